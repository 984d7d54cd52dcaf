import PyProof.Rows.All
import Wide.All
import OpenK.AllK
import Wide.FinOn
import PySem.Challenge.RW_to0046_01
set_option Elab.async false
set_option rowWalk.seconds 0
open PySem PySem.W PySem.Spec PySem.Calls PyProof.Rows
namespace Mine
section HK_
open PySem PySem.W PySem.Calls PyProof.Rows
/-- a def's parameters, body and scope, by its place -/
noncomputable def dIn : List Stmt → Nat → Arguments × List Stmt × Scope
  | .FunctionDef _ a b _ _ _ s _ _ _ :: _, 0 => (a, b, s)
  | _ :: r, n + 1 => dIn r n
  | _, _ => (⟨[], [], none, [], [], none, []⟩, [], ⟨.function, [], false, false, []⟩)
noncomputable def cIn : List Stmt → Nat → List Stmt
  | .ClassDef _ _ _ b _ _ _ _ _ _ _ :: _, 0 => b
  | _ :: r, n + 1 => cIn r n
  | _, _ => []
noncomputable abbrev dAt (i : Nat) := dIn PySem.Challenge.pw_to0046_01.main.body i
noncomputable abbrev mAt (i : Nat) := dIn (cIn PySem.Challenge.pw_to0046_01.main.body 15) i
noncomputable abbrev hP (P : Params) (x : String) : Int := PyData.keyHash P (.ofString x)
noncomputable abbrev fnO (d : Arguments × List Stmt × Scope) (name qual : String) (dV kV : Value) (pm : String) (pt : Tok) (cd : Value) : Obj :=
  ⟨.type "function", none, .func (fnOf (.ofString name) (.ofString qual) d.1 d.2.1 d.2.2 dV kV .none (.str (.ofString pm) pt) none cd .none), #[]⟩
set_option maxRecDepth 100000 in
/-- the written part: what the top leaves, each def by its place in the text (three keys of the run's notes bear a word that may not stand in a text: its first sign is written by its number) -/
noncomputable def KP : Params → Frag := fun P =>
(nat_lit 2, ⟨.none, none, (.dict #[⟨hP P "\x69mport.loaded._sre", (.str (.ofString "\x69mport.loaded._sre") 183), (.bool true)⟩, ⟨hP P "class._frozen_importlib.BuiltinImporter", (.str (.ofString "class._frozen_importlib.BuiltinImporter") 185), (.ref 14)⟩, ⟨hP P "watched.\x69mport", (.str (.ofString "watched.\x69mport") 206), (.ref 18)⟩, ⟨hP P "class._frozen_importlib.ModuleSpec", (.str (.ofString "class._frozen_importlib.ModuleSpec") 216), (.ref 22)⟩, ⟨hP P "sys.modules.booked-epoch", (.str (.ofString "sys.modules.booked-epoch") 245), (.int 3 0)⟩, ⟨hP P "\x69mport.later-laid._sre", (.str (.ofString "\x69mport.later-laid._sre") 270), (.bool true)⟩, ⟨hP P "watched.library", (.str (.ofString "watched.library") 272), (.ref 27)⟩, ⟨hP P "watched.library-objects", (.str (.ofString "watched.library-objects") 0), (.str (.ofString "\x0c") 0)⟩, ⟨hP P "watched.library-deep._sre", (.str (.ofString "watched.library-deep._sre") 273), (.str (.ofString "\x04\x00\x00\x0b\x04\x00\x00\x0b\x04\x00\x00\x03\x04\x00\x00\x0b\x08\x04dict\x02") 0)⟩] 9), #[]⟩) ::
(nat_lit 3, ⟨(.type "dict"), none, (.dict #[⟨hP P "__name__", (.str (.ofString "__name__") 165), (.str (.ofString "law_to0046_01") 562)⟩, ⟨hP P "__doc__", (.str (.ofString "__doc__") 166), .none⟩, ⟨hP P "__package__", (.str (.ofString "__package__") 167), .none⟩, ⟨hP P "__loader__", (.str (.ofString "__loader__") 168), (.builtin "__main__.__loader__#\x6fpaque")⟩, ⟨hP P "__spec__", (.str (.ofString "__spec__") 169), .none⟩, ⟨hP P "__annotations__", (.str (.ofString "__annotations__") 170), (.ref 6)⟩, ⟨hP P "__builtins__", (.str (.ofString "__builtins__") 171), (.ref 4)⟩, ⟨hP P "__file__", (.str (.ofString "__file__") 173), (.str (.ofString "/claim/cut.py") 172)⟩, ⟨hP P "__cached__", (.str (.ofString "__cached__") 174), .none⟩, ⟨hP P "_sre", (.str (.ofString "_sre") 275), (.ref 12)⟩, ⟨hP P "_wall", (.str (.ofString "_wall") 288), (.ref 38)⟩, ⟨hP P "_MOVE_COST", (.str (.ofString "_MOVE_COST") 292), (.int 2 291)⟩, ⟨hP P "_CASE_COST", (.str (.ofString "_CASE_COST") 294), (.int 1 293)⟩, ⟨hP P "_substitution_cost", (.str (.ofString "_substitution_cost") 302), (.ref 45)⟩, ⟨hP P "insort_left", (.str (.ofString "insort_left") 317), (.ref 54)⟩, ⟨hP P "bisect_left", (.str (.ofString "bisect_left") 331), (.ref 63)⟩, ⟨hP P "ENDMARKER", (.str (.ofString "ENDMARKER") 335), (.int 0 334)⟩, ⟨hP P "ISEOF", (.str (.ofString "ISEOF") 342), (.ref 70)⟩, ⟨hP P "_name_disallowed_re", (.str (.ofString "_name_disallowed_re") 370), (.ref 75)⟩, ⟨hP P "_value_disallowed_re", (.str (.ofString "_value_disallowed_re") 404), (.ref 80)⟩, ⟨hP P "Headers", (.str (.ofString "Headers") 561), (.ref 203)⟩, ⟨hP P "_law_added", (.str (.ofString "_law_added") 569), (.ref 212)⟩, ⟨hP P "_law_name", (.str (.ofString "_law_name") 575), (.ref 217)⟩, ⟨hP P "_law_start", (.str (.ofString "_law_start") 585), (.ref 224)⟩, ⟨hP P "_law_turned", (.str (.ofString "_law_turned") 591), (.ref 229)⟩, ⟨hP P "_law_spoilt", (.str (.ofString "_law_spoilt") 604), (.ref 236)⟩, ⟨hP P "_law_settled", (.str (.ofString "_law_settled") 618), (.ref 243)⟩, ⟨hP P "_law_numbers", (.str (.ofString "_law_numbers") 624), (.ref 248)⟩, ⟨hP P "_law_reached", (.str (.ofString "_law_reached") 630), (.ref 253)⟩, ⟨hP P "_law_whole", (.str (.ofString "_law_whole") 636), (.ref 258)⟩, ⟨hP P "_law_faces", (.str (.ofString "_law_faces") 642), (.ref 263)⟩, ⟨hP P "_law_three", (.str (.ofString "_law_three") 652), (.ref 270)⟩, ⟨hP P "_law_volume", (.str (.ofString "_law_volume") 665), (.ref 277)⟩, ⟨hP P "law", (.str (.ofString "law") 671), (.ref 282)⟩] 34), #[]⟩) ::
(nat_lit 32, ⟨(.type "tuple"), none, (.seq #[] 0), #[]⟩) ::
(nat_lit 34, ⟨(.type "tuple"), none, (.seq #[(.str (.ofString "k") 285)] 0), #[]⟩) ::
(nat_lit 35, ⟨(.type "tuple"), none, (.seq #[] 0), #[]⟩) ::
(nat_lit 37, ⟨(.type "code"), none, (.fields #[(.str (.ofString "_wall") 282), (.str (.ofString "_wall") 283), (.str (.ofString "/claim/cut.py") 284), (.int 2 0), (.int 1 0), (.int 0 0), (.int 0 0), (.int 3 0), (.ref 32), (.bool true), (.int 276 0), (.ref 33), .none, (.ref 34), (.ref 35), (.ref 36), (.int 286 0), (.int 2 0), (.str (.ofString "/claim/cut.py") 287)]), #[]⟩) ::
(nat_lit 38, fnO (dAt 1) "_wall" "_wall" .none .none "__main__" 164 (.ref 37)) ::
(nat_lit 39, ⟨(.type "tuple"), none, (.seq #[] 0), #[]⟩) ::
(nat_lit 41, ⟨(.type "tuple"), none, (.seq #[(.str (.ofString "ch_a") 298), (.str (.ofString "ch_b") 299)] 0), #[]⟩) ::
(nat_lit 42, ⟨(.type "tuple"), none, (.seq #[] 0), #[]⟩) ::
(nat_lit 44, ⟨(.type "code"), none, (.fields #[(.str (.ofString "_substitution_cost") 295), (.str (.ofString "_substitution_cost") 296), (.str (.ofString "/claim/cut.py") 297), (.int 8 0), (.int 2 0), (.int 0 0), (.int 0 0), (.int 3 0), (.ref 39), (.bool true), (.int 276 0), (.ref 40), .none, (.ref 41), (.ref 42), (.ref 43), (.int 300 0), (.int 8 0), (.str (.ofString "/claim/cut.py") 301)]), #[]⟩) ::
(nat_lit 45, fnO (dAt 5) "_substitution_cost" "_substitution_cost" .none .none "cpy313.traceback" 289 (.ref 44)) ::
(nat_lit 46, ⟨(.type "tuple"), none, (.seq #[(.int 0 305), .none] 0), #[]⟩) ::
(nat_lit 47, ⟨(.type "dict"), none, (.dict #[⟨hP P "key", (.str (.ofString "key") 306), .none⟩] 1), #[]⟩) ::
(nat_lit 48, ⟨(.type "tuple"), none, (.seq #[] 0), #[]⟩) ::
(nat_lit 50, ⟨(.type "tuple"), none, (.seq #[(.str (.ofString "a") 310), (.str (.ofString "x") 311), (.str (.ofString "lo") 312), (.str (.ofString "hi") 313), (.str (.ofString "key") 314)] 0), #[]⟩) ::
(nat_lit 51, ⟨(.type "tuple"), none, (.seq #[] 0), #[]⟩) ::
(nat_lit 53, ⟨(.type "code"), none, (.fields #[(.str (.ofString "insort_left") 307), (.str (.ofString "insort_left") 308), (.str (.ofString "/claim/cut.py") 309), (.int 15 0), (.int 4 0), (.int 0 0), (.int 1 0), (.int 3 0), (.ref 48), (.bool true), (.int 276 0), (.ref 49), .none, (.ref 50), (.ref 51), (.ref 52), (.int 315 0), (.int 15 0), (.str (.ofString "/claim/cut.py") 316)]), #[]⟩) ::
(nat_lit 54, fnO (dAt 7) "insort_left" "insort_left" (.ref 46) (.ref 47) "cpy313.bisect" 303 (.ref 53)) ::
(nat_lit 55, ⟨(.type "tuple"), none, (.seq #[(.int 0 318), .none] 0), #[]⟩) ::
(nat_lit 56, ⟨(.type "dict"), none, (.dict #[⟨hP P "key", (.str (.ofString "key") 319), .none⟩] 1), #[]⟩) ::
(nat_lit 57, ⟨(.type "tuple"), none, (.seq #[] 0), #[]⟩) ::
(nat_lit 59, ⟨(.type "tuple"), none, (.seq #[(.str (.ofString "a") 323), (.str (.ofString "x") 324), (.str (.ofString "lo") 325), (.str (.ofString "hi") 326), (.str (.ofString "key") 327), (.str (.ofString "mid") 328)] 0), #[]⟩) ::
(nat_lit 60, ⟨(.type "tuple"), none, (.seq #[] 0), #[]⟩) ::
(nat_lit 62, ⟨(.type "code"), none, (.fields #[(.str (.ofString "bisect_left") 320), (.str (.ofString "bisect_left") 321), (.str (.ofString "/claim/cut.py") 322), (.int 21 0), (.int 4 0), (.int 0 0), (.int 1 0), (.int 3 0), (.ref 57), (.bool true), (.int 276 0), (.ref 58), .none, (.ref 59), (.ref 60), (.ref 61), (.int 329 0), (.int 21 0), (.str (.ofString "/claim/cut.py") 330)]), #[]⟩) ::
(nat_lit 63, fnO (dAt 8) "bisect_left" "bisect_left" (.ref 55) (.ref 56) "cpy313.bisect" 303 (.ref 62)) ::
(nat_lit 64, ⟨(.type "tuple"), none, (.seq #[] 0), #[]⟩) ::
(nat_lit 66, ⟨(.type "tuple"), none, (.seq #[(.str (.ofString "x") 339)] 0), #[]⟩) ::
(nat_lit 67, ⟨(.type "tuple"), none, (.seq #[] 0), #[]⟩) ::
(nat_lit 69, ⟨(.type "code"), none, (.fields #[(.str (.ofString "ISEOF") 336), (.str (.ofString "ISEOF") 337), (.str (.ofString "/claim/cut.py") 338), (.int 43 0), (.int 1 0), (.int 0 0), (.int 0 0), (.int 3 0), (.ref 64), (.bool true), (.int 276 0), (.ref 65), .none, (.ref 66), (.ref 67), (.ref 68), (.int 340 0), (.int 43 0), (.str (.ofString "/claim/cut.py") 341)]), #[]⟩) ::
(nat_lit 70, fnO (dAt 11) "ISEOF" "ISEOF" .none .none "cpy313.token" 332 (.ref 69)) ::
(nat_lit 74, ⟨(.type "tuple"), none, (.seq #[(.int 14 0), (.int 10 0), (.int 4 0), (.int 1 0), (.int 1 0), (.int 22 0), (.int 0 0), (.int 31 0), (.int 16 0), (.int 127 0), (.int 0 0), (.int 13 0), (.int 7 0), (.int 22 0), (.int 0 0), (.int 31 0), (.int 16 0), (.int 127 0), (.int 0 0), (.int 1 0)] 0), #[]⟩) ::
(nat_lit 75, ⟨(.type "re.Pattern"), none, (.fields #[(.str (.ofString "[\\x00-\\x1F\\x7F]") 346), (.int 32 369), (.int 0 0), .none, .none, (.ref 74), (.int 0 0)]), #[]⟩) ::
(nat_lit 79, ⟨(.type "tuple"), none, (.seq #[(.int 14 0), (.int 14 0), (.int 4 0), (.int 1 0), (.int 1 0), (.int 9 0), (.int 4294966783 0), (.int 0 0), (.int 0 0), (.int 2147483648 0), (.int 0 0), (.int 0 0), (.int 0 0), (.int 0 0), (.int 0 0), (.int 13 0), (.int 11 0), (.int 9 0), (.int 4294966783 0), (.int 0 0), (.int 0 0), (.int 2147483648 0), (.int 0 0), (.int 0 0), (.int 0 0), (.int 0 0), (.int 0 0), (.int 1 0)] 0), #[]⟩) ::
(nat_lit 80, ⟨(.type "re.Pattern"), none, (.fields #[(.str (.ofString "[\\x00-\\x08\\x0A-\\x1F\\x7F]") 372), (.int 32 403), (.int 0 0), .none, .none, (.ref 79), (.int 0 0)]), #[]⟩) ::
(nat_lit 88, ⟨(.type "tuple"), none, (.seq #[.none] 0), #[]⟩) ::
(nat_lit 89, ⟨(.type "tuple"), none, (.seq #[] 0), #[]⟩) ::
(nat_lit 91, ⟨(.type "tuple"), none, (.seq #[(.str (.ofString "self") 420), (.str (.ofString "headers") 421), (.str (.ofString "k") 422), (.str (.ofString "v") 423)] 0), #[]⟩) ::
(nat_lit 92, ⟨(.type "tuple"), none, (.seq #[] 0), #[]⟩) ::
(nat_lit 94, ⟨(.type "code"), none, (.fields #[(.str (.ofString "__init__") 417), (.str (.ofString "Headers.__init__") 418), (.str (.ofString "/claim/cut.py") 419), (.int 50 0), (.int 2 0), (.int 0 0), (.int 0 0), (.int 3 0), (.ref 89), (.bool true), (.int 276 0), (.ref 90), .none, (.ref 91), (.ref 92), (.ref 93), (.int 424 0), (.int 50 0), (.str (.ofString "/claim/cut.py") 425)]), #[]⟩) ::
(nat_lit 95, fnO (mAt 0) "__init__" "Headers.__init__" (.ref 88) .none "cpy313.wsgiref.headers" 343 (.ref 94)) ::
(nat_lit 96, ⟨(.type "tuple"), none, (.seq #[] 0), #[]⟩) ::
(nat_lit 98, ⟨(.type "tuple"), none, (.seq #[(.str (.ofString "self") 430), (.str (.ofString "value") 431), (.str (.ofString "name") 432), (.str (.ofString "regex") 433)] 0), #[]⟩) ::
(nat_lit 99, ⟨(.type "tuple"), none, (.seq #[] 0), #[]⟩) ::
(nat_lit 101, ⟨(.type "code"), none, (.fields #[(.str (.ofString "_convert_string_type") 427), (.str (.ofString "Headers._convert_string_type") 428), (.str (.ofString "/claim/cut.py") 429), (.int 60 0), (.int 2 0), (.int 0 0), (.int 1 0), (.int 3 0), (.ref 96), (.bool true), (.int 276 0), (.ref 97), .none, (.ref 98), (.ref 99), (.ref 100), (.int 434 0), (.int 60 0), (.str (.ofString "/claim/cut.py") 435)]), #[]⟩) ::
(nat_lit 102, fnO (mAt 1) "_convert_string_type" "Headers._convert_string_type" .none .none "cpy313.wsgiref.headers" 343 (.ref 101)) ::
(nat_lit 103, ⟨(.type "tuple"), none, (.seq #[] 0), #[]⟩) ::
(nat_lit 105, ⟨(.type "tuple"), none, (.seq #[(.str (.ofString "self") 440)] 0), #[]⟩) ::
(nat_lit 106, ⟨(.type "tuple"), none, (.seq #[] 0), #[]⟩) ::
(nat_lit 108, ⟨(.type "code"), none, (.fields #[(.str (.ofString "__len__") 437), (.str (.ofString "Headers.__len__") 438), (.str (.ofString "/claim/cut.py") 439), (.int 68 0), (.int 1 0), (.int 0 0), (.int 0 0), (.int 3 0), (.ref 103), (.bool true), (.int 276 0), (.ref 104), .none, (.ref 105), (.ref 106), (.ref 107), (.int 441 0), (.int 68 0), (.str (.ofString "/claim/cut.py") 442)]), #[]⟩) ::
(nat_lit 109, fnO (mAt 2) "__len__" "Headers.__len__" .none .none "cpy313.wsgiref.headers" 343 (.ref 108)) ::
(nat_lit 110, ⟨(.type "tuple"), none, (.seq #[] 0), #[]⟩) ::
(nat_lit 112, ⟨(.type "tuple"), none, (.seq #[(.str (.ofString "self") 447), (.str (.ofString "name") 448), (.str (.ofString "val") 449)] 0), #[]⟩) ::
(nat_lit 113, ⟨(.type "tuple"), none, (.seq #[] 0), #[]⟩) ::
(nat_lit 115, ⟨(.type "code"), none, (.fields #[(.str (.ofString "__setitem__") 444), (.str (.ofString "Headers.__setitem__") 445), (.str (.ofString "/claim/cut.py") 446), (.int 71 0), (.int 3 0), (.int 0 0), (.int 0 0), (.int 3 0), (.ref 110), (.bool true), (.int 276 0), (.ref 111), .none, (.ref 112), (.ref 113), (.ref 114), (.int 450 0), (.int 71 0), (.str (.ofString "/claim/cut.py") 451)]), #[]⟩) ::
(nat_lit 116, fnO (mAt 3) "__setitem__" "Headers.__setitem__" .none .none "cpy313.wsgiref.headers" 343 (.ref 115)) ::
(nat_lit 117, ⟨(.type "tuple"), none, (.seq #[] 0), #[]⟩) ::
(nat_lit 120, ⟨(.type "code"), none, (.fields #[(.str (.ofString "__delitem__") 453), (.str (.ofString "Headers.__delitem__") 454), (.str (.ofString "/claim/cut.py") 455), (.int 75 0), (.int 2 0), (.int 0 0), (.int 0 0), (.int 3 0), (.ref 117), (.bool true), (.int 276 0), (.ref 118), .none, .none, .none, (.ref 119), (.int 456 0), (.int 75 0), (.str (.ofString "/claim/cut.py") 457)]), #[]⟩) ::
(nat_lit 121, fnO (mAt 4) "__delitem__" "Headers.__delitem__" .none .none "cpy313.wsgiref.headers" 343 (.ref 120)) ::
(nat_lit 122, ⟨(.type "tuple"), none, (.seq #[] 0), #[]⟩) ::
(nat_lit 124, ⟨(.type "tuple"), none, (.seq #[(.str (.ofString "self") 462), (.str (.ofString "name") 463)] 0), #[]⟩) ::
(nat_lit 125, ⟨(.type "tuple"), none, (.seq #[] 0), #[]⟩) ::
(nat_lit 127, ⟨(.type "code"), none, (.fields #[(.str (.ofString "__getitem__") 459), (.str (.ofString "Headers.__getitem__") 460), (.str (.ofString "/claim/cut.py") 461), (.int 79 0), (.int 2 0), (.int 0 0), (.int 0 0), (.int 3 0), (.ref 122), (.bool true), (.int 276 0), (.ref 123), .none, (.ref 124), (.ref 125), (.ref 126), (.int 464 0), (.int 79 0), (.str (.ofString "/claim/cut.py") 465)]), #[]⟩) ::
(nat_lit 128, fnO (mAt 5) "__getitem__" "Headers.__getitem__" .none .none "cpy313.wsgiref.headers" 343 (.ref 127)) ::
(nat_lit 129, ⟨(.type "tuple"), none, (.seq #[] 0), #[]⟩) ::
(nat_lit 131, ⟨(.type "tuple"), none, (.seq #[(.str (.ofString "self") 470), (.str (.ofString "name") 471)] 0), #[]⟩) ::
(nat_lit 132, ⟨(.type "tuple"), none, (.seq #[] 0), #[]⟩) ::
(nat_lit 134, ⟨(.type "code"), none, (.fields #[(.str (.ofString "__contains__") 467), (.str (.ofString "Headers.__contains__") 468), (.str (.ofString "/claim/cut.py") 469), (.int 82 0), (.int 2 0), (.int 0 0), (.int 0 0), (.int 3 0), (.ref 129), (.bool true), (.int 276 0), (.ref 130), .none, (.ref 131), (.ref 132), (.ref 133), (.int 472 0), (.int 82 0), (.str (.ofString "/claim/cut.py") 473)]), #[]⟩) ::
(nat_lit 135, fnO (mAt 6) "__contains__" "Headers.__contains__" .none .none "cpy313.wsgiref.headers" 343 (.ref 134)) ::
(nat_lit 136, ⟨(.type "tuple"), none, (.seq #[] 0), #[]⟩) ::
(nat_lit 138, ⟨(.type "tuple"), none, (.seq #[(.str (.ofString "self") 478), (.str (.ofString "name") 479)] 0), #[]⟩) ::
(nat_lit 139, ⟨(.type "tuple"), none, (.seq #[] 0), #[]⟩) ::
(nat_lit 141, ⟨(.type "code"), none, (.fields #[(.str (.ofString "get_all") 475), (.str (.ofString "Headers.get_all") 476), (.str (.ofString "/claim/cut.py") 477), (.int 85 0), (.int 2 0), (.int 0 0), (.int 0 0), (.int 3 0), (.ref 136), (.bool true), (.int 276 0), (.ref 137), .none, (.ref 138), (.ref 139), (.ref 140), (.int 480 0), (.int 85 0), (.str (.ofString "/claim/cut.py") 481)]), #[]⟩) ::
(nat_lit 142, fnO (mAt 7) "get_all" "Headers.get_all" .none .none "cpy313.wsgiref.headers" 343 (.ref 141)) ::
(nat_lit 143, ⟨(.type "tuple"), none, (.seq #[.none] 0), #[]⟩) ::
(nat_lit 144, ⟨(.type "tuple"), none, (.seq #[] 0), #[]⟩) ::
(nat_lit 146, ⟨(.type "tuple"), none, (.seq #[(.str (.ofString "self") 486), (.str (.ofString "name") 487), (.str (.ofString "default") 488), (.str (.ofString "k") 489), (.str (.ofString "v") 490)] 0), #[]⟩) ::
(nat_lit 147, ⟨(.type "tuple"), none, (.seq #[] 0), #[]⟩) ::
(nat_lit 149, ⟨(.type "code"), none, (.fields #[(.str (.ofString "get") 483), (.str (.ofString "Headers.get") 484), (.str (.ofString "/claim/cut.py") 485), (.int 88 0), (.int 3 0), (.int 0 0), (.int 0 0), (.int 3 0), (.ref 144), (.bool true), (.int 276 0), (.ref 145), .none, (.ref 146), (.ref 147), (.ref 148), (.int 491 0), (.int 88 0), (.str (.ofString "/claim/cut.py") 492)]), #[]⟩) ::
(nat_lit 150, fnO (mAt 8) "get" "Headers.get" (.ref 143) .none "cpy313.wsgiref.headers" 343 (.ref 149)) ::
(nat_lit 151, ⟨(.type "tuple"), none, (.seq #[] 0), #[]⟩) ::
(nat_lit 154, ⟨(.type "code"), none, (.fields #[(.str (.ofString "keys") 494), (.str (.ofString "Headers.keys") 495), (.str (.ofString "/claim/cut.py") 496), (.int 95 0), (.int 1 0), (.int 0 0), (.int 0 0), (.int 3 0), (.ref 151), (.bool true), (.int 276 0), (.ref 152), .none, .none, .none, (.ref 153), (.int 497 0), (.int 95 0), (.str (.ofString "/claim/cut.py") 498)]), #[]⟩) ::
(nat_lit 155, fnO (mAt 9) "keys" "Headers.keys" .none .none "cpy313.wsgiref.headers" 343 (.ref 154)) ::
(nat_lit 156, ⟨(.type "tuple"), none, (.seq #[] 0), #[]⟩) ::
(nat_lit 159, ⟨(.type "code"), none, (.fields #[(.str (.ofString "values") 500), (.str (.ofString "Headers.values") 501), (.str (.ofString "/claim/cut.py") 502), (.int 98 0), (.int 1 0), (.int 0 0), (.int 0 0), (.int 3 0), (.ref 156), (.bool true), (.int 276 0), (.ref 157), .none, .none, .none, (.ref 158), (.int 503 0), (.int 98 0), (.str (.ofString "/claim/cut.py") 504)]), #[]⟩) ::
(nat_lit 160, fnO (mAt 10) "values" "Headers.values" .none .none "cpy313.wsgiref.headers" 343 (.ref 159)) ::
(nat_lit 161, ⟨(.type "tuple"), none, (.seq #[] 0), #[]⟩) ::
(nat_lit 163, ⟨(.type "tuple"), none, (.seq #[(.str (.ofString "self") 509)] 0), #[]⟩) ::
(nat_lit 164, ⟨(.type "tuple"), none, (.seq #[] 0), #[]⟩) ::
(nat_lit 166, ⟨(.type "code"), none, (.fields #[(.str (.ofString "items") 506), (.str (.ofString "Headers.items") 507), (.str (.ofString "/claim/cut.py") 508), (.int 101 0), (.int 1 0), (.int 0 0), (.int 0 0), (.int 3 0), (.ref 161), (.bool true), (.int 276 0), (.ref 162), .none, (.ref 163), (.ref 164), (.ref 165), (.int 510 0), (.int 101 0), (.str (.ofString "/claim/cut.py") 511)]), #[]⟩) ::
(nat_lit 167, fnO (mAt 11) "items" "Headers.items" .none .none "cpy313.wsgiref.headers" 343 (.ref 166)) ::
(nat_lit 168, ⟨(.type "tuple"), none, (.seq #[] 0), #[]⟩) ::
(nat_lit 170, ⟨(.type "tuple"), none, (.seq #[(.str (.ofString "self") 516)] 0), #[]⟩) ::
(nat_lit 171, ⟨(.type "tuple"), none, (.seq #[] 0), #[]⟩) ::
(nat_lit 173, ⟨(.type "code"), none, (.fields #[(.str (.ofString "__repr__") 513), (.str (.ofString "Headers.__repr__") 514), (.str (.ofString "/claim/cut.py") 515), (.int 104 0), (.int 1 0), (.int 0 0), (.int 0 0), (.int 3 0), (.ref 168), (.bool true), (.int 276 0), (.ref 169), .none, (.ref 170), (.ref 171), (.ref 172), (.int 517 0), (.int 104 0), (.str (.ofString "/claim/cut.py") 518)]), #[]⟩) ::
(nat_lit 174, fnO (mAt 12) "__repr__" "Headers.__repr__" .none .none "cpy313.wsgiref.headers" 343 (.ref 173)) ::
(nat_lit 175, ⟨(.type "tuple"), none, (.seq #[] 0), #[]⟩) ::
(nat_lit 178, ⟨(.type "code"), none, (.fields #[(.str (.ofString "__str__") 520), (.str (.ofString "Headers.__str__") 521), (.str (.ofString "/claim/cut.py") 522), (.int 107 0), (.int 1 0), (.int 0 0), (.int 0 0), (.int 3 0), (.ref 175), (.bool true), (.int 276 0), (.ref 176), .none, .none, .none, (.ref 177), (.int 523 0), (.int 107 0), (.str (.ofString "/claim/cut.py") 524)]), #[]⟩) ::
(nat_lit 179, fnO (mAt 13) "__str__" "Headers.__str__" .none .none "cpy313.wsgiref.headers" 343 (.ref 178)) ::
(nat_lit 180, ⟨(.type "tuple"), none, (.seq #[] 0), #[]⟩) ::
(nat_lit 182, ⟨(.type "tuple"), none, (.seq #[(.str (.ofString "self") 529)] 0), #[]⟩) ::
(nat_lit 183, ⟨(.type "tuple"), none, (.seq #[] 0), #[]⟩) ::
(nat_lit 185, ⟨(.type "code"), none, (.fields #[(.str (.ofString "__bytes__") 526), (.str (.ofString "Headers.__bytes__") 527), (.str (.ofString "/claim/cut.py") 528), (.int 110 0), (.int 1 0), (.int 0 0), (.int 0 0), (.int 3 0), (.ref 180), (.bool true), (.int 276 0), (.ref 181), .none, (.ref 182), (.ref 183), (.ref 184), (.int 530 0), (.int 110 0), (.str (.ofString "/claim/cut.py") 531)]), #[]⟩) ::
(nat_lit 186, fnO (mAt 14) "__bytes__" "Headers.__bytes__" .none .none "cpy313.wsgiref.headers" 343 (.ref 185)) ::
(nat_lit 187, ⟨(.type "tuple"), none, (.seq #[] 0), #[]⟩) ::
(nat_lit 189, ⟨(.type "tuple"), none, (.seq #[(.str (.ofString "self") 536), (.str (.ofString "name") 537), (.str (.ofString "value") 538), (.str (.ofString "result") 539)] 0), #[]⟩) ::
(nat_lit 190, ⟨(.type "tuple"), none, (.seq #[] 0), #[]⟩) ::
(nat_lit 192, ⟨(.type "code"), none, (.fields #[(.str (.ofString "setdefault") 533), (.str (.ofString "Headers.setdefault") 534), (.str (.ofString "/claim/cut.py") 535), (.int 113 0), (.int 3 0), (.int 0 0), (.int 0 0), (.int 3 0), (.ref 187), (.bool true), (.int 276 0), (.ref 188), .none, (.ref 189), (.ref 190), (.ref 191), (.int 540 0), (.int 113 0), (.str (.ofString "/claim/cut.py") 541)]), #[]⟩) ::
(nat_lit 193, fnO (mAt 15) "setdefault" "Headers.setdefault" .none .none "cpy313.wsgiref.headers" 343 (.ref 192)) ::
(nat_lit 194, ⟨(.type "tuple"), none, (.seq #[] 0), #[]⟩) ::
(nat_lit 196, ⟨(.type "tuple"), none, (.seq #[(.str (.ofString "self") 546), (.str (.ofString "_name") 547), (.str (.ofString "_value") 548), (.str (.ofString "_params") 549)] 0), #[]⟩) ::
(nat_lit 197, ⟨(.type "tuple"), none, (.seq #[] 0), #[]⟩) ::
(nat_lit 199, ⟨(.type "code"), none, (.fields #[(.str (.ofString "add_header") 543), (.str (.ofString "Headers.add_header") 544), (.str (.ofString "/claim/cut.py") 545), (.int 121 0), (.int 3 0), (.int 0 0), (.int 0 0), (.int 11 0), (.ref 194), (.bool true), (.int 276 0), (.ref 195), .none, (.ref 196), (.ref 197), (.ref 198), (.int 550 0), (.int 121 0), (.str (.ofString "/claim/cut.py") 551)]), #[]⟩) ::
(nat_lit 200, fnO (mAt 16) "add_header" "Headers.add_header" .none .none "cpy313.wsgiref.headers" 343 (.ref 199)) ::
(nat_lit 201, ⟨(.type "tuple"), none, (.seq #[(.str (.ofString "_headers") 553)] 0), #[]⟩) ::
(nat_lit 202, ⟨(.type "dict"), none, (.dict #[⟨hP P "__module__", (.str (.ofString "__module__") 412), (.str (.ofString "cpy313.wsgiref.headers") 343)⟩, ⟨hP P "__firstlineno__", (.str (.ofString "__firstlineno__") 416), (.int 48 415)⟩, ⟨hP P "__init__", (.str (.ofString "__init__") 426), (.ref 95)⟩, ⟨hP P "_convert_string_type", (.str (.ofString "_convert_string_type") 436), (.ref 102)⟩, ⟨hP P "__len__", (.str (.ofString "__len__") 443), (.ref 109)⟩, ⟨hP P "__setitem__", (.str (.ofString "__setitem__") 452), (.ref 116)⟩, ⟨hP P "__delitem__", (.str (.ofString "__delitem__") 458), (.ref 121)⟩, ⟨hP P "__getitem__", (.str (.ofString "__getitem__") 466), (.ref 128)⟩, ⟨hP P "__contains__", (.str (.ofString "__contains__") 474), (.ref 135)⟩, ⟨hP P "get_all", (.str (.ofString "get_all") 482), (.ref 142)⟩, ⟨hP P "get", (.str (.ofString "get") 493), (.ref 150)⟩, ⟨hP P "keys", (.str (.ofString "keys") 499), (.ref 155)⟩, ⟨hP P "values", (.str (.ofString "values") 505), (.ref 160)⟩, ⟨hP P "items", (.str (.ofString "items") 512), (.ref 167)⟩, ⟨hP P "__repr__", (.str (.ofString "__repr__") 519), (.ref 174)⟩, ⟨hP P "__str__", (.str (.ofString "__str__") 525), (.ref 179)⟩, ⟨hP P "__bytes__", (.str (.ofString "__bytes__") 532), (.ref 186)⟩, ⟨hP P "setdefault", (.str (.ofString "setdefault") 542), (.ref 193)⟩, ⟨hP P "add_header", (.str (.ofString "add_header") 552), (.ref 200)⟩, ⟨hP P "__static_attributes__", (.str (.ofString "__static_attributes__") 554), (.ref 201)⟩, ⟨hP P "__dict__", (.str (.ofString "__dict__") 556), (.ref 204)⟩, ⟨hP P "__weakref__", (.str (.ofString "__weakref__") 558), (.ref 205)⟩, ⟨hP P "__doc__", (.str (.ofString "__doc__") 559), .none⟩] 4), #[]⟩) ::
(nat_lit 203, ⟨(.type "type"), none, (.cls ⟨(.ofString "Headers"), [(.type "object")], [(.ref 203), (.type "object")], 202, (.ofString "Headers"), true, [], [], false, none, false⟩), #[none, none, (some (.str (.ofString "Headers") 405)), (some (.str (.ofString "Headers") 413)), (some (.builtin "object.__new__")), (some (.bool true))]⟩) ::
(nat_lit 204, ⟨(.type "getset_descriptor"), none, (.fields #[(.str (.ofString "__dict__") 555), (.ref 203), (.builtin "function.__dict__"), (.builtin "function.__dict__#set")]), #[]⟩) ::
(nat_lit 205, ⟨(.type "getset_descriptor"), none, (.fields #[(.str (.ofString "__weakref__") 557), (.ref 203), (.builtin "ExceptionGroup.__weakref__"), .none]), #[]⟩) ::
(nat_lit 208, ⟨(.type "tuple"), none, (.seq #[] 0), #[]⟩) ::
(nat_lit 211, ⟨(.type "code"), none, (.fields #[(.str (.ofString "_law_added") 564), (.str (.ofString "_law_added") 565), (.str (.ofString "/claim/cut.py") 566), (.int 124 0), (.int 2 0), (.int 0 0), (.int 0 0), (.int 3 0), (.ref 208), (.bool true), (.int 276 0), (.ref 209), .none, .none, .none, (.ref 210), (.int 567 0), (.int 124 0), (.str (.ofString "/claim/cut.py") 568)]), #[]⟩) ::
(nat_lit 212, fnO (dAt 17) "_law_added" "_law_added" .none .none "law_to0046_01" 562 (.ref 211)) ::
(nat_lit 213, ⟨(.type "tuple"), none, (.seq #[] 0), #[]⟩) ::
(nat_lit 216, ⟨(.type "code"), none, (.fields #[(.str (.ofString "_law_name") 570), (.str (.ofString "_law_name") 571), (.str (.ofString "/claim/cut.py") 572), (.int 126 0), (.int 1 0), (.int 0 0), (.int 0 0), (.int 3 0), (.ref 213), (.bool true), (.int 276 0), (.ref 214), .none, .none, .none, (.ref 215), (.int 573 0), (.int 126 0), (.str (.ofString "/claim/cut.py") 574)]), #[]⟩) ::
(nat_lit 217, fnO (dAt 18) "_law_name" "_law_name" .none .none "law_to0046_01" 562 (.ref 216)) ::
(nat_lit 218, ⟨(.type "tuple"), none, (.seq #[] 0), #[]⟩) ::
(nat_lit 220, ⟨(.type "tuple"), none, (.seq #[(.str (.ofString "code") 579), (.str (.ofString "six") 580), (.str (.ofString "left") 581), (.str (.ofString "t") 582)] 0), #[]⟩) ::
(nat_lit 221, ⟨(.type "tuple"), none, (.seq #[] 0), #[]⟩) ::
(nat_lit 223, ⟨(.type "code"), none, (.fields #[(.str (.ofString "_law_start") 576), (.str (.ofString "_law_start") 577), (.str (.ofString "/claim/cut.py") 578), (.int 128 0), (.int 1 0), (.int 0 0), (.int 0 0), (.int 3 0), (.ref 218), (.bool true), (.int 276 0), (.ref 219), .none, (.ref 220), (.ref 221), (.ref 222), (.int 583 0), (.int 128 0), (.str (.ofString "/claim/cut.py") 584)]), #[]⟩) ::
(nat_lit 224, fnO (dAt 19) "_law_start" "_law_start" .none .none "law_to0046_01" 562 (.ref 223)) ::
(nat_lit 225, ⟨(.type "tuple"), none, (.seq #[] 0), #[]⟩) ::
(nat_lit 228, ⟨(.type "code"), none, (.fields #[(.str (.ofString "_law_turned") 586), (.str (.ofString "_law_turned") 587), (.str (.ofString "/claim/cut.py") 588), (.int 135 0), (.int 4 0), (.int 0 0), (.int 0 0), (.int 3 0), (.ref 225), (.bool true), (.int 276 0), (.ref 226), .none, .none, .none, (.ref 227), (.int 589 0), (.int 135 0), (.str (.ofString "/claim/cut.py") 590)]), #[]⟩) ::
(nat_lit 229, fnO (dAt 20) "_law_turned" "_law_turned" .none .none "law_to0046_01" 562 (.ref 228)) ::
(nat_lit 230, ⟨(.type "tuple"), none, (.seq #[] 0), #[]⟩) ::
(nat_lit 232, ⟨(.type "tuple"), none, (.seq #[(.str (.ofString "start") 595), (.str (.ofString "born") 596), (.str (.ofString "code") 597), (.str (.ofString "six") 598), (.str (.ofString "words") 599), (.str (.ofString "k") 600), (.str (.ofString "draw") 601)] 0), #[]⟩) ::
(nat_lit 233, ⟨(.type "tuple"), none, (.seq #[] 0), #[]⟩) ::
(nat_lit 235, ⟨(.type "code"), none, (.fields #[(.str (.ofString "_law_spoilt") 592), (.str (.ofString "_law_spoilt") 593), (.str (.ofString "/claim/cut.py") 594), (.int 150 0), (.int 3 0), (.int 0 0), (.int 0 0), (.int 3 0), (.ref 230), (.bool true), (.int 276 0), (.ref 231), .none, (.ref 232), (.ref 233), (.ref 234), (.int 602 0), (.int 150 0), (.str (.ofString "/claim/cut.py") 603)]), #[]⟩) ::
(nat_lit 236, fnO (dAt 21) "_law_spoilt" "_law_spoilt" .none .none "law_to0046_01" 562 (.ref 235)) ::
(nat_lit 237, ⟨(.type "tuple"), none, (.seq #[] 0), #[]⟩) ::
(nat_lit 239, ⟨(.type "tuple"), none, (.seq #[(.str (.ofString "wild") 608), (.str (.ofString "moved") 609), (.str (.ofString "order") 610), (.str (.ofString "six") 611), (.str (.ofString "words") 612), (.str (.ofString "left") 613), (.str (.ofString "row") 614), (.str (.ofString "t") 615)] 0), #[]⟩) ::
(nat_lit 240, ⟨(.type "tuple"), none, (.seq #[] 0), #[]⟩) ::
(nat_lit 242, ⟨(.type "code"), none, (.fields #[(.str (.ofString "_law_settled") 605), (.str (.ofString "_law_settled") 606), (.str (.ofString "/claim/cut.py") 607), (.int 156 0), (.int 3 0), (.int 0 0), (.int 0 0), (.int 3 0), (.ref 237), (.bool true), (.int 276 0), (.ref 238), .none, (.ref 239), (.ref 240), (.ref 241), (.int 616 0), (.int 156 0), (.str (.ofString "/claim/cut.py") 617)]), #[]⟩) ::
(nat_lit 243, fnO (dAt 22) "_law_settled" "_law_settled" .none .none "law_to0046_01" 562 (.ref 242)) ::
(nat_lit 244, ⟨(.type "tuple"), none, (.seq #[] 0), #[]⟩) ::
(nat_lit 247, ⟨(.type "code"), none, (.fields #[(.str (.ofString "_law_numbers") 619), (.str (.ofString "_law_numbers") 620), (.str (.ofString "/claim/cut.py") 621), (.int 167 0), (.int 2 0), (.int 0 0), (.int 0 0), (.int 3 0), (.ref 244), (.bool true), (.int 276 0), (.ref 245), .none, .none, .none, (.ref 246), (.int 622 0), (.int 167 0), (.str (.ofString "/claim/cut.py") 623)]), #[]⟩) ::
(nat_lit 248, fnO (dAt 23) "_law_numbers" "_law_numbers" .none .none "law_to0046_01" 562 (.ref 247)) ::
(nat_lit 249, ⟨(.type "tuple"), none, (.seq #[] 0), #[]⟩) ::
(nat_lit 252, ⟨(.type "code"), none, (.fields #[(.str (.ofString "_law_reached") 625), (.str (.ofString "_law_reached") 626), (.str (.ofString "/claim/cut.py") 627), (.int 173 0), (.int 4 0), (.int 0 0), (.int 0 0), (.int 3 0), (.ref 249), (.bool true), (.int 276 0), (.ref 250), .none, .none, .none, (.ref 251), (.int 628 0), (.int 173 0), (.str (.ofString "/claim/cut.py") 629)]), #[]⟩) ::
(nat_lit 253, fnO (dAt 24) "_law_reached" "_law_reached" .none .none "law_to0046_01" 562 (.ref 252)) ::
(nat_lit 254, ⟨(.type "tuple"), none, (.seq #[] 0), #[]⟩) ::
(nat_lit 257, ⟨(.type "code"), none, (.fields #[(.str (.ofString "_law_whole") 631), (.str (.ofString "_law_whole") 632), (.str (.ofString "/claim/cut.py") 633), (.int 181 0), (.int 1 0), (.int 0 0), (.int 0 0), (.int 3 0), (.ref 254), (.bool true), (.int 276 0), (.ref 255), .none, .none, .none, (.ref 256), (.int 634 0), (.int 181 0), (.str (.ofString "/claim/cut.py") 635)]), #[]⟩) ::
(nat_lit 258, fnO (dAt 25) "_law_whole" "_law_whole" .none .none "law_to0046_01" 562 (.ref 257)) ::
(nat_lit 259, ⟨(.type "tuple"), none, (.seq #[] 0), #[]⟩) ::
(nat_lit 262, ⟨(.type "code"), none, (.fields #[(.str (.ofString "_law_faces") 637), (.str (.ofString "_law_faces") 638), (.str (.ofString "/claim/cut.py") 639), (.int 183 0), (.int 1 0), (.int 0 0), (.int 0 0), (.int 3 0), (.ref 259), (.bool true), (.int 276 0), (.ref 260), .none, .none, .none, (.ref 261), (.int 640 0), (.int 183 0), (.str (.ofString "/claim/cut.py") 641)]), #[]⟩) ::
(nat_lit 263, fnO (dAt 26) "_law_faces" "_law_faces" .none .none "law_to0046_01" 562 (.ref 262)) ::
(nat_lit 264, ⟨(.type "tuple"), none, (.seq #[] 0), #[]⟩) ::
(nat_lit 266, ⟨(.type "tuple"), none, (.seq #[(.str (.ofString "least") 646), (.str (.ofString "row") 647), (.str (.ofString "s") 648), (.str (.ofString "third") 649)] 0), #[]⟩) ::
(nat_lit 267, ⟨(.type "tuple"), none, (.seq #[] 0), #[]⟩) ::
(nat_lit 269, ⟨(.type "code"), none, (.fields #[(.str (.ofString "_law_three") 643), (.str (.ofString "_law_three") 644), (.str (.ofString "/claim/cut.py") 645), (.int 188 0), (.int 1 0), (.int 0 0), (.int 0 0), (.int 3 0), (.ref 264), (.bool true), (.int 276 0), (.ref 265), .none, (.ref 266), (.ref 267), (.ref 268), (.int 650 0), (.int 188 0), (.str (.ofString "/claim/cut.py") 651)]), #[]⟩) ::
(nat_lit 270, fnO (dAt 27) "_law_three" "_law_three" .none .none "law_to0046_01" 562 (.ref 269)) ::
(nat_lit 271, ⟨(.type "tuple"), none, (.seq #[] 0), #[]⟩) ::
(nat_lit 273, ⟨(.type "tuple"), none, (.seq #[(.str (.ofString "six") 656), (.str (.ofString "a") 657), (.str (.ofString "b") 658), (.str (.ofString "c") 659), (.str (.ofString "x") 660), (.str (.ofString "y") 661), (.str (.ofString "z") 662)] 0), #[]⟩) ::
(nat_lit 274, ⟨(.type "tuple"), none, (.seq #[] 0), #[]⟩) ::
(nat_lit 276, ⟨(.type "code"), none, (.fields #[(.str (.ofString "_law_volume") 653), (.str (.ofString "_law_volume") 654), (.str (.ofString "/claim/cut.py") 655), (.int 194 0), (.int 1 0), (.int 0 0), (.int 0 0), (.int 3 0), (.ref 271), (.bool true), (.int 276 0), (.ref 272), .none, (.ref 273), (.ref 274), (.ref 275), (.int 663 0), (.int 194 0), (.str (.ofString "/claim/cut.py") 664)]), #[]⟩) ::
(nat_lit 277, fnO (dAt 28) "_law_volume" "_law_volume" .none .none "law_to0046_01" 562 (.ref 276)) ::
(nat_lit 278, ⟨(.type "tuple"), none, (.seq #[] 0), #[]⟩) ::
(nat_lit 281, ⟨(.type "code"), none, (.fields #[(.str (.ofString "law") 666), (.str (.ofString "law") 667), (.str (.ofString "/claim/cut.py") 668), (.int 198 0), (.int 1 0), (.int 0 0), (.int 0 0), (.int 3 0), (.ref 278), (.bool true), (.int 276 0), (.ref 279), .none, .none, .none, (.ref 280), (.int 669 0), (.int 198 0), (.str (.ofString "/claim/cut.py") 670)]), #[]⟩) ::
(nat_lit 282, fnO (dAt 29) "law" "law" .none .none "law_to0046_01" 562 (.ref 281)) :: []
noncomputable def addrs : List Addr := 2 :: 3 :: 32 :: 34 :: 35 :: 37 :: 38 :: 39 :: 41 :: 42 :: 44 :: 45 :: 46 :: 47 :: 48 :: 50 :: 51 :: 53 :: 54 :: 55 :: 56 :: 57 :: 59 :: 60 :: 62 :: 63 :: 64 :: 66 :: 67 :: 69 :: 70 :: 74 :: 75 :: 79 :: 80 :: 88 :: 89 :: 91 :: 92 :: 94 :: 95 :: 96 :: 98 :: 99 :: 101 :: 102 :: 103 :: 105 :: 106 :: 108 :: 109 :: 110 :: 112 :: 113 :: 115 :: 116 :: 117 :: 120 :: 121 :: 122 :: 124 :: 125 :: 127 :: 128 :: 129 :: 131 :: 132 :: 134 :: 135 :: 136 :: 138 :: 139 :: 141 :: 142 :: 143 :: 144 :: 146 :: 147 :: 149 :: 150 :: 151 :: 154 :: 155 :: 156 :: 159 :: 160 :: 161 :: 163 :: 164 :: 166 :: 167 :: 168 :: 170 :: 171 :: 173 :: 174 :: 175 :: 178 :: 179 :: 180 :: 182 :: 183 :: 185 :: 186 :: 187 :: 189 :: 190 :: 192 :: 193 :: 194 :: 196 :: 197 :: 199 :: 200 :: 201 :: 202 :: 203 :: 204 :: 205 :: 208 :: 211 :: 212 :: 213 :: 216 :: 217 :: 218 :: 220 :: 221 :: 223 :: 224 :: 225 :: 228 :: 229 :: 230 :: 232 :: 233 :: 235 :: 236 :: 237 :: 239 :: 240 :: 242 :: 243 :: 244 :: 247 :: 248 :: 249 :: 252 :: 253 :: 254 :: 257 :: 258 :: 259 :: 262 :: 263 :: 264 :: 266 :: 267 :: 269 :: 270 :: 271 :: 273 :: 274 :: 276 :: 277 :: 278 :: 281 :: 282 :: []
end HK_
section HP_
open PySem PySem.W PySem.Calls PyProof.Rows
/- the top's run in five pieces: each object is written once, each def by its place in the text -/
set_option maxRecDepth 100000
noncomputable def z0 (P : Params) : Obj := ⟨(.type "dict"), none, (.dict (List.toArray (⟨(PyData.keyHash P (.mk #[95, 95, 110, 97, 109, 101, 95, 95])), (.str (.mk #[95, 95, 110, 97, 109, 101, 95, 95]) 1), (.str (.mk #[98, 117, 105, 108, 116, 105, 110, 115]) 160)⟩ :: ⟨(PyData.keyHash P (.mk #[95, 95, 100, 111, 99, 95, 95])), (.str (.mk #[95, 95, 100, 111, 99, 95, 95]) 2), (.builtin "builtins.__doc__:str#\x6fpaque")⟩ :: ⟨(PyData.keyHash P (.mk #[95, 95, 112, 97, 99, 107, 97, 103, 101, 95, 95])), (.str (.mk #[95, 95, 112, 97, 99, 107, 97, 103, 101, 95, 95]) 3), (.builtin "builtins.__package__:str#\x6fpaque")⟩ :: ⟨(PyData.keyHash P (.mk #[95, 95, 108, 111, 97, 100, 101, 114, 95, 95])), (.str (.mk #[95, 95, 108, 111, 97, 100, 101, 114, 95, 95]) 4), (.builtin "builtins.__loader__:shared#\x6fpaque")⟩ :: ⟨(PyData.keyHash P (.mk #[95, 95, 115, 112, 101, 99, 95, 95])), (.str (.mk #[95, 95, 115, 112, 101, 99, 95, 95]) 5), (.builtin "builtins.__spec__#\x6fpaque")⟩ :: ⟨(PyData.keyHash P (.mk #[95, 95, 98, 117, 105, 108, 100, 95, 99, 108, 97, 115, 115, 95, 95])), (.str (.mk #[95, 95, 98, 117, 105, 108, 100, 95, 99, 108, 97, 115, 115, 95, 95]) 6), (.builtin "__build_class__")⟩ :: ⟨(PyData.keyHash P (.mk #[95, 95, 105, 109, 112, 111, 114, 116, 95, 95])), (.str (.mk #[95, 95, 105, 109, 112, 111, 114, 116, 95, 95]) 7), (.builtin "__import__")⟩ :: ⟨(PyData.keyHash P (.mk #[97, 98, 115])), (.str (.mk #[97, 98, 115]) 8), (.builtin "abs")⟩ :: ⟨(PyData.keyHash P (.mk #[97, 108, 108])), (.str (.mk #[97, 108, 108]) 9), (.builtin "all")⟩ :: ⟨(PyData.keyHash P (.mk #[97, 110, 121])), (.str (.mk #[97, 110, 121]) 10), (.builtin "any")⟩ :: ⟨(PyData.keyHash P (.mk #[97, 115, 99, 105, 105])), (.str (.mk #[97, 115, 99, 105, 105]) 11), (.builtin "ascii")⟩ :: ⟨(PyData.keyHash P (.mk #[98, 105, 110])), (.str (.mk #[98, 105, 110]) 12), (.builtin "bin")⟩ :: ⟨(PyData.keyHash P (.mk #[98, 114, 101, 97, 107, 112, 111, 105, 110, 116])), (.str (.mk #[98, 114, 101, 97, 107, 112, 111, 105, 110, 116]) 13), (.builtin "breakpoint")⟩ :: ⟨(PyData.keyHash P (.mk #[99, 97, 108, 108, 97, 98, 108, 101])), (.str (.mk #[99, 97, 108, 108, 97, 98, 108, 101]) 14), (.builtin "callable")⟩ :: ⟨(PyData.keyHash P (.mk #[99, 104, 114])), (.str (.mk #[99, 104, 114]) 15), (.builtin "chr")⟩ :: ⟨(PyData.keyHash P (.mk #[99, 111, 109, 112, 105, 108, 101])), (.str (.mk #[99, 111, 109, 112, 105, 108, 101]) 16), (.builtin "compile")⟩ :: ⟨(PyData.keyHash P (.mk #[100, 101, 108, 97, 116, 116, 114])), (.str (.mk #[100, 101, 108, 97, 116, 116, 114]) 17), (.builtin "delattr")⟩ :: ⟨(PyData.keyHash P (.mk #[100, 105, 114])), (.str (.mk #[100, 105, 114]) 18), (.builtin "dir")⟩ :: ⟨(PyData.keyHash P (.mk #[100, 105, 118, 109, 111, 100])), (.str (.mk #[100, 105, 118, 109, 111, 100]) 19), (.builtin "divmod")⟩ :: ⟨(PyData.keyHash P (.mk #[101, 118, 97, 108])), (.str (.mk #[101, 118, 97, 108]) 20), (.builtin "eval")⟩ :: ⟨(PyData.keyHash P (.mk #[101, 120, 101, 99])), (.str (.mk #[101, 120, 101, 99]) 21), (.builtin "exec")⟩ :: ⟨(PyData.keyHash P (.mk #[102, 111, 114, 109, 97, 116])), (.str (.mk #[102, 111, 114, 109, 97, 116]) 22), (.builtin "format")⟩ :: ⟨(PyData.keyHash P (.mk #[103, 101, 116, 97, 116, 116, 114])), (.str (.mk #[103, 101, 116, 97, 116, 116, 114]) 23), (.builtin "getattr")⟩ :: ⟨(PyData.keyHash P (.mk #[103, 108, 111, 98, 97, 108, 115])), (.str (.mk #[103, 108, 111, 98, 97, 108, 115]) 24), (.builtin "globals")⟩ :: ⟨(PyData.keyHash P (.mk #[104, 97, 115, 97, 116, 116, 114])), (.str (.mk #[104, 97, 115, 97, 116, 116, 114]) 25), (.builtin "hasattr")⟩ :: ⟨(PyData.keyHash P (.mk #[104, 97, 115, 104])), (.str (.mk #[104, 97, 115, 104]) 26), (.builtin "hash")⟩ :: ⟨(PyData.keyHash P (.mk #[104, 101, 120])), (.str (.mk #[104, 101, 120]) 27), (.builtin "hex")⟩ :: ⟨(PyData.keyHash P (.mk #[105, 100])), (.str (.mk #[105, 100]) 28), (.builtin "id")⟩ :: ⟨(PyData.keyHash P (.mk #[105, 110, 112, 117, 116])), (.str (.mk #[105, 110, 112, 117, 116]) 29), (.builtin "input")⟩ :: ⟨(PyData.keyHash P (.mk #[105, 115, 105, 110, 115, 116, 97, 110, 99, 101])), (.str (.mk #[105, 115, 105, 110, 115, 116, 97, 110, 99, 101]) 30), (.builtin "isinstance")⟩ :: ⟨(PyData.keyHash P (.mk #[105, 115, 115, 117, 98, 99, 108, 97, 115, 115])), (.str (.mk #[105, 115, 115, 117, 98, 99, 108, 97, 115, 115]) 31), (.builtin "issubclass")⟩ :: ⟨(PyData.keyHash P (.mk #[105, 116, 101, 114])), (.str (.mk #[105, 116, 101, 114]) 32), (.builtin "iter")⟩ :: ⟨(PyData.keyHash P (.mk #[97, 105, 116, 101, 114])), (.str (.mk #[97, 105, 116, 101, 114]) 33), (.builtin "aiter")⟩ :: ⟨(PyData.keyHash P (.mk #[108, 101, 110])), (.str (.mk #[108, 101, 110]) 34), (.builtin "len")⟩ :: ⟨(PyData.keyHash P (.mk #[108, 111, 99, 97, 108, 115])), (.str (.mk #[108, 111, 99, 97, 108, 115]) 35), (.builtin "locals")⟩ :: ⟨(PyData.keyHash P (.mk #[109, 97, 120])), (.str (.mk #[109, 97, 120]) 36), (.builtin "max")⟩ :: ⟨(PyData.keyHash P (.mk #[109, 105, 110])), (.str (.mk #[109, 105, 110]) 37), (.builtin "min")⟩ :: ⟨(PyData.keyHash P (.mk #[110, 101, 120, 116])), (.str (.mk #[110, 101, 120, 116]) 38), (.builtin "next")⟩ :: ⟨(PyData.keyHash P (.mk #[97, 110, 101, 120, 116])), (.str (.mk #[97, 110, 101, 120, 116]) 39), (.builtin "anext")⟩ :: ⟨(PyData.keyHash P (.mk #[111, 99, 116])), (.str (.mk #[111, 99, 116]) 40), (.builtin "oct")⟩ :: ⟨(PyData.keyHash P (.mk #[111, 114, 100])), (.str (.mk #[111, 114, 100]) 41), (.builtin "ord")⟩ :: ⟨(PyData.keyHash P (.mk #[112, 111, 119])), (.str (.mk #[112, 111, 119]) 42), (.builtin "pow")⟩ :: ⟨(PyData.keyHash P (.mk #[112, 114, 105, 110, 116])), (.str (.mk #[112, 114, 105, 110, 116]) 43), (.builtin "print")⟩ :: ⟨(PyData.keyHash P (.mk #[114, 101, 112, 114])), (.str (.mk #[114, 101, 112, 114]) 44), (.builtin "repr")⟩ :: ⟨(PyData.keyHash P (.mk #[114, 111, 117, 110, 100])), (.str (.mk #[114, 111, 117, 110, 100]) 45), (.builtin "round")⟩ :: ⟨(PyData.keyHash P (.mk #[115, 101, 116, 97, 116, 116, 114])), (.str (.mk #[115, 101, 116, 97, 116, 116, 114]) 46), (.builtin "setattr")⟩ :: ⟨(PyData.keyHash P (.mk #[115, 111, 114, 116, 101, 100])), (.str (.mk #[115, 111, 114, 116, 101, 100]) 47), (.builtin "sorted")⟩ :: ⟨(PyData.keyHash P (.mk #[115, 117, 109])), (.str (.mk #[115, 117, 109]) 48), (.builtin "sum")⟩ :: ⟨(PyData.keyHash P (.mk #[118, 97, 114, 115])), (.str (.mk #[118, 97, 114, 115]) 49), (.builtin "vars")⟩ :: ⟨(PyData.keyHash P (.mk #[78, 111, 110, 101])), (.str (.mk #[78, 111, 110, 101]) 50), .none⟩ :: ⟨(PyData.keyHash P (.mk #[69, 108, 108, 105, 112, 115, 105, 115])), (.str (.mk #[69, 108, 108, 105, 112, 115, 105, 115]) 51), .ellipsis⟩ :: ⟨(PyData.keyHash P (.mk #[78, 111, 116, 73, 109, 112, 108, 101, 109, 101, 110, 116, 101, 100])), (.str (.mk #[78, 111, 116, 73, 109, 112, 108, 101, 109, 101, 110, 116, 101, 100]) 52), .notImplemented⟩ :: ⟨(PyData.keyHash P (.mk #[70, 97, 108, 115, 101])), (.str (.mk #[70, 97, 108, 115, 101]) 53), (.bool false)⟩ :: ⟨(PyData.keyHash P (.mk #[84, 114, 117, 101])), (.str (.mk #[84, 114, 117, 101]) 54), (.bool true)⟩ :: ⟨(PyData.keyHash P (.mk #[98, 111, 111, 108])), (.str (.mk #[98, 111, 111, 108]) 55), (.type "bool")⟩ :: ⟨(PyData.keyHash P (.mk #[109, 101, 109, 111, 114, 121, 118, 105, 101, 119])), (.str (.mk #[109, 101, 109, 111, 114, 121, 118, 105, 101, 119]) 56), (.type "memoryview")⟩ :: ⟨(PyData.keyHash P (.mk #[98, 121, 116, 101, 97, 114, 114, 97, 121])), (.str (.mk #[98, 121, 116, 101, 97, 114, 114, 97, 121]) 57), (.type "bytearray")⟩ :: ⟨(PyData.keyHash P (.mk #[98, 121, 116, 101, 115])), (.str (.mk #[98, 121, 116, 101, 115]) 58), (.type "bytes")⟩ :: ⟨(PyData.keyHash P (.mk #[99, 108, 97, 115, 115, 109, 101, 116, 104, 111, 100])), (.str (.mk #[99, 108, 97, 115, 115, 109, 101, 116, 104, 111, 100]) 59), (.type "classmethod")⟩ :: ⟨(PyData.keyHash P (.mk #[99, 111, 109, 112, 108, 101, 120])), (.str (.mk #[99, 111, 109, 112, 108, 101, 120]) 60), (.type "complex")⟩ :: ⟨(PyData.keyHash P (.mk #[100, 105, 99, 116])), (.str (.mk #[100, 105, 99, 116]) 61), (.type "dict")⟩ :: ⟨(PyData.keyHash P (.mk #[101, 110, 117, 109, 101, 114, 97, 116, 101])), (.str (.mk #[101, 110, 117, 109, 101, 114, 97, 116, 101]) 62), (.type "enumerate")⟩ :: ⟨(PyData.keyHash P (.mk #[102, 105, 108, 116, 101, 114])), (.str (.mk #[102, 105, 108, 116, 101, 114]) 63), (.type "filter")⟩ :: ⟨(PyData.keyHash P (.mk #[102, 108, 111, 97, 116])), (.str (.mk #[102, 108, 111, 97, 116]) 64), (.type "float")⟩ :: ⟨(PyData.keyHash P (.mk #[102, 114, 111, 122, 101, 110, 115, 101, 116])), (.str (.mk #[102, 114, 111, 122, 101, 110, 115, 101, 116]) 65), (.type "frozenset")⟩ :: ⟨(PyData.keyHash P (.mk #[112, 114, 111, 112, 101, 114, 116, 121])), (.str (.mk #[112, 114, 111, 112, 101, 114, 116, 121]) 66), (.type "property")⟩ :: ⟨(PyData.keyHash P (.mk #[105, 110, 116])), (.str (.mk #[105, 110, 116]) 67), (.type "int")⟩ :: ⟨(PyData.keyHash P (.mk #[108, 105, 115, 116])), (.str (.mk #[108, 105, 115, 116]) 68), (.type "list")⟩ :: ⟨(PyData.keyHash P (.mk #[109, 97, 112])), (.str (.mk #[109, 97, 112]) 69), (.type "map")⟩ :: ⟨(PyData.keyHash P (.mk #[111, 98, 106, 101, 99, 116])), (.str (.mk #[111, 98, 106, 101, 99, 116]) 70), (.type "object")⟩ :: ⟨(PyData.keyHash P (.mk #[114, 97, 110, 103, 101])), (.str (.mk #[114, 97, 110, 103, 101]) 71), (.type "range")⟩ :: ⟨(PyData.keyHash P (.mk #[114, 101, 118, 101, 114, 115, 101, 100])), (.str (.mk #[114, 101, 118, 101, 114, 115, 101, 100]) 72), (.type "reversed")⟩ :: ⟨(PyData.keyHash P (.mk #[115, 101, 116])), (.str (.mk #[115, 101, 116]) 73), (.type "set")⟩ :: ⟨(PyData.keyHash P (.mk #[115, 108, 105, 99, 101])), (.str (.mk #[115, 108, 105, 99, 101]) 74), (.type "slice")⟩ :: ⟨(PyData.keyHash P (.mk #[115, 116, 97, 116, 105, 99, 109, 101, 116, 104, 111, 100])), (.str (.mk #[115, 116, 97, 116, 105, 99, 109, 101, 116, 104, 111, 100]) 75), (.type "staticmethod")⟩ :: ⟨(PyData.keyHash P (.mk #[115, 116, 114])), (.str (.mk #[115, 116, 114]) 76), (.type "str")⟩ :: ⟨(PyData.keyHash P (.mk #[115, 117, 112, 101, 114])), (.str (.mk #[115, 117, 112, 101, 114]) 77), (.type "super")⟩ :: ⟨(PyData.keyHash P (.mk #[116, 117, 112, 108, 101])), (.str (.mk #[116, 117, 112, 108, 101]) 78), (.type "tuple")⟩ :: ⟨(PyData.keyHash P (.mk #[116, 121, 112, 101])), (.str (.mk #[116, 121, 112, 101]) 79), (.type "type")⟩ :: ⟨(PyData.keyHash P (.mk #[122, 105, 112])), (.str (.mk #[122, 105, 112]) 80), (.type "zip")⟩ :: ⟨(PyData.keyHash P (.mk #[95, 95, 100, 101, 98, 117, 103, 95, 95])), (.str (.mk #[95, 95, 100, 101, 98, 117, 103, 95, 95]) 81), (.bool true)⟩ :: ⟨(PyData.keyHash P (.mk #[66, 97, 115, 101, 69, 120, 99, 101, 112, 116, 105, 111, 110])), (.str (.mk #[66, 97, 115, 101, 69, 120, 99, 101, 112, 116, 105, 111, 110]) 82), (.type "BaseException")⟩ :: ⟨(PyData.keyHash P (.mk #[66, 97, 115, 101, 69, 120, 99, 101, 112, 116, 105, 111, 110, 71, 114, 111, 117, 112])), (.str (.mk #[66, 97, 115, 101, 69, 120, 99, 101, 112, 116, 105, 111, 110, 71, 114, 111, 117, 112]) 83), (.type "BaseExceptionGroup")⟩ :: ⟨(PyData.keyHash P (.mk #[69, 120, 99, 101, 112, 116, 105, 111, 110])), (.str (.mk #[69, 120, 99, 101, 112, 116, 105, 111, 110]) 84), (.type "Exception")⟩ :: ⟨(PyData.keyHash P (.mk #[71, 101, 110, 101, 114, 97, 116, 111, 114, 69, 120, 105, 116])), (.str (.mk #[71, 101, 110, 101, 114, 97, 116, 111, 114, 69, 120, 105, 116]) 85), (.type "GeneratorExit")⟩ :: ⟨(PyData.keyHash P (.mk #[75, 101, 121, 98, 111, 97, 114, 100, 73, 110, 116, 101, 114, 114, 117, 112, 116])), (.str (.mk #[75, 101, 121, 98, 111, 97, 114, 100, 73, 110, 116, 101, 114, 114, 117, 112, 116]) 86), (.type "KeyboardInterrupt")⟩ :: ⟨(PyData.keyHash P (.mk #[83, 121, 115, 116, 101, 109, 69, 120, 105, 116])), (.str (.mk #[83, 121, 115, 116, 101, 109, 69, 120, 105, 116]) 87), (.type "SystemExit")⟩ :: ⟨(PyData.keyHash P (.mk #[65, 114, 105, 116, 104, 109, 101, 116, 105, 99, 69, 114, 114, 111, 114])), (.str (.mk #[65, 114, 105, 116, 104, 109, 101, 116, 105, 99, 69, 114, 114, 111, 114]) 88), (.type "ArithmeticError")⟩ :: ⟨(PyData.keyHash P (.mk #[65, 115, 115, 101, 114, 116, 105, 111, 110, 69, 114, 114, 111, 114])), (.str (.mk #[65, 115, 115, 101, 114, 116, 105, 111, 110, 69, 114, 114, 111, 114]) 89), (.type "AssertionError")⟩ :: ⟨(PyData.keyHash P (.mk #[65, 116, 116, 114, 105, 98, 117, 116, 101, 69, 114, 114, 111, 114])), (.str (.mk #[65, 116, 116, 114, 105, 98, 117, 116, 101, 69, 114, 114, 111, 114]) 90), (.type "AttributeError")⟩ :: ⟨(PyData.keyHash P (.mk #[66, 117, 102, 102, 101, 114, 69, 114, 114, 111, 114])), (.str (.mk #[66, 117, 102, 102, 101, 114, 69, 114, 114, 111, 114]) 91), (.type "BufferError")⟩ :: ⟨(PyData.keyHash P (.mk #[69, 79, 70, 69, 114, 114, 111, 114])), (.str (.mk #[69, 79, 70, 69, 114, 114, 111, 114]) 92), (.type "EOFError")⟩ :: ⟨(PyData.keyHash P (.mk #[73, 109, 112, 111, 114, 116, 69, 114, 114, 111, 114])), (.str (.mk #[73, 109, 112, 111, 114, 116, 69, 114, 114, 111, 114]) 93), (.type "ImportError")⟩ :: ⟨(PyData.keyHash P (.mk #[76, 111, 111, 107, 117, 112, 69, 114, 114, 111, 114])), (.str (.mk #[76, 111, 111, 107, 117, 112, 69, 114, 114, 111, 114]) 94), (.type "LookupError")⟩ :: ⟨(PyData.keyHash P (.mk #[77, 101, 109, 111, 114, 121, 69, 114, 114, 111, 114])), (.str (.mk #[77, 101, 109, 111, 114, 121, 69, 114, 114, 111, 114]) 95), (.type "MemoryError")⟩ :: ⟨(PyData.keyHash P (.mk #[78, 97, 109, 101, 69, 114, 114, 111, 114])), (.str (.mk #[78, 97, 109, 101, 69, 114, 114, 111, 114]) 96), (.type "NameError")⟩ :: ⟨(PyData.keyHash P (.mk #[79, 83, 69, 114, 114, 111, 114])), (.str (.mk #[79, 83, 69, 114, 114, 111, 114]) 97), (.type "OSError")⟩ :: ⟨(PyData.keyHash P (.mk #[82, 101, 102, 101, 114, 101, 110, 99, 101, 69, 114, 114, 111, 114])), (.str (.mk #[82, 101, 102, 101, 114, 101, 110, 99, 101, 69, 114, 114, 111, 114]) 98), (.type "ReferenceError")⟩ :: ⟨(PyData.keyHash P (.mk #[82, 117, 110, 116, 105, 109, 101, 69, 114, 114, 111, 114])), (.str (.mk #[82, 117, 110, 116, 105, 109, 101, 69, 114, 114, 111, 114]) 99), (.type "RuntimeError")⟩ :: ⟨(PyData.keyHash P (.mk #[83, 116, 111, 112, 65, 115, 121, 110, 99, 73, 116, 101, 114, 97, 116, 105, 111, 110])), (.str (.mk #[83, 116, 111, 112, 65, 115, 121, 110, 99, 73, 116, 101, 114, 97, 116, 105, 111, 110]) 100), (.type "StopAsyncIteration")⟩ :: ⟨(PyData.keyHash P (.mk #[83, 116, 111, 112, 73, 116, 101, 114, 97, 116, 105, 111, 110])), (.str (.mk #[83, 116, 111, 112, 73, 116, 101, 114, 97, 116, 105, 111, 110]) 101), (.type "StopIteration")⟩ :: ⟨(PyData.keyHash P (.mk #[83, 121, 110, 116, 97, 120, 69, 114, 114, 111, 114])), (.str (.mk #[83, 121, 110, 116, 97, 120, 69, 114, 114, 111, 114]) 102), (.type "SyntaxError")⟩ :: ⟨(PyData.keyHash P (.mk #[83, 121, 115, 116, 101, 109, 69, 114, 114, 111, 114])), (.str (.mk #[83, 121, 115, 116, 101, 109, 69, 114, 114, 111, 114]) 103), (.type "SystemError")⟩ :: ⟨(PyData.keyHash P (.mk #[84, 121, 112, 101, 69, 114, 114, 111, 114])), (.str (.mk #[84, 121, 112, 101, 69, 114, 114, 111, 114]) 104), (.type "TypeError")⟩ :: ⟨(PyData.keyHash P (.mk #[86, 97, 108, 117, 101, 69, 114, 114, 111, 114])), (.str (.mk #[86, 97, 108, 117, 101, 69, 114, 114, 111, 114]) 105), (.type "ValueError")⟩ :: ⟨(PyData.keyHash P (.mk #[87, 97, 114, 110, 105, 110, 103])), (.str (.mk #[87, 97, 114, 110, 105, 110, 103]) 106), (.type "Warning")⟩ :: ⟨(PyData.keyHash P (.mk #[70, 108, 111, 97, 116, 105, 110, 103, 80, 111, 105, 110, 116, 69, 114, 114, 111, 114])), (.str (.mk #[70, 108, 111, 97, 116, 105, 110, 103, 80, 111, 105, 110, 116, 69, 114, 114, 111, 114]) 107), (.type "FloatingPointError")⟩ :: ⟨(PyData.keyHash P (.mk #[79, 118, 101, 114, 102, 108, 111, 119, 69, 114, 114, 111, 114])), (.str (.mk #[79, 118, 101, 114, 102, 108, 111, 119, 69, 114, 114, 111, 114]) 108), (.type "OverflowError")⟩ :: ⟨(PyData.keyHash P (.mk #[90, 101, 114, 111, 68, 105, 118, 105, 115, 105, 111, 110, 69, 114, 114, 111, 114])), (.str (.mk #[90, 101, 114, 111, 68, 105, 118, 105, 115, 105, 111, 110, 69, 114, 114, 111, 114]) 109), (.type "ZeroDivisionError")⟩ :: ⟨(PyData.keyHash P (.mk #[66, 121, 116, 101, 115, 87, 97, 114, 110, 105, 110, 103])), (.str (.mk #[66, 121, 116, 101, 115, 87, 97, 114, 110, 105, 110, 103]) 110), (.type "BytesWarning")⟩ :: ⟨(PyData.keyHash P (.mk #[68, 101, 112, 114, 101, 99, 97, 116, 105, 111, 110, 87, 97, 114, 110, 105, 110, 103])), (.str (.mk #[68, 101, 112, 114, 101, 99, 97, 116, 105, 111, 110, 87, 97, 114, 110, 105, 110, 103]) 111), (.type "DeprecationWarning")⟩ :: ⟨(PyData.keyHash P (.mk #[69, 110, 99, 111, 100, 105, 110, 103, 87, 97, 114, 110, 105, 110, 103])), (.str (.mk #[69, 110, 99, 111, 100, 105, 110, 103, 87, 97, 114, 110, 105, 110, 103]) 112), (.type "EncodingWarning")⟩ :: ⟨(PyData.keyHash P (.mk #[70, 117, 116, 117, 114, 101, 87, 97, 114, 110, 105, 110, 103])), (.str (.mk #[70, 117, 116, 117, 114, 101, 87, 97, 114, 110, 105, 110, 103]) 113), (.type "FutureWarning")⟩ :: ⟨(PyData.keyHash P (.mk #[73, 109, 112, 111, 114, 116, 87, 97, 114, 110, 105, 110, 103])), (.str (.mk #[73, 109, 112, 111, 114, 116, 87, 97, 114, 110, 105, 110, 103]) 114), (.type "ImportWarning")⟩ :: ⟨(PyData.keyHash P (.mk #[80, 101, 110, 100, 105, 110, 103, 68, 101, 112, 114, 101, 99, 97, 116, 105, 111, 110, 87, 97, 114, 110, 105, 110, 103])), (.str (.mk #[80, 101, 110, 100, 105, 110, 103, 68, 101, 112, 114, 101, 99, 97, 116, 105, 111, 110, 87, 97, 114, 110, 105, 110, 103]) 115), (.type "PendingDeprecationWarning")⟩ :: ⟨(PyData.keyHash P (.mk #[82, 101, 115, 111, 117, 114, 99, 101, 87, 97, 114, 110, 105, 110, 103])), (.str (.mk #[82, 101, 115, 111, 117, 114, 99, 101, 87, 97, 114, 110, 105, 110, 103]) 116), (.type "ResourceWarning")⟩ :: ⟨(PyData.keyHash P (.mk #[82, 117, 110, 116, 105, 109, 101, 87, 97, 114, 110, 105, 110, 103])), (.str (.mk #[82, 117, 110, 116, 105, 109, 101, 87, 97, 114, 110, 105, 110, 103]) 117), (.type "RuntimeWarning")⟩ :: ⟨(PyData.keyHash P (.mk #[83, 121, 110, 116, 97, 120, 87, 97, 114, 110, 105, 110, 103])), (.str (.mk #[83, 121, 110, 116, 97, 120, 87, 97, 114, 110, 105, 110, 103]) 118), (.type "SyntaxWarning")⟩ :: ⟨(PyData.keyHash P (.mk #[85, 110, 105, 99, 111, 100, 101, 87, 97, 114, 110, 105, 110, 103])), (.str (.mk #[85, 110, 105, 99, 111, 100, 101, 87, 97, 114, 110, 105, 110, 103]) 119), (.type "UnicodeWarning")⟩ :: ⟨(PyData.keyHash P (.mk #[85, 115, 101, 114, 87, 97, 114, 110, 105, 110, 103])), (.str (.mk #[85, 115, 101, 114, 87, 97, 114, 110, 105, 110, 103]) 120), (.type "UserWarning")⟩ :: ⟨(PyData.keyHash P (.mk #[66, 108, 111, 99, 107, 105, 110, 103, 73, 79, 69, 114, 114, 111, 114])), (.str (.mk #[66, 108, 111, 99, 107, 105, 110, 103, 73, 79, 69, 114, 114, 111, 114]) 121), (.type "BlockingIOError")⟩ :: ⟨(PyData.keyHash P (.mk #[67, 104, 105, 108, 100, 80, 114, 111, 99, 101, 115, 115, 69, 114, 114, 111, 114])), (.str (.mk #[67, 104, 105, 108, 100, 80, 114, 111, 99, 101, 115, 115, 69, 114, 114, 111, 114]) 122), (.type "ChildProcessError")⟩ :: ⟨(PyData.keyHash P (.mk #[67, 111, 110, 110, 101, 99, 116, 105, 111, 110, 69, 114, 114, 111, 114])), (.str (.mk #[67, 111, 110, 110, 101, 99, 116, 105, 111, 110, 69, 114, 114, 111, 114]) 123), (.type "ConnectionError")⟩ :: ⟨(PyData.keyHash P (.mk #[70, 105, 108, 101, 69, 120, 105, 115, 116, 115, 69, 114, 114, 111, 114])), (.str (.mk #[70, 105, 108, 101, 69, 120, 105, 115, 116, 115, 69, 114, 114, 111, 114]) 124), (.type "FileExistsError")⟩ :: ⟨(PyData.keyHash P (.mk #[70, 105, 108, 101, 78, 111, 116, 70, 111, 117, 110, 100, 69, 114, 114, 111, 114])), (.str (.mk #[70, 105, 108, 101, 78, 111, 116, 70, 111, 117, 110, 100, 69, 114, 114, 111, 114]) 125), (.type "FileNotFoundError")⟩ :: ⟨(PyData.keyHash P (.mk #[73, 110, 116, 101, 114, 114, 117, 112, 116, 101, 100, 69, 114, 114, 111, 114])), (.str (.mk #[73, 110, 116, 101, 114, 114, 117, 112, 116, 101, 100, 69, 114, 114, 111, 114]) 126), (.type "InterruptedError")⟩ :: ⟨(PyData.keyHash P (.mk #[73, 115, 65, 68, 105, 114, 101, 99, 116, 111, 114, 121, 69, 114, 114, 111, 114])), (.str (.mk #[73, 115, 65, 68, 105, 114, 101, 99, 116, 111, 114, 121, 69, 114, 114, 111, 114]) 127), (.type "IsADirectoryError")⟩ :: ⟨(PyData.keyHash P (.mk #[78, 111, 116, 65, 68, 105, 114, 101, 99, 116, 111, 114, 121, 69, 114, 114, 111, 114])), (.str (.mk #[78, 111, 116, 65, 68, 105, 114, 101, 99, 116, 111, 114, 121, 69, 114, 114, 111, 114]) 128), (.type "NotADirectoryError")⟩ :: ⟨(PyData.keyHash P (.mk #[80, 101, 114, 109, 105, 115, 115, 105, 111, 110, 69, 114, 114, 111, 114])), (.str (.mk #[80, 101, 114, 109, 105, 115, 115, 105, 111, 110, 69, 114, 114, 111, 114]) 129), (.type "PermissionError")⟩ :: ⟨(PyData.keyHash P (.mk #[80, 114, 111, 99, 101, 115, 115, 76, 111, 111, 107, 117, 112, 69, 114, 114, 111, 114])), (.str (.mk #[80, 114, 111, 99, 101, 115, 115, 76, 111, 111, 107, 117, 112, 69, 114, 114, 111, 114]) 130), (.type "ProcessLookupError")⟩ :: ⟨(PyData.keyHash P (.mk #[84, 105, 109, 101, 111, 117, 116, 69, 114, 114, 111, 114])), (.str (.mk #[84, 105, 109, 101, 111, 117, 116, 69, 114, 114, 111, 114]) 131), (.type "TimeoutError")⟩ :: ⟨(PyData.keyHash P (.mk #[73, 110, 100, 101, 110, 116, 97, 116, 105, 111, 110, 69, 114, 114, 111, 114])), (.str (.mk #[73, 110, 100, 101, 110, 116, 97, 116, 105, 111, 110, 69, 114, 114, 111, 114]) 132), (.type "IndentationError")⟩ :: ⟨(PyData.keyHash P (.mk #[95, 73, 110, 99, 111, 109, 112, 108, 101, 116, 101, 73, 110, 112, 117, 116, 69, 114, 114, 111, 114])), (.str (.mk #[95, 73, 110, 99, 111, 109, 112, 108, 101, 116, 101, 73, 110, 112, 117, 116, 69, 114, 114, 111, 114]) 133), (.type "_IncompleteInputError")⟩ :: ⟨(PyData.keyHash P (.mk #[73, 110, 100, 101, 120, 69, 114, 114, 111, 114])), (.str (.mk #[73, 110, 100, 101, 120, 69, 114, 114, 111, 114]) 134), (.type "IndexError")⟩ :: ⟨(PyData.keyHash P (.mk #[75, 101, 121, 69, 114, 114, 111, 114])), (.str (.mk #[75, 101, 121, 69, 114, 114, 111, 114]) 135), (.type "KeyError")⟩ :: ⟨(PyData.keyHash P (.mk #[77, 111, 100, 117, 108, 101, 78, 111, 116, 70, 111, 117, 110, 100, 69, 114, 114, 111, 114])), (.str (.mk #[77, 111, 100, 117, 108, 101, 78, 111, 116, 70, 111, 117, 110, 100, 69, 114, 114, 111, 114]) 136), (.type "ModuleNotFoundError")⟩ :: ⟨(PyData.keyHash P (.mk #[78, 111, 116, 73, 109, 112, 108, 101, 109, 101, 110, 116, 101, 100, 69, 114, 114, 111, 114])), (.str (.mk #[78, 111, 116, 73, 109, 112, 108, 101, 109, 101, 110, 116, 101, 100, 69, 114, 114, 111, 114]) 137), (.type "NotImplementedError")⟩ :: ⟨(PyData.keyHash P (.mk #[80, 121, 116, 104, 111, 110, 70, 105, 110, 97, 108, 105, 122, 97, 116, 105, 111, 110, 69, 114, 114, 111, 114])), (.str (.mk #[80, 121, 116, 104, 111, 110, 70, 105, 110, 97, 108, 105, 122, 97, 116, 105, 111, 110, 69, 114, 114, 111, 114]) 138), (.type "PythonFinalizationError")⟩ :: ⟨(PyData.keyHash P (.mk #[82, 101, 99, 117, 114, 115, 105, 111, 110, 69, 114, 114, 111, 114])), (.str (.mk #[82, 101, 99, 117, 114, 115, 105, 111, 110, 69, 114, 114, 111, 114]) 139), (.type "RecursionError")⟩ :: ⟨(PyData.keyHash P (.mk #[85, 110, 98, 111, 117, 110, 100, 76, 111, 99, 97, 108, 69, 114, 114, 111, 114])), (.str (.mk #[85, 110, 98, 111, 117, 110, 100, 76, 111, 99, 97, 108, 69, 114, 114, 111, 114]) 140), (.type "UnboundLocalError")⟩ :: ⟨(PyData.keyHash P (.mk #[85, 110, 105, 99, 111, 100, 101, 69, 114, 114, 111, 114])), (.str (.mk #[85, 110, 105, 99, 111, 100, 101, 69, 114, 114, 111, 114]) 141), (.type "UnicodeError")⟩ :: ⟨(PyData.keyHash P (.mk #[66, 114, 111, 107, 101, 110, 80, 105, 112, 101, 69, 114, 114, 111, 114])), (.str (.mk #[66, 114, 111, 107, 101, 110, 80, 105, 112, 101, 69, 114, 114, 111, 114]) 142), (.type "BrokenPipeError")⟩ :: ⟨(PyData.keyHash P (.mk #[67, 111, 110, 110, 101, 99, 116, 105, 111, 110, 65, 98, 111, 114, 116, 101, 100, 69, 114, 114, 111, 114])), (.str (.mk #[67, 111, 110, 110, 101, 99, 116, 105, 111, 110, 65, 98, 111, 114, 116, 101, 100, 69, 114, 114, 111, 114]) 143), (.type "ConnectionAbortedError")⟩ :: ⟨(PyData.keyHash P (.mk #[67, 111, 110, 110, 101, 99, 116, 105, 111, 110, 82, 101, 102, 117, 115, 101, 100, 69, 114, 114, 111, 114])), (.str (.mk #[67, 111, 110, 110, 101, 99, 116, 105, 111, 110, 82, 101, 102, 117, 115, 101, 100, 69, 114, 114, 111, 114]) 144), (.type "ConnectionRefusedError")⟩ :: ⟨(PyData.keyHash P (.mk #[67, 111, 110, 110, 101, 99, 116, 105, 111, 110, 82, 101, 115, 101, 116, 69, 114, 114, 111, 114])), (.str (.mk #[67, 111, 110, 110, 101, 99, 116, 105, 111, 110, 82, 101, 115, 101, 116, 69, 114, 114, 111, 114]) 145), (.type "ConnectionResetError")⟩ :: ⟨(PyData.keyHash P (.mk #[84, 97, 98, 69, 114, 114, 111, 114])), (.str (.mk #[84, 97, 98, 69, 114, 114, 111, 114]) 146), (.type "TabError")⟩ :: ⟨(PyData.keyHash P (.mk #[85, 110, 105, 99, 111, 100, 101, 68, 101, 99, 111, 100, 101, 69, 114, 114, 111, 114])), (.str (.mk #[85, 110, 105, 99, 111, 100, 101, 68, 101, 99, 111, 100, 101, 69, 114, 114, 111, 114]) 147), (.type "UnicodeDecodeError")⟩ :: ⟨(PyData.keyHash P (.mk #[85, 110, 105, 99, 111, 100, 101, 69, 110, 99, 111, 100, 101, 69, 114, 114, 111, 114])), (.str (.mk #[85, 110, 105, 99, 111, 100, 101, 69, 110, 99, 111, 100, 101, 69, 114, 114, 111, 114]) 148), (.type "UnicodeEncodeError")⟩ :: ⟨(PyData.keyHash P (.mk #[85, 110, 105, 99, 111, 100, 101, 84, 114, 97, 110, 115, 108, 97, 116, 101, 69, 114, 114, 111, 114])), (.str (.mk #[85, 110, 105, 99, 111, 100, 101, 84, 114, 97, 110, 115, 108, 97, 116, 101, 69, 114, 114, 111, 114]) 149), (.type "UnicodeTranslateError")⟩ :: ⟨(PyData.keyHash P (.mk #[69, 120, 99, 101, 112, 116, 105, 111, 110, 71, 114, 111, 117, 112])), (.str (.mk #[69, 120, 99, 101, 112, 116, 105, 111, 110, 71, 114, 111, 117, 112]) 150), (.type "ExceptionGroup")⟩ :: ⟨(PyData.keyHash P (.mk #[69, 110, 118, 105, 114, 111, 110, 109, 101, 110, 116, 69, 114, 114, 111, 114])), (.str (.mk #[69, 110, 118, 105, 114, 111, 110, 109, 101, 110, 116, 69, 114, 114, 111, 114]) 151), (.type "OSError")⟩ :: ⟨(PyData.keyHash P (.mk #[73, 79, 69, 114, 114, 111, 114])), (.str (.mk #[73, 79, 69, 114, 114, 111, 114]) 152), (.type "OSError")⟩ :: ⟨(PyData.keyHash P (.mk #[111, 112, 101, 110])), (.str (.mk #[111, 112, 101, 110]) 153), (.builtin "open")⟩ :: ⟨(PyData.keyHash P (.mk #[113, 117, 105, 116])), (.str (.mk #[113, 117, 105, 116]) 154), (.builtin "builtins.quit#\x6fpaque")⟩ :: ⟨(PyData.keyHash P (.mk #[101, 120, 105, 116])), (.str (.mk #[101, 120, 105, 116]) 155), (.builtin "builtins.exit#\x6fpaque")⟩ :: ⟨(PyData.keyHash P (.mk #[99, 111, 112, 121, 114, 105, 103, 104, 116])), (.str (.mk #[99, 111, 112, 121, 114, 105, 103, 104, 116]) 156), (.builtin "builtins.copyright#\x6fpaque")⟩ :: ⟨(PyData.keyHash P (.mk #[99, 114, 101, 100, 105, 116, 115])), (.str (.mk #[99, 114, 101, 100, 105, 116, 115]) 157), (.builtin "builtins.credits#\x6fpaque")⟩ :: ⟨(PyData.keyHash P (.mk #[108, 105, 99, 101, 110, 115, 101])), (.str (.mk #[108, 105, 99, 101, 110, 115, 101]) 158), (.builtin "builtins.license#\x6fpaque")⟩ :: ⟨(PyData.keyHash P (.mk #[104, 101, 108, 112])), (.str (.mk #[104, 101, 108, 112]) 159), (.builtin "builtins.help#\x6fpaque")⟩ :: [])) 159), #[]⟩
noncomputable def z1 (P : Params) : Obj := ⟨(.type "dict"), none, (.dict #[⟨(PyData.keyHash P (.mk #[98, 117, 105, 108, 116, 105, 110, 115])), (.str (.mk #[98, 117, 105, 108, 116, 105, 110, 115]) 162), (.ref 4)⟩, ⟨(PyData.keyHash P (.mk #[95, 95, 109, 97, 105, 110, 95, 95])), (.str (.mk #[95, 95, 109, 97, 105, 110, 95, 95]) 163), (.ref 5)⟩, ⟨(PyData.keyHash P (.mk #[95, 115, 114, 101])), (.str (.mk #[95, 115, 114, 101]) 244), (.ref 12)⟩] 3), #[]⟩
noncomputable def z2 (P : Params) : Obj := ⟨.none, none, (.dict #[⟨(PyData.keyHash P (.mk #[105, 109, 112, 111, 114, 116, 46, 108, 111, 97, 100, 101, 100, 46, 95, 115, 114, 101])), (.str (.mk #[105, 109, 112, 111, 114, 116, 46, 108, 111, 97, 100, 101, 100, 46, 95, 115, 114, 101]) 183), (.bool true)⟩, ⟨(PyData.keyHash P (.mk #[99, 108, 97, 115, 115, 46, 95, 102, 114, 111, 122, 101, 110, 95, 105, 109, 112, 111, 114, 116, 108, 105, 98, 46, 66, 117, 105, 108, 116, 105, 110, 73, 109, 112, 111, 114, 116, 101, 114])), (.str (.mk #[99, 108, 97, 115, 115, 46, 95, 102, 114, 111, 122, 101, 110, 95, 105, 109, 112, 111, 114, 116, 108, 105, 98, 46, 66, 117, 105, 108, 116, 105, 110, 73, 109, 112, 111, 114, 116, 101, 114]) 185), (.ref 14)⟩, ⟨(PyData.keyHash P (.mk #[119, 97, 116, 99, 104, 101, 100, 46, 105, 109, 112, 111, 114, 116])), (.str (.mk #[119, 97, 116, 99, 104, 101, 100, 46, 105, 109, 112, 111, 114, 116]) 206), (.ref 18)⟩, ⟨(PyData.keyHash P (.mk #[99, 108, 97, 115, 115, 46, 95, 102, 114, 111, 122, 101, 110, 95, 105, 109, 112, 111, 114, 116, 108, 105, 98, 46, 77, 111, 100, 117, 108, 101, 83, 112, 101, 99])), (.str (.mk #[99, 108, 97, 115, 115, 46, 95, 102, 114, 111, 122, 101, 110, 95, 105, 109, 112, 111, 114, 116, 108, 105, 98, 46, 77, 111, 100, 117, 108, 101, 83, 112, 101, 99]) 216), (.ref 22)⟩, ⟨(PyData.keyHash P (.mk #[115, 121, 115, 46, 109, 111, 100, 117, 108, 101, 115, 46, 98, 111, 111, 107, 101, 100, 45, 101, 112, 111, 99, 104])), (.str (.mk #[115, 121, 115, 46, 109, 111, 100, 117, 108, 101, 115, 46, 98, 111, 111, 107, 101, 100, 45, 101, 112, 111, 99, 104]) 245), (.int 3 0)⟩, ⟨(PyData.keyHash P (.mk #[105, 109, 112, 111, 114, 116, 46, 108, 97, 116, 101, 114, 45, 108, 97, 105, 100, 46, 95, 115, 114, 101])), (.str (.mk #[105, 109, 112, 111, 114, 116, 46, 108, 97, 116, 101, 114, 45, 108, 97, 105, 100, 46, 95, 115, 114, 101]) 270), (.bool true)⟩, ⟨(PyData.keyHash P (.mk #[119, 97, 116, 99, 104, 101, 100, 46, 108, 105, 98, 114, 97, 114, 121])), (.str (.mk #[119, 97, 116, 99, 104, 101, 100, 46, 108, 105, 98, 114, 97, 114, 121]) 272), (.ref 27)⟩, ⟨(PyData.keyHash P (.mk #[119, 97, 116, 99, 104, 101, 100, 46, 108, 105, 98, 114, 97, 114, 121, 45, 111, 98, 106, 101, 99, 116, 115])), (.str (.mk #[119, 97, 116, 99, 104, 101, 100, 46, 108, 105, 98, 114, 97, 114, 121, 45, 111, 98, 106, 101, 99, 116, 115]) 0), (.str (.mk #[12]) 0)⟩, ⟨(PyData.keyHash P (.mk #[119, 97, 116, 99, 104, 101, 100, 46, 108, 105, 98, 114, 97, 114, 121, 45, 100, 101, 101, 112, 46, 95, 115, 114, 101])), (.str (.mk #[119, 97, 116, 99, 104, 101, 100, 46, 108, 105, 98, 114, 97, 114, 121, 45, 100, 101, 101, 112, 46, 95, 115, 114, 101]) 273), (.str (.mk #[4, 0, 0, 11, 4, 0, 0, 11, 4, 0, 0, 3, 4, 0, 0, 11, 8, 4, 100, 105, 99, 116, 2]) 0)⟩] 9), #[]⟩
noncomputable def z3 (P : Params) : Obj := ⟨(.type "dict"), none, (.dict #[⟨(PyData.keyHash P (.mk #[95, 95, 110, 97, 109, 101, 95, 95])), (.str (.mk #[95, 95, 110, 97, 109, 101, 95, 95]) 165), (.str (.mk #[95, 95, 109, 97, 105, 110, 95, 95]) 164)⟩, ⟨(PyData.keyHash P (.mk #[95, 95, 100, 111, 99, 95, 95])), (.str (.mk #[95, 95, 100, 111, 99, 95, 95]) 166), .none⟩, ⟨(PyData.keyHash P (.mk #[95, 95, 112, 97, 99, 107, 97, 103, 101, 95, 95])), (.str (.mk #[95, 95, 112, 97, 99, 107, 97, 103, 101, 95, 95]) 167), .none⟩, ⟨(PyData.keyHash P (.mk #[95, 95, 108, 111, 97, 100, 101, 114, 95, 95])), (.str (.mk #[95, 95, 108, 111, 97, 100, 101, 114, 95, 95]) 168), (.builtin "__main__.__loader__#\x6fpaque")⟩, ⟨(PyData.keyHash P (.mk #[95, 95, 115, 112, 101, 99, 95, 95])), (.str (.mk #[95, 95, 115, 112, 101, 99, 95, 95]) 169), .none⟩, ⟨(PyData.keyHash P (.mk #[95, 95, 97, 110, 110, 111, 116, 97, 116, 105, 111, 110, 115, 95, 95])), (.str (.mk #[95, 95, 97, 110, 110, 111, 116, 97, 116, 105, 111, 110, 115, 95, 95]) 170), (.ref 6)⟩, ⟨(PyData.keyHash P (.mk #[95, 95, 98, 117, 105, 108, 116, 105, 110, 115, 95, 95])), (.str (.mk #[95, 95, 98, 117, 105, 108, 116, 105, 110, 115, 95, 95]) 171), (.ref 4)⟩, ⟨(PyData.keyHash P (.mk #[95, 95, 102, 105, 108, 101, 95, 95])), (.str (.mk #[95, 95, 102, 105, 108, 101, 95, 95]) 173), (.str (.mk #[47, 99, 108, 97, 105, 109, 47, 99, 117, 116, 46, 112, 121]) 172)⟩, ⟨(PyData.keyHash P (.mk #[95, 95, 99, 97, 99, 104, 101, 100, 95, 95])), (.str (.mk #[95, 95, 99, 97, 99, 104, 101, 100, 95, 95]) 174), .none⟩, ⟨(PyData.keyHash P (.mk #[95, 115, 114, 101])), (.str (.mk #[95, 115, 114, 101]) 275), (.ref 12)⟩] 10), #[]⟩
noncomputable def z4 (P : Params) : Obj := ⟨(.type "module"), (some 0), .plain, #[]⟩
noncomputable def z5 (P : Params) : Obj := ⟨(.type "module"), (some 3), .plain, #[]⟩
noncomputable def z6 (P : Params) : Obj := ⟨(.type "dict"), none, (.dict #[] 0), #[]⟩
noncomputable def z7 (P : Params) : Obj := ⟨(.type "tuple"), none, (.seq #[] 0), #[]⟩
noncomputable def z8 (P : Params) : Obj := ⟨.none, none, (.fields #[]), #[]⟩
noncomputable def z9 (P : Params) : Obj := ⟨(.type "code"), none, (.fields #[(.str (.mk #[60, 109, 111, 100, 117, 108, 101, 62]) 176), (.str (.mk #[60, 109, 111, 100, 117, 108, 101, 62]) 177), (.str (.mk #[47, 99, 108, 97, 105, 109, 47, 99, 117, 116, 46, 112, 121]) 178), (.int 1 0), (.int 0 0), (.int 0 0), (.int 0 0), (.int 0 0), (.ref 7), (.bool false), (.int 175 0), (.ref 8), .none, .none, .none, .none, (.int 179 0), (.int 1 0), (.str (.mk #[47, 99, 108, 97, 105, 109, 47, 99, 117, 116, 46, 112, 121]) 180)]), #[]⟩
noncomputable def z10 (P : Params) : Obj := ⟨(.type "frame"), none, .plain, #[(some (.ref 9)), (some (.ref 3)), (some (.ref 3)), none, (some (.str (.mk #[95, 95, 109, 97, 105, 110, 95, 95]) 164)), none, (some (.ref 0))]⟩
noncomputable def z11 (P : Params) : Obj := ⟨(.type "dict"), none, (.dict #[⟨(PyData.keyHash P (.mk #[95, 95, 110, 97, 109, 101, 95, 95])), (.str (.mk #[95, 95, 110, 97, 109, 101, 95, 95]) 247), (.str (.mk #[95, 115, 114, 101]) 246)⟩, ⟨(PyData.keyHash P (.mk #[95, 95, 100, 111, 99, 95, 95])), (.str (.mk #[95, 95, 100, 111, 99, 95, 95]) 248), .none⟩, ⟨(PyData.keyHash P (.mk #[95, 95, 112, 97, 99, 107, 97, 103, 101, 95, 95])), (.str (.mk #[95, 95, 112, 97, 99, 107, 97, 103, 101, 95, 95]) 250), (.str (.mk #[]) 249)⟩, ⟨(PyData.keyHash P (.mk #[95, 95, 108, 111, 97, 100, 101, 114, 95, 95])), (.str (.mk #[95, 95, 108, 111, 97, 100, 101, 114, 95, 95]) 251), (.builtin "off-the-table:_sre.__loader__:shared#\x6fpaque")⟩, ⟨(PyData.keyHash P (.mk #[95, 95, 115, 112, 101, 99, 95, 95])), (.str (.mk #[95, 95, 115, 112, 101, 99, 95, 95]) 252), (.builtin "off-the-table:_sre.__spec__:shared#\x6fpaque")⟩, ⟨(PyData.keyHash P (.mk #[99, 111, 109, 112, 105, 108, 101])), (.str (.mk #[99, 111, 109, 112, 105, 108, 101]) 253), (.builtin "_sre.compile")⟩, ⟨(PyData.keyHash P (.mk #[116, 101, 109, 112, 108, 97, 116, 101])), (.str (.mk #[116, 101, 109, 112, 108, 97, 116, 101]) 254), (.builtin "off-the-table:_sre.template:shared#\x6fpaque")⟩, ⟨(PyData.keyHash P (.mk #[103, 101, 116, 99, 111, 100, 101, 115, 105, 122, 101])), (.str (.mk #[103, 101, 116, 99, 111, 100, 101, 115, 105, 122, 101]) 255), (.builtin "off-the-table:_sre.getcodesize:shared#\x6fpaque")⟩, ⟨(PyData.keyHash P (.mk #[97, 115, 99, 105, 105, 95, 105, 115, 99, 97, 115, 101, 100])), (.str (.mk #[97, 115, 99, 105, 105, 95, 105, 115, 99, 97, 115, 101, 100]) 256), (.builtin "off-the-table:_sre.ascii_iscased:shared#\x6fpaque")⟩, ⟨(PyData.keyHash P (.mk #[117, 110, 105, 99, 111, 100, 101, 95, 105, 115, 99, 97, 115, 101, 100])), (.str (.mk #[117, 110, 105, 99, 111, 100, 101, 95, 105, 115, 99, 97, 115, 101, 100]) 257), (.builtin "off-the-table:_sre.unicode_iscased:shared#\x6fpaque")⟩, ⟨(PyData.keyHash P (.mk #[97, 115, 99, 105, 105, 95, 116, 111, 108, 111, 119, 101, 114])), (.str (.mk #[97, 115, 99, 105, 105, 95, 116, 111, 108, 111, 119, 101, 114]) 258), (.builtin "off-the-table:_sre.ascii_tolower:shared#\x6fpaque")⟩, ⟨(PyData.keyHash P (.mk #[117, 110, 105, 99, 111, 100, 101, 95, 116, 111, 108, 111, 119, 101, 114])), (.str (.mk #[117, 110, 105, 99, 111, 100, 101, 95, 116, 111, 108, 111, 119, 101, 114]) 259), (.builtin "off-the-table:_sre.unicode_tolower:shared#\x6fpaque")⟩, ⟨(PyData.keyHash P (.mk #[77, 65, 71, 73, 67])), (.str (.mk #[77, 65, 71, 73, 67]) 261), (.int 20230612 260)⟩, ⟨(PyData.keyHash P (.mk #[67, 79, 68, 69, 83, 73, 90, 69])), (.str (.mk #[67, 79, 68, 69, 83, 73, 90, 69]) 263), (.int 4 262)⟩, ⟨(PyData.keyHash P (.mk #[77, 65, 88, 82, 69, 80, 69, 65, 84])), (.str (.mk #[77, 65, 88, 82, 69, 80, 69, 65, 84]) 265), (.int 4294967295 264)⟩, ⟨(PyData.keyHash P (.mk #[77, 65, 88, 71, 82, 79, 85, 80, 83])), (.str (.mk #[77, 65, 88, 71, 82, 79, 85, 80, 83]) 267), (.int 1073741823 266)⟩, ⟨(PyData.keyHash P (.mk #[99, 111, 112, 121, 114, 105, 103, 104, 116])), (.str (.mk #[99, 111, 112, 121, 114, 105, 103, 104, 116]) 269), (.str (.mk #[32, 83, 82, 69, 32, 50, 46, 50, 46, 50, 32, 67, 111, 112, 121, 114, 105, 103, 104, 116, 32, 40, 99, 41, 32, 49, 57, 57, 55, 45, 50, 48, 48, 50, 32, 98, 121, 32, 83, 101, 99, 114, 101, 116, 32, 76, 97, 98, 115, 32, 65, 66, 32]) 268)⟩] 17), #[]⟩
noncomputable def z12 (P : Params) : Obj := ⟨(.type "module"), (some 11), .plain, #[]⟩
noncomputable def z13 (P : Params) : Obj := ⟨(.type "dict"), none, (.dict #[⟨(PyData.keyHash P (.mk #[95, 95, 109, 111, 100, 117, 108, 101, 95, 95])), (.str (.mk #[95, 95, 109, 111, 100, 117, 108, 101, 95, 95]) 189), (.str (.mk #[95, 102, 114, 111, 122, 101, 110, 95, 105, 109, 112, 111, 114, 116, 108, 105, 98]) 186)⟩, ⟨(PyData.keyHash P (.mk #[95, 95, 102, 105, 114, 115, 116, 108, 105, 110, 101, 110, 111, 95, 95])), (.str (.mk #[95, 95, 102, 105, 114, 115, 116, 108, 105, 110, 101, 110, 111, 95, 95]) 190), (.int 971 187)⟩, ⟨(PyData.keyHash P (.mk #[95, 95, 100, 111, 99, 95, 95])), (.str (.mk #[95, 95, 100, 111, 99, 95, 95]) 191), (.builtin "_frozen_importlib.BuiltinImporter.__doc__:str#\x6fpaque")⟩, ⟨(PyData.keyHash P (.mk #[95, 79, 82, 73, 71, 73, 78])), (.str (.mk #[95, 79, 82, 73, 71, 73, 78]) 192), (.str (.mk #[98, 117, 105, 108, 116, 45, 105, 110]) 188)⟩, ⟨(PyData.keyHash P (.mk #[102, 105, 110, 100, 95, 115, 112, 101, 99])), (.str (.mk #[102, 105, 110, 100, 95, 115, 112, 101, 99]) 193), (.builtin "_frozen_importlib.BuiltinImporter.find_spec#\x6fpaque")⟩, ⟨(PyData.keyHash P (.mk #[99, 114, 101, 97, 116, 101, 95, 109, 111, 100, 117, 108, 101])), (.str (.mk #[99, 114, 101, 97, 116, 101, 95, 109, 111, 100, 117, 108, 101]) 194), (.builtin "_frozen_importlib.BuiltinImporter.create_module#\x6fpaque")⟩, ⟨(PyData.keyHash P (.mk #[101, 120, 101, 99, 95, 109, 111, 100, 117, 108, 101])), (.str (.mk #[101, 120, 101, 99, 95, 109, 111, 100, 117, 108, 101]) 195), (.builtin "_frozen_importlib.BuiltinImporter.exec_module#\x6fpaque")⟩, ⟨(PyData.keyHash P (.mk #[103, 101, 116, 95, 99, 111, 100, 101])), (.str (.mk #[103, 101, 116, 95, 99, 111, 100, 101]) 196), (.builtin "_frozen_importlib.BuiltinImporter.get_code#\x6fpaque")⟩, ⟨(PyData.keyHash P (.mk #[103, 101, 116, 95, 115, 111, 117, 114, 99, 101])), (.str (.mk #[103, 101, 116, 95, 115, 111, 117, 114, 99, 101]) 197), (.builtin "_frozen_importlib.BuiltinImporter.get_source#\x6fpaque")⟩, ⟨(PyData.keyHash P (.mk #[105, 115, 95, 112, 97, 99, 107, 97, 103, 101])), (.str (.mk #[105, 115, 95, 112, 97, 99, 107, 97, 103, 101]) 198), (.builtin "_frozen_importlib.BuiltinImporter.is_package#\x6fpaque")⟩, ⟨(PyData.keyHash P (.mk #[108, 111, 97, 100, 95, 109, 111, 100, 117, 108, 101])), (.str (.mk #[108, 111, 97, 100, 95, 109, 111, 100, 117, 108, 101]) 199), (.builtin "_frozen_importlib.BuiltinImporter.load_module#\x6fpaque")⟩, ⟨(PyData.keyHash P (.mk #[95, 95, 115, 116, 97, 116, 105, 99, 95, 97, 116, 116, 114, 105, 98, 117, 116, 101, 115, 95, 95])), (.str (.mk #[95, 95, 115, 116, 97, 116, 105, 99, 95, 97, 116, 116, 114, 105, 98, 117, 116, 101, 115, 95, 95]) 200), (.ref 15)⟩, ⟨(PyData.keyHash P (.mk #[95, 95, 100, 105, 99, 116, 95, 95])), (.str (.mk #[95, 95, 100, 105, 99, 116, 95, 95]) 202), (.ref 16)⟩, ⟨(PyData.keyHash P (.mk #[95, 95, 119, 101, 97, 107, 114, 101, 102, 95, 95])), (.str (.mk #[95, 95, 119, 101, 97, 107, 114, 101, 102, 95, 95]) 204), (.ref 17)⟩] 14), #[]⟩
noncomputable def z14 (P : Params) : Obj := ⟨(.type "type"), none, (.cls ⟨(.mk #[66, 117, 105, 108, 116, 105, 110, 73, 109, 112, 111, 114, 116, 101, 114]), [(.type "object")], [(.ref 14), (.type "object")], 13, (.mk #[66, 117, 105, 108, 116, 105, 110, 73, 109, 112, 111, 114, 116, 101, 114]), true, [], [], false, none, false⟩), #[]⟩
noncomputable def z15 (P : Params) : Obj := ⟨(.type "tuple"), none, (.seq #[] 0), #[]⟩
noncomputable def z16 (P : Params) : Obj := ⟨(.type "getset_descriptor"), none, (.fields #[(.str (.mk #[95, 95, 100, 105, 99, 116, 95, 95]) 201), (.ref 14), (.builtin "function.__dict__"), (.builtin "function.__dict__#set")]), #[]⟩
noncomputable def z17 (P : Params) : Obj := ⟨(.type "getset_descriptor"), none, (.fields #[(.str (.mk #[95, 95, 119, 101, 97, 107, 114, 101, 102, 95, 95]) 203), (.ref 14), (.builtin "ExceptionGroup.__weakref__"), .none]), #[]⟩
noncomputable def z18 (P : Params) : Obj := ⟨.none, none, (.seq #[(.int 13 0), (.str (.mk #[6, 189, 10, 95, 95, 109, 111, 100, 117, 108, 101, 95, 95, 6, 186, 17, 95, 102, 114, 111, 122, 101, 110, 95, 105, 109, 112, 111, 114, 116, 108, 105, 98, 6, 190, 15, 95, 95, 102, 105, 114, 115, 116, 108, 105, 110, 101, 110, 111, 95, 95, 4, 187, 0, 971, 6, 191, 7, 95, 95, 100, 111, 99, 95, 95, 9, 52, 95, 102, 114, 111, 122, 101, 110, 95, 105, 109, 112, 111, 114, 116, 108, 105, 98, 46, 66, 117, 105, 108, 116, 105, 110, 73, 109, 112, 111, 114, 116, 101, 114, 46, 95, 95, 100, 111, 99, 95, 95, 58, 115, 116, 114, 35, 111, 112, 97, 113, 117, 101, 6, 192, 7, 95, 79, 82, 73, 71, 73, 78, 6, 188, 8, 98, 117, 105, 108, 116, 45, 105, 110, 6, 193, 9, 102, 105, 110, 100, 95, 115, 112, 101, 99, 9, 50, 95, 102, 114, 111, 122, 101, 110, 95, 105, 109, 112, 111, 114, 116, 108, 105, 98, 46, 66, 117, 105, 108, 116, 105, 110, 73, 109, 112, 111, 114, 116, 101, 114, 46, 102, 105, 110, 100, 95, 115, 112, 101, 99, 35, 111, 112, 97, 113, 117, 101, 6, 194, 13, 99, 114, 101, 97, 116, 101, 95, 109, 111, 100, 117, 108, 101, 9, 54, 95, 102, 114, 111, 122, 101, 110, 95, 105, 109, 112, 111, 114, 116, 108, 105, 98, 46, 66, 117, 105, 108, 116, 105, 110, 73, 109, 112, 111, 114, 116, 101, 114, 46, 99, 114, 101, 97, 116, 101, 95, 109, 111, 100, 117, 108, 101, 35, 111, 112, 97, 113, 117, 101, 6, 195, 11, 101, 120, 101, 99, 95, 109, 111, 100, 117, 108, 101, 9, 52, 95, 102, 114, 111, 122, 101, 110, 95, 105, 109, 112, 111, 114, 116, 108, 105, 98, 46, 66, 117, 105, 108, 116, 105, 110, 73, 109, 112, 111, 114, 116, 101, 114, 46, 101, 120, 101, 99, 95, 109, 111, 100, 117, 108, 101, 35, 111, 112, 97, 113, 117, 101, 6, 196, 8, 103, 101, 116, 95, 99, 111, 100, 101, 9, 49, 95, 102, 114, 111, 122, 101, 110, 95, 105, 109, 112, 111, 114, 116, 108, 105, 98, 46, 66, 117, 105, 108, 116, 105, 110, 73, 109, 112, 111, 114, 116, 101, 114, 46, 103, 101, 116, 95, 99, 111, 100, 101, 35, 111, 112, 97, 113, 117, 101, 6, 197, 10, 103, 101, 116, 95, 115, 111, 117, 114, 99, 101, 9, 51, 95, 102, 114, 111, 122, 101, 110, 95, 105, 109, 112, 111, 114, 116, 108, 105, 98, 46, 66, 117, 105, 108, 116, 105, 110, 73, 109, 112, 111, 114, 116, 101, 114, 46, 103, 101, 116, 95, 115, 111, 117, 114, 99, 101, 35, 111, 112, 97, 113, 117, 101, 6, 198, 10, 105, 115, 95, 112, 97, 99, 107, 97, 103, 101, 9, 51, 95, 102, 114, 111, 122, 101, 110, 95, 105, 109, 112, 111, 114, 116, 108, 105, 98, 46, 66, 117, 105, 108, 116, 105, 110, 73, 109, 112, 111, 114, 116, 101, 114, 46, 105, 115, 95, 112, 97, 99, 107, 97, 103, 101, 35, 111, 112, 97, 113, 117, 101, 6, 199, 11, 108, 111, 97, 100, 95, 109, 111, 100, 117, 108, 101, 9, 52, 95, 102, 114, 111, 122, 101, 110, 95, 105, 109, 112, 111, 114, 116, 108, 105, 98, 46, 66, 117, 105, 108, 116, 105, 110, 73, 109, 112, 111, 114, 116, 101, 114, 46, 108, 111, 97, 100, 95, 109, 111, 100, 117, 108, 101, 35, 111, 112, 97, 113, 117, 101, 6, 200, 21, 95, 95, 115, 116, 97, 116, 105, 99, 95, 97, 116, 116, 114, 105, 98, 117, 116, 101, 115, 95, 95, 4, 0, 0, 15, 6, 202, 8, 95, 95, 100, 105, 99, 116, 95, 95, 4, 0, 0, 16, 6, 204, 11, 95, 95, 119, 101, 97, 107, 114, 101, 102, 95, 95, 4, 0, 0, 17]) 0), (.bool true), (.bool true), (.str (.mk #[]) 205), (.int 21 0), (.str (.mk #[6, 227, 10, 95, 95, 109, 111, 100, 117, 108, 101, 95, 95, 6, 217, 17, 95, 102, 114, 111, 122, 101, 110, 95, 105, 109, 112, 111, 114, 116, 108, 105, 98, 6, 228, 15, 95, 95, 102, 105, 114, 115, 116, 108, 105, 110, 101, 110, 111, 95, 95, 4, 218, 0, 562, 6, 229, 7, 95, 95, 100, 111, 99, 95, 95, 9, 47, 95, 102, 114, 111, 122, 101, 110, 95, 105, 109, 112, 111, 114, 116, 108, 105, 98, 46, 77, 111, 100, 117, 108, 101, 83, 112, 101, 99, 46, 95, 95, 100, 111, 99, 95, 95, 58, 115, 116, 114, 35, 111, 112, 97, 113, 117, 101, 6, 230, 8, 95, 95, 105, 110, 105, 116, 95, 95, 9, 44, 95, 102, 114, 111, 122, 101, 110, 95, 105, 109, 112, 111, 114, 116, 108, 105, 98, 46, 77, 111, 100, 117, 108, 101, 83, 112, 101, 99, 46, 95, 95, 105, 110, 105, 116, 95, 95, 35, 111, 112, 97, 113, 117, 101, 6, 231, 8, 95, 95, 114, 101, 112, 114, 95, 95, 9, 44, 95, 102, 114, 111, 122, 101, 110, 95, 105, 109, 112, 111, 114, 116, 108, 105, 98, 46, 77, 111, 100, 117, 108, 101, 83, 112, 101, 99, 46, 95, 95, 114, 101, 112, 114, 95, 95, 35, 111, 112, 97, 113, 117, 101, 6, 232, 6, 95, 95, 101, 113, 95, 95, 9, 42, 95, 102, 114, 111, 122, 101, 110, 95, 105, 109, 112, 111, 114, 116, 108, 105, 98, 46, 77, 111, 100, 117, 108, 101, 83, 112, 101, 99, 46, 95, 95, 101, 113, 95, 95, 35, 111, 112, 97, 113, 117, 101, 6, 233, 6, 99, 97, 99, 104, 101, 100, 9, 42, 95, 102, 114, 111, 122, 101, 110, 95, 105, 109, 112, 111, 114, 116, 108, 105, 98, 46, 77, 111, 100, 117, 108, 101, 83, 112, 101, 99, 46, 99, 97, 99, 104, 101, 100, 35, 111, 112, 97, 113, 117, 101, 6, 234, 6, 112, 97, 114, 101, 110, 116, 9, 42, 95, 102, 114, 111, 122, 101, 110, 95, 105, 109, 112, 111, 114, 116, 108, 105, 98, 46, 77, 111, 100, 117, 108, 101, 83, 112, 101, 99, 46, 112, 97, 114, 101, 110, 116, 35, 111, 112, 97, 113, 117, 101, 6, 235, 12, 104, 97, 115, 95, 108, 111, 99, 97, 116, 105, 111, 110, 9, 48, 95, 102, 114, 111, 122, 101, 110, 95, 105, 109, 112, 111, 114, 116, 108, 105, 98, 46, 77, 111, 100, 117, 108, 101, 83, 112, 101, 99, 46, 104, 97, 115, 95, 108, 111, 99, 97, 116, 105, 111, 110, 35, 111, 112, 97, 113, 117, 101, 6, 236, 21, 95, 95, 115, 116, 97, 116, 105, 99, 95, 97, 116, 116, 114, 105, 98, 117, 116, 101, 115, 95, 95, 4, 0, 0, 23, 6, 238, 8, 95, 95, 100, 105, 99, 116, 95, 95, 4, 0, 0, 24, 6, 240, 11, 95, 95, 119, 101, 97, 107, 114, 101, 102, 95, 95, 4, 0, 0, 25, 6, 241, 8, 95, 95, 104, 97, 115, 104, 95, 95, 0]) 0), (.bool true), (.bool true), (.str (.mk #[]) 242)] 1), #[]⟩
noncomputable def z19 (P : Params) : Obj := ⟨(.type "list"), none, (.seq #[] 0), #[]⟩
noncomputable def z20 (P : Params) : Obj := ⟨(.type "dict"), none, (.dict #[⟨(PyData.keyHash P (.mk #[110, 97, 109, 101])), (.str (.mk #[110, 97, 109, 101]) 208), (.str (.mk #[95, 115, 114, 101]) 207)⟩, ⟨(PyData.keyHash P (.mk #[108, 111, 97, 100, 101, 114])), (.str (.mk #[108, 111, 97, 100, 101, 114]) 209), (.ref 14)⟩, ⟨(PyData.keyHash P (.mk #[111, 114, 105, 103, 105, 110])), (.str (.mk #[111, 114, 105, 103, 105, 110]) 210), (.str (.mk #[98, 117, 105, 108, 116, 45, 105, 110]) 184)⟩, ⟨(PyData.keyHash P (.mk #[108, 111, 97, 100, 101, 114, 95, 115, 116, 97, 116, 101])), (.str (.mk #[108, 111, 97, 100, 101, 114, 95, 115, 116, 97, 116, 101]) 211), .none⟩, ⟨(PyData.keyHash P (.mk #[115, 117, 98, 109, 111, 100, 117, 108, 101, 95, 115, 101, 97, 114, 99, 104, 95, 108, 111, 99, 97, 116, 105, 111, 110, 115])), (.str (.mk #[115, 117, 98, 109, 111, 100, 117, 108, 101, 95, 115, 101, 97, 114, 99, 104, 95, 108, 111, 99, 97, 116, 105, 111, 110, 115]) 212), .none⟩, ⟨(PyData.keyHash P (.mk #[95, 117, 110, 105, 110, 105, 116, 105, 97, 108, 105, 122, 101, 100, 95, 115, 117, 98, 109, 111, 100, 117, 108, 101, 115])), (.str (.mk #[95, 117, 110, 105, 110, 105, 116, 105, 97, 108, 105, 122, 101, 100, 95, 115, 117, 98, 109, 111, 100, 117, 108, 101, 115]) 213), (.ref 19)⟩, ⟨(PyData.keyHash P (.mk #[95, 115, 101, 116, 95, 102, 105, 108, 101, 97, 116, 116, 114])), (.str (.mk #[95, 115, 101, 116, 95, 102, 105, 108, 101, 97, 116, 116, 114]) 214), (.bool false)⟩, ⟨(PyData.keyHash P (.mk #[95, 99, 97, 99, 104, 101, 100])), (.str (.mk #[95, 99, 97, 99, 104, 101, 100]) 215), .none⟩, ⟨(PyData.keyHash P (.mk #[95, 105, 110, 105, 116, 105, 97, 108, 105, 122, 105, 110, 103])), (.str (.mk #[95, 105, 110, 105, 116, 105, 97, 108, 105, 122, 105, 110, 103]) 243), (.bool false)⟩] 9), #[]⟩
noncomputable def z21 (P : Params) : Obj := ⟨(.type "dict"), none, (.dict #[⟨(PyData.keyHash P (.mk #[95, 95, 109, 111, 100, 117, 108, 101, 95, 95])), (.str (.mk #[95, 95, 109, 111, 100, 117, 108, 101, 95, 95]) 227), (.str (.mk #[95, 102, 114, 111, 122, 101, 110, 95, 105, 109, 112, 111, 114, 116, 108, 105, 98]) 217)⟩, ⟨(PyData.keyHash P (.mk #[95, 95, 102, 105, 114, 115, 116, 108, 105, 110, 101, 110, 111, 95, 95])), (.str (.mk #[95, 95, 102, 105, 114, 115, 116, 108, 105, 110, 101, 110, 111, 95, 95]) 228), (.int 562 218)⟩, ⟨(PyData.keyHash P (.mk #[95, 95, 100, 111, 99, 95, 95])), (.str (.mk #[95, 95, 100, 111, 99, 95, 95]) 229), (.builtin "_frozen_importlib.ModuleSpec.__doc__:str#\x6fpaque")⟩, ⟨(PyData.keyHash P (.mk #[95, 95, 105, 110, 105, 116, 95, 95])), (.str (.mk #[95, 95, 105, 110, 105, 116, 95, 95]) 230), (.builtin "_frozen_importlib.ModuleSpec.__init__#\x6fpaque")⟩, ⟨(PyData.keyHash P (.mk #[95, 95, 114, 101, 112, 114, 95, 95])), (.str (.mk #[95, 95, 114, 101, 112, 114, 95, 95]) 231), (.builtin "_frozen_importlib.ModuleSpec.__repr__#\x6fpaque")⟩, ⟨(PyData.keyHash P (.mk #[95, 95, 101, 113, 95, 95])), (.str (.mk #[95, 95, 101, 113, 95, 95]) 232), (.builtin "_frozen_importlib.ModuleSpec.__eq__#\x6fpaque")⟩, ⟨(PyData.keyHash P (.mk #[99, 97, 99, 104, 101, 100])), (.str (.mk #[99, 97, 99, 104, 101, 100]) 233), (.builtin "_frozen_importlib.ModuleSpec.cached#\x6fpaque")⟩, ⟨(PyData.keyHash P (.mk #[112, 97, 114, 101, 110, 116])), (.str (.mk #[112, 97, 114, 101, 110, 116]) 234), (.builtin "_frozen_importlib.ModuleSpec.parent#\x6fpaque")⟩, ⟨(PyData.keyHash P (.mk #[104, 97, 115, 95, 108, 111, 99, 97, 116, 105, 111, 110])), (.str (.mk #[104, 97, 115, 95, 108, 111, 99, 97, 116, 105, 111, 110]) 235), (.builtin "_frozen_importlib.ModuleSpec.has_location#\x6fpaque")⟩, ⟨(PyData.keyHash P (.mk #[95, 95, 115, 116, 97, 116, 105, 99, 95, 97, 116, 116, 114, 105, 98, 117, 116, 101, 115, 95, 95])), (.str (.mk #[95, 95, 115, 116, 97, 116, 105, 99, 95, 97, 116, 116, 114, 105, 98, 117, 116, 101, 115, 95, 95]) 236), (.ref 23)⟩, ⟨(PyData.keyHash P (.mk #[95, 95, 100, 105, 99, 116, 95, 95])), (.str (.mk #[95, 95, 100, 105, 99, 116, 95, 95]) 238), (.ref 24)⟩, ⟨(PyData.keyHash P (.mk #[95, 95, 119, 101, 97, 107, 114, 101, 102, 95, 95])), (.str (.mk #[95, 95, 119, 101, 97, 107, 114, 101, 102, 95, 95]) 240), (.ref 25)⟩, ⟨(PyData.keyHash P (.mk #[95, 95, 104, 97, 115, 104, 95, 95])), (.str (.mk #[95, 95, 104, 97, 115, 104, 95, 95]) 241), .none⟩] 13), #[]⟩
noncomputable def z22 (P : Params) : Obj := ⟨(.type "type"), none, (.cls ⟨(.mk #[77, 111, 100, 117, 108, 101, 83, 112, 101, 99]), [(.type "object")], [(.ref 22), (.type "object")], 21, (.mk #[77, 111, 100, 117, 108, 101, 83, 112, 101, 99]), true, [], [], false, none, false⟩), #[]⟩
noncomputable def z23 (P : Params) : Obj := ⟨(.type "tuple"), none, (.seq #[(.str (.mk #[95, 99, 97, 99, 104, 101, 100]) 219), (.str (.mk #[95, 115, 101, 116, 95, 102, 105, 108, 101, 97, 116, 116, 114]) 220), (.str (.mk #[95, 117, 110, 105, 110, 105, 116, 105, 97, 108, 105, 122, 101, 100, 95, 115, 117, 98, 109, 111, 100, 117, 108, 101, 115]) 221), (.str (.mk #[108, 111, 97, 100, 101, 114]) 222), (.str (.mk #[108, 111, 97, 100, 101, 114, 95, 115, 116, 97, 116, 101]) 223), (.str (.mk #[110, 97, 109, 101]) 224), (.str (.mk #[111, 114, 105, 103, 105, 110]) 225), (.str (.mk #[115, 117, 98, 109, 111, 100, 117, 108, 101, 95, 115, 101, 97, 114, 99, 104, 95, 108, 111, 99, 97, 116, 105, 111, 110, 115]) 226)] 0), #[]⟩
noncomputable def z24 (P : Params) : Obj := ⟨(.type "getset_descriptor"), none, (.fields #[(.str (.mk #[95, 95, 100, 105, 99, 116, 95, 95]) 237), (.ref 22), (.builtin "function.__dict__"), (.builtin "function.__dict__#set")]), #[]⟩
noncomputable def z25 (P : Params) : Obj := ⟨(.type "getset_descriptor"), none, (.fields #[(.str (.mk #[95, 95, 119, 101, 97, 107, 114, 101, 102, 95, 95]) 239), (.ref 22), (.builtin "ExceptionGroup.__weakref__"), .none]), #[]⟩
noncomputable def z26 (P : Params) : Obj := ⟨(.ref 22), (some 20), .plain, #[]⟩
noncomputable def z27 (P : Params) : Obj := ⟨.none, none, (.seq #[(.int 11 0), (.str (.mk (List.toArray (6 :: 247 :: 8 :: 95 :: 95 :: 110 :: 97 :: 109 :: 101 :: 95 :: 95 :: 6 :: 246 :: 4 :: 95 :: 115 :: 114 :: 101 :: 6 :: 248 :: 7 :: 95 :: 95 :: 100 :: 111 :: 99 :: 95 :: 95 :: 0 :: 6 :: 250 :: 11 :: 95 :: 95 :: 112 :: 97 :: 99 :: 107 :: 97 :: 103 :: 101 :: 95 :: 95 :: 6 :: 249 :: 0 :: 6 :: 251 :: 10 :: 95 :: 95 :: 108 :: 111 :: 97 :: 100 :: 101 :: 114 :: 95 :: 95 :: 4 :: 0 :: 0 :: 14 :: 6 :: 252 :: 8 :: 95 :: 95 :: 115 :: 112 :: 101 :: 99 :: 95 :: 95 :: 4 :: 0 :: 0 :: 26 :: 6 :: 253 :: 7 :: 99 :: 111 :: 109 :: 112 :: 105 :: 108 :: 101 :: 9 :: 12 :: 95 :: 115 :: 114 :: 101 :: 46 :: 99 :: 111 :: 109 :: 112 :: 105 :: 108 :: 101 :: 6 :: 254 :: 8 :: 116 :: 101 :: 109 :: 112 :: 108 :: 97 :: 116 :: 101 :: 9 :: 13 :: 95 :: 115 :: 114 :: 101 :: 46 :: 116 :: 101 :: 109 :: 112 :: 108 :: 97 :: 116 :: 101 :: 6 :: 255 :: 11 :: 103 :: 101 :: 116 :: 99 :: 111 :: 100 :: 101 :: 115 :: 105 :: 122 :: 101 :: 9 :: 16 :: 95 :: 115 :: 114 :: 101 :: 46 :: 103 :: 101 :: 116 :: 99 :: 111 :: 100 :: 101 :: 115 :: 105 :: 122 :: 101 :: 6 :: 256 :: 13 :: 97 :: 115 :: 99 :: 105 :: 105 :: 95 :: 105 :: 115 :: 99 :: 97 :: 115 :: 101 :: 100 :: 9 :: 18 :: 95 :: 115 :: 114 :: 101 :: 46 :: 97 :: 115 :: 99 :: 105 :: 105 :: 95 :: 105 :: 115 :: 99 :: 97 :: 115 :: 101 :: 100 :: 6 :: 257 :: 15 :: 117 :: 110 :: 105 :: 99 :: 111 :: 100 :: 101 :: 95 :: 105 :: 115 :: 99 :: 97 :: 115 :: 101 :: 100 :: 9 :: 20 :: 95 :: 115 :: 114 :: 101 :: 46 :: 117 :: 110 :: 105 :: 99 :: 111 :: 100 :: 101 :: 95 :: 105 :: 115 :: 99 :: 97 :: 115 :: 101 :: 100 :: 6 :: 258 :: 13 :: 97 :: 115 :: 99 :: 105 :: 105 :: 95 :: 116 :: 111 :: 108 :: 111 :: 119 :: 101 :: 114 :: 9 :: 18 :: 95 :: 115 :: 114 :: 101 :: 46 :: 97 :: 115 :: 99 :: 105 :: 105 :: 95 :: 116 :: 111 :: 108 :: 111 :: 119 :: 101 :: 114 :: 6 :: 259 :: 15 :: 117 :: 110 :: 105 :: 99 :: 111 :: 100 :: 101 :: 95 :: 116 :: 111 :: 108 :: 111 :: 119 :: 101 :: 114 :: 9 :: 20 :: 95 :: 115 :: 114 :: 101 :: 46 :: 117 :: 110 :: 105 :: 99 :: 111 :: 100 :: 101 :: 95 :: 116 :: 111 :: 108 :: 111 :: 119 :: 101 :: 114 :: 6 :: 261 :: 5 :: 77 :: 65 :: 71 :: 73 :: 67 :: 4 :: 260 :: 0 :: 20230612 :: 6 :: 263 :: 8 :: 67 :: 79 :: 68 :: 69 :: 83 :: 73 :: 90 :: 69 :: 4 :: 262 :: 0 :: 4 :: 6 :: 265 :: 9 :: 77 :: 65 :: 88 :: 82 :: 69 :: 80 :: 69 :: 65 :: 84 :: 4 :: 264 :: 0 :: 4294967295 :: 6 :: 267 :: 9 :: 77 :: 65 :: 88 :: 71 :: 82 :: 79 :: 85 :: 80 :: 83 :: 4 :: 266 :: 0 :: 1073741823 :: 6 :: 269 :: 9 :: 99 :: 111 :: 112 :: 121 :: 114 :: 105 :: 103 :: 104 :: 116 :: 6 :: 268 :: 53 :: 32 :: 83 :: 82 :: 69 :: 32 :: 50 :: 46 :: 50 :: 46 :: 50 :: 32 :: 67 :: 111 :: 112 :: 121 :: 114 :: 105 :: 103 :: 104 :: 116 :: 32 :: 40 :: 99 :: 41 :: 32 :: 49 :: 57 :: 57 :: 55 :: 45 :: 50 :: 48 :: 48 :: 50 :: 32 :: 98 :: 121 :: 32 :: 83 :: 101 :: 99 :: 114 :: 101 :: 116 :: 32 :: 76 :: 97 :: 98 :: 115 :: 32 :: 65 :: 66 :: 32 :: []))) 0), (.bool true), (.bool false), (.str (.mk #[95, 115, 114, 101]) 271)] 0), #[]⟩
noncomputable def hS0 (P : Params) : Heap := ⟨⟨z0 P :: z1 P :: z2 P :: z3 P :: z4 P :: z5 P :: z6 P :: z7 P :: z8 P :: z9 P :: z10 P :: z11 P :: z12 P :: z13 P :: z14 P :: z15 P :: z16 P :: z17 P :: z18 P :: z19 P :: z20 P :: z21 P :: z22 P :: z23 P :: z24 P :: z25 P :: z26 P :: z27 P :: []⟩, ⟨[], [], [], 0, [], [], false, #[], [], 0, false, false, false, 0, [2000, 10, 10], false, 0, true, [], [], 0, false⟩⟩
noncomputable def z28 (P : Params) : Obj := ⟨(.type "tuple"), none, (.seq #[] 0), #[]⟩
noncomputable def z29 (P : Params) : Obj := ⟨.none, none, (.fields #[]), #[]⟩
noncomputable def z30 (P : Params) : Obj := ⟨(.type "code"), none, (.fields #[(.str (.ofString "<module>") 277), (.str (.ofString "<module>") 278), (.str (.ofString "/claim/cut.py") 279), (.int 1 0), (.int 0 0), (.int 0 0), (.int 0 0), (.int 0 0), (.ref 28), (.bool false), (.int 276 0), (.ref 29), .none, .none, .none, .none, (.int 280 0), (.int 1 0), (.str (.ofString "/claim/cut.py") 281)]), #[]⟩
noncomputable def z31 (P : Params) : Obj := ⟨(.type "frame"), none, .plain, #[(some (.ref 30)), (some (.ref 3)), (some (.ref 3)), none, (some (.str (.ofString "__main__") 164)), none, (some (.ref 0))]⟩
noncomputable def hSa (P : Params) : Heap := ⟨⟨z0 P :: z1 P :: z2 P :: z3 P :: z4 P :: z5 P :: z6 P :: z7 P :: z8 P :: z9 P :: z10 P :: z11 P :: z12 P :: z13 P :: z14 P :: z15 P :: z16 P :: z17 P :: z18 P :: z19 P :: z20 P :: z21 P :: z22 P :: z23 P :: z24 P :: z25 P :: z26 P :: z27 P :: z28 P :: z29 P :: z30 P :: z31 P :: []⟩, ⟨[], [], [], 0, [], [], false, #[], [], 0, false, false, false, 0, [2000, 10, 10], false, 0, true, [], [], 0, false⟩⟩
noncomputable def z3v4 (P : Params) : Obj := ⟨(.type "dict"), none, (.dict #[⟨(hP P "__name__"), (.str (.ofString "__name__") 165), (.str (.ofString "cpy313.wsgiref.headers") 343)⟩, ⟨(hP P "__doc__"), (.str (.ofString "__doc__") 166), .none⟩, ⟨(hP P "__package__"), (.str (.ofString "__package__") 167), .none⟩, ⟨(hP P "__loader__"), (.str (.ofString "__loader__") 168), (.builtin "__main__.__loader__#\x6fpaque")⟩, ⟨(hP P "__spec__"), (.str (.ofString "__spec__") 169), .none⟩, ⟨(hP P "__annotations__"), (.str (.ofString "__annotations__") 170), (.ref 6)⟩, ⟨(hP P "__builtins__"), (.str (.ofString "__builtins__") 171), (.ref 4)⟩, ⟨(hP P "__file__"), (.str (.ofString "__file__") 173), (.str (.ofString "/claim/cut.py") 172)⟩, ⟨(hP P "__cached__"), (.str (.ofString "__cached__") 174), .none⟩, ⟨(hP P "_sre"), (.str (.ofString "_sre") 275), (.ref 12)⟩, ⟨(hP P "_wall"), (.str (.ofString "_wall") 288), (.ref 38)⟩, ⟨(hP P "_MOVE_COST"), (.str (.ofString "_MOVE_COST") 292), (.int 2 291)⟩, ⟨(hP P "_CASE_COST"), (.str (.ofString "_CASE_COST") 294), (.int 1 293)⟩, ⟨(hP P "_substitution_cost"), (.str (.ofString "_substitution_cost") 302), (.ref 45)⟩, ⟨(hP P "insort_left"), (.str (.ofString "insort_left") 317), (.ref 54)⟩, ⟨(hP P "bisect_left"), (.str (.ofString "bisect_left") 331), (.ref 63)⟩, ⟨(hP P "ENDMARKER"), (.str (.ofString "ENDMARKER") 335), (.int 0 334)⟩, ⟨(hP P "ISEOF"), (.str (.ofString "ISEOF") 342), (.ref 70)⟩, ⟨(hP P "_name_disallowed_re"), (.str (.ofString "_name_disallowed_re") 370), (.ref 75)⟩, ⟨(hP P "_value_disallowed_re"), (.str (.ofString "_value_disallowed_re") 404), (.ref 80)⟩] 20), #[]⟩
noncomputable def z29v4 (P : Params) : Obj := ⟨.none, none, (.fields #[(.int 2 0), (.int 0 0), (.ref 37), (.int 8 0), (.int 0 0), (.ref 44), (.int 15 0), (.int 0 0), (.ref 53), (.int 21 0), (.int 0 0), (.ref 62), (.int 43 0), (.int 0 0), (.ref 69)]), #[]⟩
noncomputable def z32 (P : Params) : Obj := ⟨(.type "tuple"), none, (.seq #[] 0), #[]⟩
noncomputable def z33 (P : Params) : Obj := ⟨.none, none, (.fields #[]), #[]⟩
noncomputable def z34 (P : Params) : Obj := ⟨(.type "tuple"), none, (.seq #[(.str (.ofString "k") 285)] 0), #[]⟩
noncomputable def z35 (P : Params) : Obj := ⟨(.type "tuple"), none, (.seq #[] 0), #[]⟩
noncomputable def z36 (P : Params) : Obj := ⟨.none, none, (.func ⟨(.ofString "_wall"), (.ofString "_wall"), (dAt 1).1, (.stmts (dAt 1).2.1), (dAt 1).2.2, 0, [], .none, .none, .none, .none, none, .none, .none, 0⟩), #[]⟩
noncomputable def z37 (P : Params) : Obj := ⟨(.type "code"), none, (.fields #[(.str (.ofString "_wall") 282), (.str (.ofString "_wall") 283), (.str (.ofString "/claim/cut.py") 284), (.int 2 0), (.int 1 0), (.int 0 0), (.int 0 0), (.int 3 0), (.ref 32), (.bool true), (.int 276 0), (.ref 33), .none, (.ref 34), (.ref 35), (.ref 36), (.int 286 0), (.int 2 0), (.str (.ofString "/claim/cut.py") 287)]), #[]⟩
noncomputable def z38 (P : Params) : Obj := fnO (dAt 1) "_wall" "_wall" .none .none "__main__" 164 (.ref 37)
noncomputable def z39 (P : Params) : Obj := ⟨(.type "tuple"), none, (.seq #[] 0), #[]⟩
noncomputable def z40 (P : Params) : Obj := ⟨.none, none, (.fields #[]), #[]⟩
noncomputable def z41 (P : Params) : Obj := ⟨(.type "tuple"), none, (.seq #[(.str (.ofString "ch_a") 298), (.str (.ofString "ch_b") 299)] 0), #[]⟩
noncomputable def z42 (P : Params) : Obj := ⟨(.type "tuple"), none, (.seq #[] 0), #[]⟩
noncomputable def z43 (P : Params) : Obj := ⟨.none, none, (.func ⟨(.ofString "_substitution_cost"), (.ofString "_substitution_cost"), (dAt 5).1, (.stmts (dAt 5).2.1), (dAt 5).2.2, 0, [], .none, .none, .none, .none, none, .none, .none, 0⟩), #[]⟩
noncomputable def z44 (P : Params) : Obj := ⟨(.type "code"), none, (.fields #[(.str (.ofString "_substitution_cost") 295), (.str (.ofString "_substitution_cost") 296), (.str (.ofString "/claim/cut.py") 297), (.int 8 0), (.int 2 0), (.int 0 0), (.int 0 0), (.int 3 0), (.ref 39), (.bool true), (.int 276 0), (.ref 40), .none, (.ref 41), (.ref 42), (.ref 43), (.int 300 0), (.int 8 0), (.str (.ofString "/claim/cut.py") 301)]), #[]⟩
noncomputable def z45 (P : Params) : Obj := fnO (dAt 5) "_substitution_cost" "_substitution_cost" .none .none "cpy313.traceback" 289 (.ref 44)
noncomputable def z46 (P : Params) : Obj := ⟨(.type "tuple"), none, (.seq #[(.int 0 305), .none] 0), #[]⟩
noncomputable def z47 (P : Params) : Obj := ⟨(.type "dict"), none, (.dict #[⟨(hP P "key"), (.str (.ofString "key") 306), .none⟩] 1), #[]⟩
noncomputable def z48 (P : Params) : Obj := ⟨(.type "tuple"), none, (.seq #[] 0), #[]⟩
noncomputable def z49 (P : Params) : Obj := ⟨.none, none, (.fields #[]), #[]⟩
noncomputable def z50 (P : Params) : Obj := ⟨(.type "tuple"), none, (.seq #[(.str (.ofString "a") 310), (.str (.ofString "x") 311), (.str (.ofString "lo") 312), (.str (.ofString "hi") 313), (.str (.ofString "key") 314)] 0), #[]⟩
noncomputable def z51 (P : Params) : Obj := ⟨(.type "tuple"), none, (.seq #[] 0), #[]⟩
noncomputable def z52 (P : Params) : Obj := ⟨.none, none, (.func ⟨(.ofString "insort_left"), (.ofString "insort_left"), (dAt 7).1, (.stmts (dAt 7).2.1), (dAt 7).2.2, 0, [], .none, .none, .none, .none, none, .none, .none, 0⟩), #[]⟩
noncomputable def z53 (P : Params) : Obj := ⟨(.type "code"), none, (.fields #[(.str (.ofString "insort_left") 307), (.str (.ofString "insort_left") 308), (.str (.ofString "/claim/cut.py") 309), (.int 15 0), (.int 4 0), (.int 0 0), (.int 1 0), (.int 3 0), (.ref 48), (.bool true), (.int 276 0), (.ref 49), .none, (.ref 50), (.ref 51), (.ref 52), (.int 315 0), (.int 15 0), (.str (.ofString "/claim/cut.py") 316)]), #[]⟩
noncomputable def z54 (P : Params) : Obj := fnO (dAt 7) "insort_left" "insort_left" (.ref 46) (.ref 47) "cpy313.bisect" 303 (.ref 53)
noncomputable def z55 (P : Params) : Obj := ⟨(.type "tuple"), none, (.seq #[(.int 0 318), .none] 0), #[]⟩
noncomputable def z56 (P : Params) : Obj := ⟨(.type "dict"), none, (.dict #[⟨(hP P "key"), (.str (.ofString "key") 319), .none⟩] 1), #[]⟩
noncomputable def z57 (P : Params) : Obj := ⟨(.type "tuple"), none, (.seq #[] 0), #[]⟩
noncomputable def z58 (P : Params) : Obj := ⟨.none, none, (.fields #[]), #[]⟩
noncomputable def z59 (P : Params) : Obj := ⟨(.type "tuple"), none, (.seq #[(.str (.ofString "a") 323), (.str (.ofString "x") 324), (.str (.ofString "lo") 325), (.str (.ofString "hi") 326), (.str (.ofString "key") 327), (.str (.ofString "mid") 328)] 0), #[]⟩
noncomputable def z60 (P : Params) : Obj := ⟨(.type "tuple"), none, (.seq #[] 0), #[]⟩
noncomputable def z61 (P : Params) : Obj := ⟨.none, none, (.func ⟨(.ofString "bisect_left"), (.ofString "bisect_left"), (dAt 8).1, (.stmts (dAt 8).2.1), (dAt 8).2.2, 0, [], .none, .none, .none, .none, none, .none, .none, 0⟩), #[]⟩
noncomputable def z62 (P : Params) : Obj := ⟨(.type "code"), none, (.fields #[(.str (.ofString "bisect_left") 320), (.str (.ofString "bisect_left") 321), (.str (.ofString "/claim/cut.py") 322), (.int 21 0), (.int 4 0), (.int 0 0), (.int 1 0), (.int 3 0), (.ref 57), (.bool true), (.int 276 0), (.ref 58), .none, (.ref 59), (.ref 60), (.ref 61), (.int 329 0), (.int 21 0), (.str (.ofString "/claim/cut.py") 330)]), #[]⟩
noncomputable def z63 (P : Params) : Obj := fnO (dAt 8) "bisect_left" "bisect_left" (.ref 55) (.ref 56) "cpy313.bisect" 303 (.ref 62)
noncomputable def z64 (P : Params) : Obj := ⟨(.type "tuple"), none, (.seq #[] 0), #[]⟩
noncomputable def z65 (P : Params) : Obj := ⟨.none, none, (.fields #[]), #[]⟩
noncomputable def z66 (P : Params) : Obj := ⟨(.type "tuple"), none, (.seq #[(.str (.ofString "x") 339)] 0), #[]⟩
noncomputable def z67 (P : Params) : Obj := ⟨(.type "tuple"), none, (.seq #[] 0), #[]⟩
noncomputable def z68 (P : Params) : Obj := ⟨.none, none, (.func ⟨(.ofString "ISEOF"), (.ofString "ISEOF"), (dAt 11).1, (.stmts (dAt 11).2.1), (dAt 11).2.2, 0, [], .none, .none, .none, .none, none, .none, .none, 0⟩), #[]⟩
noncomputable def z69 (P : Params) : Obj := ⟨(.type "code"), none, (.fields #[(.str (.ofString "ISEOF") 336), (.str (.ofString "ISEOF") 337), (.str (.ofString "/claim/cut.py") 338), (.int 43 0), (.int 1 0), (.int 0 0), (.int 0 0), (.int 3 0), (.ref 64), (.bool true), (.int 276 0), (.ref 65), .none, (.ref 66), (.ref 67), (.ref 68), (.int 340 0), (.int 43 0), (.str (.ofString "/claim/cut.py") 341)]), #[]⟩
noncomputable def z70 (P : Params) : Obj := fnO (dAt 11) "ISEOF" "ISEOF" .none .none "cpy313.token" 332 (.ref 69)
noncomputable def z71 (P : Params) : Obj := ⟨(.type "list"), none, (.seq #[(.int 14 348), (.int 10 349), (.int 4 350), (.int 1 351), (.int 1 352), (.int 22 353), (.int 0 354), (.int 31 355), (.int 16 356), (.int 127 357), (.int 0 358), (.int 13 359), (.int 7 360), (.int 22 361), (.int 0 362), (.int 31 363), (.int 16 364), (.int 127 365), (.int 0 366), (.int 1 367)] 0), #[]⟩
noncomputable def z72 (P : Params) : Obj := ⟨(.type "dict"), none, (.dict #[] 0), #[]⟩
noncomputable def z73 (P : Params) : Obj := ⟨(.type "tuple"), none, (.seq #[.none] 0), #[]⟩
noncomputable def z74 (P : Params) : Obj := ⟨(.type "tuple"), none, (.seq #[(.int 14 0), (.int 10 0), (.int 4 0), (.int 1 0), (.int 1 0), (.int 22 0), (.int 0 0), (.int 31 0), (.int 16 0), (.int 127 0), (.int 0 0), (.int 13 0), (.int 7 0), (.int 22 0), (.int 0 0), (.int 31 0), (.int 16 0), (.int 127 0), (.int 0 0), (.int 1 0)] 0), #[]⟩
noncomputable def z75 (P : Params) : Obj := ⟨(.type "re.Pattern"), none, (.fields #[(.str (.ofString "[\\x00-\\x1F\\x7F]") 346), (.int 32 369), (.int 0 0), .none, .none, (.ref 74), (.int 0 0)]), #[]⟩
noncomputable def z76 (P : Params) : Obj := ⟨(.type "list"), none, (.seq #[(.int 14 374), (.int 14 375), (.int 4 376), (.int 1 377), (.int 1 378), (.int 9 379), (.int 4294966783 380), (.int 0 381), (.int 0 382), (.int 2147483648 383), (.int 0 384), (.int 0 385), (.int 0 386), (.int 0 387), (.int 0 388), (.int 13 389), (.int 11 390), (.int 9 391), (.int 4294966783 392), (.int 0 393), (.int 0 394), (.int 2147483648 395), (.int 0 396), (.int 0 397), (.int 0 398), (.int 0 399), (.int 0 400), (.int 1 401)] 0), #[]⟩
noncomputable def z77 (P : Params) : Obj := ⟨(.type "dict"), none, (.dict #[] 0), #[]⟩
noncomputable def z78 (P : Params) : Obj := ⟨(.type "tuple"), none, (.seq #[.none] 0), #[]⟩
noncomputable def z79 (P : Params) : Obj := ⟨(.type "tuple"), none, (.seq #[(.int 14 0), (.int 14 0), (.int 4 0), (.int 1 0), (.int 1 0), (.int 9 0), (.int 4294966783 0), (.int 0 0), (.int 0 0), (.int 2147483648 0), (.int 0 0), (.int 0 0), (.int 0 0), (.int 0 0), (.int 0 0), (.int 13 0), (.int 11 0), (.int 9 0), (.int 4294966783 0), (.int 0 0), (.int 0 0), (.int 2147483648 0), (.int 0 0), (.int 0 0), (.int 0 0), (.int 0 0), (.int 0 0), (.int 1 0)] 0), #[]⟩
noncomputable def z80 (P : Params) : Obj := ⟨(.type "re.Pattern"), none, (.fields #[(.str (.ofString "[\\x00-\\x08\\x0A-\\x1F\\x7F]") 372), (.int 32 403), (.int 0 0), .none, .none, (.ref 79), (.int 0 0)]), #[]⟩
noncomputable def hS1 (P : Params) : Heap := ⟨⟨z0 P :: z1 P :: z2 P :: z3v4 P :: z4 P :: z5 P :: z6 P :: z7 P :: z8 P :: z9 P :: z10 P :: z11 P :: z12 P :: z13 P :: z14 P :: z15 P :: z16 P :: z17 P :: z18 P :: z19 P :: z20 P :: z21 P :: z22 P :: z23 P :: z24 P :: z25 P :: z26 P :: z27 P :: z28 P :: z29v4 P :: z30 P :: z31 P :: z32 P :: z33 P :: z34 P :: z35 P :: z36 P :: z37 P :: z38 P :: z39 P :: z40 P :: z41 P :: z42 P :: z43 P :: z44 P :: z45 P :: z46 P :: z47 P :: z48 P :: z49 P :: z50 P :: z51 P :: z52 P :: z53 P :: z54 P :: z55 P :: z56 P :: z57 P :: z58 P :: z59 P :: z60 P :: z61 P :: z62 P :: z63 P :: z64 P :: z65 P :: z66 P :: z67 P :: z68 P :: z69 P :: z70 P :: z71 P :: z72 P :: z73 P :: z74 P :: z75 P :: z76 P :: z77 P :: z78 P :: z79 P :: z80 P :: []⟩, ⟨[], [], [], 0, [], [], false, #[], [], 0, false, false, false, 0, [2000, 10, 10], false, 0, true, [], [], 0, false⟩⟩
noncomputable def z3v5 (P : Params) : Obj := ⟨(.type "dict"), none, (.dict #[⟨(hP P "__name__"), (.str (.ofString "__name__") 165), (.str (.ofString "cpy313.wsgiref.headers") 343)⟩, ⟨(hP P "__doc__"), (.str (.ofString "__doc__") 166), .none⟩, ⟨(hP P "__package__"), (.str (.ofString "__package__") 167), .none⟩, ⟨(hP P "__loader__"), (.str (.ofString "__loader__") 168), (.builtin "__main__.__loader__#\x6fpaque")⟩, ⟨(hP P "__spec__"), (.str (.ofString "__spec__") 169), .none⟩, ⟨(hP P "__annotations__"), (.str (.ofString "__annotations__") 170), (.ref 6)⟩, ⟨(hP P "__builtins__"), (.str (.ofString "__builtins__") 171), (.ref 4)⟩, ⟨(hP P "__file__"), (.str (.ofString "__file__") 173), (.str (.ofString "/claim/cut.py") 172)⟩, ⟨(hP P "__cached__"), (.str (.ofString "__cached__") 174), .none⟩, ⟨(hP P "_sre"), (.str (.ofString "_sre") 275), (.ref 12)⟩, ⟨(hP P "_wall"), (.str (.ofString "_wall") 288), (.ref 38)⟩, ⟨(hP P "_MOVE_COST"), (.str (.ofString "_MOVE_COST") 292), (.int 2 291)⟩, ⟨(hP P "_CASE_COST"), (.str (.ofString "_CASE_COST") 294), (.int 1 293)⟩, ⟨(hP P "_substitution_cost"), (.str (.ofString "_substitution_cost") 302), (.ref 45)⟩, ⟨(hP P "insort_left"), (.str (.ofString "insort_left") 317), (.ref 54)⟩, ⟨(hP P "bisect_left"), (.str (.ofString "bisect_left") 331), (.ref 63)⟩, ⟨(hP P "ENDMARKER"), (.str (.ofString "ENDMARKER") 335), (.int 0 334)⟩, ⟨(hP P "ISEOF"), (.str (.ofString "ISEOF") 342), (.ref 70)⟩, ⟨(hP P "_name_disallowed_re"), (.str (.ofString "_name_disallowed_re") 370), (.ref 75)⟩, ⟨(hP P "_value_disallowed_re"), (.str (.ofString "_value_disallowed_re") 404), (.ref 80)⟩, ⟨(hP P "Headers"), (.str (.ofString "Headers") 561), (.ref 203)⟩] 21), #[]⟩
noncomputable def z29v5 (P : Params) : Obj := ⟨.none, none, (.fields #[(.int 2 0), (.int 0 0), (.ref 37), (.int 8 0), (.int 0 0), (.ref 44), (.int 15 0), (.int 0 0), (.ref 53), (.int 21 0), (.int 0 0), (.ref 62), (.int 43 0), (.int 0 0), (.ref 69), (.int 48 0), (.int 0 0), (.ref 86)]), #[]⟩
noncomputable def z81 (P : Params) : Obj := ⟨(.type "tuple"), none, (.seq #[] 0), #[]⟩
noncomputable def z82 (P : Params) : Obj := ⟨(.type "builtin_function_or_method"), none, (.fields #[(.builtin "type.__prepare__"), (.type "type")]), #[]⟩
noncomputable def z83 (P : Params) : Obj := ⟨(.type "dict"), none, (.dict #[⟨(hP P "__module__"), (.str (.ofString "__module__") 412), (.str (.ofString "cpy313.wsgiref.headers") 343)⟩, ⟨(hP P "__qualname__"), (.str (.ofString "__qualname__") 414), (.str (.ofString "Headers") 413)⟩, ⟨(hP P "__firstlineno__"), (.str (.ofString "__firstlineno__") 416), (.int 48 415)⟩, ⟨(hP P "__init__"), (.str (.ofString "__init__") 426), (.ref 95)⟩, ⟨(hP P "_convert_string_type"), (.str (.ofString "_convert_string_type") 436), (.ref 102)⟩, ⟨(hP P "__len__"), (.str (.ofString "__len__") 443), (.ref 109)⟩, ⟨(hP P "__setitem__"), (.str (.ofString "__setitem__") 452), (.ref 116)⟩, ⟨(hP P "__delitem__"), (.str (.ofString "__delitem__") 458), (.ref 121)⟩, ⟨(hP P "__getitem__"), (.str (.ofString "__getitem__") 466), (.ref 128)⟩, ⟨(hP P "__contains__"), (.str (.ofString "__contains__") 474), (.ref 135)⟩, ⟨(hP P "get_all"), (.str (.ofString "get_all") 482), (.ref 142)⟩, ⟨(hP P "get"), (.str (.ofString "get") 493), (.ref 150)⟩, ⟨(hP P "keys"), (.str (.ofString "keys") 499), (.ref 155)⟩, ⟨(hP P "values"), (.str (.ofString "values") 505), (.ref 160)⟩, ⟨(hP P "items"), (.str (.ofString "items") 512), (.ref 167)⟩, ⟨(hP P "__repr__"), (.str (.ofString "__repr__") 519), (.ref 174)⟩, ⟨(hP P "__str__"), (.str (.ofString "__str__") 525), (.ref 179)⟩, ⟨(hP P "__bytes__"), (.str (.ofString "__bytes__") 532), (.ref 186)⟩, ⟨(hP P "setdefault"), (.str (.ofString "setdefault") 542), (.ref 193)⟩, ⟨(hP P "add_header"), (.str (.ofString "add_header") 552), (.ref 200)⟩, ⟨(hP P "__static_attributes__"), (.str (.ofString "__static_attributes__") 554), (.ref 201)⟩] 21), #[]⟩
noncomputable def z84 (P : Params) : Obj := ⟨(.type "tuple"), none, (.seq #[] 0), #[]⟩
noncomputable def z85 (P : Params) : Obj := ⟨.none, none, (.fields (List.toArray ((.int 50 0) :: (.int 4 0) :: (.ref 94) :: (.int 60 0) :: (.int 4 0) :: (.ref 101) :: (.int 68 0) :: (.int 4 0) :: (.ref 108) :: (.int 71 0) :: (.int 4 0) :: (.ref 115) :: (.int 75 0) :: (.int 4 0) :: (.ref 120) :: (.int 79 0) :: (.int 4 0) :: (.ref 127) :: (.int 82 0) :: (.int 4 0) :: (.ref 134) :: (.int 85 0) :: (.int 4 0) :: (.ref 141) :: (.int 88 0) :: (.int 4 0) :: (.ref 149) :: (.int 95 0) :: (.int 4 0) :: (.ref 154) :: (.int 98 0) :: (.int 4 0) :: (.ref 159) :: (.int 101 0) :: (.int 4 0) :: (.ref 166) :: (.int 104 0) :: (.int 4 0) :: (.ref 173) :: (.int 107 0) :: (.int 4 0) :: (.ref 178) :: (.int 110 0) :: (.int 4 0) :: (.ref 185) :: (.int 113 0) :: (.int 4 0) :: (.ref 192) :: (.int 121 0) :: (.int 4 0) :: (.ref 199) :: []))), #[]⟩
noncomputable def z86 (P : Params) : Obj := ⟨(.type "code"), none, (.fields #[(.str (.ofString "Headers") 407), (.str (.ofString "Headers") 408), (.str (.ofString "/claim/cut.py") 409), (.int 48 0), (.int 0 0), (.int 0 0), (.int 0 0), (.int 0 0), (.ref 84), (.bool false), (.int 276 0), (.ref 85), .none, .none, .none, .none, (.int 410 0), (.int 48 0), (.str (.ofString "/claim/cut.py") 411)]), #[]⟩
noncomputable def z87 (P : Params) : Obj := ⟨(.type "frame"), none, .plain, #[(some (.ref 86)), (some (.ref 3)), (some (.ref 83)), none, (some (.str (.ofString "cpy313.wsgiref.headers") 343)), none, (some (.ref 0))]⟩
noncomputable def z88 (P : Params) : Obj := ⟨(.type "tuple"), none, (.seq #[.none] 0), #[]⟩
noncomputable def z89 (P : Params) : Obj := ⟨(.type "tuple"), none, (.seq #[] 0), #[]⟩
noncomputable def z90 (P : Params) : Obj := ⟨.none, none, (.fields #[]), #[]⟩
noncomputable def z91 (P : Params) : Obj := ⟨(.type "tuple"), none, (.seq #[(.str (.ofString "self") 420), (.str (.ofString "headers") 421), (.str (.ofString "k") 422), (.str (.ofString "v") 423)] 0), #[]⟩
noncomputable def z92 (P : Params) : Obj := ⟨(.type "tuple"), none, (.seq #[] 0), #[]⟩
noncomputable def z93 (P : Params) : Obj := ⟨.none, none, (.func ⟨(.ofString "__init__"), (.ofString "Headers.__init__"), (mAt 0).1, (.stmts (mAt 0).2.1), (mAt 0).2.2, 0, [], .none, .none, .none, .none, none, .none, .none, 0⟩), #[]⟩
noncomputable def z94 (P : Params) : Obj := ⟨(.type "code"), none, (.fields #[(.str (.ofString "__init__") 417), (.str (.ofString "Headers.__init__") 418), (.str (.ofString "/claim/cut.py") 419), (.int 50 0), (.int 2 0), (.int 0 0), (.int 0 0), (.int 3 0), (.ref 89), (.bool true), (.int 276 0), (.ref 90), .none, (.ref 91), (.ref 92), (.ref 93), (.int 424 0), (.int 50 0), (.str (.ofString "/claim/cut.py") 425)]), #[]⟩
noncomputable def z95 (P : Params) : Obj := fnO (mAt 0) "__init__" "Headers.__init__" (.ref 88) .none "cpy313.wsgiref.headers" 343 (.ref 94)
noncomputable def z96 (P : Params) : Obj := ⟨(.type "tuple"), none, (.seq #[] 0), #[]⟩
noncomputable def z97 (P : Params) : Obj := ⟨.none, none, (.fields #[]), #[]⟩
noncomputable def z98 (P : Params) : Obj := ⟨(.type "tuple"), none, (.seq #[(.str (.ofString "self") 430), (.str (.ofString "value") 431), (.str (.ofString "name") 432), (.str (.ofString "regex") 433)] 0), #[]⟩
noncomputable def z99 (P : Params) : Obj := ⟨(.type "tuple"), none, (.seq #[] 0), #[]⟩
noncomputable def z100 (P : Params) : Obj := ⟨.none, none, (.func ⟨(.ofString "_convert_string_type"), (.ofString "Headers._convert_string_type"), (mAt 1).1, (.stmts (mAt 1).2.1), (mAt 1).2.2, 0, [], .none, .none, .none, .none, none, .none, .none, 0⟩), #[]⟩
noncomputable def z101 (P : Params) : Obj := ⟨(.type "code"), none, (.fields #[(.str (.ofString "_convert_string_type") 427), (.str (.ofString "Headers._convert_string_type") 428), (.str (.ofString "/claim/cut.py") 429), (.int 60 0), (.int 2 0), (.int 0 0), (.int 1 0), (.int 3 0), (.ref 96), (.bool true), (.int 276 0), (.ref 97), .none, (.ref 98), (.ref 99), (.ref 100), (.int 434 0), (.int 60 0), (.str (.ofString "/claim/cut.py") 435)]), #[]⟩
noncomputable def z102 (P : Params) : Obj := fnO (mAt 1) "_convert_string_type" "Headers._convert_string_type" .none .none "cpy313.wsgiref.headers" 343 (.ref 101)
noncomputable def z103 (P : Params) : Obj := ⟨(.type "tuple"), none, (.seq #[] 0), #[]⟩
noncomputable def z104 (P : Params) : Obj := ⟨.none, none, (.fields #[]), #[]⟩
noncomputable def z105 (P : Params) : Obj := ⟨(.type "tuple"), none, (.seq #[(.str (.ofString "self") 440)] 0), #[]⟩
noncomputable def z106 (P : Params) : Obj := ⟨(.type "tuple"), none, (.seq #[] 0), #[]⟩
noncomputable def z107 (P : Params) : Obj := ⟨.none, none, (.func ⟨(.ofString "__len__"), (.ofString "Headers.__len__"), (mAt 2).1, (.stmts (mAt 2).2.1), (mAt 2).2.2, 0, [], .none, .none, .none, .none, none, .none, .none, 0⟩), #[]⟩
noncomputable def z108 (P : Params) : Obj := ⟨(.type "code"), none, (.fields #[(.str (.ofString "__len__") 437), (.str (.ofString "Headers.__len__") 438), (.str (.ofString "/claim/cut.py") 439), (.int 68 0), (.int 1 0), (.int 0 0), (.int 0 0), (.int 3 0), (.ref 103), (.bool true), (.int 276 0), (.ref 104), .none, (.ref 105), (.ref 106), (.ref 107), (.int 441 0), (.int 68 0), (.str (.ofString "/claim/cut.py") 442)]), #[]⟩
noncomputable def z109 (P : Params) : Obj := fnO (mAt 2) "__len__" "Headers.__len__" .none .none "cpy313.wsgiref.headers" 343 (.ref 108)
noncomputable def z110 (P : Params) : Obj := ⟨(.type "tuple"), none, (.seq #[] 0), #[]⟩
noncomputable def z111 (P : Params) : Obj := ⟨.none, none, (.fields #[]), #[]⟩
noncomputable def z112 (P : Params) : Obj := ⟨(.type "tuple"), none, (.seq #[(.str (.ofString "self") 447), (.str (.ofString "name") 448), (.str (.ofString "val") 449)] 0), #[]⟩
noncomputable def z113 (P : Params) : Obj := ⟨(.type "tuple"), none, (.seq #[] 0), #[]⟩
noncomputable def z114 (P : Params) : Obj := ⟨.none, none, (.func ⟨(.ofString "__setitem__"), (.ofString "Headers.__setitem__"), (mAt 3).1, (.stmts (mAt 3).2.1), (mAt 3).2.2, 0, [], .none, .none, .none, .none, none, .none, .none, 0⟩), #[]⟩
noncomputable def z115 (P : Params) : Obj := ⟨(.type "code"), none, (.fields #[(.str (.ofString "__setitem__") 444), (.str (.ofString "Headers.__setitem__") 445), (.str (.ofString "/claim/cut.py") 446), (.int 71 0), (.int 3 0), (.int 0 0), (.int 0 0), (.int 3 0), (.ref 110), (.bool true), (.int 276 0), (.ref 111), .none, (.ref 112), (.ref 113), (.ref 114), (.int 450 0), (.int 71 0), (.str (.ofString "/claim/cut.py") 451)]), #[]⟩
noncomputable def z116 (P : Params) : Obj := fnO (mAt 3) "__setitem__" "Headers.__setitem__" .none .none "cpy313.wsgiref.headers" 343 (.ref 115)
noncomputable def z117 (P : Params) : Obj := ⟨(.type "tuple"), none, (.seq #[] 0), #[]⟩
noncomputable def z118 (P : Params) : Obj := ⟨.none, none, (.fields #[]), #[]⟩
noncomputable def z119 (P : Params) : Obj := ⟨.none, none, (.func ⟨(.ofString "__delitem__"), (.ofString "Headers.__delitem__"), (mAt 4).1, (.stmts (mAt 4).2.1), (mAt 4).2.2, 0, [], .none, .none, .none, .none, none, .none, .none, 0⟩), #[]⟩
noncomputable def z120 (P : Params) : Obj := ⟨(.type "code"), none, (.fields #[(.str (.ofString "__delitem__") 453), (.str (.ofString "Headers.__delitem__") 454), (.str (.ofString "/claim/cut.py") 455), (.int 75 0), (.int 2 0), (.int 0 0), (.int 0 0), (.int 3 0), (.ref 117), (.bool true), (.int 276 0), (.ref 118), .none, .none, .none, (.ref 119), (.int 456 0), (.int 75 0), (.str (.ofString "/claim/cut.py") 457)]), #[]⟩
noncomputable def z121 (P : Params) : Obj := fnO (mAt 4) "__delitem__" "Headers.__delitem__" .none .none "cpy313.wsgiref.headers" 343 (.ref 120)
noncomputable def z122 (P : Params) : Obj := ⟨(.type "tuple"), none, (.seq #[] 0), #[]⟩
noncomputable def z123 (P : Params) : Obj := ⟨.none, none, (.fields #[]), #[]⟩
noncomputable def z124 (P : Params) : Obj := ⟨(.type "tuple"), none, (.seq #[(.str (.ofString "self") 462), (.str (.ofString "name") 463)] 0), #[]⟩
noncomputable def z125 (P : Params) : Obj := ⟨(.type "tuple"), none, (.seq #[] 0), #[]⟩
noncomputable def z126 (P : Params) : Obj := ⟨.none, none, (.func ⟨(.ofString "__getitem__"), (.ofString "Headers.__getitem__"), (mAt 5).1, (.stmts (mAt 5).2.1), (mAt 5).2.2, 0, [], .none, .none, .none, .none, none, .none, .none, 0⟩), #[]⟩
noncomputable def z127 (P : Params) : Obj := ⟨(.type "code"), none, (.fields #[(.str (.ofString "__getitem__") 459), (.str (.ofString "Headers.__getitem__") 460), (.str (.ofString "/claim/cut.py") 461), (.int 79 0), (.int 2 0), (.int 0 0), (.int 0 0), (.int 3 0), (.ref 122), (.bool true), (.int 276 0), (.ref 123), .none, (.ref 124), (.ref 125), (.ref 126), (.int 464 0), (.int 79 0), (.str (.ofString "/claim/cut.py") 465)]), #[]⟩
noncomputable def z128 (P : Params) : Obj := fnO (mAt 5) "__getitem__" "Headers.__getitem__" .none .none "cpy313.wsgiref.headers" 343 (.ref 127)
noncomputable def z129 (P : Params) : Obj := ⟨(.type "tuple"), none, (.seq #[] 0), #[]⟩
noncomputable def z130 (P : Params) : Obj := ⟨.none, none, (.fields #[]), #[]⟩
noncomputable def z131 (P : Params) : Obj := ⟨(.type "tuple"), none, (.seq #[(.str (.ofString "self") 470), (.str (.ofString "name") 471)] 0), #[]⟩
noncomputable def z132 (P : Params) : Obj := ⟨(.type "tuple"), none, (.seq #[] 0), #[]⟩
noncomputable def z133 (P : Params) : Obj := ⟨.none, none, (.func ⟨(.ofString "__contains__"), (.ofString "Headers.__contains__"), (mAt 6).1, (.stmts (mAt 6).2.1), (mAt 6).2.2, 0, [], .none, .none, .none, .none, none, .none, .none, 0⟩), #[]⟩
noncomputable def z134 (P : Params) : Obj := ⟨(.type "code"), none, (.fields #[(.str (.ofString "__contains__") 467), (.str (.ofString "Headers.__contains__") 468), (.str (.ofString "/claim/cut.py") 469), (.int 82 0), (.int 2 0), (.int 0 0), (.int 0 0), (.int 3 0), (.ref 129), (.bool true), (.int 276 0), (.ref 130), .none, (.ref 131), (.ref 132), (.ref 133), (.int 472 0), (.int 82 0), (.str (.ofString "/claim/cut.py") 473)]), #[]⟩
noncomputable def z135 (P : Params) : Obj := fnO (mAt 6) "__contains__" "Headers.__contains__" .none .none "cpy313.wsgiref.headers" 343 (.ref 134)
noncomputable def z136 (P : Params) : Obj := ⟨(.type "tuple"), none, (.seq #[] 0), #[]⟩
noncomputable def z137 (P : Params) : Obj := ⟨.none, none, (.fields #[]), #[]⟩
noncomputable def z138 (P : Params) : Obj := ⟨(.type "tuple"), none, (.seq #[(.str (.ofString "self") 478), (.str (.ofString "name") 479)] 0), #[]⟩
noncomputable def z139 (P : Params) : Obj := ⟨(.type "tuple"), none, (.seq #[] 0), #[]⟩
noncomputable def z140 (P : Params) : Obj := ⟨.none, none, (.func ⟨(.ofString "get_all"), (.ofString "Headers.get_all"), (mAt 7).1, (.stmts (mAt 7).2.1), (mAt 7).2.2, 0, [], .none, .none, .none, .none, none, .none, .none, 0⟩), #[]⟩
noncomputable def z141 (P : Params) : Obj := ⟨(.type "code"), none, (.fields #[(.str (.ofString "get_all") 475), (.str (.ofString "Headers.get_all") 476), (.str (.ofString "/claim/cut.py") 477), (.int 85 0), (.int 2 0), (.int 0 0), (.int 0 0), (.int 3 0), (.ref 136), (.bool true), (.int 276 0), (.ref 137), .none, (.ref 138), (.ref 139), (.ref 140), (.int 480 0), (.int 85 0), (.str (.ofString "/claim/cut.py") 481)]), #[]⟩
noncomputable def z142 (P : Params) : Obj := fnO (mAt 7) "get_all" "Headers.get_all" .none .none "cpy313.wsgiref.headers" 343 (.ref 141)
noncomputable def z143 (P : Params) : Obj := ⟨(.type "tuple"), none, (.seq #[.none] 0), #[]⟩
noncomputable def z144 (P : Params) : Obj := ⟨(.type "tuple"), none, (.seq #[] 0), #[]⟩
noncomputable def z145 (P : Params) : Obj := ⟨.none, none, (.fields #[]), #[]⟩
noncomputable def z146 (P : Params) : Obj := ⟨(.type "tuple"), none, (.seq #[(.str (.ofString "self") 486), (.str (.ofString "name") 487), (.str (.ofString "default") 488), (.str (.ofString "k") 489), (.str (.ofString "v") 490)] 0), #[]⟩
noncomputable def z147 (P : Params) : Obj := ⟨(.type "tuple"), none, (.seq #[] 0), #[]⟩
noncomputable def z148 (P : Params) : Obj := ⟨.none, none, (.func ⟨(.ofString "get"), (.ofString "Headers.get"), (mAt 8).1, (.stmts (mAt 8).2.1), (mAt 8).2.2, 0, [], .none, .none, .none, .none, none, .none, .none, 0⟩), #[]⟩
noncomputable def z149 (P : Params) : Obj := ⟨(.type "code"), none, (.fields #[(.str (.ofString "get") 483), (.str (.ofString "Headers.get") 484), (.str (.ofString "/claim/cut.py") 485), (.int 88 0), (.int 3 0), (.int 0 0), (.int 0 0), (.int 3 0), (.ref 144), (.bool true), (.int 276 0), (.ref 145), .none, (.ref 146), (.ref 147), (.ref 148), (.int 491 0), (.int 88 0), (.str (.ofString "/claim/cut.py") 492)]), #[]⟩
noncomputable def z150 (P : Params) : Obj := fnO (mAt 8) "get" "Headers.get" (.ref 143) .none "cpy313.wsgiref.headers" 343 (.ref 149)
noncomputable def z151 (P : Params) : Obj := ⟨(.type "tuple"), none, (.seq #[] 0), #[]⟩
noncomputable def z152 (P : Params) : Obj := ⟨.none, none, (.fields #[]), #[]⟩
noncomputable def z153 (P : Params) : Obj := ⟨.none, none, (.func ⟨(.ofString "keys"), (.ofString "Headers.keys"), (mAt 9).1, (.stmts (mAt 9).2.1), (mAt 9).2.2, 0, [], .none, .none, .none, .none, none, .none, .none, 0⟩), #[]⟩
noncomputable def z154 (P : Params) : Obj := ⟨(.type "code"), none, (.fields #[(.str (.ofString "keys") 494), (.str (.ofString "Headers.keys") 495), (.str (.ofString "/claim/cut.py") 496), (.int 95 0), (.int 1 0), (.int 0 0), (.int 0 0), (.int 3 0), (.ref 151), (.bool true), (.int 276 0), (.ref 152), .none, .none, .none, (.ref 153), (.int 497 0), (.int 95 0), (.str (.ofString "/claim/cut.py") 498)]), #[]⟩
noncomputable def z155 (P : Params) : Obj := fnO (mAt 9) "keys" "Headers.keys" .none .none "cpy313.wsgiref.headers" 343 (.ref 154)
noncomputable def z156 (P : Params) : Obj := ⟨(.type "tuple"), none, (.seq #[] 0), #[]⟩
noncomputable def z157 (P : Params) : Obj := ⟨.none, none, (.fields #[]), #[]⟩
noncomputable def z158 (P : Params) : Obj := ⟨.none, none, (.func ⟨(.ofString "values"), (.ofString "Headers.values"), (mAt 10).1, (.stmts (mAt 10).2.1), (mAt 10).2.2, 0, [], .none, .none, .none, .none, none, .none, .none, 0⟩), #[]⟩
noncomputable def z159 (P : Params) : Obj := ⟨(.type "code"), none, (.fields #[(.str (.ofString "values") 500), (.str (.ofString "Headers.values") 501), (.str (.ofString "/claim/cut.py") 502), (.int 98 0), (.int 1 0), (.int 0 0), (.int 0 0), (.int 3 0), (.ref 156), (.bool true), (.int 276 0), (.ref 157), .none, .none, .none, (.ref 158), (.int 503 0), (.int 98 0), (.str (.ofString "/claim/cut.py") 504)]), #[]⟩
noncomputable def z160 (P : Params) : Obj := fnO (mAt 10) "values" "Headers.values" .none .none "cpy313.wsgiref.headers" 343 (.ref 159)
noncomputable def z161 (P : Params) : Obj := ⟨(.type "tuple"), none, (.seq #[] 0), #[]⟩
noncomputable def z162 (P : Params) : Obj := ⟨.none, none, (.fields #[]), #[]⟩
noncomputable def z163 (P : Params) : Obj := ⟨(.type "tuple"), none, (.seq #[(.str (.ofString "self") 509)] 0), #[]⟩
noncomputable def z164 (P : Params) : Obj := ⟨(.type "tuple"), none, (.seq #[] 0), #[]⟩
noncomputable def z165 (P : Params) : Obj := ⟨.none, none, (.func ⟨(.ofString "items"), (.ofString "Headers.items"), (mAt 11).1, (.stmts (mAt 11).2.1), (mAt 11).2.2, 0, [], .none, .none, .none, .none, none, .none, .none, 0⟩), #[]⟩
noncomputable def z166 (P : Params) : Obj := ⟨(.type "code"), none, (.fields #[(.str (.ofString "items") 506), (.str (.ofString "Headers.items") 507), (.str (.ofString "/claim/cut.py") 508), (.int 101 0), (.int 1 0), (.int 0 0), (.int 0 0), (.int 3 0), (.ref 161), (.bool true), (.int 276 0), (.ref 162), .none, (.ref 163), (.ref 164), (.ref 165), (.int 510 0), (.int 101 0), (.str (.ofString "/claim/cut.py") 511)]), #[]⟩
noncomputable def z167 (P : Params) : Obj := fnO (mAt 11) "items" "Headers.items" .none .none "cpy313.wsgiref.headers" 343 (.ref 166)
noncomputable def z168 (P : Params) : Obj := ⟨(.type "tuple"), none, (.seq #[] 0), #[]⟩
noncomputable def z169 (P : Params) : Obj := ⟨.none, none, (.fields #[]), #[]⟩
noncomputable def z170 (P : Params) : Obj := ⟨(.type "tuple"), none, (.seq #[(.str (.ofString "self") 516)] 0), #[]⟩
noncomputable def z171 (P : Params) : Obj := ⟨(.type "tuple"), none, (.seq #[] 0), #[]⟩
noncomputable def z172 (P : Params) : Obj := ⟨.none, none, (.func ⟨(.ofString "__repr__"), (.ofString "Headers.__repr__"), (mAt 12).1, (.stmts (mAt 12).2.1), (mAt 12).2.2, 0, [], .none, .none, .none, .none, none, .none, .none, 0⟩), #[]⟩
noncomputable def z173 (P : Params) : Obj := ⟨(.type "code"), none, (.fields #[(.str (.ofString "__repr__") 513), (.str (.ofString "Headers.__repr__") 514), (.str (.ofString "/claim/cut.py") 515), (.int 104 0), (.int 1 0), (.int 0 0), (.int 0 0), (.int 3 0), (.ref 168), (.bool true), (.int 276 0), (.ref 169), .none, (.ref 170), (.ref 171), (.ref 172), (.int 517 0), (.int 104 0), (.str (.ofString "/claim/cut.py") 518)]), #[]⟩
noncomputable def z174 (P : Params) : Obj := fnO (mAt 12) "__repr__" "Headers.__repr__" .none .none "cpy313.wsgiref.headers" 343 (.ref 173)
noncomputable def z175 (P : Params) : Obj := ⟨(.type "tuple"), none, (.seq #[] 0), #[]⟩
noncomputable def z176 (P : Params) : Obj := ⟨.none, none, (.fields #[]), #[]⟩
noncomputable def z177 (P : Params) : Obj := ⟨.none, none, (.func ⟨(.ofString "__str__"), (.ofString "Headers.__str__"), (mAt 13).1, (.stmts (mAt 13).2.1), (mAt 13).2.2, 0, [], .none, .none, .none, .none, none, .none, .none, 0⟩), #[]⟩
noncomputable def z178 (P : Params) : Obj := ⟨(.type "code"), none, (.fields #[(.str (.ofString "__str__") 520), (.str (.ofString "Headers.__str__") 521), (.str (.ofString "/claim/cut.py") 522), (.int 107 0), (.int 1 0), (.int 0 0), (.int 0 0), (.int 3 0), (.ref 175), (.bool true), (.int 276 0), (.ref 176), .none, .none, .none, (.ref 177), (.int 523 0), (.int 107 0), (.str (.ofString "/claim/cut.py") 524)]), #[]⟩
noncomputable def z179 (P : Params) : Obj := fnO (mAt 13) "__str__" "Headers.__str__" .none .none "cpy313.wsgiref.headers" 343 (.ref 178)
noncomputable def z180 (P : Params) : Obj := ⟨(.type "tuple"), none, (.seq #[] 0), #[]⟩
noncomputable def z181 (P : Params) : Obj := ⟨.none, none, (.fields #[]), #[]⟩
noncomputable def z182 (P : Params) : Obj := ⟨(.type "tuple"), none, (.seq #[(.str (.ofString "self") 529)] 0), #[]⟩
noncomputable def z183 (P : Params) : Obj := ⟨(.type "tuple"), none, (.seq #[] 0), #[]⟩
noncomputable def z184 (P : Params) : Obj := ⟨.none, none, (.func ⟨(.ofString "__bytes__"), (.ofString "Headers.__bytes__"), (mAt 14).1, (.stmts (mAt 14).2.1), (mAt 14).2.2, 0, [], .none, .none, .none, .none, none, .none, .none, 0⟩), #[]⟩
noncomputable def z185 (P : Params) : Obj := ⟨(.type "code"), none, (.fields #[(.str (.ofString "__bytes__") 526), (.str (.ofString "Headers.__bytes__") 527), (.str (.ofString "/claim/cut.py") 528), (.int 110 0), (.int 1 0), (.int 0 0), (.int 0 0), (.int 3 0), (.ref 180), (.bool true), (.int 276 0), (.ref 181), .none, (.ref 182), (.ref 183), (.ref 184), (.int 530 0), (.int 110 0), (.str (.ofString "/claim/cut.py") 531)]), #[]⟩
noncomputable def z186 (P : Params) : Obj := fnO (mAt 14) "__bytes__" "Headers.__bytes__" .none .none "cpy313.wsgiref.headers" 343 (.ref 185)
noncomputable def z187 (P : Params) : Obj := ⟨(.type "tuple"), none, (.seq #[] 0), #[]⟩
noncomputable def z188 (P : Params) : Obj := ⟨.none, none, (.fields #[]), #[]⟩
noncomputable def z189 (P : Params) : Obj := ⟨(.type "tuple"), none, (.seq #[(.str (.ofString "self") 536), (.str (.ofString "name") 537), (.str (.ofString "value") 538), (.str (.ofString "result") 539)] 0), #[]⟩
noncomputable def z190 (P : Params) : Obj := ⟨(.type "tuple"), none, (.seq #[] 0), #[]⟩
noncomputable def z191 (P : Params) : Obj := ⟨.none, none, (.func ⟨(.ofString "setdefault"), (.ofString "Headers.setdefault"), (mAt 15).1, (.stmts (mAt 15).2.1), (mAt 15).2.2, 0, [], .none, .none, .none, .none, none, .none, .none, 0⟩), #[]⟩
noncomputable def z192 (P : Params) : Obj := ⟨(.type "code"), none, (.fields #[(.str (.ofString "setdefault") 533), (.str (.ofString "Headers.setdefault") 534), (.str (.ofString "/claim/cut.py") 535), (.int 113 0), (.int 3 0), (.int 0 0), (.int 0 0), (.int 3 0), (.ref 187), (.bool true), (.int 276 0), (.ref 188), .none, (.ref 189), (.ref 190), (.ref 191), (.int 540 0), (.int 113 0), (.str (.ofString "/claim/cut.py") 541)]), #[]⟩
noncomputable def z193 (P : Params) : Obj := fnO (mAt 15) "setdefault" "Headers.setdefault" .none .none "cpy313.wsgiref.headers" 343 (.ref 192)
noncomputable def z194 (P : Params) : Obj := ⟨(.type "tuple"), none, (.seq #[] 0), #[]⟩
noncomputable def z195 (P : Params) : Obj := ⟨.none, none, (.fields #[]), #[]⟩
noncomputable def z196 (P : Params) : Obj := ⟨(.type "tuple"), none, (.seq #[(.str (.ofString "self") 546), (.str (.ofString "_name") 547), (.str (.ofString "_value") 548), (.str (.ofString "_params") 549)] 0), #[]⟩
noncomputable def z197 (P : Params) : Obj := ⟨(.type "tuple"), none, (.seq #[] 0), #[]⟩
noncomputable def z198 (P : Params) : Obj := ⟨.none, none, (.func ⟨(.ofString "add_header"), (.ofString "Headers.add_header"), (mAt 16).1, (.stmts (mAt 16).2.1), (mAt 16).2.2, 0, [], .none, .none, .none, .none, none, .none, .none, 0⟩), #[]⟩
noncomputable def z199 (P : Params) : Obj := ⟨(.type "code"), none, (.fields #[(.str (.ofString "add_header") 543), (.str (.ofString "Headers.add_header") 544), (.str (.ofString "/claim/cut.py") 545), (.int 121 0), (.int 3 0), (.int 0 0), (.int 0 0), (.int 11 0), (.ref 194), (.bool true), (.int 276 0), (.ref 195), .none, (.ref 196), (.ref 197), (.ref 198), (.int 550 0), (.int 121 0), (.str (.ofString "/claim/cut.py") 551)]), #[]⟩
noncomputable def z200 (P : Params) : Obj := fnO (mAt 16) "add_header" "Headers.add_header" .none .none "cpy313.wsgiref.headers" 343 (.ref 199)
noncomputable def z201 (P : Params) : Obj := ⟨(.type "tuple"), none, (.seq #[(.str (.ofString "_headers") 553)] 0), #[]⟩
noncomputable def z202 (P : Params) : Obj := ⟨(.type "dict"), none, (.dict #[⟨(hP P "__module__"), (.str (.ofString "__module__") 412), (.str (.ofString "cpy313.wsgiref.headers") 343)⟩, ⟨(hP P "__firstlineno__"), (.str (.ofString "__firstlineno__") 416), (.int 48 415)⟩, ⟨(hP P "__init__"), (.str (.ofString "__init__") 426), (.ref 95)⟩, ⟨(hP P "_convert_string_type"), (.str (.ofString "_convert_string_type") 436), (.ref 102)⟩, ⟨(hP P "__len__"), (.str (.ofString "__len__") 443), (.ref 109)⟩, ⟨(hP P "__setitem__"), (.str (.ofString "__setitem__") 452), (.ref 116)⟩, ⟨(hP P "__delitem__"), (.str (.ofString "__delitem__") 458), (.ref 121)⟩, ⟨(hP P "__getitem__"), (.str (.ofString "__getitem__") 466), (.ref 128)⟩, ⟨(hP P "__contains__"), (.str (.ofString "__contains__") 474), (.ref 135)⟩, ⟨(hP P "get_all"), (.str (.ofString "get_all") 482), (.ref 142)⟩, ⟨(hP P "get"), (.str (.ofString "get") 493), (.ref 150)⟩, ⟨(hP P "keys"), (.str (.ofString "keys") 499), (.ref 155)⟩, ⟨(hP P "values"), (.str (.ofString "values") 505), (.ref 160)⟩, ⟨(hP P "items"), (.str (.ofString "items") 512), (.ref 167)⟩, ⟨(hP P "__repr__"), (.str (.ofString "__repr__") 519), (.ref 174)⟩, ⟨(hP P "__str__"), (.str (.ofString "__str__") 525), (.ref 179)⟩, ⟨(hP P "__bytes__"), (.str (.ofString "__bytes__") 532), (.ref 186)⟩, ⟨(hP P "setdefault"), (.str (.ofString "setdefault") 542), (.ref 193)⟩, ⟨(hP P "add_header"), (.str (.ofString "add_header") 552), (.ref 200)⟩, ⟨(hP P "__static_attributes__"), (.str (.ofString "__static_attributes__") 554), (.ref 201)⟩, ⟨(hP P "__dict__"), (.str (.ofString "__dict__") 556), (.ref 204)⟩, ⟨(hP P "__weakref__"), (.str (.ofString "__weakref__") 558), (.ref 205)⟩, ⟨(hP P "__doc__"), (.str (.ofString "__doc__") 559), .none⟩] 4), #[]⟩
noncomputable def z203 (P : Params) : Obj := ⟨(.type "type"), none, (.cls ⟨(.ofString "Headers"), [(.type "object")], [(.ref 203), (.type "object")], 202, (.ofString "Headers"), true, [], [], false, none, false⟩), #[none, none, (some (.str (.ofString "Headers") 405)), (some (.str (.ofString "Headers") 413)), (some (.builtin "object.__new__")), (some (.bool true))]⟩
noncomputable def z204 (P : Params) : Obj := ⟨(.type "getset_descriptor"), none, (.fields #[(.str (.ofString "__dict__") 555), (.ref 203), (.builtin "function.__dict__"), (.builtin "function.__dict__#set")]), #[]⟩
noncomputable def z205 (P : Params) : Obj := ⟨(.type "getset_descriptor"), none, (.fields #[(.str (.ofString "__weakref__") 557), (.ref 203), (.builtin "ExceptionGroup.__weakref__"), .none]), #[]⟩
noncomputable def z206 (P : Params) : Obj := ⟨(.type "super"), none, (.fields #[(.ref 203), (.ref 203), (.ref 203)]), #[]⟩
noncomputable def z207 (P : Params) : Obj := ⟨(.type "builtin_function_or_method"), none, (.fields #[(.builtin "object.__init_subclass__"), (.ref 203)]), #[]⟩
noncomputable def hS2 (P : Params) : Heap := ⟨⟨z0 P :: z1 P :: z2 P :: z3v5 P :: z4 P :: z5 P :: z6 P :: z7 P :: z8 P :: z9 P :: z10 P :: z11 P :: z12 P :: z13 P :: z14 P :: z15 P :: z16 P :: z17 P :: z18 P :: z19 P :: z20 P :: z21 P :: z22 P :: z23 P :: z24 P :: z25 P :: z26 P :: z27 P :: z28 P :: z29v5 P :: z30 P :: z31 P :: z32 P :: z33 P :: z34 P :: z35 P :: z36 P :: z37 P :: z38 P :: z39 P :: z40 P :: z41 P :: z42 P :: z43 P :: z44 P :: z45 P :: z46 P :: z47 P :: z48 P :: z49 P :: z50 P :: z51 P :: z52 P :: z53 P :: z54 P :: z55 P :: z56 P :: z57 P :: z58 P :: z59 P :: z60 P :: z61 P :: z62 P :: z63 P :: z64 P :: z65 P :: z66 P :: z67 P :: z68 P :: z69 P :: z70 P :: z71 P :: z72 P :: z73 P :: z74 P :: z75 P :: z76 P :: z77 P :: z78 P :: z79 P :: z80 P :: z81 P :: z82 P :: z83 P :: z84 P :: z85 P :: z86 P :: z87 P :: z88 P :: z89 P :: z90 P :: z91 P :: z92 P :: z93 P :: z94 P :: z95 P :: z96 P :: z97 P :: z98 P :: z99 P :: z100 P :: z101 P :: z102 P :: z103 P :: z104 P :: z105 P :: z106 P :: z107 P :: z108 P :: z109 P :: z110 P :: z111 P :: z112 P :: z113 P :: z114 P :: z115 P :: z116 P :: z117 P :: z118 P :: z119 P :: z120 P :: z121 P :: z122 P :: z123 P :: z124 P :: z125 P :: z126 P :: z127 P :: z128 P :: z129 P :: z130 P :: z131 P :: z132 P :: z133 P :: z134 P :: z135 P :: z136 P :: z137 P :: z138 P :: z139 P :: z140 P :: z141 P :: z142 P :: z143 P :: z144 P :: z145 P :: z146 P :: z147 P :: z148 P :: z149 P :: z150 P :: z151 P :: z152 P :: z153 P :: z154 P :: z155 P :: z156 P :: z157 P :: z158 P :: z159 P :: z160 P :: z161 P :: z162 P :: z163 P :: z164 P :: z165 P :: z166 P :: z167 P :: z168 P :: z169 P :: z170 P :: z171 P :: z172 P :: z173 P :: z174 P :: z175 P :: z176 P :: z177 P :: z178 P :: z179 P :: z180 P :: z181 P :: z182 P :: z183 P :: z184 P :: z185 P :: z186 P :: z187 P :: z188 P :: z189 P :: z190 P :: z191 P :: z192 P :: z193 P :: z194 P :: z195 P :: z196 P :: z197 P :: z198 P :: z199 P :: z200 P :: z201 P :: z202 P :: z203 P :: z204 P :: z205 P :: z206 P :: z207 P :: []⟩, ⟨[], [], [], 0, [], [], false, #[], [], 0, false, false, false, 0, [2000, 10, 10], false, 0, true, [], [], 0, false⟩⟩
noncomputable def z3v6 (P : Params) : Obj := ⟨(.type "dict"), none, (.dict (List.toArray (⟨(hP P "__name__"), (.str (.ofString "__name__") 165), (.str (.ofString "law_to0046_01") 562)⟩ :: ⟨(hP P "__doc__"), (.str (.ofString "__doc__") 166), .none⟩ :: ⟨(hP P "__package__"), (.str (.ofString "__package__") 167), .none⟩ :: ⟨(hP P "__loader__"), (.str (.ofString "__loader__") 168), (.builtin "__main__.__loader__#\x6fpaque")⟩ :: ⟨(hP P "__spec__"), (.str (.ofString "__spec__") 169), .none⟩ :: ⟨(hP P "__annotations__"), (.str (.ofString "__annotations__") 170), (.ref 6)⟩ :: ⟨(hP P "__builtins__"), (.str (.ofString "__builtins__") 171), (.ref 4)⟩ :: ⟨(hP P "__file__"), (.str (.ofString "__file__") 173), (.str (.ofString "/claim/cut.py") 172)⟩ :: ⟨(hP P "__cached__"), (.str (.ofString "__cached__") 174), .none⟩ :: ⟨(hP P "_sre"), (.str (.ofString "_sre") 275), (.ref 12)⟩ :: ⟨(hP P "_wall"), (.str (.ofString "_wall") 288), (.ref 38)⟩ :: ⟨(hP P "_MOVE_COST"), (.str (.ofString "_MOVE_COST") 292), (.int 2 291)⟩ :: ⟨(hP P "_CASE_COST"), (.str (.ofString "_CASE_COST") 294), (.int 1 293)⟩ :: ⟨(hP P "_substitution_cost"), (.str (.ofString "_substitution_cost") 302), (.ref 45)⟩ :: ⟨(hP P "insort_left"), (.str (.ofString "insort_left") 317), (.ref 54)⟩ :: ⟨(hP P "bisect_left"), (.str (.ofString "bisect_left") 331), (.ref 63)⟩ :: ⟨(hP P "ENDMARKER"), (.str (.ofString "ENDMARKER") 335), (.int 0 334)⟩ :: ⟨(hP P "ISEOF"), (.str (.ofString "ISEOF") 342), (.ref 70)⟩ :: ⟨(hP P "_name_disallowed_re"), (.str (.ofString "_name_disallowed_re") 370), (.ref 75)⟩ :: ⟨(hP P "_value_disallowed_re"), (.str (.ofString "_value_disallowed_re") 404), (.ref 80)⟩ :: ⟨(hP P "Headers"), (.str (.ofString "Headers") 561), (.ref 203)⟩ :: ⟨(hP P "_law_added"), (.str (.ofString "_law_added") 569), (.ref 212)⟩ :: ⟨(hP P "_law_name"), (.str (.ofString "_law_name") 575), (.ref 217)⟩ :: ⟨(hP P "_law_start"), (.str (.ofString "_law_start") 585), (.ref 224)⟩ :: ⟨(hP P "_law_turned"), (.str (.ofString "_law_turned") 591), (.ref 229)⟩ :: ⟨(hP P "_law_spoilt"), (.str (.ofString "_law_spoilt") 604), (.ref 236)⟩ :: ⟨(hP P "_law_settled"), (.str (.ofString "_law_settled") 618), (.ref 243)⟩ :: ⟨(hP P "_law_numbers"), (.str (.ofString "_law_numbers") 624), (.ref 248)⟩ :: ⟨(hP P "_law_reached"), (.str (.ofString "_law_reached") 630), (.ref 253)⟩ :: ⟨(hP P "_law_whole"), (.str (.ofString "_law_whole") 636), (.ref 258)⟩ :: ⟨(hP P "_law_faces"), (.str (.ofString "_law_faces") 642), (.ref 263)⟩ :: ⟨(hP P "_law_three"), (.str (.ofString "_law_three") 652), (.ref 270)⟩ :: ⟨(hP P "_law_volume"), (.str (.ofString "_law_volume") 665), (.ref 277)⟩ :: ⟨(hP P "law"), (.str (.ofString "law") 671), (.ref 282)⟩ :: [])) 34), #[]⟩
noncomputable def z29v6 (P : Params) : Obj := ⟨.none, none, (.fields (List.toArray ((.int 2 0) :: (.int 0 0) :: (.ref 37) :: (.int 8 0) :: (.int 0 0) :: (.ref 44) :: (.int 15 0) :: (.int 0 0) :: (.ref 53) :: (.int 21 0) :: (.int 0 0) :: (.ref 62) :: (.int 43 0) :: (.int 0 0) :: (.ref 69) :: (.int 48 0) :: (.int 0 0) :: (.ref 86) :: (.int 124 0) :: (.int 0 0) :: (.ref 211) :: (.int 126 0) :: (.int 0 0) :: (.ref 216) :: (.int 128 0) :: (.int 0 0) :: (.ref 223) :: (.int 135 0) :: (.int 0 0) :: (.ref 228) :: (.int 150 0) :: (.int 0 0) :: (.ref 235) :: (.int 156 0) :: (.int 0 0) :: (.ref 242) :: (.int 167 0) :: (.int 0 0) :: (.ref 247) :: (.int 173 0) :: (.int 0 0) :: (.ref 252) :: (.int 181 0) :: (.int 0 0) :: (.ref 257) :: (.int 183 0) :: (.int 0 0) :: (.ref 262) :: (.int 188 0) :: (.int 0 0) :: (.ref 269) :: (.int 194 0) :: (.int 0 0) :: (.ref 276) :: (.int 198 0) :: (.int 0 0) :: (.ref 281) :: []))), #[]⟩
noncomputable def z208 (P : Params) : Obj := ⟨(.type "tuple"), none, (.seq #[] 0), #[]⟩
noncomputable def z209 (P : Params) : Obj := ⟨.none, none, (.fields #[]), #[]⟩
noncomputable def z210 (P : Params) : Obj := ⟨.none, none, (.func ⟨(.ofString "_law_added"), (.ofString "_law_added"), (dAt 17).1, (.stmts (dAt 17).2.1), (dAt 17).2.2, 0, [], .none, .none, .none, .none, none, .none, .none, 0⟩), #[]⟩
noncomputable def z211 (P : Params) : Obj := ⟨(.type "code"), none, (.fields #[(.str (.ofString "_law_added") 564), (.str (.ofString "_law_added") 565), (.str (.ofString "/claim/cut.py") 566), (.int 124 0), (.int 2 0), (.int 0 0), (.int 0 0), (.int 3 0), (.ref 208), (.bool true), (.int 276 0), (.ref 209), .none, .none, .none, (.ref 210), (.int 567 0), (.int 124 0), (.str (.ofString "/claim/cut.py") 568)]), #[]⟩
noncomputable def z212 (P : Params) : Obj := fnO (dAt 17) "_law_added" "_law_added" .none .none "law_to0046_01" 562 (.ref 211)
noncomputable def z213 (P : Params) : Obj := ⟨(.type "tuple"), none, (.seq #[] 0), #[]⟩
noncomputable def z214 (P : Params) : Obj := ⟨.none, none, (.fields #[]), #[]⟩
noncomputable def z215 (P : Params) : Obj := ⟨.none, none, (.func ⟨(.ofString "_law_name"), (.ofString "_law_name"), (dAt 18).1, (.stmts (dAt 18).2.1), (dAt 18).2.2, 0, [], .none, .none, .none, .none, none, .none, .none, 0⟩), #[]⟩
noncomputable def z216 (P : Params) : Obj := ⟨(.type "code"), none, (.fields #[(.str (.ofString "_law_name") 570), (.str (.ofString "_law_name") 571), (.str (.ofString "/claim/cut.py") 572), (.int 126 0), (.int 1 0), (.int 0 0), (.int 0 0), (.int 3 0), (.ref 213), (.bool true), (.int 276 0), (.ref 214), .none, .none, .none, (.ref 215), (.int 573 0), (.int 126 0), (.str (.ofString "/claim/cut.py") 574)]), #[]⟩
noncomputable def z217 (P : Params) : Obj := fnO (dAt 18) "_law_name" "_law_name" .none .none "law_to0046_01" 562 (.ref 216)
noncomputable def z218 (P : Params) : Obj := ⟨(.type "tuple"), none, (.seq #[] 0), #[]⟩
noncomputable def z219 (P : Params) : Obj := ⟨.none, none, (.fields #[]), #[]⟩
noncomputable def z220 (P : Params) : Obj := ⟨(.type "tuple"), none, (.seq #[(.str (.ofString "code") 579), (.str (.ofString "six") 580), (.str (.ofString "left") 581), (.str (.ofString "t") 582)] 0), #[]⟩
noncomputable def z221 (P : Params) : Obj := ⟨(.type "tuple"), none, (.seq #[] 0), #[]⟩
noncomputable def z222 (P : Params) : Obj := ⟨.none, none, (.func ⟨(.ofString "_law_start"), (.ofString "_law_start"), (dAt 19).1, (.stmts (dAt 19).2.1), (dAt 19).2.2, 0, [], .none, .none, .none, .none, none, .none, .none, 0⟩), #[]⟩
noncomputable def z223 (P : Params) : Obj := ⟨(.type "code"), none, (.fields #[(.str (.ofString "_law_start") 576), (.str (.ofString "_law_start") 577), (.str (.ofString "/claim/cut.py") 578), (.int 128 0), (.int 1 0), (.int 0 0), (.int 0 0), (.int 3 0), (.ref 218), (.bool true), (.int 276 0), (.ref 219), .none, (.ref 220), (.ref 221), (.ref 222), (.int 583 0), (.int 128 0), (.str (.ofString "/claim/cut.py") 584)]), #[]⟩
noncomputable def z224 (P : Params) : Obj := fnO (dAt 19) "_law_start" "_law_start" .none .none "law_to0046_01" 562 (.ref 223)
noncomputable def z225 (P : Params) : Obj := ⟨(.type "tuple"), none, (.seq #[] 0), #[]⟩
noncomputable def z226 (P : Params) : Obj := ⟨.none, none, (.fields #[]), #[]⟩
noncomputable def z227 (P : Params) : Obj := ⟨.none, none, (.func ⟨(.ofString "_law_turned"), (.ofString "_law_turned"), (dAt 20).1, (.stmts (dAt 20).2.1), (dAt 20).2.2, 0, [], .none, .none, .none, .none, none, .none, .none, 0⟩), #[]⟩
noncomputable def z228 (P : Params) : Obj := ⟨(.type "code"), none, (.fields #[(.str (.ofString "_law_turned") 586), (.str (.ofString "_law_turned") 587), (.str (.ofString "/claim/cut.py") 588), (.int 135 0), (.int 4 0), (.int 0 0), (.int 0 0), (.int 3 0), (.ref 225), (.bool true), (.int 276 0), (.ref 226), .none, .none, .none, (.ref 227), (.int 589 0), (.int 135 0), (.str (.ofString "/claim/cut.py") 590)]), #[]⟩
noncomputable def z229 (P : Params) : Obj := fnO (dAt 20) "_law_turned" "_law_turned" .none .none "law_to0046_01" 562 (.ref 228)
noncomputable def z230 (P : Params) : Obj := ⟨(.type "tuple"), none, (.seq #[] 0), #[]⟩
noncomputable def z231 (P : Params) : Obj := ⟨.none, none, (.fields #[]), #[]⟩
noncomputable def z232 (P : Params) : Obj := ⟨(.type "tuple"), none, (.seq #[(.str (.ofString "start") 595), (.str (.ofString "born") 596), (.str (.ofString "code") 597), (.str (.ofString "six") 598), (.str (.ofString "words") 599), (.str (.ofString "k") 600), (.str (.ofString "draw") 601)] 0), #[]⟩
noncomputable def z233 (P : Params) : Obj := ⟨(.type "tuple"), none, (.seq #[] 0), #[]⟩
noncomputable def z234 (P : Params) : Obj := ⟨.none, none, (.func ⟨(.ofString "_law_spoilt"), (.ofString "_law_spoilt"), (dAt 21).1, (.stmts (dAt 21).2.1), (dAt 21).2.2, 0, [], .none, .none, .none, .none, none, .none, .none, 0⟩), #[]⟩
noncomputable def z235 (P : Params) : Obj := ⟨(.type "code"), none, (.fields #[(.str (.ofString "_law_spoilt") 592), (.str (.ofString "_law_spoilt") 593), (.str (.ofString "/claim/cut.py") 594), (.int 150 0), (.int 3 0), (.int 0 0), (.int 0 0), (.int 3 0), (.ref 230), (.bool true), (.int 276 0), (.ref 231), .none, (.ref 232), (.ref 233), (.ref 234), (.int 602 0), (.int 150 0), (.str (.ofString "/claim/cut.py") 603)]), #[]⟩
noncomputable def z236 (P : Params) : Obj := fnO (dAt 21) "_law_spoilt" "_law_spoilt" .none .none "law_to0046_01" 562 (.ref 235)
noncomputable def z237 (P : Params) : Obj := ⟨(.type "tuple"), none, (.seq #[] 0), #[]⟩
noncomputable def z238 (P : Params) : Obj := ⟨.none, none, (.fields #[]), #[]⟩
noncomputable def z239 (P : Params) : Obj := ⟨(.type "tuple"), none, (.seq #[(.str (.ofString "wild") 608), (.str (.ofString "moved") 609), (.str (.ofString "order") 610), (.str (.ofString "six") 611), (.str (.ofString "words") 612), (.str (.ofString "left") 613), (.str (.ofString "row") 614), (.str (.ofString "t") 615)] 0), #[]⟩
noncomputable def z240 (P : Params) : Obj := ⟨(.type "tuple"), none, (.seq #[] 0), #[]⟩
noncomputable def z241 (P : Params) : Obj := ⟨.none, none, (.func ⟨(.ofString "_law_settled"), (.ofString "_law_settled"), (dAt 22).1, (.stmts (dAt 22).2.1), (dAt 22).2.2, 0, [], .none, .none, .none, .none, none, .none, .none, 0⟩), #[]⟩
noncomputable def z242 (P : Params) : Obj := ⟨(.type "code"), none, (.fields #[(.str (.ofString "_law_settled") 605), (.str (.ofString "_law_settled") 606), (.str (.ofString "/claim/cut.py") 607), (.int 156 0), (.int 3 0), (.int 0 0), (.int 0 0), (.int 3 0), (.ref 237), (.bool true), (.int 276 0), (.ref 238), .none, (.ref 239), (.ref 240), (.ref 241), (.int 616 0), (.int 156 0), (.str (.ofString "/claim/cut.py") 617)]), #[]⟩
noncomputable def z243 (P : Params) : Obj := fnO (dAt 22) "_law_settled" "_law_settled" .none .none "law_to0046_01" 562 (.ref 242)
noncomputable def z244 (P : Params) : Obj := ⟨(.type "tuple"), none, (.seq #[] 0), #[]⟩
noncomputable def z245 (P : Params) : Obj := ⟨.none, none, (.fields #[]), #[]⟩
noncomputable def z246 (P : Params) : Obj := ⟨.none, none, (.func ⟨(.ofString "_law_numbers"), (.ofString "_law_numbers"), (dAt 23).1, (.stmts (dAt 23).2.1), (dAt 23).2.2, 0, [], .none, .none, .none, .none, none, .none, .none, 0⟩), #[]⟩
noncomputable def z247 (P : Params) : Obj := ⟨(.type "code"), none, (.fields #[(.str (.ofString "_law_numbers") 619), (.str (.ofString "_law_numbers") 620), (.str (.ofString "/claim/cut.py") 621), (.int 167 0), (.int 2 0), (.int 0 0), (.int 0 0), (.int 3 0), (.ref 244), (.bool true), (.int 276 0), (.ref 245), .none, .none, .none, (.ref 246), (.int 622 0), (.int 167 0), (.str (.ofString "/claim/cut.py") 623)]), #[]⟩
noncomputable def z248 (P : Params) : Obj := fnO (dAt 23) "_law_numbers" "_law_numbers" .none .none "law_to0046_01" 562 (.ref 247)
noncomputable def z249 (P : Params) : Obj := ⟨(.type "tuple"), none, (.seq #[] 0), #[]⟩
noncomputable def z250 (P : Params) : Obj := ⟨.none, none, (.fields #[]), #[]⟩
noncomputable def z251 (P : Params) : Obj := ⟨.none, none, (.func ⟨(.ofString "_law_reached"), (.ofString "_law_reached"), (dAt 24).1, (.stmts (dAt 24).2.1), (dAt 24).2.2, 0, [], .none, .none, .none, .none, none, .none, .none, 0⟩), #[]⟩
noncomputable def z252 (P : Params) : Obj := ⟨(.type "code"), none, (.fields #[(.str (.ofString "_law_reached") 625), (.str (.ofString "_law_reached") 626), (.str (.ofString "/claim/cut.py") 627), (.int 173 0), (.int 4 0), (.int 0 0), (.int 0 0), (.int 3 0), (.ref 249), (.bool true), (.int 276 0), (.ref 250), .none, .none, .none, (.ref 251), (.int 628 0), (.int 173 0), (.str (.ofString "/claim/cut.py") 629)]), #[]⟩
noncomputable def z253 (P : Params) : Obj := fnO (dAt 24) "_law_reached" "_law_reached" .none .none "law_to0046_01" 562 (.ref 252)
noncomputable def z254 (P : Params) : Obj := ⟨(.type "tuple"), none, (.seq #[] 0), #[]⟩
noncomputable def z255 (P : Params) : Obj := ⟨.none, none, (.fields #[]), #[]⟩
noncomputable def z256 (P : Params) : Obj := ⟨.none, none, (.func ⟨(.ofString "_law_whole"), (.ofString "_law_whole"), (dAt 25).1, (.stmts (dAt 25).2.1), (dAt 25).2.2, 0, [], .none, .none, .none, .none, none, .none, .none, 0⟩), #[]⟩
noncomputable def z257 (P : Params) : Obj := ⟨(.type "code"), none, (.fields #[(.str (.ofString "_law_whole") 631), (.str (.ofString "_law_whole") 632), (.str (.ofString "/claim/cut.py") 633), (.int 181 0), (.int 1 0), (.int 0 0), (.int 0 0), (.int 3 0), (.ref 254), (.bool true), (.int 276 0), (.ref 255), .none, .none, .none, (.ref 256), (.int 634 0), (.int 181 0), (.str (.ofString "/claim/cut.py") 635)]), #[]⟩
noncomputable def z258 (P : Params) : Obj := fnO (dAt 25) "_law_whole" "_law_whole" .none .none "law_to0046_01" 562 (.ref 257)
noncomputable def z259 (P : Params) : Obj := ⟨(.type "tuple"), none, (.seq #[] 0), #[]⟩
noncomputable def z260 (P : Params) : Obj := ⟨.none, none, (.fields #[]), #[]⟩
noncomputable def z261 (P : Params) : Obj := ⟨.none, none, (.func ⟨(.ofString "_law_faces"), (.ofString "_law_faces"), (dAt 26).1, (.stmts (dAt 26).2.1), (dAt 26).2.2, 0, [], .none, .none, .none, .none, none, .none, .none, 0⟩), #[]⟩
noncomputable def z262 (P : Params) : Obj := ⟨(.type "code"), none, (.fields #[(.str (.ofString "_law_faces") 637), (.str (.ofString "_law_faces") 638), (.str (.ofString "/claim/cut.py") 639), (.int 183 0), (.int 1 0), (.int 0 0), (.int 0 0), (.int 3 0), (.ref 259), (.bool true), (.int 276 0), (.ref 260), .none, .none, .none, (.ref 261), (.int 640 0), (.int 183 0), (.str (.ofString "/claim/cut.py") 641)]), #[]⟩
noncomputable def z263 (P : Params) : Obj := fnO (dAt 26) "_law_faces" "_law_faces" .none .none "law_to0046_01" 562 (.ref 262)
noncomputable def z264 (P : Params) : Obj := ⟨(.type "tuple"), none, (.seq #[] 0), #[]⟩
noncomputable def z265 (P : Params) : Obj := ⟨.none, none, (.fields #[]), #[]⟩
noncomputable def z266 (P : Params) : Obj := ⟨(.type "tuple"), none, (.seq #[(.str (.ofString "least") 646), (.str (.ofString "row") 647), (.str (.ofString "s") 648), (.str (.ofString "third") 649)] 0), #[]⟩
noncomputable def z267 (P : Params) : Obj := ⟨(.type "tuple"), none, (.seq #[] 0), #[]⟩
noncomputable def z268 (P : Params) : Obj := ⟨.none, none, (.func ⟨(.ofString "_law_three"), (.ofString "_law_three"), (dAt 27).1, (.stmts (dAt 27).2.1), (dAt 27).2.2, 0, [], .none, .none, .none, .none, none, .none, .none, 0⟩), #[]⟩
noncomputable def z269 (P : Params) : Obj := ⟨(.type "code"), none, (.fields #[(.str (.ofString "_law_three") 643), (.str (.ofString "_law_three") 644), (.str (.ofString "/claim/cut.py") 645), (.int 188 0), (.int 1 0), (.int 0 0), (.int 0 0), (.int 3 0), (.ref 264), (.bool true), (.int 276 0), (.ref 265), .none, (.ref 266), (.ref 267), (.ref 268), (.int 650 0), (.int 188 0), (.str (.ofString "/claim/cut.py") 651)]), #[]⟩
noncomputable def z270 (P : Params) : Obj := fnO (dAt 27) "_law_three" "_law_three" .none .none "law_to0046_01" 562 (.ref 269)
noncomputable def z271 (P : Params) : Obj := ⟨(.type "tuple"), none, (.seq #[] 0), #[]⟩
noncomputable def z272 (P : Params) : Obj := ⟨.none, none, (.fields #[]), #[]⟩
noncomputable def z273 (P : Params) : Obj := ⟨(.type "tuple"), none, (.seq #[(.str (.ofString "six") 656), (.str (.ofString "a") 657), (.str (.ofString "b") 658), (.str (.ofString "c") 659), (.str (.ofString "x") 660), (.str (.ofString "y") 661), (.str (.ofString "z") 662)] 0), #[]⟩
noncomputable def z274 (P : Params) : Obj := ⟨(.type "tuple"), none, (.seq #[] 0), #[]⟩
noncomputable def z275 (P : Params) : Obj := ⟨.none, none, (.func ⟨(.ofString "_law_volume"), (.ofString "_law_volume"), (dAt 28).1, (.stmts (dAt 28).2.1), (dAt 28).2.2, 0, [], .none, .none, .none, .none, none, .none, .none, 0⟩), #[]⟩
noncomputable def z276 (P : Params) : Obj := ⟨(.type "code"), none, (.fields #[(.str (.ofString "_law_volume") 653), (.str (.ofString "_law_volume") 654), (.str (.ofString "/claim/cut.py") 655), (.int 194 0), (.int 1 0), (.int 0 0), (.int 0 0), (.int 3 0), (.ref 271), (.bool true), (.int 276 0), (.ref 272), .none, (.ref 273), (.ref 274), (.ref 275), (.int 663 0), (.int 194 0), (.str (.ofString "/claim/cut.py") 664)]), #[]⟩
noncomputable def z277 (P : Params) : Obj := fnO (dAt 28) "_law_volume" "_law_volume" .none .none "law_to0046_01" 562 (.ref 276)
noncomputable def z278 (P : Params) : Obj := ⟨(.type "tuple"), none, (.seq #[] 0), #[]⟩
noncomputable def z279 (P : Params) : Obj := ⟨.none, none, (.fields #[]), #[]⟩
noncomputable def z280 (P : Params) : Obj := ⟨.none, none, (.func ⟨(.ofString "law"), (.ofString "law"), (dAt 29).1, (.stmts (dAt 29).2.1), (dAt 29).2.2, 0, [], .none, .none, .none, .none, none, .none, .none, 0⟩), #[]⟩
noncomputable def z281 (P : Params) : Obj := ⟨(.type "code"), none, (.fields #[(.str (.ofString "law") 666), (.str (.ofString "law") 667), (.str (.ofString "/claim/cut.py") 668), (.int 198 0), (.int 1 0), (.int 0 0), (.int 0 0), (.int 3 0), (.ref 278), (.bool true), (.int 276 0), (.ref 279), .none, .none, .none, (.ref 280), (.int 669 0), (.int 198 0), (.str (.ofString "/claim/cut.py") 670)]), #[]⟩
noncomputable def z282 (P : Params) : Obj := fnO (dAt 29) "law" "law" .none .none "law_to0046_01" 562 (.ref 281)
noncomputable def hS3 (P : Params) : Heap := ⟨⟨z0 P :: z1 P :: z2 P :: z3v6 P :: z4 P :: z5 P :: z6 P :: z7 P :: z8 P :: z9 P :: z10 P :: z11 P :: z12 P :: z13 P :: z14 P :: z15 P :: z16 P :: z17 P :: z18 P :: z19 P :: z20 P :: z21 P :: z22 P :: z23 P :: z24 P :: z25 P :: z26 P :: z27 P :: z28 P :: z29v6 P :: z30 P :: z31 P :: z32 P :: z33 P :: z34 P :: z35 P :: z36 P :: z37 P :: z38 P :: z39 P :: z40 P :: z41 P :: z42 P :: z43 P :: z44 P :: z45 P :: z46 P :: z47 P :: z48 P :: z49 P :: z50 P :: z51 P :: z52 P :: z53 P :: z54 P :: z55 P :: z56 P :: z57 P :: z58 P :: z59 P :: z60 P :: z61 P :: z62 P :: z63 P :: z64 P :: z65 P :: z66 P :: z67 P :: z68 P :: z69 P :: z70 P :: z71 P :: z72 P :: z73 P :: z74 P :: z75 P :: z76 P :: z77 P :: z78 P :: z79 P :: z80 P :: z81 P :: z82 P :: z83 P :: z84 P :: z85 P :: z86 P :: z87 P :: z88 P :: z89 P :: z90 P :: z91 P :: z92 P :: z93 P :: z94 P :: z95 P :: z96 P :: z97 P :: z98 P :: z99 P :: z100 P :: z101 P :: z102 P :: z103 P :: z104 P :: z105 P :: z106 P :: z107 P :: z108 P :: z109 P :: z110 P :: z111 P :: z112 P :: z113 P :: z114 P :: z115 P :: z116 P :: z117 P :: z118 P :: z119 P :: z120 P :: z121 P :: z122 P :: z123 P :: z124 P :: z125 P :: z126 P :: z127 P :: z128 P :: z129 P :: z130 P :: z131 P :: z132 P :: z133 P :: z134 P :: z135 P :: z136 P :: z137 P :: z138 P :: z139 P :: z140 P :: z141 P :: z142 P :: z143 P :: z144 P :: z145 P :: z146 P :: z147 P :: z148 P :: z149 P :: z150 P :: z151 P :: z152 P :: z153 P :: z154 P :: z155 P :: z156 P :: z157 P :: z158 P :: z159 P :: z160 P :: z161 P :: z162 P :: z163 P :: z164 P :: z165 P :: z166 P :: z167 P :: z168 P :: z169 P :: z170 P :: z171 P :: z172 P :: z173 P :: z174 P :: z175 P :: z176 P :: z177 P :: z178 P :: z179 P :: z180 P :: z181 P :: z182 P :: z183 P :: z184 P :: z185 P :: z186 P :: z187 P :: z188 P :: z189 P :: z190 P :: z191 P :: z192 P :: z193 P :: z194 P :: z195 P :: z196 P :: z197 P :: z198 P :: z199 P :: z200 P :: z201 P :: z202 P :: z203 P :: z204 P :: z205 P :: z206 P :: z207 P :: z208 P :: z209 P :: z210 P :: z211 P :: z212 P :: z213 P :: z214 P :: z215 P :: z216 P :: z217 P :: z218 P :: z219 P :: z220 P :: z221 P :: z222 P :: z223 P :: z224 P :: z225 P :: z226 P :: z227 P :: z228 P :: z229 P :: z230 P :: z231 P :: z232 P :: z233 P :: z234 P :: z235 P :: z236 P :: z237 P :: z238 P :: z239 P :: z240 P :: z241 P :: z242 P :: z243 P :: z244 P :: z245 P :: z246 P :: z247 P :: z248 P :: z249 P :: z250 P :: z251 P :: z252 P :: z253 P :: z254 P :: z255 P :: z256 P :: z257 P :: z258 P :: z259 P :: z260 P :: z261 P :: z262 P :: z263 P :: z264 P :: z265 P :: z266 P :: z267 P :: z268 P :: z269 P :: z270 P :: z271 P :: z272 P :: z273 P :: z274 P :: z275 P :: z276 P :: z277 P :: z278 P :: z279 P :: z280 P :: z281 P :: z282 P :: []⟩, ⟨[], [], [], 0, [], [], false, #[], [], 0, false, false, false, 0, [2000, 10, 10], false, 0, true, [], [], 0, false⟩⟩
noncomputable abbrev pW : Program := PySem.Challenge.pw_to0046_01
noncomputable def env0 : Env := { scope := pW.main.scope, locals := mainNs, globals := mainNs, cells := [], code := .ref 30, frame := some 31 }
noncomputable def bd : List Stmt := behindTheImports pW
noncomputable abbrev cd0 : Code := .body bd env0
noncomputable abbrev ann0 : Option Value := some (.ref 6)
noncomputable def b1 : List Stmt := bd.take 14
noncomputable def b2 : List Stmt := (bd.drop 14).take 1
noncomputable def b3 : List Stmt := bd.drop 15
noncomputable abbrev ps (a b c d : Nat) : Pos := ⟨a, b, c, d⟩
noncomputable abbrev fr0 : List Frame := [topFrame (ps 0 0 0 0)]
noncomputable abbrev stt (h : Params → Heap) (tk : Nat) (w : World) (os : OsState) : Shared := ⟨h w.params, #[], ⟨0, 0, 0, 0⟩, tk, os⟩
theorem hp_open : ∀ w : World, (fencedOpening treeTable pW w 3112).map (fun s => (s.heap, s.gens, s.drawn, s.toks)) = some (hS0 w.params, #[], ⟨0, 0, 0, 0⟩, 276) := by
  intro w; kernel_rfl
theorem hp_size : ∀ w : World, ((hS0 w.params).isNs mainGlobals && (#[] : Array GenState).size == 0, (hS0 w.params).objs.size, (hS0 w.params).nsMap mainGlobals "__annotations__") = (true, 28, ann0) := by
  intro w; kernel_rfl
theorem hp_pre : ∀ (w : World) (os : OsState), topGo treeTable pW w 28 ann0 12 (stt hS0 276 w os) (topStub pW) = some (stt hSa 282 w os, ⟨denote treeTable cd0, cd0, ps 0 0 0 0, fr0⟩) := by
  intro w os; kernel_rfl
theorem hp_block : ∀ (w : World) (os : OsState), segRun treeTable pW w 28 ann0 1 1 (stt hSa 282 w os) (blockOf bd env0 cd0 (ps 0 0 0 0) fr0) = some (.next, stt hSa 282 w os, cd0, ps 0 0 0 0) := by
  intro w os; kernel_rfl
theorem hp_1 : ∀ (w : World) (os : OsState), segRun treeTable pW w 28 ann0 1 379 (stt hSa 282 w os) (piecesOf b1 env0 cd0 (ps 0 0 0 0) fr0) = some (.next, stt hS1 405 w os, cd0, ps 47 0 47 20) := by
  intro w os; kernel_rfl
theorem hp_2 : ∀ (w : World) (os : OsState), segRun treeTable pW w 28 ann0 1 729 (stt hS1 405 w os) (piecesOf b2 env0 cd0 (ps 47 0 47 20) fr0) = some (.next, stt hS2 562 w os, cd0, ps 48 0 122 16) := by
  intro w os; kernel_rfl
theorem hp_3 : ∀ (w : World) (os : OsState), segRun treeTable pW w 28 ann0 1 388 (stt hS2 562 w os) (piecesOf b3 env0 cd0 (ps 48 0 122 16) fr0) = some (.next, stt hS3 672 w os, cd0, ps 198 0 214 120) := by
  intro w os; kernel_rfl
theorem hp_fin : ∀ (w : World) (os : OsState), topRun treeTable pW w 28 ann0 2 (stt hS3 672 w os) ⟨doneF .next, cd0, ps 198 0 214 120, fr0⟩ = some (stt hS3 672 w os) := by
  intro w os; kernel_rfl
theorem hp_cut : bd = b1 ++ (b2 ++ (b3 ++ [])) := by kernel_rfl
theorem hp_run (w : World) (os : OsState) : topRun treeTable pW w 28 ann0 (12 + (1 + (379 + (729 + (388 + 2))))) (stt hS0 276 w os) (topStub pW) = some (stt hS3 672 w os) := by
  refine go_top (hp_pre w os) (piece_block (hp_block w os) ?_)
  have e : restOf bd env0 cd0 (ps 0 0 0 0) fr0 = restOf (b1 ++ (b2 ++ (b3 ++ []))) env0 cd0 (ps 0 0 0 0) fr0 := congrArg (fun l => restOf l env0 cd0 (ps 0 0 0 0) fr0) hp_cut
  rw [e]
  exact piece_app (hp_1 w os) (piece_app (hp_2 w os) (piece_app (hp_3 w os) (piece_nil (hp_fin w os))))
end HP_
section HQ2_
open PySem PySem.W PySem.Calls PyProof.Rows
noncomputable def q : Program := PySem.W.view PySem.Challenge.pw_to0046_01 [0, 1, 3, 4, 5, 10, 11, 13, 14, 15, 17, 18, 19, 20, 21, 22, 23, 24, 25, 26, 27, 28, 29]
noncomputable abbrev lo : List Str := [Str.ofString "insort_left", Str.ofString "bisect_left", Str.ofString "_name_disallowed_re", Str.ofString "_value_disallowed_re"]
theorem keys (P : Params) : addrs = (KP P).map (·.1) := by kernel_rfl
theorem hp_look1 : ∀ (w : World) (os : OsState), (staticsOk (importedModules pW.main.body) (hS0 w.params) (hS3 w.params) && namesBound pW (hS3 w.params) && gensDone (stt hS3 672 w os) && laidKept (hS0 w.params) (hS3 w.params)) = true := by
  intro w os; kernel_rfl
theorem hp_look2 : ∀ (w : World) (os : OsState), openSeen q lo (importedModules pW.main.body) (fun s => xlAt q [] s && recOk [] s) true (stt hS3 672 w os) = openGood q lo := by
  intro w os; kernel_rfl
theorem hp_look3 : ∀ (w : World) (os : OsState), Hook.obs (kHook KP addrs keys) (stt hS3 672 w os) = Hook.val (kHook KP addrs keys) w := by
  intro w os; kernel_rfl
set_option maxRecDepth 100000 in
set_option maxHeartbeats 8000000 in
theorem left : LeftO PySem.Challenge.pw_to0046_01 q lo (fun s => xlAt q [] s && recOk [] s) (Hook.obs (kHook KP addrs keys)) (Hook.val (kHook KP addrs keys)) 3112 :=
  LeftO.of_pieces (H₀ := hS0) (H₁ := hS3) (M := 12 + (1 + (379 + (729 + (388 + 2))))) hp_open hp_size hp_run (by decide) (fun w => funext fun os => Prod.ext (hp_look1 w os) (Prod.ext (hp_look2 w os) (hp_look3 w os)))
theorem said : OpenLaw.wellSaid PySem.Challenge.rw_to0046_01 = true := by kernel_rfl
end HQ2_
section Base_
open PySem PySem.W PySem.Spec PySem.Calls PyProof.Rows
noncomputable abbrev Led := List (Addr × Obj)

/-- what a body leaves: a frame, a ledger, and what Out says of them -/
noncomputable def Fin (g : Heap) (L' : Addr) (s : Shared) (Out : Led → Value → Prop) (v : Value) (s' : Shared) : Prop :=
  ∃ h tk m' ns, s' = { s with heap := h, toks := tk } ∧ Fr g L' h m' ∧ News g L' h ns ∧ Out ns v

theorem Fin.intro {g : Heap} {L' : Addr} {s : Shared} {Out : Led → Value → Prop} {v : Value} {h : Heap} {tk : Nat} {m' : Str → Option Value} {all : Led}
    (F : Fr g L' h m') (N : News g L' h all) (ns : Led) (hs : ∀ p ∈ ns, p ∈ all) (o : Out ns v) : Fin g L' s Out v { s with heap := h, toks := tk } :=
  ⟨h, tk, m', ns, rfl, F, fun p hp => N p (hs p hp), o⟩

theorem fin_ret {g : Heap} {L' : Addr} {s : Shared} {own : Led} {O : Led → Value → Prop} {v : Value} {h : Heap} {tk : Nat} {m' : Str → Option Value} {all : Led}
    (F : Fr g L' h m') (N : News g L' h all) (new : Led) (hs : ∀ p ∈ new ++ own, p ∈ all) (o : O new v) : Fin g L' s (fun ns r => ∃ new, ns = new ++ own ∧ O new r) v { s with heap := h, toks := tk } :=
  ⟨h, tk, m', new ++ own, rfl, F, fun p hp => N p (hs p hp), new, rfl, o⟩
theorem str_ret {x y : Str} {t : Tok} (e : x = y) : ∃ t', Value.str x t = Value.str y t' := ⟨t, by rw [e]⟩
theorem int_ret {x y : Int} {t : Tok} (e : x = y) : ∃ t', Value.int x t = Value.int y t' := ⟨t, by rw [e]⟩

noncomputable def CtrK (w : World) (k : Nat) (f : Addr) (vs : List Value) (kws : List (Str × Value)) (own : Led) (Out : Led → Value → Prop) : Prop :=
  ∀ (p : Program) (loose : List Str) (mean : ExcName → Option Value) (mg mb : Str → Option Value) (dp un : Nat) (gd : Option (List Code)) (cn : Str) (cs : Scope) (a : Addr) (ccd : Value) (cl : List (Str × Addr)) (outer : List Env) (A₀ : Around) (base h₀ : Heap) (L : Addr) (m : Str → Option Value) (s : Shared)
    (Q E : Value → Shared → Prop),
    Below A₀ base outer h₀ → Fr h₀ L s.heap m → (KP w.params).In h₀ → News h₀ L s.heap own → Top p loose mean mg mb h₀ → cs.kind = .function → dp + k < recursionLimit → un + 10 * k < cLine →
    (∀ r ns h' tk', Fr h₀ L h' m → News h₀ L h' ns → GSub s.heap h' (own.map (·.1)) → (∀ p ∈ ns, p.1 ∈ own.map (·.1) ∨ s.heap.get? p.1 = none) → Out ns r → Q r { s with heap := h', toks := tk' }) →
    wpAny (model PySem.Challenge.rw_to0046_01.row.prog w) (ktrTop dp un gd cn cs L a ccd cl outer) (call (.ref f) vs kws) Q E s
noncomputable abbrev Ctr (w : World) (k : Nat) (f : Addr) (vs : List Value) (own : Led) (Out : Led → Value → Prop) : Prop := CtrK w k f vs [] own Out

section
variable {w : World} {k : Nat} {f : Addr} {vs : List Value} {kws : List (Str × Value)} {own : Led} {Out : Led → Value → Prop}
  {name qual : Str} {params : Arguments} {body : List Stmt} {scope : Scope} {dV kV doc pm cdv ct oc : Value} {an od : Option Addr} {osl : Array (Option Value)} {binds : List (Str × Value)}

theorem ctr_plain {body₀ : List Stmt} {scope₀ : Scope} (hk1 : 1 ≤ k) (ho : (KP w.params).lookup f = some ⟨oc, od, .func (fnOf name qual params body₀ scope₀ dV kV doc pm an cdv ct), osl⟩) (hB : body₀ = body) (hS : scope₀ = scope) (hcd : codeIn (KP w.params) cdv qual = true)
    (hbind : ∀ s, (KP w.params).In s.heap → BindsTo s (fnOf name qual params body scope dV kV doc pm an cdv ct) ⟨vs, kws⟩ binds) (hloc : ∀ y ∈ binds, scope.names.lookup y.1 = some .local)
    (hco : scope.isCoroutine = false) (hgen : scope.isGenerator = false) (hk : scope.kind = .function) (hcell : ∀ x ∈ scope.names, x.2 ≠ .cell)
    (h : ∀ (p : Program) (loose : List Str) (mean : ExcName → Option Value) (mg mb : Str → Option Value) (dp un : Nat) (gd : Option (List Code)) (cn : Str) (cs : Scope) (L a : Addr) (ccd : Value) (cl : List (Str × Addr)) (outer : List Env) (base g : Heap) (L' : Addr) (h₁ : Heap) (s : Shared) (tk : Nat),
      Fr g L' h₁ (fun y => binds.reverse.lookup y) → News g L' h₁ own → Below (ktrTop dp un gd cn cs L a ccd cl outer) base (envX cn cs L a ccd cl :: outer) g → (KP w.params).In g → Top p loose mean mg mb g → dp + k < recursionLimit → un + 10 * k < cLine →
      wpAny (model PySem.Challenge.rw_to0046_01.row.prog w) ((ktrTop dp un gd cn cs L a ccd cl outer).deeper (envOf qual scope L' f cdv)) (execs body (envOf qual scope L' f cdv))
        (fun fl s' => Fin g L' s Out (match fl with | .ret v => v | _ => .none) s') (fun _ _ => False) { s with heap := h₁, toks := tk }) : CtrK w k f vs kws own Out := by
  subst hB; subst hS
  intro p loose mean mg mb dp un gd cn cs a ccd cl outer A₀ base h₀ L m s Q E B F X N T hck hd' hu ret
  refine wpAny_call (code_defG (s := s) B F X N T rfl rfl hck ho hcd (by show dp < recursionLimit; omega) (hbind s (X.keeps F.keep)) hloc (fun g L' h₁ FG F' N' B' X' T' G => ?_) hco hgen hk hcell)
  refine wpAny_mono (h p loose mean mg mb dp un gd cn cs L a ccd cl outer base g L' h₁ s _ F' N' B' X' T' hd' hu) (fun fl s' hf => ?_) fun _ _ e => e.elim
  obtain ⟨h', tk, m', ns, rfl, Fe, Ne, o⟩ := hf
  refine ⟨L', m', ns, Fe, Ne, fun FR NR => ret _ ns h' tk FR NR (fun b o e n => Fe.keep b o (G b o e n)) (fun q hq => ?_) o⟩
  by_cases hm : q.1 ∈ own.map (·.1)
  · exact .inl hm
  · refine .inr ?_
    cases e : s.heap.get? q.1 with
    | none => rfl
    | some o' => have := (Ne q hq).2.2; rw [G _ _ e hm] at this; cases this

theorem callG_cells {A₀ A : Around} {base h₀ : Heap} {outer : List Env} {L : Addr} {m : Str → Option Value} {env : Env} {s : Shared} {R : Result → Shared → Prop} {fo : Obj} {prog : Program} {args : Args}
    (B : Below A₀ base outer h₀) (F : Fr h₀ L s.heap m) (N : News h₀ L s.heap own) (hlim : h₀.NoLimit) (hA : A.frames = some (env :: outer)) (hf : env.frame = some L) (hke : env.scope.kind = .function)
    (ho : s.heap.get? f = some fo) (hd : fo.data = .func (fnX name qual params body scope [] dV kV doc pm an cdv ct)) (hcd : s.heap.CodeRec cdv qual) (hroom : A.depth < recursionLimit)
    (hbind : BindsTo s (fnX name qual params body scope [] dV kV doc pm an cdv ct) args binds)
    (hkind : ∀ n, ∀ x ∈ binds, scope.names.lookup x.1 = some .local ∨ (scope.names.lookup x.1 = some .cell ∧ ((cellsFrom n scope.names []).lookup x.1).isSome = true))
    (hnd : ((cellsFrom 0 scope.names []).map (·.1)).Nodup)
    (h : ∀ g L' h₁ tk cells, Fr h₀ L g m → Fr g L' h₁ (bindL (envOfC qual scope L' f cdv).kindOf binds fun _ => none) → News g L' h₁ (cells ++ own) →
      CellsAre (bindC (envOfC qual scope L' f cdv).kindOf binds fun _ => none) (cellsFrom (L' + 1) scope.names []) cells → Below A base (env :: outer) g → h₀.StaysIn g → (∀ p ∈ own, p.1 < L') → GSub s.heap g (own.map (·.1)) →
      wpAny (model prog w) (A.deeper (envOfC qual scope L' f cdv)) (execs body (envOfC qual scope L' f cdv))
        (fun fl s' => LeaveK h₀ L m g R (match fl with | .ret v => v | _ => .none) s')
        (fun e s' => wpAny (model prog w) (A.deeper (envOfC qual scope L' f cdv)) (leaving (envOfC qual scope L' f cdv) e) (fun _ s'' => R (.error e) s'') (fun e' s'' => R (.error e') s'') s')
        { s with heap := h₁, toks := tk })
    (hco : scope.isCoroutine = false := by rfl) (hgen : scope.isGenerator = false := by rfl) (hk : scope.kind = .function := by rfl) : codeAny (model prog w) A (.call (.ref f) args) R s := by
  obtain ⟨FG, BG, st, lv⟩ := groundX (R := R) B F N hA hf hke
  refine codeAny_call_function hroom ho hd hco hgen rfl hcd (hbind _ _ _ _ ?_)
  refine wpAny_newFunctionEnv_cells hk (hkind _) fun env' he s' x => ?_
  subst he
  refine ⟨(hlim.keeps F.keep).keeps x.toInCall.keep, codeAny_func ?_⟩
  obtain ⟨h₁, tk, rfl, _⟩ := x.done
  have hk₁ := x.toInCall.keep
  obtain ⟨cells, NC, Y⟩ := Cl.news (h₀ := s.heap) (Nat.le_refl _) fun n c hm => ⟨x.cell n c (lookup_of_mem_nodup (cellsFrom_names scope.names 0 (s.heap.objs.size + 1) [] [] rfl ▸ hnd) hm), x.above n c hm⟩
  refine wpAny_mono (h _ s.heap.objs.size h₁ tk cells FG ⟨x.toInCall.ns, fun b o e => hk₁ b o (of_hideAll _ e), Nat.le_of_eq (hideAll_size _ _)⟩ (fun p hp => ?_) Y BG st (fun p hp => Heap.lt_size (N p hp).1) (fun b o e n => hideAll_get _ e n)) (fun fl s' hl => lv _ _ hl) fun _ _ y => y
  rcases List.mem_append.mp hp with hp | hp
  · refine ⟨(NC p hp).1, (NC p hp).2.1, ?_⟩
    cases q : (hideAll s.heap (own.map (·.1))).get? p.1 with
    | none => rfl
    | some o => have := of_hideAll _ q; rw [(NC p hp).2.2] at this; cases this
  · exact ⟨hk₁ _ _ (N p hp).1, Nat.ne_of_lt (Heap.lt_size (N p hp).1), hideAll_none _ (List.mem_map_of_mem hp)⟩

theorem ctr_cells {body₀ : List Stmt} {scope₀ : Scope} (hk1 : 1 ≤ k) (ho : (KP w.params).lookup f = some ⟨oc, od, .func (fnOf name qual params body₀ scope₀ dV kV doc pm an cdv ct), osl⟩) (hB : body₀ = body) (hS : scope₀ = scope) (hcd : codeIn (KP w.params) cdv qual = true)
    (hbind : ∀ s, (KP w.params).In s.heap → BindsTo s (fnOf name qual params body scope dV kV doc pm an cdv ct) ⟨vs, []⟩ binds) (hkind : (binds.all fun y => scope.names.lookup y.1 == some .local || scope.names.lookup y.1 == some .cell) = true)
    (hnd : ((cellsFrom 0 scope.names []).map (·.1)).Nodup)
    (hco : scope.isCoroutine = false) (hgen : scope.isGenerator = false) (hk : scope.kind = .function)
    (h : ∀ (p : Program) (loose : List Str) (mean : ExcName → Option Value) (mg mb : Str → Option Value) (dp un : Nat) (gd : Option (List Code)) (cn : Str) (cs : Scope) (L a : Addr) (ccd : Value) (cl : List (Str × Addr)) (outer : List Env) (base g : Heap) (L' : Addr) (h₁ : Heap) (s : Shared) (tk : Nat) (cells : Led),
      Fr g L' h₁ (bindL (envOfC qual scope L' f cdv).kindOf binds fun _ => none) → News g L' h₁ (cells ++ own) → CellsAre (bindC (envOfC qual scope L' f cdv).kindOf binds fun _ => none) (cellsFrom (L' + 1) scope.names []) cells → (∀ p ∈ own, p.1 < L') →
      Below (ktrTop dp un gd cn cs L a ccd cl outer) base (envX cn cs L a ccd cl :: outer) g → (KP w.params).In g → Top p loose mean mg mb g → dp + k < recursionLimit → un + 10 * k < cLine →
      wpAny (model PySem.Challenge.rw_to0046_01.row.prog w) ((ktrTop dp un gd cn cs L a ccd cl outer).deeper (envOfC qual scope L' f cdv)) (execs body (envOfC qual scope L' f cdv))
        (fun fl s' => Fin g L' s Out (match fl with | .ret v => v | _ => .none) s') (fun _ _ => False) { s with heap := h₁, toks := tk }) : Ctr w k f vs own Out := by
  subst hB; subst hS
  intro p loose mean mg mb dp un gd cn cs a ccd cl outer A₀ base h₀ L m s Q E B F X N T hck hd' hu ret
  refine wpAny_call (callG_cells (s := s) B F N T.nolimit rfl rfl hck ((X.keeps F.keep) _ _ ho) rfl (codeRec_of (X.keeps F.keep) hcd) (by show dp < recursionLimit; omega) (hbind s (X.keeps F.keep)) (kindsX hkind) hnd (fun g L' h₁ tk cells FG F' N' Y B' st l G => ?_) hco hgen hk)
  refine wpAny_mono (h p loose mean mg mb dp un gd cn cs L a ccd cl outer base g L' h₁ s _ cells F' N' Y l B' (X.keeps st) (T.keeps st) hd' hu) (fun fl s' hf => ?_) fun _ _ e => e.elim
  obtain ⟨h', tk, m', ns, rfl, Fe, Ne, o⟩ := hf
  refine ⟨L', m', ns, Fe, Ne, fun FR NR => ret _ ns h' tk FR NR (fun b o e n => Fe.keep b o (G b o e n)) (fun q hq => ?_) o⟩
  by_cases hm : q.1 ∈ own.map (·.1)
  · exact .inl hm
  · refine .inr ?_
    cases e : s.heap.get? q.1 with
    | none => rfl
    | some o' => have := (Ne q hq).2.2; rw [G _ _ e hm] at this; cases this

section
variable {p : Program} {loose : List Str} {mean : ExcName → Option Value} {mg mb : Str → Option Value} {dp un : Nat} {gd : Option (List Code)} {cn : Str} {cs : Scope} {a : Addr} {ccd : Value} {cl : List (Str × Addr)} {outer : List Env} {A₀ : Around} {base h₀ : Heap} {L : Addr} {m : Str → Option Value} {s : Shared}
    {Q E : Value → Shared → Prop}
/-- a call that changes nothing of the ledger: what it makes stands ahead -/
theorem ctr_use {news : Led} {O : Led → Value → Prop} (C : CtrK w k f vs kws own (fun ns r => ∃ new, ns = new ++ own ∧ O new r)) (B : Below A₀ base outer h₀) (F : Fr h₀ L s.heap m) (X : (KP w.params).In h₀) (N : News h₀ L s.heap news) (hs : ∀ p ∈ own, p ∈ news) (T : Top p loose mean mg mb h₀) (hk : cs.kind = .function) (hd : dp + k < recursionLimit) (hu : un + 10 * k < cLine)
    (ret : ∀ r new h' tk', Fr h₀ L h' m → News h₀ L h' (new ++ news) → O new r → Q r { s with heap := h', toks := tk' }) :
    wpAny (model PySem.Challenge.rw_to0046_01.row.prog w) (ktrTop dp un gd cn cs L a ccd cl outer) (call (.ref f) vs kws) Q E s := by
  refine C _ _ _ _ _ _ _ _ _ _ _ _ _ _ _ _ _ _ _ _ _ _ B F X (fun p hp => N p (hs p hp)) T hk hd hu (fun r ns h' tk' F' N' G fr o => ?_)
  obtain ⟨new, rfl, o⟩ := o
  refine ret r new h' tk' F' (fun q hq => ?_) o
  rcases List.mem_append.mp hq with hq | hq
  · exact N' q (List.mem_append.mpr (.inl hq))
  · by_cases hm : q.1 ∈ own.map (·.1)
    · obtain ⟨q', hq', e⟩ := List.mem_map.mp hm
      have h1 := (N q hq).1
      have h2 := (N q' (hs q' hq')).1
      rw [e] at h2
      rw [h1] at h2
      obtain ⟨qa, qo⟩ := q
      obtain ⟨qa', qo'⟩ := q'
      cases h2
      have e' : qa' = qa := e
      subst e'
      exact N' _ (List.mem_append.mpr (.inr hq'))
    · exact ⟨G _ _ (N q hq).1 hm, (N q hq).2⟩

/-- the same from within a body -/
theorem ctr_call {K : Nat} {g : Heap} {L' : Addr} {qual₁ : Str} {scope₁ : Scope} {a₁ : Addr} {cdv₁ : Value} {cl₁ : List (Str × Addr)} {news : Led} {O : Led → Value → Prop} (C : CtrK w k f vs kws own (fun ns r => ∃ new, ns = new ++ own ∧ O new r)) (hK : k + 1 ≤ K)
    (B : Below (ktrTop dp un gd cn cs L a ccd cl outer) base (envX cn cs L a ccd cl :: outer) g) (F : Fr g L' s.heap m) (X : (KP w.params).In g) (N : News g L' s.heap news) (hs : ∀ p ∈ own, p ∈ news) (T : Top p loose mean mg mb g) (hk : scope₁.kind = .function) (hd : dp + K < recursionLimit) (hu : un + 10 * K < cLine)
    (ret : ∀ r new h' tk', Fr g L' h' m → News g L' h' (new ++ news) → O new r → Q r { s with heap := h', toks := tk' }) :
    wpAny (model PySem.Challenge.rw_to0046_01.row.prog w) ((ktrTop dp un gd cn cs L a ccd cl outer).deeper (envX qual₁ scope₁ L' a₁ cdv₁ cl₁)) (call (.ref f) vs kws) Q E s :=
  ctr_use (dp := dp + 1) (un := un + 3) (outer := envX cn cs L a ccd cl :: outer) C B F X N hs T hk (by omega) (by omega) ret
end
end

section
variable {prog : Program} {w : World} {A : Around} {E : Value → Shared → Prop} {s : Shared} {value slice : PySem.Expr} {x : PySem.Str} {t u : Tok} {i : Int} {Q : Value → Shared → Prop}
theorem item_cps {c : Nat} (h0 : 0 ≤ i) (h1 : i < (x.length : Int)) (hn : x.length ≤ 16777216) (e : Txt.charAt x i = some c) (h : ∀ k, Q (.str (Str.mk #[c]) k) { s with toks := k + 1 })
    (hs : subscripted slice false (.str x t) (.int i u) = operate [.str x t, .int i u] (getItem (.str x t) (.int i u)) := by with_unfolding_all rfl)
    (ht : ∀ r, letTemporaryGo value (.str x t) r = pure () := by intro _; with_unfolding_all rfl) :
    wpAny (model prog w) A (subscriptTail value slice (.str x t) (.int i u)) Q E s :=
  KXi.item rfl (by omega) h1 hn (fun _ => by
    have e' : Txt.item x i = Str.mk #[c] := by unfold Txt.item; rw [e]; rfl
    rw [e']; exact h _) hs ht
theorem let_str (value : PySem.Expr) (x : PySem.Str) (t : Tok) (r : Value) : letTemporaryGo value (.str x t) r = pure () := by cases value <;> rfl
theorem subs_name {y : PySem.Str} {py : Pos} {x : PySem.Str} {t : Tok} {i : Int} {u : Tok} : subscripted (.Name y py) false (.str x t) (.int i u) = operate [.str x t, .int i u] (getItem (.str x t) (.int i u)) := rfl
theorem item3_0 {a b c : Nat} {y : PySem.Str} {py : Pos} (hi : i = 0) (hx : x = Str.mk #[a, b, c]) (h : ∀ k, Q (.str (Str.mk #[a]) k) { s with toks := k + 1 }) :
    wpAny (model prog w) A (subscriptTail value (.Name y py) (.str x t) (.int i u)) Q E s := by
  subst hi; subst hx; exact item_cps (by decide) (of_decide_eq_true rfl) (of_decide_eq_true rfl) rfl h subs_name (let_str _ _ _)
theorem item3_1 {a b c : Nat} {y : PySem.Str} {py : Pos} (hi : i = 1) (hx : x = Str.mk #[a, b, c]) (h : ∀ k, Q (.str (Str.mk #[b]) k) { s with toks := k + 1 }) :
    wpAny (model prog w) A (subscriptTail value (.Name y py) (.str x t) (.int i u)) Q E s := by
  subst hi; subst hx; exact item_cps (by decide) (of_decide_eq_true rfl) (of_decide_eq_true rfl) rfl h subs_name (let_str _ _ _)
theorem item3_2 {a b c : Nat} {y : PySem.Str} {py : Pos} (hi : i = 2) (hx : x = Str.mk #[a, b, c]) (h : ∀ k, Q (.str (Str.mk #[c]) k) { s with toks := k + 1 }) :
    wpAny (model prog w) A (subscriptTail value (.Name y py) (.str x t) (.int i u)) Q E s := by
  subst hi; subst hx; exact item_cps (by decide) (of_decide_eq_true rfl) (of_decide_eq_true rfl) rfl h subs_name (let_str _ _ _)
end
theorem abcU : Str.ofString "ABC" = Str.mk #[65, 66, 67] := by decide +kernel
theorem abcL : Str.ofString "abc" = Str.mk #[97, 98, 99] := by decide +kernel
/-- a word: its letters great by the bits -/
noncomputable def W (n : Nat) : Str := Str.mk #[if n % 2 = 1 then 65 else 97, if n / 2 % 2 = 1 then 66 else 98, if n / 4 % 2 = 1 then 67 else 99]
/-- six ints as a list's items; four words -/
noncomputable def six6 (p : Nat → Int) (tk : Nat → Tok) : Array Value := #[.int (p 0) (tk 0), .int (p 1) (tk 1), .int (p 2) (tk 2), .int (p 3) (tk 3), .int (p 4) (tk 4), .int (p 5) (tk 5)]
noncomputable def wrd4 (ws : Nat → Nat) (tk : Nat → Tok) : Array Value := #[.str (W (ws 0)) (tk 0), .str (W (ws 1)) (tk 1), .str (W (ws 2)) (tk 2), .str (W (ws 3)) (tk 3)]
end Base_
section Comp_
open PySem PySem.W PySem.Spec PySem.Calls PyProof.Rows PyProof.Rows.LCg PyProof.Rows.LCt
/-- holds the walk here -/
noncomputable def Hold (P : Prop) : Prop := P
theorem unhold {P : Prop} (h : Hold P) : P := h

/-- a turn's end: the frame and the ledger stand -/
noncomputable def Went (h₀ : Heap) (L : Addr) (m : Str → Option Value) (s : Shared) (all : Led) (s' : Shared) : Prop := ∃ h' tk', s' = { s with heap := h', toks := tk' } ∧ Fr h₀ L h' m ∧ News h₀ L h' all
theorem Went.intro {h₀ : Heap} {L : Addr} {m : Str → Option Value} {s : Shared} {all all' : Led} {h' : Heap} {tk' : Nat} (F : Fr h₀ L h' m) (N : News h₀ L h' all') (hs : ∀ p ∈ all, p ∈ all') : Went h₀ L m s all { s with heap := h', toks := tk' } := ⟨h', tk', rfl, F, fun p hp => N p (hs p hp)⟩

section
variable {prog : Program} {w : World} {A : Around} {s : Shared} {h₀ : Heap} {L : Addr} {m : Str → Option Value} {env : Env} {ct elt : Expr} {x : Str} {scope : Scope} {cl : List (Str × Addr)} {S : Led → Prop} {P : Nat → Value → Prop} {Fin : List Value → Led → Prop} {news : Led} {n : Nat}
theorem rest_inv (Inv : Nat → List Value → Prop)
    (turn : ∀ i ys, i < n → Inv i ys → ∀ v I oI C oC D m₂ h tk (E' : Value → Shared → Prop), P i v → NsObj oC m₂ → m₂ x = some v → Fr h₀ L h m → News h₀ L h ((I, oI) :: (C, oC) :: (D, lst ys) :: news) →
      wpAny (model prog w) A (eval elt (compEnvC scope cl C env)) (fun y s' => Went h₀ L m { s with heap := h, toks := tk } ((I, oI) :: (C, oC) :: (D, lst ys) :: news) s' ∧ Inv (i + 1) (ys ++ [y])) E' { s with heap := h, toks := tk })
    (hS : S news) (fin : ∀ ys, Inv n ys → Fin ys news) : ∀ k i ys, i + k = n → Inv i ys → CompRest prog w A h₀ L m env elt x scope cl s S P Fin k i ys news
  | 0, i, ys, e, hi => fin ys (by have : i = n := by omega
                                  rw [← this]; exact hi)
  | k + 1, i, ys, e, hi => CompRest.succ fun v I oI C oC D m₂ h tk E' hv hC hx F N off ne =>
      wpAny_mono (turn i ys (by omega) hi v I oI C oC D m₂ h tk E' hv hC hx F N) (fun y s' ⟨⟨h', tk', e', F', N'⟩, hi'⟩ => by
        subst e'
        exact ⟨h', tk', news, rfl, F', N', off, hS, rest_inv Inv turn hS fin k (i + 1) (ys ++ [y]) (by omega) hi'⟩) fun _ _ q => q
theorem restT_inv (Inv : Nat → List Value → Prop)
    (turn : ∀ i ys, i < n → Inv i ys → ∀ v I oI C oC D m₂ h tk (E' : Value → Shared → Prop), P i v → NsObj oC m₂ → m₂ x = some v → Fr h₀ L h m → News h₀ L h ((I, oI) :: (C, oC) :: (D, lst ys) :: news) →
      wpAny (model prog w) A (isTrue ct (compEnvC scope cl C env) (eval ct (compEnvC scope cl C env))) (fun ok s' => if ok = true then
        wpAny (model prog w) A (eval elt (compEnvC scope cl C env)) (fun y s' => Went h₀ L m { s with heap := h, toks := tk } ((I, oI) :: (C, oC) :: (D, lst ys) :: news) s' ∧ Inv (i + 1) (ys ++ [y])) E' s'
        else Went h₀ L m { s with heap := h, toks := tk } ((I, oI) :: (C, oC) :: (D, lst ys) :: news) s' ∧ Inv (i + 1) ys) E' { s with heap := h, toks := tk })
    (hS : S news) (fin : ∀ ys, Inv n ys → Fin ys news) : ∀ k i ys, i + k = n → Inv i ys → CompRestT prog w A h₀ L m env ct elt x scope cl s S P Fin k i ys news
  | 0, i, ys, e, hi => fin ys (by have : i = n := by omega
                                  rw [← this]; exact hi)
  | k + 1, i, ys, e, hi => CompRestT.succ fun v I oI C oC D m₂ h tk E' hv hC hx F N off ne =>
      wpAny_mono (turn i ys (by omega) hi v I oI C oC D m₂ h tk E' hv hC hx F N) (fun ok s' hq => by
        split at hq
        · rename_i hok
          rw [if_pos hok]
          refine wpAny_mono hq (fun y s'' ⟨⟨h', tk', e', F', N'⟩, hi'⟩ => ?_) fun _ _ q => q
          subst e'
          exact ⟨h', tk', news, rfl, F', N', off, hS, restT_inv Inv turn hS fin k (i + 1) (ys ++ [y]) (by omega) hi'⟩
        · rename_i hok
          rw [if_neg hok]
          obtain ⟨⟨h', tk', e', F', N'⟩, hi'⟩ := hq
          subst e'
          exact ⟨h', tk', news, rfl, F', N', off, hS, restT_inv Inv turn hS fin k (i + 1) ys (by omega) hi'⟩) fun _ _ q => q
end

section
variable {prog : Program} {w : World} {A : Around} {E : Value → Shared → Prop} {s : Shared} {value slice : PySem.Expr} {l : Addr} {k : Int} {u : Tok} {Q : Value → Shared → Prop}
/-- an item of six ints at an unknown place -/
theorem item_six {p : Nat → Int} {tk : Nat → Tok} (hl : s.heap.IsList l (six6 p tk)) (h0 : 0 ≤ k) (h1 : k < 6) (h : Q (.int (p k.toNat) (tk k.toNat)) s)
    (hs : subscripted slice false (.ref l) (.int k u) = operate [.ref l, .int k u] (getItem (.ref l) (.int k u)) := by with_unfolding_all rfl) :
    wpAny (model prog w) A (subscriptTail value slice (.ref l) (.int k u)) Q E s := by
  refine item_litK (vs := (six6 p tk).toList) hl h0 (by omega) ?_ h hs
  have hk : k.toNat < 6 := by omega
  match k.toNat, hk with
  | 0, _ => rfl
  | 1, _ => rfl
  | 2, _ => rfl
  | 3, _ => rfl
  | 4, _ => rfl
  | 5, _ => rfl
end

/-- another value at one place -/
noncomputable def upd {α : Type} (f : Nat → α) (j : Nat) (x : α) (n : Nat) : α := if n = j then x else f n
noncomputable abbrev tup (items : Array Value) (c : Nat) : Obj := { cls := .type "tuple", data := .seq items c }
theorem nat6 {P : Nat → Prop} {k : Nat} (hk : k < 6) (a : P 0) (b : P 1) (c : P 2) (d : P 3) (e : P 4) (f : P 5) : P k := by
  rcases (by omega : k = 0 ∨ k = 1 ∨ k = 2 ∨ k = 3 ∨ k = 4 ∨ k = 5) with rfl | rfl | rfl | rfl | rfl | rfl <;> assumption
theorem nat4 {P : Nat → Prop} {k : Nat} (hk : k < 4) (a : P 0) (b : P 1) (c : P 2) (d : P 3) : P k := by
  rcases (by omega : k = 0 ∨ k = 1 ∨ k = 2 ∨ k = 3) with rfl | rfl | rfl | rfl <;> assumption
section
variable {prog : Program} {w : World} {A : Around} {E : Value → Shared → Prop} {s : Shared} {value slice : PySem.Expr} {l : Addr} {k : Int} {u : Tok} {h₀ : Heap} {L : Addr} {m : Str → Option Value} {news news' : Led}
theorem item_wrd {p : Nat → Nat} {tk : Nat → Tok} {Q : Value → Shared → Prop} (hl : s.heap.IsList l (wrd4 p tk)) (h0 : 0 ≤ k) (h1 : k < 4) (h : Q (.str (W (p k.toNat)) (tk k.toNat)) s)
    (hs : subscripted slice false (.ref l) (.int k u) = operate [.ref l, .int k u] (getItem (.ref l) (.int k u)) := by with_unfolding_all rfl) :
    wpAny (model prog w) A (subscriptTail value slice (.ref l) (.int k u)) Q E s := by
  refine item_litK (vs := (wrd4 p tk).toList) hl h0 (by omega) ?_ h hs
  exact nat4 (P := fun j => (wrd4 p tk).toList[j]? = some (.str (W (p j)) (tk j))) (by omega : k.toNat < 4) rfl rfl rfl rfl
theorem set_six {D : Addr} {n : Nat} {p : Nat → Int} {tk : Nat → Tok} {x : Int} {t : Tok} {Q : Unit → Shared → Prop} (F : Fr h₀ L s.heap m) (N : News h₀ L s.heap news) (U : Upd D (listOf (six6 p tk) n) (listOf (six6 (upd p k.toNat x) (upd tk k.toNat u)) n) news news') (h0 : 0 ≤ k) (h1 : k < 6)
    (h : ∀ h', Fr h₀ L h' m → News h₀ L h' news' → Q () { s with heap := h' }) : wpAny (model prog w) A (setItem (.ref D) (.int k t) (.int x u)) Q E s := by
  obtain ⟨pre, post, rfl, rfl, a, b⟩ := U.split
  have z := N (D, listOf (six6 p tk) n) (List.mem_append.mpr (.inr (.head _)))
  refine ki_setAt z.1 h0 (by omega) (by show k < 6; exact h1) (h _ (F.change (Heap.SameBut.update ..) z.2.1 z.2.2) (ki_turn _ N a b ?_ ?_))
  · exact nat6 (P := fun j => (six6 p tk).setIfInBounds j (.int x u) = six6 (upd p j x) (upd tk j u)) (by omega : k.toNat < 6) rfl rfl rfl rfl rfl rfl
  · rfl
theorem set_wrd {D : Addr} {n : Nat} {p : Nat → Nat} {tk : Nat → Tok} {x : Nat} {t : Tok} {Q : Unit → Shared → Prop} (F : Fr h₀ L s.heap m) (N : News h₀ L s.heap news) (U : Upd D (listOf (wrd4 p tk) n) (listOf (wrd4 (upd p k.toNat x) (upd tk k.toNat u)) n) news news') (h0 : 0 ≤ k) (h1 : k < 4)
    (h : ∀ h', Fr h₀ L h' m → News h₀ L h' news' → Q () { s with heap := h' }) : wpAny (model prog w) A (setItem (.ref D) (.int k t) (.str (W x) u)) Q E s := by
  obtain ⟨pre, post, rfl, rfl, a, b⟩ := U.split
  have z := N (D, listOf (wrd4 p tk) n) (List.mem_append.mpr (.inr (.head _)))
  refine ki_setAt z.1 h0 (by omega) (by show k < 4; exact h1) (h _ (F.change (Heap.SameBut.update ..) z.2.1 z.2.2) (ki_turn _ N a b ?_ ?_))
  · exact nat4 (P := fun j => (wrd4 p tk).setIfInBounds j (.str (W x) u) = wrd4 (upd p j x) (upd tk j u)) (by omega : k.toNat < 4) rfl rfl rfl rfl
  · rfl
end

theorem off_mem {D : Addr} : ∀ {l : Led}, LCg.Off1 D l → ∀ p ∈ l, p.1 ≠ D
  | [], _, _, h => nomatch h
  | _ :: _, x, p, h => by
    rcases List.mem_cons.mp h with rfl | h
    · exact x.1
    · exact off_mem x.2 p h
theorem off_get {D a : Addr} {o : Obj} {l : Led} (h : LCg.Off1 D l) (hm : (a, o) ∈ l) : a ≠ D := off_mem h _ hm
theorem flt_snoc {f : Nat → Bool} {i : Nat} {ys : List Value} {u : Tok} (h : f i = true) (hI : IntsAre ys (((List.range i).filter f).map Int.ofNat)) :
    IntsAre (ys ++ [.int (0 + (i : Int)) u]) (((List.range (i + 1)).filter f).map Int.ofNat) := by
  rw [List.range_succ, List.filter_append, List.map_append, List.filter_cons, if_pos h, Int.zero_add]
  exact hI.append (.cons _ _ .nil)
theorem flt_same {f : Nat → Bool} {i : Nat} {ys : List Value} (h : f i = false) (hI : IntsAre ys (((List.range i).filter f).map Int.ofNat)) :
    IntsAre ys (((List.range (i + 1)).filter f).map Int.ofNat) := by
  rw [List.range_succ, List.filter_append, List.map_append, List.filter_cons, if_neg (by rw [h]; exact Bool.false_ne_true), List.filter_nil, List.map_nil, List.append_nil]
  exact hI
theorem ints6 {f : Nat → Int} {ys : List Value} (h : IntsAre ys ((List.range 6).map f)) : ∃ tk, ys = (six6 f tk).toList := by
  have h' : IntsAre ys [f 0, f 1, f 2, f 3, f 4, f 5] := h
  obtain ⟨t0, y0, e0, h0⟩ := h'.cons_inv
  obtain ⟨t1, y1, e1, h1⟩ := h0.cons_inv
  obtain ⟨t2, y2, e2, h2⟩ := h1.cons_inv
  obtain ⟨t3, y3, e3, h3⟩ := h2.cons_inv
  obtain ⟨t4, y4, e4, h4⟩ := h3.cons_inv
  obtain ⟨t5, y5, e5, h5⟩ := h4.cons_inv
  rw [e0, e1, e2, e3, e4, e5, h5.nil_inv]
  exact ⟨fun i => [t0, t1, t2, t3, t4, t5].getD i 0, rfl⟩
theorem six_at {p : Nat → Int} {tk : Nat → Tok} {i : Nat} (hi : i < 6) {v : Value} (h : (six6 p tk)[i]? = some v) : v = .int (p i) (tk i) :=
  nat6 (P := fun i => (six6 p tk)[i]? = some v → v = .int (p i) (tk i)) hi (fun e => (Option.some.inj e).symm) (fun e => (Option.some.inj e).symm) (fun e => (Option.some.inj e).symm) (fun e => (Option.some.inj e).symm) (fun e => (Option.some.inj e).symm) (fun e => (Option.some.inj e).symm) h
theorem news_head {h₀ h : Heap} {L D : Addr} {o o' : Obj} {news : Led} (N : News h₀ L h ((D, o) :: news)) (e : o = o') : News h₀ L h ((D, o') :: news) := e ▸ N
theorem ints_map_snoc {f : Nat → Int} {i : Nat} {ys : List Value} {t : Tok} (h : IntsAre ys ((List.range i).map f)) : IntsAre (ys ++ [.int (f i) t]) ((List.range (i + 1)).map f) := by
  rw [List.range_succ, List.map_append]
  exact h.append (.cons _ _ .nil)

/-- a comprehension with one test over a text -/
noncomputable def CompSrcS (prog : Program) (w : World) (A : Around) (h₀ : Heap) (L : Addr) (m : Str → Option Value) (env : Env) (ct elt : Expr) (x : Str) (scope : Scope) (cl : List (Str × Addr)) (Fin : Shared → List Value → Led → Prop) (xv : Value) (s₁ : Shared) : Prop :=
  ∃ X t news, xv = .str X t ∧ A.handled = none ∧ Fr h₀ L s₁.heap m ∧ News h₀ L s₁.heap news ∧ X.cps.all (· < 128) = true ∧ X.cps.size ≤ sizeLine ∧
    ∀ s₂ : Shared, (∃ h, s₂ = { s₁ with heap := h }) → CompRestT prog w A h₀ L m env ct elt x scope cl s₂ (fun _ => True) (SignAt X) (Fin s₂) X.cps.size 0 [] news
section
variable {prog : Program} {w : World} {A : Around} {E : Value → Shared → Prop} {s : Shared} {h₀ : Heap} {L : Addr} {m : Str → Option Value} {env : Env}
theorem CompSrcS.intro {ct elt : Expr} {x : Str} {scope : Scope} {cl : List (Str × Addr)} {Fin : Shared → List Value → Led → Prop} {X : Str} {t : Tok} {news : Led} {s₁ : Shared}
    (hh : A.handled = none) (F : Fr h₀ L s₁.heap m) (N : News h₀ L s₁.heap news) (ha : X.cps.all (· < 128) = true) (hz : X.cps.size ≤ sizeLine)
    (h : ∀ g, CompRestT prog w A h₀ L m env ct elt x scope cl { s₁ with heap := g } (fun _ => True) (SignAt X) (Fin { s₁ with heap := g }) X.cps.size 0 [] news) :
    CompSrcS prog w A h₀ L m env ct elt x scope cl Fin (.str X t) s₁ := ⟨X, t, news, rfl, hh, F, N, ha, hz, fun _ ⟨g, e⟩ => e ▸ h g⟩
theorem ListComp_S {ct elt iter : Expr} {x : Str} {px : Pos} {scope : Scope} {cl : List (Str × Addr)} {pos : Pos} {Q : Value → Shared → Prop} (F₀ : Fr h₀ L s.heap m)
    (hclos : closureFor scope env = pure cl) (hcell : ∀ y ∈ scope.names, y.2 ≠ .cell) (hkind : scope.kind = .function)
    (hnames : ∀ y ∈ scope.names, y.2 = .local → scope.names.lookup y.1 = some .local) (hx : scope.names.lookup x = some .local)
    (h : wpAny (model prog w) A (eval iter env) (CompSrcS prog w A h₀ L m env ct elt x scope cl (fun s₂ => FinE h₀ L m s₂ Q)) E s)
    (hs : ∀ x, foldedSetIterable iter env x = pure x := by intro _; rfl) :
    wpAny (model prog w) A (eval (.ListComp elt [⟨.Name x px, iter, [ct], 0⟩] scope pos) env) Q E s := by
  rw [eval_ListComp]
  refine wpAny_comprehension_free (use := none) rfl hs hclos hkind hnames (wpAny_mono h (fun xv s₁ h₁ => ?_) fun _ _ e => e)
  obtain ⟨X, t, news, rfl, hh, F, N, ha, hsz, R⟩ := h₁
  refine wpAny_pyIter_ascii ha ?_
  refine block_T (Walks.strAscii hh s₁.heap.objs.size X t) hsz (fun i h st => by obtain ⟨o, ho, _⟩ := st; exact ⟨o, ho⟩) (fun i h h' o nw st e e' _ _ _ => by obtain ⟨o', ho, r⟩ := st; exact ⟨o', by rw [e', ← e]; exact ho, r⟩) hcell hkind hx ⟨_, Heap.get?_push_size _ rfl, rfl, rfl⟩ (fun b hb => ?_)
      (F.keeps fun _ _ e => Heap.get?_push_of_some _ e) (N.grown fun _ _ e => Heap.get?_push_of_some _ e) (Nat.ne_of_lt F.ns.lt) (next_is_new F) (fun p hp => Nat.ne_of_lt (Heap.lt_size (N p hp).1)) trivial (R _ ⟨_, rfl⟩) ?_
  · rw [List.mem_singleton.mp hb]
    show s₁.heap.objs.size < (s₁.heap.push _).objs.size
    rw [Heap.size_push]; exact Nat.lt_succ_self _
  · intro D C h tk m' ys news' F' N' o1 hn hC₀ hD₀ hCL hDL hCD offC fin
    refine ⟨m', hn, fun h'' hs'' => fin D h'' tk (F'.change hs'' hCL hC₀) (fun p hp => ?_) o1⟩
    refine ⟨hs''.extBut _ _ ?_ (N' p hp).1, (N' p hp).2⟩
    rcases List.mem_cons.mp hp with rfl | hp
    · exact Ne.symm hCD
    · exact offC p hp
end
end Comp_
section Disp_
open PySem PySem.W PySem.Spec PySem.Calls PyProof.Rows
section
variable {prog : Program} {w : World} {A : Around} {E : Value → Shared → Prop} {s : Shared} {h₀ : Heap} {L : Addr} {m : Str → Option Value} {news : Led} {env : Env} {Q : Value → Shared → Prop}
  {a b c d : Int} {ka kb kc kd k : Nat} {pa pb pc pd pos pe pt : Pos}
/-- a display of two, three, four ints: one step -/
theorem Tuple_i2 (F : Fr h₀ L s.heap m) (N : News h₀ L s.heap news)
    (h : ∀ D h' tk t0 t1, Fr h₀ L h' m → News h₀ L h' ((D, tup #[.int a t0, .int b t1] 0) :: news) → (∀ p ∈ news, p.1 < D) → Q (.ref D) { s with heap := h', toks := tk }) :
    wpAny (model prog w) A (eval (.Tuple [.Constant (.int a) ka pa, .Constant (.int b) kb pb] k pos) env) Q E s :=
  Tuple_ (args_cons (wpAny_Constant_int (args_cons (wpAny_Constant_int (args_nil (kup_newTuple F N (fun D h' F' N' l => h D h' _ _ _ F' N' l) (Nat.le_of_ble_eq_true rfl)))))))
theorem Tuple_i3 (F : Fr h₀ L s.heap m) (N : News h₀ L s.heap news)
    (h : ∀ D h' tk t0 t1 t2, Fr h₀ L h' m → News h₀ L h' ((D, tup #[.int a t0, .int b t1, .int c t2] 0) :: news) → (∀ p ∈ news, p.1 < D) → Q (.ref D) { s with heap := h', toks := tk }) :
    wpAny (model prog w) A (eval (.Tuple [.Constant (.int a) ka pa, .Constant (.int b) kb pb, .Constant (.int c) kc pc] k pos) env) Q E s :=
  Tuple_ (args_cons (wpAny_Constant_int (args_cons (wpAny_Constant_int (args_cons (wpAny_Constant_int (args_nil (kup_newTuple F N (fun D h' F' N' l => h D h' _ _ _ _ F' N' l) (Nat.le_of_ble_eq_true rfl)))))))))
theorem Tuple_i4 (F : Fr h₀ L s.heap m) (N : News h₀ L s.heap news)
    (h : ∀ D h' tk t0 t1 t2 t3, Fr h₀ L h' m → News h₀ L h' ((D, tup #[.int a t0, .int b t1, .int c t2, .int d t3] 0) :: news) → (∀ p ∈ news, p.1 < D) → Q (.ref D) { s with heap := h', toks := tk }) :
    wpAny (model prog w) A (eval (.Tuple [.Constant (.int a) ka pa, .Constant (.int b) kb pb, .Constant (.int c) kc pc, .Constant (.int d) kd pd] k pos) env) Q E s :=
  Tuple_ (args_cons (wpAny_Constant_int (args_cons (wpAny_Constant_int (args_cons (wpAny_Constant_int (args_cons (wpAny_Constant_int (args_nil (kup_newTuple F N (fun D h' F' N' l => h D h' _ _ _ _ _ F' N' l) (Nat.le_of_ble_eq_true rfl)))))))))))
/-- «body if x in (a, b, c) else orelse»: the tuple is dropped -/
theorem ifin3 {r : Bool} {cn : Str} {cs : Scope} {ca : Addr} {ccd : Value} {cl : List (Str × Addr)} {x : Str} {px : Pos} {i : Int} {u : Tok} {e1 e2 : PySem.Expr} (F : Fr h₀ L s.heap m) (N : News h₀ L s.heap news) (hv : m x = some (.int i u))
    (hr : [a, b, c].any (· == i) = r)
    (h : ∀ h' tk, Fr h₀ L h' m → News h₀ L h' news → (if r then wpAny (model prog w) A (eval e1 (envX cn cs L ca ccd cl)) Q E { s with heap := h', toks := tk } else wpAny (model prog w) A (eval e2 (envX cn cs L ca ccd cl)) Q E { s with heap := h', toks := tk }))
    (hk : cs.kind = .function) (hx : (envX cn cs L ca ccd cl).kindOf x = some .local) (hd : (x == ("__debug__" : Str)) = false) :
    wpAny (model prog w) A (eval (.IfExp (.Compare (.Name x px) [.In] [.Tuple [.Constant (.int a) ka pa, .Constant (.int b) kb pb, .Constant (.int c) kc pc] k pos] pt) e1 e2 pe) (envX cn cs L ca ccd cl)) Q E s := by
  refine IfExp_ (wpAny_isTrue_Compare1 (nameX_L F hv ?_ hk hx hd) rfl)
  refine Tuple_i3 F N (fun D h' tk t0 t1 t2 F' N' l => ?_)
  refine in_tuple_ints (N'.isTup (.head _)) (.cons _ _ (.cons _ _ (.cons _ _ .nil))) ?_
  refine wpAny_truthy_bool ?_
  rw [hr]
  exact h h' tk F' fun p hp => N' p (.tail _ hp)
theorem ifin3_t {cn : Str} {cs : Scope} {ca : Addr} {ccd : Value} {cl : List (Str × Addr)} {x : Str} {px : Pos} {i : Int} {u : Tok} {e1 e2 : PySem.Expr} (F : Fr h₀ L s.heap m) (N : News h₀ L s.heap news) (hv : m x = some (.int i u))
    (hr : [a, b, c].any (· == i) = true)
    (h : ∀ h' tk, Fr h₀ L h' m → News h₀ L h' news → wpAny (model prog w) A (eval e1 (envX cn cs L ca ccd cl)) Q E { s with heap := h', toks := tk })
    (hk : cs.kind = .function) (hx : (envX cn cs L ca ccd cl).kindOf x = some .local) (hd : (x == ("__debug__" : Str)) = false) :
    wpAny (model prog w) A (eval (.IfExp (.Compare (.Name x px) [.In] [.Tuple [.Constant (.int a) ka pa, .Constant (.int b) kb pb, .Constant (.int c) kc pc] k pos] pt) e1 e2 pe) (envX cn cs L ca ccd cl)) Q E s := ifin3 F N hv hr h hk hx hd
theorem ifin3_f {cn : Str} {cs : Scope} {ca : Addr} {ccd : Value} {cl : List (Str × Addr)} {x : Str} {px : Pos} {i : Int} {u : Tok} {e1 e2 : PySem.Expr} (F : Fr h₀ L s.heap m) (N : News h₀ L s.heap news) (hv : m x = some (.int i u))
    (hr : [a, b, c].any (· == i) = false)
    (h : ∀ h' tk, Fr h₀ L h' m → News h₀ L h' news → wpAny (model prog w) A (eval e2 (envX cn cs L ca ccd cl)) Q E { s with heap := h', toks := tk })
    (hk : cs.kind = .function) (hx : (envX cn cs L ca ccd cl).kindOf x = some .local) (hd : (x == ("__debug__" : Str)) = false) :
    wpAny (model prog w) A (eval (.IfExp (.Compare (.Name x px) [.In] [.Tuple [.Constant (.int a) ka pa, .Constant (.int b) kb pb, .Constant (.int c) kc pc] k pos] pt) e1 e2 pe) (envX cn cs L ca ccd cl)) Q E s := ifin3 F N hv hr h hk hx hd
end
end Disp_
section Turn0_
open PySem PySem.W PySem.Spec PySem.Calls PyProof.Rows
noncomputable def PA (t : Int) : Int := [0, 0, 0, 1, 1, 2].getD t.toNat 0
noncomputable def PB (t : Int) : Int := [1, 2, 3, 2, 3, 3].getD t.toNat 0
noncomputable def KK (t : Int) : Int := [2, 1, 1, 0, 0, 0].getD t.toNat 0
noncomputable def MM (t : Int) : Int := [3, 3, 2, 3, 2, 1].getD t.toNat 0
noncomputable def SP (i k : Int) : Int := ([[0, 0, 1, 2], [0, 0, 3, 4], [1, 3, 0, 5], [2, 4, 5, 0]].getD i.toNat []).getD k.toNat 0
theorem int6 {P : Int → Prop} {k : Int} (h0 : 0 ≤ k) (hk : k < 6) (a : P 0) (b : P 1) (c : P 2) (d : P 3) (e : P 4) (f : P 5) : P k := by
  rcases (by omega : k = 0 ∨ k = 1 ∨ k = 2 ∨ k = 3 ∨ k = 4 ∨ k = 5) with rfl | rfl | rfl | rfl | rfl | rfl <;> assumption
theorem int4 {P : Int → Prop} {k : Int} (h0 : 0 ≤ k) (hk : k < 4) (a : P 0) (b : P 1) (c : P 2) (d : P 3) : P k := by
  rcases (by omega : k = 0 ∨ k = 1 ∨ k = 2 ∨ k = 3) with rfl | rfl | rfl | rfl <;> assumption
theorem pa_bd {t : Int} : 0 ≤ PA t ∧ PA t < 4 := by
  by_cases h : 0 ≤ t ∧ t < 6
  · exact int6 (P := fun t => 0 ≤ PA t ∧ PA t < 4) h.1 h.2 (by decide) (by decide) (by decide) (by decide) (by decide) (by decide)
  · unfold PA; by_cases q : t < 0
    · have : t.toNat = 0 := by omega
      rw [this]; decide
    · have e : ([0, 0, 0, 1, 1, 2] : List Int).length ≤ t.toNat := by show 6 ≤ _; omega
      rw [List.getD_eq_getElem?_getD, List.getElem?_eq_none e]; decide
theorem sp_bd {i k : Int} (hi : 0 ≤ i) (hi' : i < 4) (hk : 0 ≤ k) (hk' : k < 4) : 0 ≤ SP i k ∧ SP i k < 6 := by
  refine int4 (P := fun i => 0 ≤ SP i k ∧ SP i k < 6) hi hi' ?_ ?_ ?_ ?_
  · exact int4 (P := fun k => 0 ≤ SP 0 k ∧ SP 0 k < 6) hk hk' (by decide) (by decide) (by decide) (by decide)
  · exact int4 (P := fun k => 0 ≤ SP 1 k ∧ SP 1 k < 6) hk hk' (by decide) (by decide) (by decide) (by decide)
  · exact int4 (P := fun k => 0 ≤ SP 2 k ∧ SP 2 k < 6) hk hk' (by decide) (by decide) (by decide) (by decide)
  · exact int4 (P := fun k => 0 ≤ SP 3 k ∧ SP 3 k < 6) hk hk' (by decide) (by decide) (by decide) (by decide)
section
variable {prog : Program} {w : World} {A : Around} {E : Value → Shared → Prop} {s : Shared} {value slice : PySem.Expr} {D : Addr} {k : Int} {u : Tok} {h₀ : Heap} {L : Addr} {m : Str → Option Value} {news : Led} {Q : Value → Shared → Prop}
theorem isTup_of (N : News h₀ L s.heap news) {its : Array Value} {c : Nat} (hm : (D, tup its c) ∈ news) : IsTup s.heap D its := News.isTup N hm
/-- one of six pairs -/
theorem item_pair6 {r0 r1 r2 r3 r4 r5 : Addr} {c c0 c1 c2 c3 c4 c5 : Nat} {a0 a1 a2 a3 a4 a5 b0 b1 b2 b3 b4 b5 : Tok} (N : News h₀ L s.heap news) (hD : (D, tup #[.ref r0, .ref r1, .ref r2, .ref r3, .ref r4, .ref r5] c) ∈ news)
    (h0 : (r0, tup #[.int 0 a0, .int 1 b0] c0) ∈ news) (h1 : (r1, tup #[.int 0 a1, .int 2 b1] c1) ∈ news) (h2 : (r2, tup #[.int 0 a2, .int 3 b2] c2) ∈ news)
    (h3 : (r3, tup #[.int 1 a3, .int 2 b3] c3) ∈ news) (h4 : (r4, tup #[.int 1 a4, .int 3 b4] c4) ∈ news) (h5 : (r5, tup #[.int 2 a5, .int 3 b5] c5) ∈ news)
    (ho : (@LT.lt Nat _ r0 r1) ∧ (@LT.lt Nat _ r1 r2) ∧ (@LT.lt Nat _ r2 r3) ∧ (@LT.lt Nat _ r3 r4) ∧ (@LT.lt Nat _ r4 r5)) (k0 : 0 ≤ k) (k6 : k < 6)
    (h : ∀ R a b c, News h₀ L s.heap ((R, tup #[.int (PA k) a, .int (PB k) b] c) :: news) → (@LE.le Nat _ r0 R) ∧ (@LE.le Nat _ R r5) → Q (.ref R) s)
    (hs : subscripted slice false (.ref D) (.int k u) = operate [.ref D, .int k u] (getItem (.ref D) (.int k u)) := by with_unfolding_all rfl) :
    wpAny (model prog w) A (subscriptTail value slice (.ref D) (.int k u)) Q E s := by
  have put : ∀ R its c', (R, tup its c') ∈ news → News h₀ L s.heap ((R, tup its c') :: news) := fun R its c' hm p hp => by
    rcases List.mem_cons.mp hp with rfl | hp
    · exact N _ hm
    · exact N p hp
  have go : ∀ (j : Nat) (R : Addr), seqIndex? k 6 = some j → [Value.ref r0, .ref r1, .ref r2, .ref r3, .ref r4, .ref r5][j]? = some (.ref R) → Q (.ref R) s → wpAny (model prog w) A (subscriptTail value slice (.ref D) (.int k u)) Q E s :=
    fun j R e1 e2 q => item_tupleT (l := [.ref r0, .ref r1, .ref r2, .ref r3, .ref r4, .ref r5]) (News.isTup N hD) (by omega) (by omega) e1 e2 q hs
  rcases (by omega : k = 0 ∨ k = 1 ∨ k = 2 ∨ k = 3 ∨ k = 4 ∨ k = 5) with rfl | rfl | rfl | rfl | rfl | rfl
  · exact go 0 r0 rfl rfl (h _ _ _ _ (put _ _ _ h0) ⟨by omega, by omega⟩)
  · exact go 1 r1 rfl rfl (h _ _ _ _ (put _ _ _ h1) ⟨by omega, by omega⟩)
  · exact go 2 r2 rfl rfl (h _ _ _ _ (put _ _ _ h2) ⟨by omega, by omega⟩)
  · exact go 3 r3 rfl rfl (h _ _ _ _ (put _ _ _ h3) ⟨by omega, by omega⟩)
  · exact go 4 r4 rfl rfl (h _ _ _ _ (put _ _ _ h4) ⟨by omega, by omega⟩)
  · exact go 5 r5 rfl rfl (h _ _ _ _ (put _ _ _ h5) ⟨by omega, by omega⟩)
theorem item_two {x y : Int} {a b : Tok} {c : Nat} (N : News h₀ L s.heap news) (hD : (D, tup #[.int x a, .int y b] c) ∈ news) (k0 : 0 ≤ k) (k2 : k < 2) (h : ∀ t, Q (.int (if k = 0 then x else y) t) s)
    (hs : subscripted slice false (.ref D) (.int k u) = operate [.ref D, .int k u] (getItem (.ref D) (.int k u)) := by with_unfolding_all rfl) :
    wpAny (model prog w) A (subscriptTail value slice (.ref D) (.int k u)) Q E s := by
  rcases (by omega : k = 0 ∨ k = 1) with rfl | rfl
  · exact item_tupleT (l := [.int x a, .int y b]) (j := 0) (News.isTup N hD) (by omega) (by omega) rfl rfl (h a) hs
  · exact item_tupleT (l := [.int x a, .int y b]) (j := 1) (News.isTup N hD) (by omega) (by omega) rfl rfl (h b) hs
/-- one of four rows -/
theorem item_row4 {r0 r1 r2 r3 : Addr} {c c0 c1 c2 c3 : Nat} {a0 a1 a2 a3 b0 b1 b2 b3 d0 d1 d2 d3 e0 e1 e2 e3 : Tok} (N : News h₀ L s.heap news) (hD : (D, tup #[.ref r0, .ref r1, .ref r2, .ref r3] c) ∈ news)
    (h0 : (r0, tup #[.int 0 a0, .int 0 b0, .int 1 d0, .int 2 e0] c0) ∈ news) (h1 : (r1, tup #[.int 0 a1, .int 0 b1, .int 3 d1, .int 4 e1] c1) ∈ news)
    (h2 : (r2, tup #[.int 1 a2, .int 3 b2, .int 0 d2, .int 5 e2] c2) ∈ news) (h3 : (r3, tup #[.int 2 a3, .int 4 b3, .int 5 d3, .int 0 e3] c3) ∈ news)
    (ho : (@LT.lt Nat _ r0 r1) ∧ (@LT.lt Nat _ r1 r2) ∧ (@LT.lt Nat _ r2 r3)) (k0 : 0 ≤ k) (k4 : k < 4)
    (h : ∀ R a b d e c, News h₀ L s.heap ((R, tup #[.int (SP k 0) a, .int (SP k 1) b, .int (SP k 2) d, .int (SP k 3) e] c) :: news) → (@LE.le Nat _ r0 R) ∧ (@LE.le Nat _ R r3) → Q (.ref R) s)
    (hs : subscripted slice false (.ref D) (.int k u) = operate [.ref D, .int k u] (getItem (.ref D) (.int k u)) := by with_unfolding_all rfl) :
    wpAny (model prog w) A (subscriptTail value slice (.ref D) (.int k u)) Q E s := by
  have put : ∀ R its c', (R, tup its c') ∈ news → News h₀ L s.heap ((R, tup its c') :: news) := fun R its c' hm p hp => by
    rcases List.mem_cons.mp hp with rfl | hp
    · exact N _ hm
    · exact N p hp
  have go : ∀ (j : Nat) (R : Addr), seqIndex? k 4 = some j → [Value.ref r0, .ref r1, .ref r2, .ref r3][j]? = some (.ref R) → Q (.ref R) s → wpAny (model prog w) A (subscriptTail value slice (.ref D) (.int k u)) Q E s :=
    fun j R e1 e2 q => item_tupleT (l := [.ref r0, .ref r1, .ref r2, .ref r3]) (News.isTup N hD) (by omega) (by omega) e1 e2 q hs
  rcases (by omega : k = 0 ∨ k = 1 ∨ k = 2 ∨ k = 3) with rfl | rfl | rfl | rfl
  · exact go 0 r0 rfl rfl (h _ _ _ _ _ _ (put _ _ _ h0) ⟨by omega, by omega⟩)
  · exact go 1 r1 rfl rfl (h _ _ _ _ _ _ (put _ _ _ h1) ⟨by omega, by omega⟩)
  · exact go 2 r2 rfl rfl (h _ _ _ _ _ _ (put _ _ _ h2) ⟨by omega, by omega⟩)
  · exact go 3 r3 rfl rfl (h _ _ _ _ _ _ (put _ _ _ h3) ⟨by omega, by omega⟩)
theorem item_cell4 {i : Int} {a b d e : Tok} {c : Nat} (N : News h₀ L s.heap news) (hD : (D, tup #[.int (SP i 0) a, .int (SP i 1) b, .int (SP i 2) d, .int (SP i 3) e] c) ∈ news) (i0 : 0 ≤ i) (i4 : i < 4) (k0 : 0 ≤ k) (k4 : k < 4) (h : ∀ v t, v = SP i k → 0 ≤ v → v < 6 → Q (.int v t) s)
    (hs : subscripted slice false (.ref D) (.int k u) = operate [.ref D, .int k u] (getItem (.ref D) (.int k u)) := by with_unfolding_all rfl) :
    wpAny (model prog w) A (subscriptTail value slice (.ref D) (.int k u)) Q E s := by
  have bd := sp_bd i0 i4 k0 k4
  rcases (by omega : k = 0 ∨ k = 1 ∨ k = 2 ∨ k = 3) with rfl | rfl | rfl | rfl
  · exact item_tupleT (l := [.int (SP i 0) a, .int (SP i 1) b, .int (SP i 2) d, .int (SP i 3) e]) (j := 0) (News.isTup N hD) (by omega) (by omega) rfl rfl (h _ a rfl bd.1 bd.2) hs
  · exact item_tupleT (l := [.int (SP i 0) a, .int (SP i 1) b, .int (SP i 2) d, .int (SP i 3) e]) (j := 1) (News.isTup N hD) (by omega) (by omega) rfl rfl (h _ b rfl bd.1 bd.2) hs
  · exact item_tupleT (l := [.int (SP i 0) a, .int (SP i 1) b, .int (SP i 2) d, .int (SP i 3) e]) (j := 2) (News.isTup N hD) (by omega) (by omega) rfl rfl (h _ d rfl bd.1 bd.2) hs
  · exact item_tupleT (l := [.int (SP i 0) a, .int (SP i 1) b, .int (SP i 2) d, .int (SP i 3) e]) (j := 3) (News.isTup N hD) (by omega) (by omega) rfl rfl (h _ e rfl bd.1 bd.2) hs
theorem notin_two {R : Addr} {n x y : Int} {a b : Tok} {c : Nat} (N : News h₀ L s.heap news) (hD : (R, tup #[.int x a, .int y b] c) ∈ news) (h : Q (.bool (!(([x, y] : List Int).any (· == n)))) s) : wpAny (model prog w) A (compareOp .NotIn (.int n u) (.ref R)) Q E s :=
  notin_tuple_ints (News.isTup N hD) (.cons _ _ (.cons _ _ .nil)) h
end
noncomputable def W8 (ws : Nat → Nat) : Prop := ∀ j, ws j < 8
theorem W8.at {ws : Nat → Nat} (h : W8 ws) (j : Nat) : ws j < 8 := h j
/-- the side's point; the six and the words behind a turn -/
noncomputable def PI (t sd : Int) : Int := if sd = 0 then PA t else PB t
noncomputable def turnP (p : Nat → Int) (t sd : Int) : Nat → Int :=
  upd (upd (upd (upd (fun j => p j + p t.toNat) t.toNat (-p t.toNat)) (5 - t).toNat (p (5 - t).toNat - p t.toNat)) (SP (if sd = 0 then PA t else PB t) (KK t)).toNat (p (SP (if sd = 0 then PA t else PB t) (MM t)).toNat + p t.toNat))
    (SP (if sd = 0 then PA t else PB t) (MM t)).toNat (p (SP (if sd = 0 then PA t else PB t) (KK t)).toNat + p t.toNat)
noncomputable def turnW (ws : Nat → Nat) (t sd : Int) : Nat → Nat :=
  upd (upd ws (KK t).toNat (ws (KK t).toNat ^^^ ws (if sd = 0 then PA t else PB t).toNat)) (MM t).toNat (ws (MM t).toNat ^^^ ws (if sd = 0 then PA t else PB t).toNat)
theorem W8.upd {ws : Nat → Nat} (h : W8 ws) (j : Nat) {x : Nat} (hx : x < 8) : W8 (upd ws j x) := fun n => by
  unfold Mine.upd
  split
  · exact hx
  · exact h n
theorem W8.turn {ws : Nat → Nat} (h : W8 ws) (t sd : Int) : W8 (turnW ws t sd) :=
  (h.upd _ (Nat.xor_lt_two_pow (n := 3) (h _) (h _))).upd _ (Nat.xor_lt_two_pow (n := 3) (h _) (h _))
theorem fmod6 (a : Int) : 0 ≤ a.fmod 6 ∧ a.fmod 6 < 6 := ⟨Int.fmod_nonneg_of_pos a (by decide), Int.fmod_lt_of_pos a (by decide)⟩
theorem fdiv6 (a : Int) : 0 ≤ (a.fmod 12).fdiv 6 ∧ (a.fmod 12).fdiv 6 < 2 := by
  have h0 : 0 ≤ a.fmod 12 := Int.fmod_nonneg_of_pos a (by decide)
  have h1 : a.fmod 12 < 12 := Int.fmod_lt_of_pos a (by decide)
  rw [Int.fdiv_eq_ediv_of_nonneg _ (by decide)]
  omega
noncomputable def SixWrd (p : Nat → Int) (ws : Nat → Nat) (new : Led) (r : Value) : Prop :=
  ∃ (D1 D2 D3 : Addr) (tk1 tk2 : Nat → Tok) (n1 n2 c : Nat), (@Ne Nat D1 D2) ∧ r = .ref D3 ∧ new = [(D3, tup #[.ref D1, .ref D2] c), (D2, listOf (wrd4 ws tk2) n2), (D1, listOf (six6 p tk1) n1)]
end Turn0_
local macro_rules | `(tactic| news_mem) => `(tactic| k_mem)
local macro_rules | `(tactic| k_ne) => `(tactic| first | (refine neN ?_; (try dsimp only); omega) | exact off_get (by assumption) (by k_mem) | exact Ne.symm (off_get (by assumption) (by k_mem)))
local macro_rules | `(tactic| k_all) => `(tactic| exact off_mem (by assumption))
local macro_rules | `(tactic| walk_at $s:str) => `(tactic| k_extra $s)
local macro_rules | `(tactic| k_qdec) => `(tactic| decide +kernel)
theorem fill_K (w : World) : (KP w.params = KP w.params) ∧ PySem.Challenge.rw_to0046_01 = PySem.Challenge.rw_to0046_01 := by
  k_fill
  exact ⟨rfl, rfl⟩
section TSub_
open PySem PySem.W PySem.Spec PySem.Calls PyProof.Rows
set_option maxRecDepth 100000 in
set_option maxHeartbeats 8000000 in
theorem scost (w : World) (x y c : Nat) (hx : Txt.lower (Str.mk #[x]) = Str.mk #[c]) (hy : Txt.lower (Str.mk #[y]) = Str.mk #[c]) (fx : Builtin.Str.tooLong (Txt.lower (Str.mk #[x])).length = false) (fy : Builtin.Str.tooLong (Txt.lower (Str.mk #[y])).length = false) (t0 t1 : Tok) :
   Ctr w 2 45 [.str (Str.mk #[x]) t0, .str (Str.mk #[y]) t1] [] (fun ns r => ∃ new, ns = new ++ [] ∧ new = [] ∧ ∃ t, r = .int (if x = y then 0 else 1) t) := by
  k_with_none
  (k_with "ite" => (k_closed; first | ((with_reducible refine ite_neg ?ci ?_); (case ci => decide)) | ((with_reducible refine ite_pos ?ci ?_); (case ci => decide))))
  (k_with "FinE" => ((unfold LCg.FinE); intro D' h' tk' F' N' o1'; (try simp only [List.nil_append, List.cons_append] at N'); (try dsimp only)))
  (k_with "FinA" => ((unfold LCg.FinA); intro D' h' tk' F' N' o1'; (try simp only [List.nil_append, List.cons_append] at N'); (try dsimp only)))
  (k_with "eval Name" => ((with_reducible show wpAny _ _ (eval (Expr.Name _ _) (compEnvC _ _ _ _)) _ _ _); k_dflt (first
  | (refine' LCgL.ld_own ?N ?m ?C ?x ?_ ?a ?b; (case a => rfl); (case b => rfl); (case N => k_asm); (case m => k_mem); (case C => assumption); (case x => assumption); k_whole)
  | (refine' lcf_cell ?N ?c ?m ?d ?_ ?a ?b; (case a => rfl); (case b => rfl); (case N => k_asm); (case c => rfl); (case m => k_mem); (case d => k_asm); k_whole)
  | (refine' LCgL.ld_global ?F ?X ?T ?e ?_ ?g ?a ?b; (case a => rfl); (case b => rfl); (case g => rfl); (case F => k_asm); (case X => k_asm); (case T => k_asm); (case e => k_is); k_whole)
  | (refine' lcf_free ?N ?c ?m ?d ?_ ?a ?b; (case a => rfl); (case b => rfl); (case N => k_asm); (case c => rfl); (case m => k_mem); (case d => k_asm); k_whole))))
  (k_with "eval ListComp" => ((with_reducible show wpAny _ _ (eval (Expr.ListComp _ [Comprehension.mk (Expr.Name _ _) _ [] _] _ _) _) _ _ _); k_dflt (refine LCg.ListComp_U (F₀ := by k_asm) (by with_unfolding_all rfl) (by decide) (by rfl) (by decide) (by rfl) ?_)))
  (k_with "exec Assign cons ListComp" => ((with_reducible show wpAny _ _ (exec (Stmt.Assign [Expr.Name _ _] (Expr.ListComp _ [Comprehension.mk (Expr.Name _ _) _ [] _] _ _) _) _) _ _ _); k_dflt (refine LCg.Assign_ListComp_U (F₀ := by k_asm) (by rfl) (by with_unfolding_all rfl) (by with_unfolding_all rfl) (by decide) (by rfl) (by decide) (by rfl) (by rfl) (by rfl) ?_)))
  (k_with "eval ListComp" => ((with_reducible show wpAny _ _ (eval (Expr.ListComp _ [Comprehension.mk (Expr.Name _ _) _ [_] _] _ _) _) _ _ _); k_dflt (refine LCt.ListComp_T (F₀ := by k_asm) (by with_unfolding_all rfl) (by decide) (by rfl) (by decide) (by rfl) ?_)))
  (k_with "exec Assign cons ListComp" => ((with_reducible show wpAny _ _ (exec (Stmt.Assign [Expr.Name _ _] (Expr.ListComp _ [Comprehension.mk (Expr.Name _ _) _ [_] _] _ _) _) _) _ _ _); k_dflt (refine LCt.Assign_ListComp_T (F₀ := by k_asm) (by rfl) (by with_unfolding_all rfl) (by with_unfolding_all rfl) (by decide) (by rfl) (by decide) (by rfl) (by rfl) (by rfl) ?_)))
  (k_with "CompSrc" => (k_here; k_dflt (first
  | (refine LCg.CompSrc.ledger (by rfl) (by k_asm) (by k_asm) (by k_mem) (by first | size_fits | exact Nat.le_of_ble_eq_true rfl) ?_; intro g'; lcg_lit)
  | (refine LCg.CompSrc.range (by rfl) (by k_asm) (by k_asm) (by assumption) (by first | decide | rfl) (by first | rfl | decide) (by first | size_fits | exact Nat.le_of_ble_eq_true rfl) ?_; intro g'; lcg_lit))))
  (k_with "call builtin:str.lower" => (k_here; (with_reducible show wpAny _ _ (call (Value.builtin "str.lower") [Value.str _ _]) _ _ _); (refine KXw.lower (by assumption) (by assumption) ?_); intro _ _))
  k_dflt (refine' ctr_plain ?k0 ?ko ?kB ?kS ?kc ?kb ?kl ?c1 ?c2 ?c3 ?c4 ?_; (case k0 => decide); (case ko => k_is); (case kB => conv => lhs; whnf); (case kS => conv => lhs; whnf); (case kc => k_is); (case kb => intro _ kX; first | exact BindsTo.of_eq rfl | exact kp_binds kX (fun _ => rfl)); (case kl => exact locs rfl); (case c1 => exact rfl); (case c2 => exact rfl); (case c3 => exact rfl); (case c4 => decide); k_whole)
  intro pr loose mean mg mb dp un gd cn cs Lc ac ccd clo outer base g L' h₁ s tk F' N' B' X' T' hd hu
  (try dsimp only); (try k_unmd); k_fold
  k_steps
  · exact fin_ret (by assumption) (by assumption) [] (by lcg_sub) ⟨rfl, int_ret (by simp_all)⟩
  · exact fin_ret (by assumption) (by assumption) [] (by lcg_sub) ⟨rfl, int_ret (by simp_all)⟩
  · exfalso; simp_all
end TSub_
section TAdd_
open PySem PySem.W PySem.Spec PySem.Calls PyProof.Rows
noncomputable def sg (c : Nat) : Str := ⟨#[c]⟩
/-- the k-th letter of a word -/
noncomputable def LT (m k : Nat) : Nat := if m / 2 ^ k % 2 = 1 then 65 + k else 97 + k
theorem lt_lower (m : Nat) {k : Nat} (hk : k < 3) : Txt.lower (Str.mk #[LT m k]) = Str.mk #[97 + k] := by
  unfold LT
  match k, hk with
  | 0, _ => split <;> decide +kernel
  | 1, _ => split <;> decide +kernel
  | 2, _ => split <;> decide +kernel
theorem lt_long (m : Nat) {k : Nat} (hk : k < 3) : Builtin.Str.tooLong (Txt.lower (Str.mk #[LT m k])).length = false := by rw [lt_lower m hk]; rfl
section
variable {prog : Program} {w : World} {A : Around} {E : Value → Shared → Prop} {s : Shared} {value : PySem.Expr} {y : PySem.Str} {py : Pos} {t u : Tok} {i : Int} {Q : Value → Shared → Prop}
theorem nat3 {P : Int → Prop} (h0 : 0 ≤ i) (h1 : i < 3) (a : P 0) (b : P 1) (c : P 2) : P i := by
  rcases (by omega : i = 0 ∨ i = 1 ∨ i = 2) with rfl | rfl | rfl
  · exact a
  · exact b
  · exact c
theorem itemW {m : Nat} (h0 : 0 ≤ i) (h1 : i < 3) (h : ∀ k, Q (.str (Str.mk #[LT m i.toNat]) k) { s with toks := k + 1 }) :
    wpAny (model prog w) A (subscriptTail value (.Name y py) (.str (W m) t) (.int i u)) Q E s := by
  refine item_cps h0 h1 (of_decide_eq_true rfl) ?_ h subs_name (let_str _ _ _)
  refine nat3 (P := fun i => Txt.charAt (W m) i = some (LT m i.toNat)) h0 h1 ?_ ?_ ?_
  · show some _ = some _; congr 1; show _ = if m / 2 ^ 0 % 2 = 1 then _ else _; rw [Nat.pow_zero, Nat.div_one]; rfl
  · rfl
  · rfl
theorem itemU (h0 : 0 ≤ i) (h1 : i < 3) (h : ∀ k, Q (.str (Str.mk #[65 + i.toNat]) k) { s with toks := k + 1 }) :
    wpAny (model prog w) A (subscriptTail value (.Name y py) (.str (Str.ofString "ABC") t) (.int i u)) Q E s := by
  rw [abcU]
  exact item_cps h0 h1 (of_decide_eq_true rfl) (nat3 (P := fun i => Txt.charAt (Str.mk #[65, 66, 67]) i = some (65 + i.toNat)) h0 h1 rfl rfl rfl) h subs_name (let_str _ _ _)
theorem itemL (h0 : 0 ≤ i) (h1 : i < 3) (h : ∀ k, Q (.str (Str.mk #[97 + i.toNat]) k) { s with toks := k + 1 }) :
    wpAny (model prog w) A (subscriptTail value (.Name y py) (.str (Str.ofString "abc") t) (.int i u)) Q E s := by
  rw [abcL]
  exact item_cps h0 h1 (of_decide_eq_true rfl) (nat3 (P := fun i => Txt.charAt (Str.mk #[97, 98, 99]) i = some (97 + i.toNat)) h0 h1 rfl rfl rfl) h subs_name (let_str _ _ _)
end
noncomputable def ADD (m n k : Nat) : Str := sg (if LT m k = LT n k then 97 + k else 65 + k)
theorem add_up {m n i j : Nat} {ys : List Value} {t : Tok} (e : j = i) (h : (if LT m j = LT n j then (0 : Int) else 1) = 1) (hI : StrsAre ys ((List.range i).map (ADD m n))) : StrsAre (ys ++ [.str (Str.mk #[65 + j]) t]) ((List.range (i + 1)).map (ADD m n)) := by
  subst e
  rw [List.range_succ, List.map_append]
  refine hI.append' ?_
  have : ADD m n j = Str.mk #[65 + j] := by
    unfold ADD sg
    split at h
    · cases h
    · rename_i q; rw [if_neg q]
  rw [List.map_singleton, this]
  exact .cons _ _ .nil
theorem add_lo {m n i j : Nat} {ys : List Value} {t : Tok} (e : j = i) (h : (if LT m j = LT n j then (0 : Int) else 1) ≠ 1) (hI : StrsAre ys ((List.range i).map (ADD m n))) : StrsAre (ys ++ [.str (Str.mk #[97 + j]) t]) ((List.range (i + 1)).map (ADD m n)) := by
  subst e
  rw [List.range_succ, List.map_append]
  refine hI.append' ?_
  have : ADD m n j = Str.mk #[97 + j] := by
    unfold ADD sg
    split at h
    · rename_i q; rw [if_pos q]
    · exact absurd rfl h
  rw [List.map_singleton, this]
  exact .cons _ _ .nil
theorem add_is : ∀ m, m < 8 → ∀ n, n < 8 → Txt.join (Str.ofString "") ((List.range 3).map (ADD m n)) = W (m ^^^ n) := by decide +kernel
set_option maxRecDepth 100000 in
set_option maxHeartbeats 8000000 in
theorem addedW (w : World) (m n : Nat) (hm : m < 8) (hn : n < 8) (t0 t1 : Tok) :
   Ctr w 4 212 [.str (W m) t0, .str (W n) t1] [] (fun ns r => ∃ new, ns = new ++ [] ∧ new = [] ∧ ∃ t, r = .str (W (m ^^^ n)) t) := by
  rw [← add_is m hm n hn]
  have hw : (((List.range 3).map (ADD m n)).map (·.length)).sum + ((List.range 3).map (ADD m n)).length ≤ 1048576 := Nat.le_of_ble_eq_true rfl
  k_with_none
  (k_with "ite" => (k_closed; first | ((with_reducible refine ite_neg ?ci ?_); (case ci => decide)) | ((with_reducible refine ite_pos ?ci ?_); (case ci => decide))))
  (k_with "FinE" => ((unfold LCg.FinE); intro D' h' tk' F' N' o1'; (try simp only [List.nil_append, List.cons_append] at N'); (try dsimp only)))
  (k_with "FinA" => ((unfold LCg.FinA); intro D' h' tk' F' N' o1'; (try simp only [List.nil_append, List.cons_append] at N'); (try dsimp only)))
  (k_with "eval Name" => ((with_reducible show wpAny _ _ (eval (Expr.Name _ _) (compEnvC _ _ _ _)) _ _ _); k_dflt (first
  | (refine' LCgL.ld_own ?N ?m ?C ?x ?_ ?a ?b; (case a => rfl); (case b => rfl); (case N => k_asm); (case m => k_mem); (case C => assumption); (case x => assumption); k_whole)
  | (refine' lcf_cell ?N ?c ?m ?d ?_ ?a ?b; (case a => rfl); (case b => rfl); (case N => k_asm); (case c => rfl); (case m => k_mem); (case d => k_asm); k_whole)
  | (refine' LCgL.ld_global ?F ?X ?T ?e ?_ ?g ?a ?b; (case a => rfl); (case b => rfl); (case g => rfl); (case F => k_asm); (case X => k_asm); (case T => k_asm); (case e => k_is); k_whole)
  | (refine' lcf_free ?N ?c ?m ?d ?_ ?a ?b; (case a => rfl); (case b => rfl); (case N => k_asm); (case c => rfl); (case m => k_mem); (case d => k_asm); k_whole))))
  (k_with "eval ListComp" => ((with_reducible show wpAny _ _ (eval (Expr.ListComp _ [Comprehension.mk (Expr.Name _ _) _ [] _] _ _) _) _ _ _); k_dflt (refine LCg.ListComp_U (F₀ := by k_asm) (by with_unfolding_all rfl) (by decide) (by rfl) (by decide) (by rfl) ?_)))
  (k_with "exec Assign cons ListComp" => ((with_reducible show wpAny _ _ (exec (Stmt.Assign [Expr.Name _ _] (Expr.ListComp _ [Comprehension.mk (Expr.Name _ _) _ [] _] _ _) _) _) _ _ _); k_dflt (refine LCg.Assign_ListComp_U (F₀ := by k_asm) (by rfl) (by with_unfolding_all rfl) (by with_unfolding_all rfl) (by decide) (by rfl) (by decide) (by rfl) (by rfl) (by rfl) ?_)))
  (k_with "eval ListComp" => ((with_reducible show wpAny _ _ (eval (Expr.ListComp _ [Comprehension.mk (Expr.Name _ _) _ [_] _] _ _) _) _ _ _); k_dflt (refine LCt.ListComp_T (F₀ := by k_asm) (by with_unfolding_all rfl) (by decide) (by rfl) (by decide) (by rfl) ?_)))
  (k_with "exec Assign cons ListComp" => ((with_reducible show wpAny _ _ (exec (Stmt.Assign [Expr.Name _ _] (Expr.ListComp _ [Comprehension.mk (Expr.Name _ _) _ [_] _] _ _) _) _) _ _ _); k_dflt (refine LCt.Assign_ListComp_T (F₀ := by k_asm) (by rfl) (by with_unfolding_all rfl) (by with_unfolding_all rfl) (by decide) (by rfl) (by decide) (by rfl) (by rfl) (by rfl) ?_)))
  (k_with "CompSrc" => (k_here; k_dflt (first
  | (refine LCg.CompSrc.ledger (by rfl) (by k_asm) (by k_asm) (by k_mem) (by first | size_fits | exact Nat.le_of_ble_eq_true rfl) ?_; intro g'; lcg_lit)
  | (refine LCg.CompSrc.range (by rfl) (by k_asm) (by k_asm) (by assumption) (by first | decide | rfl) (by first | rfl | decide) (by first | size_fits | exact Nat.le_of_ble_eq_true rfl) ?_; intro g'; lcg_lit))))
  (k_with "subscriptTail Name Name str int" => k_dflt (refine itemW (by omega) (by omega) ?_; intro tk'))
  (k_with "subscriptTail" => ((with_reducible show wpAny _ _ (subscriptTail _ (Expr.Name _ _) (Value.str (Str.ofString "abc") _) (Value.int _ _)) _ _ _); k_dflt (refine itemL (by omega) (by omega) ?_; intro tk')))
  (k_with "subscriptTail" => ((with_reducible show wpAny _ _ (subscriptTail _ (Expr.Name _ _) (Value.str (Str.ofString "ABC") _) (Value.int _ _)) _ _ _); k_dflt (refine itemU (by omega) (by omega) ?_; intro tk')))
  (k_with "call ref" => ((with_reducible show wpAny _ _ (call (Value.ref 45) _ _) _ _ _); k_dflt (refine' ctr_call (scost _ _ _ _ (lt_lower _ ?c1) (lt_lower _ ?c2) (lt_long _ ?c3) (lt_long _ ?c4) _ _) ?hK ?B ?F ?X ?N ?S ?T ?hk ?hd ?hu ?_; (case c1 => omega); (case c2 => omega); (case c3 => omega); (case c4 => omega); (case hd => assumption); (case hu => assumption); (case hK => decide); (case B => with_reducible assumption); (case F => k_asm); (case X => with_reducible assumption); (case N => k_asm); (case S => first | (intro kp hp; exact hp) | lcg_sub); (case T => with_reducible assumption); (case hk => exact rfl); intro r9 ns9 h9 tk9 F9 N9 o9; obtain ⟨e9, t9, e10⟩ := o9; subst e9; subst e10; (try dsimp only [List.nil_append] at N9); (try dsimp only); (try k_fold))))
  (k_with "CompSrc" => k_dflt (refine LCg.CompSrc.range (by rfl) (by k_asm) (by k_asm) (by assumption) (by first | decide | rfl) (by first | rfl | decide) (by first | size_fits | exact Nat.le_of_ble_eq_true rfl) ?_; intro g'; refine unhold ?_))
  (k_with "call builtin:str.join" => k_dflt (refine join_listW (News.isList (by k_asm) (by k_mem)) (by assumption) (by decide) (by assumption) ?_; intro _ _))
  k_dflt (refine' ctr_cells ?k0 ?ko ?kB ?kS ?kc ?kb ?kl ?kD ?c1 ?c2 ?c3 ?_; (case k0 => decide); (case ko => k_is); (case kB => conv => lhs; whnf); (case kS => conv => lhs; whnf); (case kc => k_is); (case kb => intro _ kX; first | exact BindsTo.of_eq rfl | exact kp_binds kX (fun _ => rfl)); (case kl => exact rfl); (case kD => decide +kernel); (case c1 => exact rfl); (case c2 => exact rfl); (case c3 => exact rfl); k_whole)
  intro pr loose mean mg mb dp un gd cn cs Lc ac ccd clo outer base g L' h₁ s tk cells' F' N' Y' l1 B' X' T' hd hu
  (try k_lt l1); k_cells Y'; (try simp only [List.cons_append, List.nil_append] at N'); (try dsimp only); (try k_unmd); k_fold
  k_steps
  unfold Hold
  refine rest_inv (n := 3) (fun i ys => StrsAre ys ((List.range i).map (ADD m n))) ?_ trivial ?_ 3 0 [] rfl .nil
  · intro i ys hi hInv v I oI C oC D m₂ h tk E' hv hC hx F N
    obtain ⟨t, rfl⟩ := hv
    have e0 : (0 + (i : Int)).toNat = i := by omega
    k_steps
    · exact Went.intro (by assumption) (by assumption) (by lcg_sub)
    · exact add_up e0 (by assumption) hInv
    · exact Went.intro (by assumption) (by assumption) (by lcg_sub)
    · exact add_lo e0 (by assumption) hInv
  · intro ys hI
    generalize hG : (List.range 3).map (ADD m n) = G at *
    k_steps
    (show Fin _ _ _ _ _ _; try dsimp only)
    exact fin_ret (by assumption) (by assumption) [] (by lcg_sub) ⟨rfl, str_ret (by rw [hG])⟩
end TAdd_
section TTurn_
open PySem PySem.W PySem.Spec PySem.Calls PyProof.Rows
theorem pb_bd {t : Int} (h0 : 0 ≤ t) (h1 : t < 6) : 0 ≤ PB t ∧ PB t < 4 := int6 (P := fun t => 0 ≤ PB t ∧ PB t < 4) h0 h1 (by decide) (by decide) (by decide) (by decide) (by decide) (by decide)
theorem item_pairI {prog : Program} {w : World} {A : Around} {E : Value → Shared → Prop} {s : Shared} {value slice : PySem.Expr} {D : Addr} {k : Int} {u : Tok} {h₀ : Heap} {L : Addr} {news : Led} {Q : Value → Shared → Prop} {t : Int} {a b : Tok} {c : Nat} (N : News h₀ L s.heap news) (hD : (D, tup #[.int (PA t) a, .int (PB t) b] c) ∈ news) (t0 : 0 ≤ t) (t6 : t < 6) (k0 : 0 ≤ k) (k2 : k < 2)
    (h : ∀ v x, v = (if k = 0 then PA t else PB t) → 0 ≤ v → v < 4 → Q (.int v x) s)
    (hs : subscripted slice false (.ref D) (.int k u) = operate [.ref D, .int k u] (getItem (.ref D) (.int k u)) := by with_unfolding_all rfl) :
    wpAny (model prog w) A (subscriptTail value slice (.ref D) (.int k u)) Q E s := by
  have pa := pa_bd (t := t)
  have pb := pb_bd t0 t6
  exact item_two N hD k0 k2 (fun x => h _ x rfl (by split <;> omega) (by split <;> omega)) hs
theorem two_left {t : Int} (h0 : 0 ≤ t) (h6 : t < 6) : ((List.range 4).filter (fun (n : Nat) => !([PA t, PB t].any (· == 0 + (n : Int))))).map Int.ofNat = [KK t, MM t] :=
  int6 (P := fun t => ((List.range 4).filter (fun (n : Nat) => !([PA t, PB t].any (· == 0 + (n : Int))))).map Int.ofNat = [KK t, MM t]) h0 h6 (by decide) (by decide) (by decide) (by decide) (by decide) (by decide)
theorem km_bd {t : Int} (h0 : 0 ≤ t) (h6 : t < 6) : 0 ≤ KK t ∧ KK t < 4 ∧ 0 ≤ MM t ∧ MM t < 4 :=
  int6 (P := fun t => 0 ≤ KK t ∧ KK t < 4 ∧ 0 ≤ MM t ∧ MM t < 4) h0 h6 (by decide) (by decide) (by decide) (by decide) (by decide) (by decide)
set_option maxRecDepth 100000 in
set_option maxHeartbeats 8000000 in
theorem turned (w : World) (l l2 : Addr) (n n2 : Nat) (p : Nat → Int) (tp : Nat → Tok) (ws : Nat → Nat) (tw : Nat → Tok) (t sd : Int) (ht0 : 0 ≤ t) (ht6 : t < 6) (hs0 : 0 ≤ sd) (hs2 : sd < 2) (hw : W8 ws) (u0 u1 : Tok) :
   Ctr w 6 229 [.ref l, .ref l2, .int t u0, .int sd u1] [(l, listOf (six6 p tp) n), (l2, listOf (wrd4 ws tw) n2)] (fun ns r => ∃ new, ns = new ++ [(l, listOf (six6 p tp) n), (l2, listOf (wrd4 ws tw) n2)] ∧ SixWrd (turnP p t sd) (turnW ws t sd) new r) := by
  k_with_none
  (k_with "ite" => (k_closed; first | ((with_reducible refine ite_neg ?ci ?_); (case ci => decide)) | ((with_reducible refine ite_pos ?ci ?_); (case ci => decide))))
  (k_with "FinE" => ((unfold LCg.FinE); intro D' h' tk' F' N' o1'; (try simp only [List.nil_append, List.cons_append] at N'); (try dsimp only)))
  (k_with "FinA" => ((unfold LCg.FinA); intro D' h' tk' F' N' o1'; (try simp only [List.nil_append, List.cons_append] at N'); (try dsimp only)))
  (k_with "eval Name" => ((with_reducible show wpAny _ _ (eval (Expr.Name _ _) (compEnvC _ _ _ _)) _ _ _); k_dflt (first
  | (refine' LCgL.ld_own ?N ?m ?C ?x ?_ ?a ?b; (case a => rfl); (case b => rfl); (case N => k_asm); (case m => k_mem); (case C => assumption); (case x => assumption); k_whole)
  | (refine' lcf_cell ?N ?c ?m ?d ?_ ?a ?b; (case a => rfl); (case b => rfl); (case N => k_asm); (case c => rfl); (case m => k_mem); (case d => k_asm); k_whole)
  | (refine' LCgL.ld_global ?F ?X ?T ?e ?_ ?g ?a ?b; (case a => rfl); (case b => rfl); (case g => rfl); (case F => k_asm); (case X => k_asm); (case T => k_asm); (case e => k_is); k_whole)
  | (refine' lcf_free ?N ?c ?m ?d ?_ ?a ?b; (case a => rfl); (case b => rfl); (case N => k_asm); (case c => rfl); (case m => k_mem); (case d => k_asm); k_whole))))
  (k_with "eval ListComp" => ((with_reducible show wpAny _ _ (eval (Expr.ListComp _ [Comprehension.mk (Expr.Name _ _) _ [] _] _ _) _) _ _ _); k_dflt (refine LCg.ListComp_U (F₀ := by k_asm) (by with_unfolding_all rfl) (by decide) (by rfl) (by decide) (by rfl) ?_)))
  (k_with "exec Assign cons ListComp" => ((with_reducible show wpAny _ _ (exec (Stmt.Assign [Expr.Name _ _] (Expr.ListComp _ [Comprehension.mk (Expr.Name _ _) _ [] _] _ _) _) _) _ _ _); k_dflt (refine LCg.Assign_ListComp_U (F₀ := by k_asm) (by rfl) (by with_unfolding_all rfl) (by with_unfolding_all rfl) (by decide) (by rfl) (by decide) (by rfl) (by rfl) (by rfl) ?_)))
  (k_with "eval ListComp" => ((with_reducible show wpAny _ _ (eval (Expr.ListComp _ [Comprehension.mk (Expr.Name _ _) _ [_] _] _ _) _) _ _ _); k_dflt (refine LCt.ListComp_T (F₀ := by k_asm) (by with_unfolding_all rfl) (by decide) (by rfl) (by decide) (by rfl) ?_)))
  (k_with "exec Assign cons ListComp" => ((with_reducible show wpAny _ _ (exec (Stmt.Assign [Expr.Name _ _] (Expr.ListComp _ [Comprehension.mk (Expr.Name _ _) _ [_] _] _ _) _) _) _ _ _); k_dflt (refine LCt.Assign_ListComp_T (F₀ := by k_asm) (by rfl) (by with_unfolding_all rfl) (by with_unfolding_all rfl) (by decide) (by rfl) (by decide) (by rfl) (by rfl) (by rfl) ?_)))
  (k_with "CompSrc" => (k_here; k_dflt (first
  | (refine LCg.CompSrc.ledger (by rfl) (by k_asm) (by k_asm) (by k_mem) (by first | size_fits | exact Nat.le_of_ble_eq_true rfl) ?_; intro g'; lcg_lit)
  | (refine LCg.CompSrc.range (by rfl) (by k_asm) (by k_asm) (by assumption) (by first | decide | rfl) (by first | rfl | decide) (by first | size_fits | exact Nat.le_of_ble_eq_true rfl) ?_; intro g'; lcg_lit))))
  (k_with "eval Tuple" => (first
  | ((with_reducible show wpAny _ _ (eval (Expr.Tuple [Expr.Constant (Const.int _) _ _, Expr.Constant (Const.int _) _ _] _ _) _) _ _ _); (k_dflt (refine' Tuple_i2 ?F ?N ?_; (case F => k_asm); (case N => k_asm); k_whole)); intro D' h' tk' t0' t1' F' N' l1; (try k_lt l1); (try k_sweep))
  | ((with_reducible show wpAny _ _ (eval (Expr.Tuple [Expr.Constant (Const.int _) _ _, Expr.Constant (Const.int _) _ _, Expr.Constant (Const.int _) _ _] _ _) _) _ _ _); (k_dflt (refine' Tuple_i3 ?F ?N ?_; (case F => k_asm); (case N => k_asm); k_whole)); intro D' h' tk' t0' t1' t2' F' N' l1; (try k_lt l1); (try k_sweep))
  | ((with_reducible show wpAny _ _ (eval (Expr.Tuple [Expr.Constant (Const.int _) _ _, Expr.Constant (Const.int _) _ _, Expr.Constant (Const.int _) _ _, Expr.Constant (Const.int _) _ _] _ _) _) _ _ _); (k_dflt (refine' Tuple_i4 ?F ?N ?_; (case F => k_asm); (case N => k_asm); k_whole)); intro D' h' tk' t0' t1' t2' t3' F' N' l1; (try k_lt l1); (try k_sweep))))
  (k_with "subscriptTail" => ((with_reducible show wpAny _ _ (subscriptTail (Expr.Tuple _ _ _) (Expr.Name _ _) (Value.ref _) (Value.int _ _)) _ _ _); k_dflt (refine' item_pair6 ?N ?hD ?h0 ?h1 ?h2 ?h3 ?h4 ?h5 ?ho ?k0 ?k6 ?_ ?hs; (case N => k_asm); (case hD => k_mem); (case h0 => k_mem); (case h1 => k_mem); (case h2 => k_mem); (case h3 => k_mem); (case h4 => k_mem); (case h5 => k_mem); (case ho => omega); (case k0 => omega); (case k6 => omega); (case hs => with_unfolding_all rfl); k_whole; intro R' a' b' c' N' lR')))
  (k_with "subscriptTail Name Name ref int" => k_dflt (first
  | (refine' item_pairI ?N ?hD ?t0 ?t6 ?k0 ?k2 ?_ ?hs; (case N => k_asm); (case hD => k_mem); (case t0 => omega); (case t6 => omega); (case k0 => omega); (case k2 => omega); (case hs => with_unfolding_all rfl); k_whole; intro v' x' ev' lo' hi')
  | (refine' item_six (News.isList ?N ?hD) ?k0 ?k2 ?_ ?hs; (case N => k_asm); (case hD => k_mem); (case k0 => omega); (case k2 => omega); (case hs => with_unfolding_all rfl); k_whole)
  | (refine' item_wrd (News.isList ?N ?hD) ?k0 ?k2 ?_ ?hs; (case N => k_asm); (case hD => k_mem); (case k0 => omega); (case k2 => omega); (case hs => with_unfolding_all rfl); k_whole)
  | (refine' item_row4 ?N ?hD ?h0 ?h1 ?h2 ?h3 ?ho ?k0 ?k6 ?_ ?hs; (case N => k_asm); (case hD => k_mem); (case h0 => k_mem); (case h1 => k_mem); (case h2 => k_mem); (case h3 => k_mem); (case ho => omega); (case k0 => omega); (case k6 => omega); (case hs => with_unfolding_all rfl); k_whole; intro R' a' b' d' e' c' N' lR')))
  (k_with "subscriptTail" => ((with_reducible show wpAny _ _ (subscriptTail (Expr.Subscript _ _ _) (Expr.Name _ _) (Value.ref _) (Value.int _ _)) _ _ _); k_dflt (refine' item_cell4 ?N ?hD ?i0 ?i4 ?k0 ?k6 ?_ ?hs; (case N => k_asm); (case hD => k_mem); (case i0 => omega); (case i4 => omega); (case k0 => omega); (case k6 => omega); (case hs => with_unfolding_all rfl); k_whole; intro v' x' ev' lo' hi'; (rename News _ _ _ ((_, tup #[Value.int (SP _ 0) _, _, _, _] _) :: _) => kNR'); clear kNR')))
  (k_with "subscriptTail" => ((with_reducible show wpAny _ _ (subscriptTail (Expr.Name _ _) (Expr.Subscript _ _ _) (Value.ref _) (Value.int _ _)) _ _ _); k_dflt (refine' item_six (News.isList ?N ?hD) ?k0 ?k2 ?_ ?hs; (case N => k_asm); (case hD => k_mem); (case k0 => omega); (case k2 => omega); (case hs => with_unfolding_all rfl); k_whole)))
  (k_with "subscriptTail Name BinOp ref int" => ((with_reducible show wpAny _ _ (subscriptTail (Expr.Name _ _) (Expr.BinOp _ _ _ _) (Value.ref _) (Value.int _ _)) _ _ _); k_dflt (refine' item_six (News.isList ?N ?hD) ?k0 ?k2 ?_ ?hs; (case N => k_asm); (case hD => k_mem); (case k0 => omega); (case k2 => omega); (case hs => with_unfolding_all rfl); k_whole)))
  (k_with "compareOp NotIn int ref" => k_dflt (refine' notin_two ?N ?hD ?_; (case N => k_asm); (case hD => k_mem); k_whole))
  (k_with "setItem ref int" => ((with_reducible show wpAny _ _ (setItem (Value.ref _) (Value.int _ _) (Value.int _ _)) _ _ _); k_dflt (refine' set_six ?F ?N ?U ?k0 ?k2 ?_; (case F => k_asm); (case N => k_asm); (case U => k_upd); (case k0 => omega); (case k2 => omega); k_whole; intro h' F' N'; (try k_sweep))))
  (k_with "setItem ref int" => ((with_reducible show wpAny _ _ (setItem (Value.ref _) (Value.int _ _) (Value.str _ _)) _ _ _); k_dflt (refine' set_wrd ?F ?N ?U ?k0 ?k2 ?_; (case F => k_asm); (case N => k_asm); (case U => k_upd); (case k0 => omega); (case k2 => omega); k_whole; intro h' F' N'; (try k_sweep))))
  (k_with "CompSrcT" => (k_here; k_dflt (refine LCt.CompSrcT.range (by rfl) (by k_asm) (by k_asm) (by assumption) (by first | decide | rfl) (by first | rfl | decide) (by first | size_fits | exact Nat.le_of_ble_eq_true rfl) ?_; intro g'; refine unhold ?_)))
  (k_with "CompSrc" => (k_here; k_dflt (refine LCg.CompSrc.ledger (by rfl) (by k_asm) (by k_asm) (by k_mem) (Nat.le_of_ble_eq_true rfl) ?_; intro g'; refine unhold ?_)))
  (k_with "call type:list" => k_dflt (refine' list_copyK ?F ?N ?l ?_ ?z; (case F => k_asm); (case N => k_asm); (case l => exact News.isList (by k_asm) (by k_mem)); (case z => exact Nat.le_of_ble_eq_true rfl); k_whole; intro D' c' h' F' N' l1; (try k_lt l1); (try k_sweep)))
  (k_with "call ref" => ((with_reducible show wpAny _ _ (call (Value.ref 212) _ _) _ _ _); k_dflt (refine' ctr_call (addedW _ _ _ ?c1 ?c2 _ _) ?hK ?B ?F ?X ?N ?S ?T ?hk ?hd ?hu ?_; (case c1 => exact W8.at (by assumption) _); (case c2 => exact W8.at (by assumption) _); (case hd => assumption); (case hu => assumption); (case hK => decide); (case B => with_reducible assumption); (case F => k_asm); (case X => with_reducible assumption); (case N => k_asm); (case S => first | (intro kp hp; exact hp) | lcg_sub); (case T => with_reducible assumption); (case hk => exact rfl); intro r9 ns9 h9 tk9 F9 N9 o9; obtain ⟨e9, t9, e10⟩ := o9; subst e9; subst e10; (try dsimp only [List.nil_append] at N9); (try dsimp only); (try k_fold))))
  k_dflt (refine' ctr_cells ?k0 ?ko ?kB ?kS ?kc ?kb ?kl ?kD ?c1 ?c2 ?c3 ?_; (case k0 => decide); (case ko => k_is); (case kB => conv => lhs; whnf); (case kS => conv => lhs; whnf); (case kc => k_is); (case kb => intro _ kX; first | exact BindsTo.of_eq rfl | exact kp_binds kX (fun _ => rfl)); (case kl => exact rfl); (case kD => decide +kernel); (case c1 => exact rfl); (case c2 => exact rfl); (case c3 => exact rfl); k_whole)
  intro pr loose mean mg mb dp un gd cn cs Lc ac ccd clo outer base g L' h₁ s tk cells' F' N' Y' l1 B' X' T' hd hu
  (try k_lt l1); k_cells Y'; (try simp only [List.cons_append, List.nil_append] at N'); (try dsimp only); (try k_unmd); k_fold
  k_steps
  unfold Hold
  refine restT_inv (n := 4) (fun i ys => IntsAre ys (((List.range i).filter (fun (n : Nat) => !([PA t, PB t].any (· == 0 + (n : Int))))).map Int.ofNat)) ?_ trivial ?_ 4 0 [] rfl .nil
  · intro i ys hi hInv v I oI C oC D m₂ h tk E' hv hC hx F N
    obtain ⟨u, rfl⟩ := hv
    k_steps
    all_goals first
      | exact Went.intro (by assumption) (by assumption) (by lcg_sub)
      | exact flt_snoc (f := fun (n : Nat) => !([PA t, PB t].any (· == 0 + (n : Int)))) (by show (!_) = true; rw [‹List.any _ _ = _›]; rfl) hInv
      | exact flt_same (f := fun (n : Nat) => !([PA t, PB t].any (· == 0 + (n : Int)))) (by show (!_) = false; rw [‹List.any _ _ = _›]; rfl) hInv
  · intro ys hI
    rw [two_left ht0 ht6] at hI
    obtain ⟨t1, y1, e1, hI1⟩ := hI.cons_inv
    obtain ⟨t2, y2, e2, hI2⟩ := hI1.cons_inv
    have e3 := hI2.nil_inv
    clear hI hI1 hI2
    subst e3; subst e2; subst e1
    obtain ⟨hk0, hk4, hm0, hm4⟩ := km_bd ht0 ht6
    generalize hkk : KK t = kk at *
    generalize hmm : MM t = mm at *
    k_steps
    unfold Hold
    refine rest_inv (n := 6) (fun i ys => IntsAre ys ((List.range i).map (fun j => p j + p t.toNat))) ?_ (by lcg_src) ?_ 6 0 [] rfl .nil
    · intro i ys hi hInv v I oI C oC D m₂ h tk E' hv hC hx F N
      cases six_at hi hv
      k_steps
      · exact Went.intro (by assumption) (by assumption) (by lcg_sub)
      · exact ints_map_snoc hInv
    · intro ys hI
      obtain ⟨tk1, ey⟩ := ints6 hI
      subst ey
      clear hI
      unfold LCg.FinA
      intro D1 h1 tk2 F1 N1 o1
      replace N1 := news_head (o' := listOf (six6 (fun j => p j + p t.toNat) tk1) 6) N1 rfl
      generalize hf1 : (fun j => p j + p t.toNat) = f1 at *
      dsimp only
      k_steps
      subst_vars
      (show Fin _ _ _ _ _ _; try dsimp only)
      refine' fin_ret (by assumption) (by assumption) [_, _, _] ?hs ⟨_, _, _, _, _, _, _, _, ?ne, rfl, rfl⟩
      case hs => lcg_sub
      case ne => omega
end TTurn_
section TSpoilt_
open PySem PySem.W PySem.Spec PySem.Calls PyProof.Rows
noncomputable def spoilP (p : Nat → Int) (c : Int) : Nat → Int :=
  turnP (turnP (turnP p (((c.fdiv (12 ^ 0)).fmod 12).fmod 6) (((c.fdiv (12 ^ 0)).fmod 12).fdiv 6)) (((c.fdiv (12 ^ 1)).fmod 12).fmod 6) (((c.fdiv (12 ^ 1)).fmod 12).fdiv 6)) (((c.fdiv (12 ^ 2)).fmod 12).fmod 6) (((c.fdiv (12 ^ 2)).fmod 12).fdiv 6)
noncomputable def spoilW (p : Nat → Nat) (c : Int) : Nat → Nat :=
  turnW (turnW (turnW p (((c.fdiv (12 ^ 0)).fmod 12).fmod 6) (((c.fdiv (12 ^ 0)).fmod 12).fdiv 6)) (((c.fdiv (12 ^ 1)).fmod 12).fmod 6) (((c.fdiv (12 ^ 1)).fmod 12).fdiv 6)) (((c.fdiv (12 ^ 2)).fmod 12).fmod 6) (((c.fdiv (12 ^ 2)).fmod 12).fdiv 6)
set_option maxRecDepth 100000 in
set_option maxHeartbeats 8000000 in
theorem spoilt (w : World) (l l2 : Addr) (n n2 : Nat) (p : Nat → Int) (tp : Nat → Tok) (ws : Nat → Nat) (tw : Nat → Tok) (hw : W8 ws) (code : Int) (t0 : Tok) :
   Ctr w 8 236 [.ref l, .ref l2, .int code t0] [(l, listOf (six6 p tp) n), (l2, listOf (wrd4 ws tw) n2)] (fun ns r => ∃ new, ns = new ++ [(l, listOf (six6 p tp) n), (l2, listOf (wrd4 ws tw) n2)] ∧ SixWrd (spoilP p code) (spoilW ws code) new r) := by
  k_with_none
  (k_with "ite" => (k_closed; first | ((with_reducible refine ite_neg ?ci ?_); (case ci => decide)) | ((with_reducible refine ite_pos ?ci ?_); (case ci => decide))))
  (k_with "FinE" => ((unfold LCg.FinE); intro D' h' tk' F' N' o1'; (try simp only [List.nil_append, List.cons_append] at N'); (try dsimp only)))
  (k_with "FinA" => ((unfold LCg.FinA); intro D' h' tk' F' N' o1'; (try simp only [List.nil_append, List.cons_append] at N'); (try dsimp only)))
  (k_with "eval Name" => ((with_reducible show wpAny _ _ (eval (Expr.Name _ _) (compEnvC _ _ _ _)) _ _ _); k_dflt (first
  | (refine' LCgL.ld_own ?N ?m ?C ?x ?_ ?a ?b; (case a => rfl); (case b => rfl); (case N => k_asm); (case m => k_mem); (case C => assumption); (case x => assumption); k_whole)
  | (refine' lcf_cell ?N ?c ?m ?d ?_ ?a ?b; (case a => rfl); (case b => rfl); (case N => k_asm); (case c => rfl); (case m => k_mem); (case d => k_asm); k_whole)
  | (refine' LCgL.ld_global ?F ?X ?T ?e ?_ ?g ?a ?b; (case a => rfl); (case b => rfl); (case g => rfl); (case F => k_asm); (case X => k_asm); (case T => k_asm); (case e => k_is); k_whole)
  | (refine' lcf_free ?N ?c ?m ?d ?_ ?a ?b; (case a => rfl); (case b => rfl); (case N => k_asm); (case c => rfl); (case m => k_mem); (case d => k_asm); k_whole))))
  (k_with "eval ListComp" => ((with_reducible show wpAny _ _ (eval (Expr.ListComp _ [Comprehension.mk (Expr.Name _ _) _ [] _] _ _) _) _ _ _); k_dflt (refine LCg.ListComp_U (F₀ := by k_asm) (by with_unfolding_all rfl) (by decide) (by rfl) (by decide) (by rfl) ?_)))
  (k_with "exec Assign cons ListComp" => ((with_reducible show wpAny _ _ (exec (Stmt.Assign [Expr.Name _ _] (Expr.ListComp _ [Comprehension.mk (Expr.Name _ _) _ [] _] _ _) _) _) _ _ _); k_dflt (refine LCg.Assign_ListComp_U (F₀ := by k_asm) (by rfl) (by with_unfolding_all rfl) (by with_unfolding_all rfl) (by decide) (by rfl) (by decide) (by rfl) (by rfl) (by rfl) ?_)))
  (k_with "eval ListComp" => ((with_reducible show wpAny _ _ (eval (Expr.ListComp _ [Comprehension.mk (Expr.Name _ _) _ [_] _] _ _) _) _ _ _); k_dflt (refine LCt.ListComp_T (F₀ := by k_asm) (by with_unfolding_all rfl) (by decide) (by rfl) (by decide) (by rfl) ?_)))
  (k_with "exec Assign cons ListComp" => ((with_reducible show wpAny _ _ (exec (Stmt.Assign [Expr.Name _ _] (Expr.ListComp _ [Comprehension.mk (Expr.Name _ _) _ [_] _] _ _) _) _) _ _ _); k_dflt (refine LCt.Assign_ListComp_T (F₀ := by k_asm) (by rfl) (by with_unfolding_all rfl) (by with_unfolding_all rfl) (by decide) (by rfl) (by decide) (by rfl) (by rfl) (by rfl) ?_)))
  (k_with "CompSrc" => (k_here; k_dflt (first
  | (refine LCg.CompSrc.ledger (by rfl) (by k_asm) (by k_asm) (by k_mem) (by first | size_fits | exact Nat.le_of_ble_eq_true rfl) ?_; intro g'; lcg_lit)
  | (refine LCg.CompSrc.range (by rfl) (by k_asm) (by k_asm) (by assumption) (by first | decide | rfl) (by first | rfl | decide) (by first | size_fits | exact Nat.le_of_ble_eq_true rfl) ?_; intro g'; lcg_lit))))
  (k_with "call ref" => ((with_reducible show wpAny _ _ (call (Value.ref 229) _ _) _ _ _); k_dflt (refine' ctr_call (turned _ _ _ _ _ _ _ _ _ _ _ (fmod6 _).1 (fmod6 _).2 (fdiv6 _).1 (fdiv6 _).2 ?c1 _ _) ?hK ?B ?F ?X ?N ?S ?T ?hk ?hd ?hu ?_; (case hd => assumption); (case hu => assumption); (case hK => decide); (case B => with_reducible assumption); (case F => k_asm); (case X => with_reducible assumption); (case N => k_asm); (case S => first | (intro kp hp; exact hp) | lcg_sub); (case T => with_reducible assumption); (case hk => exact rfl); (case c1 => (repeat (first | assumption | apply W8.turn))); intro r9 ns9 h9 tk9 F9 N9 o9; obtain ⟨D1, D2, D3, q1, q2, m1, m2, c9, ne9, e9, e10⟩ := o9; subst e9; subst e10; (try simp only [List.cons_append, List.nil_append] at N9); (try dsimp only); (try k_fold))))
  k_dflt (refine' ctr_plain ?k0 ?ko ?kB ?kS ?kc ?kb ?kl ?c1 ?c2 ?c3 ?c4 ?_; (case k0 => decide); (case ko => k_is); (case kB => conv => lhs; whnf); (case kS => conv => lhs; whnf); (case kc => k_is); (case kb => intro _ kX; first | exact BindsTo.of_eq rfl | exact kp_binds kX (fun _ => rfl)); (case kl => exact locs rfl); (case c1 => exact rfl); (case c2 => exact rfl); (case c3 => exact rfl); (case c4 => decide); k_whole)
  intro pr loose mean mg mb dp un gd cn cs Lc ac ccd clo outer base g L' h₁ s tk F' N' B' X' T' hd hu
  (try dsimp only); (try k_unmd); k_fold
  k_steps
  (show Fin _ _ _ _ _ _; try dsimp only)
  refine' fin_ret (by assumption) (by assumption) [_, _, _] ?hs ⟨_, _, _, _, _, _, _, _, ?ne, rfl, rfl⟩
  case hs => lcg_sub
  case ne => assumption
end TSpoilt_
section Bis0_
open PySem PySem.W PySem.Spec PySem.Calls PyProof.Rows
/-- the order of two pairs of ints -/
noncomputable def ltP (x1 y1 x2 y2 : Int) : Bool := decide (x1 < x2) || (x1 == x2 && decide (y1 < y2))
section
variable {prog : Program} {w : World} {A : Around} {E : Value → Shared → Prop} {s : Shared}
theorem tuple_lt_pair {a b : Addr} {x1 y1 x2 y2 : Int} {t1 u1 t2 u2 : Tok} {P : PySem.Fin → Shared → Prop} (ha : s.heap.IsTuple a #[.int x1 t1, .int y1 u1]) (hb : s.heap.IsTuple b #[.int x2 t2, .int y2 u2])
    (h : P (.done (.ret (.bool (ltP x1 y1 x2 y2)))) s) :
    wpAny (model prog w) A (Builtin.«tuple.__lt__» ⟨[.ref a, .ref b], []⟩) P E s := by
  obtain ⟨⟨cls, dd, data, sl⟩, ho, hc, n, hd⟩ := id ha
  obtain ⟨⟨cls2, dd2, data2, sl2⟩, ho2, hc2, n2, hd2⟩ := id hb
  simp only at hc hd hc2 hd2
  subst hc hd hc2 hd2
  show wpAny _ _ (isInstance (.ref b) (.type "tuple") >>= _) _ _ s
  refine wpAny_bind (wpAny_isInstance ⟨_, ho2, rfl⟩ AutoSeq1.sub_tuple_tuple ?_)
  simp only [Bool.not_true, Bool.false_eq_true, if_false]
  refine wpAny_bind (wpAny_tupleItemsOf ho rfl ?_)
  refine wpAny_bind (wpAny_tupleItemsOf ho2 rfl ?_)
  have er (x1 x2 : Int) (t1 t2 : Tok) (Q : Value → Shared → Prop) (h : Q (.bool (decide (x1 < x2))) s) : wpAny (model prog w) A (richCompare .Lt (.int x1 t1) (.int x2 t2)) Q E s := wpAny_lt_int h
  simp only [List.zip_cons_cons, List.zip_nil_left, List.forIn_cons, List.forIn_nil]
  refine wpAny_bind (wpAny_bind (wpAny_bind (wpAny_eqBool_int ?_)))
  by_cases e1 : x1 = x2
  · subst e1
    rw [show (x1 == x1) = true from beq_self_eq_true x1]
    simp only [Bool.not_true, Bool.false_eq_true, if_false]
    refine wpAny_pure ?_
    dsimp only
    refine wpAny_bind (wpAny_bind (wpAny_eqBool_int ?_))
    by_cases e2 : y1 = y2
    · subst e2
      rw [show (y1 == y1) = true from beq_self_eq_true y1]
      simp only [Bool.not_true, Bool.false_eq_true, if_false]
      refine wpAny_pure (wpAny_pure (wpAny_pure ?_))
      have : ltP x1 y1 x1 y1 = false := by simp [ltP]
      rw [this] at h
      exact h
    · rw [show (y1 == y2) = false from beq_false_of_ne e2]
      simp only [Bool.not_false, if_true]
      refine wpAny_bind (wpAny_rule (wpAny_bind (er _ _ _ _ _ (wpAny_bind (wpAny_pure (wpAny_pure (wpAny_pure (wpAny_pure ?_))))))))
      have : ltP x1 y1 x1 y2 = decide (y1 < y2) := by simp [ltP]
      rw [this] at h
      exact h
  · rw [show (x1 == x2) = false from beq_false_of_ne e1]
    simp only [Bool.not_false, if_true]
    refine wpAny_bind (wpAny_rule (wpAny_bind (er _ _ _ _ _ (wpAny_bind (wpAny_pure (wpAny_pure (wpAny_pure (wpAny_pure ?_))))))))
    have : ltP x1 y1 x2 y2 = decide (x1 < x2) := by simp [ltP, e1]
    rw [this] at h
    exact h
theorem lt_pair {a b : Addr} {x1 y1 x2 y2 : Int} {t1 u1 t2 u2 : Tok} {Q : Value → Shared → Prop} (hu : A.units < cLine) (ha : s.heap.IsTuple a #[.int x1 t1, .int y1 u1]) (hb : s.heap.IsTuple b #[.int x2 t2, .int y2 u2])
    (h : Q (.bool (ltP x1 y1 x2 y2)) s) : wpAny (model prog w) A (compareOp .Lt (.ref a) (.ref b)) Q E s := by
  have Ta : s.TypeIs (.ref a) "tuple" := by
    obtain ⟨o, ho, hc, _⟩ := ha
    exact ⟨o, ho, hc⟩
  have Tb : s.TypeIs (.ref b) "tuple" := by
    obtain ⟨o, ho, hc, _⟩ := hb
    exact ⟨o, ho, hc⟩
  show wpAny _ _ (richCompare .Lt (.ref a) (.ref b)) Q E s
  exact wpAny_richCompare_same_room (op := .Lt) Ta Tb F.slot_tuple_lt
      (wpAny_call_entry F.slot_tuple_lt Ta F.entry_tuple_lt (tuple_lt_pair ha hb ⟨_, rfl, (fun e => nomatch e), h⟩) (F.args_tuple_lt_2 _ _)) hu
end
/-- a pair of ints in the heap -/
structure Cell where
  a : Addr
  x : Int
  y : Int
  tx : Tok
  ty : Tok
  c : Nat
noncomputable def Cell.led (r : Cell) : Addr × Obj := (r.a, tup #[.int r.x r.tx, .int r.y r.ty] r.c)
noncomputable def rowV (R : List Cell) : Array Value := (R.map fun r => Value.ref r.a).toArray
noncomputable def Cell.lt (p q : Cell) : Bool := ltP p.x p.y q.x q.y
theorem rowV_size (R : List Cell) : (rowV R).size = R.length := by simp [rowV]
theorem Cell.isTup {r : Cell} {h₀ h : Heap} {L : Addr} {news : Led} (N : News h₀ L h news) (hm : r.led ∈ news) : h.IsTuple r.a #[.int r.x r.tx, .int r.y r.ty] := News.isTup N hm
section
variable {prog : Program} {w : World} {A : Around} {E : Value → Shared → Prop} {s : Shared} {value slice : PySem.Expr} {l : Addr} {k : Int} {u : Tok} {h₀ : Heap} {L : Addr} {news : Led} {Q : Value → Shared → Prop}
theorem len_row {R : List Cell} {n : Nat} (N : News h₀ L s.heap news) (hm : (l, listOf (rowV R) n) ∈ news) (hn : R.length ≤ 100) (h : Q (.int (R.length : Nat) (s.toks + 1)) { s with toks := s.toks + 1 + 1 }) :
    wpAny (model prog w) A (call (.builtin "len") [.ref l]) Q E s :=
  kun_lenL (News.isList N hm) (by rw [rowV_size]) (by omega) h
theorem item_row {R : List Cell} {n : Nat} (N : News h₀ L s.heap news) (hm : (l, listOf (rowV R) n) ∈ news) (h0 : 0 ≤ k) (hk : k.toNat < R.length) (hn : R.length ≤ 100) (h : Q (.ref (R[k.toNat]).a) s)
    (hs : subscripted slice false (.ref l) (.int k u) = operate [.ref l, .int k u] (getItem (.ref l) (.int k u)) := by with_unfolding_all rfl) :
    wpAny (model prog w) A (subscriptTail value slice (.ref l) (.int k u)) Q E s := by
  refine item_litK (vs := R.map fun r => Value.ref r.a) (News.isList N hm) h0 (by omega) ?_ h hs
  simp [List.getElem?_eq_getElem hk]
theorem lt_cell {p q : Cell} {x y : Addr} (hx : x = p.a) (hy : y = q.a) (N : News h₀ L s.heap news) (hu : A.units < cLine) (h1 : p.led ∈ news) (h2 : q.led ∈ news) (h : Q (.bool (p.lt q)) s) : wpAny (model prog w) A (compareOp .Lt (.ref x) (.ref y)) Q E s := by
  subst hx; subst hy
  exact lt_pair hu (Cell.isTup N h1) (Cell.isTup N h2) h
theorem mid_half {a b : Nat} {t : Tok} (hab : a + b ≤ 1000) (h : Q (.int (((a + b) / 2 : Nat) : Int) s.toks) { s with toks := s.toks + 1 }) : wpAny (model prog w) A (binaryOp .FloorDiv (.int ((a : Int) + (b : Int)) t) (.int 2 u)) Q E s := by
  have e : ((a : Int) + (b : Int)).fdiv 2 = (((a + b) / 2 : Nat) : Int) := by
    rw [Int.fdiv_eq_ediv_of_nonneg _ (by decide)]
    omega
  refine floordiv_int (by decide) ?_ (Or.inl (PyProof.noPylong_small (by omega)))
  rw [e]
  exact h
end
theorem un3 {dp un k : Nat} {gd : Option (List Code)} {cn : Str} {cs : Scope} {L a : Addr} {ccd : Value} {cl : List (Str × Addr)} {outer : List Env} {env : Env} (h : un + 10 * (k + 1) < cLine) : ((ktrTop dp un gd cn cs L a ccd cl outer).deeper env).units < cLine := by
  show un + 3 < cLine
  omega
end Bis0_
section TBis_
open PySem PySem.W PySem.Spec PySem.Calls PyProof.Rows
set_option maxRecDepth 100000 in
set_option maxHeartbeats 8000000 in
theorem bisect (w : World) (l : Addr) (n : Nat) (R : List Cell) (z : Cell) (hn : R.length ≤ 100) (hs : ∀ i j (hj : j < R.length) (hi : i < j), (R[j]).lt z = true → (R[i]).lt z = true) (t0 : Tok) :
   Ctr w 2 63 [.ref l, .ref z.a, .int 0 t0, .none] ((l, listOf (rowV R) n) :: z.led :: R.map Cell.led) (fun ns r => ∃ new, ns = new ++ ((l, listOf (rowV R) n) :: z.led :: R.map Cell.led) ∧ (new = [] ∧
     ∃ j t, r = .int (j : Nat) t ∧ j ≤ R.length ∧ (∀ i (h : i < R.length), i < j → (R[i]).lt z = true) ∧ (∀ i (h : i < R.length), j ≤ i → (R[i]).lt z = false))) := by
  k_with_none
  (k_with "ite" => (k_closed; first | ((with_reducible refine ite_neg ?ci ?_); (case ci => decide)) | ((with_reducible refine ite_pos ?ci ?_); (case ci => decide))))
  (k_with "FinE" => ((unfold LCg.FinE); intro D' h' tk' F' N' o1'; (try simp only [List.nil_append, List.cons_append] at N'); (try dsimp only)))
  (k_with "FinA" => ((unfold LCg.FinA); intro D' h' tk' F' N' o1'; (try simp only [List.nil_append, List.cons_append] at N'); (try dsimp only)))
  (k_with "eval Name" => ((with_reducible show wpAny _ _ (eval (Expr.Name _ _) (compEnvC _ _ _ _)) _ _ _); k_dflt (first
  | (refine' LCgL.ld_own ?N ?m ?C ?x ?_ ?a ?b; (case a => rfl); (case b => rfl); (case N => k_asm); (case m => k_mem); (case C => assumption); (case x => assumption); k_whole)
  | (refine' lcf_cell ?N ?c ?m ?d ?_ ?a ?b; (case a => rfl); (case b => rfl); (case N => k_asm); (case c => rfl); (case m => k_mem); (case d => k_asm); k_whole)
  | (refine' LCgL.ld_global ?F ?X ?T ?e ?_ ?g ?a ?b; (case a => rfl); (case b => rfl); (case g => rfl); (case F => k_asm); (case X => k_asm); (case T => k_asm); (case e => k_is); k_whole)
  | (refine' lcf_free ?N ?c ?m ?d ?_ ?a ?b; (case a => rfl); (case b => rfl); (case N => k_asm); (case c => rfl); (case m => k_mem); (case d => k_asm); k_whole))))
  (k_with "eval ListComp" => ((with_reducible show wpAny _ _ (eval (Expr.ListComp _ [Comprehension.mk (Expr.Name _ _) _ [] _] _ _) _) _ _ _); k_dflt (refine LCg.ListComp_U (F₀ := by k_asm) (by with_unfolding_all rfl) (by decide) (by rfl) (by decide) (by rfl) ?_)))
  (k_with "exec Assign cons ListComp" => ((with_reducible show wpAny _ _ (exec (Stmt.Assign [Expr.Name _ _] (Expr.ListComp _ [Comprehension.mk (Expr.Name _ _) _ [] _] _ _) _) _) _ _ _); k_dflt (refine LCg.Assign_ListComp_U (F₀ := by k_asm) (by rfl) (by with_unfolding_all rfl) (by with_unfolding_all rfl) (by decide) (by rfl) (by decide) (by rfl) (by rfl) (by rfl) ?_)))
  (k_with "eval ListComp" => ((with_reducible show wpAny _ _ (eval (Expr.ListComp _ [Comprehension.mk (Expr.Name _ _) _ [_] _] _ _) _) _ _ _); k_dflt (refine LCt.ListComp_T (F₀ := by k_asm) (by with_unfolding_all rfl) (by decide) (by rfl) (by decide) (by rfl) ?_)))
  (k_with "exec Assign cons ListComp" => ((with_reducible show wpAny _ _ (exec (Stmt.Assign [Expr.Name _ _] (Expr.ListComp _ [Comprehension.mk (Expr.Name _ _) _ [_] _] _ _) _) _) _ _ _); k_dflt (refine LCt.Assign_ListComp_T (F₀ := by k_asm) (by rfl) (by with_unfolding_all rfl) (by with_unfolding_all rfl) (by decide) (by rfl) (by decide) (by rfl) (by rfl) (by rfl) ?_)))
  (k_with "CompSrc" => (k_here; k_dflt (first
  | (refine LCg.CompSrc.ledger (by rfl) (by k_asm) (by k_asm) (by k_mem) (by first | size_fits | exact Nat.le_of_ble_eq_true rfl) ?_; intro g'; lcg_lit)
  | (refine LCg.CompSrc.range (by rfl) (by k_asm) (by k_asm) (by assumption) (by first | decide | rfl) (by first | rfl | decide) (by first | size_fits | exact Nat.le_of_ble_eq_true rfl) ?_; intro g'; lcg_lit))))
  (k_with "call builtin:len" => ((with_reducible show wpAny _ _ (call (Value.builtin "len") [Value.ref _]) _ _ _); k_dflt (refine' len_row ?N ?m ?z ?_; (case N => k_asm); (case m => k_mem); (case z => assumption); k_whole)))
  (k_with "subscriptTail Name Name ref int" => ((with_reducible show wpAny _ _ (subscriptTail (Expr.Name _ _) (Expr.Name _ _) (Value.ref _) (Value.int _ _)) _ _ _); k_dflt (refine' item_row ?N ?m ?h0 ?hk ?hn ?_ ?hs; (case N => k_asm); (case m => k_mem); (case h0 => omega); (case hk => omega); (case hn => assumption); (case hs => with_unfolding_all rfl); k_whole)))
  (k_with "exec" => ((with_reducible show wpAny _ _ (exec (Stmt.While _ _ _ _) _) _ _ _); refine unhold ?_))
  (k_with "compareOp Lt ref ref" => ((with_reducible show wpAny _ _ (compareOp .Lt (Value.ref (Cell.a _)) (Value.ref (Cell.a _))) _ _ _); k_dflt (refine' lt_cell rfl rfl ?N ?hu ?h1 ?h2 ?_; (case N => k_asm); (case hu => exact un3 (by with_reducible assumption)); (case h1 => exact .tail _ (.tail _ (List.mem_map_of_mem (List.getElem_mem _)))); (case h2 => k_mem); k_whole)))
  (k_with "binaryOp FloorDiv int int" => ((with_reducible show wpAny _ _ (binaryOp .FloorDiv (Value.int (_ + _) _) (Value.int 2 _)) _ _ _); k_dflt (refine' mid_half ?h ?_; (case h => omega); k_whole)))
  (k_with "KswPost" => ((dsimp only [KswPost]); refine unhold ?_))
  k_dflt (refine' ctr_plain ?k0 ?ko ?kB ?kS ?kc ?kb ?kl ?c1 ?c2 ?c3 ?c4 ?_; (case k0 => decide); (case ko => k_is); (case kB => conv => lhs; whnf); (case kS => conv => lhs; whnf); (case kc => k_is); (case kb => intro _ kX; first | exact BindsTo.of_eq rfl | exact kp_binds kX (fun _ => rfl)); (case kl => exact locs rfl); (case c1 => exact rfl); (case c2 => exact rfl); (case c3 => exact rfl); (case c4 => decide); k_whole)
  intro pr loose mean mg mb dp un gd cn cs Lc ac ccd clo outer base g L' h₁ s tk F' N' B' X' T' hd hu
  (try dsimp only); (try k_unmd); k_fold
  k_steps
  unfold Hold
  (rename Fr _ _ _ _ => lF'); (rename News _ _ _ _ => lN')
  refine' ksw_while (σ := Nat × Nat × Tok × Tok) (fun _ => (l, listOf (rowV R) n) :: z.led :: R.map Cell.led) (fun c => [(Str.ofString "lo", .int (c.1 : Nat) c.2.2.1), (Str.ofString "hi", .int (c.2.1 : Nat) c.2.2.2)]) (fun _ => True) [Str.ofString "mid"]
    (fun c => c.1 ≤ c.2.1 ∧ c.2.1 ≤ R.length ∧ (∀ i (h : i < R.length), i < c.1 → (R[i]).lt z = true) ∧ (∀ i (h : i < R.length), c.2.1 ≤ i → (R[i]).lt z = false)) (fun c => c.2.1 - c.1) (0, R.length, _, _) lF' lN' trivial ?hk ⟨Nat.zero_le _, Nat.le_refl _, fun _ _ h => absurd h (Nat.not_lt_zero _), fun _ h h' => absurd h (Nat.not_lt.mpr h')⟩ ?_ PassesOwn.never
  case hk =>
    intro p hp
    rcases List.mem_cons.mp hp with rfl | hp
    · rfl
    · rcases List.mem_cons.mp hp with rfl | hp
      · rfl
      · cases hp
  clear lF' lN'
  rintro ⟨lo, hi, tl, th⟩ u h tk1 - ⟨i1, i2, i3, i4⟩ F1 N1
  dsimp only at *
  k_fold
  k_steps
  · unfold Hold
    have hm : (lo + hi) / 2 < R.length := by omega
    have hl : (R[(lo + hi) / 2]).lt z = true := by assumption
    refine' ksw_end ((lo + hi) / 2 + 1, hi, _, th) (by assumption) (by assumption) (fun p hp => hp) trivial ?hk ?hr ⟨by dsimp only; omega, by dsimp only; omega, ?h1, fun i hi' h => i4 i hi' h⟩ (by dsimp only; omega)
    case hk =>
      intro p hp
      rcases List.mem_cons.mp hp with rfl | hp
      · rfl
      · rcases List.mem_cons.mp hp with rfl | hp
        · rfl
        · cases hp
    case hr =>
      intro z1 h2 h3
      have a1 := h2 _ (.head _)
      have a2 := h2 _ (.tail _ (.head _))
      have a3 : z1 ≠ Str.ofString "mid" := fun e => by
        subst e
        exact absurd h3 (by decide)
      dsimp only at a1 a2
      simp [kstB, a1, a2, a3]
    case h1 =>
      intro i h1 h2
      dsimp only at h2
      rcases (by omega : i < (lo + hi) / 2 ∨ i = (lo + hi) / 2) with h3 | rfl
      · exact hs i _ hm h3 hl
      · exact hl
  · unfold Hold
    have hm : (lo + hi) / 2 < R.length := by omega
    have hl : (R[(lo + hi) / 2]).lt z = false := by assumption
    refine' ksw_end (lo, (lo + hi) / 2, tl, _) (by assumption) (by assumption) (fun p hp => hp) trivial ?hkB ?hrB ⟨by dsimp only; omega, by dsimp only; omega, fun i hi' h => i3 i hi' h, ?h1B⟩ (by dsimp only; omega)
    case hkB =>
      intro p hp
      rcases List.mem_cons.mp hp with rfl | hp
      · rfl
      · rcases List.mem_cons.mp hp with rfl | hp
        · rfl
        · cases hp
    case hrB =>
      intro z1 h2 h3
      have a1 := h2 _ (.head _)
      have a2 := h2 _ (.tail _ (.head _))
      have a3 : z1 ≠ Str.ofString "mid" := fun e => by
        subst e
        exact absurd h3 (by decide)
      dsimp only at a1 a2
      simp [kstB, a1, a2, a3]
    case h1B =>
      intro i h1 h2
      dsimp only at h2
      rcases (by omega : (lo + hi) / 2 < i ∨ i = (lo + hi) / 2) with h3 | rfl
      · cases e : (R[i]).lt z with
        | false => rfl
        | true => exact absurd (hs _ i h1 h3 e) (by rw [hl]; exact Bool.false_ne_true)
      · exact hl
  · (show Fin _ _ _ _ _ _; try dsimp only)
    refine fin_ret (by assumption) (by assumption) [] (fun p hp => hp) ⟨rfl, lo, _, rfl, by omega, fun i hi h => i3 i hi h, fun i hi h => i4 i hi (by omega)⟩
end TBis_
section Ins0_
open PySem PySem.W PySem.Spec PySem.Calls PyProof.Rows
noncomputable def ins (R : List Cell) (j : Nat) (z : Cell) : List Cell := R.take j ++ z :: R.drop j
theorem rowV_ins (R : List Cell) (j : Nat) (z : Cell) : ((rowV R).extract 0 j).push (Value.ref z.a) ++ (rowV R).extract j = rowV (ins R j z) := by
  apply Array.toList_inj.mp
  simp [rowV, ins]
  exact List.take_of_length_le (by simp)
theorem hfit {j k : Nat} (hj : j ≤ k) (hn : k ≤ 100) : ¬ (!Builtin.List.listFitsIndex (j : Int)) = true := by
  have : (j : Int) ≤ 100 := by omega
  have h0 : (0 : Int) ≤ j := by omega
  generalize (j : Int) = x at *
  unfold Builtin.List.listFitsIndex
  simp only [Bool.not_eq_true', Bool.and_eq_false_iff, decide_eq_false_iff_not, not_or, Decidable.not_not]
  omega
section
variable {prog : Program} {w : World} {A : Around} {E : Value → Shared → Prop} {s : Shared} {l : Addr} {h₀ : Heap} {L : Addr} {m : Str → Option Value} {Q : Value → Shared → Prop}
theorem cell_ne {h : Heap} {news : Led} {items : Array Value} {n : Nat} {r : Cell} (N : News h₀ L h news) (h1 : (l, listOf items n) ∈ news) (h2 : r.led ∈ news) : r.led.1 ≠ l := by
  intro e
  have a := (N _ h1).1
  have b := (N _ h2).1
  rw [e] at b
  have c := Option.some.inj (a.symm.trans b)
  have d := congrArg (fun o : Obj => match o.cls with | .type n => n | _ => "") c
  have d' : "list" = "tuple" := d
  exact absurd d' (by decide)
theorem insert_at {items : Array Value} {n : Nat} {x : Int} {t : Tok} {y : Value} (N : s.heap.get? l = some (listOf items n)) (hz : items.size ≤ sizeLine) (q : ¬ (!Builtin.List.listFitsIndex x) = true) (h0 : 0 ≤ x) (h1 : x.toNat ≤ items.size)
    (h : Q .none { s with heap := s.heap.update l (Obj.mapSeq fun xs => have k := if x < 0 then (x + (xs.size : Int)).toNat else min x.toNat xs.size; (xs.extract 0 k).push y ++ xs.extract k) }) :
    wpAny (model prog w) A (call (.builtin "list.insert") [.ref l, .int x t, y]) Q E s := by
  have g := AutoSeq1.list_insert_list_int_val_1 l items n x t y q hz
  have hT : s.TypeIs (.ref l) "list" := ⟨_, N, rfl⟩
  have ha := PySem.F.args_list_insert_3 (.ref l) (.int x t) y
  exact call_meets PySem.F.slot_list_insert hT PySem.F.entry_list_insert ha g ⟨N, h⟩
theorem insert_row {R : List Cell} {z : Cell} {n j : Nat} {x : Int} {t : Tok} (hx : x = (j : Int)) (F : Fr h₀ L s.heap m) (N : News h₀ L s.heap ((l, listOf (rowV R) n) :: z.led :: R.map Cell.led)) (hj : j ≤ R.length) (hn : R.length ≤ 100)
    (h : ∀ h' n', Fr h₀ L h' m → News h₀ L h' ((l, listOf (rowV (ins R j z)) n') :: z.led :: R.map Cell.led) → Q .none { s with heap := h' }) :
    wpAny (model prog w) A (call (.builtin "list.insert") [.ref l, .int x t, .ref z.a]) Q E s := by
  have ho := (N _ (.head _)).1
  have z' := N (l, listOf (rowV R) n) (.head _)
  have q : ¬ (!Builtin.List.listFitsIndex x) = true := by rw [hx]; exact hfit hj hn
  have x0 : 0 ≤ x := by omega
  have xj : x.toNat = j := by omega
  clear hx
  refine insert_at (x := x) ho (by rw [rowV_size]; unfold sizeLine; omega) q x0 (by rw [rowV_size]; omega) ?_
  refine h _ (n + 1) (F.change (Heap.SameBut.update ..) z'.2.1 z'.2.2) (ki_turn (pre := []) (post := z.led :: R.map Cell.led) _ N (fun _ hp => nomatch hp) (fun p hp => ?_) ?_ ?_)
  · have hp' : p ∈ (l, listOf (rowV R) n) :: z.led :: R.map Cell.led := .tail _ hp
    rcases List.mem_cons.mp hp with rfl | hp
    · exact cell_ne N (.head _) hp'
    · obtain ⟨r, hr, rfl⟩ := List.mem_map.mp hp
      exact cell_ne N (.head _) hp'
  · dsimp only
    rw [if_neg (by omega), show min x.toNat (rowV R).size = j by rw [rowV_size]; omega]
    exact rowV_ins R j z
  · rw [rowV_size, rowV_size]
    have : (ins R j z).length = R.length + 1 := by simp [ins]; omega
    rw [this]
    simp
end
end Ins0_
section TIns_
open PySem PySem.W PySem.Spec PySem.Calls PyProof.Rows
set_option maxRecDepth 100000 in
set_option maxHeartbeats 8000000 in
theorem insort (w : World) (l : Addr) (n : Nat) (R : List Cell) (z : Cell) (hn : R.length ≤ 100) (hs : ∀ i j (hj : j < R.length) (hi : i < j), (R[j]).lt z = true → (R[i]).lt z = true) :
   Ctr w 4 54 [.ref l, .ref z.a] ((l, listOf (rowV R) n) :: z.led :: R.map Cell.led) (fun ns r => ∃ j n', ns = (l, listOf (rowV (ins R j z)) n') :: z.led :: R.map Cell.led ∧ r = .none ∧
     j ≤ R.length ∧ (∀ i (h : i < R.length), i < j → (R[i]).lt z = true) ∧ (∀ i (h : i < R.length), j ≤ i → (R[i]).lt z = false)) := by
  k_with_none
  (k_with "ite" => (k_closed; first | ((with_reducible refine ite_neg ?ci ?_); (case ci => decide)) | ((with_reducible refine ite_pos ?ci ?_); (case ci => decide))))
  (k_with "FinE" => ((unfold LCg.FinE); intro D' h' tk' F' N' o1'; (try simp only [List.nil_append, List.cons_append] at N'); (try dsimp only)))
  (k_with "FinA" => ((unfold LCg.FinA); intro D' h' tk' F' N' o1'; (try simp only [List.nil_append, List.cons_append] at N'); (try dsimp only)))
  (k_with "eval Name" => ((with_reducible show wpAny _ _ (eval (Expr.Name _ _) (compEnvC _ _ _ _)) _ _ _); k_dflt (first
  | (refine' LCgL.ld_own ?N ?m ?C ?x ?_ ?a ?b; (case a => rfl); (case b => rfl); (case N => k_asm); (case m => k_mem); (case C => assumption); (case x => assumption); k_whole)
  | (refine' lcf_cell ?N ?c ?m ?d ?_ ?a ?b; (case a => rfl); (case b => rfl); (case N => k_asm); (case c => rfl); (case m => k_mem); (case d => k_asm); k_whole)
  | (refine' LCgL.ld_global ?F ?X ?T ?e ?_ ?g ?a ?b; (case a => rfl); (case b => rfl); (case g => rfl); (case F => k_asm); (case X => k_asm); (case T => k_asm); (case e => k_is); k_whole)
  | (refine' lcf_free ?N ?c ?m ?d ?_ ?a ?b; (case a => rfl); (case b => rfl); (case N => k_asm); (case c => rfl); (case m => k_mem); (case d => k_asm); k_whole))))
  (k_with "eval ListComp" => ((with_reducible show wpAny _ _ (eval (Expr.ListComp _ [Comprehension.mk (Expr.Name _ _) _ [] _] _ _) _) _ _ _); k_dflt (refine LCg.ListComp_U (F₀ := by k_asm) (by with_unfolding_all rfl) (by decide) (by rfl) (by decide) (by rfl) ?_)))
  (k_with "exec Assign cons ListComp" => ((with_reducible show wpAny _ _ (exec (Stmt.Assign [Expr.Name _ _] (Expr.ListComp _ [Comprehension.mk (Expr.Name _ _) _ [] _] _ _) _) _) _ _ _); k_dflt (refine LCg.Assign_ListComp_U (F₀ := by k_asm) (by rfl) (by with_unfolding_all rfl) (by with_unfolding_all rfl) (by decide) (by rfl) (by decide) (by rfl) (by rfl) (by rfl) ?_)))
  (k_with "eval ListComp" => ((with_reducible show wpAny _ _ (eval (Expr.ListComp _ [Comprehension.mk (Expr.Name _ _) _ [_] _] _ _) _) _ _ _); k_dflt (refine LCt.ListComp_T (F₀ := by k_asm) (by with_unfolding_all rfl) (by decide) (by rfl) (by decide) (by rfl) ?_)))
  (k_with "exec Assign cons ListComp" => ((with_reducible show wpAny _ _ (exec (Stmt.Assign [Expr.Name _ _] (Expr.ListComp _ [Comprehension.mk (Expr.Name _ _) _ [_] _] _ _) _) _) _ _ _); k_dflt (refine LCt.Assign_ListComp_T (F₀ := by k_asm) (by rfl) (by with_unfolding_all rfl) (by with_unfolding_all rfl) (by decide) (by rfl) (by decide) (by rfl) (by rfl) (by rfl) ?_)))
  (k_with "CompSrc" => (k_here; k_dflt (first
  | (refine LCg.CompSrc.ledger (by rfl) (by k_asm) (by k_asm) (by k_mem) (by first | size_fits | exact Nat.le_of_ble_eq_true rfl) ?_; intro g'; lcg_lit)
  | (refine LCg.CompSrc.range (by rfl) (by k_asm) (by k_asm) (by assumption) (by first | decide | rfl) (by first | rfl | decide) (by first | size_fits | exact Nat.le_of_ble_eq_true rfl) ?_; intro g'; lcg_lit))))
  (k_with "call ref" => ((with_reducible show wpAny _ _ (call (Value.ref 63) _ _) _ _ _); k_dflt (refine' ctr_call (bisect _ _ _ _ _ ?c1 ?c2 _) ?hK ?B ?F ?X ?N ?S ?T ?hk ?hd ?hu ?_; (case hd => assumption); (case hu => assumption); (case hK => decide); (case B => with_reducible assumption); (case F => k_asm); (case X => with_reducible assumption); (case N => k_asm); (case S => first | (intro kp hp; exact hp) | lcg_sub); (case T => with_reducible assumption); (case hk => exact rfl); (case c1 => assumption); (case c2 => assumption); intro r9 ns9 h9 tk9 F9 N9 o9; obtain ⟨e9, j9, t9, e10, o10⟩ := o9; subst e9; subst e10; (try dsimp only [List.nil_append] at N9); (try dsimp only); (try k_fold))))
  (k_with "call builtin:list.insert" => ((with_reducible show wpAny _ _ (call (Value.builtin "list.insert") [Value.ref _, Value.int _ _, Value.ref (Cell.a _)]) _ _ _); k_dflt (refine' insert_row rfl ?F ?N ?z ?n ?_; (case F => k_asm); (case N => k_asm); (case z => exact (‹_ ∧ _ ∧ _›).1); (case n => assumption); k_whole; intro h' n' F' N'; (try k_sweep))))
  k_dflt (refine' ctr_plain ?k0 ?ko ?kB ?kS ?kc ?kb ?kl ?c1 ?c2 ?c3 ?c4 ?_; (case k0 => decide); (case ko => k_is); (case kB => conv => lhs; whnf); (case kS => conv => lhs; whnf); (case kc => k_is); (case kb => intro _ kX; first | exact BindsTo.of_eq rfl | exact kp_binds kX (fun _ => rfl)); (case kl => exact locs rfl); (case c1 => exact rfl); (case c2 => exact rfl); (case c3 => exact rfl); (case c4 => decide); k_whole)
  intro pr loose mean mg mb dp un gd cn cs Lc ac ccd clo outer base g L' h₁ s tk F' N' B' X' T' hd hu
  (try dsimp only); (try k_unmd); k_fold
  k_steps
  refine Fin.intro (by assumption) (by assumption) _ (fun p hp => hp) ⟨_, _, rfl, rfl, ‹_ ∧ _ ∧ _›⟩
end TIns_
section TIseof_
open PySem PySem.W PySem.Spec PySem.Calls PyProof.Rows
set_option maxRecDepth 100000 in
set_option maxHeartbeats 8000000 in
theorem iseof (w : World) (x : Int) (t0 : Tok) :
   Ctr w 2 70 [.int x t0] [] (fun ns r => ∃ new, ns = new ++ [] ∧ new = [] ∧ r = .bool (x == 0)) := by
  k_with_none
  (k_with "ite" => (k_closed; first | ((with_reducible refine ite_neg ?ci ?_); (case ci => decide)) | ((with_reducible refine ite_pos ?ci ?_); (case ci => decide))))
  (k_with "FinE" => ((unfold LCg.FinE); intro D' h' tk' F' N' o1'; (try simp only [List.nil_append, List.cons_append] at N'); (try dsimp only)))
  (k_with "FinA" => ((unfold LCg.FinA); intro D' h' tk' F' N' o1'; (try simp only [List.nil_append, List.cons_append] at N'); (try dsimp only)))
  (k_with "eval Name" => ((with_reducible show wpAny _ _ (eval (Expr.Name _ _) (compEnvC _ _ _ _)) _ _ _); k_dflt (first
  | (refine' LCgL.ld_own ?N ?m ?C ?x ?_ ?a ?b; (case a => rfl); (case b => rfl); (case N => k_asm); (case m => k_mem); (case C => assumption); (case x => assumption); k_whole)
  | (refine' lcf_cell ?N ?c ?m ?d ?_ ?a ?b; (case a => rfl); (case b => rfl); (case N => k_asm); (case c => rfl); (case m => k_mem); (case d => k_asm); k_whole)
  | (refine' LCgL.ld_global ?F ?X ?T ?e ?_ ?g ?a ?b; (case a => rfl); (case b => rfl); (case g => rfl); (case F => k_asm); (case X => k_asm); (case T => k_asm); (case e => k_is); k_whole)
  | (refine' lcf_free ?N ?c ?m ?d ?_ ?a ?b; (case a => rfl); (case b => rfl); (case N => k_asm); (case c => rfl); (case m => k_mem); (case d => k_asm); k_whole))))
  (k_with "eval ListComp" => ((with_reducible show wpAny _ _ (eval (Expr.ListComp _ [Comprehension.mk (Expr.Name _ _) _ [] _] _ _) _) _ _ _); k_dflt (refine LCg.ListComp_U (F₀ := by k_asm) (by with_unfolding_all rfl) (by decide) (by rfl) (by decide) (by rfl) ?_)))
  (k_with "exec Assign cons ListComp" => ((with_reducible show wpAny _ _ (exec (Stmt.Assign [Expr.Name _ _] (Expr.ListComp _ [Comprehension.mk (Expr.Name _ _) _ [] _] _ _) _) _) _ _ _); k_dflt (refine LCg.Assign_ListComp_U (F₀ := by k_asm) (by rfl) (by with_unfolding_all rfl) (by with_unfolding_all rfl) (by decide) (by rfl) (by decide) (by rfl) (by rfl) (by rfl) ?_)))
  (k_with "eval ListComp" => ((with_reducible show wpAny _ _ (eval (Expr.ListComp _ [Comprehension.mk (Expr.Name _ _) _ [_] _] _ _) _) _ _ _); k_dflt (refine LCt.ListComp_T (F₀ := by k_asm) (by with_unfolding_all rfl) (by decide) (by rfl) (by decide) (by rfl) ?_)))
  (k_with "exec Assign cons ListComp" => ((with_reducible show wpAny _ _ (exec (Stmt.Assign [Expr.Name _ _] (Expr.ListComp _ [Comprehension.mk (Expr.Name _ _) _ [_] _] _ _) _) _) _ _ _); k_dflt (refine LCt.Assign_ListComp_T (F₀ := by k_asm) (by rfl) (by with_unfolding_all rfl) (by with_unfolding_all rfl) (by decide) (by rfl) (by decide) (by rfl) (by rfl) (by rfl) ?_)))
  (k_with "CompSrc" => (k_here; k_dflt (first
  | (refine LCg.CompSrc.ledger (by rfl) (by k_asm) (by k_asm) (by k_mem) (by first | size_fits | exact Nat.le_of_ble_eq_true rfl) ?_; intro g'; lcg_lit)
  | (refine LCg.CompSrc.range (by rfl) (by k_asm) (by k_asm) (by assumption) (by first | decide | rfl) (by first | rfl | decide) (by first | size_fits | exact Nat.le_of_ble_eq_true rfl) ?_; intro g'; lcg_lit))))
  k_dflt (refine' ctr_plain ?k0 ?ko ?kB ?kS ?kc ?kb ?kl ?c1 ?c2 ?c3 ?c4 ?_; (case k0 => decide); (case ko => k_is); (case kB => conv => lhs; whnf); (case kS => conv => lhs; whnf); (case kc => k_is); (case kb => intro _ kX; first | exact BindsTo.of_eq rfl | exact kp_binds kX (fun _ => rfl)); (case kl => exact locs rfl); (case c1 => exact rfl); (case c2 => exact rfl); (case c3 => exact rfl); (case c4 => decide); k_whole)
  intro pr loose mean mg mb dp un gd cn cs Lc ac ccd clo outer base g L' h₁ s tk F' N' B' X' T' hd hu
  (try dsimp only); (try k_unmd); k_fold
  k_steps
  all_goals (show Fin _ _ _ _ _ _; try dsimp only)
  exact fin_ret (by assumption) (by assumption) [] (by lcg_sub) ⟨rfl, rfl⟩
end TIseof_
section Grow_
open PySem PySem.W PySem.Spec PySem.Calls PyProof.Rows
/-- a turn's end of a loop whose ledger may grow -/
noncomputable def GEnd (h₀ : Heap) (L : Addr) (I : Addr) (oI : Obj) (Jn : (Str → Option Value) → Led → Prop) (s₁ : Shared) (f : Flow) (s₂ : Shared) : Prop :=
  f = .next ∧ ∃ h' tk m₂ news₂, s₂ = { s₁ with heap := h', toks := tk } ∧ Fr h₀ L h' m₂ ∧ News h₀ L h' ((I, oI) :: news₂) ∧ (∀ p ∈ news₂, p.1 ≠ I) ∧ Jn m₂ news₂
section
variable {prog : Program} {w : World} {A : Around} {E : Value → Shared → Prop} {s : Shared} {env : Env} {h₀ : Heap} {x : Str} {px : Pos} {body : List Stmt} {Q : Flow → Shared → Prop} {m : Str → Option Value} {news : Led} {r : Addr} {a₀ b₀ : Int} {t₀ u₀ v₀ : Tok} {n : Nat}
theorem grow_range (J : Nat → (Str → Option Value) → Led → Prop) (hh : A.handled = none) (hr : IsRange s.heap r a₀ b₀ 1 t₀ u₀ v₀) (hsmall : Builtin.Range.small a₀ b₀ 1 = true) (hn : Builtin.Range.rangeSize a₀ b₀ 1 = (n : Int)) (F : Fr h₀ env.locals s.heap m) (N : News h₀ env.locals s.heap news)
    (hx : env.kindOf x = some .local) (hp : (env.scope.kind == .class || (env.scope.kind == .module && env.locals != env.globals)) = false) (h0 : J 0 m news)
    (turn : ∀ (i : Nat) t m₁ news₁ h tk I oI, i < n → J i m₁ news₁ → (∀ p ∈ news₁, p.1 ≠ I) → Fr h₀ env.locals h (fun y => if y = x then some (.int (a₀ + (i : Int) * 1) t) else m₁ y) → News h₀ env.locals h ((I, oI) :: news₁) →
      wpAny (model prog w) A (execs body env) (GEnd h₀ env.locals I oI (J (i + 1)) { s with heap := h, toks := tk }) E { s with heap := h, toks := tk })
    (done : ∀ h tk m₁ news₁, J n m₁ news₁ → Fr h₀ env.locals h m₁ → News h₀ env.locals h news₁ → Q .next { s with heap := h, toks := tk }) :
    wpAny (model prog w) A (pyIter (.ref r)) (fun it s₂ => TurnsAt prog w A h₀ env (.Name x px) body Q E it s₂) E s := by
  refine wpAny_pyIter_range hr hsmall ?_
  have W : Walks prog w A s.heap.objs.size [s.heap.objs.size] [s.heap.objs.size] n (fun i v => i < n ∧ ∃ t, v = .int (a₀ + i * 1) t)
      (fun i h => IsRangeIter h s.heap.objs.size (a₀ + (i : Nat) * 1) ((n : Int) - (i : Nat)) 1) := (Walks.range hh _ a₀ 1 n).bound
  have hI : h₀.get? s.heap.objs.size = none := next_is_new F
  refine ⟨_, _, _, _, _, _, _, m, news, J, rfl, KTurns.ofWalks W (fun i v s' Q' E' st q => ?_), ?_, ?_, ?_, ?_, F.push _, fun p hp => ⟨Heap.get?_push_of_some _ (N p hp).1, (N p hp).2⟩, h0, ?_, ?_⟩
  · exact wpAny_pure q
  · intro hm
    exact absurd F.ns.lt ((List.mem_singleton.mp hm) ▸ Nat.lt_irrefl _)
  · intro b hb
    rw [List.mem_singleton.mp hb]
    exact hI
  · intro p hp hI
    exact absurd (Heap.lt_size (N p hp).1) ((List.mem_singleton.mp hI) ▸ Nat.lt_irrefl _)
  · show IsRangeIter _ _ _ _ _
    rw [hn]
    simpa using Heap.get?_push_size _ rfl
  · rintro i v m₁ nx h tk own hi ⟨_, t, rfl⟩ hj hoff hown hget hall st F₁ N₁
    obtain ⟨o, ho, _⟩ : ∃ o, h.get? s.heap.objs.size = some o ∧ True := by
      exact ⟨_, st, trivial⟩
    have hm : (s.heap.objs.size, o) ∈ own := hall _ (.head _) hI o ho
    refine wpAny_assign_Name (wpAny_storeName_local hx F₁.ns (fun h₂ hn₂ hs₂ => ?_) hp)
    have F₂ := F₁.set hn₂ hs₂
    have N₂ := N₁.set hs₂
    have N₃ : News h₀ env.locals h₂ ((s.heap.objs.size, o) :: nx) := fun p hp => by
      rcases List.mem_cons.mp hp with rfl | hp
      · exact N₂ _ (List.mem_append_left _ hm)
      · exact N₂ _ (List.mem_append_right _ hp)
    have hne : ∀ p ∈ nx, p.1 ≠ s.heap.objs.size := fun p hp e => hoff p hp (by rw [e]; exact .head _)
    refine wpAny_mono (turn i t m₁ nx h₂ _ _ o hi hj hne F₂ N₃) (fun f s₃ h₃ => ?_) fun _ _ e => e
    obtain ⟨rfl, h', tk', m₂, nx₂, rfl, F', N', ne', hj'⟩ := h₃
    refine ⟨rfl, h', tk', m₂, nx₂, rfl, F', fun p hp => ?_, fun p hp hw => ne' p hp (List.mem_singleton.mp hw), hj'⟩
    rcases List.mem_append.mp hp with hp | hp
    · have e1 : p.1 = s.heap.objs.size := List.mem_singleton.mp (hown p hp)
      have e2 := hget p hp
      rw [e1, ho] at e2
      have e3 : p = (s.heap.objs.size, o) := by
        obtain ⟨pa, po⟩ := p
        cases e2
        cases e1
        rfl
      rw [e3]
      exact N' _ (.head _)
    · exact N' _ (.tail _ hp)
  · intro h' tk m' news' F' N' _ hj
    exact done h' tk m' news' hj F' N'
end
end Grow_
section Row0_
open PySem PySem.W PySem.Spec PySem.Calls PyProof.Rows
noncomputable def Sorted (R : List Cell) : Prop := R.Pairwise (fun a b => b.lt a = false)
/-- the row behind i places -/
structure RowOk (p : Nat → Int) (i : Nat) (R : List Cell) : Prop where
  len : R.length ≤ i
  sorted : Sorted R
  all : ∀ c ∈ R, ∃ t : Nat, t < i ∧ c.y = (t : Int) ∧ c.x = p t ∧ p t < 0
  some : ∀ t, t < i → p t < 0 → R ≠ []
noncomputable def rowJ (row : Addr) (base : Led) (m₀ : Str → Option Value) (p : Nat → Int) (i : Nat) (m₁ : Str → Option Value) (news₁ : Led) : Prop :=
  ∃ (R : List Cell) (n6 : Nat) (uu : Str → Option Value), news₁ = (row, listOf (rowV R) n6) :: (base ++ R.map Cell.led) ∧ m₁ = (fun y => if y = Str.ofString "t" then uu y else m₀ y) ∧ RowOk p i R ∧ (∀ q ∈ base, q.1 ≠ row) ∧ ∀ q ∈ base, ∀ c ∈ R, q.1 ≠ c.a
theorem rowJ_start {row : Addr} {base : Led} {m₀ : Str → Option Value} {p : Nat → Int} {n : Nat} (hb : ∀ q ∈ base, q.1 ≠ row) : rowJ row base m₀ p 0 m₀ ((row, listOf #[] n) :: base) :=
  ⟨[], n, m₀, by simp [rowV], by funext y; split <;> rfl, ⟨Nat.le_refl _, List.Pairwise.nil, fun _ hc => (nomatch hc), fun t ht => absurd ht (Nat.not_lt_zero t)⟩, hb, fun _ _ _ hc => (nomatch hc)⟩
theorem fr_two {h₀ h : Heap} {L : Addr} {x : Str} {v : Option Value} {uu m₀ : Str → Option Value} (F : Fr h₀ L h (fun y => if y = x then v else (if y = x then uu y else m₀ y))) : Fr h₀ L h (fun y => if y = x then v else m₀ y) := by
  have e : (fun y => if y = x then v else (if y = x then uu y else m₀ y)) = fun y => if y = x then v else m₀ y := by
    funext y
    by_cases h : y = x <;> simp [h]
  rw [e] at F
  exact F
theorem ltP_trans {x1 y1 x2 y2 x3 y3 : Int} (h1 : ltP x2 y2 x1 y1 = false) (h2 : ltP x2 y2 x3 y3 = true) : ltP x1 y1 x3 y3 = true := by
  simp only [ltP, Bool.or_eq_true, Bool.or_eq_false_iff, Bool.and_eq_true, Bool.and_eq_false_iff, decide_eq_true_eq, decide_eq_false_iff_not, beq_iff_eq, beq_eq_false_iff_ne, ne_eq] at *
  omega
theorem Sorted.idx {R : List Cell} (h : Sorted R) (z : Cell) (i j : Nat) (hj : j < R.length) (hi : i < j) (e : (R[j]).lt z = true) : (R[i]).lt z = true :=
  ltP_trans (List.pairwise_iff_getElem.mp h i j (by omega) hj hi) e
theorem lt_asymm {a b : Cell} (h : a.lt b = true) : b.lt a = false := by
  simp only [Cell.lt, ltP, Bool.or_eq_true, Bool.or_eq_false_iff, Bool.and_eq_true, Bool.and_eq_false_iff, decide_eq_true_eq, decide_eq_false_iff_not, beq_iff_eq, beq_eq_false_iff_ne, ne_eq] at *
  omega
theorem Sorted.ins {R : List Cell} {z : Cell} {j : Nat} (h : Sorted R) (h1 : ∀ k (h : k < R.length), k < j → (R[k]).lt z = true) (h2 : ∀ k (h : k < R.length), j ≤ k → (R[k]).lt z = false) : Sorted (ins R j z) := by
  have ht : ∀ c ∈ R.take j, c.lt z = true := fun c hc => by
    obtain ⟨k, hk, rfl⟩ := List.mem_iff_getElem.mp hc
    rw [List.length_take] at hk
    rw [List.getElem_take]
    exact h1 k (by omega) (by omega)
  have hd : ∀ c ∈ R.drop j, c.lt z = false := fun c hc => by
    obtain ⟨k, hk, rfl⟩ := List.mem_iff_getElem.mp hc
    rw [List.length_drop] at hk
    rw [List.getElem_drop]
    exact h2 _ (by omega) (by omega)
  have hR : Sorted (R.take j ++ R.drop j) := by rw [List.take_append_drop]; exact h
  obtain ⟨p1, p2, p3⟩ := List.pairwise_append.mp hR
  refine List.pairwise_append.mpr ⟨p1, List.pairwise_cons.mpr ⟨hd, p2⟩, fun a ha b hb => ?_⟩
  rcases List.mem_cons.mp hb with rfl | hb
  · exact lt_asymm (ht a ha)
  · exact p3 a ha b hb
theorem RowOk.skip {p : Nat → Int} {i : Nat} {R : List Cell} (h : RowOk p i R) (hp : ¬ p i < 0) : RowOk p (i + 1) R :=
  ⟨Nat.le_succ_of_le h.len, h.sorted, fun c hc => let ⟨t, a, b⟩ := h.all c hc; ⟨t, Nat.lt_succ_of_lt a, b⟩, fun t ht hn => by
    rcases Nat.lt_succ_iff_lt_or_eq.mp ht with h1 | rfl
    · exact h.some t h1 hn
    · exact absurd hn hp⟩
section
variable {prog : Program} {w : World} {A : Around} {E : Value → Shared → Prop} {s : Shared} {value slice : PySem.Expr} {l : Addr} {k : Int} {u : Tok} {Q : Value → Shared → Prop}
theorem item_six_nat {p : Nat → Int} {tk : Nat → Tok} {i : Nat} (hl : s.heap.IsList l (six6 p tk)) (hk : k = 0 + (i : Int) * 1) (hi : i < 6) (h : Q (.int (p i) (tk i)) s)
    (hs : subscripted slice false (.ref l) (.int k u) = operate [.ref l, .int k u] (getItem (.ref l) (.int k u)) := by with_unfolding_all rfl) :
    wpAny (model prog w) A (subscriptTail value slice (.ref l) (.int k u)) Q E s := by
  have e : k.toNat = i := by omega
  refine item_six hl (by omega) (by omega) ?_ hs
  rw [e]
  exact h
end
end Row0_
section Row1_
open PySem PySem.W PySem.Spec PySem.Calls PyProof.Rows
section
variable {w : World} {k : Nat} {f : Addr} {vs : List Value} {own : Led} {Out : Led → Value → Prop}
variable {p : Program} {loose : List Str} {mean : ExcName → Option Value} {mg mb : Str → Option Value} {dp un : Nat} {gd : Option (List Code)} {cn : Str} {cs : Scope} {a : Addr} {ccd : Value} {cl : List (Str × Addr)} {outer : List Env} {A₀ : Around} {base h₀ : Heap} {L : Addr} {m : Str → Option Value} {s : Shared}
    {Q E : Value → Shared → Prop}
/-- a call that changes its own ledger, from within a body; `keep` stands -/
theorem mut_call {K : Nat} {g : Heap} {L' : Addr} {qual₁ : Str} {scope₁ : Scope} {a₁ : Addr} {cdv₁ : Value} {cl₁ : List (Str × Addr)} {news : Led} (keep : Led) (C : Ctr w k f vs own Out) (hK : k + 1 ≤ K)
    (B : Below (ktrTop dp un gd cn cs L a ccd cl outer) base (envX cn cs L a ccd cl :: outer) g) (F : Fr g L' s.heap m) (X : (KP w.params).In g) (N : News g L' s.heap news) (hs : ∀ p ∈ own, p ∈ news) (hkp : ∀ p ∈ keep, p ∈ news ∧ p.1 ∉ own.map (·.1)) (T : Top p loose mean mg mb g) (hk : scope₁.kind = .function) (hd : dp + K < recursionLimit) (hu : un + 10 * K < cLine)
    (ret : ∀ r ns h' tk', Fr g L' h' m → News g L' h' (ns ++ keep) → Out ns r → Q r { s with heap := h', toks := tk' }) :
    wpAny (model PySem.Challenge.rw_to0046_01.row.prog w) ((ktrTop dp un gd cn cs L a ccd cl outer).deeper (envX qual₁ scope₁ L' a₁ cdv₁ cl₁)) (call (.ref f) vs) Q E s :=
  C _ _ _ _ _ (dp + 1) (un + 3) _ _ _ _ _ _ (envX cn cs L a ccd cl :: outer) _ _ _ _ _ _ _ _ B F X (fun p hp => N p (hs p hp)) T hk (by omega) (by omega) (fun r ns h' tk' F' N' G fr o => by
    refine ret r ns h' tk' F' (fun q hq => ?_) o
    rcases List.mem_append.mp hq with hq | hq
    · exact N' q hq
    · have hn := hkp q hq
      exact ⟨G _ _ (N q hn.1).1 hn.2, (N q hn.1).2⟩)
end
theorem RowOk.put {p : Nat → Int} {i j : Nat} {R : List Cell} {z : Cell} (h : RowOk p i R) (hp : p i < 0) (hx : z.x = p i) (hy : z.y = (i : Int)) (hj : j ≤ R.length) (h1 : ∀ k (h : k < R.length), k < j → (R[k]).lt z = true) (h2 : ∀ k (h : k < R.length), j ≤ k → (R[k]).lt z = false) : RowOk p (i + 1) (ins R j z) := by
  have hl : (ins R j z).length = R.length + 1 := by simp [ins]; omega
  refine ⟨by rw [hl]; exact Nat.succ_le_succ h.len, ?_, ?_, ?_⟩
  · exact h.sorted.ins h1 h2
  · intro c hc
    have hc' : c ∈ R ∨ c = z := by
      unfold ins at hc
      rcases List.mem_append.mp hc with hc | hc
      · exact .inl (List.mem_of_mem_take hc)
      · rcases List.mem_cons.mp hc with rfl | hc
        · exact .inr rfl
        · exact .inl (List.mem_of_mem_drop hc)
    rcases hc' with hc | rfl
    · obtain ⟨t, a, b⟩ := h.all c hc
      exact ⟨t, Nat.lt_succ_of_lt a, b⟩
    · exact ⟨i, Nat.lt_succ_self i, hy, hx, hp⟩
  · intro t _ _ e
    rw [e] at hl
    exact absurd hl (by simp)
theorem kp_row {row Ia : Addr} {oI o6 tz : Obj} {base : Led} {R : List Cell} {z : Cell} (hne : ∀ p ∈ (row, o6) :: (base ++ R.map Cell.led), p.1 ≠ Ia) (hb1 : ∀ q ∈ base, q.1 ≠ row) (hb2 : ∀ q ∈ base, ∀ c ∈ R, q.1 ≠ c.a) (hT : ∀ q ∈ (Ia, oI) :: base, q.1 < z.a) :
    ∀ q ∈ (Ia, oI) :: base, q ∈ (z.a, tz) :: (Ia, oI) :: (row, o6) :: (base ++ R.map Cell.led) ∧ q.1 ∉ ((row, o6) :: z.led :: R.map Cell.led).map (·.1) := by
  intro q hq
  refine ⟨?_, ?_⟩
  · rcases List.mem_cons.mp hq with rfl | hq
    · exact .tail _ (.head _)
    · exact .tail _ (.tail _ (.tail _ (List.mem_append_left _ hq)))
  · intro hm
    have hlt := hT q hq
    rcases List.mem_cons.mp hm with e | hm
    · rcases List.mem_cons.mp hq with rfl | hq
      · exact hne _ (.head _) e.symm
      · exact hb1 q hq e
    · rcases List.mem_cons.mp hm with e | hm
      · have e' : q.1 = z.a := e
        rw [e'] at hlt
        exact Nat.lt_irrefl _ hlt
      · obtain ⟨x, hx, e⟩ := List.mem_map.mp hm
        obtain ⟨c, hc, rfl⟩ := List.mem_map.mp hx
        rcases List.mem_cons.mp hq with rfl | hq
        · exact hne _ (.tail _ (List.mem_append_right _ hx)) e
        · exact hb2 q hq c hc e.symm
theorem mem_ins {R : List Cell} {j : Nat} {z c : Cell} (hc : c ∈ ins R j z) : c ∈ R ∨ c = z := by
  unfold ins at hc
  rcases List.mem_append.mp hc with hc | hc
  · exact .inl (List.mem_of_mem_take hc)
  · rcases List.mem_cons.mp hc with rfl | hc
    · exact .inr rfl
    · exact .inl (List.mem_of_mem_drop hc)
theorem news_ins {g h : Heap} {L row Ia : Addr} {o oI : Obj} {base : Led} {R : List Cell} {j : Nat} {z : Cell} (N : News g L h ((row, o) :: z.led :: R.map Cell.led ++ (Ia, oI) :: base)) : News g L h ((Ia, oI) :: (row, o) :: (base ++ (ins R j z).map Cell.led)) := by
  intro p hp
  refine N p ?_
  rcases List.mem_cons.mp hp with rfl | hp
  · exact List.mem_append_right _ (.head _)
  · rcases List.mem_cons.mp hp with rfl | hp
    · exact List.mem_append_left _ (.head _)
    · rcases List.mem_append.mp hp with hp | hp
      · exact List.mem_append_right _ (.tail _ hp)
      · obtain ⟨c, hc, rfl⟩ := List.mem_map.mp hp
        rcases mem_ins hc with hc | rfl
        · exact List.mem_append_left _ (.tail _ (.tail _ (List.mem_map_of_mem hc)))
        · exact List.mem_append_left _ (.tail _ (.head _))
theorem ne_ins {row Ia : Addr} {o6 o : Obj} {base : Led} {R : List Cell} {j : Nat} {z : Cell} (hne : ∀ p ∈ (row, o6) :: (base ++ R.map Cell.led), p.1 ≠ Ia) (hz : Ia < z.a) : ∀ p ∈ (row, o) :: (base ++ (ins R j z).map Cell.led), p.1 ≠ Ia := by
  intro p hp
  rcases List.mem_cons.mp hp with rfl | hp
  · exact hne (row, o6) (.head _)
  · rcases List.mem_append.mp hp with hp | hp
    · exact hne _ (.tail _ (List.mem_append_left _ hp))
    · obtain ⟨c, hc, rfl⟩ := List.mem_map.mp hp
      rcases mem_ins hc with hc | rfl
      · exact hne _ (.tail _ (List.mem_append_right _ (List.mem_map_of_mem hc)))
      · exact Ne.symm (Nat.ne_of_lt hz)
theorem off_ins {base : Led} {R : List Cell} {j : Nat} {z : Cell} (hb2 : ∀ q ∈ base, ∀ c ∈ R, q.1 ≠ c.a) (hT : ∀ q ∈ base, q.1 < z.a) : ∀ q ∈ base, ∀ c ∈ ins R j z, q.1 ≠ c.a := by
  intro q hq c hc
  rcases mem_ins hc with hc | rfl
  · exact hb2 q hq c hc
  · exact Nat.ne_of_lt (hT q hq)
section
variable {prog : Program} {w : World} {A : Around} {E : Value → Shared → Prop} {s : Shared} {value slice : PySem.Expr} {l : Addr} {k : Int} {u : Tok} {h₀ : Heap} {L : Addr} {news : Led} {Q : Value → Shared → Prop}
theorem item_mod {R : List Cell} {n : Nat} {x : Int} (N : News h₀ L s.heap news) (hm : (l, listOf (rowV R) n) ∈ news) (hz : (R.length : Int) ≠ 0) (hn : R.length ≤ 100)
    (h : ∀ c ∈ R, Q (.ref c.a) s)
    (hs : subscripted slice false (.ref l) (.int (x.fmod (R.length : Nat)) u) = operate [.ref l, .int (x.fmod (R.length : Nat)) u] (getItem (.ref l) (.int (x.fmod (R.length : Nat)) u)) := by with_unfolding_all rfl) :
    wpAny (model prog w) A (subscriptTail value slice (.ref l) (.int (x.fmod (R.length : Nat)) u)) Q E s := by
  have hp : (0 : Int) < R.length := by omega
  have h0 : 0 ≤ x.fmod (R.length : Nat) := Int.fmod_nonneg_of_pos x hp
  have h1 : x.fmod (R.length : Nat) < R.length := Int.fmod_lt_of_pos x hp
  exact item_row N hm h0 (by omega) hn (h _ (List.getElem_mem _)) hs
theorem item_cell1 {c : Cell} (N : News h₀ L s.heap news) (hm : c.led ∈ news) (h : Q (.int c.y c.ty) s)
    (hs : subscripted slice false (.ref c.a) (.int 1 u) = operate [.ref c.a, .int 1 u] (getItem (.ref c.a) (.int 1 u)) := by with_unfolding_all rfl) :
    wpAny (model prog w) A (subscriptTail value slice (.ref c.a) (.int 1 u)) Q E s :=
  item_tupleT (l := [.int c.x c.tx, .int c.y c.ty]) (j := 1) (News.isTup N hm) (by decide) (by decide) rfl rfl h hs
end
theorem lists_ne {h₀ h : Heap} {L a b : Addr} {news : Led} {p : Nat → Int} {tp : Nat → Tok} {ws : Nat → Nat} {tw : Nat → Tok} {n m : Nat} (N : News h₀ L h news) (h1 : (a, listOf (six6 p tp) n) ∈ news) (h2 : (b, listOf (wrd4 ws tw) m) ∈ news) : @Ne Nat a b := by
  intro e
  have x := (N _ h1).1
  have y := (N _ h2).1
  have e' : a = b := e
  rw [show ((a, listOf (six6 p tp) n) : Addr × Obj).1 = b from e'] at x
  have c := Option.some.inj (x.symm.trans y)
  have d := congrArg (fun o : Obj => match o.data with | .seq i _ => i.size | _ => 0) c
  have d' : 6 = 4 := d
  exact absurd d' (by decide)
end Row1_
section TSet_
open PySem PySem.W PySem.Spec PySem.Calls PyProof.Rows
structure Sta where
  p : Nat → Int
  ws : Nat → Nat
  a : Addr
  b : Addr
  tp : Nat → Tok
  tw : Nat → Tok
  na : Nat
  nb : Nat
  left : Int
  tl : Tok
noncomputable def Sta.led (c : Sta) (own : Led) : Led := (c.a, listOf (six6 c.p c.tp) c.na) :: (c.b, listOf (wrd4 c.ws c.tw) c.nb) :: own
set_option maxRecDepth 100000 in
set_option maxHeartbeats 8000000 in
theorem settled (w : World) (I : (Nat → Int) → (Nat → Nat) → Prop) (μ : (Nat → Int) → Nat) (hW : ∀ p ws, I p ws → W8 ws)
   (hI : ∀ p ws (t sd : Int), I p ws → 0 ≤ t → t < 6 → p t.toNat < 0 → 0 ≤ sd → sd < 2 → I (turnP p t sd) (turnW ws t sd) ∧ μ (turnP p t sd) < μ p)
   (l l2 : Addr) (n n2 : Nat) (p : Nat → Int) (tp : Nat → Tok) (ws : Nat → Nat) (tw : Nat → Tok) (h0 : I p ws) (ord : Int) (u : Tok) :
   Ctr w 10 243 [.ref l, .ref l2, .int ord u] [(l, listOf (six6 p tp) n), (l2, listOf (wrd4 ws tw) n2)] (fun ns r => ∃ new, ns = new ++ [(l, listOf (six6 p tp) n), (l2, listOf (wrd4 ws tw) n2)] ∧
     ∃ p' ws', I p' ws' ∧ (∀ t, t < 6 → 0 ≤ p' t) ∧ SixWrd p' ws' new r) := by
  k_with_none
  (k_with "ite" => (k_closed; first | ((with_reducible refine ite_neg ?ci ?_); (case ci => decide)) | ((with_reducible refine ite_pos ?ci ?_); (case ci => decide))))
  (k_with "FinE" => ((unfold LCg.FinE); intro D' h' tk' F' N' o1'; (try simp only [List.nil_append, List.cons_append] at N'); (try dsimp only)))
  (k_with "FinA" => ((unfold LCg.FinA); intro D' h' tk' F' N' o1'; (try simp only [List.nil_append, List.cons_append] at N'); (try dsimp only)))
  (k_with "eval Name" => ((with_reducible show wpAny _ _ (eval (Expr.Name _ _) (compEnvC _ _ _ _)) _ _ _); k_dflt (first
  | (refine' LCgL.ld_own ?N ?m ?C ?x ?_ ?a ?b; (case a => rfl); (case b => rfl); (case N => k_asm); (case m => k_mem); (case C => assumption); (case x => assumption); k_whole)
  | (refine' lcf_cell ?N ?c ?m ?d ?_ ?a ?b; (case a => rfl); (case b => rfl); (case N => k_asm); (case c => rfl); (case m => k_mem); (case d => k_asm); k_whole)
  | (refine' LCgL.ld_global ?F ?X ?T ?e ?_ ?g ?a ?b; (case a => rfl); (case b => rfl); (case g => rfl); (case F => k_asm); (case X => k_asm); (case T => k_asm); (case e => k_is); k_whole)
  | (refine' lcf_free ?N ?c ?m ?d ?_ ?a ?b; (case a => rfl); (case b => rfl); (case N => k_asm); (case c => rfl); (case m => k_mem); (case d => k_asm); k_whole))))
  (k_with "eval ListComp" => ((with_reducible show wpAny _ _ (eval (Expr.ListComp _ [Comprehension.mk (Expr.Name _ _) _ [] _] _ _) _) _ _ _); k_dflt (refine LCg.ListComp_U (F₀ := by k_asm) (by with_unfolding_all rfl) (by decide) (by rfl) (by decide) (by rfl) ?_)))
  (k_with "exec Assign cons ListComp" => ((with_reducible show wpAny _ _ (exec (Stmt.Assign [Expr.Name _ _] (Expr.ListComp _ [Comprehension.mk (Expr.Name _ _) _ [] _] _ _) _) _) _ _ _); k_dflt (refine LCg.Assign_ListComp_U (F₀ := by k_asm) (by rfl) (by with_unfolding_all rfl) (by with_unfolding_all rfl) (by decide) (by rfl) (by decide) (by rfl) (by rfl) (by rfl) ?_)))
  (k_with "eval ListComp" => ((with_reducible show wpAny _ _ (eval (Expr.ListComp _ [Comprehension.mk (Expr.Name _ _) _ [_] _] _ _) _) _ _ _); k_dflt (refine LCt.ListComp_T (F₀ := by k_asm) (by with_unfolding_all rfl) (by decide) (by rfl) (by decide) (by rfl) ?_)))
  (k_with "exec Assign cons ListComp" => ((with_reducible show wpAny _ _ (exec (Stmt.Assign [Expr.Name _ _] (Expr.ListComp _ [Comprehension.mk (Expr.Name _ _) _ [_] _] _ _) _) _) _ _ _); k_dflt (refine LCt.Assign_ListComp_T (F₀ := by k_asm) (by rfl) (by with_unfolding_all rfl) (by with_unfolding_all rfl) (by decide) (by rfl) (by decide) (by rfl) (by rfl) (by rfl) ?_)))
  (k_with "CompSrc" => (k_here; k_dflt (first
  | (refine LCg.CompSrc.ledger (by rfl) (by k_asm) (by k_asm) (by k_mem) (by first | size_fits | exact Nat.le_of_ble_eq_true rfl) ?_; intro g'; lcg_lit)
  | (refine LCg.CompSrc.range (by rfl) (by k_asm) (by k_asm) (by assumption) (by first | decide | rfl) (by first | rfl | decide) (by first | size_fits | exact Nat.le_of_ble_eq_true rfl) ?_; intro g'; lcg_lit))))
  (k_with "exec" => ((with_reducible show wpAny _ _ (exec (Stmt.While _ _ _ _) _) _ _ _); refine unhold ?_))
  (k_with "exec For Name Call cons nil" => ((rename Fr _ _ _ _ => lF'); k_dflt (refine' For_turns lF' ?_ ?hs ?hE; (case hs => (intro _; rfl)); (case hE => exact PassesOwn.never); k_whole)))
  (k_with "pyIter ref" => ((with_reducible show wpAny _ _ (pyIter (Value.ref _)) (fun it s₂ => TurnsAt _ _ _ _ _ _ _ _ _ it s₂) _ _); refine unhold ?_))
  (k_with "call ref" => ((with_reducible show wpAny _ _ (call (Value.ref 54) _ _) _ _ _); refine unhold ?_))
  (k_with "KswPost" => ((dsimp only [KswPost]); refine unhold ?_))
  (k_with "subscriptTail Name Name ref int" => ((with_reducible show wpAny _ _ (subscriptTail (Expr.Name _ _) (Expr.Name _ _) (Value.ref _) (Value.int (0 + _ * 1) _)) _ _ _); k_dflt (refine' item_six_nat (News.isList ?N ?m) rfl ?h0 ?_ ?hs; (case N => k_asm); (case m => k_mem); (case h0 => assumption); (case hs => with_unfolding_all rfl); k_whole)))
  (k_with "call builtin:len" => ((with_reducible show wpAny _ _ (call (Value.builtin "len") [Value.ref _]) _ _ _); k_dflt (refine' len_row ?N ?m ?z ?_; (case N => k_asm); (case m => k_mem); (case z => assumption); k_whole)))
  (k_with "call ref" => ((with_reducible show wpAny _ _ (call (Value.ref 70) _ _) _ _ _); k_dflt (refine' ctr_call (iseof _ _ _) ?hK ?B ?F ?X ?N ?S ?T ?hk ?hd ?hu ?_; (case hd => assumption); (case hu => assumption); (case hK => decide); (case B => with_reducible assumption); (case F => k_asm); (case X => with_reducible assumption); (case N => k_asm); (case S => first | (intro kp hp; exact hp) | lcg_sub); (case T => with_reducible assumption); (case hk => exact rfl); intro r9 ns9 h9 tk9 F9 N9 o9; obtain ⟨e9, e10⟩ := o9; subst e9; subst e10; (try dsimp only [List.nil_append] at N9); (try dsimp only); (try k_fold))))
  (k_with "subscriptTail" => ((with_reducible show wpAny _ _ (subscriptTail (Expr.Name _ _) (Expr.BinOp _ _ _ _) (Value.ref _) (Value.int _ _)) _ _ _); k_dflt (refine' item_mod ?N ?m ?z ?n ?_ ?hs; (case N => k_asm); (case m => k_mem); (case z => assumption); (case n => assumption); (case hs => with_unfolding_all rfl); k_whole; intro c' hc')))
  (k_with "subscriptTail" => ((with_reducible show wpAny _ _ (subscriptTail (Expr.Subscript _ _ _) (Expr.Constant _ _ _) (Value.ref (Cell.a _)) (Value.int _ _)) _ _ _); k_dflt (refine' item_cell1 ?N ?m ?_ ?hs; (case N => k_asm); (case m => (repeat (first | exact List.mem_map_of_mem (by assumption) | refine List.Mem.tail _ ?_))); (case hs => with_unfolding_all rfl); k_whole)))
  (k_with "call ref" => ((with_reducible show wpAny _ _ (call (Value.ref 229) _ _) _ _ _); refine unhold ?_))
  k_dflt (refine' ctr_plain ?k0 ?ko ?kB ?kS ?kc ?kb ?kl ?c1 ?c2 ?c3 ?c4 ?_; (case k0 => decide); (case ko => k_is); (case kB => conv => lhs; whnf); (case kS => conv => lhs; whnf); (case kc => k_is); (case kb => intro _ kX; first | exact BindsTo.of_eq rfl | exact kp_binds kX (fun _ => rfl)); (case kl => exact locs rfl); (case c1 => exact rfl); (case c2 => exact rfl); (case c3 => exact rfl); (case c4 => decide); k_whole)
  intro pr loose mean mg mb dp un gd cn cs Lc ac ccd clo outer base g L' h₁ s tk F' N' B' X' T' hd hu
  (try dsimp only); (try k_unmd); k_fold
  k_steps
  unfold Hold
  (rename Fr _ _ _ _ => lF'); (rename News _ _ _ _ => lN')
  refine' ksw_while (σ := Sta) (fun c => c.led [(l, listOf (six6 p tp) n), (l2, listOf (wrd4 ws tw) n2)]) (fun c => [(Str.ofString "six", .ref c.a), (Str.ofString "words", .ref c.b), (Str.ofString "left", .int c.left c.tl)]) (fun _ => True) [Str.ofString "row", Str.ofString "t"]
    (fun c => I c.p c.ws) (fun c => μ c.p) ⟨p, ws, l, l2, tp, tw, n, n2, ord, u⟩ lF' (fun q hq => lN' q ?hm) trivial ?hk h0 ?_ PassesOwn.never
  case hm =>
    rcases List.mem_cons.mp hq with rfl | hq
    · exact .tail _ (.head _)
    · rcases List.mem_cons.mp hq with rfl | hq
      · exact .tail _ (.tail _ (.head _))
      · exact .tail _ hq
  case hk =>
    intro p hp
    rcases List.mem_cons.mp hp with rfl | hp
    · rfl
    · rcases List.mem_cons.mp hp with rfl | hp
      · rfl
      · rcases List.mem_cons.mp hp with rfl | hp
        · rfl
        · cases hp
  clear lF' lN'
  rintro ⟨p2, ws2, a, b, tp1, tw1, na, nb, left, tl⟩ u1 h1 tk1 - hP F1 N1
  unfold Sta.led at N1
  dsimp only at *
  k_fold
  k_steps
  unfold Hold
  (rename Fr _ _ _ _ => lF'); (rename News _ _ _ _ => lN'); (rename IsRange _ _ _ _ _ _ _ _ => rgX)
  have hl1 := ‹a < _ ∧ b < _ ∧ l < _ ∧ l2 < _›
  refine' grow_range (rowJ _ _ _ p2) rfl rgX rfl rfl lF' lN' rfl rfl (rowJ_start ?hb) ?_ ?_
  case hb =>
    simp only [List.forall_mem_cons, List.not_mem_nil, false_implies, implies_true, and_true]
    exact ⟨Nat.ne_of_lt hl1.1, Nat.ne_of_lt hl1.2.1, Nat.ne_of_lt hl1.2.2.1, Nat.ne_of_lt hl1.2.2.2⟩
  · rintro i t m₁ news₁ h tk Ia oI hi ⟨R, n6, uu, rfl, rfl, ok, hb1, hb2⟩ hne F N
    replace F := fr_two F
    clear lF' lN'
    simp only [List.cons_append, List.nil_append] at N
    k_steps
    · unfold Hold
      have hl2 := ‹Ia < _ ∧ _ < _ ∧ a < _ ∧ b < _ ∧ l < _ ∧ l2 < _ ∧ _›
      refine' mut_call [(Ia, oI), (a, listOf (six6 p2 tp1) na), (b, listOf (wrd4 ws2 tw1) nb), (l, listOf (six6 p tp) n), (l2, listOf (wrd4 ws tw) n2)] (insort w _ n6 R ⟨_, p2 i, 0 + (i : Int) * 1, _, _, _⟩ ?hn (fun k j hj hi => ok.sorted.idx _ k j hj hi)) ?hK ?B ?F ?X ?N ?S ?kp ?T ?hk ?hd ?hu ?_
      case hn => exact Nat.le_trans ok.len (Nat.le_trans (Nat.le_of_lt (show i < 6 from hi)) (by decide))
      case hd => assumption
      case hu => assumption
      case hK => decide
      case B => with_reducible assumption
      case F => k_asm
      case X => with_reducible assumption
      case N => k_asm
      case T => with_reducible assumption
      case hk => exact rfl
      case S =>
        intro q hq
        rcases List.mem_cons.mp hq with rfl | hq
        · k_mem
        · rcases List.mem_cons.mp hq with rfl | hq
          · exact .head _
          · repeat (first | exact hq | refine List.Mem.tail _ ?_)
      case kp =>
        refine kp_row (oI := oI) (z := ⟨_, p2 i, 0 + (i : Int) * 1, tp1 i, t, 0⟩) (base := [(a, listOf (six6 p2 tp1) na), (b, listOf (wrd4 ws2 tw1) nb), (l, listOf (six6 p tp) n), (l2, listOf (wrd4 ws tw) n2)]) hne hb1 hb2 ?_
        simp only [List.forall_mem_cons, List.not_mem_nil, false_implies, implies_true, and_true]
        exact ⟨hl2.1, hl2.2.2.1, hl2.2.2.2.1, hl2.2.2.2.2.1, hl2.2.2.2.2.2.1⟩
      intro r9 ns9 h9 tk9 F9 N9 o9
      obtain ⟨j9, n9, e9, e10, hj9, hb9, hc9⟩ := o9
      subst e9
      subst e10
      dsimp only
      k_steps
      refine ⟨rfl, _, _, _, _, rfl, by assumption, news_ins N9, ne_ins hne hl2.1, _, n9, fun _ => _, rfl, rfl, ok.put (by assumption) rfl (by dsimp only; omega) hj9 hb9 hc9, hb1, off_ins hb2 ?_⟩
      simp only [List.forall_mem_cons, List.not_mem_nil, false_implies, implies_true, and_true]
      exact ⟨hl2.2.2.1, hl2.2.2.2.1, hl2.2.2.2.2.1, hl2.2.2.2.2.2.1⟩
    · refine ⟨rfl, _, _, _, _, rfl, by assumption, N, hne, R, n6, fun _ => _, rfl, rfl, ok.skip (by assumption), hb1, hb2⟩
  · rintro h tk m₁ news₁ ⟨R, n6, uu, rfl, rfl, ok, hb1, hb2⟩ F N
    clear lF' lN'
    simp only [List.cons_append, List.nil_append] at N
    have hlen : R.length ≤ 100 := Nat.le_trans (show R.length ≤ 6 from ok.len) (by decide)
    dsimp only
    k_steps
    · unfold Hold
      (show Fin _ _ _ _ _ _; try dsimp only)
      refine' fin_ret (by assumption) (by assumption) [_, (b, listOf (wrd4 ws2 tw1) nb), (a, listOf (six6 p2 tp1) na)] ?hs ⟨p2, ws2, hP, ?pos, a, b, _, tp1, tw1, na, nb, _, ?ne, rfl, rfl⟩
      case hs => lcg_sub
      case pos =>
        intro t ht
        rcases Int.lt_or_le (p2 t) 0 with h | h
        · have h1 := ok.some t ht h
          exact absurd (List.length_eq_zero_iff.mp (by omega)) h1
        · exact h
      case ne => exact lists_ne N (.tail _ (.head _)) (.tail _ (.tail _ (.head _)))
    · unfold Hold
      obtain ⟨tt, ht, hy, hx, hn⟩ := ok.all _ ‹_ ∈ R›
      have ht6 : tt < 6 := ht
      clear ht
      refine' ctr_call (turned w a b na nb p2 tp1 ws2 tw1 _ _ ?h0 ?h6 ?s0 ?s2 (hW _ _ hP) _ _) ?hK ?B ?F ?X ?N ?S ?T ?hk ?hd ?hu ?_
      (case hd => assumption); (case hu => assumption); (case hK => decide); (case B => with_reducible assumption); (case F => k_asm); (case X => with_reducible assumption); (case N => k_asm); (case S => first | (intro kp hp; exact hp) | lcg_sub); (case T => with_reducible assumption); (case hk => exact rfl)
      case h0 => omega
      case h6 => omega
      case s0 => exact Int.fmod_nonneg_of_pos _ (by decide)
      case s2 => exact Int.fmod_lt_of_pos _ (by decide)
      intro r9 ns9 h9 tk9 F9 N9 o9
      obtain ⟨D1, D2, D3, q1, q2, m1, m2, c9, ne9, e9, e10⟩ := o9
      subst e9
      subst e10
      simp only [List.cons_append, List.nil_append] at N9
      dsimp only
      k_steps
      unfold Hold
      have hq := hI p2 ws2 (tt : Int) ((left.fdiv 6).fmod 2) hP (by omega) (by omega) (by rw [Int.toNat_natCast]; exact hn) (Int.fmod_nonneg_of_pos _ (by decide)) (Int.fmod_lt_of_pos _ (by decide))
      rw [← hy] at hq
      refine' ksw_end ⟨turnP p2 _ _, turnW ws2 _ _, D1, D2, q1, q2, m1, m2, left.fdiv 12, _⟩ (by assumption) (by assumption) ?hm trivial ?hk ?hr hq.1 hq.2
      case hm =>
        intro q hq
        rcases List.mem_cons.mp hq with rfl | hq
        · exact .tail _ (.tail _ (.head _))
        · rcases List.mem_cons.mp hq with rfl | hq
          · exact .tail _ (.head _)
          · repeat (first | exact List.mem_append_left _ hq | exact hq | refine List.Mem.tail _ ?_)
      case hk =>
        intro p hp
        rcases List.mem_cons.mp hp with rfl | hp
        · rfl
        · rcases List.mem_cons.mp hp with rfl | hp
          · rfl
          · rcases List.mem_cons.mp hp with rfl | hp
            · rfl
            · cases hp
      case hr =>
        intro z1 h2 h3
        have a1 := h2 _ (.head _)
        have a2 := h2 _ (.tail _ (.head _))
        have a3 := h2 _ (.tail _ (.tail _ (.head _)))
        have a4 : z1 ≠ Str.ofString "row" := fun e => by
          subst e
          exact absurd h3 (by decide)
        have a5 : z1 ≠ Str.ofString "t" := fun e => by
          subst e
          exact absurd h3 (by decide)
        dsimp only at a1 a2 a3
        simp [kstB, a1, a2, a3, a4, a5]
end TSet_
section TFaces_
open PySem PySem.W PySem.Spec PySem.Calls PyProof.Rows
noncomputable def nz (p : Nat → Int) : List Int := ((List.range 6).filter (fun t => p t == 0)).map Int.ofNat
theorem nz_snoc {p : Nat → Int} {i : Nat} {ys : List Value} {t : Tok} (h : p (0 + (i : Int)).toNat = 0) (hI : IntsAre ys (((List.range i).filter (fun t => p t == 0)).map Int.ofNat)) :
    IntsAre (ys ++ [Value.int (0 + (i : Int)) t]) (((List.range (i + 1)).filter (fun t => p t == 0)).map Int.ofNat) := by
  have e : (0 + (i : Int)).toNat = i := by omega
  rw [e] at h
  rw [List.range_succ, List.filter_append, List.map_append, List.filter_cons, if_pos (by rw [h]; rfl)]
  refine hI.append ?_
  rw [Int.zero_add]
  exact .cons _ _ .nil
theorem nz_same {p : Nat → Int} {i : Nat} {ys : List Value} (h : p (0 + (i : Int)).toNat ≠ 0) (hI : IntsAre ys (((List.range i).filter (fun t => p t == 0)).map Int.ofNat)) :
    IntsAre ys (((List.range (i + 1)).filter (fun t => p t == 0)).map Int.ofNat) := by
  have e : (0 + (i : Int)).toNat = i := by omega
  rw [e] at h
  rw [List.range_succ, List.filter_append, List.map_append, List.filter_cons, if_neg (by simpa using h)]
  rw [List.filter_nil, List.map_nil, List.append_nil]
  exact hI
noncomputable def facesOf (p : Nat → Int) : Int := if (nz p).length = 2 then (if (nz p).sum = 5 then 6 else 4) else [7, 6, 0, 3].getD (nz p).length 0
set_option maxRecDepth 100000 in
set_option maxHeartbeats 8000000 in
theorem faces (w : World) (l : Addr) (n : Nat) (p : Nat → Int) (tk0 : Nat → Tok) (h3 : (nz p).length ≤ 3) :
   Ctr w 4 263 [.ref l] [(l, listOf (six6 p tk0) n)] (fun ns r => ∃ new, ns = new ++ [(l, listOf (six6 p tk0) n)] ∧ new = [] ∧ ∃ t, r = .int (facesOf p) t) := by
  k_with_none
  (k_with "ite" => (k_closed; first | ((with_reducible refine ite_neg ?ci ?_); (case ci => decide)) | ((with_reducible refine ite_pos ?ci ?_); (case ci => decide))))
  (k_with "FinE" => ((unfold LCg.FinE); intro D' h' tk' F' N' o1'; (try simp only [List.nil_append, List.cons_append] at N'); (try dsimp only)))
  (k_with "FinA" => ((unfold LCg.FinA); intro D' h' tk' F' N' o1'; (try simp only [List.nil_append, List.cons_append] at N'); (try dsimp only)))
  (k_with "eval Name" => ((with_reducible show wpAny _ _ (eval (Expr.Name _ _) (compEnvC _ _ _ _)) _ _ _); k_dflt (first
  | (refine' LCgL.ld_own ?N ?m ?C ?x ?_ ?a ?b; (case a => rfl); (case b => rfl); (case N => k_asm); (case m => k_mem); (case C => assumption); (case x => assumption); k_whole)
  | (refine' lcf_cell ?N ?c ?m ?d ?_ ?a ?b; (case a => rfl); (case b => rfl); (case N => k_asm); (case c => rfl); (case m => k_mem); (case d => k_asm); k_whole)
  | (refine' LCgL.ld_global ?F ?X ?T ?e ?_ ?g ?a ?b; (case a => rfl); (case b => rfl); (case g => rfl); (case F => k_asm); (case X => k_asm); (case T => k_asm); (case e => k_is); k_whole)
  | (refine' lcf_free ?N ?c ?m ?d ?_ ?a ?b; (case a => rfl); (case b => rfl); (case N => k_asm); (case c => rfl); (case m => k_mem); (case d => k_asm); k_whole))))
  (k_with "eval ListComp" => ((with_reducible show wpAny _ _ (eval (Expr.ListComp _ [Comprehension.mk (Expr.Name _ _) _ [] _] _ _) _) _ _ _); k_dflt (refine LCg.ListComp_U (F₀ := by k_asm) (by with_unfolding_all rfl) (by decide) (by rfl) (by decide) (by rfl) ?_)))
  (k_with "exec Assign cons ListComp" => ((with_reducible show wpAny _ _ (exec (Stmt.Assign [Expr.Name _ _] (Expr.ListComp _ [Comprehension.mk (Expr.Name _ _) _ [] _] _ _) _) _) _ _ _); k_dflt (refine LCg.Assign_ListComp_U (F₀ := by k_asm) (by rfl) (by with_unfolding_all rfl) (by with_unfolding_all rfl) (by decide) (by rfl) (by decide) (by rfl) (by rfl) (by rfl) ?_)))
  (k_with "eval ListComp" => ((with_reducible show wpAny _ _ (eval (Expr.ListComp _ [Comprehension.mk (Expr.Name _ _) _ [_] _] _ _) _) _ _ _); k_dflt (refine LCt.ListComp_T (F₀ := by k_asm) (by with_unfolding_all rfl) (by decide) (by rfl) (by decide) (by rfl) ?_)))
  (k_with "exec Assign cons ListComp" => ((with_reducible show wpAny _ _ (exec (Stmt.Assign [Expr.Name _ _] (Expr.ListComp _ [Comprehension.mk (Expr.Name _ _) _ [_] _] _ _) _) _) _ _ _); k_dflt (refine LCt.Assign_ListComp_T (F₀ := by k_asm) (by rfl) (by with_unfolding_all rfl) (by with_unfolding_all rfl) (by decide) (by rfl) (by decide) (by rfl) (by rfl) (by rfl) ?_)))
  (k_with "CompSrc" => (k_here; k_dflt (first
  | (refine LCg.CompSrc.ledger (by rfl) (by k_asm) (by k_asm) (by k_mem) (by first | size_fits | exact Nat.le_of_ble_eq_true rfl) ?_; intro g'; lcg_lit)
  | (refine LCg.CompSrc.range (by rfl) (by k_asm) (by k_asm) (by assumption) (by first | decide | rfl) (by first | rfl | decide) (by first | size_fits | exact Nat.le_of_ble_eq_true rfl) ?_; intro g'; lcg_lit))))
  (k_with "call ref" => ((with_reducible show wpAny _ _ (call (Value.ref 70) _ _) _ _ _); k_dflt (refine' ctr_call (iseof _ _ _) ?hK ?B ?F ?X ?N ?S ?T ?hk ?hd ?hu ?_; (case hd => assumption); (case hu => assumption); (case hK => decide); (case B => with_reducible assumption); (case F => k_asm); (case X => with_reducible assumption); (case N => k_asm); (case S => first | (intro kp hp; exact hp) | lcg_sub); (case T => with_reducible assumption); (case hk => exact rfl); intro r9 ns9 h9 tk9 F9 N9 o9; obtain ⟨e9, e10⟩ := o9; subst e9; subst e10; (try dsimp only [List.nil_append] at N9); (try dsimp only); (try k_fold))))
  (k_with "subscriptTail Name Name ref int" => ((with_reducible show wpAny _ _ (subscriptTail _ _ (Value.ref _) (Value.int _ _)) _ _ _); k_dflt (refine item_six (News.isList (by k_asm) (by k_mem)) (by omega) (by omega) ?_)))
  (k_with "CompSrcT" => (k_here; k_dflt (refine LCt.CompSrcT.range (by rfl) (by k_asm) (by k_asm) (by assumption) (by first | decide | rfl) (by first | rfl | decide) (by first | size_fits | exact Nat.le_of_ble_eq_true rfl) ?_; intro g'; refine unhold ?_)))
  (k_with "call builtin:len" => ((with_reducible show wpAny _ _ (call (Value.builtin "len") [Value.ref _]) _ _ _); k_dflt (refine len_ints_fit (News.isList (by k_asm) (by k_mem)) (by assumption) (by omega) ?_)))
  (k_with "call builtin:sum" => ((with_reducible show wpAny _ _ (call (Value.builtin "sum") [Value.ref _]) _ _ _); k_dflt (refine' sumK rfl ?F ?N ?l ?i ?_; (case F => k_asm); (case N => k_asm); (case l => exact News.isList (by k_asm) (by k_mem)); (case i => assumption); k_whole)))
  k_dflt (refine' ctr_cells ?k0 ?ko ?kB ?kS ?kc ?kb ?kl ?kD ?c1 ?c2 ?c3 ?_; (case k0 => decide); (case ko => k_is); (case kB => conv => lhs; whnf); (case kS => conv => lhs; whnf); (case kc => k_is); (case kb => intro _ kX; first | exact BindsTo.of_eq rfl | exact kp_binds kX (fun _ => rfl)); (case kl => exact rfl); (case kD => decide +kernel); (case c1 => exact rfl); (case c2 => exact rfl); (case c3 => exact rfl); k_whole)
  intro pr loose mean mg mb dp un gd cn cs Lc ac ccd clo outer base g L' h₁ s tk cells' F' N' Y' l1 B' X' T' hd hu
  (try k_lt l1); k_cells Y'; (try simp only [List.cons_append, List.nil_append] at N'); (try dsimp only); (try k_unmd); k_fold
  k_steps
  unfold Hold
  refine restT_inv (n := 6) (fun i ys => IntsAre ys (((List.range i).filter (fun t => p t == 0)).map Int.ofNat)) ?_ trivial ?_ 6 0 [] rfl .nil
  · intro i ys hi hInv v I oI C oC D m₂ h tk E' hv hC hx F N
    obtain ⟨t, rfl⟩ := hv
    k_steps
    · exact Went.intro (by assumption) (by assumption) (by lcg_sub)
    · exact nz_snoc (by assumption) hInv
    · exact Went.intro (by assumption) (by assumption) (by lcg_sub)
    · exact nz_same (by assumption) hInv
  · intro ys hI
    have hI' : IntsAre ys (nz p) := hI
    clear hI
    generalize hns : nz p = ns at hI' h3
    k_steps
    · (show Fin _ _ _ _ _ _; try dsimp only)
      exact fin_ret (by assumption) (by assumption) [] (by lcg_sub) ⟨rfl, int_ret (by unfold facesOf; rw [hns, if_pos (by omega), if_pos (by assumption)])⟩
    · (show Fin _ _ _ _ _ _; try dsimp only)
      exact fin_ret (by assumption) (by assumption) [] (by lcg_sub) ⟨rfl, int_ret (by unfold facesOf; rw [hns, if_pos (by omega), if_neg (by assumption)])⟩
    · (show Fin _ _ _ _ _ _; try dsimp only)
      exact fin_ret (by assumption) (by assumption) [] (by lcg_sub) ⟨rfl, int_ret (by unfold facesOf; rw [hns, if_neg (by omega)]; rfl)⟩
end TFaces_
section TName_
open PySem PySem.W PySem.Spec PySem.Calls PyProof.Rows
noncomputable def up (c : Nat) : Bool := decide (65 ≤ c) && decide (c ≤ 67)
noncomputable def sgn (c : Nat) : Str := ⟨#[c]⟩
theorem in_abc {c : Nat} (h : c < 128) : (Builtin.Str.occurrences (Str.ofString "ABC") { cps := #[c] } 0 (Str.ofString "ABC").length 1).isEmpty = !up c :=
  (by decide +kernel : ∀ c, c < 128 → (Builtin.Str.occurrences (Str.ofString "ABC") { cps := #[c] } 0 (Str.ofString "ABC").length 1).isEmpty = !up c) c h
/-- the name of a word -/
noncomputable def NM (n : Nat) : Str := Txt.join (Str.ofString "") (((W n).cps.toList.filter up).map sgn)
set_option maxRecDepth 100000 in
set_option maxHeartbeats 8000000 in
theorem name (w : World) (n : Nat) (t0 : Tok) :
   Ctr w 2 217 [.str (W n) t0] [] (fun ns r => ∃ new, ns = new ++ [] ∧ new = [] ∧ ∃ t, r = .str (NM n) t) := by
  have ha : (W n).cps.all (· < 128) = true := by unfold W; (repeat' split) <;> decide +kernel
  have hz : (W n).cps.size ≤ sizeLine := Nat.le_of_ble_eq_true rfl
  have hw : ((((W n).cps.toList.filter up).map sgn).map (·.length)).sum + (((W n).cps.toList.filter up).map sgn).length ≤ 1048576 := by
    have e : ∀ l : List Nat, ((l.map sgn).map (·.length)).sum = l.length := by
      intro l; induction l with
      | nil => rfl
      | cons a l ih => simp only [List.map_cons, List.sum_cons, ih, List.length_cons]; show 1 + _ = _; omega
    rw [e, List.length_map]
    have := List.length_filter_le up (W n).cps.toList
    have h3 : (W n).cps.toList.length = 3 := rfl
    omega
  have h3 : (W n).cps.size = 3 := rfl
  have hnm : NM n = Txt.join (Str.ofString "") (((W n).cps.toList.filter up).map sgn) := rfl
  generalize W n = X at *
  k_with_none
  (k_with "ite" => (k_closed; first | ((with_reducible refine ite_neg ?ci ?_); (case ci => decide)) | ((with_reducible refine ite_pos ?ci ?_); (case ci => decide))))
  (k_with "FinE" => ((unfold LCg.FinE); intro D' h' tk' F' N' o1'; (try simp only [List.nil_append, List.cons_append] at N'); (try dsimp only)))
  (k_with "FinA" => ((unfold LCg.FinA); intro D' h' tk' F' N' o1'; (try simp only [List.nil_append, List.cons_append] at N'); (try dsimp only)))
  (k_with "eval Name" => ((with_reducible show wpAny _ _ (eval (Expr.Name _ _) (compEnvC _ _ _ _)) _ _ _); k_dflt (first
  | (refine' LCgL.ld_own ?N ?m ?C ?x ?_ ?a ?b; (case a => rfl); (case b => rfl); (case N => k_asm); (case m => k_mem); (case C => assumption); (case x => assumption); k_whole)
  | (refine' lcf_cell ?N ?c ?m ?d ?_ ?a ?b; (case a => rfl); (case b => rfl); (case N => k_asm); (case c => rfl); (case m => k_mem); (case d => k_asm); k_whole)
  | (refine' LCgL.ld_global ?F ?X ?T ?e ?_ ?g ?a ?b; (case a => rfl); (case b => rfl); (case g => rfl); (case F => k_asm); (case X => k_asm); (case T => k_asm); (case e => k_is); k_whole)
  | (refine' lcf_free ?N ?c ?m ?d ?_ ?a ?b; (case a => rfl); (case b => rfl); (case N => k_asm); (case c => rfl); (case m => k_mem); (case d => k_asm); k_whole))))
  (k_with "eval ListComp" => ((with_reducible show wpAny _ _ (eval (Expr.ListComp _ [Comprehension.mk (Expr.Name _ _) _ [] _] _ _) _) _ _ _); k_dflt (refine LCg.ListComp_U (F₀ := by k_asm) (by with_unfolding_all rfl) (by decide) (by rfl) (by decide) (by rfl) ?_)))
  (k_with "exec Assign cons ListComp" => ((with_reducible show wpAny _ _ (exec (Stmt.Assign [Expr.Name _ _] (Expr.ListComp _ [Comprehension.mk (Expr.Name _ _) _ [] _] _ _) _) _) _ _ _); k_dflt (refine LCg.Assign_ListComp_U (F₀ := by k_asm) (by rfl) (by with_unfolding_all rfl) (by with_unfolding_all rfl) (by decide) (by rfl) (by decide) (by rfl) (by rfl) (by rfl) ?_)))
  (k_with "eval ListComp" => ((with_reducible show wpAny _ _ (eval (Expr.ListComp _ [Comprehension.mk (Expr.Name _ _) _ [_] _] _ _) _) _ _ _); k_dflt (refine LCt.ListComp_T (F₀ := by k_asm) (by with_unfolding_all rfl) (by decide) (by rfl) (by decide) (by rfl) ?_)))
  (k_with "exec Assign cons ListComp" => ((with_reducible show wpAny _ _ (exec (Stmt.Assign [Expr.Name _ _] (Expr.ListComp _ [Comprehension.mk (Expr.Name _ _) _ [_] _] _ _) _) _) _ _ _); k_dflt (refine LCt.Assign_ListComp_T (F₀ := by k_asm) (by rfl) (by with_unfolding_all rfl) (by with_unfolding_all rfl) (by decide) (by rfl) (by decide) (by rfl) (by rfl) (by rfl) ?_)))
  (k_with "CompSrc" => (k_here; k_dflt (first
  | (refine LCg.CompSrc.ledger (by rfl) (by k_asm) (by k_asm) (by k_mem) (by first | size_fits | exact Nat.le_of_ble_eq_true rfl) ?_; intro g'; lcg_lit)
  | (refine LCg.CompSrc.range (by rfl) (by k_asm) (by k_asm) (by assumption) (by first | decide | rfl) (by first | rfl | decide) (by first | size_fits | exact Nat.le_of_ble_eq_true rfl) ?_; intro g'; lcg_lit))))
  (k_with "eval ListComp" => ((with_reducible show wpAny _ _ (eval (Expr.ListComp _ [Comprehension.mk (Expr.Name _ _) (Expr.Name _ _) [_] _] _ _) _) _ _ _); k_dflt (refine ListComp_S (F₀ := by k_asm) (by with_unfolding_all rfl) (by decide) (by rfl) (by decide) (by rfl) ?_)))
  (k_with "CompSrcS" => k_dflt (refine CompSrcS.intro (by rfl) (by k_asm) (by k_asm) (by assumption) (by assumption) ?_; intro g'; refine unhold ?_))
  (k_with "call builtin:str.join" => k_dflt (refine join_listW (News.isList (by k_asm) (by k_mem)) (by assumption) (by decide) (by assumption) ?_; intro _ _))
  k_dflt (refine' ctr_plain ?k0 ?ko ?kB ?kS ?kc ?kb ?kl ?c1 ?c2 ?c3 ?c4 ?_; (case k0 => decide); (case ko => k_is); (case kB => conv => lhs; whnf); (case kS => conv => lhs; whnf); (case kc => k_is); (case kb => intro _ kX; first | exact BindsTo.of_eq rfl | exact kp_binds kX (fun _ => rfl)); (case kl => exact locs rfl); (case c1 => exact rfl); (case c2 => exact rfl); (case c3 => exact rfl); (case c4 => decide); k_whole)
  intro pr loose mean mg mb dp un gd cn cs Lc ac ccd clo outer base g L' h₁ s tk F' N' B' X' T' hd hu
  (try dsimp only); (try k_unmd); k_fold
  k_steps
  unfold Hold
  refine restT_inv (n := X.cps.size) (fun i ys => StrsAre ys (((X.cps.toList.take i).filter up).map sgn)) ?_ trivial ?_ _ 0 [] (Nat.zero_add _) .nil
  · intro i ys hi hInv v I oI C oC D m₂ h tk E' hv hC hx F N
    obtain ⟨c, t, hc, rfl⟩ := hv
    have hc' : X.cps.toList[i]? = some c := by rw [Array.getElem?_toList]; exact hc
    have hcl : c < 128 := by
      have := Array.all_eq_true.mp ha i hi
      obtain ⟨hl, he⟩ := Array.getElem?_eq_some_iff.mp hc
      rw [he] at this
      simpa using this
    have ht : X.cps.toList.take (i + 1) = X.cps.toList.take i ++ [c] := by rw [List.take_add_one, hc']; rfl
    k_steps
    · exact Went.intro (by assumption) (by assumption) (by lcg_sub)
    · rename_i q
      rw [in_abc hcl] at q
      rw [ht, List.filter_append, List.filter_cons, if_neg (by simpa using q), List.filter_nil, List.append_nil]
      exact hInv
    · exact Went.intro (by assumption) (by assumption) (by lcg_sub)
    · rename_i q
      rw [in_abc hcl] at q
      rw [ht, List.filter_append, List.filter_cons, if_pos (by simpa using q), List.map_append]
      exact hInv.append' (.cons _ _ .nil)
  · intro ys hI
    have hI' : StrsAre ys ((X.cps.toList.filter up).map sgn) := by
      have e : X.cps.toList.take X.cps.size = X.cps.toList := by rw [← Array.length_toList]; exact List.take_length
      rw [e] at hI; exact hI
    clear hI
    generalize hG : (X.cps.toList.filter up).map sgn = G at *
    k_steps
    (show Fin _ _ _ _ _ _; try dsimp only)
    exact fin_ret (by assumption) (by assumption) [] (by lcg_sub) ⟨rfl, str_ret hnm.symm⟩
end TName_
section Comp2_
open PySem PySem.W PySem.Spec PySem.Calls PyProof.Rows PyProof.Rows.LCg PyProof.Rows.LCt
/-- a comprehension over a tuple of the ledger -/
noncomputable def CompSrcU (prog : Program) (w : World) (A : Around) (h₀ : Heap) (L : Addr) (m : Str → Option Value) (env : Env) (elt : Expr) (x : Str) (scope : Scope) (cl : List (Str × Addr)) (Fin : Shared → List Value → Led → Prop) (xv : Value) (s₁ : Shared) : Prop :=
  ∃ ax its k news, xv = .ref ax ∧ A.handled = none ∧ Fr h₀ L s₁.heap m ∧ News h₀ L s₁.heap news ∧ (ax, tup its k) ∈ news ∧ its.size ≤ sizeLine ∧
    ∀ s₂ : Shared, (∃ h, s₂ = { s₁ with heap := h }) → CompRest prog w A h₀ L m env elt x scope cl s₂ (fun nw => (ax, tup its k) ∈ nw) (fun i v => its[i]? = some v) (Fin s₂) its.size 0 [] news
section
variable {prog : Program} {w : World} {A : Around} {E : Value → Shared → Prop} {s : Shared} {h₀ : Heap} {L : Addr} {m : Str → Option Value} {env : Env}
theorem CompSrcU.intro {elt : Expr} {x : Str} {scope : Scope} {cl : List (Str × Addr)} {Fin : Shared → List Value → Led → Prop} {ax : Addr} {its : Array Value} {k : Nat} {news : Led} {s₁ : Shared}
    (hh : A.handled = none) (F : Fr h₀ L s₁.heap m) (N : News h₀ L s₁.heap news) (hm : (ax, tup its k) ∈ news) (hz : its.size ≤ sizeLine)
    (h : ∀ g, CompRest prog w A h₀ L m env elt x scope cl { s₁ with heap := g } (fun nw => (ax, tup its k) ∈ nw) (fun i v => its[i]? = some v) (Fin { s₁ with heap := g }) its.size 0 [] news) :
    CompSrcU prog w A h₀ L m env elt x scope cl Fin (.ref ax) s₁ := ⟨ax, its, k, news, rfl, hh, F, N, hm, hz, fun _ ⟨g, e⟩ => e ▸ h g⟩
theorem ListComp_Tup {elt iter : Expr} {x : Str} {px : Pos} {scope : Scope} {cl : List (Str × Addr)} {pos : Pos} {Q : Value → Shared → Prop} (F₀ : Fr h₀ L s.heap m)
    (hclos : closureFor scope env = pure cl) (hcell : ∀ y ∈ scope.names, y.2 ≠ .cell) (hkind : scope.kind = .function)
    (hnames : ∀ y ∈ scope.names, y.2 = .local → scope.names.lookup y.1 = some .local) (hx : scope.names.lookup x = some .local)
    (h : wpAny (model prog w) A (eval iter env) (CompSrcU prog w A h₀ L m env elt x scope cl (fun s₂ => FinE h₀ L m s₂ Q)) E s)
    (hs : ∀ x, foldedSetIterable iter env x = pure x := by intro _; rfl) :
    wpAny (model prog w) A (eval (.ListComp elt [⟨.Name x px, iter, [], 0⟩] scope pos) env) Q E s := by
  rw [eval_ListComp]
  refine wpAny_comprehension_free (use := none) rfl hs hclos hkind hnames (wpAny_mono h (fun xv s₁ h₁ => ?_) fun _ _ e => e)
  obtain ⟨ax, its, k, news, rfl, hh, F, N, hm, hsz, R⟩ := h₁
  have hl : s₁.heap.IsTuple ax its := News.isTup N hm
  have hlt : ax < s₁.heap.objs.size := by obtain ⟨_, e, _⟩ := hl; exact Heap.lt_size e
  refine wpAny_pyIter_tuple hl ?_
  have up : ∀ b o, s₁.heap.get? b = some o → (s₁.heap.push { cls := .type "tuple_iterator", data := .fields #[.ref ax, .int 0 0] }).get? b = some o := fun b o e => Heap.get?_push_of_some _ e
  refine block_U (Walks.tuple hh s₁.heap.objs.size ax (Nat.ne_of_lt hlt) its) hsz (fun i h st => by obtain ⟨o, e, _⟩ := st.1; exact ⟨o, e⟩)
      (fun i h h' o nw st e e' _ N S => ⟨by obtain ⟨o', q, r⟩ := st.1; rw [e] at q; cases q; exact ⟨o, e', r⟩, News.isTup N S⟩) hcell hkind hx ⟨⟨_, Heap.get?_push_size _ rfl, rfl, rfl⟩, hl.at fun o e => up _ o e⟩ (fun b hb => ?_)
      (F.keeps up) (N.grown up) (Nat.ne_of_lt F.ns.lt) (next_is_new F) (fun p hp => Nat.ne_of_lt (Heap.lt_size (N p hp).1)) hm (R _ ⟨_, rfl⟩) ?_
  · show b < (s₁.heap.push _).objs.size
    rw [Heap.size_push]
    rcases List.mem_cons.mp hb with rfl | hb
    · exact Nat.lt_succ_self _
    · rw [List.mem_singleton.mp hb]; exact Nat.lt_succ_of_lt hlt
  · intro D C h tk m' ys news' F' N' o1 hn hC₀ hD₀ hCL hDL hCD offC fin
    refine ⟨m', hn, fun h'' hs'' => fin D h'' tk (F'.change hs'' hCL hC₀) (fun p hp => ?_) o1⟩
    refine ⟨hs''.extBut _ _ ?_ (N' p hp).1, (N' p hp).2⟩
    rcases List.mem_cons.mp hp with rfl | hp
    · exact Ne.symm hCD
    · exact offC p hp
end
end Comp2_
section Num0_
open PySem PySem.W PySem.Spec PySem.Calls PyProof.Rows PyProof.Rows.LCg PyProof.Rows.LCt
section
variable {prog : Program} {w : World} {A : Around} {s : Shared} {h₀ : Heap} {L : Addr} {m : Str → Option Value} {env : Env} {ct elt : Expr} {x : Str} {scope : Scope} {cl : List (Str × Addr)} {S : Led → Prop} {P : Nat → Value → Prop} {Fin : List Value → Led → Prop} {n : Nat}
/-- a turn's end where the ledger grows -/
noncomputable def WentG (h₀ : Heap) (L : Addr) (m : Str → Option Value) (s : Shared) (I : Addr) (oI : Obj) (C : Addr) (oC : Obj) (D : Addr) (oD : Obj) (J : Led → Prop) (s' : Shared) : Prop :=
  ∃ h' tk' nw', s' = { s with heap := h', toks := tk' } ∧ Fr h₀ L h' m ∧ News h₀ L h' ((I, oI) :: (C, oC) :: (D, oD) :: nw') ∧ Off3 I C D nw' ∧ J nw'
theorem rest_grow (Inv : Nat → List Value → Led → Prop)
    (turn : ∀ i ys nw, i < n → Inv i ys nw → ∀ v I oI C oC D m₂ h tk (E' : Value → Shared → Prop), P i v → NsObj oC m₂ → m₂ x = some v → Fr h₀ L h m → News h₀ L h ((I, oI) :: (C, oC) :: (D, lst ys) :: nw) → Off3 I C D nw →
      wpAny (model prog w) A (eval elt (compEnvC scope cl C env)) (fun y s' => WentG h₀ L m { s with heap := h, toks := tk } I oI C oC D (lst ys) (Inv (i + 1) (ys ++ [y])) s') E' { s with heap := h, toks := tk })
    (hS : ∀ i ys nw, Inv i ys nw → S nw) (fin : ∀ ys nw, Inv n ys nw → Fin ys nw) : ∀ k i ys nw, i + k = n → Inv i ys nw → CompRest prog w A h₀ L m env elt x scope cl s S P Fin k i ys nw
  | 0, i, ys, nw, e, hi => fin ys nw (by have : i = n := by omega
                                         rw [← this]; exact hi)
  | k + 1, i, ys, nw, e, hi => CompRest.succ fun v I oI C oC D m₂ h tk E' hv hC hx F N off ne =>
      wpAny_mono (turn i ys nw (by omega) hi v I oI C oC D m₂ h tk E' hv hC hx F N off) (fun y s' ⟨h', tk', nw', e', F', N', off', hi'⟩ => by
        subst e'
        exact ⟨h', tk', nw', rfl, F', N', off', hS _ _ _ hi', rest_grow Inv turn hS fin k (i + 1) (ys ++ [y]) nw' (by omega) hi'⟩) fun _ _ q => q
end
/-- a word's name and a number in the heap -/
structure NCell where
  a : Addr
  n : Nat
  x : Int
  tn : Tok
  tx : Tok
  c : Nat
noncomputable def NCell.led (r : NCell) : Addr × Obj := (r.a, tup #[.str (NM r.n) r.tn, .int r.x r.tx] r.c)
noncomputable def NCell.dat (r : NCell) : Nat × Int := (r.n, r.x)
noncomputable def rowN (R : List NCell) : List Value := R.map fun r => Value.ref r.a
/-- the places of a point's star -/
noncomputable def ST (i j : Nat) : Int := (([[0, 1, 2], [0, 3, 4], [1, 3, 5], [2, 4, 5]] : List (List Int)).getD i []).getD j 0
theorem st_bd {i j : Nat} (hi : i < 4) (hj : j < 3) : 0 ≤ ST i j ∧ ST i j < 6 :=
  (by decide : ∀ i, i < 4 → ∀ j, j < 3 → 0 ≤ ST i j ∧ ST i j < 6) i hi j hj
noncomputable def sixSum (p : Nat → Int) : Int := ([p 0, p 1, p 2, p 3, p 4, p 5] : List Int).sum
/-- the seven words and numbers -/
noncomputable def nd (p : Nat → Int) (ws : Nat → Nat) (i : Nat) : Nat × Int :=
  if i < 4 then (ws i, ((List.range 3).map fun j => p (ST i j).toNat).sum) else (ws 0 ^^^ ws (i - 3), sixSum p - p (i - 4) - p (9 - i))
section
variable {prog : Program} {w : World} {A : Around} {E : Value → Shared → Prop} {s : Shared} {value slice : PySem.Expr} {D : Addr} {k : Int} {u : Tok} {h₀ : Heap} {L : Addr} {m : Str → Option Value} {news : Led} {Q : Value → Shared → Prop}
theorem item_star {r0 r1 r2 r3 : Addr} {c c0 c1 c2 c3 i : Nat} {a0 a1 a2 a3 b0 b1 b2 b3 d0 d1 d2 d3 : Tok} (N : News h₀ L s.heap news) (hD : (D, tup #[.ref r0, .ref r1, .ref r2, .ref r3] c) ∈ news)
    (h0 : (r0, tup #[.int 0 a0, .int 1 b0, .int 2 d0] c0) ∈ news) (h1 : (r1, tup #[.int 0 a1, .int 3 b1, .int 4 d1] c1) ∈ news)
    (h2 : (r2, tup #[.int 1 a2, .int 3 b2, .int 5 d2] c2) ∈ news) (h3 : (r3, tup #[.int 2 a3, .int 4 b3, .int 5 d3] c3) ∈ news)
    (hk : k = 0 + (i : Int)) (hi : i < 4)
    (h : ∀ R a b d c, (R, tup #[.int (ST i 0) a, .int (ST i 1) b, .int (ST i 2) d] c) ∈ news → Q (.ref R) s)
    (hs : subscripted slice false (.ref D) (.int k u) = operate [.ref D, .int k u] (getItem (.ref D) (.int k u)) := by with_unfolding_all rfl) :
    wpAny (model prog w) A (subscriptTail value slice (.ref D) (.int k u)) Q E s := by
  have go : ∀ (j : Nat) (R : Addr), seqIndex? k 4 = some j → [Value.ref r0, .ref r1, .ref r2, .ref r3][j]? = some (.ref R) → Q (.ref R) s → wpAny (model prog w) A (subscriptTail value slice (.ref D) (.int k u)) Q E s :=
    fun j R e1 e2 q => item_tupleT (l := [.ref r0, .ref r1, .ref r2, .ref r3]) (News.isTup N hD) (by omega) (by omega) e1 e2 q hs
  subst hk
  match i, hi with
  | 0, _ => exact go 0 r0 rfl rfl (h _ _ _ _ _ h0)
  | 1, _ => exact go 1 r1 rfl rfl (h _ _ _ _ _ h1)
  | 2, _ => exact go 2 r2 rfl rfl (h _ _ _ _ _ h2)
  | 3, _ => exact go 3 r3 rfl rfl (h _ _ _ _ _ h3)
theorem append_keep {its : Array Value} {n : Nat} {x : Value} {Q : Value → Shared → Prop} (F : Fr h₀ L s.heap m) (N : News h₀ L s.heap news) (hm : (D, listOf its n) ∈ news) (keep : Led) (hk : ∀ q ∈ keep, q ∈ news ∧ q.1 ≠ D) (hz : its.size ≤ sizeLine)
    (h : ∀ h', Fr h₀ L h' m → News h₀ L h' ((D, listOf (its.push x) (n + 1)) :: keep) → Q .none { s with heap := h' }) : wpAny (model prog w) A (call (.builtin "list.append") [.ref D, x]) Q E s := by
  have z := N _ hm
  refine append_at (hsz := hz) z.1 fun h' hs ho' => h h' (F.change hs z.2.1 z.2.2) fun q hq => ?_
  rcases List.mem_cons.mp hq with rfl | hq
  · exact ⟨ho', z.2⟩
  · exact ⟨hs.extBut _ _ (hk q hq).2 (N q (hk q hq).1).1, (N q (hk q hq).1).2⟩
end
theorem ncell_ne {h₀ h : Heap} {L l : Addr} {news : Led} {items : Array Value} {n : Nat} {r : NCell} (N : News h₀ L h news) (h1 : (l, listOf items n) ∈ news) (h2 : r.led ∈ news) : r.led.1 ≠ l := by
  intro e
  have a := (N _ h1).1
  have b := (N _ h2).1
  rw [e] at b
  have c := Option.some.inj (a.symm.trans b)
  have d := congrArg (fun o : Obj => match o.cls with | .type n => n | _ => "") c
  have d' : "list" = "tuple" := d
  exact absurd d' (by decide)
theorem three_at {a b c : Int} {ta tb tc : Tok} {j : Nat} {v : Value} (hj : j < 3) (h : (#[Value.int a ta, .int b tb, .int c tc] : Array Value)[j]? = some v) : ∃ t, v = .int ([a, b, c].getD j 0) t := by
  match j, hj with
  | 0, _ => exact ⟨ta, (Option.some.inj h).symm⟩
  | 1, _ => exact ⟨tb, (Option.some.inj h).symm⟩
  | 2, _ => exact ⟨tc, (Option.some.inj h).symm⟩
theorem st_at {i j : Nat} (hj : j < 3) : [ST i 0, ST i 1, ST i 2].getD j 0 = ST i j := by
  match j, hj with
  | 0, _ => rfl
  | 1, _ => rfl
  | 2, _ => rfl
open PySem PySem.W PySem.Spec PySem.Calls PyProof.Rows PyProof.Rows.LCg
noncomputable def numInv (p : Nat → Int) (ws : Nat → Nat) (base : Led) (i : Nat) (ys : List Value) (nw : Led) : Prop :=
  ∃ R, ys = rowN R ∧ nw = base ++ R.map NCell.led ∧ R.map NCell.dat = (List.range i).map (nd p ws)
theorem numInv_start (p : Nat → Int) (ws : Nat → Nat) (base : Led) : numInv p ws base 0 [] base := ⟨[], rfl, (List.append_nil _).symm, rfl⟩
theorem numInv_step {p : Nat → Int} {ws : Nat → Nat} {base : Led} {i : Nat} {R : List NCell} {z : NCell} {v : Value} (hR : R.map NCell.dat = (List.range i).map (nd p ws)) (hv : v = .ref z.a) (hz : z.dat = nd p ws i) : numInv p ws base (i + 1) (rowN R ++ [v]) (base ++ (R ++ [z]).map NCell.led) :=
  ⟨R ++ [z], by rw [hv]; simp [rowN], rfl, by rw [List.range_succ, List.map_append, List.map_append, hR]; show _ ++ [z.dat] = _ ++ [nd p ws i]; rw [hz]⟩
theorem off3_snoc {I C D : Addr} {base : Led} {R : List NCell} {z : NCell} (h : Off3 I C D (base ++ R.map NCell.led)) (h1 : @LT.lt Nat _ I z.a) (h2 : @LT.lt Nat _ C z.a) (h3 : @LT.lt Nat _ D z.a) : Off3 I C D (base ++ (R ++ [z]).map NCell.led) :=
  Off3.of fun q hq => by
    rcases List.mem_append.mp hq with hq | hq
    · exact h.mem q (List.mem_append_left _ hq)
    · rw [List.map_append] at hq
      rcases List.mem_append.mp hq with hq | hq
      · exact h.mem q (List.mem_append_right _ hq)
      · rw [List.mem_singleton.mp hq]
        exact ⟨Ne.symm (Nat.ne_of_lt h1), Ne.symm (Nat.ne_of_lt h2), Ne.symm (Nat.ne_of_lt h3)⟩
theorem news_snoc {g h : Heap} {L : Addr} {pre base : Led} {R : List NCell} {z : NCell} {all : Led} (N : News g L h all) (h1 : ∀ q ∈ z.led :: pre ++ (base ++ R.map NCell.led), q ∈ all) : News g L h (pre ++ (base ++ (R ++ [z]).map NCell.led)) := by
  intro q hq
  refine N q (h1 q ?_)
  rcases List.mem_append.mp hq with hq | hq
  · exact List.mem_append_left _ (.tail _ hq)
  · rcases List.mem_append.mp hq with hq | hq
    · exact List.mem_append_right _ (List.mem_append_left _ hq)
    · rw [List.map_append] at hq
      rcases List.mem_append.mp hq with hq | hq
      · exact List.mem_append_right _ (List.mem_append_right _ hq)
      · rw [List.mem_singleton.mp hq]
        exact List.mem_append_left _ (.head _)
open PySem PySem.W PySem.Spec PySem.Calls PyProof.Rows PyProof.Rows.LCg
theorem wentG_cell {h₀ : Heap} {L : Addr} {m : Str → Option Value} {s : Shared} {I C D a : Addr} {oI oC oD : Obj} {p : Nat → Int} {ws : Nat → Nat} {base rest : Led} {i : Nat} {R : List NCell} {h' : Heap} {tk' : Nat} {n : Nat} {x : Int} {tn tx : Tok} {c : Nat}
    (F : Fr h₀ L h' m) (N : News h₀ L h' ((a, tup #[.str (NM n) tn, .int x tx] c) :: rest)) (off : Off3 I C D (base ++ R.map NCell.led)) (hR : R.map NCell.dat = (List.range i).map (nd p ws)) (hz : (n, x) = nd p ws i)
    (hI : (I, oI) ∈ rest) (hC : (C, oC) ∈ rest) (hD : (D, oD) ∈ rest) (hs : ∀ q ∈ base ++ R.map NCell.led, q ∈ rest) (h1 : (@LT.lt Nat _ I a) ∧ (@LT.lt Nat _ C a) ∧ (@LT.lt Nat _ D a)) :
    WentG h₀ L m s I oI C oC D oD (numInv p ws base (i + 1) (rowN R ++ [.ref a])) { s with heap := h', toks := tk' } := by
  refine ⟨h', tk', base ++ (R ++ [(⟨a, n, x, tn, tx, c⟩ : NCell)]).map NCell.led, rfl, F, ?_, off3_snoc off h1.1 h1.2.1 h1.2.2, numInv_step (z := ⟨a, n, x, tn, tx, c⟩) hR rfl hz⟩
  refine news_snoc (pre := [(I, oI), (C, oC), (D, oD)]) (z := ⟨a, n, x, tn, tx, c⟩) N fun q hq => ?_
  rcases List.mem_cons.mp hq with rfl | hq
  · exact .head _
  · rcases List.mem_cons.mp hq with rfl | hq
    · exact .tail _ hI
    · rcases List.mem_cons.mp hq with rfl | hq
      · exact .tail _ hC
      · rcases List.mem_cons.mp hq with rfl | hq
        · exact .tail _ hD
        · exact .tail _ (hs q hq)
open PySem PySem.W PySem.Spec PySem.Calls PyProof.Rows PyProof.Rows.LCg
noncomputable def numJ (D : Addr) (base : Led) (m₀ : Str → Option Value) (p : Nat → Int) (ws : Nat → Nat) (i : Nat) (m₁ : Str → Option Value) (news₁ : Led) : Prop :=
  ∃ (R : List NCell) (uu : Str → Option Value), news₁ = (D, lst (rowN R)) :: (base ++ R.map NCell.led) ∧ m₁ = (fun y => if y = Str.ofString "n" then uu y else m₀ y) ∧ R.map NCell.dat = (List.range (4 + i)).map (nd p ws) ∧ Off1 D (base ++ R.map NCell.led)
theorem numJ_start {D : Addr} {base : Led} {m₀ : Str → Option Value} {p : Nat → Int} {ws : Nat → Nat} {R : List NCell} (o : Off1 D (base ++ R.map NCell.led)) (hR : R.map NCell.dat = (List.range 4).map (nd p ws)) : numJ D base m₀ p ws 0 m₀ ((D, lst (rowN R)) :: (base ++ R.map NCell.led)) :=
  ⟨R, m₀, rfl, by funext y; split <;> rfl, hR, o⟩
theorem Off1.of {D : Addr} : ∀ {l : Led}, (∀ p ∈ l, p.1 ≠ D) → Off1 D l
  | [], _ => trivial
  | _ :: _, h => ⟨h _ List.mem_cons_self, Off1.of fun p hp => h p (List.mem_cons_of_mem _ hp)⟩
section
variable {prog : Program} {w : World} {A : Around} {E : Value → Shared → Prop} {s : Shared} {g : Heap} {L : Addr} {m : Str → Option Value} {Q : Value → Shared → Prop}
theorem mem_snoc {base : Led} {R : List NCell} {z : NCell} {q : Addr × Obj} (hq : q ∈ base ++ (R ++ [z]).map NCell.led) : q ∈ base ++ R.map NCell.led ∨ q = z.led := by
  rcases List.mem_append.mp hq with hq | hq
  · exact .inl (List.mem_append_left _ hq)
  · rw [List.map_append] at hq
    rcases List.mem_append.mp hq with hq | hq
    · exact .inl (List.mem_append_right _ hq)
    · exact .inr (List.mem_singleton.mp hq)
theorem append_cell {Ia D a : Addr} {oI : Obj} {base rest : Led} {R : List NCell} {n : Nat} {x : Int} {tn tx : Tok} {c : Nat}
    (F : Fr g L s.heap m) (N : News g L s.heap ((a, tup #[.str (NM n) tn, .int x tx] c) :: rest)) (hm : (D, lst (rowN R)) ∈ rest) (hI : (Ia, oI) ∈ rest) (hs : ∀ q ∈ base ++ R.map NCell.led, q ∈ rest) (hID : D ≠ Ia) (off : Off1 D (base ++ R.map NCell.led)) (ha : @LT.lt Nat _ D a) (hl : R.length ≤ 100)
    (h : ∀ h', Fr g L h' m → News g L h' ((Ia, oI) :: (D, lst (rowN (R ++ [(⟨a, n, x, tn, tx, c⟩ : NCell)]))) :: (base ++ (R ++ [(⟨a, n, x, tn, tx, c⟩ : NCell)]).map NCell.led)) → Q .none { s with heap := h' }) :
    wpAny (model prog w) A (call (.builtin "list.append") [.ref D, .ref a]) Q E s := by
  refine append_keep F N (.tail _ hm) ((Ia, oI) :: (base ++ (R ++ [(⟨a, n, x, tn, tx, c⟩ : NCell)]).map NCell.led)) (fun q hq => ?_) ?_ fun h' F' N' => h h' F' fun q hq => N' q ?_
  · rcases List.mem_cons.mp hq with rfl | hq
    · exact ⟨.tail _ hI, Ne.symm hID⟩
    · rcases mem_snoc hq with hq | rfl
      · exact ⟨.tail _ (hs q hq), off_mem off q hq⟩
      · exact ⟨.head _, Ne.symm (Nat.ne_of_lt ha)⟩
  · show (rowN R).toArray.size ≤ _
    rw [List.size_toArray]
    unfold rowN sizeLine
    rw [List.length_map]
    omega
  · rcases List.mem_cons.mp hq with rfl | hq
    · exact .tail _ (.head _)
    · rcases List.mem_cons.mp hq with rfl | hq
      · have e : lst (rowN (R ++ [(⟨a, n, x, tn, tx, c⟩ : NCell)])) = listOf ((rowN R).toArray.push (.ref a)) ((rowN R).length + 1) := by
          have := lst_snoc (rowN R) (.ref a)
          rw [show rowN (R ++ [(⟨a, n, x, tn, tx, c⟩ : NCell)]) = rowN R ++ [.ref a] by simp [rowN]]
          exact this.symm
        rw [e]
        exact .head _
      · exact .tail _ (.tail _ hq)
theorem num_end {Ia D : Addr} {oI : Obj} {base : Led} {R : List NCell} {z : NCell} {m₀ m₂ : Str → Option Value} {p : Nat → Int} {ws : Nat → Nat} {i : Nat} {h' : Heap} {tk' : Nat} {uu : Str → Option Value}
    (F : Fr g L h' m₂) (N : News g L h' ((Ia, oI) :: (D, lst (rowN (R ++ [z]))) :: (base ++ (R ++ [z]).map NCell.led))) (hne : ∀ q ∈ (D, lst (rowN R)) :: (base ++ R.map NCell.led), q.1 ≠ Ia) (off : Off1 D (base ++ R.map NCell.led)) (ha : (@LT.lt Nat _ D z.a) ∧ (@LT.lt Nat _ Ia z.a))
    (hm : m₂ = fun y => if y = Str.ofString "n" then uu y else m₀ y) (hR : R.map NCell.dat = (List.range (4 + i)).map (nd p ws)) (hz : z.dat = nd p ws (4 + i)) :
    GEnd g L Ia oI (numJ D base m₀ p ws (i + 1)) s .next { s with heap := h', toks := tk' } := by
  refine ⟨rfl, h', tk', m₂, _, rfl, F, N, fun q hq => ?_, R ++ [z], uu, rfl, hm, ?_, Off1.of fun q hq => ?_⟩
  · rcases List.mem_cons.mp hq with rfl | hq
    · exact hne (D, lst (rowN R)) (.head _)
    · rcases mem_snoc hq with hq | rfl
      · exact hne q (.tail _ hq)
      · exact Ne.symm (Nat.ne_of_lt ha.2)
  · rw [show 4 + (i + 1) = (4 + i) + 1 from rfl, List.range_succ, List.map_append, List.map_append, hR]
    show _ ++ [z.dat] = _ ++ [nd p ws (4 + i)]
    rw [hz]
  · rcases mem_snoc hq with hq | rfl
    · exact off_mem off q hq
    · exact Ne.symm (Nat.ne_of_lt ha.1)
theorem sum_six {l : Addr} {p : Nat → Int} {tk : Nat → Tok} {news : Led} (hh : A.handled = none) (F : Fr g L s.heap m) (N : News g L s.heap news) (hl : s.heap.IsList l (six6 p tk))
    (h : ∀ h' tk t', Fr g L h' m → News g L h' news → Q (.int (sixSum p) t') { s with heap := h', toks := tk }) : wpAny (model prog w) A (call (.builtin "sum") [.ref l]) Q E s :=
  sumK (vs := (six6 p tk).toList) hh F N hl (.cons _ _ (.cons _ _ (.cons _ _ (.cons _ _ (.cons _ _ (.cons _ _ .nil)))))) h
/-- a list of the seven words and numbers stands ahead -/
noncomputable def Numb (p : Nat → Int) (ws : Nat → Nat) (new : Led) (r : Value) : Prop :=
  ∃ (D : Addr) (R : List NCell), r = .ref D ∧ new = (D, lst (rowN R)) :: R.map NCell.led ∧ R.map NCell.dat = (List.range 7).map (nd p ws)
end
end Num0_
section TNum_
open PySem PySem.W PySem.Spec PySem.Calls PyProof.Rows
set_option maxRecDepth 100000 in
set_option maxHeartbeats 8000000 in
theorem numbers (w : World) (l l2 : Addr) (n n2 : Nat) (p : Nat → Int) (tp : Nat → Tok) (ws : Nat → Nat) (tw : Nat → Tok) (hw : W8 ws) :
   Ctr w 6 248 [.ref l, .ref l2] [(l, listOf (six6 p tp) n), (l2, listOf (wrd4 ws tw) n2)] (fun ns r => ∃ new, ns = new ++ [(l, listOf (six6 p tp) n), (l2, listOf (wrd4 ws tw) n2)] ∧ Numb p ws new r) := by
  k_with_none
  (k_with "ite" => (k_closed; first | ((with_reducible refine ite_neg ?ci ?_); (case ci => decide)) | ((with_reducible refine ite_pos ?ci ?_); (case ci => decide))))
  (k_with "FinE" => ((unfold LCg.FinE); intro D' h' tk' F' N' o1'; (try simp only [List.nil_append, List.cons_append] at N'); (try dsimp only)))
  (k_with "FinA" => ((unfold LCg.FinA); intro D' h' tk' F' N' o1'; (try simp only [List.nil_append, List.cons_append] at N'); (try dsimp only)))
  (k_with "eval Name" => ((with_reducible show wpAny _ _ (eval (Expr.Name _ _) (compEnvC _ _ _ _)) _ _ _); k_dflt (first
  | (refine' LCgL.ld_own ?N ?m ?C ?x ?_ ?a ?b; (case a => rfl); (case b => rfl); (case N => k_asm); (case m => k_mem); (case C => assumption); (case x => assumption); k_whole)
  | (refine' lcf_cell ?N ?c ?m ?d ?_ ?a ?b; (case a => rfl); (case b => rfl); (case N => k_asm); (case c => rfl); (case m => k_mem); (case d => k_asm); k_whole)
  | (refine' LCgL.ld_global ?F ?X ?T ?e ?_ ?g ?a ?b; (case a => rfl); (case b => rfl); (case g => rfl); (case F => k_asm); (case X => k_asm); (case T => k_asm); (case e => k_is); k_whole)
  | (refine' lcf_free ?N ?c ?m ?d ?_ ?a ?b; (case a => rfl); (case b => rfl); (case N => k_asm); (case c => rfl); (case m => k_mem); (case d => k_asm); k_whole))))
  (k_with "eval ListComp" => ((with_reducible show wpAny _ _ (eval (Expr.ListComp _ [Comprehension.mk (Expr.Name _ _) _ [] _] _ _) _) _ _ _); k_dflt (refine LCg.ListComp_U (F₀ := by k_asm) (by with_unfolding_all rfl) (by decide) (by rfl) (by decide) (by rfl) ?_)))
  (k_with "exec Assign cons ListComp" => ((with_reducible show wpAny _ _ (exec (Stmt.Assign [Expr.Name _ _] (Expr.ListComp _ [Comprehension.mk (Expr.Name _ _) _ [] _] _ _) _) _) _ _ _); k_dflt (refine LCg.Assign_ListComp_U (F₀ := by k_asm) (by rfl) (by with_unfolding_all rfl) (by with_unfolding_all rfl) (by decide) (by rfl) (by decide) (by rfl) (by rfl) (by rfl) ?_)))
  (k_with "eval ListComp" => ((with_reducible show wpAny _ _ (eval (Expr.ListComp _ [Comprehension.mk (Expr.Name _ _) _ [_] _] _ _) _) _ _ _); k_dflt (refine LCt.ListComp_T (F₀ := by k_asm) (by with_unfolding_all rfl) (by decide) (by rfl) (by decide) (by rfl) ?_)))
  (k_with "exec Assign cons ListComp" => ((with_reducible show wpAny _ _ (exec (Stmt.Assign [Expr.Name _ _] (Expr.ListComp _ [Comprehension.mk (Expr.Name _ _) _ [_] _] _ _) _) _) _ _ _); k_dflt (refine LCt.Assign_ListComp_T (F₀ := by k_asm) (by rfl) (by with_unfolding_all rfl) (by with_unfolding_all rfl) (by decide) (by rfl) (by decide) (by rfl) (by rfl) (by rfl) ?_)))
  (k_with "CompSrc" => (k_here; k_dflt (first
  | (refine LCg.CompSrc.ledger (by rfl) (by k_asm) (by k_asm) (by k_mem) (by first | size_fits | exact Nat.le_of_ble_eq_true rfl) ?_; intro g'; lcg_lit)
  | (refine LCg.CompSrc.range (by rfl) (by k_asm) (by k_asm) (by assumption) (by first | decide | rfl) (by first | rfl | decide) (by first | size_fits | exact Nat.le_of_ble_eq_true rfl) ?_; intro g'; lcg_lit))))
  (k_with "eval Tuple" => (first
  | ((with_reducible show wpAny _ _ (eval (Expr.Tuple [Expr.Constant (Const.int _) _ _, Expr.Constant (Const.int _) _ _] _ _) _) _ _ _); (k_dflt (refine' Tuple_i2 ?F ?N ?_; (case F => k_asm); (case N => k_asm); k_whole)); intro D' h' tk' t0' t1' F' N' l1; (try k_lt l1); (try k_sweep))
  | ((with_reducible show wpAny _ _ (eval (Expr.Tuple [Expr.Constant (Const.int _) _ _, Expr.Constant (Const.int _) _ _, Expr.Constant (Const.int _) _ _] _ _) _) _ _ _); (k_dflt (refine' Tuple_i3 ?F ?N ?_; (case F => k_asm); (case N => k_asm); k_whole)); intro D' h' tk' t0' t1' t2' F' N' l1; (try k_lt l1); (try k_sweep))
  | ((with_reducible show wpAny _ _ (eval (Expr.Tuple [Expr.Constant (Const.int _) _ _, Expr.Constant (Const.int _) _ _, Expr.Constant (Const.int _) _ _, Expr.Constant (Const.int _) _ _] _ _) _) _ _ _); (k_dflt (refine' Tuple_i4 ?F ?N ?_; (case F => k_asm); (case N => k_asm); k_whole)); intro D' h' tk' t0' t1' t2' t3' F' N' l1; (try k_lt l1); (try k_sweep))))
  (k_with "call ref" => ((with_reducible show wpAny _ _ (call (Value.ref 212) _ _) _ _ _); k_dflt (refine' ctr_call (addedW _ _ _ ?c1 ?c2 _ _) ?hK ?B ?F ?X ?N ?S ?T ?hk ?hd ?hu ?_; (case c1 => exact W8.at (by assumption) _); (case c2 => exact W8.at (by assumption) _); (case hd => assumption); (case hu => assumption); (case hK => decide); (case B => with_reducible assumption); (case F => k_asm); (case X => with_reducible assumption); (case N => k_asm); (case S => first | (intro kp hp; exact hp) | lcg_sub); (case T => with_reducible assumption); (case hk => exact rfl); intro r9 ns9 h9 tk9 F9 N9 o9; obtain ⟨e9, t9, e10⟩ := o9; subst e9; subst e10; (try dsimp only [List.nil_append] at N9); (try dsimp only); (try k_fold))))
  (k_with "call ref" => ((with_reducible show wpAny _ _ (call (Value.ref 217) _ _) _ _ _); k_dflt (refine' ctr_call (name _ _ _) ?hK ?B ?F ?X ?N ?S ?T ?hk ?hd ?hu ?_; (case hd => assumption); (case hu => assumption); (case hK => decide); (case B => with_reducible assumption); (case F => k_asm); (case X => with_reducible assumption); (case N => k_asm); (case S => first | (intro kp hp; exact hp) | lcg_sub); (case T => with_reducible assumption); (case hk => exact rfl); intro r9 ns9 h9 tk9 F9 N9 o9; obtain ⟨e9, t9, e10⟩ := o9; subst e9; subst e10; (try dsimp only [List.nil_append] at N9); (try dsimp only); (try k_fold))))
  (k_with "eval ListComp" => ((with_reducible show wpAny _ _ (eval (Expr.ListComp _ [Comprehension.mk (Expr.Name _ _) (Expr.Subscript _ _ _) [] _] _ _) _) _ _ _); k_dflt (refine ListComp_Tup (F₀ := by k_asm) (by with_unfolding_all rfl) (by decide) (by rfl) (by decide) (by rfl) ?_)))
  (k_with "CompSrcU" => k_dflt (refine CompSrcU.intro (by rfl) (by k_asm) (by k_asm) (by k_mem) (by first | size_fits | exact Nat.le_of_ble_eq_true rfl) ?_; intro g'; refine unhold ?_))
  (k_with "CompSrc" => k_dflt (refine LCg.CompSrc.range (by rfl) (by k_asm) (by k_asm) (by assumption) (by first | decide | rfl) (by first | rfl | decide) (by first | size_fits | exact Nat.le_of_ble_eq_true rfl) ?_; intro g'; refine unhold ?_))
  (k_with "subscriptTail Name Name ref int" => k_dflt (first
  | (refine' item_six (News.isList ?N ?hD) ?k0 ?k2 ?_ ?hs; (case N => k_asm); (case hD => k_mem); (case k0 => omega); (case k2 => omega); (case hs => with_unfolding_all rfl); k_whole)
  | (refine' item_wrd (News.isList ?N ?hD) ?k0 ?k2 ?_ ?hs; (case N => k_asm); (case hD => k_mem); (case k0 => omega); (case k2 => omega); (case hs => with_unfolding_all rfl); k_whole)
  | (refine' item_star ?N ?hD ?h0 ?h1 ?h2 ?h3 ?e ?k6 ?_ ?hs; (case N => k_asm); (case hD => k_mem); (case h0 => k_mem); (case h1 => k_mem); (case h2 => k_mem); (case h3 => k_mem); (case e => rfl); (case k6 => omega); (case hs => with_unfolding_all rfl); k_whole; refine unhold ?_)))
  (k_with "call builtin:sum" => ((with_reducible show wpAny _ _ (call (Value.builtin "sum") [Value.ref _]) _ _ _); k_dflt (refine' sumK rfl ?F ?N ?l ?i ?_; (case F => k_asm); (case N => k_asm); (case l => exact News.isList (by k_asm) (by k_mem)); (case i => assumption); k_whole)))
  (k_with "exec For Name Call cons nil" => ((rename Fr _ _ _ _ => lF'); k_dflt (refine' For_turns lF' ?_ ?hs ?hE; (case hs => (intro _; rfl)); (case hE => exact PassesOwn.never); k_whole)))
  (k_with "pyIter ref" => ((with_reducible show wpAny _ _ (pyIter (Value.ref _)) (fun it s₂ => TurnsAt _ _ _ _ _ _ _ _ _ it s₂) _ _); refine unhold ?_))
  (k_with "call builtin:list.append" => ((with_reducible show wpAny _ _ (call (Value.builtin "list.append") [Value.ref _, Value.ref _]) _ _ _); refine unhold ?_))
  (k_with "call builtin:sum" => ((with_reducible show wpAny _ _ (call (Value.builtin "sum") [Value.ref _]) _ _ _); k_dflt (refine' sum_six rfl ?F ?N ?l ?_; (case F => k_asm); (case N => k_asm); (case l => exact News.isList (by k_asm) (by k_mem)); k_whole)))
  k_dflt (refine' ctr_cells ?k0 ?ko ?kB ?kS ?kc ?kb ?kl ?kD ?c1 ?c2 ?c3 ?_; (case k0 => decide); (case ko => k_is); (case kB => conv => lhs; whnf); (case kS => conv => lhs; whnf); (case kc => k_is); (case kb => intro _ kX; first | exact BindsTo.of_eq rfl | exact kp_binds kX (fun _ => rfl)); (case kl => exact rfl); (case kD => decide +kernel); (case c1 => exact rfl); (case c2 => exact rfl); (case c3 => exact rfl); k_whole)
  intro pr loose mean mg mb dp un gd cn cs Lc ac ccd clo outer base g L' h₁ s tk cells' F' N' Y' l1 B' X' T' hd hu
  (try k_lt l1); k_cells Y'; (try simp only [List.cons_append, List.nil_append] at N'); (try dsimp only); (try k_unmd); k_fold
  k_steps
  unfold Hold
  (rename News _ _ _ _ => lN')
  refine rest_grow (n := 4) (numInv p ws _) ?_ (fun _ _ _ _ => trivial) ?_ 4 0 [] _ rfl (numInv_start _ _ _)
  · rintro i ys nw hi ⟨R, rfl, rfl, hR⟩ v I oI C oC D m₂ h tk E' ⟨t, rfl⟩ hC hx F N off
    clear lN'
    simp only [List.cons_append, List.nil_append] at N
    k_steps
    unfold Hold
    intro Rr ra rb rd rc hRm
    refine CompSrcU.intro (by rfl) (by k_asm) (by k_asm) hRm (Nat.le_of_ble_eq_true rfl) ?_
    intro g'
    refine rest_inv (n := 3) (fun j ys => IntsAre ys ((List.range j).map (fun j => p (ST i j).toNat))) ?_ hRm ?_ 3 0 [] rfl .nil
    · intro j ys hj hInv v I2 oI2 C2 oC2 D2 m₂ h tk E' hv hC hx F N
      obtain ⟨t, ev⟩ := three_at hj hv
      rw [st_at hj] at ev
      subst ev
      have hb := st_bd hi hj
      k_steps
      · exact Went.intro (by assumption) (by assumption) (fun q hq => hq)
      · exact ints_map_snoc hInv
    · intro ys hI
      k_steps
      refine' wentG_cell (by assumption) (by assumption) off hR ?hz ?hI ?hC ?hD ?hs ?h1
      case hI => k_mem
      case hC => k_mem
      case hD => k_mem
      case hs =>
        simp only [List.cons_append, List.nil_append]
        repeat refine List.forall_mem_cons.mpr ⟨by k_mem, ?_⟩
        intro q hq
        repeat (first | exact hq | refine List.Mem.tail _ ?_)
      case h1 => refine ⟨?_, ?_, ?_⟩ <;> omega
      case hz =>
        have e : (0 + (i : Int)).toNat = i := by omega
        unfold nd
        rw [if_pos hi, e]
  · rintro ys nw ⟨R, rfl, rfl, hR⟩
    unfold LCg.FinA
    intro D1 h1 tk1 F1 N1 o1
    clear lN'
    simp only [List.cons_append, List.nil_append] at N1
    k_steps
    unfold Hold
    (rename Fr _ _ _ _ => lF'); (rename News _ _ _ _ => lN'); (rename IsRange _ _ _ _ _ _ _ _ => rgX)
    refine' grow_range (numJ D1 _ _ p ws) rfl rgX rfl rfl lF' lN' rfl rfl (numJ_start o1 hR) ?_ ?_
    · rintro i t m₁ news₁ h tk Ia oI hi ⟨R2, uu, rfl, rfl, hR2, o2⟩ hne F N
      replace F := fr_two F
      replace hi : i < 3 := hi
      clear lF' lN'
      simp only [List.cons_append, List.nil_append] at N
      k_steps
      unfold Hold
      have hlen : R2.length = 4 + i := by
        have := congrArg List.length hR2
        simpa using this
      refine' append_cell (by assumption) (by assumption) ?hm ?hI ?hs (hne _ (.head _)) o2 ?ha ?hl ?_
      case hm => k_mem
      case hI => k_mem
      case hs =>
        simp only [List.cons_append, List.nil_append]
        repeat refine List.forall_mem_cons.mpr ⟨by k_mem, ?_⟩
        intro q hq
        repeat (first | exact hq | refine List.Mem.tail _ ?_)
      case ha => omega
      case hl => omega
      intro h9 F9 N9
      k_steps
      refine num_end (by assumption) N9 hne o2 ⟨?_, ?_⟩ rfl hR2 ?_
      · dsimp only; omega
      · dsimp only; omega
      · have e : (1 + (i : Int) * 1).toNat = i + 1 := by omega
        have e2 : (1 + (i : Int) * 1 - 1).toNat = i := by omega
        have e3 : (6 - (1 + (i : Int) * 1)).toNat = 5 - i := by omega
        show (_, _) = nd p ws (4 + i)
        unfold nd
        rw [if_neg (by omega), e, e2, e3, show 4 + i - 3 = i + 1 by omega, show 4 + i - 4 = i by omega, show 9 - (4 + i) = 5 - i by omega]
        dsimp only
        have gd : ∀ j, j < 6 → [p 0, p 1, p 2, p 3, p 4, p 5].getD j 0 = p j := fun j hj => nat6 (P := fun j => [p 0, p 1, p 2, p 3, p 4, p 5].getD j 0 = p j) hj rfl rfl rfl rfl rfl rfl
        rw [gd i (by omega), gd (5 - i) (by omega)]
    · rintro h tk m₁ news₁ ⟨R2, uu, rfl, rfl, hR2, o2⟩ F N
      clear lF' lN'
      simp only [List.cons_append, List.nil_append] at N
      k_steps
      (show Fin _ _ _ _ _ _; try dsimp only)
      refine' fin_ret (by assumption) (by assumption) ((D1, LCg.lst (rowN R2)) :: R2.map NCell.led) ?hs ⟨D1, R2, rfl, rfl, hR2⟩
      case hs =>
        intro q hq
        rcases List.mem_append.mp hq with hq | hq
        · rcases List.mem_cons.mp hq with rfl | hq
          · exact .head _
          · repeat (first | exact hq | refine List.Mem.tail _ ?_)
        · rcases List.mem_cons.mp hq with rfl | hq
          · k_mem
          · rcases List.mem_cons.mp hq with rfl | hq
            · k_mem
            · cases hq
end TNum_
section Rex_
open PySem PySem.W PySem.Spec PySem.Calls PyProof.Rows
set_option maxRecDepth 100000
theorem plainAttrs_pat : PlainAttrs "re.Pattern" :=
  ⟨⟨"object.__getattribute__", by rw [typeLookup_type, builtinLookup_eq_fast]; kernel_rfl, by decide +kernel⟩, by rw [typeLookup_type, builtinLookup_eq_fast]; kernel_rfl⟩
theorem owner_pat : Manifest.owners.lookup (String.ofList ['n', 'r', 'e', 't', 't', 'a', 'P', '.', 'e', 'r'].reverse) = some Manifest.sig_re_Pattern := by kernel_rfl
theorem slot_pat_search : Slot "re.Pattern" "search" "re.Pattern.search" :=
  .of (owner := "re.Pattern") (n := "search") (by rw [typeLookup_type, builtinLookup_eq_fast]; kernel_rfl) (by decide +kernel) (by decide +kernel) (by decide +kernel)
    (by first | exact .inl (by decide +kernel) | exact .inr (by decide +kernel)) (by rw [isSubtype_type]; kernel_rfl)
theorem type_pat_search : typeOf (.builtin "re.Pattern.search") = pure (.type "method_descriptor") := by show builtinType _ = _; rw [builtinType_eq_fast]; kernel_rfl
theorem entry_pat_search : entryFor table "re.Pattern.search" = some Builtin.«re.Pattern.search» := entryFor_of_tree (by kernel_rfl)
theorem args_pat_search_2 (a b : Value) : argsOk "re.Pattern.search" ⟨[a, b], []⟩ := by
  unfold argsOk; rw [signature?_of (id := "re.Pattern.search") (n := ['h', 'c', 'r', 'a', 'e', 's']) (o := ['n', 'r', 'e', 't', 't', 'a', 'P', '.', 'e', 'r']) (by kernel_rfl) owner_pat]; kernel_rfl
noncomputable def nameCode : Array Nat := #[14, 10, 4, 1, 1, 22, 0, 31, 16, 127, 0, 13, 7, 22, 0, 31, 16, 127, 0, 1]
noncomputable def valCode : Array Nat := #[14, 14, 4, 1, 1, 9, 4294966783, 0, 0, 2147483648, 0, 0, 0, 0, 0, 13, 11, 9, 4294966783, 0, 0, 2147483648, 0, 0, 0, 0, 0, 1]
/-- a text of plain signs -/
noncomputable def Fine (x : Str) : Prop := ∀ i, i < x.cps.size → 32 ≤ x.cps.getD i 0 ∧ x.cps.getD i 0 < 127
theorem in_name {c : Nat} (h : 32 ≤ c ∧ c < 127) (seen : Sre.Seen) : ∃ seen', Sre.inSet nameCode c nameCode.size 5 true seen = .ok (false, seen') := by
  have h1 : (decide (0 ≤ c) && decide (c ≤ 31)) = false := by simp; omega
  have h2 : (c == 127) = false := by simp; omega
  refine ⟨((seen.add 22).add 16).add 0, ?_⟩
  show (if (decide (0 ≤ c) && decide (c ≤ 31)) = true then _ else (if (c == 127) = true then _ else _)) = _
  rw [if_neg (by rw [h1]; exact Bool.false_ne_true), if_neg (by rw [h2]; exact Bool.false_ne_true)]
  rfl
theorem in_val {c : Nat} (h : 32 ≤ c ∧ c < 127) (seen : Sre.Seen) : ∃ seen', Sre.inSet valCode c valCode.size 5 true seen = .ok (false, seen') := by
  have h1 : (decide (c < 256) && (valCode.getD (5 + (1 + c / 32)) 0).testBit (c % 32)) = false :=
    (by decide +kernel : ∀ c, c < 127 → 32 ≤ c → (decide (c < 256) && (valCode.getD (5 + (1 + c / 32)) 0).testBit (c % 32)) = false) c h.2 h.1
  refine ⟨(seen.add 9).add 0, ?_⟩
  show (if (decide (c < 256) && (valCode.getD (5 + (1 + c / 32)) 0).testBit (c % 32)) = true then _ else _) = _
  rw [if_neg (by rw [h1]; exact Bool.false_ne_true)]
  rfl
noncomputable def Dead (m : Sre.M) : Prop := m.answer = some false ∧ m.frames = [] ∧ m.outcome = none
section
variable {code : Array Nat} (hc : ∀ (c : Nat), 32 ≤ c ∧ c < 127 → ∀ seen, ∃ seen', Sre.inSet code c code.size 5 true seen = .ok (false, seen'))
include hc
theorem adm (m : Sre.M) (hm : m.code = code) (ht : ∀ i, i < m.lim → 32 ≤ m.text.getD i 0 ∧ m.text.getD i 0 < 127) : ∀ fuel s seen, ∃ seen', Sre.M.admitted m fuel s seen = .ok (none, seen')
  | 0, _, seen => ⟨seen, rfl⟩
  | fuel + 1, s, seen => by
    unfold Sre.M.admitted
    by_cases h : s ≥ m.lim
    · rw [if_pos h]; exact ⟨_, rfl⟩
    · rw [if_neg h]
      obtain ⟨seen', e⟩ := hc _ (ht s (by omega)) seen
      rw [hm, e]
      exact adm m hm ht fuel (s + 1) seen'
theorem attempt_dead (m : Sre.M) (hf : m.hasFirstSet = true) (h1 : m.code = code) (h2 : ∀ i, i < m.lim → 32 ≤ m.text.getD i 0 ∧ m.text.getD i 0 < 127) (h3 : m.frames = []) (h4 : m.outcome = none) : Dead (m.attemptFrom 0 true) := by
  unfold Sre.M.attemptFrom
  rw [hf]
  simp only [Bool.not_true, Bool.false_eq_true, if_false]
  obtain ⟨seen', e⟩ := adm hc m h1 h2 (m.lim + 1 - 0) 0 m.seen
  rw [e]
  exact ⟨rfl, h3, h4⟩
theorem search_shape (hfs : ∀ m : Sre.M, m.code = code → m.hasFirstSet = true) (x : Str) (hx : Fine x) : Dead (Sre.forSearch code x.cps 0 0 x.cps.size false) := by
  unfold Sre.forSearch
  dsimp only
  split
  · exact ⟨rfl, rfl, rfl⟩
  · exact attempt_dead hc _ (hfs _ rfl) rfl hx rfl rfl
end
theorem run4 {m : Sre.M} (h1 : m.answer = some false) (h2 : m.frames = []) (h3 : m.outcome = none) : m.runFor 4 = { m with outcome := some .failed } := by
  have s1 : m.step = { m with outcome := some .failed } := by
    unfold Sre.M.step
    rw [h3, h1, h2]
    rfl
  show (if m.outcome.isSome then m else Sre.M.runFor 3 m.step) = _
  rw [h3, s1]
  rfl
section
variable {prog : Program} {w : World} {A : Around} {E : Value → Shared → Prop} {s : Shared}
theorem drive {m : Sre.M} {Q : Sre.M → Shared → Prop} (h1 : m.answer = some false) (h2 : m.frames = []) (h3 : m.outcome = none) (h : Q { m with outcome := some .failed } s) : wpAny (model prog w) A (Builtin.Re.reDrive (2 ^ 64) m) Q E s := by
  rw [show (2 : Nat) ^ 64 = 18446744073709551615 + 1 from rfl]
  unfold Builtin.Re.reDrive
  rw [show Builtin.Re.reTurnSteps = 4 from rfl, run4 h1 h2 h3]
  exact wpAny_pure h
theorem run_end {m : Sre.M} {Q : Option Sre.M → Shared → Prop} (h1 : m.answer = some false) (h2 : m.frames = []) (h3 : m.outcome = none) (h : Q none s) : wpAny (model prog w) A (Builtin.Re.reRunToEnd m) Q E s := by
  unfold Builtin.Re.reRunToEnd
  refine wpAny_bind (drive h1 h2 h3 (wpAny_bind ?_))
  refine wpAny_forIn_list _ (fun _ _ s' => s' = s) _ (fun x rest b s' e => ?_) (fun b s' e => ?_) _ _ rfl
  · subst e
    split
    · exact wpAny_bind (wpAny_rule (wpAny_pure rfl))
    · exact wpAny_pure rfl
  · subst e
    exact wpAny_pure h
end

theorem hfs_name (m : Sre.M) (h : m.code = nameCode) : m.hasFirstSet = true := by unfold Sre.M.hasFirstSet; rw [h]; rfl
theorem hfs_val (m : Sre.M) (h : m.code = valCode) : m.hasFirstSet = true := by unfold Sre.M.hasFirstSet; rw [h]; rfl
theorem dead_name (x : Str) (hx : Fine x) : Dead (Sre.forSearch nameCode x.cps 0 0 x.cps.size false) := search_shape (fun _ h s => in_name h s) hfs_name x hx
theorem dead_val (x : Str) (hx : Fine x) : Dead (Sre.forSearch valCode x.cps 0 0 x.cps.size false) := search_shape (fun _ h s => in_val h s) hfs_val x hx
section
variable {prog : Program} {w : World} {A : Around} {E : Value → Shared → Prop} {s : Shared}
theorem named_one (x : Value) : Builtin.Re.reNamed "re.Pattern.search" "search" ["string", "pos", "endpos"] 1 [x] [] = pure [some x, none, none] := by
  rfl
theorem target {id f : String} {Q : Builtin.Re.ReTarget → Shared → Prop} {a ta : Addr} {o ot : Obj} {x : Str} {t t2 t6 : Tok} {v0 v1 v3 v4 : Value} {items : Array Value} {n : Nat} {code : Array Nat} (hid : Builtin.Re.reNamed id f ["string", "pos", "endpos"] 1 [.str x t] [] = pure [some (.str x t), none, none])
    (ho : s.heap.get? a = some o) (hd : o.data = .fields #[v0, v1, .int 0 t2, v3, v4, .ref ta, .int 0 t6]) (hto : s.heap.get? ta = some ot) (htd : ot.data = .seq items n) (hcode : (items.map Builtin.Re.reRawOf).map (·.toNat) = code) (hx : x.cps.size ≤ 1000)
    (h : Q { pattern := .ref a, string := .str x t, code := code, text := x.cps, kind := 0, groups := 0, pos := 0, lim := x.cps.size } s) : wpAny (model prog w) A (Builtin.Re.reTarget id f ⟨[.ref a, .str x t], []⟩) Q E s := by
  unfold Builtin.Re.reTarget
  dsimp only
  rw [hid]
  refine wpAny_bind (wpAny_pure ?_)
  dsimp only
  refine wpAny_bind (wpAny_pure ?_)
  refine wpAny_bind (wpAny_pure ?_)
  refine wpAny_bind (wpAny_fieldsOf ho hd ?_)
  refine wpAny_bind (wpAny_bind (wpAny_pure (wpAny_pure ?_)))
  dsimp only
  refine wpAny_bind (wpAny_pure ?_)
  refine wpAny_bind (wpAny_bind (wpAny_seqItems hto htd (wpAny_pure ?_)))
  refine wpAny_pure ?_
  have e : min ((2 : Int) ^ 63 - 1).toNat x.cps.size = x.cps.size := Nat.min_eq_right (Nat.le_trans hx (by decide))
  rw [e, show min (Int.toNat 0) x.cps.size = 0 from Nat.zero_min _]
  rw [← hcode] at h
  exact h
theorem pat_search {P : PySem.Fin → Shared → Prop} {a ta : Addr} {o ot : Obj} {x : Str} {t t2 t6 : Tok} {v0 v1 v3 v4 : Value} {items : Array Value} {n : Nat} {code : Array Nat}
    (ho : s.heap.get? a = some o) (hd : o.data = .fields #[v0, v1, .int 0 t2, v3, v4, .ref ta, .int 0 t6]) (hto : s.heap.get? ta = some ot) (htd : ot.data = .seq items n) (hcode : (items.map Builtin.Re.reRawOf).map (·.toNat) = code) (hx : x.cps.size ≤ 1000)
    (dead : Dead (Sre.forSearch code x.cps 0 0 x.cps.size false)) (h : P (.done (.ret .none)) s) : wpAny (model prog w) A (Builtin.«re.Pattern.search» ⟨[.ref a, .str x t], []⟩) P E s := by
  unfold Builtin.«re.Pattern.search»
  refine wpAny_bind (target (named_one _) ho hd hto htd hcode hx ?_)
  unfold Builtin.Re.reAnswer
  exact wpAny_bind (run_end dead.1 dead.2.1 dead.2.2 (wpAny_pure h))
theorem call_search {Q : Value → Shared → Prop} {a ta : Addr} {o ot : Obj} {x : Str} {t t2 t6 : Tok} {v0 v1 v3 v4 : Value} {items : Array Value} {n : Nat} {code : Array Nat}
    (ho : s.heap.get? a = some o) (hc : o.cls = .type "re.Pattern") (hd : o.data = .fields #[v0, v1, .int 0 t2, v3, v4, .ref ta, .int 0 t6]) (hto : s.heap.get? ta = some ot) (htd : ot.data = .seq items n) (hcode : (items.map Builtin.Re.reRawOf).map (·.toNat) = code) (hx : x.cps.size ≤ 1000)
    (dead : Dead (Sre.forSearch code x.cps 0 0 x.cps.size false)) (h : Q .none s) : wpAny (model prog w) A (call (.builtin "re.Pattern.search") [.ref a, .str x t]) Q E s :=
  wpAny_call_entry slot_pat_search ⟨o, ho, hc⟩ entry_pat_search (pat_search ho hd hto htd hcode hx dead ⟨_, rfl, h⟩) (args_pat_search_2 _ _)
theorem get_search {Q : Value × List Value → Shared → Prop} {a : Addr} {o : Obj} {pl : Sem Bool} (ho : s.heap.get? a = some o) (hc : o.cls = .type "re.Pattern") (hd : o.dict = none) (h : Q (.builtin "re.Pattern.search", [.ref a]) s) : wpAny (model prog w) A (getMethod (.ref a) "search" pl) Q E s :=
  getMethod_builtin ⟨o, ho, hc⟩ plainAttrs_pat slot_pat_search type_pat_search (fun b e => by cases e; exact ⟨o, ho, hd⟩) h
end
end Rex_
section Hdr0_
open PySem PySem.W PySem.Spec PySem.Calls PyProof.Rows
section
variable {prog : Program} {w : World} {A : Around} {E : Value → Shared → Prop} {s : Shared} {env : Env} {h₀ : Heap} {target : Expr} {body : List Stmt} {Q : Flow → Shared → Prop}
/-- turns over a list of any length -/
theorem items_inv {I : Addr} {keep : Led} (J : Nat → (Str → Option Value) → Led → Prop) (xs : List Value)
    (turn : ∀ i v m₁ nw h tk oI, xs[i]? = some v → J i m₁ nw → oI.cls = .type "list_iterator" → Fr h₀ env.locals h m₁ → News h₀ env.locals h ((I, oI) :: nw) →
      wpAny (model prog w) A (assign target env v) (fun _ s₂ => wpAny (model prog w) A (execs body env) (UnrPostW h₀ env.locals { s with heap := h, toks := tk } [(I, oI)] (fun m' n' => SubL keep n' ∧ J (i + 1) m' n') Q) E s₂) E { s with heap := h, toks := tk })
    (done : ∀ m₁ nw h tk, J xs.length m₁ nw → Fr h₀ env.locals h m₁ → News h₀ env.locals h nw → Q .next { s with heap := h, toks := tk }) :
    ∀ k i m nw, i + k = xs.length → J i m nw → ItemsRest prog w A E h₀ env target body Q s [(I, "list_iterator")] keep ((xs.drop i).map .val) m nw
  | 0, i, m, nw, e, hj => by
    have e' : i = xs.length := by omega
    subst e'
    rw [List.drop_length]
    exact ItemsRest.zero fun h tk F N => done m nw h tk hj F N
  | k + 1, i, m, nw, e, hj => by
    have hi : i < xs.length := by omega
    rw [List.drop_eq_getElem_cons hi, List.map_cons]
    refine ItemsRest.val fun h tk F => AllObj.cons fun oI hoI => AllObj.nil fun N => ?_
    refine wpAny_mono (turn i _ m nw h tk oI (List.getElem?_eq_getElem hi) hj hoI F N) (fun _ s₂ h₂ => wpAny_mono h₂ (fun f s₃ p => ?_) fun _ _ e => e) fun _ _ e => e
    have fin : UnrEndW h₀ env.locals { s with heap := h, toks := tk } [(I, oI)] (fun m' n' => SubL keep n' ∧ J (i + 1) m' n') s₃ → UnrEndW h₀ env.locals { s with heap := h, toks := tk } [(I, oI)] (fun m' n' => SubL keep n' ∧ ItemsRest prog w A E h₀ env target body Q s [(I, "list_iterator")] keep ((xs.drop (i + 1)).map .val) m' n') s₃ :=
      fun ⟨h', tk', m', n', e1, F', N', o, hk, hj'⟩ => ⟨h', tk', m', n', e1, F', N', o, hk, items_inv J xs turn done k (i + 1) m' n' (by omega) hj'⟩
    cases f with
    | ret v => exact p
    | brk => exact p
    | next => exact fin p
    | cont => exact fin p
end
/-- the small letters of a word's name -/
noncomputable def LN (n : Nat) : Str := Txt.lower (NM n)
theorem ln_eq : ∀ n, n < 8 → ∀ q, q < 8 → (LN n == LN q) = (n == q) := by decide +kernel
theorem ln_low : ∀ n, n < 8 → Txt.lower (LN n) = LN n := by decide +kernel
theorem ln_long : ∀ n, n < 8 → Builtin.Str.tooLong (LN n).length = false := by decide +kernel
theorem fine_of {x : Str} (h : x.cps.all (fun c => decide (32 ≤ c) && decide (c < 127)) = true) : Fine x := fun i hi => by
  have := Array.all_eq_true.mp h i hi
  rw [Array.getD_eq_getD_getElem?, Array.getElem?_eq_getElem hi]
  simpa using this
theorem ln_fine : ∀ n, n < 8 → Fine (LN n) := fun n hn => fine_of ((by decide +kernel : ∀ n, n < 8 → (LN n).cps.all (fun c => decide (32 ≤ c) && decide (c < 127)) = true) n hn)
theorem nm_fine : ∀ n, n < 8 → Fine (NM n) := fun n hn => fine_of ((by decide +kernel : ∀ n, n < 8 → (NM n).cps.all (fun c => decide (32 ≤ c) && decide (c < 127)) = true) n hn)
theorem ln_size : ∀ n, n < 8 → (LN n).cps.size ≤ 1000 := by decide +kernel
theorem nm_size : ∀ n, n < 8 → (NM n).cps.size ≤ 1000 := by decide +kernel
/-- a header in the heap: a word's name and a text -/
structure HCell where
  a : Addr
  n : Nat
  v : Str
  tk : Tok
  tv : Tok
  c : Nat
noncomputable def HCell.led (r : HCell) : Addr × Obj := (r.a, tup #[.str (NM r.n) r.tk, .str r.v r.tv] r.c)
noncomputable def rowH (R : List HCell) : List Value := R.map fun r => Value.ref r.a
noncomputable def headD (w : World) (l : Addr) (kt : Tok) : Obj := dictOf [{ hash := PyData.keyHash w.params (Str.ofString "_headers"), key := Value.str (Str.ofString "_headers") kt, val := Value.ref l }] 1
/-- the shelf in the heap -/
noncomputable abbrev shelfL (w : World) (H d l : Addr) (R : List HCell) (kt : Tok) : Led :=
  (H, instObj 203 d) :: (d, dictOf [{ hash := PyData.keyHash w.params (Str.ofString "_headers"), key := Value.str (Str.ofString "_headers") kt, val := Value.ref l }] 1) :: (l, LCg.lst (rowH R)) :: R.map HCell.led
noncomputable def lookH (R : List HCell) (q : Nat) : Value := match R.find? (fun c => c.n == q) with
  | some c => .str c.v c.tv
  | none => .none
theorem lk75 (w : World) : (KP w.params).lookup 75 = some { cls := .type "re.Pattern", data := .fields #[.str (Str.ofString "[\\x00-\\x1F\\x7F]") 346, .int 32 369, .int 0 0, .none, .none, .ref 74, .int 0 0] } := by k_dflt k_is
theorem lk80 (w : World) : (KP w.params).lookup 80 = some { cls := .type "re.Pattern", data := .fields #[.str (Str.ofString "[\\x00-\\x08\\x0A-\\x1F\\x7F]") 372, .int 32 403, .int 0 0, .none, .none, .ref 79, .int 0 0] } := by k_dflt k_is
theorem lk74 (w : World) : (KP w.params).lookup 74 = some { cls := .type "tuple", data := .seq #[.int 14 0, .int 10 0, .int 4 0, .int 1 0, .int 1 0, .int 22 0, .int 0 0, .int 31 0, .int 16 0, .int 127 0, .int 0 0, .int 13 0, .int 7 0, .int 22 0, .int 0 0, .int 31 0, .int 16 0, .int 127 0, .int 0 0, .int 1 0] } := by k_dflt k_is
theorem lk79 (w : World) : (KP w.params).lookup 79 = some { cls := .type "tuple", data := .seq #[.int 14 0, .int 14 0, .int 4 0, .int 1 0, .int 1 0, .int 9 0, .int 4294966783 0, .int 0 0, .int 0 0, .int 2147483648 0, .int 0 0, .int 0 0, .int 0 0, .int 0 0, .int 0 0, .int 13 0, .int 11 0, .int 9 0, .int 4294966783 0, .int 0 0, .int 0 0, .int 2147483648 0, .int 0 0, .int 0 0, .int 0 0, .int 0 0, .int 0 0, .int 1 0] } := by k_dflt k_is
section
variable {w : World} {A : Around} {E : Value → Shared → Prop} {s : Shared} {g : Heap} {L : Addr} {m : Str → Option Value} {prog : Program}
theorem get_name_re {Q : Value × List Value → Shared → Prop} {pl : Sem Bool} (X : (KP w.params).In g) (F : Fr g L s.heap m) (h : Q (.builtin "re.Pattern.search", [.ref 75]) s) : wpAny (model prog w) A (getMethod (.ref 75) "search" pl) Q E s :=
  get_search (X.keeps F.keep _ _ (lk75 w)) rfl rfl h
theorem call_name_re {Q : Value → Shared → Prop} {x : Str} {t : Tok} (X : (KP w.params).In g) (F : Fr g L s.heap m) (hx : Fine x) (hz : x.cps.size ≤ 1000) (h : Q .none s) : wpAny (model prog w) A (call (.builtin "re.Pattern.search") [.ref 75, .str x t]) Q E s :=
  call_search (code := nameCode) (X.keeps F.keep _ _ (lk75 w)) rfl rfl (X.keeps F.keep _ _ (lk74 w)) rfl (by decide +kernel) hz (dead_name x hx) h
theorem get_val_re {Q : Value × List Value → Shared → Prop} {pl : Sem Bool} (X : (KP w.params).In g) (F : Fr g L s.heap m) (h : Q (.builtin "re.Pattern.search", [.ref 80]) s) : wpAny (model prog w) A (getMethod (.ref 80) "search" pl) Q E s :=
  get_search (X.keeps F.keep _ _ (lk80 w)) rfl rfl h
theorem call_val_re {Q : Value → Shared → Prop} {x : Str} {t : Tok} (X : (KP w.params).In g) (F : Fr g L s.heap m) (hx : Fine x) (hz : x.cps.size ≤ 1000) (h : Q .none s) : wpAny (model prog w) A (call (.builtin "re.Pattern.search") [.ref 80, .str x t]) Q E s :=
  call_search (code := valCode) (X.keeps F.keep _ _ (lk80 w)) rfl rfl (X.keeps F.keep _ _ (lk79 w)) rfl (by decide +kernel) hz (dead_val x hx) h
end
end Hdr0_
section Pair0_
open PySem PySem.W PySem.Spec PySem.Calls PyProof.Rows PyProof.Rows.LCg PyProof.Rows.LCp
section
variable {prog : Program} {w : World} {A : Around} {s : Shared} {h₀ : Heap} {L : Addr} {m : Str → Option Value} {env : Env} {elt : Expr} {x x₂ : Str} {scope : Scope} {cl : List (Str × Addr)} {S : Led → Prop} {P : Nat → Value → Prop} {Fin : List Value → Led → Prop} {n : Nat}
theorem restP_grow (Inv : Nat → List Value → Led → Prop)
    (turn : ∀ i ys nw v, i < n → Inv i ys nw → P i v → ∃ (t : Addr) (ot : Obj) (v₁ v₂ : Value) (nt : Nat), v = .ref t ∧ (t, ot) ∈ nw ∧ ot.cls = .type "tuple" ∧ ot.data = .seq #[v₁, v₂] nt ∧
      ∀ I oI C oC D m₂ h tk (E' : Value → Shared → Prop), NsObj oC m₂ → m₂ x = some v₁ → m₂ x₂ = some v₂ → Fr h₀ L h m → News h₀ L h ((I, oI) :: (C, oC) :: (D, lst ys) :: nw) → Off3 I C D nw → ((@Ne Nat I C) ∧ (@Ne Nat I D) ∧ (@Ne Nat C D)) →
      wpAny (model prog w) A (eval elt (compEnvC scope cl C env)) (fun y s' => WentG h₀ L m { s with heap := h, toks := tk } I oI C oC D (lst ys) (Inv (i + 1) (ys ++ [y])) s') E' { s with heap := h, toks := tk })
    (hS : ∀ i ys nw, Inv i ys nw → S nw) (fin : ∀ ys nw, Inv n ys nw → Fin ys nw) : ∀ k i ys nw, i + k = n → Inv i ys nw → CompRestP prog w A h₀ L m env elt x x₂ scope cl s S P Fin k i ys nw
  | 0, i, ys, nw, e, hi => fin ys nw (by have : i = n := by omega
                                         rw [← this]; exact hi)
  | k + 1, i, ys, nw, e, hi => CompRestP.succ fun v hv => by
      obtain ⟨t, ot, v₁, v₂, nt, e1, e2, e3, e4, h⟩ := turn i ys nw v (by omega) hi hv
      refine ⟨t, ot, v₁, v₂, nt, e1, e2, e3, e4, fun I oI C oC D m₂ hh tk E' hC hx hx2 F N off ne => ?_⟩
      refine wpAny_mono (h I oI C oC D m₂ hh tk E' hC hx hx2 F N off ne) (fun y s' ⟨h', tk', nw', e', F', N', off', hi'⟩ => ?_) fun _ _ q => q
      subst e'
      exact ⟨h', tk', nw', rfl, F', N', off', hS _ _ _ hi', restP_grow Inv turn hS fin k (i + 1) (ys ++ [y]) nw' (by omega) hi'⟩
end
end Pair0_
section THk_
open PySem PySem.W PySem.Spec PySem.Calls PyProof.Rows
theorem rowH_at {R : List HCell} {i : Nat} {v : Value} (hv : (rowH R).toArray[i]? = some v) : ∃ c, R[i]? = some c ∧ v = .ref c.a := by
  have hv' : (rowH R)[i]? = some v := by simpa using hv
  unfold rowH at hv'
  rw [List.getElem?_map] at hv'
  cases e : R[i]? with
  | none => rw [e] at hv'; cases hv'
  | some c => rw [e] at hv'; exact ⟨c, rfl, (Option.some.inj hv').symm⟩
set_option maxRecDepth 100000 in
set_option maxHeartbeats 8000000 in
theorem hkeys (w : World) (H d l : Addr) (R : List HCell) (kt : Tok) (hlen : R.length ≤ 100) :
   Ctr w 4 155 [.ref H] (shelfL w H d l R kt) (fun ns r => ∃ new, ns = new ++ shelfL w H d l R kt ∧ ∃ D, r = .ref D ∧ new = [(D, LCg.lst (R.map fun c => Value.str (NM c.n) c.tk))]) := by
  k_with_none
  (k_with "ite" => (k_closed; first | ((with_reducible refine ite_neg ?ci ?_); (case ci => decide)) | ((with_reducible refine ite_pos ?ci ?_); (case ci => decide))))
  (k_with "FinE" => ((unfold LCg.FinE); intro D' h' tk' F' N' o1'; (try simp only [List.nil_append, List.cons_append] at N'); (try dsimp only)))
  (k_with "FinA" => ((unfold LCg.FinA); intro D' h' tk' F' N' o1'; (try simp only [List.nil_append, List.cons_append] at N'); (try dsimp only)))
  (k_with "eval Name" => ((with_reducible show wpAny _ _ (eval (Expr.Name _ _) (compEnvC _ _ _ _)) _ _ _); k_dflt (first
  | (refine' LCgL.ld_own ?N ?m ?C ?x ?_ ?a ?b; (case a => rfl); (case b => rfl); (case N => k_asm); (case m => k_mem); (case C => assumption); (case x => assumption); k_whole)
  | (refine' lcf_cell ?N ?c ?m ?d ?_ ?a ?b; (case a => rfl); (case b => rfl); (case N => k_asm); (case c => rfl); (case m => k_mem); (case d => k_asm); k_whole)
  | (refine' LCgL.ld_global ?F ?X ?T ?e ?_ ?g ?a ?b; (case a => rfl); (case b => rfl); (case g => rfl); (case F => k_asm); (case X => k_asm); (case T => k_asm); (case e => k_is); k_whole)
  | (refine' lcf_free ?N ?c ?m ?d ?_ ?a ?b; (case a => rfl); (case b => rfl); (case N => k_asm); (case c => rfl); (case m => k_mem); (case d => k_asm); k_whole))))
  (k_with "eval ListComp" => ((with_reducible show wpAny _ _ (eval (Expr.ListComp _ [Comprehension.mk (Expr.Name _ _) _ [] _] _ _) _) _ _ _); k_dflt (refine LCg.ListComp_U (F₀ := by k_asm) (by with_unfolding_all rfl) (by decide) (by rfl) (by decide) (by rfl) ?_)))
  (k_with "exec Assign cons ListComp" => ((with_reducible show wpAny _ _ (exec (Stmt.Assign [Expr.Name _ _] (Expr.ListComp _ [Comprehension.mk (Expr.Name _ _) _ [] _] _ _) _) _) _ _ _); k_dflt (refine LCg.Assign_ListComp_U (F₀ := by k_asm) (by rfl) (by with_unfolding_all rfl) (by with_unfolding_all rfl) (by decide) (by rfl) (by decide) (by rfl) (by rfl) (by rfl) ?_)))
  (k_with "eval ListComp" => ((with_reducible show wpAny _ _ (eval (Expr.ListComp _ [Comprehension.mk (Expr.Name _ _) _ [_] _] _ _) _) _ _ _); k_dflt (refine LCt.ListComp_T (F₀ := by k_asm) (by with_unfolding_all rfl) (by decide) (by rfl) (by decide) (by rfl) ?_)))
  (k_with "exec Assign cons ListComp" => ((with_reducible show wpAny _ _ (exec (Stmt.Assign [Expr.Name _ _] (Expr.ListComp _ [Comprehension.mk (Expr.Name _ _) _ [_] _] _ _) _) _) _ _ _); k_dflt (refine LCt.Assign_ListComp_T (F₀ := by k_asm) (by rfl) (by with_unfolding_all rfl) (by with_unfolding_all rfl) (by decide) (by rfl) (by decide) (by rfl) (by rfl) (by rfl) ?_)))
  (k_with "CompSrc" => (k_here; k_dflt (first
  | (refine LCg.CompSrc.ledger (by rfl) (by k_asm) (by k_asm) (by k_mem) (by first | size_fits | exact Nat.le_of_ble_eq_true rfl) ?_; intro g'; lcg_lit)
  | (refine LCg.CompSrc.range (by rfl) (by k_asm) (by k_asm) (by assumption) (by first | decide | rfl) (by first | rfl | decide) (by first | size_fits | exact Nat.le_of_ble_eq_true rfl) ?_; intro g'; lcg_lit))))
  (k_with "eval ListComp" => ((with_reducible show wpAny _ _ (eval (Expr.ListComp _ [Comprehension.mk (Expr.Tuple [Expr.Name _ _, Expr.Name _ _] _ _) _ [] _] _ _) _) _ _ _); k_dflt (refine LCp.ListComp_P (F₀ := by k_asm) (by with_unfolding_all rfl) (by decide) (by rfl) (by decide) (by rfl) (by rfl) (by decide) ?_)))
  (k_with "SrcLP" => (refine unhold ?_))
  k_dflt (refine' ctr_plain ?k0 ?ko ?kB ?kS ?kc ?kb ?kl ?c1 ?c2 ?c3 ?c4 ?_; (case k0 => decide); (case ko => k_is); (case kB => conv => lhs; whnf); (case kS => conv => lhs; whnf); (case kc => k_is); (case kb => intro _ kX; first | exact BindsTo.of_eq rfl | exact kp_binds kX (fun _ => rfl)); (case kl => exact locs rfl); (case c1 => exact rfl); (case c2 => exact rfl); (case c3 => exact rfl); (case c4 => decide); k_whole)
  intro pr loose mean mg mb dp un gd cn cs Lc ac ccd clo outer base g L' h₁ s tk F' N' B' X' T' hd hu
  (try dsimp only); (try k_unmd); k_fold
  k_steps
  unfold Hold
  (rename News _ _ _ _ => lN')
  have hz : (rowH R).length ≤ 100 := by simpa [rowH] using hlen
  refine LCp.SrcLP.ledger (its := (rowH R).toArray) rfl (by k_asm) lN' (.tail _ (.tail _ (.head _))) ?_ ?_
  · rw [List.size_toArray]; unfold sizeLine; omega
  intro g'
  refine restP_grow (n := (rowH R).length) (fun i ys nw => ys = (R.take i).map (fun c => Value.str (NM c.n) c.tk) ∧ nw = shelfL w H d l R kt) ?turn ?src ?fin _ 0 [] _ (Nat.zero_add _) ⟨rfl, rfl⟩
  case src =>
    rintro i ys nw ⟨rfl, rfl⟩
    exact .inr ⟨_, .tail _ (.tail _ (.head _)), rfl, _, rfl⟩
  case turn =>
    rintro i ys nw v hi ⟨rfl, rfl⟩ hv
    clear lN'
    obtain ⟨c, hc, rfl⟩ := rowH_at hv
    refine ⟨c.a, c.led.2, .str (NM c.n) c.tk, .str c.v c.tv, c.c, rfl, .tail _ (.tail _ (.tail _ (show c.led ∈ R.map HCell.led from List.mem_map_of_mem (List.mem_of_getElem? hc)))), rfl, rfl, ?_⟩
    intro I oI C oC D m₂ h tk E' hC hx hx2 F N off ne
    k_steps
    refine ⟨_, _, _, rfl, by assumption, N, off, ?_, rfl⟩
    rw [List.take_add_one, hc, List.map_append]
    rfl
  case fin =>
    rintro ys nw ⟨rfl, rfl⟩
    clear lN'
    have e : R.take (rowH R).length = R := List.take_of_length_le (by simp [rowH])
    rw [e]
    k_steps
    (show Fin _ _ _ _ _ _; try dsimp only)
    exact fin_ret (by assumption) (by assumption) [_] (fun p hp => hp) ⟨_, rfl, rfl⟩
end THk_
section THc_
open PySem PySem.W PySem.Spec PySem.Calls PyProof.Rows
theorem call_kw {M : Model} {A : Around} {f : Value} {vs : List Value} {kws kws' : List (Str × Value)} {Q E : Value → Shared → Prop} {s : Shared} (e : kws' = kws) (h : wpAny M A (call f vs kws) Q E s) : wpAny M A (call f vs kws') Q E s := e ▸ h
set_option maxRecDepth 100000 in
set_option maxHeartbeats 8000000 in
theorem hconvT (w : World) (H : Addr) (x : Str) (t : Tok) (hf : Fine x) (hz : x.cps.size ≤ 1000) :
   CtrK w 2 102 [.ref H, .str x t] [(Str.ofString "name", .bool true)] [] (fun ns r => ∃ new, ns = new ++ [] ∧ new = [] ∧ r = .str x t) := by
  k_with_none
  (k_with "ite" => (k_closed; first | ((with_reducible refine ite_neg ?ci ?_); (case ci => decide)) | ((with_reducible refine ite_pos ?ci ?_); (case ci => decide))))
  (k_with "FinE" => ((unfold LCg.FinE); intro D' h' tk' F' N' o1'; (try simp only [List.nil_append, List.cons_append] at N'); (try dsimp only)))
  (k_with "FinA" => ((unfold LCg.FinA); intro D' h' tk' F' N' o1'; (try simp only [List.nil_append, List.cons_append] at N'); (try dsimp only)))
  (k_with "eval Name" => ((with_reducible show wpAny _ _ (eval (Expr.Name _ _) (compEnvC _ _ _ _)) _ _ _); k_dflt (first
  | (refine' LCgL.ld_own ?N ?m ?C ?x ?_ ?a ?b; (case a => rfl); (case b => rfl); (case N => k_asm); (case m => k_mem); (case C => assumption); (case x => assumption); k_whole)
  | (refine' lcf_cell ?N ?c ?m ?d ?_ ?a ?b; (case a => rfl); (case b => rfl); (case N => k_asm); (case c => rfl); (case m => k_mem); (case d => k_asm); k_whole)
  | (refine' LCgL.ld_global ?F ?X ?T ?e ?_ ?g ?a ?b; (case a => rfl); (case b => rfl); (case g => rfl); (case F => k_asm); (case X => k_asm); (case T => k_asm); (case e => k_is); k_whole)
  | (refine' lcf_free ?N ?c ?m ?d ?_ ?a ?b; (case a => rfl); (case b => rfl); (case N => k_asm); (case c => rfl); (case m => k_mem); (case d => k_asm); k_whole))))
  (k_with "eval ListComp" => ((with_reducible show wpAny _ _ (eval (Expr.ListComp _ [Comprehension.mk (Expr.Name _ _) _ [] _] _ _) _) _ _ _); k_dflt (refine LCg.ListComp_U (F₀ := by k_asm) (by with_unfolding_all rfl) (by decide) (by rfl) (by decide) (by rfl) ?_)))
  (k_with "exec Assign cons ListComp" => ((with_reducible show wpAny _ _ (exec (Stmt.Assign [Expr.Name _ _] (Expr.ListComp _ [Comprehension.mk (Expr.Name _ _) _ [] _] _ _) _) _) _ _ _); k_dflt (refine LCg.Assign_ListComp_U (F₀ := by k_asm) (by rfl) (by with_unfolding_all rfl) (by with_unfolding_all rfl) (by decide) (by rfl) (by decide) (by rfl) (by rfl) (by rfl) ?_)))
  (k_with "eval ListComp" => ((with_reducible show wpAny _ _ (eval (Expr.ListComp _ [Comprehension.mk (Expr.Name _ _) _ [_] _] _ _) _) _ _ _); k_dflt (refine LCt.ListComp_T (F₀ := by k_asm) (by with_unfolding_all rfl) (by decide) (by rfl) (by decide) (by rfl) ?_)))
  (k_with "exec Assign cons ListComp" => ((with_reducible show wpAny _ _ (exec (Stmt.Assign [Expr.Name _ _] (Expr.ListComp _ [Comprehension.mk (Expr.Name _ _) _ [_] _] _ _) _) _) _ _ _); k_dflt (refine LCt.Assign_ListComp_T (F₀ := by k_asm) (by rfl) (by with_unfolding_all rfl) (by with_unfolding_all rfl) (by decide) (by rfl) (by decide) (by rfl) (by rfl) (by rfl) ?_)))
  (k_with "CompSrc" => (k_here; k_dflt (first
  | (refine LCg.CompSrc.ledger (by rfl) (by k_asm) (by k_asm) (by k_mem) (by first | size_fits | exact Nat.le_of_ble_eq_true rfl) ?_; intro g'; lcg_lit)
  | (refine LCg.CompSrc.range (by rfl) (by k_asm) (by k_asm) (by assumption) (by first | decide | rfl) (by first | rfl | decide) (by first | size_fits | exact Nat.le_of_ble_eq_true rfl) ?_; intro g'; lcg_lit))))
  (k_with "getMethod ref" => ((with_reducible show wpAny _ _ (getMethod (Value.ref 75) _ _) _ _ _); k_dflt (refine' get_name_re ?X ?F ?_; (case X => with_reducible assumption); (case F => k_asm); k_whole)))
  (k_with "getMethod ref" => ((with_reducible show wpAny _ _ (getMethod (Value.ref 80) _ _) _ _ _); k_dflt (refine' get_val_re ?X ?F ?_; (case X => with_reducible assumption); (case F => k_asm); k_whole)))
  (k_with "call builtin:re.Pattern.search" => ((with_reducible show wpAny _ _ (call (Value.builtin "re.Pattern.search") [Value.ref 75, Value.str _ _]) _ _ _); k_dflt (refine' call_name_re ?X ?F ?x ?z ?_; (case X => with_reducible assumption); (case F => k_asm); (case x => assumption); (case z => assumption); k_whole)))
  (k_with "call builtin:re.Pattern.search" => ((with_reducible show wpAny _ _ (call (Value.builtin "re.Pattern.search") [Value.ref 80, Value.str _ _]) _ _ _); k_dflt (refine' call_val_re ?X ?F ?x ?z ?_; (case X => with_reducible assumption); (case F => k_asm); (case x => assumption); (case z => assumption); k_whole)))
  k_dflt (refine' ctr_plain ?k0 ?ko ?kB ?kS ?kc ?kb ?kl ?c1 ?c2 ?c3 ?c4 ?_; (case k0 => decide); (case ko => k_is); (case kB => conv => lhs; whnf); (case kS => conv => lhs; whnf); (case kc => k_is); (case kb => intro _ kX; first | exact BindsTo.of_eq rfl | exact kp_binds kX (fun _ => rfl)); (case kl => exact locs rfl); (case c1 => exact rfl); (case c2 => exact rfl); (case c3 => exact rfl); (case c4 => decide); k_whole)
  intro pr loose mean mg mb dp un gd cn cs Lc ac ccd clo outer base g L' h₁ s tk F' N' B' X' T' hd hu
  (try dsimp only); (try k_unmd); k_fold
  k_steps
  (show Fin _ _ _ _ _ _; try dsimp only)
  exact fin_ret (by assumption) (by assumption) [] (by lcg_sub) ⟨rfl, rfl⟩
set_option maxRecDepth 100000 in
set_option maxHeartbeats 8000000 in
theorem hconvF (w : World) (H : Addr) (x : Str) (t : Tok) (hf : Fine x) (hz : x.cps.size ≤ 1000) :
   CtrK w 2 102 [.ref H, .str x t] [(Str.ofString "name", .bool false)] [] (fun ns r => ∃ new, ns = new ++ [] ∧ new = [] ∧ r = .str x t) := by

  k_dflt (refine' ctr_plain ?k0 ?ko ?kB ?kS ?kc ?kb ?kl ?c1 ?c2 ?c3 ?c4 ?_; (case k0 => decide); (case ko => k_is); (case kB => conv => lhs; whnf); (case kS => conv => lhs; whnf); (case kc => k_is); (case kb => intro _ kX; first | exact BindsTo.of_eq rfl | exact kp_binds kX (fun _ => rfl)); (case kl => exact locs rfl); (case c1 => exact rfl); (case c2 => exact rfl); (case c3 => exact rfl); (case c4 => decide); k_whole)
  intro pr loose mean mg mb dp un gd cn cs Lc ac ccd clo outer base g L' h₁ s tk F' N' B' X' T' hd hu
  (try dsimp only); (try k_unmd); k_fold
  k_steps
  (show Fin _ _ _ _ _ _; try dsimp only)
  exact fin_ret (by assumption) (by assumption) [] (by lcg_sub) ⟨rfl, rfl⟩
end THc_
section THg_
open PySem PySem.W PySem.Spec PySem.Calls PyProof.Rows
theorem fr_kv {h₀ h : Heap} {L : Addr} {m m' : Str → Option Value} (F : Fr h₀ L h m) (e : m = m') : Fr h₀ L h m' := e ▸ F
noncomputable def getJ (own : Led) (m₀ : Str → Option Value) (R : List HCell) (q : Nat) (i : Nat) (m₁ : Str → Option Value) (nw : Led) : Prop :=
  nw = own ∧ (∃ uu vv : Str → Option Value, m₁ = fun y => if y = Str.ofString "v" then uu y else if y = Str.ofString "k" then vv y else m₀ y) ∧ ∀ c ∈ R.take i, c.n ≠ q
theorem getJ_start {own : Led} {m₀ : Str → Option Value} {R : List HCell} {q : Nat} : getJ own m₀ R q 0 m₀ own :=
  ⟨rfl, ⟨m₀, m₀, by funext y; split <;> (try split) <;> rfl⟩, fun c hc => (nomatch hc)⟩
theorem lookH_hit {R : List HCell} {q i : Nat} {c : HCell} (h : R[i]? = some c) (hj : ∀ c ∈ R.take i, c.n ≠ q) (hc : c.n = q) : Value.str c.v c.tv = lookH R q := by
  have e : R.find? (fun c => c.n == q) = some c := by
    have hi : i < R.length := by
      rcases Nat.lt_or_ge i R.length with h1 | h1
      · exact h1
      · rw [List.getElem?_eq_none h1] at h; cases h
    have e1 : R = R.take i ++ c :: R.drop (i + 1) := by
      have : R.drop i = c :: R.drop (i + 1) := by
        rw [List.drop_eq_getElem_cons hi]
        rw [List.getElem?_eq_getElem hi] at h
        rw [Option.some.inj h]
      rw [← this, List.take_append_drop]
    rw [e1, List.find?_append, List.find?_eq_none.mpr (fun x hx => by simpa using hj x hx)]
    simp [hc]
  unfold lookH
  rw [e]
theorem lookH_miss {R : List HCell} {q n : Nat} (hn : R.length ≤ n) (hj : ∀ c ∈ R.take n, c.n ≠ q) : Value.none = lookH R q := by
  rw [List.take_of_length_le hn] at hj
  unfold lookH
  rw [List.find?_eq_none.mpr (fun x hx => by simpa using hj x hx)]
theorem getJ_next {own : Led} {m₀ uu vv : Str → Option Value} {R : List HCell} {q i : Nat} {c : HCell} {a b : Option Value} (h : R[i]? = some c) (hj : ∀ c ∈ R.take i, c.n ≠ q) (hc : c.n ≠ q) :
    getJ own m₀ R q (i + 1) (fun y => if y = Str.ofString "v" then a else if y = Str.ofString "k" then b else (if y = Str.ofString "v" then uu y else if y = Str.ofString "k" then vv y else m₀ y)) own := by
  refine ⟨rfl, ⟨fun _ => a, fun _ => b, ?_⟩, fun x hx => ?_⟩
  · funext y
    by_cases h1 : y = Str.ofString "v"
    · simp [h1]
    · by_cases h2 : y = Str.ofString "k"
      · simp [h1, h2]
      · simp [h1, h2]
  · rw [List.take_add_one, h] at hx
    rcases List.mem_append.mp hx with hx | hx
    · exact hj x hx
    · have : x = c := by simpa using hx
      rw [this]; exact hc
set_option maxRecDepth 100000 in
set_option maxHeartbeats 8000000 in
theorem hget (w : World) (H d l : Addr) (R : List HCell) (kt : Tok) (x : Str) (t : Tok) (q : Nat) (hq : q < 8) (hR : ∀ c ∈ R, c.n < 8) (hx : Txt.lower x = LN q) (hlen : R.length ≤ 100) :
   Ctr w 6 150 [.ref H, .str x t] (shelfL w H d l R kt) (fun ns r => ∃ new, ns = new ++ shelfL w H d l R kt ∧ new = [] ∧ r = lookH R q) := by
  have hx2 : Builtin.Str.tooLong (Txt.lower x).length = false := by rw [hx]; exact ln_long q hq
  have hf := ln_fine q hq
  have hz := ln_size q hq
  k_with_none
  (k_with "ite" => (k_closed; first | ((with_reducible refine ite_neg ?ci ?_); (case ci => decide)) | ((with_reducible refine ite_pos ?ci ?_); (case ci => decide))))
  (k_with "FinE" => ((unfold LCg.FinE); intro D' h' tk' F' N' o1'; (try simp only [List.nil_append, List.cons_append] at N'); (try dsimp only)))
  (k_with "FinA" => ((unfold LCg.FinA); intro D' h' tk' F' N' o1'; (try simp only [List.nil_append, List.cons_append] at N'); (try dsimp only)))
  (k_with "eval Name" => ((with_reducible show wpAny _ _ (eval (Expr.Name _ _) (compEnvC _ _ _ _)) _ _ _); k_dflt (first
  | (refine' LCgL.ld_own ?N ?m ?C ?x ?_ ?a ?b; (case a => rfl); (case b => rfl); (case N => k_asm); (case m => k_mem); (case C => assumption); (case x => assumption); k_whole)
  | (refine' lcf_cell ?N ?c ?m ?d ?_ ?a ?b; (case a => rfl); (case b => rfl); (case N => k_asm); (case c => rfl); (case m => k_mem); (case d => k_asm); k_whole)
  | (refine' LCgL.ld_global ?F ?X ?T ?e ?_ ?g ?a ?b; (case a => rfl); (case b => rfl); (case g => rfl); (case F => k_asm); (case X => k_asm); (case T => k_asm); (case e => k_is); k_whole)
  | (refine' lcf_free ?N ?c ?m ?d ?_ ?a ?b; (case a => rfl); (case b => rfl); (case N => k_asm); (case c => rfl); (case m => k_mem); (case d => k_asm); k_whole))))
  (k_with "eval ListComp" => ((with_reducible show wpAny _ _ (eval (Expr.ListComp _ [Comprehension.mk (Expr.Name _ _) _ [] _] _ _) _) _ _ _); k_dflt (refine LCg.ListComp_U (F₀ := by k_asm) (by with_unfolding_all rfl) (by decide) (by rfl) (by decide) (by rfl) ?_)))
  (k_with "exec Assign cons ListComp" => ((with_reducible show wpAny _ _ (exec (Stmt.Assign [Expr.Name _ _] (Expr.ListComp _ [Comprehension.mk (Expr.Name _ _) _ [] _] _ _) _) _) _ _ _); k_dflt (refine LCg.Assign_ListComp_U (F₀ := by k_asm) (by rfl) (by with_unfolding_all rfl) (by with_unfolding_all rfl) (by decide) (by rfl) (by decide) (by rfl) (by rfl) (by rfl) ?_)))
  (k_with "eval ListComp" => ((with_reducible show wpAny _ _ (eval (Expr.ListComp _ [Comprehension.mk (Expr.Name _ _) _ [_] _] _ _) _) _ _ _); k_dflt (refine LCt.ListComp_T (F₀ := by k_asm) (by with_unfolding_all rfl) (by decide) (by rfl) (by decide) (by rfl) ?_)))
  (k_with "exec Assign cons ListComp" => ((with_reducible show wpAny _ _ (exec (Stmt.Assign [Expr.Name _ _] (Expr.ListComp _ [Comprehension.mk (Expr.Name _ _) _ [_] _] _ _) _) _) _ _ _); k_dflt (refine LCt.Assign_ListComp_T (F₀ := by k_asm) (by rfl) (by with_unfolding_all rfl) (by with_unfolding_all rfl) (by decide) (by rfl) (by decide) (by rfl) (by rfl) (by rfl) ?_)))
  (k_with "CompSrc" => (k_here; k_dflt (first
  | (refine LCg.CompSrc.ledger (by rfl) (by k_asm) (by k_asm) (by k_mem) (by first | size_fits | exact Nat.le_of_ble_eq_true rfl) ?_; intro g'; lcg_lit)
  | (refine LCg.CompSrc.range (by rfl) (by k_asm) (by k_asm) (by assumption) (by first | decide | rfl) (by first | rfl | decide) (by first | size_fits | exact Nat.le_of_ble_eq_true rfl) ?_; intro g'; lcg_lit))))
  (k_with "getMethod ref" => ((with_reducible show wpAny _ _ (getMethod (Value.ref 75) _ _) _ _ _); k_dflt (refine' get_name_re ?X ?F ?_; (case X => with_reducible assumption); (case F => k_asm); k_whole)))
  (k_with "getMethod ref" => ((with_reducible show wpAny _ _ (getMethod (Value.ref 80) _ _) _ _ _); k_dflt (refine' get_val_re ?X ?F ?_; (case X => with_reducible assumption); (case F => k_asm); k_whole)))
  (k_with "call builtin:re.Pattern.search" => ((with_reducible show wpAny _ _ (call (Value.builtin "re.Pattern.search") [Value.ref 75, Value.str _ _]) _ _ _); k_dflt (refine' call_name_re ?X ?F ?x ?z ?_; (case X => with_reducible assumption); (case F => k_asm); (case x => assumption); (case z => assumption); k_whole)))
  (k_with "call builtin:re.Pattern.search" => ((with_reducible show wpAny _ _ (call (Value.builtin "re.Pattern.search") [Value.ref 80, Value.str _ _]) _ _ _); k_dflt (refine' call_val_re ?X ?F ?x ?z ?_; (case X => with_reducible assumption); (case F => k_asm); (case x => assumption); (case z => assumption); k_whole)))
  (k_with "call builtin:str.lower" => (k_here; (with_reducible show wpAny _ _ (call (Value.builtin "str.lower") [Value.str _ _]) _ _ _); (refine KXw.lower (by assumption) (by assumption) ?_); intro _ _))
  (k_with "call ref" => ((with_reducible show wpAny _ _ (call (Value.ref 102) [_, Value.str _ _] (List.zip _ [Value.bool true])) _ _ _); k_dflt (refine' call_kw (kws := [(Str.ofString "name", Value.bool true)]) ?e ?_; (case e => with_unfolding_all rfl); refine' ctr_call (hconvT _ _ _ _ ?c1 ?c2) ?hK ?B ?F ?X ?N ?S ?T ?hk ?hd ?hu ?_; (case hd => assumption); (case hu => assumption); (case hK => decide); (case B => with_reducible assumption); (case F => k_asm); (case X => with_reducible assumption); (case N => k_asm); (case S => first | (intro kp hp; exact hp) | lcg_sub); (case T => with_reducible assumption); (case hk => exact rfl); (case c1 => assumption); (case c2 => assumption); intro r9 ns9 h9 tk9 F9 N9 o9; obtain ⟨e9, e10⟩ := o9; subst e9; subst e10; (try dsimp only [List.nil_append] at N9); (try dsimp only); (try k_fold))))
  (k_with "exec" => ((with_reducible show wpAny _ _ (exec (Stmt.For (Expr.Tuple _ _ _) (Expr.Attribute _ _ _) _ _ _) _) _ _ _); (rename Fr _ _ _ _ => lF'); k_dflt (refine' For_turns lF' ?_ ?hs ?hE; (case hs => (intro _; rfl)); (case hE => exact PassesOwn.never); k_whole)))
  (k_with "pyIter ref" => ((with_reducible show wpAny _ _ (pyIter (Value.ref _)) (fun it s₂ => TurnsAt _ _ _ _ _ _ _ _ _ it s₂) _ _); refine unhold ?_))
  k_dflt (refine' ctr_plain ?k0 ?ko ?kB ?kS ?kc ?kb ?kl ?c1 ?c2 ?c3 ?c4 ?_; (case k0 => decide); (case ko => k_is); (case kB => conv => lhs; whnf); (case kS => conv => lhs; whnf); (case kc => k_is); (case kb => intro _ kX; first | exact BindsTo.of_eq rfl | exact kp_binds kX (fun _ => rfl)); (case kl => exact locs rfl); (case c1 => exact rfl); (case c2 => exact rfl); (case c3 => exact rfl); (case c4 => decide); k_whole)
  intro pr loose mean mg mb dp un gd cn cs Lc ac ccd clo outer base g L' h₁ s tk F' N' B' X' T' hd hu
  (try dsimp only); (try k_unmd); k_fold
  k_steps
  unfold Hold
  (rename Fr _ _ _ _ => lF'); (rename News _ _ _ _ => lN')
  refine' iter_listTurns (vs := rowH R) rfl lF' lN' (.tail _ (.tail _ (.head _))) rfl rfl (fun I hI => items_inv (getJ _ _ R q) (rowH R) ?turn ?done (rowH R).length 0 _ _ (Nat.zero_add _) getJ_start)
  case turn =>
    rintro i v m₁ nw h tk oI hv ⟨rfl, ⟨uu, vv, rfl⟩, hj⟩ hoI F N
    clear lF' lN'
    obtain ⟨c, hc, rfl⟩ : ∃ c, R[i]? = some c ∧ v = .ref c.a := by
      unfold rowH at hv
      rw [List.getElem?_map] at hv
      cases e : R[i]? with
      | none => rw [e] at hv; cases hv
      | some c => rw [e] at hv; exact ⟨c, rfl, (Option.some.inj hv).symm⟩
    have hm : c ∈ R := List.mem_of_getElem? hc
    have hn := hR c hm
    have e1 : Txt.lower (NM c.n) = LN c.n := rfl
    have e2 := ln_long c.n hn
    have N2 : News g L' h ((c.a, tup #[.str (NM c.n) c.tk, .str c.v c.tv] c.c) :: (I, oI) :: shelfL w H d l R kt) := fun p hp => by
      rcases List.mem_cons.mp hp with rfl | hp
      · exact N c.led (.tail _ (.tail _ (.tail _ (.tail _ (List.mem_map_of_mem hm)))))
      · exact N p hp
    clear N
    k_steps
    · rename_i hc2
      refine fin_ret (by assumption) (by assumption) [] ?hs ⟨rfl, lookH_hit hc hj ?hq⟩
      case hs => exact fun p hp => .tail _ (.tail _ hp)
      case hq =>
        rw [ln_eq _ hn _ hq] at hc2
        exact beq_iff_eq.mp hc2
    · rename_i hc2
      refine ⟨_, _, _, _, rfl, by assumption, fun p hp => ?hN, ?off, ⟨.tail _ (.tail _ (.head _)), trivial⟩, getJ_next hc hj ?hq⟩
      case hN => exact ‹News _ _ _ ((c.a, _) :: _)› p (.tail _ hp)
      case off => exact fun p hp q hq => by rw [List.mem_singleton.mp hq]; exact Nat.ne_of_lt (hI p hp)
      case hq =>
        rw [ln_eq _ hn _ hq] at hc2
        exact fun e => absurd (beq_iff_eq.mpr e) (by rw [hc2]; exact Bool.false_ne_true)
  case done =>
    rintro m₁ nw h tk ⟨rfl, ⟨uu, vv, rfl⟩, hj⟩ F N
    clear lF' lN'
    k_steps
    (show Fin _ _ _ _ _ _; try dsimp only)
    exact fin_ret (by assumption) (by assumption) [] (fun p hp => hp) ⟨rfl, lookH_miss (by simp [rowH]) hj⟩
theorem hgetV (w : World) (H d l : Addr) (R : List HCell) (kt : Tok) (x : Str) (t : Tok) (q : Nat) (v : Value) (hv : lookH R q = v) (hq : q < 8) (hR : ∀ c ∈ R, c.n < 8) (hx : Txt.lower x = LN q) (hlen : R.length ≤ 100) :
   Ctr w 6 150 [.ref H, .str x t] (shelfL w H d l R kt) (fun ns r => ∃ new, ns = new ++ shelfL w H d l R kt ∧ new = [] ∧ r = v) := by
  subst hv
  exact hget w H d l R kt x t q hq hR hx hlen
end THg_
section THs_
open PySem PySem.W PySem.Spec PySem.Calls PyProof.Rows
theorem cls_ne {g h : Heap} {L a b : Addr} {o o' : Obj} {news : Led} (N : News g L h news) (h1 : (a, o) ∈ news) (h2 : (b, o') ∈ news) (hc : o.cls ≠ o'.cls) : a ≠ b := by
  intro e
  have x := (N _ h1).1
  have y := (N _ h2).1
  have e' : (a, o).1 = (b, o').1 := e
  rw [e'] at x
  exact hc (congrArg Obj.cls (Option.some.inj (x.symm.trans y)))
theorem append_hcell {prog : Program} {w : World} {A : Around} {E : Value → Shared → Prop} {s : Shared} {g : Heap} {L : Addr} {m : Str → Option Value} {Q : Value → Shared → Prop} {H d l a : Addr} {R : List HCell} {kt t tv : Tok} {q c : Nat} {v : Str}
    (F : Fr g L s.heap m) (N : News g L s.heap ((a, tup #[.str (NM q) t, .str v tv] c) :: shelfL w H d l R kt)) (hlen : R.length ≤ 100)
    (h : ∀ h', Fr g L h' m → News g L h' (shelfL w H d l (R ++ [(⟨a, q, v, t, tv, c⟩ : HCell)]) kt) → Q .none { s with heap := h' }) : wpAny (model prog w) A (call (.builtin "list.append") [.ref l, .ref a]) Q E s := by
  have hl : (l, LCg.lst (rowH R)) ∈ (a, tup #[.str (NM q) t, .str v tv] c) :: shelfL w H d l R kt := .tail _ (.tail _ (.tail _ (.head _)))
  refine append_keep F N hl ((H, instObj 203 d) :: (d, dictOf [{ hash := PyData.keyHash w.params (Str.ofString "_headers"), key := Value.str (Str.ofString "_headers") kt, val := Value.ref l }] 1) :: (R ++ [(⟨a, q, v, t, tv, c⟩ : HCell)]).map HCell.led) (fun p hp => ?_) ?_ fun h' F' N' => h h' F' fun p hp => N' p ?_
  · rcases List.mem_cons.mp hp with rfl | hp
    · exact ⟨.tail _ (.head _), cls_ne N (.tail _ (.head _)) hl (fun e => by injection e)⟩
    · rcases List.mem_cons.mp hp with rfl | hp
      · exact ⟨.tail _ (.tail _ (.head _)), cls_ne N (.tail _ (.tail _ (.head _))) hl (fun e => by injection e with e; exact absurd e (by decide))⟩
      · obtain ⟨x, hx, rfl⟩ := List.mem_map.mp hp
        have hx2 : x.led ∈ (a, tup #[.str (NM q) t, .str v tv] c) :: shelfL w H d l R kt := by
          rcases List.mem_append.mp hx with hx | hx
          · exact .tail _ (.tail _ (.tail _ (.tail _ (List.mem_map_of_mem hx))))
          · rw [List.mem_singleton.mp hx]; exact .head _
        exact ⟨hx2, cls_ne N hx2 hl (fun e => by injection e with e; exact absurd e (by decide))⟩
  · show (rowH R).toArray.size ≤ _
    rw [List.size_toArray]
    unfold rowH sizeLine
    rw [List.length_map]
    omega
  · rcases List.mem_cons.mp hp with rfl | hp
    · exact .tail _ (.head _)
    · rcases List.mem_cons.mp hp with rfl | hp
      · exact .tail _ (.tail _ (.head _))
      · rcases List.mem_cons.mp hp with rfl | hp
        · have e : LCg.lst (rowH (R ++ [(⟨a, q, v, t, tv, c⟩ : HCell)])) = listOf ((rowH R).toArray.push (.ref a)) ((rowH R).length + 1) := by
            rw [show rowH (R ++ [(⟨a, q, v, t, tv, c⟩ : HCell)]) = rowH R ++ [.ref a] by simp [rowH]]
            exact (LCg.lst_snoc (rowH R) (.ref a)).symm
          rw [e]
          exact .head _
        · exact .tail _ (.tail _ (.tail _ hp))
set_option maxRecDepth 100000 in
set_option maxHeartbeats 8000000 in
theorem setd_old (w : World) (H d l : Addr) (R : List HCell) (kt : Tok) (x : Str) (t : Tok) (y : Value) (q : Nat) (v : Str) (tv : Tok) (hv : lookH R q = .str v tv) (hq : q < 8) (hR : ∀ c ∈ R, c.n < 8) (hx : Txt.lower x = LN q) (hlen : R.length ≤ 100) :
   Ctr w 8 193 [.ref H, .str x t, y] (shelfL w H d l R kt) (fun ns r => ∃ new, ns = new ++ shelfL w H d l R kt ∧ new = [] ∧ r = .str v tv) := by
  k_with_none
  (k_with "ite" => (k_closed; first | ((with_reducible refine ite_neg ?ci ?_); (case ci => decide)) | ((with_reducible refine ite_pos ?ci ?_); (case ci => decide))))
  (k_with "FinE" => ((unfold LCg.FinE); intro D' h' tk' F' N' o1'; (try simp only [List.nil_append, List.cons_append] at N'); (try dsimp only)))
  (k_with "FinA" => ((unfold LCg.FinA); intro D' h' tk' F' N' o1'; (try simp only [List.nil_append, List.cons_append] at N'); (try dsimp only)))
  (k_with "eval Name" => ((with_reducible show wpAny _ _ (eval (Expr.Name _ _) (compEnvC _ _ _ _)) _ _ _); k_dflt (first
  | (refine' LCgL.ld_own ?N ?m ?C ?x ?_ ?a ?b; (case a => rfl); (case b => rfl); (case N => k_asm); (case m => k_mem); (case C => assumption); (case x => assumption); k_whole)
  | (refine' lcf_cell ?N ?c ?m ?d ?_ ?a ?b; (case a => rfl); (case b => rfl); (case N => k_asm); (case c => rfl); (case m => k_mem); (case d => k_asm); k_whole)
  | (refine' LCgL.ld_global ?F ?X ?T ?e ?_ ?g ?a ?b; (case a => rfl); (case b => rfl); (case g => rfl); (case F => k_asm); (case X => k_asm); (case T => k_asm); (case e => k_is); k_whole)
  | (refine' lcf_free ?N ?c ?m ?d ?_ ?a ?b; (case a => rfl); (case b => rfl); (case N => k_asm); (case c => rfl); (case m => k_mem); (case d => k_asm); k_whole))))
  (k_with "eval ListComp" => ((with_reducible show wpAny _ _ (eval (Expr.ListComp _ [Comprehension.mk (Expr.Name _ _) _ [] _] _ _) _) _ _ _); k_dflt (refine LCg.ListComp_U (F₀ := by k_asm) (by with_unfolding_all rfl) (by decide) (by rfl) (by decide) (by rfl) ?_)))
  (k_with "exec Assign cons ListComp" => ((with_reducible show wpAny _ _ (exec (Stmt.Assign [Expr.Name _ _] (Expr.ListComp _ [Comprehension.mk (Expr.Name _ _) _ [] _] _ _) _) _) _ _ _); k_dflt (refine LCg.Assign_ListComp_U (F₀ := by k_asm) (by rfl) (by with_unfolding_all rfl) (by with_unfolding_all rfl) (by decide) (by rfl) (by decide) (by rfl) (by rfl) (by rfl) ?_)))
  (k_with "eval ListComp" => ((with_reducible show wpAny _ _ (eval (Expr.ListComp _ [Comprehension.mk (Expr.Name _ _) _ [_] _] _ _) _) _ _ _); k_dflt (refine LCt.ListComp_T (F₀ := by k_asm) (by with_unfolding_all rfl) (by decide) (by rfl) (by decide) (by rfl) ?_)))
  (k_with "exec Assign cons ListComp" => ((with_reducible show wpAny _ _ (exec (Stmt.Assign [Expr.Name _ _] (Expr.ListComp _ [Comprehension.mk (Expr.Name _ _) _ [_] _] _ _) _) _) _ _ _); k_dflt (refine LCt.Assign_ListComp_T (F₀ := by k_asm) (by rfl) (by with_unfolding_all rfl) (by with_unfolding_all rfl) (by decide) (by rfl) (by decide) (by rfl) (by rfl) (by rfl) ?_)))
  (k_with "CompSrc" => (k_here; k_dflt (first
  | (refine LCg.CompSrc.ledger (by rfl) (by k_asm) (by k_asm) (by k_mem) (by first | size_fits | exact Nat.le_of_ble_eq_true rfl) ?_; intro g'; lcg_lit)
  | (refine LCg.CompSrc.range (by rfl) (by k_asm) (by k_asm) (by assumption) (by first | decide | rfl) (by first | rfl | decide) (by first | size_fits | exact Nat.le_of_ble_eq_true rfl) ?_; intro g'; lcg_lit))))
  (k_with "call ref" => ((with_reducible show wpAny _ _ (call (Value.ref 102) [_, Value.str _ _] (List.zip _ [Value.bool true])) _ _ _); k_dflt (refine' call_kw (kws := [(Str.ofString "name", Value.bool true)]) ?e ?_; (case e => with_unfolding_all rfl); refine' ctr_call (hconvT _ _ _ _ ?c1 ?c2) ?hK ?B ?F ?X ?N ?S ?T ?hk ?hd ?hu ?_; (case hd => assumption); (case hu => assumption); (case hK => decide); (case B => with_reducible assumption); (case F => k_asm); (case X => with_reducible assumption); (case N => k_asm); (case S => first | (intro kp hp; exact hp) | lcg_sub); (case T => with_reducible assumption); (case hk => exact rfl); (case c1 => assumption); (case c2 => assumption); intro r9 ns9 h9 tk9 F9 N9 o9; obtain ⟨e9, e10⟩ := o9; subst e9; subst e10; (try dsimp only [List.nil_append] at N9); (try dsimp only); (try k_fold))))
  (k_with "call ref" => ((with_reducible show wpAny _ _ (call (Value.ref 102) [_, Value.str _ _] (List.zip _ [Value.bool false])) _ _ _); k_dflt (refine' call_kw (kws := [(Str.ofString "name", Value.bool false)]) ?e ?_; (case e => with_unfolding_all rfl); refine' ctr_call (hconvF _ _ _ _ ?c1 ?c2) ?hK ?B ?F ?X ?N ?S ?T ?hk ?hd ?hu ?_; (case hd => assumption); (case hu => assumption); (case hK => decide); (case B => with_reducible assumption); (case F => k_asm); (case X => with_reducible assumption); (case N => k_asm); (case S => first | (intro kp hp; exact hp) | lcg_sub); (case T => with_reducible assumption); (case hk => exact rfl); (case c1 => assumption); (case c2 => assumption); intro r9 ns9 h9 tk9 F9 N9 o9; obtain ⟨e9, e10⟩ := o9; subst e9; subst e10; (try dsimp only [List.nil_append] at N9); (try dsimp only); (try k_fold))))
  (k_with "call ref" => ((with_reducible show wpAny _ _ (call (Value.ref 150) [_, Value.str _ _] _) _ _ _); k_dflt (refine' ctr_call (hgetV _ _ _ _ _ _ _ _ _ _ ?c0 ?c1 ?c2 ?c3 ?c4) ?hK ?B ?F ?X ?N ?S ?T ?hk ?hd ?hu ?_; (case hd => assumption); (case hu => assumption); (case hK => decide); (case B => with_reducible assumption); (case F => k_asm); (case X => with_reducible assumption); (case N => k_asm); (case S => (intro kp hp; exact hp)); (case c0 => assumption); (case c1 => assumption); (case c2 => assumption); (case c3 => assumption); (case c4 => assumption); (case T => with_reducible assumption); (case hk => exact rfl); intro r9 ns9 h9 tk9 F9 N9 o9; obtain ⟨e9, e10⟩ := o9; subst e9; subst e10; (try dsimp only [List.nil_append] at N9); (try dsimp only); (try k_fold))))
  (k_with "call builtin:list.append" => ((with_reducible show wpAny _ _ (call (Value.builtin "list.append") [Value.ref _, Value.ref _]) _ _ _); refine unhold ?_))
  k_dflt (refine' ctr_plain ?k0 ?ko ?kB ?kS ?kc ?kb ?kl ?c1 ?c2 ?c3 ?c4 ?_; (case k0 => decide); (case ko => k_is); (case kB => conv => lhs; whnf); (case kS => conv => lhs; whnf); (case kc => k_is); (case kb => intro _ kX; first | exact BindsTo.of_eq rfl | exact kp_binds kX (fun _ => rfl)); (case kl => exact locs rfl); (case c1 => exact rfl); (case c2 => exact rfl); (case c3 => exact rfl); (case c4 => decide); k_whole)
  intro pr loose mean mg mb dp un gd cn cs Lc ac ccd clo outer base g L' h₁ s tk F' N' B' X' T' hd hu
  (try dsimp only); (try k_unmd); k_fold
  k_steps
  (show Fin _ _ _ _ _ _; try dsimp only)
  exact fin_ret (by assumption) (by assumption) [] (fun p hp => hp) ⟨rfl, rfl⟩
set_option maxRecDepth 100000 in
set_option maxHeartbeats 8000000 in
theorem setd_new (w : World) (H d l : Addr) (R : List HCell) (kt : Tok) (q : Nat) (t : Tok) (v : Str) (tv : Tok) (hv : lookH R q = .none) (hq : q < 8) (hR : ∀ c ∈ R, c.n < 8) (hf : Fine v) (hz : v.cps.size ≤ 1000) (hlen : R.length ≤ 99) :
   Ctr w 8 193 [.ref H, .str (NM q) t, .str v tv] (shelfL w H d l R kt) (fun ns r => (∃ a c, ns = shelfL w H d l (R ++ [⟨a, q, v, t, tv, c⟩]) kt) ∧ r = .str v tv) := by
  have hx : Txt.lower (NM q) = LN q := rfl
  have hlen2 : R.length ≤ 100 := Nat.le_succ_of_le hlen
  have hf1 := nm_fine q hq
  have hz1 := nm_size q hq

  k_dflt (refine' ctr_plain ?k0 ?ko ?kB ?kS ?kc ?kb ?kl ?c1 ?c2 ?c3 ?c4 ?_; (case k0 => decide); (case ko => k_is); (case kB => conv => lhs; whnf); (case kS => conv => lhs; whnf); (case kc => k_is); (case kb => intro _ kX; first | exact BindsTo.of_eq rfl | exact kp_binds kX (fun _ => rfl)); (case kl => exact locs rfl); (case c1 => exact rfl); (case c2 => exact rfl); (case c3 => exact rfl); (case c4 => decide); k_whole)
  intro pr loose mean mg mb dp un gd cn cs Lc ac ccd clo outer base g L' h₁ s tk F' N' B' X' T' hd hu
  (try dsimp only); (try k_unmd); k_fold
  k_steps
  unfold Hold
  refine append_hcell (by assumption) (by assumption) hlen2 fun h9 F9 N9 => ?_
  k_steps
  (show Fin _ _ _ _ _ _; try dsimp only)
  exact Fin.intro (by assumption) N9 _ (fun p hp => hp) ⟨⟨_, _, rfl⟩, rfl⟩
end THs_
section TThree_
open PySem PySem.W PySem.Spec PySem.Calls PyProof.Rows
noncomputable def lst8 (q : Nat → Int) (tk : Nat → Tok) : Array Value := #[.int (q 0) (tk 0), .int (q 1) (tk 1), .int (q 2) (tk 2), .int (q 3) (tk 3), .int (q 4) (tk 4), .int (q 5) (tk 5), .int (q 6) (tk 6), .int (q 7) (tk 7)]
noncomputable def Cell.dat (c : Cell) : Int × Int := (c.x, c.y)
/-- the row of the numbers behind i classes -/
structure RowQ (q : Nat → Int) (i : Nat) (R : List Cell) : Prop where
  sorted : Sorted R
  perm : (R.map Cell.dat).Perm ((List.range i).map fun t => (q (t + 1), ((t + 1 : Nat) : Int)))
theorem RowQ.len {q : Nat → Int} {i : Nat} {R : List Cell} (h : RowQ q i R) : R.length = i := by
  have := h.perm.length_eq
  simpa using this
theorem RowQ.put {q : Nat → Int} {i j : Nat} {R : List Cell} {z : Cell} (h : RowQ q i R) (hx : z.x = q (i + 1)) (hy : z.y = ((i + 1 : Nat) : Int)) (h1 : ∀ k (h : k < R.length), k < j → (R[k]).lt z = true) (h2 : ∀ k (h : k < R.length), j ≤ k → (R[k]).lt z = false) : RowQ q (i + 1) (ins R j z) := by
  refine ⟨h.sorted.ins h1 h2, ?_⟩
  have e : (ins R j z).Perm (z :: R) := by
    unfold ins
    refine List.perm_middle.trans ?_
    rw [List.take_append_drop]
  refine (e.map _).trans ?_
  rw [List.map_cons, List.range_succ, List.map_append]
  refine ((h.perm.cons _).trans ?_)
  rw [show z.dat = (q (i + 1), ((i + 1 : Nat) : Int)) from by unfold Cell.dat; rw [hx, hy]]
  exact (List.perm_append_singleton _ _).symm
noncomputable def rowQJ (row : Addr) (base : Led) (m₀ : Str → Option Value) (q : Nat → Int) (i : Nat) (m₁ : Str → Option Value) (news₁ : Led) : Prop :=
  ∃ (R : List Cell) (n6 : Nat) (uu : Str → Option Value), news₁ = (row, listOf (rowV R) n6) :: (base ++ R.map Cell.led) ∧ m₁ = (fun y => if y = Str.ofString "s" then uu y else m₀ y) ∧ RowQ q i R ∧ (∀ p ∈ base, p.1 ≠ row) ∧ ∀ p ∈ base, ∀ c ∈ R, p.1 ≠ c.a
theorem rowQJ_start {row : Addr} {base : Led} {m₀ : Str → Option Value} {q : Nat → Int} {n : Nat} (hb : ∀ p ∈ base, p.1 ≠ row) : rowQJ row base m₀ q 0 m₀ ((row, listOf #[] n) :: base) :=
  ⟨[], n, m₀, by simp [rowV], by funext y; split <;> rfl, ⟨List.Pairwise.nil, List.Perm.nil⟩, hb, fun _ _ _ hc => (nomatch hc)⟩
/-- the value of the three least that no sum ties -/
noncomputable def ThreeOf (q : Nat → Int) (v : Int) : Prop :=
  ∃ R : List Cell, RowQ q 7 R ∧ v = (R.getD 0 ⟨0, 0, 0, 0, 0, 0⟩).x * (R.getD 1 ⟨0, 0, 0, 0, 0, 0⟩).x * (if (R.getD 2 ⟨0, 0, 0, 0, 0, 0⟩).y = Builtin.bitXor (R.getD 0 ⟨0, 0, 0, 0, 0, 0⟩).y (R.getD 1 ⟨0, 0, 0, 0, 0, 0⟩).y then (R.getD 3 ⟨0, 0, 0, 0, 0, 0⟩).x else (R.getD 2 ⟨0, 0, 0, 0, 0, 0⟩).x)
theorem item8_nat {prog : Program} {w : World} {A : Around} {E : Value → Shared → Prop} {s : Shared} {value slice : PySem.Expr} {l : Addr} {k : Int} {u : Tok} {Q : Value → Shared → Prop} {q : Nat → Int} {tk : Nat → Tok} {i : Nat} (hl : s.heap.IsList l (lst8 q tk)) (hk : k = (i : Int)) (hi : i < 8) (h : Q (.int (q i) (tk i)) s)
    (hs : subscripted slice false (.ref l) (.int k u) = operate [.ref l, .int k u] (getItem (.ref l) (.int k u)) := by with_unfolding_all rfl) :
    wpAny (model prog w) A (subscriptTail value slice (.ref l) (.int k u)) Q E s := by
  refine item_litK (vs := (lst8 q tk).toList) hl (by omega) (by omega) ?_ h hs
  rw [show k.toNat = i by omega]
  match i, hi with
  | 0, _ => rfl
  | 1, _ => rfl
  | 2, _ => rfl
  | 3, _ => rfl
  | 4, _ => rfl
  | 5, _ => rfl
  | 6, _ => rfl
  | 7, _ => rfl
set_option maxRecDepth 100000 in
set_option maxHeartbeats 8000000 in
theorem three (w : World) (l : Addr) (n : Nat) (q : Nat → Int) (tq : Nat → Tok) (hq : ∀ i, i < 8 → -100 < q i ∧ q i < 100) :
   Ctr w 6 270 [.ref l] [(l, listOf (lst8 q tq) n)] (fun ns r => ∃ new, ns = new ++ [(l, listOf (lst8 q tq) n)] ∧ new = [] ∧ ∃ v t, r = .int v t ∧ ThreeOf q v) := by
  k_with_none
  (k_with "ite" => (k_closed; first | ((with_reducible refine ite_neg ?ci ?_); (case ci => decide)) | ((with_reducible refine ite_pos ?ci ?_); (case ci => decide))))
  (k_with "FinE" => ((unfold LCg.FinE); intro D' h' tk' F' N' o1'; (try simp only [List.nil_append, List.cons_append] at N'); (try dsimp only)))
  (k_with "FinA" => ((unfold LCg.FinA); intro D' h' tk' F' N' o1'; (try simp only [List.nil_append, List.cons_append] at N'); (try dsimp only)))
  (k_with "eval Name" => ((with_reducible show wpAny _ _ (eval (Expr.Name _ _) (compEnvC _ _ _ _)) _ _ _); k_dflt (first
  | (refine' LCgL.ld_own ?N ?m ?C ?x ?_ ?a ?b; (case a => rfl); (case b => rfl); (case N => k_asm); (case m => k_mem); (case C => assumption); (case x => assumption); k_whole)
  | (refine' lcf_cell ?N ?c ?m ?d ?_ ?a ?b; (case a => rfl); (case b => rfl); (case N => k_asm); (case c => rfl); (case m => k_mem); (case d => k_asm); k_whole)
  | (refine' LCgL.ld_global ?F ?X ?T ?e ?_ ?g ?a ?b; (case a => rfl); (case b => rfl); (case g => rfl); (case F => k_asm); (case X => k_asm); (case T => k_asm); (case e => k_is); k_whole)
  | (refine' lcf_free ?N ?c ?m ?d ?_ ?a ?b; (case a => rfl); (case b => rfl); (case N => k_asm); (case c => rfl); (case m => k_mem); (case d => k_asm); k_whole))))
  (k_with "eval ListComp" => ((with_reducible show wpAny _ _ (eval (Expr.ListComp _ [Comprehension.mk (Expr.Name _ _) _ [] _] _ _) _) _ _ _); k_dflt (refine LCg.ListComp_U (F₀ := by k_asm) (by with_unfolding_all rfl) (by decide) (by rfl) (by decide) (by rfl) ?_)))
  (k_with "exec Assign cons ListComp" => ((with_reducible show wpAny _ _ (exec (Stmt.Assign [Expr.Name _ _] (Expr.ListComp _ [Comprehension.mk (Expr.Name _ _) _ [] _] _ _) _) _) _ _ _); k_dflt (refine LCg.Assign_ListComp_U (F₀ := by k_asm) (by rfl) (by with_unfolding_all rfl) (by with_unfolding_all rfl) (by decide) (by rfl) (by decide) (by rfl) (by rfl) (by rfl) ?_)))
  (k_with "eval ListComp" => ((with_reducible show wpAny _ _ (eval (Expr.ListComp _ [Comprehension.mk (Expr.Name _ _) _ [_] _] _ _) _) _ _ _); k_dflt (refine LCt.ListComp_T (F₀ := by k_asm) (by with_unfolding_all rfl) (by decide) (by rfl) (by decide) (by rfl) ?_)))
  (k_with "exec Assign cons ListComp" => ((with_reducible show wpAny _ _ (exec (Stmt.Assign [Expr.Name _ _] (Expr.ListComp _ [Comprehension.mk (Expr.Name _ _) _ [_] _] _ _) _) _) _ _ _); k_dflt (refine LCt.Assign_ListComp_T (F₀ := by k_asm) (by rfl) (by with_unfolding_all rfl) (by with_unfolding_all rfl) (by decide) (by rfl) (by decide) (by rfl) (by rfl) (by rfl) ?_)))
  (k_with "CompSrc" => (k_here; k_dflt (first
  | (refine LCg.CompSrc.ledger (by rfl) (by k_asm) (by k_asm) (by k_mem) (by first | size_fits | exact Nat.le_of_ble_eq_true rfl) ?_; intro g'; lcg_lit)
  | (refine LCg.CompSrc.range (by rfl) (by k_asm) (by k_asm) (by assumption) (by first | decide | rfl) (by first | rfl | decide) (by first | size_fits | exact Nat.le_of_ble_eq_true rfl) ?_; intro g'; lcg_lit))))
  (k_with "exec For Name Call cons nil" => ((rename Fr _ _ _ _ => lF'); k_dflt (refine' For_turns lF' ?_ ?hs ?hE; (case hs => (intro _; rfl)); (case hE => exact PassesOwn.never); k_whole)))
  (k_with "pyIter ref" => ((with_reducible show wpAny _ _ (pyIter (Value.ref _)) (fun it s₂ => TurnsAt _ _ _ _ _ _ _ _ _ it s₂) _ _); refine unhold ?_))
  (k_with "call ref" => ((with_reducible show wpAny _ _ (call (Value.ref 54) _ _) _ _ _); refine unhold ?_))
  (k_with "subscriptTail Name Name ref int" => ((with_reducible show wpAny _ _ (subscriptTail (Expr.Name _ _) (Expr.Name _ _) (Value.ref _) (Value.int (1 + ↑_ * 1) _)) _ _ _); refine unhold ?_))
  k_dflt (refine' ctr_plain ?k0 ?ko ?kB ?kS ?kc ?kb ?kl ?c1 ?c2 ?c3 ?c4 ?_; (case k0 => decide); (case ko => k_is); (case kB => conv => lhs; whnf); (case kS => conv => lhs; whnf); (case kc => k_is); (case kb => intro _ kX; first | exact BindsTo.of_eq rfl | exact kp_binds kX (fun _ => rfl)); (case kl => exact locs rfl); (case c1 => exact rfl); (case c2 => exact rfl); (case c3 => exact rfl); (case c4 => decide); k_whole)
  intro pr loose mean mg mb dp un gd cn cs Lc ac ccd clo outer base g L' h₁ s tk F' N' B' X' T' hd hu
  (try dsimp only); (try k_unmd); k_fold
  k_steps
  unfold Hold
  (rename Fr _ _ _ _ => lF'); (rename News _ _ _ _ => lN'); (rename IsRange _ _ _ _ _ _ _ _ => rgX)
  refine' grow_range (rowQJ _ _ _ q) rfl rgX rfl rfl lF' lN' rfl rfl (rowQJ_start ?hb) ?_ ?_
  case hb =>
    simp only [List.forall_mem_cons, List.not_mem_nil, false_implies, implies_true, and_true]
    exact Nat.ne_of_lt (by assumption)
  · rintro i t m₁ news₁ h tk Ia oI hi ⟨R, n6, uu, rfl, rfl, ok, hb1, hb2⟩ hne F N
    replace F := fr_two F
    replace hi : i < 7 := hi
    clear lF' lN'
    simp only [List.cons_append, List.nil_append] at N
    k_steps
    unfold Hold
    refine item8_nat (i := i + 1) (News.isList (by k_asm) (by k_mem)) (by omega) (by omega) ?_ (by with_unfolding_all rfl)
    k_steps
    unfold Hold
    have hl2 := ‹Ia < _ ∧ _ < _ ∧ l < _ ∧ _›
    refine' mut_call [(Ia, oI), (l, listOf (lst8 q tq) n)] (insort w _ n6 R ⟨_, q (i + 1), 1 + (i : Int) * 1, _, _, _⟩ ?hn (fun k j hj hi => ok.sorted.idx _ k j hj hi)) ?hK ?B ?F ?X ?N ?S ?kp ?T ?hk ?hd ?hu ?_
    case hn => rw [ok.len]; omega
    case hd => assumption
    case hu => assumption
    case hK => decide
    case B => with_reducible assumption
    case F => k_asm
    case X => with_reducible assumption
    case N => k_asm
    case T => with_reducible assumption
    case hk => exact rfl
    case S =>
      intro q hq
      rcases List.mem_cons.mp hq with rfl | hq
      · k_mem
      · rcases List.mem_cons.mp hq with rfl | hq
        · exact .head _
        · repeat (first | exact hq | refine List.Mem.tail _ ?_)
    case kp =>
      refine kp_row (oI := oI) (z := ⟨_, q (i + 1), 1 + (i : Int) * 1, tq (i + 1), t, 0⟩) (base := [(l, listOf (lst8 q tq) n)]) hne hb1 hb2 ?_
      simp only [List.forall_mem_cons, List.not_mem_nil, false_implies, implies_true, and_true]
      exact ⟨hl2.1, hl2.2.2.1⟩
    intro r9 ns9 h9 tk9 F9 N9 o9
    obtain ⟨j9, n9, e9, e10, hj9, hb9, hc9⟩ := o9
    subst e9
    subst e10
    dsimp only
    k_steps
    refine ⟨rfl, _, _, _, _, rfl, by assumption, news_ins N9, ne_ins hne hl2.1, _, n9, fun _ => _, rfl, rfl, ok.put rfl (by dsimp only; omega) hb9 hc9, hb1, off_ins hb2 ?_⟩
    simp only [List.forall_mem_cons, List.not_mem_nil, false_implies, implies_true, and_true]
    exact hl2.2.2.1
  · rintro h tk m₁ news₁ ⟨R, n6, uu, rfl, rfl, ok, hb1, hb2⟩ F N
    clear lF' lN'
    replace ok : RowQ q 7 R := ok
    have hR := ok.len
    have hres : ∀ v, v = (R.getD 0 ⟨0, 0, 0, 0, 0, 0⟩).x * (R.getD 1 ⟨0, 0, 0, 0, 0, 0⟩).x * (if (R.getD 2 ⟨0, 0, 0, 0, 0, 0⟩).y = Builtin.bitXor (R.getD 0 ⟨0, 0, 0, 0, 0, 0⟩).y (R.getD 1 ⟨0, 0, 0, 0, 0, 0⟩).y then (R.getD 3 ⟨0, 0, 0, 0, 0, 0⟩).x else (R.getD 2 ⟨0, 0, 0, 0, 0, 0⟩).x) → ThreeOf q v := fun v e => ⟨R, ok, e⟩
    have hbd : ∀ c ∈ R, -100 < c.x ∧ c.x < 100 := fun c hc => by
      obtain ⟨t, ht, e⟩ := List.mem_map.mp (ok.perm.mem_iff.mp (List.mem_map_of_mem hc))
      have e' : q (t + 1) = c.x := congrArg Prod.fst e
      rw [← e']
      exact hq _ (by have := List.mem_range.mp ht; omega)
    clear ok hb1 hb2
    match R, hR with
    | [c0, c1, c2, c3, c4, c5, c6], _ =>
      simp only [List.map_cons, List.map_nil, List.cons_append, List.nil_append, Cell.led, rowV] at N
      have b0 := hbd c0 (.head _)
      have b1 := hbd c1 (.tail _ (.head _))
      have b2 := hbd c2 (.tail _ (.tail _ (.head _)))
      have b3 := hbd c3 (.tail _ (.tail _ (.tail _ (.head _))))
      clear hbd
      obtain ⟨a0, x0, y0, tx0, ty0, k0⟩ := c0
      obtain ⟨a1, x1, y1, tx1, ty1, k1⟩ := c1
      obtain ⟨a2, x2, y2, tx2, ty2, k2⟩ := c2
      obtain ⟨a3, x3, y3, tx3, ty3, k3⟩ := c3
      dsimp only at *
      k_steps
      · (show Fin _ _ _ _ _ _; try dsimp only)
        refine fin_ret (by assumption) (by assumption) [] (by lcg_sub) ⟨rfl, _, _, rfl, hres _ ?_⟩
        show x0 * x1 * x3 = x0 * x1 * (if y2 = Builtin.bitXor y0 y1 then x3 else x2)
        rw [if_pos (by assumption)]
      · (show Fin _ _ _ _ _ _; try dsimp only)
        refine fin_ret (by assumption) (by assumption) [] (by lcg_sub) ⟨rfl, _, _, rfl, hres _ ?_⟩
        show x0 * x1 * x2 = x0 * x1 * (if y2 = Builtin.bitXor y0 y1 then x3 else x2)
        rw [if_neg (by assumption)]
end TThree_
section TStart_
open PySem PySem.W PySem.Spec PySem.Calls PyProof.Rows
/-- a list of six ints stands ahead -/
noncomputable def Six1 (a0 a1 a2 a3 a4 a5 : Int) (new : Led) (r : Value) : Prop := ∃ (D : Addr) (t0 t1 t2 t3 t4 t5 : Tok) (n : Nat), r = .ref D ∧ new = [(D, listOf #[.int a0 t0, .int a1 t1, .int a2 t2, .int a3 t3, .int a4 t4, .int a5 t5] n)]
set_option maxRecDepth 100000 in
set_option maxHeartbeats 8000000 in
theorem start (w : World) (code : Int) (h0 : 0 ≤ code) (t0 : Tok) :
   Ctr w 2 224 [.int code t0] [] (fun ns r => ∃ new, ns = new ++ [] ∧ Six1 (1 + code.fmod 2) ((code.fdiv 2).fmod 3) (((code.fdiv 2).fdiv 3).fmod 3) (1 + (((code.fdiv 2).fdiv 3).fdiv 3).fmod 2) (((((code.fdiv 2).fdiv 3).fdiv 3).fdiv 2).fmod 3) (1 + (((((code.fdiv 2).fdiv 3).fdiv 3).fdiv 2).fdiv 3).fmod 2) new r) := by
  k_with_none
  (k_with "ite" => (k_closed; first | ((with_reducible refine ite_neg ?ci ?_); (case ci => decide)) | ((with_reducible refine ite_pos ?ci ?_); (case ci => decide))))
  (k_with "FinE" => ((unfold LCg.FinE); intro D' h' tk' F' N' o1'; (try simp only [List.nil_append, List.cons_append] at N'); (try dsimp only)))
  (k_with "FinA" => ((unfold LCg.FinA); intro D' h' tk' F' N' o1'; (try simp only [List.nil_append, List.cons_append] at N'); (try dsimp only)))
  (k_with "eval Name" => ((with_reducible show wpAny _ _ (eval (Expr.Name _ _) (compEnvC _ _ _ _)) _ _ _); k_dflt (first
  | (refine' LCgL.ld_own ?N ?m ?C ?x ?_ ?a ?b; (case a => rfl); (case b => rfl); (case N => k_asm); (case m => k_mem); (case C => assumption); (case x => assumption); k_whole)
  | (refine' lcf_cell ?N ?c ?m ?d ?_ ?a ?b; (case a => rfl); (case b => rfl); (case N => k_asm); (case c => rfl); (case m => k_mem); (case d => k_asm); k_whole)
  | (refine' LCgL.ld_global ?F ?X ?T ?e ?_ ?g ?a ?b; (case a => rfl); (case b => rfl); (case g => rfl); (case F => k_asm); (case X => k_asm); (case T => k_asm); (case e => k_is); k_whole)
  | (refine' lcf_free ?N ?c ?m ?d ?_ ?a ?b; (case a => rfl); (case b => rfl); (case N => k_asm); (case c => rfl); (case m => k_mem); (case d => k_asm); k_whole))))
  (k_with "eval ListComp" => ((with_reducible show wpAny _ _ (eval (Expr.ListComp _ [Comprehension.mk (Expr.Name _ _) _ [] _] _ _) _) _ _ _); k_dflt (refine LCg.ListComp_U (F₀ := by k_asm) (by with_unfolding_all rfl) (by decide) (by rfl) (by decide) (by rfl) ?_)))
  (k_with "exec Assign cons ListComp" => ((with_reducible show wpAny _ _ (exec (Stmt.Assign [Expr.Name _ _] (Expr.ListComp _ [Comprehension.mk (Expr.Name _ _) _ [] _] _ _) _) _) _ _ _); k_dflt (refine LCg.Assign_ListComp_U (F₀ := by k_asm) (by rfl) (by with_unfolding_all rfl) (by with_unfolding_all rfl) (by decide) (by rfl) (by decide) (by rfl) (by rfl) (by rfl) ?_)))
  (k_with "eval ListComp" => ((with_reducible show wpAny _ _ (eval (Expr.ListComp _ [Comprehension.mk (Expr.Name _ _) _ [_] _] _ _) _) _ _ _); k_dflt (refine LCt.ListComp_T (F₀ := by k_asm) (by with_unfolding_all rfl) (by decide) (by rfl) (by decide) (by rfl) ?_)))
  (k_with "exec Assign cons ListComp" => ((with_reducible show wpAny _ _ (exec (Stmt.Assign [Expr.Name _ _] (Expr.ListComp _ [Comprehension.mk (Expr.Name _ _) _ [_] _] _ _) _) _) _ _ _); k_dflt (refine LCt.Assign_ListComp_T (F₀ := by k_asm) (by rfl) (by with_unfolding_all rfl) (by with_unfolding_all rfl) (by decide) (by rfl) (by decide) (by rfl) (by rfl) (by rfl) ?_)))
  (k_with "CompSrc" => (k_here; k_dflt (first
  | (refine LCg.CompSrc.ledger (by rfl) (by k_asm) (by k_asm) (by k_mem) (by first | size_fits | exact Nat.le_of_ble_eq_true rfl) ?_; intro g'; lcg_lit)
  | (refine LCg.CompSrc.range (by rfl) (by k_asm) (by k_asm) (by assumption) (by first | decide | rfl) (by first | rfl | decide) (by first | size_fits | exact Nat.le_of_ble_eq_true rfl) ?_; intro g'; lcg_lit))))
  (k_with "eval IfExp" => ((with_reducible show wpAny _ _ (eval (Expr.IfExp (Expr.Compare (Expr.Name _ _) [CmpOp.In] [Expr.Tuple _ _ _] _) _ _ _) _) _ _ _); (k_dflt (first
  | (refine' ifin3_t ?F ?N ?hv ?hr ?_ ?hk ?hx ?hd; (case F => k_asm); (case N => k_asm); (case hv => exact rfl); (case hr => decide); (case hk => rfl); (case hx => rfl); (case hd => decide); k_whole)
  | (refine' ifin3_f ?F ?N ?hv ?hr ?_ ?hk ?hx ?hd; (case F => k_asm); (case N => k_asm); (case hv => exact rfl); (case hr => decide); (case hk => rfl); (case hx => rfl); (case hd => decide); k_whole))); intro h' tk' F' N'; (try k_sweep)))
  k_dflt (refine' ctr_plain ?k0 ?ko ?kB ?kS ?kc ?kb ?kl ?c1 ?c2 ?c3 ?c4 ?_; (case k0 => decide); (case ko => k_is); (case kB => conv => lhs; whnf); (case kS => conv => lhs; whnf); (case kc => k_is); (case kb => intro _ kX; first | exact BindsTo.of_eq rfl | exact kp_binds kX (fun _ => rfl)); (case kl => exact locs rfl); (case c1 => exact rfl); (case c2 => exact rfl); (case c3 => exact rfl); (case c4 => decide); k_whole)
  intro pr loose mean mg mb dp un gd cn cs Lc ac ccd clo outer base g L' h₁ s tk F' N' B' X' T' hd hu
  (try dsimp only); (try k_unmd); k_fold
  k_steps
  all_goals (show Fin _ _ _ _ _ _; try dsimp only)
  refine' fin_ret (by assumption) (by assumption) [_] ?hs ⟨_, _, _, _, _, _, _, _, rfl, rfl⟩
  case hs => lcg_sub
end TStart_
section TVol_
open PySem PySem.W PySem.Spec PySem.Calls PyProof.Rows
set_option maxRecDepth 100000 in
set_option maxHeartbeats 8000000 in
theorem vol (w : World) (l : Addr) (n : Nat) (a0 a1 a2 a3 a4 a5 : Int) (t0 t1 t2 t3 t4 t5 : Tok)
   (b0 : -100 < a0 ∧ a0 < 100) (b1 : -100 < a1 ∧ a1 < 100) (b2 : -100 < a2 ∧ a2 < 100) (b3 : -100 < a3 ∧ a3 < 100) (b4 : -100 < a4 ∧ a4 < 100) (b5 : -100 < a5 ∧ a5 < 100) :
   Ctr w 2 277 [.ref l] [(l, listOf #[.int a0 t0, .int a1 t1, .int a2 t2, .int a3 t3, .int a4 t4, .int a5 t5] n)] (fun ns r => ∃ new, ns = new ++ [(l, listOf #[.int a0 t0, .int a1 t1, .int a2 t2, .int a3 t3, .int a4 t4, .int a5 t5] n)] ∧ new = [] ∧ ∃ t, r = .int ((a0+a1+a2)*(a0+a3+a4)*(a1+a3+a5) - 2*a0*a1*a3 - (a0+a1+a2)*a3*a3 - (a0+a3+a4)*a1*a1 - (a1+a3+a5)*a0*a0) t) := by
  k_with_none
  (k_with "ite" => (k_closed; first | ((with_reducible refine ite_neg ?ci ?_); (case ci => decide)) | ((with_reducible refine ite_pos ?ci ?_); (case ci => decide))))
  (k_with "FinE" => ((unfold LCg.FinE); intro D' h' tk' F' N' o1'; (try simp only [List.nil_append, List.cons_append] at N'); (try dsimp only)))
  (k_with "FinA" => ((unfold LCg.FinA); intro D' h' tk' F' N' o1'; (try simp only [List.nil_append, List.cons_append] at N'); (try dsimp only)))
  (k_with "eval Name" => ((with_reducible show wpAny _ _ (eval (Expr.Name _ _) (compEnvC _ _ _ _)) _ _ _); k_dflt (first
  | (refine' LCgL.ld_own ?N ?m ?C ?x ?_ ?a ?b; (case a => rfl); (case b => rfl); (case N => k_asm); (case m => k_mem); (case C => assumption); (case x => assumption); k_whole)
  | (refine' lcf_cell ?N ?c ?m ?d ?_ ?a ?b; (case a => rfl); (case b => rfl); (case N => k_asm); (case c => rfl); (case m => k_mem); (case d => k_asm); k_whole)
  | (refine' LCgL.ld_global ?F ?X ?T ?e ?_ ?g ?a ?b; (case a => rfl); (case b => rfl); (case g => rfl); (case F => k_asm); (case X => k_asm); (case T => k_asm); (case e => k_is); k_whole)
  | (refine' lcf_free ?N ?c ?m ?d ?_ ?a ?b; (case a => rfl); (case b => rfl); (case N => k_asm); (case c => rfl); (case m => k_mem); (case d => k_asm); k_whole))))
  (k_with "eval ListComp" => ((with_reducible show wpAny _ _ (eval (Expr.ListComp _ [Comprehension.mk (Expr.Name _ _) _ [] _] _ _) _) _ _ _); k_dflt (refine LCg.ListComp_U (F₀ := by k_asm) (by with_unfolding_all rfl) (by decide) (by rfl) (by decide) (by rfl) ?_)))
  (k_with "exec Assign cons ListComp" => ((with_reducible show wpAny _ _ (exec (Stmt.Assign [Expr.Name _ _] (Expr.ListComp _ [Comprehension.mk (Expr.Name _ _) _ [] _] _ _) _) _) _ _ _); k_dflt (refine LCg.Assign_ListComp_U (F₀ := by k_asm) (by rfl) (by with_unfolding_all rfl) (by with_unfolding_all rfl) (by decide) (by rfl) (by decide) (by rfl) (by rfl) (by rfl) ?_)))
  (k_with "eval ListComp" => ((with_reducible show wpAny _ _ (eval (Expr.ListComp _ [Comprehension.mk (Expr.Name _ _) _ [_] _] _ _) _) _ _ _); k_dflt (refine LCt.ListComp_T (F₀ := by k_asm) (by with_unfolding_all rfl) (by decide) (by rfl) (by decide) (by rfl) ?_)))
  (k_with "exec Assign cons ListComp" => ((with_reducible show wpAny _ _ (exec (Stmt.Assign [Expr.Name _ _] (Expr.ListComp _ [Comprehension.mk (Expr.Name _ _) _ [_] _] _ _) _) _) _ _ _); k_dflt (refine LCt.Assign_ListComp_T (F₀ := by k_asm) (by rfl) (by with_unfolding_all rfl) (by with_unfolding_all rfl) (by decide) (by rfl) (by decide) (by rfl) (by rfl) (by rfl) ?_)))
  (k_with "CompSrc" => (k_here; k_dflt (first
  | (refine LCg.CompSrc.ledger (by rfl) (by k_asm) (by k_asm) (by k_mem) (by first | size_fits | exact Nat.le_of_ble_eq_true rfl) ?_; intro g'; lcg_lit)
  | (refine LCg.CompSrc.range (by rfl) (by k_asm) (by k_asm) (by assumption) (by first | decide | rfl) (by first | rfl | decide) (by first | size_fits | exact Nat.le_of_ble_eq_true rfl) ?_; intro g'; lcg_lit))))
  k_dflt (refine' ctr_plain ?k0 ?ko ?kB ?kS ?kc ?kb ?kl ?c1 ?c2 ?c3 ?c4 ?_; (case k0 => decide); (case ko => k_is); (case kB => conv => lhs; whnf); (case kS => conv => lhs; whnf); (case kc => k_is); (case kb => intro _ kX; first | exact BindsTo.of_eq rfl | exact kp_binds kX (fun _ => rfl)); (case kl => exact locs rfl); (case c1 => exact rfl); (case c2 => exact rfl); (case c3 => exact rfl); (case c4 => decide); k_whole)
  intro pr loose mean mg mb dp un gd cn cs Lc ac ccd clo outer base g L' h₁ s tk F' N' B' X' T' hd hu
  (try dsimp only); (try k_unmd); k_fold
  k_steps
  exact Fin.intro (by assumption) (by assumption) _ (by lcg_sub) ⟨[], rfl, rfl, _, rfl⟩
end TVol_
section CellC_
open PySem PySem.W PySem.Spec PySem.Calls PyProof.Rows PyProof.Rows.LCg PyProof.Rows.LCt
theorem new_env_cell {M : Model} {A : Around} {E : Value → Shared → Prop} {s : Shared} {scope : Scope} {globals : Addr} {cl : List (Str × Addr)} {qual : Str} {x : Str} {env : Env} {Q : Env → Shared → Prop}
    (hcl : ∀ n, cellsFrom n scope.names cl = (x, n) :: cl) (hpc : ∀ h, pushCells h scope.names = h.push { cls := .type "cell", data := .cell none })
    (h : Q { scope := scope, locals := s.heap.objs.size, globals := globals, cells := (x, s.heap.objs.size + 1) :: cl, qual := qual, func := none, code := env.code, frame := env.frame, builtins := env.builtins }
      { s with heap := (s.heap.push { cls := .type "dict", data := .dict #[] }).push { cls := .type "cell", data := .cell none } }) :
    wpAny M A (newFunctionEnv scope globals cl [] qual none .none (some env)) Q E s := by
  simp only [newFunctionEnv, Option.isSome_some, if_true]
  refine wpAny_bind (wpAny_alloc ?_)
  refine wpAny_bind (wpAny_layCells _ (fun name kind cells => by cases hkc : kind == NameKind.cell <;> simp [hkc]) _ _ _ _ ?_)
  rw [hcl, hpc, show ({ s with heap := s.heap.push { cls := .type "dict", data := .dict #[] } } : Shared).heap.objs.size = s.heap.objs.size + 1 from Heap.size_push ..]
  refine wpAny_bind ?_
  rw [List.forIn_nil]
  exact wpAny_pure (wpAny_pure h)
section
variable {prog : Program} {w : World} {A : Around} {E : Value → Shared → Prop} {s : Shared} {h₀ : Heap} {L : Addr} {m : Str → Option Value} {env : Env} {news : Led}
theorem offOne {D : Addr} : ∀ {l : Led}, (∀ p ∈ l, p.1 ≠ D) → Off1 D l
  | [], _ => trivial
  | _ :: _, h => ⟨h _ List.mem_cons_self, offOne fun p hp => h p (List.mem_cons_of_mem _ hp)⟩
theorem block_X {ct elt iter : Expr} {x : Str} {px : Pos} {scope : Scope} {cl : List (Str × Addr)} {pos : Pos} {s₂ : Shared} {I : Addr} {n : Nat} {a : Int} {RR : Value → Addr → Result → Shared → Prop}
    (hsz : n ≤ sizeLine) (hcl : ∀ k, cellsFrom k scope.names cl = (x, k) :: cl) (hpc : ∀ h, pushCells h scope.names = h.push { cls := .type "cell", data := .cell none })
    (hkind : scope.kind = .function) (hkx : ∀ C cl', (compEnvC scope cl' C env).kindOf x = some .cell) (hh : A.handled = none)
    (hit : IsRangeIter s₂.heap I a n 1) (F : Fr h₀ L s₂.heap m) (N : News h₀ L s₂.heap news) (hIL : L ≠ I) (hI₀ : h₀.get? I = none) (off : ∀ p ∈ news, p.1 ≠ I)
    (Inv : Nat → List Value → Prop) (h0 : Inv 0 [])
    (turn : ∀ i ys, i < n → Inv i ys → ∀ t oI C oC c oc D h tk (E' : Value → Shared → Prop), oc.data = .cell (some (.int (a + (i : Int) * 1) t)) → Fr h₀ L h m → News h₀ L h ((I, oI) :: (C, oC) :: (c, oc) :: (D, lst ys) :: news) →
      wpAny (model prog w) A (isTrue ct (compEnvC scope ((x, c) :: cl) C env) (eval ct (compEnvC scope ((x, c) :: cl) C env))) (fun ok s' => if ok = true then
        wpAny (model prog w) A (eval elt (compEnvC scope ((x, c) :: cl) C env)) (fun y s'' => Went h₀ L m { s₂ with heap := h, toks := tk } ((I, oI) :: (C, oC) :: (c, oc) :: (D, lst ys) :: news) s'' ∧ Inv (i + 1) (ys ++ [y])) E' s'
        else Went h₀ L m { s₂ with heap := h, toks := tk } ((I, oI) :: (C, oC) :: (c, oc) :: (D, lst ys) :: news) s' ∧ Inv (i + 1) ys) E' { s₂ with heap := h, toks := tk })
    (hRR : ∀ D C h tk m' ys, Fr h₀ L h m → News h₀ L h ((D, lst ys) :: news) → Off1 D news → h.Ns C m' → h₀.get? C = none → h₀.get? D = none → C ≠ L → D ≠ L → C ≠ D → (∀ p ∈ news, p.1 ≠ C) → Inv n ys → RR (.ref D) C (.ok .next) { s₂ with heap := h, toks := tk }) :
    wpAny (model prog w) A (newList []) (fun acc s₃ => wpAny (model prog w) A (newFunctionEnv scope env.globals cl [] env.qual none .none (some env)) (fun cenv s₄ =>
      codeAny (model prog w) A (.compStart (.ListComp elt [⟨.Name x px, iter, [ct], 0⟩] scope pos) 0 (.ref I) acc { cenv with scope := relabel scope env }) (RR acc cenv.locals) s₄) E s₃) E s₂ := by
  have W := Walks.range (prog := prog) (w := w) (A := A) hh I a 1 n
  refine wpAny_newObj_type (new_env_cell hcl hpc ?_)
  dsimp only
  have z1 : (s₂.heap.push { cls := .type "list", dict := none, data := .seq ([] : List Value).toArray }).objs.size = s₂.heap.objs.size + 1 := Heap.size_push ..
  rw [z1]
  generalize hH1 : ((s₂.heap.push { cls := .type "list", dict := none, data := .seq ([] : List Value).toArray }).push { cls := .type "dict", data := .dict #[] }).push { cls := .type "cell", data := .cell none } = h₁
  have old : ∀ b o, s₂.heap.get? b = some o → h₁.get? b = some o := fun b o q => hH1 ▸ Heap.get?_push_of_some _ (Heap.get?_push_of_some _ (Heap.get?_push_of_some _ q))
  have hacc : h₁.get? s₂.heap.objs.size = some (lst []) := hH1 ▸ Heap.get?_push_of_some _ (Heap.get?_push_of_some _ (Heap.get?_push_size _ rfl))
  have hCn : h₁.Ns (s₂.heap.objs.size + 1) (fun _ => none) := by
    have k := (Heap.Ns.new (s₂.heap.push { cls := .type "list", dict := none, data := .seq ([] : List Value).toArray }) (.type "dict")).push { cls := .type "cell", data := .cell none }
    rw [z1] at k
    exact hH1 ▸ k
  have hcc : h₁.get? (s₂.heap.objs.size + 1 + 1) = some { cls := .type "cell", data := .cell none } := by
    have k := Heap.get?_push_size ((s₂.heap.push { cls := .type "list", dict := none, data := .seq ([] : List Value).toArray }).push { cls := .type "dict", data := .dict #[] }) (o := { cls := .type "cell", data := .cell none }) rfl
    rw [Heap.size_push, z1] at k
    exact hH1 ▸ k
  clear hH1 z1
  generalize hzz : s₂.heap.objs.size = z at *
  have below : ∀ b o, s₂.heap.get? b = some o → b < z := fun b o q => hzz ▸ Heap.lt_size q
  have hIl : I < z := below _ _ hit
  have hLl : L < z := hzz ▸ F.ns.lt
  have fresh₀ : ∀ b, z ≤ b → h₀.get? b = none := fun b hb => by
    cases q : h₀.get? b with
    | none => rfl
    | some o' => exact absurd (below _ _ (F.keep b o' q)) (Nat.not_lt.mpr hb)
  have hD₀ := fresh₀ z (Nat.le_refl _)
  have hC₀ := fresh₀ (z + 1) (Nat.le_succ _)
  have hc₀ := fresh₀ (z + 1 + 1) (Nat.le_succ_of_le (Nat.le_succ _))
  have hn : ∀ p ∈ news, p.1 < z := fun p hp => below _ _ (N p hp).1
  have e1 : z + 1 ≠ z := Nat.succ_ne_self _
  have e2 : z + 1 + 1 ≠ z := by omega
  have e3 : z + 1 + 1 ≠ z + 1 := Nat.succ_ne_self _
  have eL : L ≠ z ∧ L ≠ z + 1 ∧ L ≠ z + 1 + 1 := ⟨Nat.ne_of_lt hLl, Nat.ne_of_lt (Nat.lt_succ_of_lt hLl), Nat.ne_of_lt (Nat.lt_succ_of_lt (Nat.lt_succ_of_lt hLl))⟩
  have eI : I ≠ z ∧ I ≠ z + 1 ∧ I ≠ z + 1 + 1 := ⟨Nat.ne_of_lt hIl, Nat.ne_of_lt (Nat.lt_succ_of_lt hIl), Nat.ne_of_lt (Nat.lt_succ_of_lt (Nat.lt_succ_of_lt hIl))⟩
  have eN : ∀ p ∈ news, p.1 ≠ z ∧ p.1 ≠ z + 1 ∧ p.1 ≠ z + 1 + 1 := fun p hp => ⟨Nat.ne_of_lt (hn p hp), Nat.ne_of_lt (Nat.lt_succ_of_lt (hn p hp)), Nat.ne_of_lt (Nat.lt_succ_of_lt (Nat.lt_succ_of_lt (hn p hp)))⟩
  have N1 : News h₀ L h₁ ((z, lst []) :: news) := fun p hp => by
    rcases List.mem_cons.mp hp with rfl | hp
    · exact ⟨hacc, Ne.symm eL.1, hD₀⟩
    · exact ⟨old _ _ (N p hp).1, (N p hp).2⟩
  have loop : ∀ s₃ : Shared, s₃ = { s₂ with heap := h₁, toks := s₂.toks } →
      codeAny (model prog w) A (.compLoop (.ListComp elt [⟨.Name x px, iter, [ct], 0⟩] scope pos) 0 (.ref I) (.ref z) (compEnvC scope ((x, z + 1 + 1) :: cl) (z + 1) env))
        (RR (.ref z) (z + 1)) s₃ := by
    rintro s₃ rfl
    refine codeAny_compLoop_tests
      (fun k s' => ∃ h' tk i ys m' oc vc, s' = { s₂ with heap := h', toks := tk } ∧ i ≤ n ∧ k = n + 1 - i ∧ ys.length ≤ i ∧ IsRangeIter h' I (a + (i : Nat) * 1) ((n : Int) - (i : Nat)) 1 ∧ Fr h₀ L h' m ∧ h'.Ns (z + 1) m' ∧ h'.get? (z + 1 + 1) = some oc ∧ oc.data = .cell vc ∧ News h₀ L h' ((z, lst ys) :: news) ∧ Inv i ys) ?_ (n + 1)
      ⟨h₁, _, 0, [], _, _, _, rfl, Nat.zero_le _, rfl, Nat.le_refl _, by simpa using old _ _ hit, F.keeps old, hCn, hcc, rfl, N1, h0⟩
    rintro k s' ⟨h', tk, i, ys, m', oc, vc, rfl, hi, rfl, hyl, hst', F', hn', hcg, hcd, N', hinv⟩
    have offD : ∀ p ∈ (z, lst ys) :: news, p.1 ≠ I := fun p hp => by
      rcases List.mem_cons.mp hp with rfl | hp
      · exact Ne.symm eI.1
      · exact off p hp
    by_cases hlt : i < n
    · refine W.item i _ _ _ hlt hst' fun v h₂ tk₂ hPv hst₂ hk₂ => ?_
      obtain ⟨t, rfl⟩ := hPv
      have cg2 : h₂.get? (z + 1 + 1) = some oc := hk₂ _ _ (by simpa using Ne.symm eI.2.2) hcg
      refine wpAny_assign_Name (wpAny_storeName_cell hkind (hkx _ _) (by show List.lookup x ((x, z + 1 + 1) :: cl) = _; simp) ⟨oc, cg2, hcd⟩ fun h₃ hv₃ hs₃ => ?_)
      obtain ⟨oc₃, hg₃, hd₃⟩ := hv₃
      refine wpAny_tests_one ?_
      have F₂ : Fr h₀ L h₂ m := fr_but F' hk₂ hIL hI₀
      have N₂ := news_but N' hk₂ offD
      have F₃ : Fr h₀ L h₃ m := F₂.change hs₃ (Ne.symm eL.2.2) hc₀
      have st₃ : IsRangeIter h₃ I (a + ((i + 1 : Nat) : Int) * 1) ((n : Int) - ((i + 1 : Nat) : Int)) 1 := hs₃.extBut _ _ eI.2.2 hst₂
      obtain ⟨oC, heC, hoC⟩ := ns_obj ((hn'.at' fun o q => hk₂ _ o (by simpa using Ne.symm eI.2.1) q).sameBut hs₃ (Ne.symm e3))
      have N₃ : News h₀ L h₃ ((I, _) :: (z + 1, oC) :: (z + 1 + 1, oc₃) :: (z, lst ys) :: news) := fun p hp => by
        rcases List.mem_cons.mp hp with rfl | hp
        · exact ⟨st₃, Ne.symm hIL, hI₀⟩
        · rcases List.mem_cons.mp hp with rfl | hp
          · exact ⟨heC, Ne.symm eL.2.1, hC₀⟩
          · rcases List.mem_cons.mp hp with rfl | hp
            · exact ⟨hg₃, Ne.symm eL.2.2, hc₀⟩
            · have q := N₂ p hp
              refine ⟨hs₃.extBut _ _ ?_ q.1, q.2⟩
              rcases List.mem_cons.mp hp with rfl | hp
              · exact Ne.symm e2
              · exact (eN p hp).2.2
      refine wpAny_mono (turn i ys hlt hinv t _ (z + 1) oC (z + 1 + 1) oc₃ z h₃ _ _ hd₃ F₃ N₃) (fun ok s₄ h₄ => ?_) fun _ _ q => q
      cases ok with
      | true =>
        simp only [if_true] at h₄ ⊢
        refine wpAny_mono h₄ (fun y s₅ h₅ => ?_) fun _ _ q => q
        obtain ⟨⟨h₅, tk₅, rfl, F₅, N₅⟩, hinv₅⟩ := h₅
        have zI := (N₅ _ List.mem_cons_self).1
        have zC := (N₅ _ (List.mem_cons_of_mem _ List.mem_cons_self)).1
        have zc := (N₅ _ (List.mem_cons_of_mem _ (List.mem_cons_of_mem _ List.mem_cons_self))).1
        have zD := (N₅ _ (List.mem_cons_of_mem _ (List.mem_cons_of_mem _ (List.mem_cons_of_mem _ List.mem_cons_self)))).1
        have N₅' : News h₀ L h₅ news := fun p hp => N₅ p (List.mem_cons_of_mem _ (List.mem_cons_of_mem _ (List.mem_cons_of_mem _ (List.mem_cons_of_mem _ hp))))
        refine append_at (hsz := by show ys.toArray.size ≤ sizeLine; rw [List.size_toArray]; exact Nat.le_trans (Nat.le_trans hyl hi) hsz) zD fun h₆ hs₆ hD₆ => ?_
        refine ⟨n + 1 - (i + 1), by omega, h₆, tk₅, i + 1, ys ++ [y], _, oc₃, _, rfl, hlt, rfl, by rw [List.length_append, List.length_singleton]; exact Nat.succ_le_succ hyl, hs₆.extBut _ _ eI.1 zI, F₅.change hs₆ (Ne.symm eL.1) hD₀,
          (hoC.ns zC).sameBut hs₆ e1, hs₆.extBut _ _ e2 zc, hd₃, fun p hp => ?_, hinv₅⟩
        rcases List.mem_cons.mp hp with rfl | hp
        · exact ⟨hD₆.trans (congrArg some (lst_snoc ys y)), Ne.symm eL.1, hD₀⟩
        · exact ⟨hs₆.extBut _ _ (eN p hp).1 (N₅' p hp).1, (N₅' p hp).2⟩
      | false =>
        simp only [Bool.false_eq_true, if_false] at h₄ ⊢
        obtain ⟨⟨h₅, tk₅, rfl, F₅, N₅⟩, hinv₅⟩ := h₄
        have zI := (N₅ _ List.mem_cons_self).1
        have zC := (N₅ _ (List.mem_cons_of_mem _ List.mem_cons_self)).1
        have zc := (N₅ _ (List.mem_cons_of_mem _ (List.mem_cons_of_mem _ List.mem_cons_self))).1
        exact ⟨n + 1 - (i + 1), by omega, h₅, tk₅, i + 1, ys, _, oc₃, _, rfl, hlt, rfl, Nat.le_succ_of_le hyl, zI, F₅, hoC.ns zC, zc, hd₃, fun p hp => N₅ p (List.mem_cons_of_mem _ (List.mem_cons_of_mem _ (List.mem_cons_of_mem _ hp))), hinv₅⟩
    · obtain rfl : i = n := Nat.le_antisymm hi (Nat.not_lt.mp hlt)
      refine W.done _ _ _ hst' fun h₂ tk₂ hk₂ => ?_
      exact hRR _ _ h₂ tk₂ _ ys (fr_but F' hk₂ hIL hI₀) (news_but N' hk₂ offD) (offOne fun p hp => (eN p hp).1) (hn'.at' fun o q => hk₂ _ o (by simpa using Ne.symm eI.2.1) q) hC₀ hD₀ (Ne.symm eL.2.1) (Ne.symm eL.1) e1 (fun p hp => (eN p hp).2.1) hinv
  exact codeAny_compStart_list (loop _ rfl) (W.self 0 _ _ _ (by simpa using old _ _ hit) (loop _ rfl))
/-- a comprehension with one test over a range, its name a cell -/
noncomputable def SrcX (prog : Program) (w : World) (A : Around) (h₀ : Heap) (L : Addr) (m : Str → Option Value) (env : Env) (ct elt : Expr) (x : Str) (scope : Scope) (cl : List (Str × Addr)) (Fin : Shared → List Value → Led → Prop) (xv : Value) (s₁ : Shared) : Prop :=
  ∃ (r : Addr) (a b : Int) (t u v : Tok) (n : Nat) (news : Led) (Inv : Nat → List Value → Prop), xv = .ref r ∧ A.handled = none ∧ IsRange s₁.heap r a b 1 t u v ∧ Builtin.Range.small a b 1 = true ∧ Builtin.Range.rangeSize a b 1 = (n : Int) ∧ n ≤ sizeLine ∧
    Fr h₀ L s₁.heap m ∧ News h₀ L s₁.heap news ∧ Inv 0 [] ∧
    (∀ i ys, i < n → Inv i ys → ∀ t I oI C oC c oc D h tk (E' : Value → Shared → Prop), oc.data = .cell (some (.int (a + (i : Int) * 1) t)) → Fr h₀ L h m → News h₀ L h ((I, oI) :: (C, oC) :: (c, oc) :: (D, lst ys) :: news) →
      wpAny (model prog w) A (isTrue ct (compEnvC scope ((x, c) :: cl) C env) (eval ct (compEnvC scope ((x, c) :: cl) C env))) (fun ok s' => if ok = true then
        wpAny (model prog w) A (eval elt (compEnvC scope ((x, c) :: cl) C env)) (fun y s'' => Went h₀ L m { s₁ with heap := h, toks := tk } ((I, oI) :: (C, oC) :: (c, oc) :: (D, lst ys) :: news) s'' ∧ Inv (i + 1) (ys ++ [y])) E' s'
        else Went h₀ L m { s₁ with heap := h, toks := tk } ((I, oI) :: (C, oC) :: (c, oc) :: (D, lst ys) :: news) s' ∧ Inv (i + 1) ys) E' { s₁ with heap := h, toks := tk }) ∧
    (∀ h ys, Inv n ys → Fin { s₁ with heap := h } ys news)
theorem ListComp_X {ct elt iter : Expr} {x : Str} {px : Pos} {scope : Scope} {cl : List (Str × Addr)} {pos : Pos} {Q : Value → Shared → Prop} (F₀ : Fr h₀ L s.heap m)
    (hclos : closureFor scope env = pure cl) (hkind : scope.kind = .function) (hnames : ∀ y ∈ scope.names, y.2 = .local → scope.names.lookup y.1 = some .local)
    (hcl : ∀ k, cellsFrom k scope.names cl = (x, k) :: cl) (hpc : ∀ h, pushCells h scope.names = h.push { cls := .type "cell", data := .cell none }) (hkx : ∀ C cl', (compEnvC scope cl' C env).kindOf x = some .cell)
    (h : wpAny (model prog w) A (eval iter env) (SrcX prog w A h₀ L m env ct elt x scope cl (fun s₂ => FinE h₀ L m s₂ Q)) E s)
    (hs : ∀ x, foldedSetIterable iter env x = pure x := by intro _; rfl) :
    wpAny (model prog w) A (eval (.ListComp elt [⟨.Name x px, iter, [ct], 0⟩] scope pos) env) Q E s := by
  rw [eval_ListComp]
  refine wpAny_comprehension_free (use := none) rfl hs hclos hkind hnames (wpAny_mono h (fun xv s₁ h₁ => ?_) fun _ _ e => e)
  obtain ⟨r, a, b, t, u, v, n, news, Inv, rfl, hh, hr, hsm, hn, hz, F, N, h0, turn, fin⟩ := h₁
  refine wpAny_pyIter_range hr hsm ?_
  rw [hn]
  have up : ∀ b o, s₁.heap.get? b = some o → (s₁.heap.push { cls := .type "range_iterator", data := .fields #[.int a 0, .int (n : Int) 0, .int 1 0] }).get? b = some o := fun b o e => Heap.get?_push_of_some _ e
  refine block_X (n := n) (a := a) hz hcl hpc hkind hkx hh (Heap.get?_push_size _ rfl) (F.keeps up) (N.grown up) (Nat.ne_of_lt F.ns.lt) (next_is_new F) (fun p hp => Nat.ne_of_lt (Heap.lt_size (N p hp).1)) Inv h0
    (fun i ys hi hv t' oI C oC c oc D h tk E' hd F' N' => turn i ys hi hv t' _ oI C oC c oc D h tk E' hd F' N') ?_
  intro D C h tk m' ys F' N' o1 hn' hC₀ hD₀ hCL hDL hCD offC hinv
  refine ⟨m', hn', fun h'' hs'' => fin h ys hinv D h'' tk (F'.change hs'' hCL hC₀) (fun p hp => ?_) o1⟩
  refine ⟨hs''.extBut _ _ ?_ (N' p hp).1, (N' p hp).2⟩
  rcases List.mem_cons.mp hp with rfl | hp
  · exact Ne.symm hCD
  · exact offC p hp
end
end CellC_
section TWhole_
open PySem PySem.W PySem.Spec PySem.Calls PyProof.Rows
noncomputable def WInv (f : Nat → Bool) (i : Nat) (ys : List Value) : Prop := IntsAre ys (((List.range i).filter f).map fun (t : Nat) => (1 : Int) + (t : Int))
theorem WInv.nil (f : Nat → Bool) : WInv f 0 [] := IntsAre.nil
theorem WInv.yes {f : Nat → Bool} {i : Nat} {ys : List Value} {a : Int} {u : Tok} (h : WInv f i ys) (hf : f i = true) (ha : a = 1 + (i : Int)) : WInv f (i + 1) (ys ++ [.int a u]) := by
  unfold WInv at *
  subst ha
  rw [List.range_succ, List.filter_append, List.map_append, List.filter_cons, if_pos hf]
  exact h.append (.cons _ _ .nil)
theorem WInv.no {f : Nat → Bool} {i : Nat} {ys : List Value} (h : WInv f i ys) (hf : f i = false) : WInv f (i + 1) ys := by
  unfold WInv at *
  rw [List.range_succ, List.filter_append, List.map_append, List.filter_cons, if_neg (by rw [hf]; exact Bool.false_ne_true), List.filter_nil, List.map_nil, List.append_nil]
  exact h
/-- a sum that ties -/
noncomputable def tieB (q : Nat → Int) (i j : Nat) : Bool := j != i && q (j + 1) + q ((i + 1) ^^^ (j + 1)) == q (i + 1)
noncomputable def wholeB (q : Nat → Int) (i : Nat) : Bool := decide (((List.range 7).filter (tieB q i)).map (fun (t : Nat) => (1 : Int) + (t : Int)) = [])
theorem xor_bd {a b : Int} (a0 : 0 ≤ a) (a8 : a < 8) (b0 : 0 ≤ b) (b8 : b < 8) : 0 ≤ Builtin.bitXor a b ∧ Builtin.bitXor a b < 8 ∧ (Builtin.bitXor a b).toNat = a.toNat ^^^ b.toNat := by
  obtain ⟨m, rfl⟩ := Int.eq_ofNat_of_zero_le a0
  obtain ⟨n, rfl⟩ := Int.eq_ofNat_of_zero_le b0
  have hm : m < 8 := by omega
  have hn : n < 8 := by omega
  exact (by decide +kernel : ∀ m : Nat, m < 8 → ∀ n : Nat, n < 8 → 0 ≤ Builtin.bitXor (m : Int) (n : Int) ∧ Builtin.bitXor (m : Int) (n : Int) < 8 ∧ (Builtin.bitXor (m : Int) (n : Int)).toNat = (m : Int).toNat ^^^ (n : Int).toNat) m hm n hn
theorem item8 {prog : Program} {w : World} {A : Around} {E : Value → Shared → Prop} {s : Shared} {value slice : PySem.Expr} {l : Addr} {k : Int} {u : Tok} {Q : Value → Shared → Prop} {q : Nat → Int} {tk : Nat → Tok} (hl : s.heap.IsList l (lst8 q tk)) (h0 : 0 ≤ k) (h8 : k < 8) (h : Q (.int (q k.toNat) (tk k.toNat)) s)
    (hs : subscripted slice false (.ref l) (.int k u) = operate [.ref l, .int k u] (getItem (.ref l) (.int k u)) := by with_unfolding_all rfl) :
    wpAny (model prog w) A (subscriptTail value slice (.ref l) (.int k u)) Q E s := item8_nat (i := k.toNat) hl (by omega) (by omega) h hs
set_option maxRecDepth 100000 in
set_option maxHeartbeats 8000000 in
theorem whole (w : World) (l : Addr) (n : Nat) (q : Nat → Int) (tq : Nat → Tok) :
   Ctr w 8 258 [.ref l] [(l, listOf (lst8 q tq) n)] (fun ns r => ∃ new, ns = new ++ [(l, listOf (lst8 q tq) n)] ∧ ∃ D vs, r = .ref D ∧ new = [(D, LCg.lst vs)] ∧ WInv (wholeB q) 7 vs) := by
  k_with_none
  (k_with "ite" => (k_closed; first | ((with_reducible refine ite_neg ?ci ?_); (case ci => decide)) | ((with_reducible refine ite_pos ?ci ?_); (case ci => decide))))
  (k_with "FinE" => ((unfold LCg.FinE); intro D' h' tk' F' N' o1'; (try simp only [List.nil_append, List.cons_append] at N'); (try dsimp only)))
  (k_with "FinA" => ((unfold LCg.FinA); intro D' h' tk' F' N' o1'; (try simp only [List.nil_append, List.cons_append] at N'); (try dsimp only)))
  (k_with "eval Name" => ((with_reducible show wpAny _ _ (eval (Expr.Name _ _) (compEnvC _ _ _ _)) _ _ _); k_dflt (first
  | (refine' LCgL.ld_own ?N ?m ?C ?x ?_ ?a ?b; (case a => rfl); (case b => rfl); (case N => k_asm); (case m => k_mem); (case C => assumption); (case x => assumption); k_whole)
  | (refine' lcf_cell ?N ?c ?m ?d ?_ ?a ?b; (case a => rfl); (case b => rfl); (case N => k_asm); (case c => rfl); (case m => k_mem); (case d => k_asm); k_whole)
  | (refine' LCgL.ld_global ?F ?X ?T ?e ?_ ?g ?a ?b; (case a => rfl); (case b => rfl); (case g => rfl); (case F => k_asm); (case X => k_asm); (case T => k_asm); (case e => k_is); k_whole)
  | (refine' lcf_free ?N ?c ?m ?d ?_ ?a ?b; (case a => rfl); (case b => rfl); (case N => k_asm); (case c => rfl); (case m => k_mem); (case d => k_asm); k_whole))))
  (k_with "eval ListComp" => ((with_reducible show wpAny _ _ (eval (Expr.ListComp _ [Comprehension.mk (Expr.Name _ _) _ [] _] _ _) _) _ _ _); k_dflt (refine LCg.ListComp_U (F₀ := by k_asm) (by with_unfolding_all rfl) (by decide) (by rfl) (by decide) (by rfl) ?_)))
  (k_with "exec Assign cons ListComp" => ((with_reducible show wpAny _ _ (exec (Stmt.Assign [Expr.Name _ _] (Expr.ListComp _ [Comprehension.mk (Expr.Name _ _) _ [] _] _ _) _) _) _ _ _); k_dflt (refine LCg.Assign_ListComp_U (F₀ := by k_asm) (by rfl) (by with_unfolding_all rfl) (by with_unfolding_all rfl) (by decide) (by rfl) (by decide) (by rfl) (by rfl) (by rfl) ?_)))
  (k_with "eval ListComp" => ((with_reducible show wpAny _ _ (eval (Expr.ListComp _ [Comprehension.mk (Expr.Name _ _) _ [_] _] _ _) _) _ _ _); k_dflt (refine LCt.ListComp_T (F₀ := by k_asm) (by with_unfolding_all rfl) (by decide) (by rfl) (by decide) (by rfl) ?_)))
  (k_with "exec Assign cons ListComp" => ((with_reducible show wpAny _ _ (exec (Stmt.Assign [Expr.Name _ _] (Expr.ListComp _ [Comprehension.mk (Expr.Name _ _) _ [_] _] _ _) _) _) _ _ _); k_dflt (refine LCt.Assign_ListComp_T (F₀ := by k_asm) (by rfl) (by with_unfolding_all rfl) (by with_unfolding_all rfl) (by decide) (by rfl) (by decide) (by rfl) (by rfl) (by rfl) ?_)))
  (k_with "CompSrc" => (k_here; k_dflt (first
  | (refine LCg.CompSrc.ledger (by rfl) (by k_asm) (by k_asm) (by k_mem) (by first | size_fits | exact Nat.le_of_ble_eq_true rfl) ?_; intro g'; lcg_lit)
  | (refine LCg.CompSrc.range (by rfl) (by k_asm) (by k_asm) (by assumption) (by first | decide | rfl) (by first | rfl | decide) (by first | size_fits | exact Nat.le_of_ble_eq_true rfl) ?_; intro g'; lcg_lit))))
  (k_with "eval ListComp" => ((with_reducible show wpAny _ _ (eval (Expr.ListComp _ [Comprehension.mk (Expr.Name _ _) _ [Expr.Compare _ _ _ _] _] _ _) _) _ _ _); k_dflt (refine ListComp_X (F₀ := by k_asm) (by with_unfolding_all rfl) (by rfl) (by decide) (by intro _; rfl) (by intro _; rfl) (by intro _ _; rfl) ?_)))
  (k_with "SrcX" => (refine unhold ?_))
  (k_with "CompSrcT" => (k_here; k_dflt (refine LCt.CompSrcT.range (by rfl) (by k_asm) (by k_asm) (by assumption) (by first | decide | rfl) (by first | rfl | decide) (by first | size_fits | exact Nat.le_of_ble_eq_true rfl) ?_; intro g'; refine unhold ?_)))
  (k_with "subscriptTail Name Name ref int" => ((with_reducible show wpAny _ _ (subscriptTail (Expr.Name _ _) (Expr.Name _ _) (Value.ref _) (Value.int _ _)) _ _ _); k_dflt (refine' item8 (News.isList ?N ?m) ?k ?i ?_ ?hs; (case N => k_asm); (case m => k_mem); (case k => omega); (case i => omega); (case hs => with_unfolding_all rfl); k_whole)))
  (k_with "subscriptTail Name BinOp ref int" => ((with_reducible show wpAny _ _ (subscriptTail (Expr.Name _ _) (Expr.BinOp _ _ _ _) (Value.ref _) (Value.int _ _)) _ _ _); k_dflt (refine' item8 (News.isList ?N ?m) ?k ?i ?_ ?hs; (case N => k_asm); (case m => k_mem); (case k => (refine (xor_bd ?_ ?_ ?_ ?_).1 <;> omega)); (case i => (refine (xor_bd ?_ ?_ ?_ ?_).2.1 <;> omega)); (case hs => with_unfolding_all rfl); k_whole)))
  (k_with "compareOp Eq ref ref" => ((with_reducible show wpAny _ _ (compareOp CmpOp.Eq (Value.ref _) (Value.ref _)) _ _ _); k_dflt (refine' ke_eq_ints (ys := []) (News.isList ?N1 ?m1) (News.isList ?N2 ?m2) ?i ?j ?u ?_; (case N1 => k_asm); (case N2 => k_asm); (case m1 => k_mem); (case m2 => k_mem); (case i => assumption); (case j => exact IntsAre.nil); (case u => ke_room); k_whole)))
  k_dflt (refine' ctr_cells ?k0 ?ko ?kB ?kS ?kc ?kb ?kl ?kD ?c1 ?c2 ?c3 ?_; (case k0 => decide); (case ko => k_is); (case kB => conv => lhs; whnf); (case kS => conv => lhs; whnf); (case kc => k_is); (case kb => intro _ kX; first | exact BindsTo.of_eq rfl | exact kp_binds kX (fun _ => rfl)); (case kl => exact rfl); (case kD => decide +kernel); (case c1 => exact rfl); (case c2 => exact rfl); (case c3 => exact rfl); k_whole)
  intro pr loose mean mg mb dp un gd cn cs Lc ac ccd clo outer base g L' h₁ s tk cells' F' N' Y' l1 B' X' T' hd hu
  (try k_lt l1); k_cells Y'; (try simp only [List.cons_append, List.nil_append] at N'); (try dsimp only); (try k_unmd); k_fold
  k_steps
  unfold Hold
  (rename Fr _ _ _ _ => lF'); (rename News _ _ _ _ => lN'); (rename IsRange _ _ _ _ _ _ _ _ => rgX)
  refine ⟨_, _, _, _, _, _, 7, _, WInv (wholeB q), rfl, rfl, rgX, rfl, rfl, Nat.le_of_ble_eq_true rfl, lF', lN', WInv.nil _, ?turn, ?fin⟩
  case turn =>
    intro i ys hi hInv t I oI C oC c oc D h tk E' hd F N
    clear lF' lN'
    k_steps
    unfold Hold
    refine restT_inv (n := 7) (WInv (tieB q i)) ?_ trivial ?_ 7 0 [] rfl (WInv.nil _)
    · intro j zs hj hInv2 v I2 oI2 C2 oC2 D2 m₂ h2 tk2 E2 hv hC hx F N
      obtain ⟨u, rfl⟩ := hv
      have hx : Builtin.bitXor (1 + (i : Int) * 1) (1 + (j : Int)) = (((i + 1) ^^^ (j + 1) : Nat) : Int) := by
        obtain ⟨b0, b1, b2⟩ := xor_bd (a := 1 + (i : Int) * 1) (b := 1 + (j : Int)) (by omega) (by omega) (by omega) (by omega)
        rw [show (1 + (i : Int) * 1).toNat = i + 1 by omega, show (1 + (j : Int)).toNat = j + 1 by omega] at b2
        omega
      have e1 : (1 + (i : Int) * 1).toNat = i + 1 := by omega
      have e2 : (1 + (j : Int)).toNat = j + 1 := by omega
      k_steps
      all_goals first
        | exact Went.intro (by assumption) (by assumption) (by lcg_sub)
        | skip
      · refine hInv2.yes ?_ rfl
        simp only [e1, e2, hx, Int.toNat_natCast] at *
        unfold tieB
        rw [Bool.and_eq_true, bne_iff_ne, beq_iff_eq]
        exact ⟨by omega, by assumption⟩
      · refine hInv2.no ?_
        simp only [e1, e2, hx, Int.toNat_natCast] at *
        unfold tieB
        rw [Bool.and_eq_false_iff]
        exact .inr (beq_eq_false_iff_ne.mpr (by assumption))
      · refine hInv2.no ?_
        unfold tieB
        rw [Bool.and_eq_false_iff]
        exact .inl (bne_eq_false_iff_eq.mpr (by omega))
    · intro zs hI2
      unfold WInv at hI2
      k_steps
      · exact Went.intro (by assumption) (by assumption) (by lcg_sub)
      · exact hInv.yes (by assumption) (by omega)
      · exact Went.intro (by assumption) (by assumption) (by lcg_sub)
      · exact hInv.no (by assumption)
  case fin =>
    intro h ys hI
    unfold LCg.FinE
    intro D1 h1 tk1 F1 N1 o1
    clear lF' lN'
    k_steps
    (show Fin _ _ _ _ _ _; try dsimp only)
    exact fin_ret (by assumption) (by assumption) [_] (by lcg_sub) ⟨_, _, rfl, rfl, hI⟩
end TWhole_
section Law0_
open PySem PySem.W PySem.Spec PySem.Calls PyProof.Rows
noncomputable def startP (c : Int) (i : Nat) : Int := [1 + c.fmod 2, (c.fdiv 2).fmod 3, ((c.fdiv 2).fdiv 3).fmod 3, 1 + (((c.fdiv 2).fdiv 3).fdiv 3).fmod 2, ((((c.fdiv 2).fdiv 3).fdiv 3).fdiv 2).fmod 3, 1 + (((((c.fdiv 2).fdiv 3).fdiv 3).fdiv 2).fdiv 3).fmod 2].getD i 0
noncomputable def bornW (i : Nat) : Nat := [1, 2, 4, 7].getD i 0
theorem born_str : Str.ofString "Abc" = W 1 ∧ Str.ofString "aBc" = W 2 ∧ Str.ofString "abC" = W 4 ∧ Str.ofString "ABC" = W 7 := by decide +kernel
theorem born_list {h₀ h : Heap} {L D : Addr} {t0 t1 t2 t3 : Tok} {n : Nat} {rest : Led} (N : News h₀ L h ((D, listOf #[.str (Str.ofString "Abc") t0, .str (Str.ofString "aBc") t1, .str (Str.ofString "abC") t2, .str (Str.ofString "ABC") t3] n) :: rest)) :
    News h₀ L h ((D, listOf (wrd4 bornW (fun i => [t0, t1, t2, t3].getD i 0)) n) :: rest) := by
  rw [born_str.1, born_str.2.1, born_str.2.2.1, born_str.2.2.2] at N
  exact N
theorem born_w8 : W8 bornW := fun j => by
  unfold bornW
  match j with
  | 0 => decide
  | 1 => decide
  | 2 => decide
  | 3 => decide
  | n + 4 => simp
theorem cellv_ne {h₀ h : Heap} {L b c : Addr} {o o' : Obj} {v : Option Value} {news : Led} (N : News h₀ L h news) (h1 : (c, o) ∈ news) (hd : o.data = .cell v) (h2 : (b, o') ∈ news) (hn : o'.data ≠ .cell v) : b ≠ c := by
  intro e
  have x := (N _ h1).1
  have y := (N _ h2).1
  have e' : (b, o').1 = (c, o).1 := e
  rw [e'] at y
  have q := Option.some.inj (y.symm.trans x)
  exact hn ((congrArg Obj.data q).trans hd)
theorem store_cell {M : Model} {A : Around} {E : Value → Shared → Prop} {s : Shared} {h₀ : Heap} {L a : Addr} {m : Str → Option Value} {cn : Str} {cs : Scope} {ccd : Value} {cl : List (Str × Addr)}
    {x : Str} {v : Value} {Q : Unit → Shared → Prop} {news keep : Led} {c : Addr} {o : Obj} {v₀ : Option Value} (F : Fr h₀ L s.heap m) (N : News h₀ L s.heap news) (hc : cl.lookup x = some c) (hm : (c, o) ∈ news) (hd : o.data = .cell v₀)
    (hk : ∀ q ∈ keep, q ∈ news ∧ q.2.data ≠ .cell v₀)
    (h : ∀ h' o', Fr h₀ L h' m → News h₀ L h' ((c, o') :: keep) → o'.data = .cell (some v) → Q () { s with heap := h' })
    (hkd : cs.kind = .function := by rfl) (hx : (envX cn cs L a ccd cl).kindOf x = some .cell := by rfl) : wpAny M A (storeName (envX cn cs L a ccd cl) x v) Q E s := by
  have hmem := N (c, o) hm
  refine wpAny_storeName_cell hkd hx hc ⟨o, hmem.1, hd⟩ fun h' hv hs => ?_
  obtain ⟨o', ho', hd'⟩ := hv
  refine h h' o' ⟨F.ns.sameBut hs (Ne.symm hmem.2.1), fun b ob e => (hs.2 b (fun q => ?_)).trans (F.keep b ob e), F.above⟩ (fun p hp => ?_) hd'
  · rw [q, hmem.2.2] at e; cases e
  · rcases List.mem_cons.mp hp with rfl | hp
    · exact ⟨ho', hmem.2⟩
    · have z := hk p hp
      have hne : p.1 ≠ c := cellv_ne N hm hd z.1 z.2
      exact ⟨(hs.2 p.1 hne).trans (N p z.1).1, (N p z.1).2⟩
theorem news_rot {h₀ h : Heap} {L : Addr} {x : Addr × Obj} {A B : Led} (N : News h₀ L h ((x :: A) ++ B)) : News h₀ L h (x :: (B ++ A)) := fun q hq => N q (by
  rcases List.mem_cons.mp hq with rfl | hq
  · exact .head _
  · rcases List.mem_append.mp hq with hq | hq
    · exact List.mem_append_right _ hq
    · exact List.mem_append_left _ (.tail _ hq))
end Law0_
section Plain_
/-- the form -/
noncomputable def frm (p : Nat → Int) (x : Nat → Int) : Int :=
  p 0 * ((x 0 - x 1) * (x 0 - x 1)) + p 1 * ((x 0 - x 2) * (x 0 - x 2)) + p 2 * ((x 0 - x 3) * (x 0 - x 3)) + p 3 * ((x 1 - x 2) * (x 1 - x 2)) + p 4 * ((x 1 - x 3) * (x 1 - x 3)) + p 5 * ((x 2 - x 3) * (x 2 - x 3))
/-- the class of a vector -/
noncomputable def bt (a : Int) (w : Nat) : Nat := if a % 2 = 1 then w else 0
noncomputable def cls (ws : Nat → Nat) (x : Nat → Int) : Nat := bt (x 0) (ws 0) ^^^ bt (x 1) (ws 1) ^^^ bt (x 2) (ws 2) ^^^ bt (x 3) (ws 3)
/-- the change of the vector at a turn -/
noncomputable def mv (x : Nat → Int) (t sd : Int) : Nat → Int := upd x (if sd = 0 then PA t else PB t).toNat (x (KK t).toNat + x (MM t).toNat - x (if sd = 0 then PA t else PB t).toNat)
theorem turn_cases {P : Int → Int → Prop} {t sd : Int} (h0 : 0 ≤ t) (h6 : t < 6) (s0 : 0 ≤ sd) (s2 : sd < 2)
  (a0 : P 0 0) (a1 : P 1 0) (a2 : P 2 0) (a3 : P 3 0) (a4 : P 4 0) (a5 : P 5 0) (b0 : P 0 1) (b1 : P 1 1) (b2 : P 2 1) (b3 : P 3 1) (b4 : P 4 1) (b5 : P 5 1) : P t sd := by
  rcases (by omega : sd = 0 ∨ sd = 1) with rfl | rfl <;> rcases (by omega : t = 0 ∨ t = 1 ∨ t = 2 ∨ t = 3 ∨ t = 4 ∨ t = 5) with rfl | rfl | rfl | rfl | rfl | rfl <;> assumption
theorem frm_turn (p x : Nat → Int) {t sd : Int} (h0 : 0 ≤ t) (h6 : t < 6) (s0 : 0 ≤ sd) (s2 : sd < 2) : frm (turnP p t sd) x = frm p (mv x t sd) := by
  refine turn_cases (P := fun t sd => frm (turnP p t sd) x = frm p (mv x t sd)) h0 h6 s0 s2 ?_ ?_ ?_ ?_ ?_ ?_ ?_ ?_ ?_ ?_ ?_ ?_
  · show (-p 0) * ((x 0 - x 1) * (x 0 - x 1)) + (p 2 + p 0) * ((x 0 - x 2) * (x 0 - x 2)) + (p 1 + p 0) * ((x 0 - x 3) * (x 0 - x 3)) + (p 3 + p 0) * ((x 1 - x 2) * (x 1 - x 2)) + (p 4 + p 0) * ((x 1 - x 3) * (x 1 - x 3)) + (p 5 - p 0) * ((x 2 - x 3) * (x 2 - x 3)) = p 0 * (((x 2 + x 3 - x 0) - x 1) * ((x 2 + x 3 - x 0) - x 1)) + p 1 * (((x 2 + x 3 - x 0) - x 2) * ((x 2 + x 3 - x 0) - x 2)) + p 2 * (((x 2 + x 3 - x 0) - x 3) * ((x 2 + x 3 - x 0) - x 3)) + p 3 * ((x 1 - x 2) * (x 1 - x 2)) + p 4 * ((x 1 - x 3) * (x 1 - x 3)) + p 5 * ((x 2 - x 3) * (x 2 - x 3))
    generalize p 0 = p0; generalize p 1 = p1; generalize p 2 = p2; generalize p 3 = p3; generalize p 4 = p4; generalize p 5 = p5
    generalize x 0 = x0; generalize x 1 = x1; generalize x 2 = x2; generalize x 3 = x3
    grind
  · show (p 2 + p 1) * ((x 0 - x 1) * (x 0 - x 1)) + (-p 1) * ((x 0 - x 2) * (x 0 - x 2)) + (p 0 + p 1) * ((x 0 - x 3) * (x 0 - x 3)) + (p 3 + p 1) * ((x 1 - x 2) * (x 1 - x 2)) + (p 4 - p 1) * ((x 1 - x 3) * (x 1 - x 3)) + (p 5 + p 1) * ((x 2 - x 3) * (x 2 - x 3)) = p 0 * (((x 1 + x 3 - x 0) - x 1) * ((x 1 + x 3 - x 0) - x 1)) + p 1 * (((x 1 + x 3 - x 0) - x 2) * ((x 1 + x 3 - x 0) - x 2)) + p 2 * (((x 1 + x 3 - x 0) - x 3) * ((x 1 + x 3 - x 0) - x 3)) + p 3 * ((x 1 - x 2) * (x 1 - x 2)) + p 4 * ((x 1 - x 3) * (x 1 - x 3)) + p 5 * ((x 2 - x 3) * (x 2 - x 3))
    generalize p 0 = p0; generalize p 1 = p1; generalize p 2 = p2; generalize p 3 = p3; generalize p 4 = p4; generalize p 5 = p5
    generalize x 0 = x0; generalize x 1 = x1; generalize x 2 = x2; generalize x 3 = x3
    grind
  · show (p 1 + p 2) * ((x 0 - x 1) * (x 0 - x 1)) + (p 0 + p 2) * ((x 0 - x 2) * (x 0 - x 2)) + (-p 2) * ((x 0 - x 3) * (x 0 - x 3)) + (p 3 - p 2) * ((x 1 - x 2) * (x 1 - x 2)) + (p 4 + p 2) * ((x 1 - x 3) * (x 1 - x 3)) + (p 5 + p 2) * ((x 2 - x 3) * (x 2 - x 3)) = p 0 * (((x 1 + x 2 - x 0) - x 1) * ((x 1 + x 2 - x 0) - x 1)) + p 1 * (((x 1 + x 2 - x 0) - x 2) * ((x 1 + x 2 - x 0) - x 2)) + p 2 * (((x 1 + x 2 - x 0) - x 3) * ((x 1 + x 2 - x 0) - x 3)) + p 3 * ((x 1 - x 2) * (x 1 - x 2)) + p 4 * ((x 1 - x 3) * (x 1 - x 3)) + p 5 * ((x 2 - x 3) * (x 2 - x 3))
    generalize p 0 = p0; generalize p 1 = p1; generalize p 2 = p2; generalize p 3 = p3; generalize p 4 = p4; generalize p 5 = p5
    generalize x 0 = x0; generalize x 1 = x1; generalize x 2 = x2; generalize x 3 = x3
    grind
  · show (p 4 + p 3) * ((x 0 - x 1) * (x 0 - x 1)) + (p 1 + p 3) * ((x 0 - x 2) * (x 0 - x 2)) + (p 2 - p 3) * ((x 0 - x 3) * (x 0 - x 3)) + (-p 3) * ((x 1 - x 2) * (x 1 - x 2)) + (p 0 + p 3) * ((x 1 - x 3) * (x 1 - x 3)) + (p 5 + p 3) * ((x 2 - x 3) * (x 2 - x 3)) = p 0 * ((x 0 - (x 0 + x 3 - x 1)) * (x 0 - (x 0 + x 3 - x 1))) + p 1 * ((x 0 - x 2) * (x 0 - x 2)) + p 2 * ((x 0 - x 3) * (x 0 - x 3)) + p 3 * (((x 0 + x 3 - x 1) - x 2) * ((x 0 + x 3 - x 1) - x 2)) + p 4 * (((x 0 + x 3 - x 1) - x 3) * ((x 0 + x 3 - x 1) - x 3)) + p 5 * ((x 2 - x 3) * (x 2 - x 3))
    generalize p 0 = p0; generalize p 1 = p1; generalize p 2 = p2; generalize p 3 = p3; generalize p 4 = p4; generalize p 5 = p5
    generalize x 0 = x0; generalize x 1 = x1; generalize x 2 = x2; generalize x 3 = x3
    grind
  · show (p 3 + p 4) * ((x 0 - x 1) * (x 0 - x 1)) + (p 1 - p 4) * ((x 0 - x 2) * (x 0 - x 2)) + (p 2 + p 4) * ((x 0 - x 3) * (x 0 - x 3)) + (p 0 + p 4) * ((x 1 - x 2) * (x 1 - x 2)) + (-p 4) * ((x 1 - x 3) * (x 1 - x 3)) + (p 5 + p 4) * ((x 2 - x 3) * (x 2 - x 3)) = p 0 * ((x 0 - (x 0 + x 2 - x 1)) * (x 0 - (x 0 + x 2 - x 1))) + p 1 * ((x 0 - x 2) * (x 0 - x 2)) + p 2 * ((x 0 - x 3) * (x 0 - x 3)) + p 3 * (((x 0 + x 2 - x 1) - x 2) * ((x 0 + x 2 - x 1) - x 2)) + p 4 * (((x 0 + x 2 - x 1) - x 3) * ((x 0 + x 2 - x 1) - x 3)) + p 5 * ((x 2 - x 3) * (x 2 - x 3))
    generalize p 0 = p0; generalize p 1 = p1; generalize p 2 = p2; generalize p 3 = p3; generalize p 4 = p4; generalize p 5 = p5
    generalize x 0 = x0; generalize x 1 = x1; generalize x 2 = x2; generalize x 3 = x3
    grind
  · show (p 0 - p 5) * ((x 0 - x 1) * (x 0 - x 1)) + (p 3 + p 5) * ((x 0 - x 2) * (x 0 - x 2)) + (p 2 + p 5) * ((x 0 - x 3) * (x 0 - x 3)) + (p 1 + p 5) * ((x 1 - x 2) * (x 1 - x 2)) + (p 4 + p 5) * ((x 1 - x 3) * (x 1 - x 3)) + (-p 5) * ((x 2 - x 3) * (x 2 - x 3)) = p 0 * ((x 0 - x 1) * (x 0 - x 1)) + p 1 * ((x 0 - (x 0 + x 1 - x 2)) * (x 0 - (x 0 + x 1 - x 2))) + p 2 * ((x 0 - x 3) * (x 0 - x 3)) + p 3 * ((x 1 - (x 0 + x 1 - x 2)) * (x 1 - (x 0 + x 1 - x 2))) + p 4 * ((x 1 - x 3) * (x 1 - x 3)) + p 5 * (((x 0 + x 1 - x 2) - x 3) * ((x 0 + x 1 - x 2) - x 3))
    generalize p 0 = p0; generalize p 1 = p1; generalize p 2 = p2; generalize p 3 = p3; generalize p 4 = p4; generalize p 5 = p5
    generalize x 0 = x0; generalize x 1 = x1; generalize x 2 = x2; generalize x 3 = x3
    grind
  · show (-p 0) * ((x 0 - x 1) * (x 0 - x 1)) + (p 1 + p 0) * ((x 0 - x 2) * (x 0 - x 2)) + (p 2 + p 0) * ((x 0 - x 3) * (x 0 - x 3)) + (p 4 + p 0) * ((x 1 - x 2) * (x 1 - x 2)) + (p 3 + p 0) * ((x 1 - x 3) * (x 1 - x 3)) + (p 5 - p 0) * ((x 2 - x 3) * (x 2 - x 3)) = p 0 * ((x 0 - (x 2 + x 3 - x 1)) * (x 0 - (x 2 + x 3 - x 1))) + p 1 * ((x 0 - x 2) * (x 0 - x 2)) + p 2 * ((x 0 - x 3) * (x 0 - x 3)) + p 3 * (((x 2 + x 3 - x 1) - x 2) * ((x 2 + x 3 - x 1) - x 2)) + p 4 * (((x 2 + x 3 - x 1) - x 3) * ((x 2 + x 3 - x 1) - x 3)) + p 5 * ((x 2 - x 3) * (x 2 - x 3))
    generalize p 0 = p0; generalize p 1 = p1; generalize p 2 = p2; generalize p 3 = p3; generalize p 4 = p4; generalize p 5 = p5
    generalize x 0 = x0; generalize x 1 = x1; generalize x 2 = x2; generalize x 3 = x3
    grind
  · show (p 0 + p 1) * ((x 0 - x 1) * (x 0 - x 1)) + (-p 1) * ((x 0 - x 2) * (x 0 - x 2)) + (p 2 + p 1) * ((x 0 - x 3) * (x 0 - x 3)) + (p 5 + p 1) * ((x 1 - x 2) * (x 1 - x 2)) + (p 4 - p 1) * ((x 1 - x 3) * (x 1 - x 3)) + (p 3 + p 1) * ((x 2 - x 3) * (x 2 - x 3)) = p 0 * ((x 0 - x 1) * (x 0 - x 1)) + p 1 * ((x 0 - (x 1 + x 3 - x 2)) * (x 0 - (x 1 + x 3 - x 2))) + p 2 * ((x 0 - x 3) * (x 0 - x 3)) + p 3 * ((x 1 - (x 1 + x 3 - x 2)) * (x 1 - (x 1 + x 3 - x 2))) + p 4 * ((x 1 - x 3) * (x 1 - x 3)) + p 5 * (((x 1 + x 3 - x 2) - x 3) * ((x 1 + x 3 - x 2) - x 3))
    generalize p 0 = p0; generalize p 1 = p1; generalize p 2 = p2; generalize p 3 = p3; generalize p 4 = p4; generalize p 5 = p5
    generalize x 0 = x0; generalize x 1 = x1; generalize x 2 = x2; generalize x 3 = x3
    grind
  · show (p 0 + p 2) * ((x 0 - x 1) * (x 0 - x 1)) + (p 1 + p 2) * ((x 0 - x 2) * (x 0 - x 2)) + (-p 2) * ((x 0 - x 3) * (x 0 - x 3)) + (p 3 - p 2) * ((x 1 - x 2) * (x 1 - x 2)) + (p 5 + p 2) * ((x 1 - x 3) * (x 1 - x 3)) + (p 4 + p 2) * ((x 2 - x 3) * (x 2 - x 3)) = p 0 * ((x 0 - x 1) * (x 0 - x 1)) + p 1 * ((x 0 - x 2) * (x 0 - x 2)) + p 2 * ((x 0 - (x 1 + x 2 - x 3)) * (x 0 - (x 1 + x 2 - x 3))) + p 3 * ((x 1 - x 2) * (x 1 - x 2)) + p 4 * ((x 1 - (x 1 + x 2 - x 3)) * (x 1 - (x 1 + x 2 - x 3))) + p 5 * ((x 2 - (x 1 + x 2 - x 3)) * (x 2 - (x 1 + x 2 - x 3)))
    generalize p 0 = p0; generalize p 1 = p1; generalize p 2 = p2; generalize p 3 = p3; generalize p 4 = p4; generalize p 5 = p5
    generalize x 0 = x0; generalize x 1 = x1; generalize x 2 = x2; generalize x 3 = x3
    grind
  · show (p 0 + p 3) * ((x 0 - x 1) * (x 0 - x 1)) + (p 5 + p 3) * ((x 0 - x 2) * (x 0 - x 2)) + (p 2 - p 3) * ((x 0 - x 3) * (x 0 - x 3)) + (-p 3) * ((x 1 - x 2) * (x 1 - x 2)) + (p 4 + p 3) * ((x 1 - x 3) * (x 1 - x 3)) + (p 1 + p 3) * ((x 2 - x 3) * (x 2 - x 3)) = p 0 * ((x 0 - x 1) * (x 0 - x 1)) + p 1 * ((x 0 - (x 0 + x 3 - x 2)) * (x 0 - (x 0 + x 3 - x 2))) + p 2 * ((x 0 - x 3) * (x 0 - x 3)) + p 3 * ((x 1 - (x 0 + x 3 - x 2)) * (x 1 - (x 0 + x 3 - x 2))) + p 4 * ((x 1 - x 3) * (x 1 - x 3)) + p 5 * (((x 0 + x 3 - x 2) - x 3) * ((x 0 + x 3 - x 2) - x 3))
    generalize p 0 = p0; generalize p 1 = p1; generalize p 2 = p2; generalize p 3 = p3; generalize p 4 = p4; generalize p 5 = p5
    generalize x 0 = x0; generalize x 1 = x1; generalize x 2 = x2; generalize x 3 = x3
    grind
  · show (p 0 + p 4) * ((x 0 - x 1) * (x 0 - x 1)) + (p 1 - p 4) * ((x 0 - x 2) * (x 0 - x 2)) + (p 5 + p 4) * ((x 0 - x 3) * (x 0 - x 3)) + (p 3 + p 4) * ((x 1 - x 2) * (x 1 - x 2)) + (-p 4) * ((x 1 - x 3) * (x 1 - x 3)) + (p 2 + p 4) * ((x 2 - x 3) * (x 2 - x 3)) = p 0 * ((x 0 - x 1) * (x 0 - x 1)) + p 1 * ((x 0 - x 2) * (x 0 - x 2)) + p 2 * ((x 0 - (x 0 + x 2 - x 3)) * (x 0 - (x 0 + x 2 - x 3))) + p 3 * ((x 1 - x 2) * (x 1 - x 2)) + p 4 * ((x 1 - (x 0 + x 2 - x 3)) * (x 1 - (x 0 + x 2 - x 3))) + p 5 * ((x 2 - (x 0 + x 2 - x 3)) * (x 2 - (x 0 + x 2 - x 3)))
    generalize p 0 = p0; generalize p 1 = p1; generalize p 2 = p2; generalize p 3 = p3; generalize p 4 = p4; generalize p 5 = p5
    generalize x 0 = x0; generalize x 1 = x1; generalize x 2 = x2; generalize x 3 = x3
    grind
  · show (p 0 - p 5) * ((x 0 - x 1) * (x 0 - x 1)) + (p 1 + p 5) * ((x 0 - x 2) * (x 0 - x 2)) + (p 4 + p 5) * ((x 0 - x 3) * (x 0 - x 3)) + (p 3 + p 5) * ((x 1 - x 2) * (x 1 - x 2)) + (p 2 + p 5) * ((x 1 - x 3) * (x 1 - x 3)) + (-p 5) * ((x 2 - x 3) * (x 2 - x 3)) = p 0 * ((x 0 - x 1) * (x 0 - x 1)) + p 1 * ((x 0 - x 2) * (x 0 - x 2)) + p 2 * ((x 0 - (x 0 + x 1 - x 3)) * (x 0 - (x 0 + x 1 - x 3))) + p 3 * ((x 1 - x 2) * (x 1 - x 2)) + p 4 * ((x 1 - (x 0 + x 1 - x 3)) * (x 1 - (x 0 + x 1 - x 3))) + p 5 * ((x 2 - (x 0 + x 1 - x 3)) * (x 2 - (x 0 + x 1 - x 3)))
    generalize p 0 = p0; generalize p 1 = p1; generalize p 2 = p2; generalize p 3 = p3; generalize p 4 = p4; generalize p 5 = p5
    generalize x 0 = x0; generalize x 1 = x1; generalize x 2 = x2; generalize x 3 = x3
    grind
theorem bt_add (a b c : Int) (w : Nat) : bt (a + b - c) w = bt a w ^^^ bt b w ^^^ bt c w := by
  unfold bt
  by_cases ha : a % 2 = 1 <;> by_cases hb : b % 2 = 1 <;> by_cases hc : c % 2 = 1
  all_goals first
    | (rw [if_pos (by omega)]; simp [ha, hb, hc])
    | (rw [if_neg (by omega)]; simp [ha, hb, hc])
theorem bt_xor (a : Int) (v w : Nat) : bt a (v ^^^ w) = bt a v ^^^ bt a w := by
  unfold bt
  split <;> simp
theorem cls_turn (ws : Nat → Nat) (x : Nat → Int) {t sd : Int} (h0 : 0 ≤ t) (h6 : t < 6) (s0 : 0 ≤ sd) (s2 : sd < 2) : cls (turnW ws t sd) x = cls ws (mv x t sd) := by
  refine turn_cases (P := fun t sd => cls (turnW ws t sd) x = cls ws (mv x t sd)) h0 h6 s0 s2 ?_ ?_ ?_ ?_ ?_ ?_ ?_ ?_ ?_ ?_ ?_ ?_
  · show bt (x 0) (ws 0) ^^^ bt (x 1) (ws 1) ^^^ bt (x 2) (ws 2 ^^^ ws 0) ^^^ bt (x 3) (ws 3 ^^^ ws 0) = bt (x 2 + x 3 - x 0) (ws 0) ^^^ bt (x 1) (ws 1) ^^^ bt (x 2) (ws 2) ^^^ bt (x 3) (ws 3)
    rw [bt_xor, bt_xor, bt_add]
    generalize bt (x 2) (ws 0) = u; generalize bt (x 3) (ws 0) = v
    generalize bt (x 0) (ws 0) = a; generalize bt (x 1) (ws 1) = b; generalize bt (x 2) (ws 2) = c; generalize bt (x 3) (ws 3) = d
    ac_rfl
  · show bt (x 0) (ws 0) ^^^ bt (x 1) (ws 1 ^^^ ws 0) ^^^ bt (x 2) (ws 2) ^^^ bt (x 3) (ws 3 ^^^ ws 0) = bt (x 1 + x 3 - x 0) (ws 0) ^^^ bt (x 1) (ws 1) ^^^ bt (x 2) (ws 2) ^^^ bt (x 3) (ws 3)
    rw [bt_xor, bt_xor, bt_add]
    generalize bt (x 1) (ws 0) = u; generalize bt (x 3) (ws 0) = v
    generalize bt (x 0) (ws 0) = a; generalize bt (x 1) (ws 1) = b; generalize bt (x 2) (ws 2) = c; generalize bt (x 3) (ws 3) = d
    ac_rfl
  · show bt (x 0) (ws 0) ^^^ bt (x 1) (ws 1 ^^^ ws 0) ^^^ bt (x 2) (ws 2 ^^^ ws 0) ^^^ bt (x 3) (ws 3) = bt (x 1 + x 2 - x 0) (ws 0) ^^^ bt (x 1) (ws 1) ^^^ bt (x 2) (ws 2) ^^^ bt (x 3) (ws 3)
    rw [bt_xor, bt_xor, bt_add]
    generalize bt (x 1) (ws 0) = u; generalize bt (x 2) (ws 0) = v
    generalize bt (x 0) (ws 0) = a; generalize bt (x 1) (ws 1) = b; generalize bt (x 2) (ws 2) = c; generalize bt (x 3) (ws 3) = d
    ac_rfl
  · show bt (x 0) (ws 0 ^^^ ws 1) ^^^ bt (x 1) (ws 1) ^^^ bt (x 2) (ws 2) ^^^ bt (x 3) (ws 3 ^^^ ws 1) = bt (x 0) (ws 0) ^^^ bt (x 0 + x 3 - x 1) (ws 1) ^^^ bt (x 2) (ws 2) ^^^ bt (x 3) (ws 3)
    rw [bt_xor, bt_xor, bt_add]
    generalize bt (x 0) (ws 1) = u; generalize bt (x 3) (ws 1) = v
    generalize bt (x 0) (ws 0) = a; generalize bt (x 1) (ws 1) = b; generalize bt (x 2) (ws 2) = c; generalize bt (x 3) (ws 3) = d
    ac_rfl
  · show bt (x 0) (ws 0 ^^^ ws 1) ^^^ bt (x 1) (ws 1) ^^^ bt (x 2) (ws 2 ^^^ ws 1) ^^^ bt (x 3) (ws 3) = bt (x 0) (ws 0) ^^^ bt (x 0 + x 2 - x 1) (ws 1) ^^^ bt (x 2) (ws 2) ^^^ bt (x 3) (ws 3)
    rw [bt_xor, bt_xor, bt_add]
    generalize bt (x 0) (ws 1) = u; generalize bt (x 2) (ws 1) = v
    generalize bt (x 0) (ws 0) = a; generalize bt (x 1) (ws 1) = b; generalize bt (x 2) (ws 2) = c; generalize bt (x 3) (ws 3) = d
    ac_rfl
  · show bt (x 0) (ws 0 ^^^ ws 2) ^^^ bt (x 1) (ws 1 ^^^ ws 2) ^^^ bt (x 2) (ws 2) ^^^ bt (x 3) (ws 3) = bt (x 0) (ws 0) ^^^ bt (x 1) (ws 1) ^^^ bt (x 0 + x 1 - x 2) (ws 2) ^^^ bt (x 3) (ws 3)
    rw [bt_xor, bt_xor, bt_add]
    generalize bt (x 0) (ws 2) = u; generalize bt (x 1) (ws 2) = v
    generalize bt (x 0) (ws 0) = a; generalize bt (x 1) (ws 1) = b; generalize bt (x 2) (ws 2) = c; generalize bt (x 3) (ws 3) = d
    ac_rfl
  · show bt (x 0) (ws 0) ^^^ bt (x 1) (ws 1) ^^^ bt (x 2) (ws 2 ^^^ ws 1) ^^^ bt (x 3) (ws 3 ^^^ ws 1) = bt (x 0) (ws 0) ^^^ bt (x 2 + x 3 - x 1) (ws 1) ^^^ bt (x 2) (ws 2) ^^^ bt (x 3) (ws 3)
    rw [bt_xor, bt_xor, bt_add]
    generalize bt (x 2) (ws 1) = u; generalize bt (x 3) (ws 1) = v
    generalize bt (x 0) (ws 0) = a; generalize bt (x 1) (ws 1) = b; generalize bt (x 2) (ws 2) = c; generalize bt (x 3) (ws 3) = d
    ac_rfl
  · show bt (x 0) (ws 0) ^^^ bt (x 1) (ws 1 ^^^ ws 2) ^^^ bt (x 2) (ws 2) ^^^ bt (x 3) (ws 3 ^^^ ws 2) = bt (x 0) (ws 0) ^^^ bt (x 1) (ws 1) ^^^ bt (x 1 + x 3 - x 2) (ws 2) ^^^ bt (x 3) (ws 3)
    rw [bt_xor, bt_xor, bt_add]
    generalize bt (x 1) (ws 2) = u; generalize bt (x 3) (ws 2) = v
    generalize bt (x 0) (ws 0) = a; generalize bt (x 1) (ws 1) = b; generalize bt (x 2) (ws 2) = c; generalize bt (x 3) (ws 3) = d
    ac_rfl
  · show bt (x 0) (ws 0) ^^^ bt (x 1) (ws 1 ^^^ ws 3) ^^^ bt (x 2) (ws 2 ^^^ ws 3) ^^^ bt (x 3) (ws 3) = bt (x 0) (ws 0) ^^^ bt (x 1) (ws 1) ^^^ bt (x 2) (ws 2) ^^^ bt (x 1 + x 2 - x 3) (ws 3)
    rw [bt_xor, bt_xor, bt_add]
    generalize bt (x 1) (ws 3) = u; generalize bt (x 2) (ws 3) = v
    generalize bt (x 0) (ws 0) = a; generalize bt (x 1) (ws 1) = b; generalize bt (x 2) (ws 2) = c; generalize bt (x 3) (ws 3) = d
    ac_rfl
  · show bt (x 0) (ws 0 ^^^ ws 2) ^^^ bt (x 1) (ws 1) ^^^ bt (x 2) (ws 2) ^^^ bt (x 3) (ws 3 ^^^ ws 2) = bt (x 0) (ws 0) ^^^ bt (x 1) (ws 1) ^^^ bt (x 0 + x 3 - x 2) (ws 2) ^^^ bt (x 3) (ws 3)
    rw [bt_xor, bt_xor, bt_add]
    generalize bt (x 0) (ws 2) = u; generalize bt (x 3) (ws 2) = v
    generalize bt (x 0) (ws 0) = a; generalize bt (x 1) (ws 1) = b; generalize bt (x 2) (ws 2) = c; generalize bt (x 3) (ws 3) = d
    ac_rfl
  · show bt (x 0) (ws 0 ^^^ ws 3) ^^^ bt (x 1) (ws 1) ^^^ bt (x 2) (ws 2 ^^^ ws 3) ^^^ bt (x 3) (ws 3) = bt (x 0) (ws 0) ^^^ bt (x 1) (ws 1) ^^^ bt (x 2) (ws 2) ^^^ bt (x 0 + x 2 - x 3) (ws 3)
    rw [bt_xor, bt_xor, bt_add]
    generalize bt (x 0) (ws 3) = u; generalize bt (x 2) (ws 3) = v
    generalize bt (x 0) (ws 0) = a; generalize bt (x 1) (ws 1) = b; generalize bt (x 2) (ws 2) = c; generalize bt (x 3) (ws 3) = d
    ac_rfl
  · show bt (x 0) (ws 0 ^^^ ws 3) ^^^ bt (x 1) (ws 1 ^^^ ws 3) ^^^ bt (x 2) (ws 2) ^^^ bt (x 3) (ws 3) = bt (x 0) (ws 0) ^^^ bt (x 1) (ws 1) ^^^ bt (x 2) (ws 2) ^^^ bt (x 0 + x 1 - x 3) (ws 3)
    rw [bt_xor, bt_xor, bt_add]
    generalize bt (x 0) (ws 3) = u; generalize bt (x 1) (ws 3) = v
    generalize bt (x 0) (ws 0) = a; generalize bt (x 1) (ws 1) = b; generalize bt (x 2) (ws 2) = c; generalize bt (x 3) (ws 3) = d
    ac_rfl
/-- what the form takes on a class -/
noncomputable def Tak (p : Nat → Int) (ws : Nat → Nat) (c : Nat) (v : Int) : Prop := ∃ x, cls ws x = c ∧ frm p x = v
theorem mv_mv (x : Nat → Int) {t sd : Int} (h0 : 0 ≤ t) (h6 : t < 6) (s0 : 0 ≤ sd) (s2 : sd < 2) : mv (mv x t sd) t sd = x := by
  refine turn_cases (P := fun t sd => mv (mv x t sd) t sd = x) h0 h6 s0 s2 ?_ ?_ ?_ ?_ ?_ ?_ ?_ ?_ ?_ ?_ ?_ ?_ <;>
  · funext n
    simp [mv, upd, PA, PB, KK, MM]
    split <;> simp_all
    try omega
theorem tak_turn (p : Nat → Int) (ws : Nat → Nat) {t sd : Int} (h0 : 0 ≤ t) (h6 : t < 6) (s0 : 0 ≤ sd) (s2 : sd < 2) (c : Nat) (v : Int) : Tak (turnP p t sd) (turnW ws t sd) c v ↔ Tak p ws c v := by
  constructor
  · rintro ⟨x, h1, h2⟩
    exact ⟨mv x t sd, by rw [← cls_turn ws x h0 h6 s0 s2]; exact h1, by rw [← frm_turn p x h0 h6 s0 s2]; exact h2⟩
  · rintro ⟨x, h1, h2⟩
    refine ⟨mv x t sd, ?_, ?_⟩
    · rw [cls_turn ws _ h0 h6 s0 s2, mv_mv x h0 h6 s0 s2]; exact h1
    · rw [frm_turn p _ h0 h6 s0 s2, mv_mv x h0 h6 s0 s2]; exact h2
theorem sum_turn (p : Nat → Int) {t sd : Int} (h0 : 0 ≤ t) (h6 : t < 6) (s0 : 0 ≤ sd) (s2 : sd < 2) : sixSum (turnP p t sd) = sixSum p + p t.toNat := by
  refine turn_cases (P := fun t sd => sixSum (turnP p t sd) = sixSum p + p t.toNat) h0 h6 s0 s2 ?_ ?_ ?_ ?_ ?_ ?_ ?_ ?_ ?_ ?_ ?_ ?_
  · show (-p 0) + ((p 2 + p 0) + ((p 1 + p 0) + ((p 3 + p 0) + ((p 4 + p 0) + ((p 5 - p 0) + 0))))) = p 0 + (p 1 + (p 2 + (p 3 + (p 4 + (p 5 + 0))))) + p 0
    omega
  · show (p 2 + p 1) + ((-p 1) + ((p 0 + p 1) + ((p 3 + p 1) + ((p 4 - p 1) + ((p 5 + p 1) + 0))))) = p 0 + (p 1 + (p 2 + (p 3 + (p 4 + (p 5 + 0))))) + p 1
    omega
  · show (p 1 + p 2) + ((p 0 + p 2) + ((-p 2) + ((p 3 - p 2) + ((p 4 + p 2) + ((p 5 + p 2) + 0))))) = p 0 + (p 1 + (p 2 + (p 3 + (p 4 + (p 5 + 0))))) + p 2
    omega
  · show (p 4 + p 3) + ((p 1 + p 3) + ((p 2 - p 3) + ((-p 3) + ((p 0 + p 3) + ((p 5 + p 3) + 0))))) = p 0 + (p 1 + (p 2 + (p 3 + (p 4 + (p 5 + 0))))) + p 3
    omega
  · show (p 3 + p 4) + ((p 1 - p 4) + ((p 2 + p 4) + ((p 0 + p 4) + ((-p 4) + ((p 5 + p 4) + 0))))) = p 0 + (p 1 + (p 2 + (p 3 + (p 4 + (p 5 + 0))))) + p 4
    omega
  · show (p 0 - p 5) + ((p 3 + p 5) + ((p 2 + p 5) + ((p 1 + p 5) + ((p 4 + p 5) + ((-p 5) + 0))))) = p 0 + (p 1 + (p 2 + (p 3 + (p 4 + (p 5 + 0))))) + p 5
    omega
  · show (-p 0) + ((p 1 + p 0) + ((p 2 + p 0) + ((p 4 + p 0) + ((p 3 + p 0) + ((p 5 - p 0) + 0))))) = p 0 + (p 1 + (p 2 + (p 3 + (p 4 + (p 5 + 0))))) + p 0
    omega
  · show (p 0 + p 1) + ((-p 1) + ((p 2 + p 1) + ((p 5 + p 1) + ((p 4 - p 1) + ((p 3 + p 1) + 0))))) = p 0 + (p 1 + (p 2 + (p 3 + (p 4 + (p 5 + 0))))) + p 1
    omega
  · show (p 0 + p 2) + ((p 1 + p 2) + ((-p 2) + ((p 3 - p 2) + ((p 5 + p 2) + ((p 4 + p 2) + 0))))) = p 0 + (p 1 + (p 2 + (p 3 + (p 4 + (p 5 + 0))))) + p 2
    omega
  · show (p 0 + p 3) + ((p 5 + p 3) + ((p 2 - p 3) + ((-p 3) + ((p 4 + p 3) + ((p 1 + p 3) + 0))))) = p 0 + (p 1 + (p 2 + (p 3 + (p 4 + (p 5 + 0))))) + p 3
    omega
  · show (p 0 + p 4) + ((p 1 - p 4) + ((p 5 + p 4) + ((p 3 + p 4) + ((-p 4) + ((p 2 + p 4) + 0))))) = p 0 + (p 1 + (p 2 + (p 3 + (p 4 + (p 5 + 0))))) + p 4
    omega
  · show (p 0 - p 5) + ((p 1 + p 5) + ((p 4 + p 5) + ((p 3 + p 5) + ((p 2 + p 5) + ((-p 5) + 0))))) = p 0 + (p 1 + (p 2 + (p 3 + (p 4 + (p 5 + 0))))) + p 5
    omega
/-- the volume -/
noncomputable def volE (a b c d e f : Int) : Int := (a+b+c)*(a+d+e)*(b+d+f) - 2*a*b*d - (a+b+c)*d*d - (a+d+e)*b*b - (b+d+f)*a*a
noncomputable def volP (p : Nat → Int) : Int := volE (p 0) (p 1) (p 2) (p 3) (p 4) (p 5)
theorem vol_turn (p : Nat → Int) {t sd : Int} (h0 : 0 ≤ t) (h6 : t < 6) (s0 : 0 ≤ sd) (s2 : sd < 2) : volP (turnP p t sd) = volP p := by
  refine turn_cases (P := fun t sd => volP (turnP p t sd) = volP p) h0 h6 s0 s2 ?_ ?_ ?_ ?_ ?_ ?_ ?_ ?_ ?_ ?_ ?_ ?_
  · show volE (-p 0) (p 2 + p 0) (p 1 + p 0) (p 3 + p 0) (p 4 + p 0) (p 5 - p 0) = volE (p 0) (p 1) (p 2) (p 3) (p 4) (p 5)
    unfold volE
    generalize p 0 = p0; generalize p 1 = p1; generalize p 2 = p2; generalize p 3 = p3; generalize p 4 = p4; generalize p 5 = p5
    grind
  · show volE (p 2 + p 1) (-p 1) (p 0 + p 1) (p 3 + p 1) (p 4 - p 1) (p 5 + p 1) = volE (p 0) (p 1) (p 2) (p 3) (p 4) (p 5)
    unfold volE
    generalize p 0 = p0; generalize p 1 = p1; generalize p 2 = p2; generalize p 3 = p3; generalize p 4 = p4; generalize p 5 = p5
    grind
  · show volE (p 1 + p 2) (p 0 + p 2) (-p 2) (p 3 - p 2) (p 4 + p 2) (p 5 + p 2) = volE (p 0) (p 1) (p 2) (p 3) (p 4) (p 5)
    unfold volE
    generalize p 0 = p0; generalize p 1 = p1; generalize p 2 = p2; generalize p 3 = p3; generalize p 4 = p4; generalize p 5 = p5
    grind
  · show volE (p 4 + p 3) (p 1 + p 3) (p 2 - p 3) (-p 3) (p 0 + p 3) (p 5 + p 3) = volE (p 0) (p 1) (p 2) (p 3) (p 4) (p 5)
    unfold volE
    generalize p 0 = p0; generalize p 1 = p1; generalize p 2 = p2; generalize p 3 = p3; generalize p 4 = p4; generalize p 5 = p5
    grind
  · show volE (p 3 + p 4) (p 1 - p 4) (p 2 + p 4) (p 0 + p 4) (-p 4) (p 5 + p 4) = volE (p 0) (p 1) (p 2) (p 3) (p 4) (p 5)
    unfold volE
    generalize p 0 = p0; generalize p 1 = p1; generalize p 2 = p2; generalize p 3 = p3; generalize p 4 = p4; generalize p 5 = p5
    grind
  · show volE (p 0 - p 5) (p 3 + p 5) (p 2 + p 5) (p 1 + p 5) (p 4 + p 5) (-p 5) = volE (p 0) (p 1) (p 2) (p 3) (p 4) (p 5)
    unfold volE
    generalize p 0 = p0; generalize p 1 = p1; generalize p 2 = p2; generalize p 3 = p3; generalize p 4 = p4; generalize p 5 = p5
    grind
  · show volE (-p 0) (p 1 + p 0) (p 2 + p 0) (p 4 + p 0) (p 3 + p 0) (p 5 - p 0) = volE (p 0) (p 1) (p 2) (p 3) (p 4) (p 5)
    unfold volE
    generalize p 0 = p0; generalize p 1 = p1; generalize p 2 = p2; generalize p 3 = p3; generalize p 4 = p4; generalize p 5 = p5
    grind
  · show volE (p 0 + p 1) (-p 1) (p 2 + p 1) (p 5 + p 1) (p 4 - p 1) (p 3 + p 1) = volE (p 0) (p 1) (p 2) (p 3) (p 4) (p 5)
    unfold volE
    generalize p 0 = p0; generalize p 1 = p1; generalize p 2 = p2; generalize p 3 = p3; generalize p 4 = p4; generalize p 5 = p5
    grind
  · show volE (p 0 + p 2) (p 1 + p 2) (-p 2) (p 3 - p 2) (p 5 + p 2) (p 4 + p 2) = volE (p 0) (p 1) (p 2) (p 3) (p 4) (p 5)
    unfold volE
    generalize p 0 = p0; generalize p 1 = p1; generalize p 2 = p2; generalize p 3 = p3; generalize p 4 = p4; generalize p 5 = p5
    grind
  · show volE (p 0 + p 3) (p 5 + p 3) (p 2 - p 3) (-p 3) (p 4 + p 3) (p 1 + p 3) = volE (p 0) (p 1) (p 2) (p 3) (p 4) (p 5)
    unfold volE
    generalize p 0 = p0; generalize p 1 = p1; generalize p 2 = p2; generalize p 3 = p3; generalize p 4 = p4; generalize p 5 = p5
    grind
  · show volE (p 0 + p 4) (p 1 - p 4) (p 5 + p 4) (p 3 + p 4) (-p 4) (p 2 + p 4) = volE (p 0) (p 1) (p 2) (p 3) (p 4) (p 5)
    unfold volE
    generalize p 0 = p0; generalize p 1 = p1; generalize p 2 = p2; generalize p 3 = p3; generalize p 4 = p4; generalize p 5 = p5
    grind
  · show volE (p 0 - p 5) (p 1 + p 5) (p 4 + p 5) (p 3 + p 5) (p 2 + p 5) (-p 5) = volE (p 0) (p 1) (p 2) (p 3) (p 4) (p 5)
    unfold volE
    generalize p 0 = p0; generalize p 1 = p1; generalize p 2 = p2; generalize p 3 = p3; generalize p 4 = p4; generalize p 5 = p5
    grind
/-- words that add up to nought and are three apart -/
structure Wok (ws : Nat → Nat) : Prop where
  lt : W8 ws
  sum : ws 3 = ws 0 ^^^ ws 1 ^^^ ws 2
  ind : ws 0 ≠ 0 ∧ ws 1 ≠ 0 ∧ ws 2 ≠ 0 ∧ ws 0 ^^^ ws 1 ≠ 0 ∧ ws 0 ^^^ ws 2 ≠ 0 ∧ ws 1 ^^^ ws 2 ≠ 0 ∧ ws 0 ^^^ ws 1 ^^^ ws 2 ≠ 0
noncomputable def okb (a b c : Nat) : Bool := a != 0 && b != 0 && c != 0 && a ^^^ b != 0 && a ^^^ c != 0 && b ^^^ c != 0 && a ^^^ b ^^^ c != 0
theorem Wok.okb {ws : Nat → Nat} (h : Wok ws) : okb (ws 0) (ws 1) (ws 2) = true := by
  obtain ⟨-, -, h1, h2, h3, h4, h5, h6, h7⟩ := h
  simp [Mine.okb, h1, h2, h3, h4, h5, h6, h7]
theorem Wok.of {ws : Nat → Nat} (h8 : W8 ws) (hs : ws 3 = ws 0 ^^^ ws 1 ^^^ ws 2) (hi : Mine.okb (ws 0) (ws 1) (ws 2) = true) : Wok ws := by
  simp only [Mine.okb, Bool.and_eq_true, bne_iff_ne, ne_eq] at hi
  obtain ⟨⟨⟨⟨⟨⟨h1, h2⟩, h3⟩, h4⟩, h5⟩, h6⟩, h7⟩ := hi
  exact ⟨h8, hs, h1, h2, h3, h4, h5, h6, h7⟩
/-- a Bool of three words, whatever the words -/
theorem all8 {P : Nat → Nat → Nat → Prop} {a b c : Nat} (h : ∀ a, a < 8 → ∀ b, b < 8 → ∀ c, c < 8 → P a b c) (ha : a < 8) (hb : b < 8) (hc : c < 8) : P a b c := h a ha b hb c hc
noncomputable def bas (a b c : Nat) (n : Nat) : Nat := [a, b, c, a ^^^ b ^^^ c].getD n 0
theorem Wok.bas {ws : Nat → Nat} (h : Wok ws) : ∀ n, n < 4 → ws n = Mine.bas (ws 0) (ws 1) (ws 2) n := by
  intro n hn
  match n, hn with
  | 0, _ => rfl
  | 1, _ => rfl
  | 2, _ => rfl
  | 3, _ => exact h.sum
noncomputable def okw (w : Nat → Nat) : Bool := Mine.okb (w 0) (w 1) (w 2) && w 3 == w 0 ^^^ w 1 ^^^ w 2
noncomputable def chkT : Bool := (List.range 8).all fun a => (List.range 8).all fun b => (List.range 8).all fun c => !Mine.okb a b c || (List.range 6).all fun t => (List.range 2).all fun sd => okw (turnW (Mine.bas a b c) (Int.ofNat t) (Int.ofNat sd))
theorem chkT_ok : chkT = true := by decide +kernel
theorem all_range {n : Nat} {f : Nat → Bool} (h : (List.range n).all f = true) {i : Nat} (hi : i < n) : f i = true := List.all_eq_true.mp h i (List.mem_range.mpr hi)
theorem bas_turn {a b c : Nat} (ha : a < 8) (hb : b < 8) (hc : c < 8) (ho : Mine.okb a b c = true) {t sd : Nat} (ht : t < 6) (hs : sd < 2) : okw (turnW (Mine.bas a b c) (Int.ofNat t) (Int.ofNat sd)) = true := by
  have k := all_range (all_range (all_range chkT_ok ha) hb) hc
  rw [ho, Bool.not_true, Bool.false_or] at k
  exact all_range (all_range k ht) hs
theorem turnW_cong {ws ws' : Nat → Nat} (h : ∀ n, n < 4 → ws n = ws' n) {t sd : Int} (h0 : 0 ≤ t) (h6 : t < 6) (s0 : 0 ≤ sd) (s2 : sd < 2) : ∀ n, n < 4 → turnW ws t sd n = turnW ws' t sd n := by
  intro n hn
  have e0 := h 0 (by decide)
  have e1 := h 1 (by decide)
  have e2 := h 2 (by decide)
  have e3 := h 3 (by decide)
  have en := h n hn
  refine turn_cases (P := fun t sd => turnW ws t sd n = turnW ws' t sd n) h0 h6 s0 s2 ?_ ?_ ?_ ?_ ?_ ?_ ?_ ?_ ?_ ?_ ?_ ?_ <;>
  · simp [turnW, upd, PA, PB, KK, MM, e0, e1, e2, e3, en]
theorem Wok.turn {ws : Nat → Nat} (h : Wok ws) {t sd : Int} (h0 : 0 ≤ t) (h6 : t < 6) (s0 : 0 ≤ sd) (s2 : sd < 2) : Wok (turnW ws t sd) := by
  have cg := turnW_cong h.bas h0 h6 s0 s2
  have k := bas_turn (h.lt 0) (h.lt 1) (h.lt 2) h.okb (show t.toNat < 6 by omega) (show sd.toNat < 2 by omega)
  rw [show Int.ofNat t.toNat = t by simp; omega, show Int.ofNat sd.toNat = sd by simp; omega] at k
  unfold okw at k
  rw [← cg 0 (by decide), ← cg 1 (by decide), ← cg 2 (by decide), ← cg 3 (by decide), Bool.and_eq_true, beq_iff_eq] at k
  exact Wok.of (h.lt.turn t sd) k.2 k.1
/-- what each turn keeps -/
structure Inv (p₀ : Nat → Int) (ws₀ : Nat → Nat) (p : Nat → Int) (ws : Nat → Nat) : Prop where
  wok : Wok ws
  tak : ∀ c v, Tak p ws c v ↔ Tak p₀ ws₀ c v
  vol : volP p = volP p₀
theorem Inv.rfl' {p : Nat → Int} {ws : Nat → Nat} (h : Wok ws) : Inv p ws p ws := ⟨h, fun _ _ => Iff.rfl, rfl⟩
theorem Inv.turn {p₀ : Nat → Int} {ws₀ : Nat → Nat} {p : Nat → Int} {ws : Nat → Nat} (h : Inv p₀ ws₀ p ws) {t sd : Int} (h0 : 0 ≤ t) (h6 : t < 6) (s0 : 0 ≤ sd) (s2 : sd < 2) : Inv p₀ ws₀ (turnP p t sd) (turnW ws t sd) :=
  ⟨h.wok.turn h0 h6 s0 s2, fun c v => (tak_turn p ws h0 h6 s0 s2 c v).trans (h.tak c v), (vol_turn p h0 h6 s0 s2).trans h.vol⟩
/-- a vector by four ints -/
noncomputable def v4 (a b c d : Int) (n : Nat) : Int := [a, b, c, d].getD n 0
/-- the cut of the seven kinds -/
noncomputable def cutv (i : Nat) : Nat → Int := [v4 1 0 0 0, v4 0 1 0 0, v4 0 0 1 0, v4 0 0 0 1, v4 1 1 0 0, v4 1 0 1 0, v4 1 0 0 1].getD i (v4 0 0 0 0)
theorem nat7 {P : Nat → Prop} {k : Nat} (hk : k < 7) (a : P 0) (b : P 1) (c : P 2) (d : P 3) (e : P 4) (f : P 5) (g : P 6) : P k := by
  rcases (by omega : k = 0 ∨ k = 1 ∨ k = 2 ∨ k = 3 ∨ k = 4 ∨ k = 5 ∨ k = 6) with rfl | rfl | rfl | rfl | rfl | rfl | rfl <;> assumption
theorem nd_frm (p : Nat → Int) (ws : Nat → Nat) {i : Nat} (hi : i < 7) : (nd p ws i).2 = frm p (cutv i) := by
  refine nat7 (P := fun i => (nd p ws i).2 = frm p (cutv i)) hi ?_ ?_ ?_ ?_ ?_ ?_ ?_ <;>
  · simp [nd, ST, List.range, List.range.loop, sixSum, frm, cutv, v4]
    try omega
theorem nd_cls (p : Nat → Int) (ws : Nat → Nat) {i : Nat} (hi : i < 7) : (nd p ws i).1 = cls ws (cutv i) := by
  refine nat7 (P := fun i => (nd p ws i).1 = cls ws (cutv i)) hi ?_ ?_ ?_ ?_ ?_ ?_ ?_ <;>
  · simp [nd, cls, bt, cutv, v4]
theorem nd_tak (p : Nat → Int) (ws : Nat → Nat) {i : Nat} (hi : i < 7) : Tak p ws (nd p ws i).1 (nd p ws i).2 := ⟨cutv i, (nd_cls p ws hi).symm, (nd_frm p ws hi).symm⟩
noncomputable def par (x : Nat → Int) (n : Nat) : Int := x n % 2
theorem cls_par (ws x) : cls ws (par x) = cls ws x := by
  have e : ∀ a w, bt (a % 2) w = bt a w := fun a w => by unfold bt; rw [show a % 2 % 2 = a % 2 by omega]
  simp [cls, par, e]
theorem sqn (a : Int) : 0 ≤ a * a := by rw [← Int.natAbs_mul_self]; exact Int.natCast_nonneg _
theorem sq_par (a b : Int) : (a % 2 - b % 2) * (a % 2 - b % 2) ≤ (a - b) * (a - b) := by
  rcases (by omega : a % 2 = 0 ∨ a % 2 = 1) with h | h <;> rcases (by omega : b % 2 = 0 ∨ b % 2 = 1) with g | g <;> rw [h, g]
  · have := sqn (a - b); omega
  · have h1 : a - b ≠ 0 := by omega
    have := sqn (a - b)
    have h2 : (a - b) * (a - b) ≠ 0 := fun e => by rcases Int.mul_eq_zero.mp e with e | e <;> exact h1 e
    omega
  · have h1 : a - b ≠ 0 := by omega
    have := sqn (a - b)
    have h2 : (a - b) * (a - b) ≠ 0 := fun e => by rcases Int.mul_eq_zero.mp e with e | e <;> exact h1 e
    omega
  · have := sqn (a - b); omega
theorem frm_par {p : Nat → Int} (hp : ∀ t, t < 6 → 0 ≤ p t) (x : Nat → Int) : frm p (par x) ≤ frm p x := by
  have m : ∀ t, t < 6 → ∀ a b, p t * ((a % 2 - b % 2) * (a % 2 - b % 2)) ≤ p t * ((a - b) * (a - b)) := fun t ht a b => Int.mul_le_mul_of_nonneg_left (sq_par a b) (hp t ht)
  have a0 := m 0 (by decide) (x 0) (x 1)
  have a1 := m 1 (by decide) (x 0) (x 2)
  have a2 := m 2 (by decide) (x 0) (x 3)
  have a3 := m 3 (by decide) (x 1) (x 2)
  have a4 := m 4 (by decide) (x 1) (x 3)
  have a5 := m 5 (by decide) (x 2) (x 3)
  show p 0 * _ + p 1 * _ + p 2 * _ + p 3 * _ + p 4 * _ + p 5 * _ ≤ p 0 * _ + p 1 * _ + p 2 * _ + p 3 * _ + p 4 * _ + p 5 * _
  unfold par
  omega

theorem frm_nonneg {p : Nat → Int} (hp : ∀ t, t < 6 → 0 ≤ p t) (x : Nat → Int) : 0 ≤ frm p x := by
  have a0 := Int.mul_nonneg (hp 0 (by decide)) (sqn (x 0 - x 1))
  have a1 := Int.mul_nonneg (hp 1 (by decide)) (sqn (x 0 - x 2))
  have a2 := Int.mul_nonneg (hp 2 (by decide)) (sqn (x 0 - x 3))
  have a3 := Int.mul_nonneg (hp 3 (by decide)) (sqn (x 1 - x 2))
  have a4 := Int.mul_nonneg (hp 4 (by decide)) (sqn (x 1 - x 3))
  have a5 := Int.mul_nonneg (hp 5 (by decide)) (sqn (x 2 - x 3))
  unfold frm
  omega
theorem Inv.sum {p₀ : Nat → Int} {ws₀ : Nat → Nat} {p : Nat → Int} {ws : Nat → Nat} (h : Inv p₀ ws₀ p ws) (hp : ∀ t, t < 6 → 0 ≤ p₀ t) : 0 ≤ sixSum p := by
  have k : ∀ x, 0 ≤ frm p x := fun x => by
    obtain ⟨y, -, e⟩ := (h.tak _ _).mp ⟨x, rfl, rfl⟩
    rw [← e]
    exact frm_nonneg hp y
  have a0 := k (cutv 0)
  have a1 := k (cutv 1)
  have a2 := k (cutv 2)
  have a3 := k (cutv 3)
  have a4 := k (cutv 4)
  have a5 := k (cutv 5)
  have a6 := k (cutv 6)
  simp [frm, cutv, v4] at a0 a1 a2 a3 a4 a5 a6
  simp [sixSum]
  omega
theorem Inv.step {p₀ : Nat → Int} {ws₀ : Nat → Nat} (hp : ∀ t, t < 6 → 0 ≤ p₀ t) (p : Nat → Int) (ws : Nat → Nat) (t sd : Int) (h : Inv p₀ ws₀ p ws) (h0 : 0 ≤ t) (h6 : t < 6) (hn : p t.toNat < 0) (s0 : 0 ≤ sd) (s2 : sd < 2) :
    Inv p₀ ws₀ (turnP p t sd) (turnW ws t sd) ∧ (sixSum (turnP p t sd)).toNat < (sixSum p).toNat := by
  have h' := h.turn h0 h6 s0 s2
  have a := h'.sum hp
  have b := h.sum hp
  have c := sum_turn p h0 h6 s0 s2
  exact ⟨h', by omega⟩
theorem born_wok : Wok bornW := ⟨born_w8, by decide, by decide⟩
theorem start_nonneg (c : Int) : ∀ t, t < 6 → 0 ≤ startP c t := by
  have m2 : ∀ a : Int, 0 ≤ a.fmod 2 := fun a => Int.fmod_nonneg_of_pos a (by decide)
  have m3 : ∀ a : Int, 0 ≤ a.fmod 3 := fun a => Int.fmod_nonneg_of_pos a (by decide)
  intro t ht
  refine nat6 (P := fun t => 0 ≤ startP c t) ht ?_ ?_ ?_ ?_ ?_ ?_
  · exact Int.add_nonneg (by decide) (m2 _)
  · exact m3 _
  · exact m3 _
  · exact Int.add_nonneg (by decide) (m2 _)
  · exact m3 _
  · exact Int.add_nonneg (by decide) (m2 _)
theorem spoil_inv {p₀ : Nat → Int} {ws₀ : Nat → Nat} {p : Nat → Int} {ws : Nat → Nat} (h : Inv p₀ ws₀ p ws) (c : Int) : Inv p₀ ws₀ (spoilP p c) (spoilW ws c) :=
  ((h.turn (fmod6 _).1 (fmod6 _).2 (fdiv6 _).1 (fdiv6 _).2).turn (fmod6 _).1 (fmod6 _).2 (fdiv6 _).1 (fdiv6 _).2).turn (fmod6 _).1 (fmod6 _).2 (fdiv6 _).1 (fdiv6 _).2
end Plain_
section Law1_
open PySem PySem.W PySem.Spec PySem.Calls PyProof.Rows PyProof.Rows.LCg PyProof.Rows.LCp
section
variable {w : World} {k : Nat} {f : Addr} {vs : List Value} {kws : List (Str × Value)} {own : Led} {Out : Led → Value → Prop}
variable {p : Program} {loose : List Str} {mean : ExcName → Option Value} {mg mb : Str → Option Value} {dp un : Nat} {gd : Option (List Code)} {cn : Str} {cs : Scope} {a : Addr} {ccd : Value} {cl : List (Str × Addr)} {outer : List Env} {A₀ : Around} {base h₀ : Heap} {L : Addr} {m : Str → Option Value} {s : Shared}
    {Q E : Value → Shared → Prop}
/-- a call that changes its own ledger; `keep` stands -/
theorem mut_use {news : Led} (keep : Led) (C : CtrK w k f vs kws own Out)
    (B : Below A₀ base outer h₀) (F : Fr h₀ L s.heap m) (X : (KP w.params).In h₀) (N : News h₀ L s.heap news) (hs : ∀ p ∈ own, p ∈ news) (hkp : ∀ p ∈ keep, p ∈ news ∧ p.1 ∉ own.map (·.1)) (T : Top p loose mean mg mb h₀) (hk : cs.kind = .function) (hd : dp + k < recursionLimit) (hu : un + 10 * k < cLine)
    (ret : ∀ r ns h' tk', Fr h₀ L h' m → News h₀ L h' (ns ++ keep) → (∀ p ∈ keep, p.1 ∉ ns.map (·.1)) → Out ns r → Q r { s with heap := h', toks := tk' }) :
    wpAny (model PySem.Challenge.rw_to0046_01.row.prog w) (ktrTop dp un gd cn cs L a ccd cl outer) (call (.ref f) vs kws) Q E s :=
  C _ _ _ _ _ _ _ _ _ _ _ _ _ _ _ _ _ _ _ _ _ _ B F X (fun p hp => N p (hs p hp)) T hk hd hu (fun r ns h' tk' F' N' G fr o => by
    refine ret r ns h' tk' F' (fun q hq => ?_) (fun p hp hm => ?_) o
    · rcases List.mem_append.mp hq with hq | hq
      · exact N' q hq
      · have hn := hkp q hq
        exact ⟨G _ _ (N q hn.1).1 hn.2, (N q hn.1).2⟩
    · have hn := hkp p hp
      obtain ⟨q, hq, e⟩ := List.mem_map.mp hm
      rcases fr q hq with h1 | h1
      · rw [e] at h1; exact hn.2 h1
      · have h2 := (N p hn.1).1
        rw [e] at h1
        rw [h1] at h2
        cases h2)
end
/-- a kind of an object -/
noncomputable def dsc (o : Obj) : Nat := match o.data with
  | .seq i _ => i.size + 10
  | .cell _ => 1
  | .dict _ _ => 2
  | _ => 3
theorem dsc_ne {h₀ h : Heap} {L : Addr} {news : Led} {p q : Addr × Obj} (N : News h₀ L h news) (hp : p ∈ news) (hq : q ∈ news) (hd : dsc p.2 ≠ dsc q.2) : p.1 ≠ q.1 := by
  intro e
  have x := (N _ hp).1
  have y := (N _ hq).1
  rw [e, y] at x
  exact hd (congrArg dsc (Option.some.inj x)).symm
noncomputable def txt (x : Int) : Str := Str.ofString (toString x)
theorem txt_fine {x : Int} (h0 : 0 ≤ x) (h1 : x < 100) : Fine (txt x) ∧ (txt x).cps.size ≤ 1000 := by
  obtain ⟨n, rfl⟩ := Int.eq_ofNat_of_zero_le h0
  have hn : n < 100 := by omega
  have k : ∀ n : Nat, n < 100 → (txt (n : Int)).cps.all (fun c => decide (32 ≤ c) && decide (c < 127)) = true ∧ (txt (n : Int)).cps.size ≤ 1000 := by decide +kernel
  exact ⟨fine_of (k n hn).1, (k n hn).2⟩
noncomputable def HCell.dat (r : HCell) : Nat × Str := (r.n, r.v)
noncomputable abbrev headO (w : World) (l : Addr) (kt : Tok) : Obj := dictOf [{ hash := PyData.keyHash w.params (Str.ofString "_headers"), key := Value.str (Str.ofString "_headers") kt, val := Value.ref l }] 1
/-- the shelf and what stands beside it -/
noncomputable abbrev shelfN (w : World) (H d l : Addr) (R : List HCell) (kt : Tok) (c : Addr) (oc : Obj) (rest : Led) : Led :=
  (c, oc) :: (H, instObj 203 d) :: (d, headO w l kt) :: (l, lst (rowH R)) :: (R.map HCell.led ++ rest)
noncomputable def kInv (w : World) (H d l : Addr) (kt : Tok) (c : Addr) (oc : Obj) (rest : Led) (Ra : List NCell) (i : Nat) (ys : List Value) (nw : Led) : Prop :=
  ∃ R : List HCell, nw = shelfN w H d l R kt c oc rest ∧ ys = R.map (fun r => Value.str r.v r.tv) ∧ R.map HCell.dat = (Ra.take i).map (fun r => (r.n, txt r.x)) ∧ ∀ p ∈ rest, p.1 ∉ (shelfL w H d l R kt).map (·.1)
theorem look_new {R : List HCell} {Ra : List NCell} {i : Nat} {r : NCell} (hd : R.map HCell.dat = (Ra.take i).map (fun r => (r.n, txt r.x))) (hr : Ra[i]? = some r) (hn : (Ra.map (·.n)).Nodup) : lookH R r.n = .none := by
  have h1 : R.map (·.n) = (Ra.take i).map (·.n) := by
    have := congrArg (List.map Prod.fst) hd
    simpa [HCell.dat, Function.comp_def] using this
  have h2 : r.n ∉ R.map (·.n) := by
    rw [h1]
    intro hm
    obtain ⟨x, hx, e⟩ := List.mem_map.mp hm
    obtain ⟨j, hj, rfl⟩ := List.mem_iff_getElem.mp hx
    rw [List.length_take] at hj
    rw [List.getElem_take] at e
    obtain ⟨hi, e2⟩ := List.getElem?_eq_some_iff.mp hr
    have e3 : (Ra.map (·.n))[j]'(by rw [List.length_map]; omega) = (Ra.map (·.n))[i]'(by rw [List.length_map]; exact hi) := by
      rw [List.getElem_map, List.getElem_map, e2]
      exact e
    exact List.pairwise_iff_getElem.mp hn j i (by rw [List.length_map]; omega) (by rw [List.length_map]; exact hi) (by omega) e3
  unfold lookH
  rw [List.find?_eq_none.mpr (fun x hx => by simpa using fun e => h2 (List.mem_map.mpr ⟨x, hx, e⟩))]
theorem k_snoc {R : List HCell} {Ra : List NCell} {i : Nat} {r : NCell} {z : HCell} (hd : R.map HCell.dat = (Ra.take i).map (fun r => (r.n, txt r.x))) (hr : Ra[i]? = some r) (hz : z.dat = (r.n, txt r.x)) :
    (R ++ [z]).map HCell.dat = (Ra.take (i + 1)).map (fun r => (r.n, txt r.x)) := by
  rw [List.map_append, hd, List.take_add_one, hr, List.map_append]
  show _ ++ [z.dat] = _
  rw [hz]
  rfl
theorem rowN_at {R : List NCell} {i : Nat} {v : Value} (hv : (rowN R).toArray[i]? = some v) : ∃ c, R[i]? = some c ∧ v = .ref c.a := by
  have hv' : (rowN R)[i]? = some v := by simpa using hv
  unfold rowN at hv'
  rw [List.getElem?_map] at hv'
  cases e : R[i]? with
  | none => rw [e] at hv'; cases hv'
  | some c => rw [e] at hv'; exact ⟨c, rfl, (Option.some.inj hv').symm⟩
/-- a turn's end where the shelf has grown -/
theorem k_end {h₀ h9 : Heap} {L : Addr} {m : Str → Option Value} {s : Shared} {w : World} {H d l c I C D : Addr} {oc oI oC : Obj} {R : List HCell} {kt : Tok} {rest : Led} {Ra : List NCell} {i tk9 : Nat} {r : NCell} {z : HCell} {ys : List Value}
    (F : Fr h₀ L h9 m) (N : News h₀ L h9 (shelfL w H d l (R ++ [z]) kt ++ ((I, oI) :: (C, oC) :: (D, lst ys) :: rest)))
    (ap : ∀ p ∈ (I, oI) :: (C, oC) :: (D, lst ys) :: rest, p.1 ∉ (shelfL w H d l (R ++ [z]) kt).map (·.1)) (off : Off3 I C D (shelfN w H d l R kt c oc rest)) (hc : (c, oc) ∈ rest)
    (hd : R.map HCell.dat = (Ra.take i).map (fun r => (r.n, txt r.x))) (hr : Ra[i]? = some r) (hz : z.dat = (r.n, txt r.x)) (hy : ys = R.map (fun r => Value.str r.v r.tv)) :
    WentG h₀ L m s I oI C oC D (lst ys) (kInv w H d l kt c oc rest Ra (i + 1) (ys ++ [Value.str z.v z.tv])) { s with heap := h9, toks := tk9 } := by
  refine ⟨h9, tk9, shelfN w H d l (R ++ [z]) kt c oc rest, rfl, F, fun p hp => N p ?_, Off3.of fun p hp => ?_, R ++ [z], rfl, by rw [hy]; simp, k_snoc hd hr hz, fun p hp => ap p (.tail _ (.tail _ (.tail _ hp)))⟩
  · rcases List.mem_cons.mp hp with rfl | hp
    · exact List.mem_append_right _ (.head _)
    · rcases List.mem_cons.mp hp with rfl | hp
      · exact List.mem_append_right _ (.tail _ (.head _))
      · rcases List.mem_cons.mp hp with rfl | hp
        · exact List.mem_append_right _ (.tail _ (.tail _ (.head _)))
        · rcases List.mem_cons.mp hp with rfl | hp
          · exact List.mem_append_right _ (.tail _ (.tail _ (.tail _ hc)))
          · rcases List.mem_cons.mp hp with rfl | hp
            · exact List.mem_append_left _ (.head _)
            · rcases List.mem_cons.mp hp with rfl | hp
              · exact List.mem_append_left _ (.tail _ (.head _))
              · rcases List.mem_cons.mp hp with rfl | hp
                · exact List.mem_append_left _ (.tail _ (.tail _ (.head _)))
                · rcases List.mem_append.mp hp with hp | hp
                  · exact List.mem_append_left _ (.tail _ (.tail _ (.tail _ hp)))
                  · exact List.mem_append_right _ (.tail _ (.tail _ (.tail _ hp)))
  · have hrest : ∀ q ∈ rest, q.1 ≠ I ∧ q.1 ≠ C ∧ q.1 ≠ D := fun q hq => off.mem q (.tail _ (.tail _ (.tail _ (.tail _ (List.mem_append_right _ hq)))))
    have hsh : ∀ q ∈ shelfL w H d l (R ++ [z]) kt, q.1 ≠ I ∧ q.1 ≠ C ∧ q.1 ≠ D := fun q hq =>
      ⟨fun e => ap (I, oI) (.head _) (List.mem_map.mpr ⟨q, hq, e⟩), fun e => ap (C, oC) (.tail _ (.head _)) (List.mem_map.mpr ⟨q, hq, e⟩), fun e => ap (D, lst ys) (.tail _ (.tail _ (.head _))) (List.mem_map.mpr ⟨q, hq, e⟩)⟩
    rcases List.mem_cons.mp hp with rfl | hp
    · exact hrest _ hc
    · rcases List.mem_cons.mp hp with rfl | hp
      · exact hsh _ (.head _)
      · rcases List.mem_cons.mp hp with rfl | hp
        · exact hsh _ (.tail _ (.head _))
        · rcases List.mem_cons.mp hp with rfl | hp
          · exact hsh _ (.tail _ (.tail _ (.head _)))
          · rcases List.mem_append.mp hp with hp | hp
            · exact hsh _ (.tail _ (.tail _ (.tail _ hp)))
            · exact hrest _ hp
theorem kp_shelf {w : World} {H d l c I C D : Addr} {oc oI oC oD : Obj} {R : List HCell} {kt : Tok} {rest : Led} (off : Off3 I C D (shelfN w H d l R kt c oc rest)) (hap : ∀ p ∈ rest, p.1 ∉ (shelfL w H d l R kt).map (·.1)) :
    ∀ p ∈ (I, oI) :: (C, oC) :: (D, oD) :: rest, p ∈ (I, oI) :: (C, oC) :: (D, oD) :: shelfN w H d l R kt c oc rest ∧ p.1 ∉ (shelfL w H d l R kt).map (·.1) := by
  have hsh : ∀ q ∈ shelfL w H d l R kt, q.1 ≠ I ∧ q.1 ≠ C ∧ q.1 ≠ D := fun q hq => off.mem q (by
    rcases List.mem_cons.mp hq with rfl | hq
    · exact .tail _ (.head _)
    · rcases List.mem_cons.mp hq with rfl | hq
      · exact .tail _ (.tail _ (.head _))
      · rcases List.mem_cons.mp hq with rfl | hq
        · exact .tail _ (.tail _ (.tail _ (.head _)))
        · exact .tail _ (.tail _ (.tail _ (.tail _ (List.mem_append_left _ hq)))))
  intro p hp
  rcases List.mem_cons.mp hp with rfl | hp
  · exact ⟨.head _, fun hm => by obtain ⟨q, hq, e⟩ := List.mem_map.mp hm; exact (hsh q hq).1 e⟩
  · rcases List.mem_cons.mp hp with rfl | hp
    · exact ⟨.tail _ (.head _), fun hm => by obtain ⟨q, hq, e⟩ := List.mem_map.mp hm; exact (hsh q hq).2.1 e⟩
    · rcases List.mem_cons.mp hp with rfl | hp
      · exact ⟨.tail _ (.tail _ (.head _)), fun hm => by obtain ⟨q, hq, e⟩ := List.mem_map.mp hm; exact (hsh q hq).2.2 e⟩
      · exact ⟨.tail _ (.tail _ (.tail _ (.tail _ (.tail _ (.tail _ (.tail _ (List.mem_append_right _ hp))))))), hap p hp⟩
theorem sub_shelf {w : World} {H d l : Addr} {R : List HCell} {kt : Tok} {news : Led} (h1 : (H, instObj 203 d) ∈ news) (h2 : (d, headO w l kt) ∈ news) (h3 : (l, lst (rowH R)) ∈ news) (h4 : ∀ q ∈ R.map HCell.led, q ∈ news) : ∀ p ∈ shelfL w H d l R kt, p ∈ news := by
  intro p hp
  rcases List.mem_cons.mp hp with rfl | hp
  · exact h1
  · rcases List.mem_cons.mp hp with rfl | hp
    · exact h2
    · rcases List.mem_cons.mp hp with rfl | hp
      · exact h3
      · exact h4 _ hp
section
variable {prog : Program} {w : World} {A : Around} {s₁ : Shared} {h₀ : Heap} {L : Addr} {m : Str → Option Value} {env : Env} {elt : Expr} {x x₂ : Str} {scope : Scope} {cl : List (Str × Addr)} {Fin : Shared → List Value → Led → Prop}
theorem known_src {H d l c Da Db : Addr} {kt : Tok} {oc ob : Obj} {vc : Option Value} {Ra : List NCell} {lits : Led}
    (hh : A.handled = none) (F : Fr h₀ L s₁.heap m) (N : News h₀ L s₁.heap ((Db, ob) :: (Da, lst (rowN Ra)) :: (c, oc) :: (H, instObj 203 d) :: (d, headO w l kt) :: (l, lst (rowH [])) :: lits))
    (hoc : oc.data = .cell vc) (hob : 10 < dsc ob) (h7 : Ra.length = 7) (hl : ∀ p ∈ lits, 10 < dsc p.2) (hin : ∀ q ∈ Ra.map NCell.led, q ∈ lits)
    (turn : ∀ rest : Led, (c, oc) ∈ rest → (∀ r ∈ Ra, r.led ∈ rest) → ∀ i ys nw r, i < 7 → Ra[i]? = some r → kInv w H d l kt c oc rest Ra i ys nw → ∀ I oI C oC D m₂ h tk (E' : Value → Shared → Prop), NsObj oC m₂ → m₂ x = some (.str (NM r.n) r.tn) → m₂ x₂ = some (.int r.x r.tx) → Fr h₀ L h m → News h₀ L h ((I, oI) :: (C, oC) :: (D, lst ys) :: nw) → Off3 I C D nw →
      wpAny (model prog w) A (eval elt (compEnvC scope cl C env)) (fun y s' => WentG h₀ L m { s₁ with heap := h, toks := tk } I oI C oC D (lst ys) (kInv w H d l kt c oc rest Ra (i + 1) (ys ++ [y])) s') E' { s₁ with heap := h, toks := tk })
    (fin : ∀ g (R : List HCell), R.map HCell.dat = Ra.map (fun r => (r.n, txt r.x)) → Fin { s₁ with heap := g } (R.map (fun r => Value.str r.v r.tv)) (shelfN w H d l R kt c oc ((c, oc) :: (Db, ob) :: (Da, lst (rowN Ra)) :: lits))) :
    SrcLP prog w A h₀ L m env elt x x₂ scope cl Fin (.ref Da) s₁ := by
  have hz : (rowN Ra).length = 7 := by rw [← h7]; simp [rowN]
  have hDa : dsc (lst (rowN Ra)) = 17 := by
    show (rowN Ra).toArray.size + 10 = 17
    rw [List.size_toArray, hz]
  have hoc1 : dsc oc = 1 := by unfold dsc; rw [hoc]
  have hk : ∀ p ∈ (c, oc) :: (Db, ob) :: (Da, lst (rowN Ra)) :: lits, p ∈ ((Db, ob) :: (Da, lst (rowN Ra)) :: (c, oc) :: (H, instObj 203 d) :: (d, headO w l kt) :: (l, lst (rowH [])) :: lits : Led) ∧ (dsc p.2 = 1 ∨ 10 < dsc p.2) := by
    intro p hp
    rcases List.mem_cons.mp hp with rfl | hp
    · exact ⟨.tail _ (.tail _ (.head _)), .inl hoc1⟩
    · rcases List.mem_cons.mp hp with rfl | hp
      · exact ⟨.head _, .inr hob⟩
      · rcases List.mem_cons.mp hp with rfl | hp
        · exact ⟨.tail _ (.head _), .inr (by rw [hDa]; decide)⟩
        · exact ⟨.tail _ (.tail _ (.tail _ (.tail _ (.tail _ (.tail _ hp))))), .inr (hl p hp)⟩
  refine SrcLP.ledger (its := (rowN Ra).toArray) hh F (N := fun q hq => N q (?_ : q ∈ _)) (news := shelfN w H d l [] kt c oc ((c, oc) :: (Db, ob) :: (Da, lst (rowN Ra)) :: lits)) (.tail _ (.tail _ (.tail _ (.tail _ (.tail _ (.tail _ (.head _))))))) ?_ ?_
  · rcases List.mem_cons.mp hq with rfl | hq
    · exact .tail _ (.tail _ (.head _))
    · rcases List.mem_cons.mp hq with rfl | hq
      · exact .tail _ (.tail _ (.tail _ (.head _)))
      · rcases List.mem_cons.mp hq with rfl | hq
        · exact .tail _ (.tail _ (.tail _ (.tail _ (.head _))))
        · rcases List.mem_cons.mp hq with rfl | hq
          · exact .tail _ (.tail _ (.tail _ (.tail _ (.tail _ (.head _)))))
          · exact (hk q hq).1
  · rw [List.size_toArray, hz]; decide
  intro g'
  show CompRestP prog w A h₀ L m env elt x x₂ scope cl _ _ _ _ (rowN Ra).toArray.size 0 [] _
  rw [List.size_toArray, hz]
  refine restP_grow (n := 7) (kInv w H d l kt c oc ((c, oc) :: (Db, ob) :: (Da, lst (rowN Ra)) :: lits) Ra) ?turn ?src ?fin 7 0 [] _ rfl ⟨[], rfl, rfl, rfl, ?ap⟩
  case src =>
    rintro i ys nw ⟨R, rfl, -, -, -⟩
    exact .inr ⟨_, .tail _ (.tail _ (.tail _ (.tail _ (List.mem_append_right _ (.tail _ (.tail _ (.head _))))))), rfl, _, rfl⟩
  case turn =>
    rintro i ys nw v hi hinv hv
    obtain ⟨r, hr, rfl⟩ := rowN_at hv
    have hm : r.led ∈ lits := hin _ (List.mem_map_of_mem (List.mem_of_getElem? hr))
    have hnw : r.led ∈ nw := by
      obtain ⟨R, rfl, -, -, -⟩ := hinv
      exact .tail _ (.tail _ (.tail _ (.tail _ (List.mem_append_right _ (.tail _ (.tail _ (.tail _ hm)))))))
    refine ⟨r.a, r.led.2, .str (NM r.n) r.tn, .int r.x r.tx, r.c, rfl, hnw, rfl, rfl, ?_⟩
    intro I oI C oC D m₂ h tk E' hC hx hx2 F' N' off ne
    exact turn _ (.head _) (fun r hr => .tail _ (.tail _ (.tail _ (hin _ (List.mem_map_of_mem hr))))) i ys nw r hi hr hinv I oI C oC D m₂ h tk E' hC hx hx2 F' N' off
  case fin =>
    rintro ys nw ⟨R, rfl, rfl, hd, -⟩
    rw [List.take_of_length_le (by omega)] at hd
    exact fin _ R hd
  case ap =>
    intro p hp hm
    obtain ⟨q, hq, e⟩ := List.mem_map.mp hm
    have hqn : q ∈ ((Db, ob) :: (Da, lst (rowN Ra)) :: (c, oc) :: (H, instObj 203 d) :: (d, headO w l kt) :: (l, lst (rowH [])) :: lits : Led) ∧ (dsc q.2 = 3 ∨ dsc q.2 = 2 ∨ dsc q.2 = 10) := by
      rcases List.mem_cons.mp hq with rfl | hq
      · exact ⟨.tail _ (.tail _ (.tail _ (.head _))), .inl rfl⟩
      · rcases List.mem_cons.mp hq with rfl | hq
        · exact ⟨.tail _ (.tail _ (.tail _ (.tail _ (.head _)))), .inr (.inl rfl)⟩
        · rcases List.mem_cons.mp hq with rfl | hq
          · exact ⟨.tail _ (.tail _ (.tail _ (.tail _ (.tail _ (.head _))))), .inr (.inr rfl)⟩
          · cases hq
    exact dsc_ne N hqn.1 (hk p hp).1 (by rcases (hk p hp).2 with a | a <;> rcases hqn.2 with b | b | b <;> omega) e
end
theorem rowN_dsc {R : List NCell} (h : R.length = 7) : 10 < dsc (lst (rowN R)) := by
  show 10 < (rowN R).toArray.size + 10
  rw [List.size_toArray]
  simp [rowN, h]
theorem cells_dsc (A B : List NCell) : ∀ p ∈ A.map NCell.led ++ B.map NCell.led, 10 < dsc p.2 := by
  intro p hp
  rcases List.mem_append.mp hp with hp | hp <;>
  · obtain ⟨r, -, rfl⟩ := List.mem_map.mp hp
    exact (by decide : 10 < 12)
theorem news_known {h₀ h : Heap} {L Dk : Addr} {ok : Obj} {w : World} {H d l c : Addr} {R : List HCell} {kt : Tok} {oc : Obj} {x : Addr × Obj} {rest : Led} (N : News h₀ L h ((Dk, ok) :: shelfN w H d l R kt c oc (x :: rest))) :
    News h₀ L h ((Dk, ok) :: (c, oc) :: (H, instObj 203 d) :: (d, headO w l kt) :: (l, lst (rowH R)) :: (rest ++ R.map HCell.led)) := fun q hq => N q (by
  rcases List.mem_cons.mp hq with rfl | hq
  · exact .head _
  · rcases List.mem_cons.mp hq with rfl | hq
    · exact .tail _ (.head _)
    · rcases List.mem_cons.mp hq with rfl | hq
      · exact .tail _ (.tail _ (.head _))
      · rcases List.mem_cons.mp hq with rfl | hq
        · exact .tail _ (.tail _ (.tail _ (.head _)))
        · rcases List.mem_cons.mp hq with rfl | hq
          · exact .tail _ (.tail _ (.tail _ (.tail _ (.head _))))
          · refine .tail _ (.tail _ (.tail _ (.tail _ (.tail _ ?_))))
            rcases List.mem_append.mp hq with hq | hq
            · exact List.mem_append_right _ (.tail _ hq)
            · exact List.mem_append_left _ hq)
theorem dat_len {R : List HCell} {Ra : List NCell} {i : Nat} (h : R.map HCell.dat = (Ra.take i).map (fun r => (r.n, txt r.x))) : R.length ≤ Ra.length := by
  have := congrArg List.length h
  simp at this
  omega
theorem dat_lt {R : List HCell} {Ra : List NCell} {i : Nat} (h : R.map HCell.dat = (Ra.take i).map (fun r => (r.n, txt r.x))) (hb : ∀ r ∈ Ra, 1 ≤ r.n ∧ r.n < 8 ∧ 0 ≤ r.x ∧ r.x < 100) : ∀ c ∈ R, c.n < 8 := by
  intro c hc
  have hm : c.dat ∈ R.map HCell.dat := List.mem_map_of_mem hc
  rw [h] at hm
  obtain ⟨r, hr, e⟩ := List.mem_map.mp hm
  have := hb r (List.mem_of_mem_take hr)
  have e1 : r.n = c.n := congrArg Prod.fst e
  omega
theorem setd_use {w : World} {p : Program} {loose : List Str} {mean : ExcName → Option Value} {mg mb : Str → Option Value} {dp un : Nat} {gd : Option (List Code)} {cn : Str} {cs : Scope} {a : Addr} {ccd : Value} {cl : List (Str × Addr)} {outer : List Env} {A₀ : Around} {base h₀ : Heap} {L : Addr} {m : Str → Option Value} {s : Shared}
    {Q E : Value → Shared → Prop} {H d l c I C D : Addr} {oc oI oC : Obj} {R : List HCell} {kt : Tok} {rest : Led} {Ra : List NCell} {i : Nat} {r : NCell} {ys : List Value} {t tv : Tok}
    (B : Below A₀ base outer h₀) (F : Fr h₀ L s.heap m) (X : (KP w.params).In h₀) (N : News h₀ L s.heap ((I, oI) :: (C, oC) :: (D, lst ys) :: shelfN w H d l R kt c oc rest)) (T : Top p loose mean mg mb h₀) (hk : cs.kind = .function) (hd : dp + 8 < recursionLimit) (hu : un + 10 * 8 < cLine)
    (off : Off3 I C D (shelfN w H d l R kt c oc rest)) (hap : ∀ p ∈ rest, p.1 ∉ (shelfL w H d l R kt).map (·.1)) (hdR : R.map HCell.dat = (Ra.take i).map (fun r => (r.n, txt r.x))) (hr : Ra[i]? = some r) (h7 : Ra.length = 7) (hRan : (Ra.map (·.n)).Nodup) (hRab : ∀ r ∈ Ra, 1 ≤ r.n ∧ r.n < 8 ∧ 0 ≤ r.x ∧ r.x < 100)
    (ret : ∀ a9 c9 h' tk', Fr h₀ L h' m → News h₀ L h' (shelfL w H d l (R ++ [(⟨a9, r.n, txt r.x, t, tv, c9⟩ : HCell)]) kt ++ ((I, oI) :: (C, oC) :: (D, lst ys) :: rest)) → (∀ p ∈ (I, oI) :: (C, oC) :: (D, lst ys) :: rest, p.1 ∉ (shelfL w H d l (R ++ [(⟨a9, r.n, txt r.x, t, tv, c9⟩ : HCell)]) kt).map (·.1)) → Q (.str (txt r.x) tv) { s with heap := h', toks := tk' }) :
    wpAny (model PySem.Challenge.rw_to0046_01.row.prog w) (ktrTop dp un gd cn cs L a ccd cl outer) (call (.ref 193) [.ref H, .str (NM r.n) t, .str (txt r.x) tv]) Q E s := by
  have hb := hRab r (List.mem_of_getElem? hr)
  have hlen := dat_len hdR
  refine mut_use ((I, oI) :: (C, oC) :: (D, lst ys) :: rest) (setd_new w H d l R kt r.n t (txt r.x) tv (look_new hdR hr hRan) hb.2.1 (dat_lt hdR hRab) (txt_fine hb.2.2.1 hb.2.2.2).1 (txt_fine hb.2.2.1 hb.2.2.2).2 (by omega)) B F X N
    (sub_shelf (.tail _ (.tail _ (.tail _ (.tail _ (.head _))))) (.tail _ (.tail _ (.tail _ (.tail _ (.tail _ (.head _)))))) (.tail _ (.tail _ (.tail _ (.tail _ (.tail _ (.tail _ (.head _))))))) (fun q hq => .tail _ (.tail _ (.tail _ (.tail _ (.tail _ (.tail _ (.tail _ (List.mem_append_left _ hq)))))))))
    (kp_shelf off hap) T hk hd hu fun r9 ns9 h9 tk9 F9 N9 ap9 o9 => ?_
  obtain ⟨⟨a9, c9, rfl⟩, rfl⟩ := o9
  exact ret a9 c9 h9 tk9 F9 N9 ap9
theorem wentG_same {h₀ : Heap} {L : Addr} {m : Str → Option Value} {s s' : Shared} {I C D : Addr} {oI oC oD : Obj} {news : Led} {J : Led → Prop} (h : Went h₀ L m s ((I, oI) :: (C, oC) :: (D, oD) :: news) s') (off : Off3 I C D news) (j : J news) : WentG h₀ L m s I oI C oC D oD J s' := by
  obtain ⟨h', tk', e, F, N⟩ := h
  exact ⟨h', tk', news, e, F, N, off, j⟩
theorem strs_snoc {ys : List Value} {xs : List Str} {x : Str} {t : Tok} (h : StrsAre ys xs) : StrsAre (ys ++ [.str x t]) (xs ++ [x]) := h.append' (.cons _ _ .nil)
section
variable {prog : Program} {w : World} {A : Around} {s₁ : Shared} {h₀ : Heap} {L : Addr} {m : Str → Option Value} {env : Env} {elt : Expr} {x x₂ : Str} {scope : Scope} {cl : List (Str × Addr)} {Fin : Shared → List Value → Led → Prop}
theorem again_src {Db : Addr} {R : List NCell} {news : Led} {kk : Nat} (f : NCell → Str)
    (hh : A.handled = none) (F : Fr h₀ L s₁.heap m) (N : News h₀ L s₁.heap news) (hDb : (Db, ({ cls := .type "list", data := .seq (rowN R).toArray kk } : Obj)) ∈ news) (hin : ∀ q ∈ R.map NCell.led, q ∈ news) (h7 : R.length ≤ 100)
    (turn : ∀ r ∈ R, ∀ ys I oI C oC D m₂ h tk (E' : Value → Shared → Prop), NsObj oC m₂ → m₂ x = some (.str (NM r.n) r.tn) → m₂ x₂ = some (.int r.x r.tx) → Fr h₀ L h m → News h₀ L h ((I, oI) :: (C, oC) :: (D, lst ys) :: news) →
      wpAny (model prog w) A (eval elt (compEnvC scope cl C env)) (fun y s' => Went h₀ L m { s₁ with heap := h, toks := tk } ((I, oI) :: (C, oC) :: (D, lst ys) :: news) s' ∧ ∃ t, y = .str (f r) t) E' { s₁ with heap := h, toks := tk })
    (fin : ∀ g ys, StrsAre ys (R.map f) → Fin { s₁ with heap := g } ys news) :
    SrcLP prog w A h₀ L m env elt x x₂ scope cl Fin (.ref Db) s₁ := by
  have hz : (rowN R).length = R.length := by simp [rowN]
  refine SrcLP.ledger (its := (rowN R).toArray) hh F N hDb ?_ ?_
  · rw [List.size_toArray, hz]; exact Nat.le_trans h7 (by decide)
  intro g'
  show CompRestP prog w A h₀ L m env elt x x₂ scope cl _ _ _ _ (rowN R).toArray.size 0 [] _
  rw [List.size_toArray, hz]
  refine restP_grow (n := R.length) (fun i ys nw => nw = news ∧ StrsAre ys ((R.take i).map f)) ?turn ?src ?fin R.length 0 [] _ (Nat.zero_add _) ⟨rfl, .nil⟩
  case src =>
    rintro i ys nw ⟨rfl, -⟩
    exact .inr ⟨_, hDb, rfl, _, rfl⟩
  case turn =>
    rintro i ys nw v hi ⟨rfl, hy⟩ hv
    obtain ⟨r, hr, rfl⟩ := rowN_at hv
    have hm := List.mem_of_getElem? hr
    refine ⟨r.a, r.led.2, .str (NM r.n) r.tn, .int r.x r.tx, r.c, rfl, hin _ (List.mem_map_of_mem hm), rfl, rfl, ?_⟩
    intro I oI C oC D m₂ h tk E' hC hx hx2 F' N' off ne
    refine wpAny_mono (turn r hm ys I oI C oC D m₂ h tk E' hC hx hx2 F' N') (fun y s' q => ?_) fun _ _ e => e
    obtain ⟨q1, t, rfl⟩ := q
    refine wentG_same q1 off ⟨rfl, ?_⟩
    rw [List.take_add_one, hr, List.map_append]
    exact strs_snoc hy
  case fin =>
    rintro ys nw ⟨rfl, hy⟩
    rw [List.take_length] at hy
    exact fin _ ys hy
end
section
variable {w : World} {p : Program} {loose : List Str} {mean : ExcName → Option Value} {mg mb : Str → Option Value} {dp un : Nat} {gd : Option (List Code)} {cn : Str} {cs : Scope} {a : Addr} {ccd : Value} {cl : List (Str × Addr)} {outer : List Env} {A₀ : Around} {base h₀ : Heap} {L : Addr} {m : Str → Option Value} {s : Shared}
    {Q E : Value → Shared → Prop} {H d l : Addr} {kt t tv : Tok} {news : Led} {q : Nat} {x v : Str} {y : Value}
theorem setd_old_use (R : List HCell) (B : Below A₀ base outer h₀) (F : Fr h₀ L s.heap m) (X : (KP w.params).In h₀) (N : News h₀ L s.heap news) (h1 : (H, instObj 203 d) ∈ news) (h2 : (d, headO w l kt) ∈ news) (h3 : (l, lst (rowH R)) ∈ news) (h4 : ∀ q ∈ R.map HCell.led, q ∈ news)
    (T : Top p loose mean mg mb h₀) (hk : cs.kind = .function) (hd : dp + 8 < recursionLimit) (hu : un + 10 * 8 < cLine) (hv : lookH R q = .str v tv) (hq : q < 8) (hR : ∀ c ∈ R, c.n < 8) (hx : Txt.lower x = LN q) (hlen : R.length ≤ 100)
    (ret : ∀ h' tk', Fr h₀ L h' m → News h₀ L h' news → Q (.str v tv) { s with heap := h', toks := tk' }) :
    wpAny (model PySem.Challenge.rw_to0046_01.row.prog w) (ktrTop dp un gd cn cs L a ccd cl outer) (call (.ref 193) [.ref H, .str x t, y]) Q E s := by
  refine ctr_use (setd_old w H d l R kt x t y q v tv hv hq hR hx hlen) B F X N (sub_shelf h1 h2 h3 h4) T hk hd hu fun r9 ns9 h9 tk9 F9 N9 o9 => ?_
  obtain ⟨rfl, rfl⟩ := o9
  exact ret h9 tk9 F9 N9
theorem get_use (R : List HCell) (B : Below A₀ base outer h₀) (F : Fr h₀ L s.heap m) (X : (KP w.params).In h₀) (N : News h₀ L s.heap news) (h1 : (H, instObj 203 d) ∈ news) (h2 : (d, headO w l kt) ∈ news) (h3 : (l, lst (rowH R)) ∈ news) (h4 : ∀ q ∈ R.map HCell.led, q ∈ news)
    (T : Top p loose mean mg mb h₀) (hk : cs.kind = .function) (hd : dp + 6 < recursionLimit) (hu : un + 10 * 6 < cLine) (hv : lookH R q = y) (hq : q < 8) (hR : ∀ c ∈ R, c.n < 8) (hx : Txt.lower x = LN q) (hlen : R.length ≤ 100)
    (ret : ∀ h' tk', Fr h₀ L h' m → News h₀ L h' news → Q y { s with heap := h', toks := tk' }) :
    wpAny (model PySem.Challenge.rw_to0046_01.row.prog w) (ktrTop dp un gd cn cs L a ccd cl outer) (call (.ref 150) [.ref H, .str x t]) Q E s := by
  refine ctr_use (hgetV w H d l R kt x t q y hv hq hR hx hlen) B F X N (sub_shelf h1 h2 h3 h4) T hk hd hu fun r9 ns9 h9 tk9 F9 N9 o9 => ?_
  obtain ⟨rfl, rfl⟩ := o9
  exact ret h9 tk9 F9 N9
end
theorem look_old {R : List HCell} {Ra : List NCell} {n : Nat} {x : Int} (hd : R.map HCell.dat = Ra.map (fun r => (r.n, txt r.x))) (hn : (Ra.map (·.n)).Nodup) (hr : ∃ r ∈ Ra, r.n = n ∧ r.x = x) : ∃ tv, lookH R n = .str (txt x) tv := by
  obtain ⟨r, hr, rfl, rfl⟩ := hr
  unfold lookH
  cases e : R.find? (fun c => c.n == r.n) with
  | none =>
    exfalso
    have hm : (r.n, txt r.x) ∈ R.map HCell.dat := by rw [hd]; exact List.mem_map.mpr ⟨r, hr, rfl⟩
    obtain ⟨c, hc, e2⟩ := List.mem_map.mp hm
    have := List.find?_eq_none.mp e c hc
    have e3 : c.n = r.n := congrArg Prod.fst e2
    simp [e3] at this
  | some c =>
    have hc := List.mem_of_find?_eq_some e
    have hcn : c.n = r.n := by simpa using List.find?_some e
    have hm : c.dat ∈ Ra.map (fun r => (r.n, txt r.x)) := by rw [← hd]; exact List.mem_map_of_mem hc
    obtain ⟨r2, hr2, e2⟩ := List.mem_map.mp hm
    have e3 : r2.n = c.n := congrArg Prod.fst e2
    have e4 : txt r2.x = c.v := congrArg Prod.snd e2
    have e5 : r2 = r := by
      obtain ⟨i, hi, rfl⟩ := List.mem_iff_getElem.mp hr2
      obtain ⟨j, hj, rfl⟩ := List.mem_iff_getElem.mp hr
      have e6 : (Ra.map (·.n))[i]'(by rw [List.length_map]; exact hi) = (Ra.map (·.n))[j]'(by rw [List.length_map]; exact hj) := by
        rw [List.getElem_map, List.getElem_map, e3, hcn]
      have pw := List.pairwise_iff_getElem.mp hn
      rcases Nat.lt_trichotomy i j with h | h | h
      · exact absurd e6 (pw i j _ _ h)
      · subst h; rfl
      · exact absurd e6.symm (pw j i _ _ h)
    subst e5
    exact ⟨c.tv, by show Value.str c.v c.tv = _; rw [← e4]⟩
theorem dat_len2 {R : List HCell} {Ra : List NCell} (h : R.map HCell.dat = Ra.map (fun r => (r.n, txt r.x))) : R.length = Ra.length := by
  have := congrArg List.length h
  simpa using this
theorem dat_lt2 {R : List HCell} {Ra : List NCell} (h : R.map HCell.dat = Ra.map (fun r => (r.n, txt r.x))) (hb : ∀ r ∈ Ra, 1 ≤ r.n ∧ r.n < 8 ∧ 0 ≤ r.x ∧ r.x < 100) : ∀ c ∈ R, c.n < 8 := by
  intro c hc
  have hm : c.dat ∈ R.map HCell.dat := List.mem_map_of_mem hc
  rw [h] at hm
  obtain ⟨r, hr, e⟩ := List.mem_map.mp hm
  have := hb r hr
  have e1 : r.n = c.n := congrArg Prod.fst e
  omega
end Law1_
section TReach_
open PySem PySem.W PySem.Spec PySem.Calls PyProof.Rows
noncomputable def tup4 (x : Nat → Int) (u : Nat → Tok) : Array Value := #[.int (x 0) (u 0), .int (x 1) (u 1), .int (x 2) (u 2), .int (x 3) (u 3)]
theorem item_tup4 {prog : Program} {w : World} {A : Around} {E : Value → Shared → Prop} {s : Shared} {value slice : PySem.Expr} {l : Addr} {k : Int} {u : Tok} {h₀ : Heap} {L : Addr} {news : Led} {Q : Value → Shared → Prop} {x : Nat → Int} {tk : Nat → Tok} {c : Nat} (N : News h₀ L s.heap news) (hm : (l, tup (tup4 x tk) c) ∈ news) (h0 : 0 ≤ k) (h1 : k < 4) (h : Q (.int (x k.toNat) (tk k.toNat)) s)
    (hs : subscripted slice false (.ref l) (.int k u) = operate [.ref l, .int k u] (getItem (.ref l) (.int k u)) := by with_unfolding_all rfl) :
    wpAny (model prog w) A (subscriptTail value slice (.ref l) (.int k u)) Q E s := by
  have go : ∀ (j : Nat), seqIndex? k 4 = some j → (tup4 x tk).toList[j]? = some (.int (x k.toNat) (tk k.toNat)) → wpAny (model prog w) A (subscriptTail value slice (.ref l) (.int k u)) Q E s :=
    fun j e1 e2 => item_tupleT (l := (tup4 x tk).toList) (News.isTup N hm) (by omega) (by omega) e1 e2 h hs
  rcases (by omega : k = 0 ∨ k = 1 ∨ k = 2 ∨ k = 3) with rfl | rfl | rfl | rfl
  · exact go 0 rfl rfl
  · exact go 1 rfl rfl
  · exact go 2 rfl rfl
  · exact go 3 rfl rfl
/-- the class behind i places -/
noncomputable def accW (ws : Nat → Nat) (x : Nat → Int) : Nat → Nat
  | 0 => 0
  | i + 1 => accW ws x i ^^^ bt (x i) (ws i)
theorem accW_lt {ws : Nat → Nat} (h : W8 ws) (x : Nat → Int) : ∀ i, accW ws x i < 8
  | 0 => Nat.lt_of_lt_of_le Nat.zero_lt_one (by decide)
  | i + 1 => Nat.xor_lt_two_pow (n := 3) (accW_lt h x i) (by unfold bt; split; exact h i; decide)
noncomputable def reachJ (base : Led) (m₀ : Str → Option Value) (ws : Nat → Nat) (x : Nat → Int) (i : Nat) (m₁ : Str → Option Value) (news₁ : Led) : Prop :=
  ∃ (uu : Option Value) (t : Tok), news₁ = base ∧ m₁ = (fun y => if y = Str.ofString "n" then uu else if y = Str.ofString "word" then some (.str (W (accW ws x i)) t) else m₀ y)
theorem w_zero : Str.ofString "abc" = W 0 := by decide +kernel
theorem reachJ_start {base : Led} {m₀ : Str → Option Value} {ws : Nat → Nat} {x : Nat → Int} {t : Tok} : reachJ base m₀ ws x 0 (fun y => if y = Str.ofString "word" then some (.str (Str.ofString "abc") t) else m₀ y) base := by
  refine ⟨m₀ (Str.ofString "n"), t, rfl, ?_⟩
  have e : Str.ofString "n" ≠ Str.ofString "word" := by decide +kernel
  funext y
  by_cases h : y = Str.ofString "n"
  · subst h; simp [e]
  · simp [h, w_zero, accW]
theorem reachJ_put {base : Led} {m₀ : Str → Option Value} {ws : Nat → Nat} {x : Nat → Int} {i : Nat} {t t' : Tok} {v : Option Value} {n : Nat} (hn : n = accW ws x (i + 1)) : reachJ base m₀ ws x (i + 1) (fun y => if y = Str.ofString "word" then some (.str (W n) t) else if y = Str.ofString "n" then v else if y = Str.ofString "word" then some (.str (W (accW ws x i)) t') else m₀ y) base := by
  refine ⟨v, t, rfl, ?_⟩
  have e : Str.ofString "n" ≠ Str.ofString "word" := by decide +kernel
  funext y
  by_cases h : y = Str.ofString "n"
  · subst h; simp [e]
  · simp [h, hn]
    split <;> rfl
theorem reachJ_keep {base : Led} {m₀ : Str → Option Value} {ws : Nat → Nat} {x : Nat → Int} {i : Nat} {t' : Tok} {v : Option Value} (hn : accW ws x i = accW ws x (i + 1)) : reachJ base m₀ ws x (i + 1) (fun y => if y = Str.ofString "n" then v else if y = Str.ofString "word" then some (.str (W (accW ws x i)) t') else m₀ y) base := by
  exact ⟨v, t', rfl, by rw [hn]⟩
theorem sq_bd {a b : Int} (ha : -10 < a ∧ a < 10) (hb : -10 < b ∧ b < 10) : 0 ≤ (a - b) ^ Int.toNat 2 ∧ (a - b) ^ Int.toNat 2 < 400 := by
  rw [show (a - b) ^ Int.toNat 2 = (a - b) * (a - b) from by show (a - b) ^ 2 = _; rw [Int.pow_succ, Int.pow_succ, Int.pow_zero, Int.one_mul]]
  refine ⟨sqn _, ?_⟩
  have h1 : (a - b) ≤ 18 := by omega
  have h2 : -18 ≤ (a - b) := by omega
  generalize a - b = z at *
  rcases Int.le_total 0 z with h | h
  · have := Int.mul_le_mul h1 h1 h (by decide); omega
  · have k : -z * -z ≤ 18 * 18 := Int.mul_le_mul (by omega) (by omega) (by omega) (by decide)
    rw [Int.neg_mul_neg] at k; omega
/-- the form's six parts -/
noncomputable def part (p x : Nat → Int) (t : Nat) : Int := p t * (x ([0, 0, 0, 1, 1, 2].getD t 0) - x ([1, 2, 3, 2, 3, 3].getD t 0)) ^ Int.toNat 2
theorem part_sum (p x : Nat → Int) : ((List.range 6).map (part p x)).sum = frm p x := by
  have e : ∀ z : Int, z ^ Int.toNat 2 = z * z := fun z => by show z ^ 2 = _; rw [Int.pow_succ, Int.pow_succ, Int.pow_zero, Int.one_mul]
  have e2 : ∀ z : Int, z ^ 2 = z * z := e
  simp [List.range, List.range.loop, part, e2, frm]
  omega
theorem store_cell2 {M : Model} {A : Around} {E : Value → Shared → Prop} {s : Shared} {h₀ : Heap} {L a : Addr} {m : Str → Option Value} {cn : Str} {cs : Scope} {ccd : Value} {cl : List (Str × Addr)}
    {x : Str} {v : Value} {Q : Unit → Shared → Prop} {news keep : Led} {c : Addr} {o : Obj} {v₀ : Option Value} (F : Fr h₀ L s.heap m) (N : News h₀ L s.heap news) (hc : cl.lookup x = some c) (hm : (c, o) ∈ news) (hd : o.data = .cell v₀)
    (hk : ∀ q ∈ keep, q ∈ news ∧ (q.2.data ≠ .cell v₀ ∨ @Ne Nat q.1 c))
    (h : ∀ h' o', Fr h₀ L h' m → News h₀ L h' ((c, o') :: keep) → o'.data = .cell (some v) → Q () { s with heap := h' })
    (hkd : cs.kind = .function := by rfl) (hx : (envX cn cs L a ccd cl).kindOf x = some .cell := by rfl) : wpAny M A (storeName (envX cn cs L a ccd cl) x v) Q E s := by
  have hmem := N (c, o) hm
  refine wpAny_storeName_cell hkd hx hc ⟨o, hmem.1, hd⟩ fun h' hv hs => ?_
  obtain ⟨o', ho', hd'⟩ := hv
  refine h h' o' ⟨F.ns.sameBut hs (Ne.symm hmem.2.1), fun b ob e => (hs.2 b (fun q => ?_)).trans (F.keep b ob e), F.above⟩ (fun p hp => ?_) hd'
  · rw [q, hmem.2.2] at e; cases e
  · rcases List.mem_cons.mp hp with rfl | hp
    · exact ⟨ho', hmem.2⟩
    · have z := hk p hp
      have hne : p.1 ≠ c := z.2.elim (fun a => cellv_ne N hm hd z.1 a) id
      exact ⟨(hs.2 p.1 hne).trans (N p z.1).1, (N p z.1).2⟩
set_option maxRecDepth 100000 in
set_option maxHeartbeats 8000000 in
theorem reach (w : World) (H d l lp lw ls : Addr) (R : List HCell) (kt : Tok) (np nw cs : Nat) (p : Nat → Int) (tp : Nat → Tok) (ws : Nat → Nat) (tw : Nat → Tok) (x : Nat → Int) (tx : Nat → Tok) (hw : W8 ws) (hp : ∀ t, t < 6 → -100 < p t ∧ p t < 100) (hx : ∀ i, i < 4 → -10 < x i ∧ x i < 10) (v0 : Int) (tv : Tok) (hv : lookH R (accW ws x 3) = .str (Str.ofString (toString v0)) tv) (hv0 : 0 ≤ v0 ∧ v0 < 100) (hle : v0 ≤ frm p x) (hR : ∀ c ∈ R, c.n < 8) (hlen : R.length ≤ 100) :
   Ctr w 9 253 [.ref H, .ref lp, .ref lw, .ref ls] ((lp, listOf (six6 p tp) np) :: (lw, listOf (wrd4 ws tw) nw) :: (ls, tup (tup4 x tx) cs) :: shelfL w H d l R kt) (fun ns r => ∃ new, ns = new ++ ((lp, listOf (six6 p tp) np) :: (lw, listOf (wrd4 ws tw) nw) :: (ls, tup (tup4 x tx) cs) :: shelfL w H d l R kt) ∧ new = [] ∧ r = .bool true) := by
  k_with_none
  (k_with "ite" => (k_closed; first | ((with_reducible refine ite_neg ?ci ?_); (case ci => decide)) | ((with_reducible refine ite_pos ?ci ?_); (case ci => decide))))
  (k_with "FinE" => ((unfold LCg.FinE); intro D' h' tk' F' N' o1'; (try simp only [List.nil_append, List.cons_append] at N'); (try dsimp only)))
  (k_with "FinA" => ((unfold LCg.FinA); intro D' h' tk' F' N' o1'; (try simp only [List.nil_append, List.cons_append] at N'); (try dsimp only)))
  (k_with "eval Name" => ((with_reducible show wpAny _ _ (eval (Expr.Name _ _) (compEnvC _ _ _ _)) _ _ _); k_dflt (first
  | (refine' LCgL.ld_own ?N ?m ?C ?x ?_ ?a ?b; (case a => rfl); (case b => rfl); (case N => k_asm); (case m => k_mem); (case C => assumption); (case x => assumption); k_whole)
  | (refine' lcf_cell ?N ?c ?m ?d ?_ ?a ?b; (case a => rfl); (case b => rfl); (case N => k_asm); (case c => rfl); (case m => k_mem); (case d => k_asm); k_whole)
  | (refine' LCgL.ld_global ?F ?X ?T ?e ?_ ?g ?a ?b; (case a => rfl); (case b => rfl); (case g => rfl); (case F => k_asm); (case X => k_asm); (case T => k_asm); (case e => k_is); k_whole)
  | (refine' lcf_free ?N ?c ?m ?d ?_ ?a ?b; (case a => rfl); (case b => rfl); (case N => k_asm); (case c => rfl); (case m => k_mem); (case d => k_asm); k_whole))))
  (k_with "eval ListComp" => ((with_reducible show wpAny _ _ (eval (Expr.ListComp _ [Comprehension.mk (Expr.Name _ _) _ [] _] _ _) _) _ _ _); k_dflt (refine LCg.ListComp_U (F₀ := by k_asm) (by with_unfolding_all rfl) (by decide) (by rfl) (by decide) (by rfl) ?_)))
  (k_with "exec Assign cons ListComp" => ((with_reducible show wpAny _ _ (exec (Stmt.Assign [Expr.Name _ _] (Expr.ListComp _ [Comprehension.mk (Expr.Name _ _) _ [] _] _ _) _) _) _ _ _); k_dflt (refine LCg.Assign_ListComp_U (F₀ := by k_asm) (by rfl) (by with_unfolding_all rfl) (by with_unfolding_all rfl) (by decide) (by rfl) (by decide) (by rfl) (by rfl) (by rfl) ?_)))
  (k_with "eval ListComp" => ((with_reducible show wpAny _ _ (eval (Expr.ListComp _ [Comprehension.mk (Expr.Name _ _) _ [_] _] _ _) _) _ _ _); k_dflt (refine LCt.ListComp_T (F₀ := by k_asm) (by with_unfolding_all rfl) (by decide) (by rfl) (by decide) (by rfl) ?_)))
  (k_with "exec Assign cons ListComp" => ((with_reducible show wpAny _ _ (exec (Stmt.Assign [Expr.Name _ _] (Expr.ListComp _ [Comprehension.mk (Expr.Name _ _) _ [_] _] _ _) _) _) _ _ _); k_dflt (refine LCt.Assign_ListComp_T (F₀ := by k_asm) (by rfl) (by with_unfolding_all rfl) (by with_unfolding_all rfl) (by decide) (by rfl) (by decide) (by rfl) (by rfl) (by rfl) ?_)))
  (k_with "CompSrc" => (k_here; k_dflt (first
  | (refine LCg.CompSrc.ledger (by rfl) (by k_asm) (by k_asm) (by k_mem) (by first | size_fits | exact Nat.le_of_ble_eq_true rfl) ?_; intro g'; lcg_lit)
  | (refine LCg.CompSrc.range (by rfl) (by k_asm) (by k_asm) (by assumption) (by first | decide | rfl) (by first | rfl | decide) (by first | size_fits | exact Nat.le_of_ble_eq_true rfl) ?_; intro g'; lcg_lit))))
  (k_with "eval Tuple" => (first
  | ((with_reducible show wpAny _ _ (eval (Expr.Tuple [Expr.Constant (Const.int _) _ _, Expr.Constant (Const.int _) _ _] _ _) _) _ _ _); (k_dflt (refine' Tuple_i2 ?F ?N ?_; (case F => k_asm); (case N => k_asm); k_whole)); intro D' h' tk' t0' t1' F' N' l1; (try k_lt l1); (try k_sweep))
  | ((with_reducible show wpAny _ _ (eval (Expr.Tuple [Expr.Constant (Const.int _) _ _, Expr.Constant (Const.int _) _ _, Expr.Constant (Const.int _) _ _] _ _) _) _ _ _); (k_dflt (refine' Tuple_i3 ?F ?N ?_; (case F => k_asm); (case N => k_asm); k_whole)); intro D' h' tk' t0' t1' t2' F' N' l1; (try k_lt l1); (try k_sweep))
  | ((with_reducible show wpAny _ _ (eval (Expr.Tuple [Expr.Constant (Const.int _) _ _, Expr.Constant (Const.int _) _ _, Expr.Constant (Const.int _) _ _, Expr.Constant (Const.int _) _ _] _ _) _) _ _ _); (k_dflt (refine' Tuple_i4 ?F ?N ?_; (case F => k_asm); (case N => k_asm); k_whole)); intro D' h' tk' t0' t1' t2' t3' F' N' l1; (try k_lt l1); (try k_sweep))))
  (k_with "storeName" => ((with_reducible show wpAny _ _ (storeName _ (Str.ofString "pairs") _) _ _ _); refine unhold ?_))
  (k_with "CompSrc" => k_dflt (refine LCg.CompSrc.range (by rfl) (by k_asm) (by k_asm) (by assumption) (by first | decide | rfl) (by first | rfl | decide) (by first | size_fits | exact Nat.le_of_ble_eq_true rfl) ?_; intro g'; refine unhold ?_))
  (k_with "call builtin:sum" => ((with_reducible show wpAny _ _ (call (Value.builtin "sum") [Value.ref _]) _ _ _); k_dflt (refine' sumK rfl ?F ?N ?l ?i ?_; (case F => k_asm); (case N => k_asm); (case l => exact News.isList (by k_asm) (by k_mem)); (case i => assumption); k_whole)))
  (k_with "call ref" => ((with_reducible show wpAny _ _ (call (Value.ref 217) _ _) _ _ _); k_dflt (refine' ctr_call (name _ _ _) ?hK ?B ?F ?X ?N ?S ?T ?hk ?hd ?hu ?_; (case hd => assumption); (case hu => assumption); (case hK => decide); (case B => with_reducible assumption); (case F => k_asm); (case X => with_reducible assumption); (case N => k_asm); (case S => first | (intro kp hp; exact hp) | lcg_sub); (case T => with_reducible assumption); (case hk => exact rfl); intro r9 ns9 h9 tk9 F9 N9 o9; obtain ⟨e9, t9, e10⟩ := o9; subst e9; subst e10; (try dsimp only [List.nil_append] at N9); (try dsimp only); (try k_fold))))
  (k_with "call ref" => ((with_reducible show wpAny _ _ (call (Value.ref 150) _ _) _ _ _); refine unhold ?_))
  (k_with "exec For Name Call cons nil" => ((rename Fr _ _ _ _ => lF'); k_dflt (refine' For_turns lF' ?_ ?hs ?hE; (case hs => (intro _; rfl)); (case hE => exact PassesOwn.never); k_whole)))
  (k_with "pyIter ref" => ((with_reducible show wpAny _ _ (pyIter (Value.ref _)) (fun it s₂ => TurnsAt _ _ _ _ _ _ _ _ _ it s₂) _ _); refine unhold ?_))
  (k_with "call ref" => ((with_reducible show wpAny _ _ (call (Value.ref 212) _ _) _ _ _); k_dflt (refine' ctr_call (addedW _ _ _ ?c1 ?c2 _ _) ?hK ?B ?F ?X ?N ?S ?T ?hk ?hd ?hu ?_; (case c1 => assumption); (case c2 => exact W8.at (by assumption) _); (case hd => assumption); (case hu => assumption); (case hK => decide); (case B => with_reducible assumption); (case F => k_asm); (case X => with_reducible assumption); (case N => k_asm); (case S => first | (intro kp hp; exact hp) | lcg_sub); (case T => with_reducible assumption); (case hk => exact rfl); intro r9 ns9 h9 tk9 F9 N9 o9; obtain ⟨e9, t9, e10⟩ := o9; subst e9; subst e10; (try dsimp only [List.nil_append] at N9); (try dsimp only); (try k_fold))))
  (k_with "subscriptTail Name Name ref int" => k_dflt (first
  | (refine' item_tup4 ?N ?hD ?k0 ?k2 ?_ ?hs; (case N => k_asm); (case hD => k_mem); (case k0 => omega); (case k2 => omega); (case hs => with_unfolding_all rfl); k_whole)
  | (refine' item_wrd (News.isList ?N ?hD) ?k0 ?k2 ?_ ?hs; (case N => k_asm); (case hD => k_mem); (case k0 => omega); (case k2 => omega); (case hs => with_unfolding_all rfl); k_whole)))
  k_dflt (refine' ctr_cells ?k0 ?ko ?kB ?kS ?kc ?kb ?kl ?kD ?c1 ?c2 ?c3 ?_; (case k0 => decide); (case ko => k_is); (case kB => conv => lhs; whnf); (case kS => conv => lhs; whnf); (case kc => k_is); (case kb => intro _ kX; first | exact BindsTo.of_eq rfl | exact kp_binds kX (fun _ => rfl)); (case kl => exact rfl); (case kD => decide +kernel); (case c1 => exact rfl); (case c2 => exact rfl); (case c3 => exact rfl); k_whole)
  intro pr loose mean mg mb dp un gd cn cs Lc ac ccd clo outer base g L' h₁ s tk cells' F' N' Y' l1 B' X' T' hd hu
  (try k_lt l1); k_cells Y'; (try simp only [List.cons_append, List.nil_append] at N'); (try dsimp only); (try k_unmd); k_fold
  k_steps
  unfold Hold
  (rename Fr _ _ _ _ => lF'); (rename News _ _ _ _ => lN'); (rename IsRange _ _ _ _ _ _ _ _ => rgX)
  refine' grow_range (n := 3) (reachJ _ _ ws x) rfl rgX rfl rfl lF' lN' rfl rfl reachJ_start ?_ ?_
  · rintro i t m₁ news₁ h tk Ia oI hi ⟨uu, t1, rfl, rfl⟩ hne F N
    replace F := fr_two F
    replace hi : i < 3 := hi
    clear lF' lN'
    have ha := accW_lt hw x i
    k_steps
    · refine ⟨rfl, _, _, _, _, rfl, by assumption, by assumption, hne, reachJ_put ?_⟩
      have e : (0 + (i : Int) * 1).toNat = i := by omega
      simp only [e] at *
      show _ = accW ws x i ^^^ bt (x i) (ws i)
      unfold bt
      rw [if_pos (by rw [← Int.fmod_eq_emod_of_nonneg _ (by decide)]; assumption)]
    · refine ⟨rfl, _, _, _, _, rfl, by assumption, by assumption, hne, reachJ_keep ?_⟩
      have e : (0 + (i : Int) * 1).toNat = i := by omega
      simp only [e] at *
      show _ = accW ws x i ^^^ bt (x i) (ws i)
      unfold bt
      rw [if_neg (by rw [← Int.fmod_eq_emod_of_nonneg _ (by decide)]; assumption), Nat.xor_zero]
  · rintro h tk m₁ news₁ ⟨uu, t1, rfl, rfl⟩ F N
    clear lF' lN'
    have ha := accW_lt hw x 3
    k_steps
    unfold Hold
    (rename News _ _ _ _ => lN'); (rename Fr _ _ _ _ => lF')
    refine' store_cell2 (keep := (_, tup #[.ref _, .ref _, .ref _, .ref _, .ref _, .ref _] _) :: (_, tup #[.int 0 _, .int 1 _] _) :: (_, tup #[.int 0 _, .int 2 _] _) :: (_, tup #[.int 0 _, .int 3 _] _) :: (_, tup #[.int 1 _, .int 2 _] _) :: (_, tup #[.int 1 _, .int 3 _] _) :: (_, tup #[.int 2 _, .int 3 _] _) ::
      (L' + 1, _) :: (L' + 1 + 1, _) :: (lp, listOf (six6 p tp) np) :: (lw, listOf (wrd4 ws tw) nw) :: (ls, tup (tup4 x tx) _) :: shelfL w H d l R kt) lF' lN' ?hc ?hm ?hdt ?hk ?_
    case hc => rfl
    case hm => k_mem
    case hdt => assumption
    case hk =>
      repeat refine List.forall_mem_cons.mpr ⟨⟨by k_mem, by first | (right; dsimp only; omega) | (left; intro e; have e' : Data.seq _ _ = Data.cell _ := e; cases e') | (left; nofun)⟩, ?_⟩
      intro q hq
      obtain ⟨r, hr, rfl⟩ := List.mem_map.mp hq
      refine ⟨?_, .inl nofun⟩
      repeat (first | exact hq | refine List.Mem.tail _ ?_)
    intro h9 o9 F9 N9 d9
    clear lN' lF'
    (try k_fold)
    have p0 := hp 0 (by decide)
    have p1 := hp 1 (by decide)
    have p2 := hp 2 (by decide)
    have p3 := hp 3 (by decide)
    have p4 := hp 4 (by decide)
    have p5 := hp 5 (by decide)
    have x0 := hx 0 (by decide)
    have x1 := hx 1 (by decide)
    have x2 := hx 2 (by decide)
    have x3 := hx 3 (by decide)
    have s01 := sq_bd x0 x1
    have s02 := sq_bd x0 x2
    have s03 := sq_bd x0 x3
    have s12 := sq_bd x1 x2
    have s13 := sq_bd x1 x3
    have s23 := sq_bd x2 x3
    clear hp hx
    k_steps
    unfold Hold
    refine rest_inv (n := 6) (fun i ys => IntsAre ys ((List.range i).map (part p x))) ?_ trivial ?_ 6 0 [] rfl .nil
    · intro i ys hi hInv v I oI C oC D m₂ h tk E' hv hC hx F N
      obtain ⟨u, rfl⟩ := hv
      rcases (by omega : i = 0 ∨ i = 1 ∨ i = 2 ∨ i = 3 ∨ i = 4 ∨ i = 5) with rfl | rfl | rfl | rfl | rfl | rfl
      all_goals
        k_steps
        · exact Went.intro (by assumption) (by assumption) (fun q hq => hq)
        · exact ints_map_snoc (f := part p x) hInv
    · intro ys hI
      have hsum := part_sum p x
      generalize (List.range 6).map (part p x) = es at *
      k_steps
      unfold Hold
      refine' ctr_call (hgetV _ _ _ _ R _ _ _ (accW ws x 3) (.str (Str.ofString (toString v0)) tv) hv ha hR rfl hlen) ?hK ?B ?F ?X ?N ?S ?T ?hk ?hd ?hu ?_
      case hd => assumption
      case hu => assumption
      case hK => decide
      case B => with_reducible assumption
      case F => k_asm
      case X => with_reducible assumption
      case N => k_asm
      case S =>
        intro q hq
        repeat (first | exact hq | refine List.Mem.tail _ ?_)
      case T => with_reducible assumption
      case hk => exact rfl
      intro r9 ns9 h9 tk9 F9 N9 o9
      obtain ⟨e9, e10⟩ := o9
      subst e9
      subst e10
      dsimp only [List.nil_append] at N9
      dsimp only
      k_steps
      (show Fin _ _ _ _ _ _; try dsimp only)
      refine fin_ret (by assumption) (by assumption) [] ?hs ⟨rfl, by rw [decide_eq_true (by rw [hsum]; exact hle)]⟩
      case hs =>
        intro q hq
        repeat (first | exact hq | refine List.Mem.tail _ ?_)
end TReach_
section Enu_
open PySem PySem.W PySem.Spec PySem.Calls PyProof.Rows PyProof.Rows.LCg PyProof.Rows.LCt
open PySem.AutoSeq1 (wpAny_loadPart')
section
variable {prog : Program} {w : World} {A : Around} {E : Value → Shared → Prop} {s : Shared}
theorem next_tup_item {it t : Addr} {i : Nat} {items : Array Value} {x : Value} {Q : Value → Shared → Prop} (hit : s.heap.IsTupleIter it t i)
    (ht : s.heap.IsTuple t items) (hx : items[i]? = some x) (hQ : ∀ h', h'.IsTupleIter it t (i + 1) → Heap.SameBut it s.heap h' → Q x { s with heap := h' }) :
    wpAny (model prog w) A (Builtin.SmallTypes.nextOf (.ref it)) Q E s := by
  obtain ⟨o, ho, hc, hd⟩ := id hit
  obtain ⟨ol, hol, _, nl, hdl⟩ := ht
  unfold Builtin.SmallTypes.nextOf
  refine wpAny_bind (wpAny_callSpecial?_slot (name := Str.ofString "__next__") hit.typeIs F.slot_tuple_iterator_next
    (wpAny_call_entry F.slot_tuple_iterator_next hit.typeIs F.entry_tuple_iterator_next ?_ (F.args_tuple_iterator_next_1 _)))
  show wpAny _ _ (field (.ref it) 0 >>= _) _ _ s
  refine wpAny_bind (wpAny_field ho hd (x := .ref t) rfl ?_)
  show wpAny _ _ (if (Value.ref t == Value.none) = true then _ else _) _ _ s
  rw [if_neg (show ¬ ((Value.ref t == Value.none) = true) from Bool.false_ne_true)]
  show wpAny _ _ (field (.ref it) 1 >>= _) _ _ s
  refine wpAny_bind (wpAny_field ho hd (x := .int i 0) rfl ?_)
  show wpAny _ _ (seqItems? (.ref t) >>= _) _ _ s
  refine wpAny_bind (wpAny_seqItems hol hdl ?_)
  simp only [Int.toNat_natCast, hx]
  refine wpAny_bind (wpAny_setField ho hd (by simp) (wpAny_pure ⟨x, rfl, wpAny_pure (hQ _ ?_ (Heap.SameBut.update ..))⟩))
  exact ⟨_, Heap.get?_update_self _ ho (Obj.isFreed_of_fields (Obj.data_mapFields hd _)), (Obj.cls_mapFields ..).trans hc, by
    rw [Obj.data_mapFields hd]; simp [rawInt]⟩
theorem next_tup_end {it t : Addr} {i : Nat} {items : Array Value} {Q : Value → Shared → Prop} (hh : A.handled = none)
    (hit : s.heap.IsTupleIter it t i) (ht : s.heap.IsTuple t items) (hx : items[i]? = none)
    (hE : ∀ h' e, Heap.ExtBut it s.heap h' → (∃ o, h'.get? e = some o ∧ o.cls = .type "StopIteration") → E (.ref e) { s with heap := h' }) :
    wpAny (model prog w) A (Builtin.SmallTypes.nextOf (.ref it)) Q E s := by
  obtain ⟨o, ho, hc, hd⟩ := id hit
  obtain ⟨ol, hol, _, nl, hdl⟩ := ht
  unfold Builtin.SmallTypes.nextOf
  refine wpAny_bind (wpAny_callSpecial?_slot (name := Str.ofString "__next__") hit.typeIs F.slot_tuple_iterator_next
    (wpAny_call_entry F.slot_tuple_iterator_next hit.typeIs F.entry_tuple_iterator_next ?_ (F.args_tuple_iterator_next_1 _)))
  show wpAny _ _ (field (.ref it) 0 >>= _) _ _ s
  refine wpAny_bind (wpAny_field ho hd (x := .ref t) rfl ?_)
  show wpAny _ _ (if (Value.ref t == Value.none) = true then _ else _) _ _ s
  rw [if_neg (show ¬ ((Value.ref t == Value.none) = true) from Bool.false_ne_true)]
  show wpAny _ _ (field (.ref it) 1 >>= _) _ _ s
  refine wpAny_bind (wpAny_field ho hd (x := .int i 0) rfl ?_)
  show wpAny _ _ (seqItems? (.ref t) >>= _) _ _ s
  refine wpAny_bind (wpAny_seqItems hol hdl ?_)
  simp only [Int.toNat_natCast, hx]
  refine wpAny_bind (wpAny_rule (wpAny_bind (wpAny_setField ho hd (by simp) ?_)))
  show wpAny _ _ (newExc (.type "StopIteration") [] >>= _) _ _ _
  refine wpAny_bind ?_
  simp only [newExc, newTuple]
  refine wpAny_bind (wpAny_newObj_type ?_ (by size_fits))
  refine wpAny_bind (m := firstArgMember _ _) (wpAny_of_eq (a := Value.none) (by first | rfl | (simp only [firstArgMember]; rfl)) ?_)
  refine wpAny_newObj_type ?_ (by size_fits)
  simp only [raiseNew]
  refine wpAny_bind (wpAny_handled ?_)
  first | rw [show A.in1.handled = none from hh] | rw [hh]
  refine wpAny_bind (wpAny_pure (wpAny_throw ?_))
  exact hE _ _ (((Heap.SameBut.update ..).extBut.push _).push _) ⟨_, Heap.get?_push_size _ rfl, rfl⟩
end
theorem isTuple_at {h h' : Heap} {a : Addr} {its : Array Value} (x : h.IsTuple a its) (e : ∀ o, h.get? a = some o → h'.get? a = some o) : h'.IsTuple a its := let ⟨o, ho, r⟩ := x; ⟨o, e o ho, r⟩
theorem isTupleIter_at {h h' : Heap} {a t : Addr} {i : Nat} (x : h.IsTupleIter a t i) (e : ∀ o, h.get? a = some o → h'.get? a = some o) : h'.IsTupleIter a t i := let ⟨o, ho, r⟩ := x; ⟨o, e o ho, r⟩
theorem draws_tup {prog : Program} {w : World} {A : Around} (hh : A.handled = none) (it t : Addr) (hne : t ≠ it) (items : Array Value) :
    Draws prog w A it [it, t] items.size (fun i v => items[i]? = some v) (fun i h => h.IsTupleIter it t i ∧ h.IsTuple t items) where
  live := fun _ _ st => let ⟨o, ho, _⟩ := st.1; ⟨o, ho⟩
  frame := fun _ _ _ st hk => ⟨isTupleIter_at st.1 fun o e => hk it (by simp) o e, isTuple_at st.2 fun o e => hk t (by simp) o e⟩
  item := fun i s Q E hi st hQ => by
    refine next_tup_item st.1 st.2 (x := items[i]) (by simp [hi]) fun h' hit' hs' => ?_
    exact hQ _ h' s.toks (by simp [hi]) ⟨hit', st.2.extBut hs'.extBut hne⟩ hs'
  done := fun s Q E st hE => next_tup_end hh st.1 st.2 (by simp) hE
theorem meets_enum_tup (l : Addr) (items : Array Value) (n : Nat) (dct : Option Addr) (sl : Array (Option Value)) :
    Meets (Builtin.«enumerate.__new__» ⟨[.type "enumerate", .ref l], []⟩) (fun _ R s => s.heap.get? l = some { cls := .type "tuple", dict := dct, data := .seq items n, slots := sl } ∧
      R (.ok (.ret (.ref (s.heap.push { cls := .type "tuple_iterator", data := .fields #[.ref l, .int 0 0] }).objs.size)))
        { s with heap := (s.heap.push { cls := .type "tuple_iterator", data := .fields #[.ref l, .int 0 0] }).push { cls := .type "enumerate", data := .fields #[.none, .bool false, .ref s.heap.objs.size, rawInt 0, .none, .none] } }) :=
  .of_wp fun prog w A R s h => by
    obtain ⟨hp, g, d, tk, os⟩ := s; obtain ⟨hl, h⟩ := h
    have hsub := sub_enumerate
    have hL : Heap.IsTuple (Shared.heap ⟨hp, g, d, tk, os⟩) l items := ⟨_, hl, rfl, n, rfl⟩
    wp_walk
    refine wpAny_stack_any fun st => wpAny_pure ?_
    split
    · rename_i c _ _ _ _ _
      cases (c == Value.type "enumerate")
      · wp_walk using wpAny_pyIter_tuple hL
        exact ⟨_, rfl, h⟩
      · wp_walk using wpAny_pyIter_tuple hL
        exact ⟨_, rfl, h⟩
    · wp_walk using wpAny_pyIter_tuple hL
      exact ⟨_, rfl, h⟩
section
variable {prog : Program} {w : World} {A : Around} {E : Value → Shared → Prop} {s : Shared}
theorem call_enum_tup {l : Addr} {items : Array Value} {Q : Value → Shared → Prop} (hL : s.heap.IsTuple l items)
    (h : ∀ h', IsEnum h' (s.heap.objs.size + 1) s.heap.objs.size 0 .none → h'.IsTupleIter s.heap.objs.size l 0 → h'.objs.size = s.heap.objs.size + 2 →
      (∀ b o, s.heap.get? b = some o → h'.get? b = some o) → Q (.ref (s.heap.objs.size + 1)) { s with heap := h' }) :
    wpAny (model prog w) A (call (.type "enumerate") [.ref l]) Q E s := by
  obtain ⟨⟨c, dct, dt, sl⟩, hl, hc, n, hd⟩ := hL
  replace hc : c = .type "tuple" := hc
  replace hd : dt = .seq items n := hd
  subst hc hd
  refine callType_new F.called_enumerate (by decide) (F.typeCall_enumerate_1 _) (F.newCall_enumerate_1 _) (fun obj => F.args_object_init_2 obj _) F.entry_enumerate_new
    (meets_enum_tup l items n dct sl) ⟨hl, ?_⟩
  have hz : (s.heap.push { cls := .type "tuple_iterator", data := .fields #[.ref l, .int 0 0] }).objs.size = s.heap.objs.size + 1 := Heap.size_push ..
  show _ ∧ _
  rw [hz]
  have he : IsEnum ((s.heap.push { cls := .type "tuple_iterator", data := .fields #[.ref l, .int 0 0] }).push
      { cls := .type "enumerate", data := .fields #[.none, .bool false, .ref s.heap.objs.size, rawInt 0, .none, .none] }) (s.heap.objs.size + 1) s.heap.objs.size 0 .none := by
    have := Heap.get?_push_size (s.heap.push { cls := .type "tuple_iterator", data := .fields #[.ref l, .int 0 0] })
      (o := { cls := .type "enumerate", data := .fields #[.none, .bool false, .ref s.heap.objs.size, rawInt 0, .none, .none] }) rfl
    rw [hz] at this; exact this
  refine ⟨⟨_, he, rfl⟩, h _ he ⟨_, Heap.get?_push_of_some _ (Heap.get?_push_size _ rfl), rfl, rfl⟩ (by rw [Heap.size_push, hz]) fun b o x => Heap.get?_push_of_some _ (Heap.get?_push_of_some _ x)⟩
end
end Enu_
section Enu2_
open PySem PySem.W PySem.Spec PySem.Calls PyProof.Rows PyProof.Rows.LCg PyProof.Rows.LCt
section
variable {prog : Program} {w : World} {A : Around} {E : Value → Shared → Prop} {s : Shared} {h₀ : Heap} {L : Addr} {m : Str → Option Value} {env : Env} {news : Led}
theorem Off1.mk1 {D : Addr} : ∀ {l : Led}, (∀ p ∈ l, p.1 ≠ D) → Off1 D l
  | [], _ => trivial
  | _ :: _, h => ⟨h _ List.mem_cons_self, Off1.mk1 fun p hp => h p (List.mem_cons_of_mem _ hp)⟩
theorem fr_two_but {h h' : Heap} {e it : Addr} (F : Fr h₀ L h m) (hk : ∀ b o, b ∉ [e, it] → h.get? b = some o → h'.get? b = some o) (he : L ≠ e) (hi : L ≠ it) (he₀ : h₀.get? e = none) (hi₀ : h₀.get? it = none) : Fr h₀ L h' m :=
  ⟨F.ns.at' fun o x => hk L o (by simp [he, hi]) x, fun b o x => hk b o (by
    intro hb
    rcases List.mem_cons.mp hb with rfl | hb
    · rw [he₀] at x; cases x
    · rw [List.mem_singleton.mp hb, hi₀] at x; cases x) (F.keep b o x), F.above⟩
theorem news_two_but {h h' : Heap} {e it : Addr} {l : Led} (N : News h₀ L h l) (hk : ∀ b o, b ∉ [e, it] → h.get? b = some o → h'.get? b = some o) (off : ∀ p ∈ l, p.1 ≠ e ∧ p.1 ≠ it) : News h₀ L h' l :=
  fun p hp => ⟨hk _ _ (by simp [(off p hp).1, (off p hp).2]) (N p hp).1, (N p hp).2⟩
theorem block_E {elt iter : Expr} {x x₂ : Str} {px px₂ tp : Pos} {tk₀ : Nat} {scope : Scope} {cl : List (Str × Addr)} {pos : Pos} {s₂ : Shared} {e it t : Addr} {its : Array Value} {k : Nat} {RR : Value → Addr → Result → Shared → Prop}
    (hsz : its.size ≤ sizeLine) (hcell : ∀ y ∈ scope.names, y.2 ≠ .cell) (hkind : scope.kind = .function) (hx : scope.names.lookup x = some .local) (hx₂ : scope.names.lookup x₂ = some .local) (hxx : x ≠ x₂) (hh : A.handled = none)
    (he : IsEnum s₂.heap e it 0 .none) (hit : s₂.heap.IsTupleIter it t 0) (hei : e ≠ it) (F : Fr h₀ L s₂.heap m) (N : News h₀ L s₂.heap news) (hm : (t, tup its k) ∈ news)
    (heL : L ≠ e) (hiL : L ≠ it) (he₀ : h₀.get? e = none) (hi₀ : h₀.get? it = none) (off : ∀ p ∈ news, p.1 ≠ e ∧ p.1 ≠ it)
    (Inv : Nat → List Value → Prop) (h0 : Inv 0 [])
    (turn : ∀ i ys v, its[i]? = some v → Inv i ys → ∀ tv oe oi C oC D m₂ h tk (E' : Value → Shared → Prop), NsObj oC m₂ → m₂ x = some (.int (i : Int) tv) → m₂ x₂ = some v → Fr h₀ L h m → News h₀ L h ((e, oe) :: (it, oi) :: (C, oC) :: (D, lst ys) :: news) →
      wpAny (model prog w) A (eval elt (compEnvC scope cl C env)) (fun y s' => Went h₀ L m { s₂ with heap := h, toks := tk } ((e, oe) :: (it, oi) :: (C, oC) :: (D, lst ys) :: news) s' ∧ Inv (i + 1) (ys ++ [y])) E' { s₂ with heap := h, toks := tk })
    (hRR : ∀ D C h tk m' ys, Fr h₀ L h m → News h₀ L h ((D, lst ys) :: news) → Off1 D news → h.Ns C m' → h₀.get? C = none → h₀.get? D = none → C ≠ L → D ≠ L → C ≠ D → (∀ p ∈ news, p.1 ≠ C) → Inv its.size ys → RR (.ref D) C (.ok .next) { s₂ with heap := h, toks := tk }) :
    wpAny (model prog w) A (newList []) (fun acc s₃ => wpAny (model prog w) A (newFunctionEnv scope env.globals cl [] env.qual none .none (some env)) (fun cenv s₄ =>
      codeAny (model prog w) A (.compStart (.ListComp elt [⟨.Tuple [.Name x px, .Name x₂ px₂] tk₀ tp, iter, [], 0⟩] scope pos) 0 (.ref e) acc { cenv with scope := relabel scope env }) (RR acc cenv.locals) s₄) E s₃) E s₂ := by
  have htt : s₂.heap.IsTuple t its := News.isTup N hm
  have hte := off _ hm
  have W := WalksT.enumerateD (prog := prog) (w := w) (A := A) (draws_tup (A := A.in1) hh it t hte.2 its) e hei (by
    intro hb
    rcases List.mem_cons.mp hb with rfl | hb
    · exact hei rfl
    · exact hte.1 (List.mem_singleton.mp hb).symm) (List.mem_cons_self ..)
  refine wpAny_newObj_type (wpAny_newFunctionEnv hcell (by intro y hy; simp at hy) (fun h₁ hns₁ hsb₁ => ?_) hkind)
  dsimp only at hns₁ hsb₁ ⊢
  generalize hH2 : s₂.heap.push { cls := .type "list", dict := none, data := .seq ([] : List Value).toArray } = H2 at hns₁ hsb₁ ⊢
  have hC : H2.objs.size = s₂.heap.objs.size + 1 := by rw [← hH2, Heap.size_push]
  have hDC : s₂.heap.objs.size ≠ H2.objs.size := by rw [hC]; exact Nat.ne_of_lt (Nat.lt_succ_self _)
  have below : ∀ b, b < s₂.heap.objs.size → b ≠ H2.objs.size ∧ b ≠ s₂.heap.objs.size := fun b hb => ⟨by rw [hC]; exact Nat.ne_of_lt (Nat.lt_succ_of_lt hb), Nat.ne_of_lt hb⟩
  have hel : e < s₂.heap.objs.size := Heap.lt_size he
  have hil : it < s₂.heap.objs.size := by obtain ⟨_, q, _⟩ := hit; exact Heap.lt_size q
  have htl : t < s₂.heap.objs.size := Heap.lt_size (N _ hm).1
  have hLlt : L < s₂.heap.objs.size := F.ns.lt
  have old : ∀ b o, s₂.heap.get? b = some o → h₁.get? b = some o := fun b o q => hsb₁.extBut b o (below b (Heap.lt_size q)).1 (Heap.get?_push_of_some _ (hH2 ▸ Heap.get?_push_of_some _ q))
  have hacc : h₁.get? s₂.heap.objs.size = some (lst []) := hsb₁.extBut _ _ hDC (Heap.get?_push_of_some _ (hH2 ▸ Heap.get?_push_size _ rfl))
  have fresh : ∀ a, s₂.heap.objs.size ≤ a → s₂.heap.get? a = none := fun a ha => by
    cases q : s₂.heap.get? a with
    | none => rfl
    | some o' => exact absurd (Heap.lt_size q) (Nat.not_lt.mpr ha)
  have fresh₀ : ∀ a, s₂.heap.objs.size ≤ a → h₀.get? a = none := fun a ha => by
    cases q : h₀.get? a with
    | none => rfl
    | some o' => have := F.keep a o' q; rw [fresh a ha] at this; cases this
  have hD₀ : h₀.get? s₂.heap.objs.size = none := fresh₀ _ (Nat.le_refl _)
  have hC₀ : h₀.get? H2.objs.size = none := fresh₀ _ (by rw [hC]; exact Nat.le_succ _)
  have hDL : s₂.heap.objs.size ≠ L := Ne.symm (below L hLlt).2
  have hCL : H2.objs.size ≠ L := Ne.symm (below L hLlt).1
  have hnC : ∀ p ∈ news, p.1 ≠ H2.objs.size ∧ p.1 ≠ s₂.heap.objs.size := fun p hp => below _ (Heap.lt_size (N p hp).1)
  have hCw : ∀ c, c = H2.objs.size ∨ c = s₂.heap.objs.size → c ∉ [e, it] := fun c hc hb => by
    have hlt : ¬ c < s₂.heap.objs.size := by rcases hc with rfl | rfl <;> omega
    rcases List.mem_cons.mp hb with rfl | hb
    · exact hlt hel
    · rw [List.mem_singleton.mp hb] at hlt; exact hlt hil
  have hCf : ∀ b ∈ [e, it, t], b ≠ H2.objs.size ∧ b ≠ s₂.heap.objs.size := fun b hb => by
    rcases List.mem_cons.mp hb with rfl | hb
    · exact below _ hel
    · rcases List.mem_cons.mp hb with rfl | hb
      · exact below _ hil
      · rw [List.mem_singleton.mp hb]; exact below _ htl
  have hst₁ : (∃ o, IsEnum h₁ e it ((0 : Nat) : Int) o) ∧ h₁.IsTupleIter it t 0 ∧ h₁.IsTuple t its := ⟨⟨_, old _ _ he⟩, isTupleIter_at hit fun o q => old _ o q, isTuple_at htt fun o q => old _ o q⟩
  have loop : ∀ s₃ : Shared, s₃ = { s₂ with heap := h₁, toks := s₂.toks + ([] : List (Str × Value)).length } →
      codeAny (model prog w) A (.compLoop (.ListComp elt [⟨.Tuple [.Name x px, .Name x₂ px₂] tk₀ tp, iter, [], 0⟩] scope pos) 0 (.ref e) (.ref s₂.heap.objs.size) (compEnvC scope cl H2.objs.size env))
        (RR (.ref s₂.heap.objs.size) H2.objs.size) s₃ := by
    rintro s₃ rfl
    refine LCp.codeAny_compLoop_pair
      (fun k s' => ∃ h' tk i ys m', s' = { s₂ with heap := h', toks := tk } ∧ i ≤ its.size ∧ k = its.size + 1 - i ∧ ys.length = i ∧ ((∃ o, IsEnum h' e it (i : Int) o) ∧ h'.IsTupleIter it t i ∧ h'.IsTuple t its) ∧ Fr h₀ L h' m ∧ h'.Ns H2.objs.size m' ∧ News h₀ L h' ((s₂.heap.objs.size, lst ys) :: news) ∧ Inv i ys) ?_ (its.size + 1)
      ⟨h₁, _, 0, [], _, rfl, Nat.zero_le _, rfl, rfl, hst₁, F.keeps old, hns₁, fun p hp => ?_, h0⟩
    · rintro k s' ⟨h', tk, i, ys, m', rfl, hi, rfl, hyl, hst', F', hn', N', hinv⟩
      have offD : ∀ p ∈ (s₂.heap.objs.size, lst ys) :: news, p.1 ≠ e ∧ p.1 ≠ it := fun p hp => by
        rcases List.mem_cons.mp hp with rfl | hp
        · exact ⟨Ne.symm (below _ hel).2, Ne.symm (below _ hil).2⟩
        · exact off p hp
      by_cases hlt : i < its.size
      · refine W.item i _ _ _ hlt hst' fun T vals h₂ tk₂ hPt hTn hT hMid hk₂ => ?_
        obtain ⟨tv, v, hv, rfl⟩ := hPt
        refine W.go _ tk₀ tp i T _ _ _ hMid fun h₃ hst₃ hk₃ => ?_
        have hT₃ : h₃.IsTuple T #[.int (i : Int) tv, v] := hT.at fun o q => hk₃ T o (W.apart i T h₂ hMid) q
        have keep3 : ∀ b o, b ∉ [e, it] → h'.get? b = some o → h₃.get? b = some o := fun b o hb q => hk₃ b o hb (hk₂ b o hb q)
        have F₃ := fr_two_but F' keep3 heL hiL he₀ hi₀
        have N₃ := news_two_but N' keep3 offD
        refine assign_Tuple_tuple hh hT₃ rfl rfl fun h₅ hx₅ => ?_
        have up5 : ∀ b o, h₃.get? b = some o → h₅.get? b = some o := fun b o q => hx₅ b o (Nat.ne_of_lt (Heap.lt_size q)) q
        have hn₅ : h₅.Ns H2.objs.size m' := (hn'.at' fun o q => keep3 _ o (hCw _ (.inl rfl)) q).at' fun o q => up5 _ o q
        refine assignInOrder_cons (wpAny_assign_Name (wpAny_storeName_local (lookup_relabel_local hx) hn₅ (fun h₆ hn₆ hs₆ => ?_) (by simp [compEnvC, relabel, hkind])))
        refine assignInOrder_cons (wpAny_assign_Name (wpAny_storeName_local (lookup_relabel_local hx₂) hn₆ (fun h₇ hn₇ hs₇ => ?_) (by simp [compEnvC, relabel, hkind])))
        refine assignInOrder_nil ?_
        have old7 : ∀ b o, b ≠ H2.objs.size → h₃.get? b = some o → h₇.get? b = some o := fun b o hb q => hs₇.extBut b o hb (hs₆.extBut b o hb (up5 b o q))
        have hst₇ := W.frame _ _ _ hst₃ fun b hb o q => old7 b o (hCf b hb).1 q
        obtain ⟨⟨oldv, heE⟩, ⟨oit, hoi, hci, hdi⟩, htp⟩ := hst₇
        obtain ⟨oC, heC, hoC⟩ := ns_obj hn₇
        have F₇ : Fr h₀ L h₇ m := ((F₃.keeps up5).change hs₆ hCL hC₀).change hs₇ hCL hC₀
        have N₇ : News h₀ L h₇ ((e, _) :: (it, oit) :: (H2.objs.size, oC) :: (s₂.heap.objs.size, lst ys) :: news) := fun p hp => by
          rcases List.mem_cons.mp hp with rfl | hp
          · exact ⟨heE, Ne.symm heL, he₀⟩
          · rcases List.mem_cons.mp hp with rfl | hp
            · exact ⟨hoi, Ne.symm hiL, hi₀⟩
            · rcases List.mem_cons.mp hp with rfl | hp
              · exact ⟨heC, hCL, hC₀⟩
              · have z := N₃ p hp
                refine ⟨old7 _ _ ?_ z.1, z.2⟩
                rcases List.mem_cons.mp hp with rfl | hp
                · exact hDC
                · exact (hnC p hp).1
        refine wpAny_mono (turn i ys v hv hinv tv _ oit H2.objs.size oC s₂.heap.objs.size _ h₇ _ _ hoC (by simp [hxx]) (by simp) F₇ N₇) (fun y s₄ h₄ => ?_) fun _ _ q => q
        obtain ⟨⟨h₄, tk₄, rfl, F₄, N₄⟩, hinv₄⟩ := h₄
        have zE := (N₄ (e, _) List.mem_cons_self).1
        have zI := (N₄ (it, oit) (List.mem_cons_of_mem _ List.mem_cons_self)).1
        have zC := (N₄ (H2.objs.size, oC) (List.mem_cons_of_mem _ (List.mem_cons_of_mem _ List.mem_cons_self))).1
        have zD := (N₄ (s₂.heap.objs.size, lst ys) (List.mem_cons_of_mem _ (List.mem_cons_of_mem _ (List.mem_cons_of_mem _ List.mem_cons_self)))).1
        have N₄' : News h₀ L h₄ news := fun p hp => N₄ p (List.mem_cons_of_mem _ (List.mem_cons_of_mem _ (List.mem_cons_of_mem _ (List.mem_cons_of_mem _ hp))))
        refine append_at (hsz := by show ys.toArray.size ≤ sizeLine; rw [List.size_toArray, hyl]; exact Nat.le_trans hi hsz) zD fun h₅ hs₅ hD₅ => ?_
        have up9 : ∀ b o, b ≠ s₂.heap.objs.size → h₄.get? b = some o → h₅.get? b = some o := fun b o hb q => hs₅.extBut b o hb q
        refine ⟨its.size + 1 - (i + 1), by omega, h₅, tk₄, i + 1, ys ++ [y], _, rfl, hlt, rfl, by rw [List.length_append, List.length_singleton, hyl],
          ⟨⟨oldv, up9 _ _ (below _ hel).2 zE⟩, ⟨oit, up9 _ _ (below _ hil).2 zI, hci, hdi⟩, isTuple_at (News.isTup N₄' hm) fun o q => up9 _ o (hnC _ hm).2 q⟩, F₄.change hs₅ hDL hD₀,
          (hoC.ns zC).sameBut hs₅ (Ne.symm hDC), fun p hp => ?_, hinv₄⟩
        rcases List.mem_cons.mp hp with rfl | hp
        · exact ⟨hD₅.trans (congrArg some (lst_snoc ys y)), hDL, hD₀⟩
        · exact ⟨up9 _ _ (hnC p hp).2 (N₄' p hp).1, (N₄' p hp).2⟩
      · obtain rfl : i = its.size := Nat.le_antisymm hi (Nat.not_lt.mp hlt)
        refine W.done _ _ _ hst' fun h₂ tk₂ hk₂ => ?_
        exact hRR _ _ h₂ tk₂ _ ys (fr_two_but F' hk₂ heL hiL he₀ hi₀) (news_two_but N' hk₂ offD) (Off1.mk1 fun p hp => (hnC p hp).2) (hn'.at' fun o q => hk₂ _ o (hCw _ (.inl rfl)) q) hC₀ hD₀ hCL hDL (Ne.symm hDC) (fun p hp => (hnC p hp).1) hinv
    · rcases List.mem_cons.mp hp with rfl | hp
      · exact ⟨hacc, hDL, hD₀⟩
      · exact ⟨old _ _ (N p hp).1, (N p hp).2⟩
  exact codeAny_compStart_list (loop _ rfl) (W.self 0 _ _ _ hst₁ (loop _ rfl))
/-- a comprehension over the pairs of a numbered tuple -/
noncomputable def SrcE (prog : Program) (w : World) (A : Around) (h₀ : Heap) (L : Addr) (m : Str → Option Value) (env : Env) (elt : Expr) (x x₂ : Str) (scope : Scope) (cl : List (Str × Addr)) (Fin : Shared → List Value → Led → Prop) (xv : Value) (s₁ : Shared) : Prop :=
  ∃ (e it t : Addr) (its : Array Value) (k : Nat) (news : Led) (Inv : Nat → List Value → Prop), xv = .ref e ∧ A.handled = none ∧ Fr h₀ L s₁.heap m ∧ News h₀ L s₁.heap news ∧ (t, tup its k) ∈ news ∧ its.size ≤ sizeLine ∧
    IsEnum s₁.heap e it 0 .none ∧ s₁.heap.IsTupleIter it t 0 ∧ e ≠ it ∧ L ≠ e ∧ L ≠ it ∧ h₀.get? e = none ∧ h₀.get? it = none ∧ (∀ p ∈ news, p.1 ≠ e ∧ p.1 ≠ it) ∧ Inv 0 [] ∧
    (∀ i ys v, its[i]? = some v → Inv i ys → ∀ tv oe oi C oC D m₂ h tk (E' : Value → Shared → Prop), NsObj oC m₂ → m₂ x = some (.int (i : Int) tv) → m₂ x₂ = some v → Fr h₀ L h m → News h₀ L h ((e, oe) :: (it, oi) :: (C, oC) :: (D, lst ys) :: news) →
      wpAny (model prog w) A (eval elt (compEnvC scope cl C env)) (fun y s' => Went h₀ L m { s₁ with heap := h, toks := tk } ((e, oe) :: (it, oi) :: (C, oC) :: (D, lst ys) :: news) s' ∧ Inv (i + 1) (ys ++ [y])) E' { s₁ with heap := h, toks := tk }) ∧
    (∀ ys, Inv its.size ys → Fin s₁ ys news)
theorem enum_src {elt : Expr} {x x₂ : Str} {scope : Scope} {cl : List (Str × Addr)} {Fin : Shared → List Value → Led → Prop} {t : Addr} {its : Array Value} {k : Nat} (Inv : Nat → List Value → Prop)
    (hh : A.handled = none) (F : Fr h₀ L s.heap m) (N : News h₀ L s.heap news) (hm : (t, tup its k) ∈ news) (hz : its.size ≤ sizeLine) (h0 : Inv 0 [])
    (turn : ∀ i ys v, its[i]? = some v → Inv i ys → ∀ e it tv oe oi C oC D m₂ h tk (E' : Value → Shared → Prop), NsObj oC m₂ → m₂ x = some (.int (i : Int) tv) → m₂ x₂ = some v → Fr h₀ L h m → News h₀ L h ((e, oe) :: (it, oi) :: (C, oC) :: (D, lst ys) :: news) →
      wpAny (model prog w) A (eval elt (compEnvC scope cl C env)) (fun y s' => Went h₀ L m { s with heap := h, toks := tk } ((e, oe) :: (it, oi) :: (C, oC) :: (D, lst ys) :: news) s' ∧ Inv (i + 1) (ys ++ [y])) E' { s with heap := h, toks := tk })
    (fin : ∀ h ys, Inv its.size ys → Fin { s with heap := h } ys news) :
    wpAny (model prog w) A (call (.type "enumerate") [.ref t]) (SrcE prog w A h₀ L m env elt x x₂ scope cl Fin) E s := by
  refine call_enum_tup (News.isTup N hm) fun h' he hi hz' hk => ?_
  have hlp : ∀ p ∈ news, p.1 < s.heap.objs.size := fun p hp => Heap.lt_size (N p hp).1
  have fresh₀ : ∀ a, s.heap.objs.size ≤ a → h₀.get? a = none := fun a ha => by
    cases q : h₀.get? a with
    | none => rfl
    | some o' => exact absurd (Heap.lt_size (F.keep a o' q)) (Nat.not_lt.mpr ha)
  have hL : L < s.heap.objs.size := F.ns.lt
  refine ⟨_, _, t, its, k, news, Inv, rfl, hh, F.keeps hk, N.grown hk, hm, hz, he, hi, Nat.succ_ne_self _, Nat.ne_of_lt (Nat.lt_succ_of_lt hL), Nat.ne_of_lt hL, fresh₀ _ (Nat.le_succ _), fresh₀ _ (Nat.le_refl _),
    fun p hp => ⟨Nat.ne_of_lt (Nat.lt_succ_of_lt (hlp p hp)), Nat.ne_of_lt (hlp p hp)⟩, h0, ?_, fun ys hy => fin _ _ hy⟩
  intro i ys v hv hinv tv oe oi C oC D m₂ h tk E' a b c F' N'
  exact turn i ys v hv hinv _ _ tv oe oi C oC D m₂ h tk E' a b c F' N'
theorem Assign_ListComp_E {elt iter : Expr} {x x₂ y : Str} {px px₂ tp py : Pos} {tk₀ : Nat} {scope : Scope} {cl : List (Str × Addr)} {pos spos : Pos} {Q : Flow → Shared → Prop} (F₀ : Fr h₀ L s.heap m) (hLe : env.locals = L)
    (hsw : swapsWith (.ListComp elt [⟨.Tuple [.Name x px, .Name x₂ px₂] tk₀ tp, iter, [], 0⟩] scope pos) (some (.Name y py)) spos.line env = pure true)
    (hclos : closureFor scope env = pure cl) (hcell : ∀ z ∈ scope.names, z.2 ≠ .cell) (hkind : scope.kind = .function)
    (hnames : ∀ z ∈ scope.names, z.2 = .local → scope.names.lookup z.1 = some .local) (hx : scope.names.lookup x = some .local) (hx₂ : scope.names.lookup x₂ = some .local) (hxx : x ≠ x₂)
    (hy : env.kindOf y = some .local) (hp : (env.scope.kind == .class || (env.scope.kind == .module && env.locals != env.globals)) = false)
    (h : wpAny (model prog w) A (eval iter env) (SrcE prog w A h₀ L m env elt x x₂ scope cl (fun s₂ => FinA h₀ L m s₂ y Q)) E s)
    (hs : ∀ x, foldedSetIterable iter env x = pure x := by intro _; rfl) :
    wpAny (model prog w) A (exec (.Assign [.Name y py] (.ListComp elt [⟨.Tuple [.Name x px, .Name x₂ px₂] tk₀ tp, iter, [], 0⟩] scope pos) spos) env) Q E s := by
  subst hLe
  rw [exec_Assign_Name_used _ _ _ _ hsw]
  refine wpAny_bind (wpAny_standAt (wpAny_bind ?_))
  show wpAny _ A (do let _ ← comprehension (.ListComp elt [⟨.Tuple [.Name x px, .Name x₂ px₂] tk₀ tp, iter, [], 0⟩] scope pos) scope env _ (newList []) false (eval iter env) (some (assign (.Name y py) env))) _ _ s
  refine wpAny_bind (wpAny_mono (wpAny_comprehension_free (use := some (assign (.Name y py) env)) (Q := fun _ s' => Q .next s') rfl hs hclos hkind hnames
    (wpAny_mono h (fun xv s₁ h₁ => ?_) fun _ _ e => e)) (fun _ s' hq => wpAny_pure (wpAny_pure hq)) fun _ _ e => e)
  obtain ⟨e, it, t, its, k, news, Inv, rfl, hh, F, N, hm, hz, he, hi, hei, heL, hiL, he₀, hi₀, off, h0, turn, fin⟩ := h₁
  refine wpAny_pyIter_enum he ?_
  refine block_E hz hcell hkind hx hx₂ hxx hh he hi hei F N hm heL hiL he₀ hi₀ off Inv h0 turn ?_
  intro D C h' tk m' ys F' N' o1 hn hC₀ hD₀ hCL hDL hCD offC hinv
  show wpAny _ A (assign (.Name y py) env (.ref D)) _ _ _
  refine wpAny_assign_Name (wpAny_storeName_local hy F'.ns (fun h₂ hn₂ hs₂ => ?_) hp)
  have hL₀ : h₀.get? env.locals = none := Heap.get?_none_of_le F'.above
  have F₂ : Fr h₀ env.locals h₂ (fun z => if z = y then some (.ref D) else m z) := ⟨hn₂, fun b o q => hs₂.extBut b o (fun r => by rw [r, hL₀] at q; cases q) (F'.keep b o q), F'.above⟩
  refine ⟨m', hn.sameBut hs₂ hCL, fun h'' hs'' => fin ys hinv D h'' _ (F₂.change hs'' hCL hC₀) (fun p hp => ?_) o1⟩
  have z : h₂.get? p.1 = some p.2 := hs₂.extBut _ _ (N' p hp).2.1 (N' p hp).1
  refine ⟨hs''.extBut _ _ ?_ z, (N' p hp).2⟩
  rcases List.mem_cons.mp hp with rfl | hp
  · exact Ne.symm hCD
  · exact offC p hp
end
end Enu2_
section Plain2_
open PySem PySem.W
theorem start_le (c : Int) : ∀ t, t < 6 → startP c t ≤ 2 := by
  have m2 : ∀ a : Int, a.fmod 2 < 2 := fun a => Int.fmod_lt_of_pos a (by decide)
  have m3 : ∀ a : Int, a.fmod 3 < 3 := fun a => Int.fmod_lt_of_pos a (by decide)
  intro t ht
  refine nat6 (P := fun t => startP c t ≤ 2) ht ?_ ?_ ?_ ?_ ?_ ?_
  · show 1 + _ ≤ (2 : Int); have := m2 c; omega
  · exact Int.le_of_lt_add_one (m3 _)
  · exact Int.le_of_lt_add_one (m3 _)
  · show 1 + _ ≤ (2 : Int); have := m2 (((c.fdiv 2).fdiv 3).fdiv 3); omega
  · exact Int.le_of_lt_add_one (m3 _)
  · show 1 + _ ≤ (2 : Int); have := m2 ((((((c.fdiv 2).fdiv 3).fdiv 3).fdiv 2).fdiv 3)); omega
theorem start_chain (c : Int) : 1 ≤ startP c 0 ∧ 1 ≤ startP c 3 ∧ 1 ≤ startP c 5 := by
  have m2 : ∀ a : Int, 0 ≤ a.fmod 2 := fun a => Int.fmod_nonneg_of_pos a (by decide)
  refine ⟨?_, ?_, ?_⟩
  · show 1 ≤ 1 + _; have := m2 c; omega
  · show 1 ≤ 1 + _; have := m2 (((c.fdiv 2).fdiv 3).fdiv 3); omega
  · show 1 ≤ 1 + _; have := m2 ((((((c.fdiv 2).fdiv 3).fdiv 3).fdiv 2).fdiv 3)); omega
theorem num_len {p : Nat → Int} {ws : Nat → Nat} {R : List NCell} (h : R.map NCell.dat = (List.range 7).map (nd p ws)) : R.length = 7 := by
  have := congrArg List.length h
  simpa using this
theorem num_at {p : Nat → Int} {ws : Nat → Nat} {R : List NCell} (h : R.map NCell.dat = (List.range 7).map (nd p ws)) {r : NCell} (hr : r ∈ R) : ∃ i, i < 7 ∧ (r.n, r.x) = nd p ws i := by
  have hm : r.dat ∈ R.map NCell.dat := List.mem_map_of_mem hr
  rw [h] at hm
  obtain ⟨i, hi, e⟩ := List.mem_map.mp hm
  exact ⟨i, List.mem_range.mp hi, e.symm⟩
theorem nd_start (c : Int) {i : Nat} (hi : i < 7) : 1 ≤ (nd (startP c) bornW i).1 ∧ (nd (startP c) bornW i).1 < 8 ∧ 1 ≤ (nd (startP c) bornW i).2 ∧ (nd (startP c) bornW i).2 ≤ 12 := by
  have a := start_nonneg c
  have b := start_le c
  have ch := start_chain c
  have a0 := a 0 (by decide)
  have a1 := a 1 (by decide)
  have a2 := a 2 (by decide)
  have a3 := a 3 (by decide)
  have a4 := a 4 (by decide)
  have a5 := a 5 (by decide)
  have b0 := b 0 (by decide)
  have b1 := b 1 (by decide)
  have b2 := b 2 (by decide)
  have b3 := b 3 (by decide)
  have b4 := b 4 (by decide)
  have b5 := b 5 (by decide)
  clear a b
  refine nat7 (P := fun i => 1 ≤ (nd (startP c) bornW i).1 ∧ (nd (startP c) bornW i).1 < 8 ∧ 1 ≤ (nd (startP c) bornW i).2 ∧ (nd (startP c) bornW i).2 ≤ 12) hi ?_ ?_ ?_ ?_ ?_ ?_ ?_ <;>
  · refine ⟨by simp [nd, bornW], by simp [nd, bornW], ?_⟩
    simp [nd, ST, List.range, List.range.loop, sixSum]
    omega
theorem num_facts {c : Int} {R : List NCell} (h : R.map NCell.dat = (List.range 7).map (nd (startP c) bornW)) : R.length = 7 ∧ (R.map (·.n)).Nodup ∧ ∀ r ∈ R, 1 ≤ r.n ∧ r.n < 8 ∧ 0 ≤ r.x ∧ r.x < 100 := by
  refine ⟨num_len h, ?_, fun r hr => ?_⟩
  · have e : R.map (·.n) = [1, 2, 4, 7, 3, 5, 6] := by
      have := congrArg (List.map Prod.fst) h
      rw [List.map_map, List.map_map] at this
      exact this
    rw [e]
    decide
  · obtain ⟨i, hi, e⟩ := num_at h hr
    have k := nd_start c hi
    have e1 : r.n = (nd (startP c) bornW i).1 := congrArg Prod.fst e
    have e2 : r.x = (nd (startP c) bornW i).2 := congrArg Prod.snd e
    omega
/-- a vector of noughts and ones -/
noncomputable def yv (b : Nat) : Nat → Int := v4 (b % 2 : Nat) (b / 2 % 2 : Nat) (b / 4 % 2 : Nat) (b / 8 % 2 : Nat)
noncomputable def cutb (i : Nat) : Nat := [1, 2, 4, 8, 3, 5, 9].getD i 0
noncomputable def chkC : Bool := (List.range 8).all fun a => (List.range 8).all fun b => (List.range 8).all fun c => !Mine.okb a b c || (List.range 7).all fun i => (List.range 16).all fun y =>
  !(cls (Mine.bas a b c) (yv y) == cls (Mine.bas a b c) (cutv i)) || y == cutb i || y == 15 - cutb i
theorem chkC_ok : chkC = true := by decide +kernel
theorem cls_cong {ws ws' : Nat → Nat} {x x' : Nat → Int} (h : ∀ n, n < 4 → ws n = ws' n) (g : ∀ n, n < 4 → x n = x' n) : cls ws x = cls ws' x' := by
  unfold cls
  rw [h 0 (by decide), h 1 (by decide), h 2 (by decide), h 3 (by decide), g 0 (by decide), g 1 (by decide), g 2 (by decide), g 3 (by decide)]
theorem frm_cong {p x x' : Nat → Int} (g : ∀ n, n < 4 → x n = x' n) : frm p x = frm p x' := by
  unfold frm
  rw [g 0 (by decide), g 1 (by decide), g 2 (by decide), g 3 (by decide)]
theorem par_yv (x : Nat → Int) : ∃ y, y < 16 ∧ ∀ n, n < 4 → par x n = yv y n := by
  have q : ∀ n, par x n = 0 ∨ par x n = 1 := fun n => by unfold par; omega
  refine ⟨(par x 0 + 2 * par x 1 + 4 * par x 2 + 8 * par x 3).toNat, ?_, ?_⟩
  · have := q 0; have := q 1; have := q 2; have := q 3; omega
  · intro n hn
    rcases q 0 with h0 | h0 <;> rcases q 1 with h1 | h1 <;> rcases q 2 with h2 | h2 <;> rcases q 3 with h3 | h3 <;> rw [h0, h1, h2, h3] <;>
    · match n, hn with
      | 0, _ => rw [h0]; rfl
      | 1, _ => rw [h1]; rfl
      | 2, _ => rw [h2]; rfl
      | 3, _ => rw [h3]; rfl
theorem frm_cut (p : Nat → Int) {i : Nat} (hi : i < 7) : frm p (yv (cutb i)) = frm p (cutv i) ∧ frm p (yv (15 - cutb i)) = frm p (cutv i) :=
  nat7 (P := fun i => frm p (yv (cutb i)) = frm p (cutv i) ∧ frm p (yv (15 - cutb i)) = frm p (cutv i)) hi ⟨by kernel_rfl, by kernel_rfl⟩ ⟨by kernel_rfl, by kernel_rfl⟩ ⟨by kernel_rfl, by kernel_rfl⟩ ⟨by kernel_rfl, by kernel_rfl⟩ ⟨by kernel_rfl, by kernel_rfl⟩ ⟨by kernel_rfl, by kernel_rfl⟩ ⟨by kernel_rfl, by kernel_rfl⟩
/-- the least on a class -/
theorem least_at {p : Nat → Int} {ws : Nat → Nat} (hw : Wok ws) (hp : ∀ t, t < 6 → 0 ≤ p t) {i : Nat} (hi : i < 7) {x : Nat → Int} (hx : cls ws x = (nd p ws i).1) : (nd p ws i).2 ≤ frm p x := by
  refine Int.le_trans ?_ (frm_par hp x)
  rw [nd_frm p ws hi]
  rw [nd_cls p ws hi, ← cls_par] at hx
  obtain ⟨y, hy, e⟩ := par_yv x
  rw [frm_cong e]
  rw [cls_cong hw.bas e, cls_cong (x := cutv i) hw.bas (fun _ _ => rfl)] at hx
  have k := all_range (all_range (all_range chkC_ok (hw.lt 0)) (hw.lt 1)) (hw.lt 2)
  rw [hw.okb, Bool.not_true, Bool.false_or] at k
  have k2 := all_range (all_range k hi) hy
  rw [hx, beq_self_eq_true, Bool.not_true, Bool.false_or, Bool.or_eq_true, beq_iff_eq, beq_iff_eq] at k2
  rcases k2 with rfl | rfl
  · rw [(frm_cut p hi).1]; exact Int.le_refl _
  · rw [(frm_cut p hi).2]; exact Int.le_refl _
theorem nd_word {p : Nat → Int} {ws : Nat → Nat} (h : Wok ws) {i : Nat} (hi : i < 7) : 1 ≤ (nd p ws i).1 ∧ (nd p ws i).1 < 8 := by
  have l := h.lt
  have x : ∀ i j, ws i ^^^ ws j < 8 := fun i j => Nat.xor_lt_two_pow (n := 3) (l i) (l j)
  obtain ⟨n0, n1, n2, n3, n4, n5, n6⟩ := h.ind
  have e6 : ws 0 ^^^ ws 3 = ws 1 ^^^ ws 2 := by
    rw [h.sum, Nat.xor_assoc, ← Nat.xor_assoc (ws 0) (ws 0), Nat.xor_self, Nat.zero_xor]
  refine nat7 (P := fun i => 1 ≤ (nd p ws i).1 ∧ (nd p ws i).1 < 8) hi ?_ ?_ ?_ ?_ ?_ ?_ ?_
  · exact ⟨Nat.pos_of_ne_zero n0, l 0⟩
  · exact ⟨Nat.pos_of_ne_zero n1, l 1⟩
  · exact ⟨Nat.pos_of_ne_zero n2, l 2⟩
  · exact ⟨Nat.pos_of_ne_zero (show ws 3 ≠ 0 by rw [h.sum]; exact n6), l 3⟩
  · exact ⟨Nat.pos_of_ne_zero n3, x 0 1⟩
  · exact ⟨Nat.pos_of_ne_zero n4, x 0 2⟩
  · exact ⟨Nat.pos_of_ne_zero (show ws 0 ^^^ ws 3 ≠ 0 by rw [e6]; exact n5), x 0 3⟩
theorem start_word {n : Nat} (h1 : 1 ≤ n) (h8 : n < 8) : ∃ j, j < 7 ∧ ∀ c, (nd (startP c) bornW j).1 = n := by
  rcases (by omega : n = 1 ∨ n = 2 ∨ n = 4 ∨ n = 7 ∨ n = 3 ∨ n = 5 ∨ n = 6) with rfl | rfl | rfl | rfl | rfl | rfl | rfl
  · exact ⟨0, by decide, fun _ => rfl⟩
  · exact ⟨1, by decide, fun _ => rfl⟩
  · exact ⟨2, by decide, fun _ => rfl⟩
  · exact ⟨3, by decide, fun _ => rfl⟩
  · exact ⟨4, by decide, fun _ => rfl⟩
  · exact ⟨5, by decide, fun _ => rfl⟩
  · exact ⟨6, by decide, fun _ => rfl⟩
/-- the numbers of a class are the same at both ends -/
theorem same_least {c : Int} {p : Nat → Int} {ws : Nat → Nat} (h : Inv (startP c) bornW p ws) (hp : ∀ t, t < 6 → 0 ≤ p t) {i j : Nat} (hi : i < 7) (hj : j < 7) (e : (nd (startP c) bornW j).1 = (nd p ws i).1) : (nd (startP c) bornW j).2 = (nd p ws i).2 := by
  refine Int.le_antisymm ?_ ?_
  · obtain ⟨x, hx, e2⟩ := (h.tak _ _).mp (nd_tak p ws hi)
    rw [← e2]
    exact least_at born_wok (start_nonneg c) hj (hx.trans e.symm)
  · obtain ⟨x, hx, e2⟩ := (h.tak _ _).mpr (nd_tak (startP c) bornW hj)
    rw [← e2]
    exact least_at h.wok hp hi (hx.trans e)
theorem behind_facts {c : Int} {p : Nat → Int} {ws : Nat → Nat} (h : Inv (startP c) bornW p ws) (hp : ∀ t, t < 6 → 0 ≤ p t) {Ra Rb : List NCell} (hRa : Ra.map NCell.dat = (List.range 7).map (nd (startP c) bornW)) (hRb : Rb.map NCell.dat = (List.range 7).map (nd p ws)) :
    ∀ r ∈ Rb, 1 ≤ r.n ∧ r.n < 8 ∧ 0 ≤ r.x ∧ r.x < 100 ∧ ∃ r' ∈ Ra, r'.n = r.n ∧ r'.x = r.x := by
  intro r hr
  obtain ⟨i, hi, e⟩ := num_at hRb hr
  have e1 : r.n = (nd p ws i).1 := congrArg Prod.fst e
  have e2 : r.x = (nd p ws i).2 := congrArg Prod.snd e
  have w := nd_word (p := p) h.wok hi
  obtain ⟨j, hj, ej⟩ := start_word w.1 w.2
  have v := same_least h hp hi hj (ej c)
  have b := nd_start c hj
  refine ⟨by omega, by omega, by omega, by omega, ?_⟩
  have hm : nd (startP c) bornW j ∈ Ra.map NCell.dat := by rw [hRa]; exact List.mem_map_of_mem (List.mem_range.mpr hj)
  obtain ⟨r', hr', e3⟩ := List.mem_map.mp hm
  exact ⟨r', hr', (congrArg Prod.fst e3).trans ((ej c).trans e1.symm), (congrArg Prod.snd e3).trans (v.trans e2.symm)⟩
end Plain2_
section Law2_
open PySem PySem.W PySem.Spec PySem.Calls PyProof.Rows PyProof.Rows.LCg PyProof.Rows.LCp
theorem strs_lay : ∀ ns : List Str, (∀ x ∈ ns, PyData.strOk x = true) → PyData.canLayAll0 (ns.map PyData.str) = true
  | [], _ => rfl
  | a :: r, h => by simp [PyData.canLayAll0, PyData.canLay0, h a (.head _), strs_lay r fun x hx => h x (.tail _ hx)]
theorem strs_depth : ∀ ns : List Str, PyData.depthAll (ns.map PyData.str) = 0
  | [] => rfl
  | _ :: r => by simp [PyData.depthAll, PyData.depth, strs_depth r]
theorem strs_shaped {ns : List Str} (h : ∀ x ∈ ns, PyData.strOk x = true) : SeqAt.shaped (.list (ns.map PyData.str)) = true := by
  simp [SeqAt.shaped, PyData.canLay0, PyData.depth, strs_lay ns h, strs_depth]
theorem txt_ok {x : Int} (h0 : 0 ≤ x) (h1 : x < 100) : PyData.strOk (txt x) = true := by
  obtain ⟨n, rfl⟩ := Int.eq_ofNat_of_zero_le h0
  have hn : n < 100 := by omega
  exact (by decide +kernel : ∀ n : Nat, n < 100 → PyData.strOk (txt (n : Int)) = true) n hn
theorem strs_sameAll : ∀ ns ms : List Str, PySem.Spec.sameAll (ns.map PyData.str) (ms.map PyData.str) = decide (ns = ms)
  | [], [] => by simp [PySem.Spec.sameAll]
  | [], _ :: _ => by simp [PySem.Spec.sameAll]
  | _ :: _, [] => by simp [PySem.Spec.sameAll]
  | a :: r, b :: t => by
    simp only [List.map_cons, PySem.Spec.sameAll, PySem.Spec.same, strs_sameAll r t]
    by_cases h : a = b <;> by_cases h' : r = t <;> simp [h, h']
theorem strs_carried : ∀ {vs : List Value} {ns : List Str}, StrsAre vs ns → CarriedAll vs (ns.map PyData.str)
  | _, _, .nil => .nil
  | _, _, .cons _ t r => .cons (.str _ t) (strs_carried r)
section
variable {prog : Program} {w : World} {A : Around} {E : Value → Shared → Prop} {s : Shared} {a b : Addr} {xs ys : List Value} {ns ms : List Str} {Q : Value → Shared → Prop}
theorem ne_strs (ha : s.heap.IsList a xs.toArray) (hb : s.heap.IsList b ys.toArray) (hi : StrsAre xs ns) (hj : StrsAre ys ms) (hu : A.units + 64 < cLine) (e : ns = ms) (hok : ∀ x ∈ ns, PyData.strOk x = true) (h : Q (.bool false) s) :
    wpAny (model prog w) A (compareOp .NotEq (.ref a) (.ref b)) Q E s :=
  ne_dataH_same (reads_newData ha (strs_carried hi)) (reads_newData hb (strs_carried hj)) (strs_shaped hok) (strs_shaped (e ▸ hok)) hu (SeqAt.noMix_of_shape (.list .str) rfl _ _ (list_map_has fun _ => rfl) (list_map_has fun _ => rfl)) (by
    show Q (.bool (!PySem.Spec.sameAll (ns.map PyData.str) (ms.map PyData.str))) s
    rw [strs_sameAll, decide_eq_true e]; exact h)
end
theorem strs_of {α : Type} (f : α → Str) (g : α → Tok) : ∀ R : List α, StrsAre (R.map fun r => Value.str (f r) (g r)) (R.map f)
  | [] => .nil
  | _ :: r => .cons _ _ (strs_of f g r)
theorem known_strs {R : List HCell} {Ra : List NCell} (hd : R.map HCell.dat = Ra.map (fun r => (r.n, txt r.x))) : StrsAre (R.map fun r => Value.str r.v r.tv) (Ra.map fun r => txt r.x) := by
  have e : R.map (·.v) = Ra.map fun r => txt r.x := by
    have := congrArg (List.map Prod.snd) hd
    simpa [HCell.dat, Function.comp_def] using this
  rw [← e]
  exact strs_of _ _ R
theorem rowN_append (A B : List NCell) : rowN A ++ rowN B = rowN (A ++ B) := by simp [rowN]
/-- the number of a class at the start -/
noncomputable def leastQ (c : Int) (s : Nat) : Int := [0, (nd (startP c) bornW 0).2, (nd (startP c) bornW 1).2, (nd (startP c) bornW 4).2, (nd (startP c) bornW 2).2, (nd (startP c) bornW 5).2, (nd (startP c) bornW 6).2, (nd (startP c) bornW 3).2].getD s 0
theorem leastQ_bd (c : Int) : ∀ i, i < 8 → -100 < leastQ c i ∧ leastQ c i < 100 := by
  intro i hi
  have k : ∀ j, j < 7 → -100 < (nd (startP c) bornW j).2 ∧ (nd (startP c) bornW j).2 < 100 := fun j hj => by have := nd_start c hj; omega
  match i, hi with
  | 0, _ => exact ⟨(by decide : -100 < (0 : Int)), (by decide : (0 : Int) < 100)⟩
  | 1, _ => exact k 0 (by decide)
  | 2, _ => exact k 1 (by decide)
  | 3, _ => exact k 4 (by decide)
  | 4, _ => exact k 2 (by decide)
  | 5, _ => exact k 5 (by decide)
  | 6, _ => exact k 6 (by decide)
  | 7, _ => exact k 3 (by decide)
theorem leastQ_at (c : Int) {n : Nat} (h1 : 1 ≤ n) (h8 : n < 8) : ∃ j, j < 7 ∧ nd (startP c) bornW j = (n, leastQ c n) := by
  rcases (by omega : n = 1 ∨ n = 2 ∨ n = 4 ∨ n = 7 ∨ n = 3 ∨ n = 5 ∨ n = 6) with rfl | rfl | rfl | rfl | rfl | rfl | rfl
  · exact ⟨0, by decide, rfl⟩
  · exact ⟨1, by decide, rfl⟩
  · exact ⟨2, by decide, rfl⟩
  · exact ⟨3, by decide, rfl⟩
  · exact ⟨4, by decide, rfl⟩
  · exact ⟨5, by decide, rfl⟩
  · exact ⟨6, by decide, rfl⟩
theorem look_least {c : Int} {R : List HCell} {Ra : List NCell} (hRa : Ra.map NCell.dat = (List.range 7).map (nd (startP c) bornW)) (hd : R.map HCell.dat = Ra.map (fun r => (r.n, txt r.x))) (hn : (Ra.map (·.n)).Nodup) {n : Nat} (h1 : 1 ≤ n) (h8 : n < 8) :
    (∃ tv, lookH R n = .str (Str.ofString (toString (leastQ c n))) tv) ∧ 0 ≤ leastQ c n ∧ leastQ c n < 100 := by
  obtain ⟨j, hj, e⟩ := leastQ_at c h1 h8
  have b := nd_start c hj
  rw [e] at b
  refine ⟨look_old hd hn ?_, by omega, by omega⟩
  have hm : nd (startP c) bornW j ∈ Ra.map NCell.dat := by rw [hRa]; exact List.mem_map_of_mem (List.mem_range.mpr hj)
  obtain ⟨r', hr', e3⟩ := List.mem_map.mp hm
  rw [e] at e3
  exact ⟨r', hr', congrArg Prod.fst e3, congrArg Prod.snd e3⟩
theorem names7 : Str.ofString "a" = LN 1 ∧ Str.ofString "b" = LN 2 ∧ Str.ofString "ab" = LN 3 ∧ Str.ofString "c" = LN 4 ∧ Str.ofString "ac" = LN 5 ∧ Str.ofString "bc" = LN 6 ∧ Str.ofString "abc" = LN 7 := by decide +kernel
theorem names_at {t0 t1 t2 t3 t4 t5 t6 : Tok} {i : Nat} {v : Value} (hi : i < 7) (h : (#[Value.str (Str.ofString "a") t0, .str (Str.ofString "b") t1, .str (Str.ofString "ab") t2, .str (Str.ofString "c") t3, .str (Str.ofString "ac") t4, .str (Str.ofString "bc") t5, .str (Str.ofString "abc") t6] : Array Value)[i]? = some v) : ∃ t, v = .str (LN (i + 1)) t := by
  obtain ⟨n1, n2, n3, n4, n5, n6, n7⟩ := names7
  match i, hi with
  | 0, _ => exact ⟨t0, by rw [← n1]; exact (Option.some.inj h).symm⟩
  | 1, _ => exact ⟨t1, by rw [← n2]; exact (Option.some.inj h).symm⟩
  | 2, _ => exact ⟨t2, by rw [← n3]; exact (Option.some.inj h).symm⟩
  | 3, _ => exact ⟨t3, by rw [← n4]; exact (Option.some.inj h).symm⟩
  | 4, _ => exact ⟨t4, by rw [← n5]; exact (Option.some.inj h).symm⟩
  | 5, _ => exact ⟨t5, by rw [← n6]; exact (Option.some.inj h).symm⟩
  | 6, _ => exact ⟨t6, by rw [← n7]; exact (Option.some.inj h).symm⟩
theorem StrsLen {vs : List Value} {xs : List Str} (h : StrsAre vs xs) : vs.length = xs.length := by
  induction h with
  | nil => rfl
  | cons _ _ _ ih => simp [ih]
section
variable {w : World} {p : Program} {loose : List Str} {mean : ExcName → Option Value} {mg mb : Str → Option Value} {dp un : Nat} {gd : Option (List Code)} {cn : Str} {cs : Scope} {a : Addr} {ccd : Value} {cl : List (Str × Addr)} {outer : List Env} {A₀ : Around} {base h₀ : Heap} {L : Addr} {m : Str → Option Value} {s : Shared}
    {Q E : Value → Shared → Prop} {H d l : Addr} {kt : Tok} {news : Led}
theorem keys_use (R : List HCell) (B : Below A₀ base outer h₀) (F : Fr h₀ L s.heap m) (X : (KP w.params).In h₀) (N : News h₀ L s.heap news) (h1 : (H, instObj 203 d) ∈ news) (h2 : (d, headO w l kt) ∈ news) (h3 : (l, lst (rowH R)) ∈ news) (h4 : ∀ q ∈ R.map HCell.led, q ∈ news)
    (T : Top p loose mean mg mb h₀) (hk : cs.kind = .function) (hd : dp + 4 < recursionLimit) (hu : un + 10 * 4 < cLine) (hlen : R.length ≤ 100)
    (ret : ∀ D h' tk', Fr h₀ L h' m → News h₀ L h' ((D, lst (R.map fun c => Value.str (NM c.n) c.tk)) :: news) → Q (.ref D) { s with heap := h', toks := tk' }) :
    wpAny (model PySem.Challenge.rw_to0046_01.row.prog w) (ktrTop dp un gd cn cs L a ccd cl outer) (call (.ref 155) [.ref H]) Q E s := by
  refine ctr_use (hkeys w H d l R kt hlen) B F X N (sub_shelf h1 h2 h3 h4) T hk hd hu fun r9 ns9 h9 tk9 F9 N9 o9 => ?_
  obtain ⟨D, rfl, rfl⟩ := o9
  exact ret D h9 tk9 F9 N9
end
end Law2_
section Law3_
open PySem PySem.W PySem.Spec PySem.Calls PyProof.Rows PyProof.Rows.LCg PyProof.Rows.LCp
theorem six_list {ns : List Int} (h : ns.length = 6) : ∃ p : Nat → Int, ns = (List.range 6).map p := by
  match ns, h with
  | [a, b, c, d, e, f], _ => exact ⟨fun i => [a, b, c, d, e, f].getD i 0, rfl⟩
theorem ints_at {S : Array Value} {ns : List Int} {j : Nat} {v : Value} (h : IntsAre S.toList ns) (hv : S[j]? = some v) : ∃ a u, v = .int a u := by
  have hv' : S.toList[j]? = some v := by rw [Array.getElem?_toList]; exact hv
  clear hv
  generalize S.toList = l at *
  induction h generalizing j with
  | nil => simp at hv'
  | cons a u h ih =>
    cases j with
    | zero => exact ⟨a, u, by simpa using hv'.symm⟩
    | succ j => exact ih (by simpa using hv')
theorem sum_bd {ms : List Int} (h : ∀ x ∈ ms, 0 ≤ x ∧ x < 1000000) : 0 ≤ ms.sum ∧ ms.sum ≤ 1000000 * (ms.length : Int) := by
  induction ms with
  | nil => exact ⟨Int.le_refl _, Int.le_refl _⟩
  | cons a l ih =>
    have h1 := h a (.head _)
    have h2 := ih fun x hx => h x (.tail _ hx)
    rw [List.sum_cons, List.length_cons]
    omega
/-- ints from 0 up to a bound -/
noncomputable def NInv (B : Int) (i : Nat) (ys : List Value) : Prop := ∃ ns : List Int, IntsAre ys ns ∧ ns.length = i ∧ ∀ n ∈ ns, 0 ≤ n ∧ n < B
theorem NInv.nil (B : Int) : NInv B 0 [] := ⟨[], .nil, rfl, fun _ h => nomatch h⟩
theorem NInv.snoc {B : Int} {i : Nat} {ys : List Value} {a : Int} {u : Tok} (h : NInv B i ys) (h0 : 0 ≤ a) (h1 : a < B) : NInv B (i + 1) (ys ++ [.int a u]) := by
  obtain ⟨ns, hI, hl, hb⟩ := h
  refine ⟨ns ++ [a], hI.append (.cons _ _ .nil), by simp [hl], fun n hn => ?_⟩
  rcases List.mem_append.mp hn with hn | hn
  · exact hb n hn
  · rw [List.mem_singleton.mp hn]; exact ⟨h0, h1⟩
theorem pick_len {vs : List Value} {ns : List Int} (h : IntsAre vs ns) (lo hi st : Option Int) : (slicePick vs.toArray lo hi st).size ≤ ns.length := by
  refine Nat.le_trans (slicePick_size_le vs.toArray lo hi st) ?_
  show vs.length ≤ ns.length
  rw [IntsAre.length h]
  exact Nat.le_refl _
theorem cells_at {t0 t1 t2 t3 t4 t5 : Tok} {i : Nat} {v : Value} (h : (#[Value.int 183 t0, .int 684 t1, .int 7 t2, .int 2 t3, .int 4 t4, .int 3 t5] : Array Value)[i]? = some v) : ∃ (c : Int) (u : Tok), v = .int c u ∧ 0 < c ∧ c < 1000 := by
  match i with
  | 0 => exact ⟨_, _, (Option.some.inj h).symm, by decide, by decide⟩
  | 1 => exact ⟨_, _, (Option.some.inj h).symm, by decide, by decide⟩
  | 2 => exact ⟨_, _, (Option.some.inj h).symm, by decide, by decide⟩
  | 3 => exact ⟨_, _, (Option.some.inj h).symm, by decide, by decide⟩
  | 4 => exact ⟨_, _, (Option.some.inj h).symm, by decide, by decide⟩
  | 5 => exact ⟨_, _, (Option.some.inj h).symm, by decide, by decide⟩
  | n + 6 => simp at h
end Law3_
section Plain3_
open PySem PySem.W
noncomputable def Lq (p : Nat → Int) (s : Nat) : Int := [0, (nd p bornW 0).2, (nd p bornW 1).2, (nd p bornW 4).2, (nd p bornW 2).2, (nd p bornW 5).2, (nd p bornW 6).2, (nd p bornW 3).2].getD s 0
/-- the word of a label -/
noncomputable def phi (ws : Nat → Nat) (s : Nat) : Nat := [0, ws 0, ws 1, ws 0 ^^^ ws 1, ws 2, ws 0 ^^^ ws 2, ws 0 ^^^ ws 3, ws 3].getD s 0
noncomputable def pip (ws : Nat → Nat) (i : Nat) : Nat := phi ws (i + 1) - 1
noncomputable def chkF : Bool := (List.range 8).all fun a => (List.range 8).all fun b => (List.range 8).all fun c => !Mine.okb a b c ||
  (((List.range 7).map (pip (Mine.bas a b c))).isPerm (List.range 7) && (List.range 8).all fun s => (List.range 8).all fun t => phi (Mine.bas a b c) (s ^^^ t) == phi (Mine.bas a b c) s ^^^ phi (Mine.bas a b c) t)
theorem chkF_ok : chkF = true := by decide +kernel
theorem phi_cong {ws ws' : Nat → Nat} (h : ∀ n, n < 4 → ws n = ws' n) : phi ws = phi ws' := by
  funext s
  unfold phi
  rw [h 0 (by decide), h 1 (by decide), h 2 (by decide), h 3 (by decide)]
theorem pip_facts {ws : Nat → Nat} (hw : Wok ws) : ((List.range 7).map (pip ws)).Perm (List.range 7) ∧ ∀ s, s < 8 → ∀ t, t < 8 → phi ws (s ^^^ t) = phi ws s ^^^ phi ws t := by
  have e : phi ws = phi (Mine.bas (ws 0) (ws 1) (ws 2)) := phi_cong hw.bas
  have k := all_range (all_range (all_range chkF_ok (hw.lt 0)) (hw.lt 1)) (hw.lt 2)
  rw [hw.okb, Bool.not_true, Bool.false_or, Bool.and_eq_true] at k
  have e2 : pip ws = pip (Mine.bas (ws 0) (ws 1) (ws 2)) := by unfold pip; rw [e]
  refine ⟨by rw [e2]; exact List.isPerm_iff.mp k.1, fun s hs t ht => ?_⟩
  rw [e]
  exact beq_iff_eq.mp (all_range (all_range k.2 hs) ht)
theorem phi_nd {p : Nat → Int} (ws : Nat → Nat) {s : Nat} (h1 : 1 ≤ s) (h8 : s < 8) : ∃ i, i < 7 ∧ nd p ws i = (phi ws s, Lq p s) := by
  rcases (by omega : s = 1 ∨ s = 2 ∨ s = 3 ∨ s = 4 ∨ s = 5 ∨ s = 6 ∨ s = 7) with rfl | rfl | rfl | rfl | rfl | rfl | rfl
  · exact ⟨0, by decide, rfl⟩
  · exact ⟨1, by decide, rfl⟩
  · exact ⟨4, by decide, rfl⟩
  · exact ⟨2, by decide, rfl⟩
  · exact ⟨5, by decide, rfl⟩
  · exact ⟨6, by decide, rfl⟩
  · exact ⟨3, by decide, rfl⟩
theorem phi_bd {ws : Nat → Nat} (hw : Wok ws) {s : Nat} (h1 : 1 ≤ s) (h8 : s < 8) : 1 ≤ phi ws s ∧ phi ws s < 8 := by
  obtain ⟨i, hi, e⟩ := phi_nd (p := fun _ => 0) ws h1 h8
  have := nd_word (p := fun _ => 0) hw hi
  rw [e] at this
  exact this
theorem least_phi {c : Int} {p : Nat → Int} {ws : Nat → Nat} (h : Inv (startP c) bornW p ws) (hp : ∀ t, t < 6 → 0 ≤ p t) {s : Nat} (h1 : 1 ≤ s) (h8 : s < 8) : leastQ c (phi ws s) = Lq p s := by
  obtain ⟨i, hi, e⟩ := phi_nd (p := p) ws h1 h8
  have b := phi_bd h.wok h1 h8
  obtain ⟨j, hj, e2⟩ := leastQ_at c b.1 b.2
  have k := same_least h hp hi hj (by rw [e, e2])
  rw [e, e2] at k
  exact k
theorem leastQ_pos (c : Int) {s : Nat} (h1 : 1 ≤ s) (h8 : s < 8) : 1 ≤ leastQ c s := by
  obtain ⟨j, hj, e⟩ := leastQ_at c h1 h8
  have := nd_start c hj
  rw [e] at this
  omega
theorem wholeB_all (q : Nat → Int) (i : Nat) : wholeB q i = (List.range 7).all fun j => !tieB q i j := by
  unfold wholeB
  rw [Bool.eq_iff_iff, decide_eq_true_iff, List.map_eq_nil_iff, List.filter_eq_nil_iff, List.all_eq_true]
  simp
theorem all_perm {l l' : List Nat} (h : l.Perm l') (f : Nat → Bool) : l.all f = l'.all f := by
  rw [Bool.eq_iff_iff, List.all_eq_true, List.all_eq_true]
  exact ⟨fun k x hx => k x (h.mem_iff.mpr hx), fun k x hx => k x (h.mem_iff.mp hx)⟩
theorem tie_phi {c : Int} {p : Nat → Int} {ws : Nat → Nat} (h : Inv (startP c) bornW p ws) (hp : ∀ t, t < 6 → 0 ≤ p t) {i j : Nat} (hi : i < 7) (hj : j < 7) : tieB (leastQ c) (pip ws i) (pip ws j) = tieB (Lq p) i j := by
  have bi := phi_bd h.wok (s := i + 1) (by omega) (by omega)
  have bj := phi_bd h.wok (s := j + 1) (by omega) (by omega)
  have ei : pip ws i + 1 = phi ws (i + 1) := by unfold pip; omega
  have ej : pip ws j + 1 = phi ws (j + 1) := by unfold pip; omega
  have hom := (pip_facts h.wok).2 (i + 1) (by omega) (j + 1) (by omega)
  have li := least_phi h hp (s := i + 1) (by omega) (by omega)
  have lj := least_phi h hp (s := j + 1) (by omega) (by omega)
  unfold tieB
  rw [ei, ej, li, lj, ← hom]
  by_cases hij : j = i
  · subst hij; simp
  · have hx : i + 1 ^^^ (j + 1) ≠ 0 := fun e => by
      have k : (i + 1 ^^^ (j + 1)) ^^^ (j + 1) = 0 ^^^ (j + 1) := by rw [e]
      rw [Nat.xor_assoc, Nat.xor_self, Nat.xor_zero, Nat.zero_xor] at k
      omega
    have hx8 : i + 1 ^^^ (j + 1) < 8 := Nat.xor_lt_two_pow (n := 3) (by omega) (by omega)
    have lx := least_phi h hp (s := i + 1 ^^^ (j + 1)) (by omega) hx8
    have hne : pip ws j ≠ pip ws i := by
      intro e
      have e3 : phi ws (i + 1) = phi ws (j + 1) := by omega
      rw [e3, Nat.xor_self] at hom
      have := phi_bd h.wok (s := i + 1 ^^^ (j + 1)) (by omega) hx8
      omega
    rw [lx, bne_iff_ne.mpr hne, bne_iff_ne.mpr hij]
theorem whole_count {c : Int} {p : Nat → Int} {ws : Nat → Nat} (h : Inv (startP c) bornW p ws) (hp : ∀ t, t < 6 → 0 ≤ p t) : ((List.range 7).filter (wholeB (leastQ c))).length = ((List.range 7).filter (wholeB (Lq p))).length := by
  have pf := (pip_facts h.wok).1
  have e1 := ((pf.filter (wholeB (leastQ c))).length_eq).symm
  rw [e1, List.filter_map, List.length_map]
  congr 1
  refine List.filter_congr fun i hi => ?_
  have hi' := List.mem_range.mp hi
  show wholeB (leastQ c) (pip ws i) = wholeB (Lq p) i
  rw [wholeB_all, wholeB_all, ← all_perm pf, List.all_map]
  rw [Bool.eq_iff_iff, List.all_eq_true, List.all_eq_true]
  constructor
  · intro k j hj
    have := k j hj
    rw [Function.comp_apply, tie_phi h hp hi' (List.mem_range.mp hj)] at this
    exact this
  · intro k j hj
    have := k j hj
    rw [Function.comp_apply, tie_phi h hp hi' (List.mem_range.mp hj)]
    exact this
end Plain3_
section Plain4_
open PySem PySem.W
/-- pairs that a cut parts, by labels -/
noncomputable def sepK (s k : Nat) : Bool := ([[false, false, false, false, false, false], [true, true, true, false, false, false], [true, false, false, true, true, false], [false, true, true, true, true, false], [false, true, false, true, false, true], [true, false, true, true, false, true], [true, true, false, false, true, true], [false, false, true, false, true, true]].getD s []).getD k false
noncomputable def zl (a b c d e f : Bool) (k : Nat) : Bool := [a, b, c, d, e, f].getD k true
noncomputable def tieZ (z : Nat → Bool) (i j : Nat) : Bool := j != i && (List.range 6).all fun k => !(sepK (j + 1) k && sepK ((i + 1) ^^^ (j + 1)) k) || z k
noncomputable def wholeZ (z : Nat → Bool) (i : Nat) : Bool := (List.range 7).all fun j => !tieZ z i j
noncomputable def nzZ (z : Nat → Bool) : List Int := ((List.range 6).filter z).map Int.ofNat
noncomputable def facesZ (z : Nat → Bool) : Int := if (nzZ z).length = 2 then (if (nzZ z).sum = 5 then 6 else 4) else [7, 6, 0, 3].getD (nzZ z).length 0
noncomputable def connZ (z : Nat → Bool) : Bool := (List.range 7).all fun i => !((List.range 6).all fun k => !sepK (i + 1) k || z k)
theorem faces_all : ∀ a b c d e f : Bool, connZ (zl a b c d e f) = true → (((List.range 7).filter (wholeZ (zl a b c d e f))).length : Int) = facesZ (zl a b c d e f) ∧ (nzZ (zl a b c d e f)).length ≤ 3 := by decide +kernel
noncomputable def zof (p : Nat → Int) : Nat → Bool := zl (p 0 == 0) (p 1 == 0) (p 2 == 0) (p 3 == 0) (p 4 == 0) (p 5 == 0)
theorem zof_at (p : Nat → Int) {k : Nat} (hk : k < 6) : zof p k = (p k == 0) :=
  nat6 (P := fun k => zof p k = (p k == 0)) hk rfl rfl rfl rfl rfl rfl
theorem nz_zof (p : Nat → Int) : nz p = nzZ (zof p) := by
  unfold nz nzZ
  rw [List.filter_congr fun k hk => (zof_at p (List.mem_range.mp hk)).symm]
noncomputable def sepSum (p : Nat → Int) (f : Nat → Bool) : Int := (if f 0 then p 0 else 0) + (if f 1 then p 1 else 0) + (if f 2 then p 2 else 0) + (if f 3 then p 3 else 0) + (if f 4 then p 4 else 0) + (if f 5 then p 5 else 0)
theorem Lq_sep (p : Nat → Int) {s : Nat} (hs : s < 8) : Lq p s = sepSum p (sepK s) := by
  match s, hs with
  | 0, _ => simp [Lq, sepSum, sepK]
  | 1, _ => simp [Lq, nd, ST, List.range, List.range.loop, sepSum, sepK]; omega
  | 2, _ => simp [Lq, nd, ST, List.range, List.range.loop, sepSum, sepK]; omega
  | 3, _ => simp [Lq, nd, sixSum, sepSum, sepK]; omega
  | 4, _ => simp [Lq, nd, ST, List.range, List.range.loop, sepSum, sepK]; omega
  | 5, _ => simp [Lq, nd, sixSum, sepSum, sepK]; omega
  | 6, _ => simp [Lq, nd, sixSum, sepSum, sepK]; omega
  | 7, _ => simp [Lq, nd, ST, List.range, List.range.loop, sepSum, sepK]; omega
theorem sep_xor : ∀ s, s < 8 → ∀ t, t < 8 → ∀ k, k < 6 → sepK (s ^^^ t) k = (sepK s k ^^ sepK t k) := by decide +kernel
theorem sepSum_add (p : Nat → Int) (f g h : Nat → Bool) (e : ∀ k, k < 6 → h k = (f k ^^ g k)) : sepSum p f + sepSum p g = sepSum p h + 2 * sepSum p (fun k => f k && g k) := by
  have t : ∀ k, k < 6 → (if f k then p k else 0) + (if g k then p k else 0) = (if h k then p k else 0) + 2 * (if (f k && g k) then p k else 0) := by
    intro k hk
    rw [e k hk]
    cases f k <;> cases g k <;> simp <;> omega
  have t0 := t 0 (by decide)
  have t1 := t 1 (by decide)
  have t2 := t 2 (by decide)
  have t3 := t 3 (by decide)
  have t4 := t 4 (by decide)
  have t5 := t 5 (by decide)
  clear t e
  unfold sepSum
  dsimp only
  generalize (if (f 0 && g 0) = true then p 0 else 0) = c0 at *
  generalize (if (f 1 && g 1) = true then p 1 else 0) = c1 at *
  generalize (if (f 2 && g 2) = true then p 2 else 0) = c2 at *
  generalize (if (f 3 && g 3) = true then p 3 else 0) = c3 at *
  generalize (if (f 4 && g 4) = true then p 4 else 0) = c4 at *
  generalize (if (f 5 && g 5) = true then p 5 else 0) = c5 at *
  omega
theorem sepSum_zero {p : Nat → Int} (hp : ∀ t, t < 6 → 0 ≤ p t) (f : Nat → Bool) : sepSum p f = 0 ↔ ((List.range 6).all fun k => !f k || (p k == 0)) = true := by
  have t : ∀ k, k < 6 → 0 ≤ (if f k then p k else 0) ∧ ((if f k then p k else 0) = 0 ↔ (!f k || (p k == 0)) = true) := by
    intro k hk
    have := hp k hk
    cases f k <;> simp [this]
  have t0 := t 0 (by decide)
  have t1 := t 1 (by decide)
  have t2 := t 2 (by decide)
  have t3 := t 3 (by decide)
  have t4 := t 4 (by decide)
  have t5 := t 5 (by decide)
  have e : ((List.range 6).all fun k => !f k || (p k == 0)) = ((!f 0 || (p 0 == 0)) && ((!f 1 || (p 1 == 0)) && ((!f 2 || (p 2 == 0)) && ((!f 3 || (p 3 == 0)) && ((!f 4 || (p 4 == 0)) && ((!f 5 || (p 5 == 0)) && true)))))) := rfl
  rw [e, Bool.and_eq_true, Bool.and_eq_true, Bool.and_eq_true, Bool.and_eq_true, Bool.and_eq_true, Bool.and_eq_true, ← t0.2, ← t1.2, ← t2.2, ← t3.2, ← t4.2, ← t5.2]
  unfold sepSum
  generalize (if f 0 then p 0 else 0) = a0 at *
  generalize (if f 1 then p 1 else 0) = a1 at *
  generalize (if f 2 then p 2 else 0) = a2 at *
  generalize (if f 3 then p 3 else 0) = a3 at *
  generalize (if f 4 then p 4 else 0) = a4 at *
  generalize (if f 5 then p 5 else 0) = a5 at *
  clear e t
  constructor
  · intro h; refine ⟨?_, ?_, ?_, ?_, ?_, ?_, rfl⟩ <;> omega
  · rintro ⟨h0, h1, h2, h3, h4, h5, -⟩; omega
theorem tie_zof {p : Nat → Int} (hp : ∀ t, t < 6 → 0 ≤ p t) {i j : Nat} (hi : i < 7) (hj : j < 7) : tieB (Lq p) i j = tieZ (zof p) i j := by
  unfold tieB tieZ
  have hx8 : i + 1 ^^^ (j + 1) < 8 := Nat.xor_lt_two_pow (n := 3) (by omega) (by omega)
  rw [Lq_sep p (show j + 1 < 8 by omega), Lq_sep p hx8, Lq_sep p (show i + 1 < 8 by omega)]
  congr 1
  have hs := sepSum_add p (sepK (j + 1)) (sepK (i + 1 ^^^ (j + 1))) (sepK (i + 1)) (fun k hk => by
    rw [← sep_xor _ (by omega) _ hx8 k hk, Nat.xor_comm (j + 1), Nat.xor_assoc, Nat.xor_self, Nat.xor_zero])
  rw [hs]
  rw [Bool.eq_iff_iff, beq_iff_eq]
  have z := sepSum_zero hp (fun k => sepK (j + 1) k && sepK (i + 1 ^^^ (j + 1)) k)
  have e : ((List.range 6).all fun k => !(sepK (j + 1) k && sepK (i + 1 ^^^ (j + 1)) k) || zof p k) = ((List.range 6).all fun k => !(sepK (j + 1) k && sepK (i + 1 ^^^ (j + 1)) k) || (p k == 0)) := by
    rw [Bool.eq_iff_iff, List.all_eq_true, List.all_eq_true]
    constructor <;> intro h k hk <;> have := h k hk
    · rw [zof_at p (List.mem_range.mp hk)] at this; exact this
    · rw [zof_at p (List.mem_range.mp hk)]; exact this
  rw [e, ← z]
  omega
theorem whole_zof {p : Nat → Int} (hp : ∀ t, t < 6 → 0 ≤ p t) {i : Nat} (hi : i < 7) : wholeB (Lq p) i = wholeZ (zof p) i := by
  rw [wholeB_all]
  unfold wholeZ
  rw [Bool.eq_iff_iff, List.all_eq_true, List.all_eq_true]
  constructor <;> intro h j hj <;> have := h j hj
  · rw [tie_zof hp hi (List.mem_range.mp hj)] at this; exact this
  · rw [tie_zof hp hi (List.mem_range.mp hj)]; exact this
/-- Fedorov's kinds -/
theorem faces_whole {c : Int} {p : Nat → Int} {ws : Nat → Nat} (h : Inv (startP c) bornW p ws) (hp : ∀ t, t < 6 → 0 ≤ p t) : (((List.range 7).filter (wholeB (leastQ c))).length : Int) = facesOf p ∧ (nz p).length ≤ 3 := by
  rw [whole_count h hp]
  have e : (List.range 7).filter (wholeB (Lq p)) = (List.range 7).filter (wholeZ (zof p)) := List.filter_congr fun i hi => whole_zof hp (List.mem_range.mp hi)
  rw [e]
  have hc : connZ (zof p) = true := by
    unfold connZ
    rw [List.all_eq_true]
    intro i hi
    have hi' := List.mem_range.mp hi
    rw [Bool.not_eq_true', Bool.eq_false_iff]
    intro hz
    have l := least_phi h hp (s := i + 1) (by omega) (by omega)
    have b := phi_bd h.wok (s := i + 1) (by omega) (by omega)
    have pos := leastQ_pos c b.1 b.2
    have z := (sepSum_zero hp (sepK (i + 1))).mpr (by
      rw [List.all_eq_true] at *
      intro k hk
      have := hz k hk
      rw [zof_at p (List.mem_range.mp hk)] at this
      exact this)
    rw [← Lq_sep p (show i + 1 < 8 by omega)] at z
    omega
  have k := faces_all _ _ _ _ _ _ hc
  have f : facesOf p = facesZ (zof p) := by unfold facesOf facesZ; rw [nz_zof p]
  rw [f, nz_zof p]
  exact k
end Plain4_
section Plain5_
open PySem PySem.W
noncomputable def Bdd (p : Nat → Int) (B : Int) : Prop := ∀ t, t < 6 → -B ≤ p t ∧ p t ≤ B
theorem bd_upd {f : Nat → Int} {j : Nat} {x C : Int} {u : Nat} (hf : -C ≤ f u ∧ f u ≤ C) (hx : -C ≤ x ∧ x ≤ C) : -C ≤ upd f j x u ∧ upd f j x u ≤ C := by
  unfold upd
  split
  · exact hx
  · exact hf
theorem bd_add {a b B : Int} (x : -B ≤ a ∧ a ≤ B) (y : -B ≤ b ∧ b ≤ B) : -(2 * B) ≤ a + b ∧ a + b ≤ 2 * B := by omega
theorem bd_sub {a b B : Int} (x : -B ≤ a ∧ a ≤ B) (y : -B ≤ b ∧ b ≤ B) : -(2 * B) ≤ a - b ∧ a - b ≤ 2 * B := by omega
theorem bd_neg {a B : Int} (x : -B ≤ a ∧ a ≤ B) : -(2 * B) ≤ -a ∧ -a ≤ 2 * B := by omega
theorem sp_places {t sd : Int} (h0 : 0 ≤ t) (h6 : t < 6) (s0 : 0 ≤ sd) (s2 : sd < 2) : (SP (if sd = 0 then PA t else PB t) (KK t)).toNat < 6 ∧ (SP (if sd = 0 then PA t else PB t) (MM t)).toNat < 6 :=
  turn_cases (P := fun t sd => (SP (if sd = 0 then PA t else PB t) (KK t)).toNat < 6 ∧ (SP (if sd = 0 then PA t else PB t) (MM t)).toNat < 6) h0 h6 s0 s2 (by decide) (by decide) (by decide) (by decide) (by decide) (by decide) (by decide) (by decide) (by decide) (by decide) (by decide) (by decide)
theorem Bdd.turn {p : Nat → Int} {B : Int} (h : Bdd p B) {t sd : Int} (h0 : 0 ≤ t) (h6 : t < 6) (s0 : 0 ≤ sd) (s2 : sd < 2) : Bdd (turnP p t sd) (2 * B) := by
  intro u hu
  obtain ⟨k1, k2⟩ := sp_places h0 h6 s0 s2
  have e := h t.toNat (by omega)
  exact bd_upd (bd_upd (bd_upd (bd_upd (bd_add (h u hu) e) (bd_neg e)) (bd_sub (h _ (by omega)) e)) (bd_add (h _ k2) e)) (bd_add (h _ k1) e)
theorem spoil_bd (c k : Int) : ∀ t, t < 6 → -100 < spoilP (startP c) k t ∧ spoilP (startP c) k t < 100 := by
  have h : Bdd (startP c) 2 := fun t ht => ⟨by have := start_nonneg c t ht; omega, start_le c t ht⟩
  have h3 := ((h.turn (fmod6 ((k.fdiv (12 ^ 0)).fmod 12)).1 (fmod6 _).2 (fdiv6 (k.fdiv (12 ^ 0))).1 (fdiv6 _).2).turn (fmod6 ((k.fdiv (12 ^ 1)).fmod 12)).1 (fmod6 _).2 (fdiv6 (k.fdiv (12 ^ 1))).1 (fdiv6 _).2).turn (fmod6 ((k.fdiv (12 ^ 2)).fmod 12)).1 (fmod6 _).2 (fdiv6 (k.fdiv (12 ^ 2))).1 (fdiv6 _).2
  intro t ht
  have a := h3 t ht
  have b1 : -(2 * (2 * (2 * 2))) ≤ spoilP (startP c) k t := a.1
  have b2 : spoilP (startP c) k t ≤ 2 * (2 * (2 * 2)) := a.2
  omega
theorem acc_cls {ws : Nat → Nat} {x : Nat → Int} (h3 : x 3 = 0) : accW ws x 3 = cls ws x := by
  show ((0 ^^^ bt (x 0) (ws 0)) ^^^ bt (x 1) (ws 1)) ^^^ bt (x 2) (ws 2) = bt (x 0) (ws 0) ^^^ bt (x 1) (ws 1) ^^^ bt (x 2) (ws 2) ^^^ bt (x 3) (ws 3)
  rw [h3, show bt 0 (ws 3) = 0 from rfl, Nat.xor_zero, Nat.zero_xor]
theorem acc_pos {ws : Nat → Nat} (hw : Wok ws) {x : Nat → Int} (h0 : x 0 % 2 = 1) : 1 ≤ accW ws x 3 := by
  obtain ⟨n0, n1, n2, n3, n4, n5, n6⟩ := hw.ind
  refine Nat.pos_of_ne_zero ?_
  show ((0 ^^^ bt (x 0) (ws 0)) ^^^ bt (x 1) (ws 1)) ^^^ bt (x 2) (ws 2) ≠ 0
  unfold bt
  rw [if_pos h0, Nat.zero_xor]
  by_cases h1 : x 1 % 2 = 1 <;> by_cases h2 : x 2 % 2 = 1 <;> simp only [h1, h2, if_true, if_false, Nat.xor_zero] <;> assumption
theorem reach_le {c : Int} {p : Nat → Int} {ws : Nat → Nat} (h : Inv (startP c) bornW p ws) {x : Nat → Int} (h0 : x 0 % 2 = 1) (h3 : x 3 = 0) : leastQ c (accW ws x 3) ≤ frm p x := by
  obtain ⟨j, hj, e⟩ := leastQ_at c (acc_pos h.wok h0) (accW_lt h.wok.lt x 3)
  obtain ⟨y, hy, e2⟩ := (h.tak (accW ws x 3) (frm p x)).mp ⟨x, (acc_cls h3).symm, rfl⟩
  have k := least_at born_wok (start_nonneg c) hj (x := y) (by rw [e]; exact hy)
  rw [e] at k
  rw [← e2]
  exact k
/-- pairs in a row -/
noncomputable def ltI (a b : Int × Int) : Bool := ltP a.1 a.2 b.1 b.2
noncomputable def insI (z : Int × Int) : List (Int × Int) → List (Int × Int)
  | [] => [z]
  | a :: r => if ltI a z then a :: insI z r else z :: a :: r
noncomputable def srtI : List (Int × Int) → List (Int × Int)
  | [] => []
  | a :: r => insI a (srtI r)
theorem insI_perm (z : Int × Int) : ∀ l, (insI z l).Perm (z :: l)
  | [] => List.Perm.refl _
  | a :: r => by
    unfold insI
    split
    · exact ((insI_perm z r).cons a).trans (List.Perm.swap ..)
    · exact List.Perm.refl _
theorem srtI_perm : ∀ l, (srtI l).Perm l
  | [] => List.Perm.refl _
  | a :: r => (insI_perm a (srtI r)).trans ((srtI_perm r).cons a)
noncomputable def sortedI : List (Int × Int) → Bool
  | [] => true
  | a :: r => (r.all fun b => !ltI b a) && sortedI r
theorem sortedI_pw : ∀ l, sortedI l = true → l.Pairwise fun a b => ltI b a = false
  | [], _ => .nil
  | a :: r, h => by
    unfold sortedI at h
    rw [Bool.and_eq_true, List.all_eq_true] at h
    exact .cons (fun b hb => by have := h.1 b hb; simpa using this) (sortedI_pw r h.2)
theorem ltI_anti {a b : Int × Int} (h1 : ltI b a = false) (h2 : ltI a b = false) : a = b := by
  obtain ⟨a1, a2⟩ := a
  obtain ⟨b1, b2⟩ := b
  simp only [ltI, ltP, Bool.or_eq_false_iff, Bool.and_eq_false_iff, decide_eq_false_iff_not, beq_eq_false_iff_ne, ne_eq] at h1 h2
  have : a1 = b1 := by omega
  subst this
  have : a2 = b2 := by omega
  subst this
  rfl
noncomputable def row7 (q : Nat → Int) : List (Int × Int) := (List.range 7).map fun t => (q (t + 1), ((t + 1 : Nat) : Int))
noncomputable def threeV (S : List (Int × Int)) : Int := (S.getD 0 (0, 0)).1 * (S.getD 1 (0, 0)).1 * (if (S.getD 2 (0, 0)).2 = Builtin.bitXor (S.getD 0 (0, 0)).2 (S.getD 1 (0, 0)).2 then (S.getD 3 (0, 0)).1 else (S.getD 2 (0, 0)).1)
theorem getD_dat (R : List Cell) (k : Nat) : (R.map Cell.dat).getD k (0, 0) = (R.getD k ⟨0, 0, 0, 0, 0, 0⟩).dat := by
  rw [List.getD_eq_getElem?_getD, List.getD_eq_getElem?_getD, List.getElem?_map]
  cases R[k]? <;> rfl
theorem three_of {q : Nat → Int} {v : Int} (h : ThreeOf q v) (hs : sortedI (srtI (row7 q)) = true) : v = threeV (srtI (row7 q)) := by
  obtain ⟨R, ⟨hso, hpe⟩, rfl⟩ := h
  have e : R.map Cell.dat = srtI (row7 q) := by
    have p1 : (R.map Cell.dat).Perm (srtI (row7 q)) := hpe.trans (srtI_perm (row7 q)).symm
    refine List.Perm.eq_of_pairwise (le := fun a b => ltI b a = false) (fun a b _ _ h1 h2 => ltI_anti h1 h2) ?_ (sortedI_pw _ hs) p1
    exact List.pairwise_map.mpr hso
  unfold threeV
  rw [← e, getD_dat, getD_dat, getD_dat, getD_dat]
  rfl
noncomputable def st6 (a b d e f g : Nat) (i : Nat) : Int := ([1 + (a : Int), (b : Int), (d : Int), 1 + (e : Int), (f : Int), 1 + (g : Int)] : List Int).getD i 0
noncomputable def okV (p : Nat → Int) : Bool := sortedI (srtI (row7 (Lq p))) && decide (volP p ≤ threeV (srtI (row7 (Lq p)))) && decide (threeV (srtI (row7 (Lq p))) ≤ 2 * volP p) && decide (0 ≤ volP p) && decide (volP p < 100000)
noncomputable def chkV : Bool := (List.range 2).all fun a => (List.range 3).all fun b => (List.range 3).all fun d => (List.range 2).all fun e => (List.range 3).all fun f => (List.range 2).all fun g => okV (st6 a b d e f g)
theorem chkV_ok : chkV = true := by decide +kernel
theorem start_st6 (c : Int) : ∃ a b d e f g, a < 2 ∧ b < 3 ∧ d < 3 ∧ e < 2 ∧ f < 3 ∧ g < 2 ∧ startP c = st6 a b d e f g := by
  have m2 : ∀ a : Int, 0 ≤ a.fmod 2 ∧ a.fmod 2 < 2 := fun a => ⟨Int.fmod_nonneg_of_pos a (by decide), Int.fmod_lt_of_pos a (by decide)⟩
  have m3 : ∀ a : Int, 0 ≤ a.fmod 3 ∧ a.fmod 3 < 3 := fun a => ⟨Int.fmod_nonneg_of_pos a (by decide), Int.fmod_lt_of_pos a (by decide)⟩
  have a0 := m2 c
  have a1 := m3 (c.fdiv 2)
  have a2 := m3 ((c.fdiv 2).fdiv 3)
  have a3 := m2 (((c.fdiv 2).fdiv 3).fdiv 3)
  have a4 := m3 ((((c.fdiv 2).fdiv 3).fdiv 3).fdiv 2)
  have a5 := m2 (((((c.fdiv 2).fdiv 3).fdiv 3).fdiv 2).fdiv 3)
  refine ⟨_, _, _, _, _, _, (Int.toNat_lt a0.1).mpr a0.2, (Int.toNat_lt a1.1).mpr a1.2, (Int.toNat_lt a2.1).mpr a2.2, (Int.toNat_lt a3.1).mpr a3.2, (Int.toNat_lt a4.1).mpr a4.2, (Int.toNat_lt a5.1).mpr a5.2, ?_⟩
  funext i
  unfold startP st6
  rw [Int.toNat_of_nonneg a0.1, Int.toNat_of_nonneg a1.1, Int.toNat_of_nonneg a2.1, Int.toNat_of_nonneg a3.1, Int.toNat_of_nonneg a4.1, Int.toNat_of_nonneg a5.1]
theorem three_vol {c v : Int} (h : ThreeOf (leastQ c) v) : volP (startP c) ≤ v ∧ v ≤ 2 * volP (startP c) := by
  have e : leastQ c = Lq (startP c) := rfl
  rw [e] at h
  obtain ⟨a, b, d, e, f, g, ha, hb, hd, he, hf, hg, k⟩ := start_st6 c
  rw [k] at h ⊢
  have o := all_range (all_range (all_range (all_range (all_range (all_range chkV_ok ha) hb) hd) he) hf) hg
  unfold okV at o
  simp only [Bool.and_eq_true, decide_eq_true_eq] at o
  obtain ⟨⟨⟨⟨o1, o2⟩, o3⟩, -⟩, -⟩ := o
  rw [three_of h o1]
  exact ⟨o2, o3⟩
end Plain5_
section Law4_
open PySem PySem.W PySem.Spec PySem.Calls PyProof.Rows PyProof.Rows.LCg PyProof.Rows.LCp
theorem ints8 {q : Nat → Int} {ys : List Value} {t : Tok} (h0 : q 0 = 0) (h : IntsAre ys ((List.range 7).map fun j => q (j + 1))) : ∃ tk, [Value.int 0 t] ++ ys = (lst8 q tk).toList := by
  have h' : IntsAre ys [q 1, q 2, q 3, q 4, q 5, q 6, q 7] := h
  obtain ⟨t0, y0, e0, h0'⟩ := h'.cons_inv
  obtain ⟨t1, y1, e1, h1⟩ := h0'.cons_inv
  obtain ⟨t2, y2, e2, h2⟩ := h1.cons_inv
  obtain ⟨t3, y3, e3, h3⟩ := h2.cons_inv
  obtain ⟨t4, y4, e4, h4⟩ := h3.cons_inv
  obtain ⟨t5, y5, e5, h5⟩ := h4.cons_inv
  obtain ⟨t6, y6, e6, h6⟩ := h5.cons_inv
  rw [e0, e1, e2, e3, e4, e5, e6, h6.nil_inv]
  refine ⟨fun i => [t, t0, t1, t2, t3, t4, t5, t6].getD i 0, ?_⟩
  show [Value.int 0 t, _, _, _, _, _, _, _] = [Value.int (q 0) t, _, _, _, _, _, _, _]
  rw [h0]
  rfl
theorem least_list {h₀ h : Heap} {L D : Addr} {q : Nat → Int} {ys : List Value} {t : Tok} {rest : Led} (N : News h₀ L h ((D, { cls := .type "list", data := .seq ([Value.int 0 t] ++ ys).toArray }) :: rest)) (h0 : q 0 = 0) (hI : IntsAre ys ((List.range 7).map fun j => q (j + 1))) :
    ∃ tk, News h₀ L h ((D, listOf (lst8 q tk) 0) :: rest) := by
  obtain ⟨tk, e⟩ := ints8 (t := t) h0 hI
  rw [e] at N
  exact ⟨tk, N⟩
section
variable {w : World} {pr : Program} {loose : List Str} {mean : ExcName → Option Value} {mg mb : Str → Option Value} {dp un : Nat} {gd : Option (List Code)} {cn : Str} {cs : Scope} {a : Addr} {ccd : Value} {cl : List (Str × Addr)} {outer : List Env} {A₀ : Around} {base h₀ : Heap} {L : Addr} {m : Str → Option Value} {s : Shared}
    {Q E : Value → Shared → Prop} {H d l lp lw ls : Addr} {kt : Tok} {news : Led} {p : Nat → Int} {tp : Nat → Tok} {ws : Nat → Nat} {tw : Nat → Tok} {x : Nat → Int} {tx : Nat → Tok} {np nw cs' : Nat}
theorem reach_use (R : List HCell) (B : Below A₀ base outer h₀) (F : Fr h₀ L s.heap m) (X : (KP w.params).In h₀) (N : News h₀ L s.heap news) (m1 : (lp, listOf (six6 p tp) np) ∈ news) (m2 : (lw, listOf (wrd4 ws tw) nw) ∈ news) (m3 : (ls, tup (tup4 x tx) cs') ∈ news) (h1 : (H, instObj 203 d) ∈ news) (h2 : (d, headO w l kt) ∈ news) (h3 : (l, lst (rowH R)) ∈ news) (h4 : ∀ q ∈ R.map HCell.led, q ∈ news)
    (T : Top pr loose mean mg mb h₀) (hk : cs.kind = .function) (hd : dp + 9 < recursionLimit) (hu : un + 10 * 9 < cLine)
    (hw : W8 ws) (hp : ∀ t, t < 6 → -100 < p t ∧ p t < 100) (hx : ∀ i, i < 4 → -10 < x i ∧ x i < 10) (v0 : Int) (hv : ∃ tv, lookH R (accW ws x 3) = .str (Str.ofString (toString v0)) tv) (hv0 : 0 ≤ v0 ∧ v0 < 100) (hle : v0 ≤ frm p x) (hR : ∀ c ∈ R, c.n < 8) (hlen : R.length ≤ 100)
    (ret : ∀ h' tk', Fr h₀ L h' m → News h₀ L h' news → Q (.bool true) { s with heap := h', toks := tk' }) :
    wpAny (model PySem.Challenge.rw_to0046_01.row.prog w) (ktrTop dp un gd cn cs L a ccd cl outer) (call (.ref 253) [.ref H, .ref lp, .ref lw, .ref ls]) Q E s := by
  obtain ⟨tv, hv⟩ := hv
  refine ctr_use (reach w H d l lp lw ls R kt np nw cs' p tp ws tw x tx hw hp hx v0 tv hv hv0 hle hR hlen) B F X N (fun q hq => ?_) T hk hd hu fun r9 ns9 h9 tk9 F9 N9 o9 => ?_
  · rcases List.mem_cons.mp hq with rfl | hq
    · exact m1
    · rcases List.mem_cons.mp hq with rfl | hq
      · exact m2
      · rcases List.mem_cons.mp hq with rfl | hq
        · exact m3
        · exact sub_shelf h1 h2 h3 h4 _ hq
  · obtain ⟨rfl, rfl⟩ := o9
    exact ret h9 tk9 F9 N9
theorem vol_use (B : Below A₀ base outer h₀) (F : Fr h₀ L s.heap m) (X : (KP w.params).In h₀) (N : News h₀ L s.heap news) (m1 : (lp, listOf (six6 p tp) np) ∈ news)
    (T : Top pr loose mean mg mb h₀) (hk : cs.kind = .function) (hd : dp + 2 < recursionLimit) (hu : un + 10 * 2 < cLine) (hp : ∀ t, t < 6 → -100 < p t ∧ p t < 100)
    (ret : ∀ t h' tk', Fr h₀ L h' m → News h₀ L h' news → Q (.int (volP p) t) { s with heap := h', toks := tk' }) :
    wpAny (model PySem.Challenge.rw_to0046_01.row.prog w) (ktrTop dp un gd cn cs L a ccd cl outer) (call (.ref 277) [.ref lp]) Q E s := by
  refine ctr_use (vol w lp np (p 0) (p 1) (p 2) (p 3) (p 4) (p 5) (tp 0) (tp 1) (tp 2) (tp 3) (tp 4) (tp 5) (hp 0 (by decide)) (hp 1 (by decide)) (hp 2 (by decide)) (hp 3 (by decide)) (hp 4 (by decide)) (hp 5 (by decide))) B F X N (fun q hq => ?_) T hk hd hu fun r9 ns9 h9 tk9 F9 N9 o9 => ?_
  · rw [List.mem_singleton.mp hq]; exact m1
  · obtain ⟨rfl, t, rfl⟩ := o9
    exact ret t h9 tk9 F9 N9
theorem three_use {q : Nat → Int} {tq : Nat → Tok} (B : Below A₀ base outer h₀) (F : Fr h₀ L s.heap m) (X : (KP w.params).In h₀) (N : News h₀ L s.heap news) (m1 : (lp, listOf (lst8 q tq) np) ∈ news)
    (T : Top pr loose mean mg mb h₀) (hk : cs.kind = .function) (hd : dp + 6 < recursionLimit) (hu : un + 10 * 6 < cLine) (hq : ∀ i, i < 8 → -100 < q i ∧ q i < 100)
    (ret : ∀ v t h' tk', ThreeOf q v → Fr h₀ L h' m → News h₀ L h' news → Q (.int v t) { s with heap := h', toks := tk' }) :
    wpAny (model PySem.Challenge.rw_to0046_01.row.prog w) (ktrTop dp un gd cn cs L a ccd cl outer) (call (.ref 270) [.ref lp]) Q E s := by
  refine ctr_use (three w lp np q tq hq) B F X N (fun q hq => ?_) T hk hd hu fun r9 ns9 h9 tk9 F9 N9 o9 => ?_
  · rw [List.mem_singleton.mp hq]; exact m1
  · obtain ⟨rfl, v, t, rfl, h3⟩ := o9
    exact ret v t h9 tk9 h3 F9 N9
theorem faces_use (B : Below A₀ base outer h₀) (F : Fr h₀ L s.heap m) (X : (KP w.params).In h₀) (N : News h₀ L s.heap news) (m1 : (lp, listOf (six6 p tp) np) ∈ news)
    (T : Top pr loose mean mg mb h₀) (hk : cs.kind = .function) (hd : dp + 4 < recursionLimit) (hu : un + 10 * 4 < cLine) (h3 : (nz p).length ≤ 3)
    (ret : ∀ t h' tk', Fr h₀ L h' m → News h₀ L h' news → Q (.int (facesOf p) t) { s with heap := h', toks := tk' }) :
    wpAny (model PySem.Challenge.rw_to0046_01.row.prog w) (ktrTop dp un gd cn cs L a ccd cl outer) (call (.ref 263) [.ref lp]) Q E s := by
  refine ctr_use (faces w lp np p tp h3) B F X N (fun q hq => ?_) T hk hd hu fun r9 ns9 h9 tk9 F9 N9 o9 => ?_
  · rw [List.mem_singleton.mp hq]; exact m1
  · obtain ⟨rfl, t, rfl⟩ := o9
    exact ret t h9 tk9 F9 N9
theorem whole_use {q : Nat → Int} {tq : Nat → Tok} (B : Below A₀ base outer h₀) (F : Fr h₀ L s.heap m) (X : (KP w.params).In h₀) (N : News h₀ L s.heap news) (m1 : (lp, listOf (lst8 q tq) np) ∈ news)
    (T : Top pr loose mean mg mb h₀) (hk : cs.kind = .function) (hd : dp + 8 < recursionLimit) (hu : un + 10 * 8 < cLine)
    (ret : ∀ D vs h' tk', vs.length = ((List.range 7).filter (wholeB q)).length → Fr h₀ L h' m → News h₀ L h' ((D, lst vs) :: news) → Q (.ref D) { s with heap := h', toks := tk' }) :
    wpAny (model PySem.Challenge.rw_to0046_01.row.prog w) (ktrTop dp un gd cn cs L a ccd cl outer) (call (.ref 258) [.ref lp]) Q E s := by
  refine ctr_use (whole w lp np q tq) B F X N (fun q hq => ?_) T hk hd hu fun r9 ns9 h9 tk9 F9 N9 o9 => ?_
  · rw [List.mem_singleton.mp hq]; exact m1
  · obtain ⟨D, vs, rfl, rfl, hW⟩ := o9
    refine ret D vs h9 tk9 ?_ F9 N9
    have := IntsAre.length hW
    rw [List.length_map] at this
    exact this
end
theorem start_vol (c : Int) : 0 ≤ volP (startP c) ∧ volP (startP c) < 100000 := by
  obtain ⟨a, b, d, e, f, g, ha, hb, hd, he, hf, hg, k⟩ := start_st6 c
  rw [k]
  have o := all_range (all_range (all_range (all_range (all_range (all_range chkV_ok ha) hb) hd) he) hf) hg
  unfold okV at o
  simp only [Bool.and_eq_true, decide_eq_true_eq] at o
  exact ⟨o.1.2, o.2⟩
/-- the drawn vector -/
noncomputable def stepX (a b c : Int) (i : Nat) : Int := [2 * a.fmod 4 - 3, b.fmod 7 - 3, c.fmod 7 - 3, 0].getD i 0
theorem stepX_bd (a b c : Int) : ∀ i, i < 4 → -10 < stepX a b c i ∧ stepX a b c i < 10 := by
  intro i hi
  have a0 : 0 ≤ a.fmod 4 := Int.fmod_nonneg_of_pos _ (by decide)
  have a1 : a.fmod 4 < 4 := Int.fmod_lt_of_pos _ (by decide)
  have b0 : 0 ≤ b.fmod 7 := Int.fmod_nonneg_of_pos _ (by decide)
  have b1 : b.fmod 7 < 7 := Int.fmod_lt_of_pos _ (by decide)
  have c0 : 0 ≤ c.fmod 7 := Int.fmod_nonneg_of_pos _ (by decide)
  have c1 : c.fmod 7 < 7 := Int.fmod_lt_of_pos _ (by decide)
  match i, hi with
  | 0, _ => show -10 < 2 * a.fmod 4 - 3 ∧ 2 * a.fmod 4 - 3 < 10; omega
  | 1, _ => show -10 < b.fmod 7 - 3 ∧ b.fmod 7 - 3 < 10; omega
  | 2, _ => show -10 < c.fmod 7 - 3 ∧ c.fmod 7 - 3 < 10; omega
  | 3, _ => exact ⟨(by decide : -10 < (0 : Int)), (by decide : (0 : Int) < 10)⟩
theorem stepX_odd (a b c : Int) : stepX a b c 0 % 2 = 1 := by
  show (2 * a.fmod 4 - 3) % 2 = 1
  omega
theorem steps_list {h₀ h : Heap} {L D : Addr} {a b c : Int} {t0 t1 t2 t3 : Tok} {k : Nat} {rest : Led} (N : News h₀ L h ((D, tup #[.int (2 * a.fmod 4 - 3) t0, .int (b.fmod 7 - 3) t1, .int (c.fmod 7 - 3) t2, .int 0 t3] k) :: rest)) :
    News h₀ L h ((D, tup (tup4 (stepX a b c) (fun i => [t0, t1, t2, t3].getD i 0)) k) :: rest) := N
end Law4_
section law_
open PySem PySem.W PySem.Spec PySem.Calls PyProof.Rows
set_option maxRecDepth 100000 in
set_option maxHeartbeats 8000000 in
theorem law_holds : PySem.Challenge.rw_to0046_01.Holds := by
  k_with_none
  (k_with "ite" => (k_closed; first | ((with_reducible refine ite_neg ?ci ?_); (case ci => decide)) | ((with_reducible refine ite_pos ?ci ?_); (case ci => decide))))
  (k_with "FinE" => ((unfold LCg.FinE); intro D' h' tk' F' N' o1'; (try simp only [List.nil_append, List.cons_append] at N'); (try dsimp only)))
  (k_with "FinA" => ((unfold LCg.FinA); intro D' h' tk' F' N' o1'; (try simp only [List.nil_append, List.cons_append] at N'); (try dsimp only)))
  (k_with "eval Name" => ((with_reducible show wpAny _ _ (eval (Expr.Name _ _) (compEnvC _ _ _ _)) _ _ _); k_dflt (first
  | (refine' LCgL.ld_own ?N ?m ?C ?x ?_ ?a ?b; (case a => rfl); (case b => rfl); (case N => k_asm); (case m => k_mem); (case C => assumption); (case x => assumption); k_whole)
  | (refine' lcf_cell ?N ?c ?m ?d ?_ ?a ?b; (case a => rfl); (case b => rfl); (case N => k_asm); (case c => rfl); (case m => k_mem); (case d => k_asm); k_whole)
  | (refine' LCgL.ld_global ?F ?X ?T ?e ?_ ?g ?a ?b; (case a => rfl); (case b => rfl); (case g => rfl); (case F => k_asm); (case X => k_asm); (case T => k_asm); (case e => k_is); k_whole)
  | (refine' lcf_free ?N ?c ?m ?d ?_ ?a ?b; (case a => rfl); (case b => rfl); (case N => k_asm); (case c => rfl); (case m => k_mem); (case d => k_asm); k_whole))))
  (k_with "eval ListComp" => ((with_reducible show wpAny _ _ (eval (Expr.ListComp _ [Comprehension.mk (Expr.Name _ _) _ [] _] _ _) _) _ _ _); k_dflt (refine LCg.ListComp_U (F₀ := by k_asm) (by with_unfolding_all rfl) (by decide) (by rfl) (by decide) (by rfl) ?_)))
  (k_with "exec Assign cons ListComp" => ((with_reducible show wpAny _ _ (exec (Stmt.Assign [Expr.Name _ _] (Expr.ListComp _ [Comprehension.mk (Expr.Name _ _) _ [] _] _ _) _) _) _ _ _); k_dflt (refine LCg.Assign_ListComp_U (F₀ := by k_asm) (by rfl) (by with_unfolding_all rfl) (by with_unfolding_all rfl) (by decide) (by rfl) (by decide) (by rfl) (by rfl) (by rfl) ?_)))
  (k_with "eval ListComp" => ((with_reducible show wpAny _ _ (eval (Expr.ListComp _ [Comprehension.mk (Expr.Name _ _) _ [_] _] _ _) _) _ _ _); k_dflt (refine LCt.ListComp_T (F₀ := by k_asm) (by with_unfolding_all rfl) (by decide) (by rfl) (by decide) (by rfl) ?_)))
  (k_with "exec Assign cons ListComp" => ((with_reducible show wpAny _ _ (exec (Stmt.Assign [Expr.Name _ _] (Expr.ListComp _ [Comprehension.mk (Expr.Name _ _) _ [_] _] _ _) _) _) _ _ _); k_dflt (refine LCt.Assign_ListComp_T (F₀ := by k_asm) (by rfl) (by with_unfolding_all rfl) (by with_unfolding_all rfl) (by decide) (by rfl) (by decide) (by rfl) (by rfl) (by rfl) ?_)))
  (k_with "CompSrc" => (k_here; k_dflt (first
  | (refine LCg.CompSrc.ledger (by rfl) (by k_asm) (by k_asm) (by k_mem) (by first | size_fits | exact Nat.le_of_ble_eq_true rfl) ?_; intro g'; lcg_lit)
  | (refine LCg.CompSrc.range (by rfl) (by k_asm) (by k_asm) (by assumption) (by first | decide | rfl) (by first | rfl | decide) (by first | size_fits | exact Nat.le_of_ble_eq_true rfl) ?_; intro g'; lcg_lit))))
  (k_with "exec Assign cons ListComp" => ((with_reducible show wpAny _ _ (exec (Stmt.Assign [Expr.Name _ _] (Expr.ListComp _ [Comprehension.mk (Expr.Tuple [Expr.Name _ _, Expr.Name _ _] _ _) (Expr.Name _ _) [] _] _ _) _) _) _ _ _); k_dflt (refine LCp.Assign_ListComp_P (F₀ := by k_asm) (by rfl) (by with_unfolding_all rfl) (by with_unfolding_all rfl) (by decide) (by rfl) (by decide) (by rfl) (by rfl) (by decide) (by rfl) (by rfl) ?_)))
  (k_with "SrcLP" => (refine unhold ?_))
  (k_with "exec Assign cons ListComp" => ((with_reducible show wpAny _ _ (exec (Stmt.Assign [Expr.Name _ _] (Expr.ListComp _ [Comprehension.mk (Expr.Tuple [Expr.Name _ _, Expr.Name _ _] _ _) (Expr.Call _ _ _ _) [] _] _ _) _) _) _ _ _); k_dflt (refine Assign_ListComp_E (F₀ := by k_asm) (by rfl) (by with_unfolding_all rfl) (by with_unfolding_all rfl) (by decide) (by rfl) (by decide) (by rfl) (by rfl) (by decide) (by rfl) (by rfl) ?_)))
  (k_with "call type:enumerate" => (refine unhold ?_))
  (k_with "CompSrc" => (refine unhold ?_))
  (k_with "call ref" => ((with_reducible show wpAny _ _ (call (Value.ref 224) _ _) _ _ _); k_dflt (refine' ctr_use (start _ _ ?c1 _) ?B ?F ?X ?N ?S ?T ?hk ?hd ?hu ?_; (case c1 => assumption); (case hd => decide); (case hu => decide); (case B => with_reducible assumption); (case F => k_asm); (case X => with_reducible assumption); (case N => k_asm); (case S => first | (intro kp hp; exact hp) | lcg_sub); (case T => with_reducible assumption); (case hk => exact rfl); intro r9 ns9 h9 tk9 F9 N9 o9; obtain ⟨D9, z0, z1, z2, z3, z4, z5, c9, e9, e10⟩ := o9; subst e9; subst e10; (try simp only [List.cons_append, List.nil_append] at N9); replace N9 := news_head (o' := listOf (six6 (startP _) (fun i => [z0, z1, z2, z3, z4, z5].getD i 0)) c9) N9 rfl; (try dsimp only); (try k_fold))))
  (k_with "call ref" => ((with_reducible show wpAny _ _ (call (Value.ref 236) _ _) _ _ _); refine unhold ?_))
  (k_with "call ref" => ((with_reducible show wpAny _ _ (call (Value.ref 243) _ _) _ _ _); refine unhold ?_))
  (k_with "call ref" => ((with_reducible show wpAny _ _ (call (Value.ref 248) _ _) _ _ _); refine unhold ?_))
  (k_with "storeName" => ((with_reducible show wpAny _ _ (storeName _ (Str.ofString "shelf") _) _ _ _); refine unhold ?_))
  (k_with "call ref" => ((with_reducible show wpAny _ _ (call (Value.ref 193) _ _) _ _ _); refine unhold ?_))
  (k_with "call builtin:str.lower" => (k_here; (with_reducible show wpAny _ _ (call (Value.builtin "str.lower") [Value.str _ _]) _ _ _); (refine KXw.lower (by assumption) (by assumption) ?_); intro _ _))
  (k_with "binaryOp Add ref ref" => ((with_reducible show wpAny _ _ (binaryOp _ (Value.ref _) (Value.ref _)) _ _ _); refine unhold ?_))
  (k_with "compareOp NotEq ref ref" => (refine unhold ?_))
  (k_with "call ref" => ((with_reducible show wpAny _ _ (call (Value.ref 155) _ _) _ _ _); refine unhold ?_))
  (k_with "eval ListComp" => ((with_reducible show wpAny _ _ (eval (Expr.ListComp _ [Comprehension.mk (Expr.Tuple [Expr.Name _ _, Expr.Name _ _] _ _) (Expr.BinOp _ _ _ _) [] _] _ _) _) _ _ _); k_dflt (refine LCp.ListComp_P (F₀ := by k_asm) (by with_unfolding_all rfl) (by decide) (by rfl) (by decide) (by rfl) (by rfl) (by decide) ?_)))
  (k_with "call builtin:len" => ((with_reducible show wpAny _ _ (call (Value.builtin "len") [Value.ref _]) _ _ _); refine unhold ?_))
  (k_with "eval ListComp" => ((with_reducible show wpAny _ _ (eval (Expr.ListComp _ [Comprehension.mk (Expr.Name _ _) (Expr.Tuple _ _ _) [] _] _ _) _) _ _ _); k_dflt (refine ListComp_Tup (F₀ := by k_asm) (by with_unfolding_all rfl) (by decide) (by rfl) (by decide) (by rfl) ?_)))
  (k_with "CompSrcU" => (refine unhold ?_))
  (k_with "call ref" => ((with_reducible show wpAny _ _ (call (Value.ref 150) _ _) _ _ _); refine unhold ?_))
  (k_with "call ref" => ((with_reducible show wpAny _ _ (call (Value.ref 253) _ _) _ _ _); refine unhold ?_))
  (k_with "call ref" => ((with_reducible show wpAny _ _ (call (Value.ref 258) _ _) _ _ _); refine unhold ?_))
  (k_with "call ref" => ((with_reducible show wpAny _ _ (call (Value.ref 263) _ _) _ _ _); refine unhold ?_))
  (k_with "call ref" => ((with_reducible show wpAny _ _ (call (Value.ref 277) _ _) _ _ _); refine unhold ?_))
  (k_with "call ref" => ((with_reducible show wpAny _ _ (call (Value.ref 270) _ _) _ _ _); refine unhold ?_))
  (k_with "subscriptTail Name Constant ref int" => ((with_reducible show wpAny _ _ (subscriptTail (Expr.Name _ _) (Expr.Constant _ _ _) (Value.ref _) (Value.int _ _)) _ _ _); k_dflt (refine' item_six (News.isList ?N ?m) ?h0 ?h1 ?_ ?hs; (case N => k_asm); (case m => k_mem); (case h0 => decide); (case h1 => decide); (case hs => with_unfolding_all rfl); k_whole)))
  (k_with "call builtin:sum" => ((with_reducible show wpAny _ _ (call (Value.builtin "sum") [Value.ref _]) _ _ _); k_dflt (refine' sumK rfl ?F ?N ?l ?i ?_; (case F => k_asm); (case N => k_asm); (case l => exact News.isList (by k_asm) (by k_mem)); (case i => assumption); k_whole)))
  w_on
  refine holds_law said fun said => ?_
  refine holds_open (q := q) (loose := lo) (Xt := fun s => xlAt q [] s && recOk [] s) (XP := XL q []) (Yf := Hook.obs (kHook KP addrs keys)) (Ya := Hook.val (kHook KP addrs keys)) (YP := Hook.says (kHook KP addrs keys)) (N := 3112) left (Hook.of (kHook KP addrs keys)) (Hook.keeps (kHook KP addrs keys)) (fun s e => xl_of s (Bool.and_eq_true_iff.mp e).1) XL.keeps (by rfl) (by rfl) (by rfl) (fun s e => recFacts_of (Bool.and_eq_true_iff.mp e).2) (by rfl) said (by decide +kernel) ⟨rfl, rfl, rfl, rfl, rfl, by decide +kernel⟩ ?zhw ?_
  case zhw => w_witness2
  clear said
  dsimp only [WalkO]
  k_go0
  (rename Glob _ _ _ _ _ _ _ _ => z1); clear z1
  (rename Flt.MathXP _ _ _ => z1); clear z1
  (rename LooseAre _ _ _ => z1); clear z1
  (rename Tables _ _ _ _ => z1); clear z1
  (rename TopE _ _ _ _ => z1); clear z1
  (rename TopW _ _ _ => z1); clear z1
  (rename BMod _ _ _ _ _ => z1); clear z1
  (rename Hook.says _ _ _ => z1); clear z1
  (try ((rename Ground _ _ _ _ _ _ _ _ _ => z1); clear z1))
  (rename Top _ _ _ _ _ _ => zT)
  generalize looseW q lo = loose9 at zT
  generalize hq9 : q = p9 at zT
  clear hq9
  (all_goals try k_fold)
  (rename IntsAre _ _ => hSc)
  k_steps
  unfold Hold
  (rename News _ _ _ _ => lN'); (rename Fr _ _ _ _ => lF')
  refine' enum_src (its := ?its) (k := ?kk) (NInv 100000000) rfl lF' lN' ?hm ?hz (NInv.nil _) ?turn ?fin
  case hm => k_mem
  case hz => exact Nat.le_of_ble_eq_true rfl
  case turn =>
    intro i ys v hv hInv e it tv oe oi C oC D m₂ h tk E' hC hx hx2 F N
    clear lF' lN'
    obtain ⟨c, u, rfl, hc⟩ := cells_at hv
    k_steps
    unfold Hold
    (rename News _ _ _ _ => lN')
    have hz := fun lo hi st => Nat.le_trans (pick_len hSc lo hi st) (show _ ≤ sizeLine by unfold sizeLine; omega)
    refine LCg.CompSrc.ledger (by rfl) (by k_asm) lN' (.head _) (hz _ _ _) ?_
    intro g'
    have hPz := pick_len hSc (some (i : Int)) (some 18) (some 6)
    have hP := hSc.pick (some (i : Int)) (some 18) (some 6)
    generalize slicePick (List.toArray _) (some (i : Int)) (some 18) (some 6) = S at *
    generalize pickNums _ (some (i : Int)) (some 18) (some 6) = nS at *
    clear lN'
    refine rest_inv (n := S.size) (NInv 1000000) ?_ (by lcg_src) ?_ _ 0 [] (Nat.zero_add _) (NInv.nil _)
    · intro j ys hj hInv2 v I2 oI2 C2 oC2 D2 m₂ h tk E' hv hC hx F N
      obtain ⟨a, ua, rfl⟩ := ints_at hP hv
      have q0 : 0 ≤ a.fmod 1000000 := Int.fmod_nonneg_of_pos _ (by decide)
      have q1 : a.fmod 1000000 < 1000000 := Int.fmod_lt_of_pos _ (by decide)
      k_steps
      · exact Went.intro (by assumption) (by assumption) (by lcg_sub)
      · exact hInv2.snoc q0 q1
    · rintro ys ⟨ms, hI2, hl2, h02⟩
      have hsum := sum_bd h02
      k_steps
      · exact Went.intro (by assumption) (by assumption) (by lcg_sub)
      · exact hInv.snoc (by omega) (by omega)
  case fin =>
    rintro h ys ⟨ns, hI, hl, h0⟩
    unfold LCg.FinA
    intro D1 h1 tk1 F1 N1 o1
    clear lF' lN'
    replace hl : ns.length = 6 := hl
    obtain ⟨p, hp⟩ : ∃ p : Nat → Int, ns = (List.range 6).map p := six_list hl
    subst hp
    obtain ⟨tk0, rfl⟩ := ints6 hI
    replace N1 := news_head (o' := listOf (six6 p tk0) 6) N1 rfl
    have hp0 : 0 ≤ p 0 := (h0 _ (List.mem_map.mpr ⟨0, by decide, rfl⟩)).1
    clear hI h0 hl
    dsimp only
    k_steps
    unfold Hold
    (rename News _ _ _ _ => lN')
    replace lN' := born_list lN'
    have hc0 : startP (p (Int.toNat 0)) = startP (p 0) := rfl
    have hc1 : p (Int.toNat 1) = p 1 := rfl
    rw [hc1]
    rw [hc0] at lN'
    have hIs : Inv (startP (p 0)) bornW (startP (p 0)) bornW := Inv.rfl' born_wok
    have hIw := spoil_inv hIs (p 1)
    refine' ctr_use (spoilt _ _ _ _ _ (startP (p 0)) _ _ _ born_w8 _ _) ?B ?F ?X ?N ?S ?T ?hk ?hd ?hu ?_
    (case hd => decide); (case hu => decide); (case B => with_reducible assumption); (case F => k_asm); (case X => with_reducible assumption); (case N => k_asm); (case S => first | (intro kp hp; exact hp) | lcg_sub); (case T => with_reducible assumption); (case hk => exact rfl)
    intro r9 ns9 h9 tk9 F9 N9 o9
    obtain ⟨Dp, Dw, Dt, q1, q2, m1, m2, c9, ne9, e9, e10⟩ := o9
    subst e9
    subst e10
    simp only [List.cons_append, List.nil_append] at N9
    generalize hWp : spoilP (startP (p 0)) (p 1) = wp at *
    generalize hWw : spoilW bornW (p 1) = ww at *
    clear lN'
    dsimp only
    (try k_fold)
    k_steps
    unfold Hold
    (rename News _ _ _ _ => lN')
    have hc2 : p (Int.toNat 2) = p 2 := rfl
    rw [hc2]
    refine' ctr_use (settled _ (Inv (startP (p 0)) bornW) (fun p => (sixSum p).toNat) (fun _ _ h => h.wok.lt) (fun p ws t sd h a b c d e => Inv.step (start_nonneg _) p ws t sd h a b c d e) _ _ _ _ wp _ ww _ hIw _ _) ?B ?F ?X ?N ?S ?T ?hk ?hd ?hu ?_
    (case hd => decide); (case hu => decide); (case B => with_reducible assumption); (case F => k_asm); (case X => with_reducible assumption); (case N => k_asm); (case S => first | (intro kp hp; exact hp) | lcg_sub); (case T => with_reducible assumption); (case hk => exact rfl)
    intro r9 ns9 h9 tk9 F9 N9 o9
    obtain ⟨sp, sw, hIe, hpos, Dp2, Dw2, Dt2, q3, q4, m3, m4, c8, ne8, e9, e10⟩ := o9
    subst e9
    subst e10
    simp only [List.cons_append, List.nil_append] at N9
    clear lN'
    dsimp only
    (try k_fold)
    k_steps
    unfold Hold
    (rename News _ _ _ _ => lN'); (rename Fr _ _ _ _ => lF')
    refine' store_cell (keep := shelfL _ _ _ _ [] _ ++ [(Dw2, _), (Dp2, _), (Dw, _), (Dp, _), (_, listOf (wrd4 bornW _) _), (_, listOf (six6 (startP (p 0)) _) _), (D1, _)]) lF' lN' ?hc ?hm ?hdt ?hk ?_
    case hc => rfl
    case hm => k_mem
    case hdt => assumption
    case hk =>
      simp only [shelfL, List.map_nil, List.cons_append, List.nil_append]
      repeat refine List.forall_mem_cons.mpr ⟨⟨by k_mem, by first | nofun | (intro e; have e' : Data.seq _ _ = Data.cell _ := e; cases e')⟩, ?_⟩
      exact fun _ h => nomatch h
    intro h9 o9 F9 N9 d9
    simp only [shelfL, List.map_nil, List.cons_append, List.nil_append] at N9
    clear lN' lF'
    (try k_fold)
    k_steps
    unfold Hold
    (rename News _ _ _ _ => lN')
    refine' ctr_use (numbers _ _ _ _ _ (startP (p 0)) _ bornW _ born_w8) ?B ?F ?X ?N ?S ?T ?hk ?hd ?hu ?_
    (case hd => decide); (case hu => decide); (case B => with_reducible assumption); (case F => k_asm); (case X => with_reducible assumption); (case N => k_asm); (case S => first | (intro kp hp; exact hp) | lcg_sub); (case T => with_reducible assumption); (case hk => exact rfl)
    intro r9 ns9 h9 tk9 F9 N9 o9
    obtain ⟨Da, Ra, e9, e10, hRa⟩ := o9
    subst e9
    subst e10
    replace N9 := news_rot N9
    simp only [List.cons_append, List.nil_append] at N9
    clear lN'
    dsimp only
    (try k_fold)
    k_steps
    unfold Hold
    (rename News _ _ _ _ => lN')
    refine' ctr_use (numbers _ _ _ _ _ sp _ sw _ hIe.wok.lt) ?B ?F ?X ?N ?S ?T ?hk ?hd ?hu ?_
    (case hd => decide); (case hu => decide); (case B => with_reducible assumption); (case F => k_asm); (case X => with_reducible assumption); (case N => k_asm); (case S => first | (intro kp hp; exact hp) | lcg_sub); (case T => with_reducible assumption); (case hk => exact rfl)
    intro r9 ns9 h9 tk9 F9 N9 o9
    obtain ⟨Db, Rb, e9, e10, hRb⟩ := o9
    subst e9
    subst e10
    replace N9 := news_rot N9
    simp only [List.cons_append, List.nil_append, List.append_assoc] at N9
    clear lN'
    dsimp only
    (try k_fold)
    k_steps
    unfold Hold
    (rename News _ _ _ _ => lN'); (rename Fr _ _ _ _ => lF')
    obtain ⟨hRa7, hRan, hRab⟩ := num_facts hRa
    have hRb7 := num_len hRb
    refine' known_src rfl lF' lN' ?hoc ?hob hRa7 ?hl ?hin ?turn ?fin
    case hoc => assumption
    case hob => exact rowN_dsc hRb7
    case hl =>
      repeat refine List.forall_mem_cons.mpr ⟨Nat.le_of_ble_eq_true rfl, ?_⟩
      exact cells_dsc _ _
    case hin =>
      intro q hq
      repeat (first | exact List.mem_append_left _ hq | refine List.Mem.tail _ ?_)
    case turn =>
      intro rest hcr hRr i ys nw r hi hr hinv I oI C oC D m₂ h tk E' hC hx hx2 F N off
      clear lN' lF'
      obtain ⟨R, rfl, rfl, hdR, hap⟩ := hinv
      have hb := hRab r (List.mem_of_getElem? hr)
      k_steps
      unfold Hold
      refine' setd_use ?B ?F ?X ?N ?T ?hk ?hd ?hu off hap hdR hr hRa7 hRan hRab ?_
      case hd => decide
      case hu => decide
      case B => with_reducible assumption
      case F => k_asm
      case X => with_reducible assumption
      case N => k_asm
      case T => with_reducible assumption
      case hk => exact rfl
      intro a9 c9' h9 tk9 F9 N9 ap9
      dsimp only
      k_steps
      exact k_end (by assumption) N9 ap9 off hcr hdR hr rfl rfl
    case fin =>
      intro g Rk hdk
      unfold LCg.FinA
      intro Dk h1 tk1 Fk Nk ok1
      clear lN' lF'
      replace Nk := news_known Nk
      simp only [List.cons_append, List.append_assoc] at Nk
      k_steps
      unfold Hold
      (rename News _ _ _ _ => lN'); (rename Fr _ _ _ _ => lF')
      have hB := behind_facts hIe hpos hRa hRb
      refine' again_src (R := Rb) (fun r => txt r.x) rfl lF' lN' ?m ?inn ?z ?turn ?fin
      case m => k_mem
      case inn =>
        intro q hq
        repeat (first | exact hq | exact List.mem_append_left _ hq | refine List.Mem.tail _ ?_ | refine List.mem_append_right _ ?_)
      case z => omega
      case turn =>
        intro r hr ys I oI C oC D m₂ h tk E' hC hx hx2 F N
        clear lN' lF'
        obtain ⟨b1, b2, b3, b4, hex⟩ := hB r hr
        obtain ⟨tv, hlk⟩ := look_old hdk hRan hex
        have e1 : Txt.lower (NM r.n) = LN r.n := rfl
        have e2 := ln_long r.n b2
        k_steps
        unfold Hold
        refine' setd_old_use Rk ?B ?F ?X ?N ?h1 ?h2 ?h3 ?h4 ?T ?hk ?hd ?hu hlk b2 (dat_lt2 hdk hRab) (ln_low r.n b2) ?len ?_
        case B => with_reducible assumption
        case F => k_asm
        case X => with_reducible assumption
        case N => k_asm
        case h1 => k_mem
        case h2 => k_mem
        case h3 => k_mem
        case h4 =>
          intro q hq
          repeat (first | exact hq | exact List.mem_append_left _ hq | refine List.Mem.tail _ ?_ | refine List.mem_append_right _ ?_)
        case T => with_reducible assumption
        case hk => exact rfl
        case hd => decide
        case hu => decide
        case len => have := dat_len2 hdk; omega
        intro h9 tk9 F9 N9
        dsimp only
        k_steps
        exact Went.intro (by assumption) (by assumption) (fun q hq => hq)
      case fin =>
        intro g ys hA
        unfold LCg.FinA
        intro Dg h1 tk1 Fg Ng og1
        clear lN' lF'
        k_steps
        unfold Hold
        refine' add_lists ?F ?N (News.isList ?N1 ?m1) (News.isList ?N2 ?m2) ?_ ?z
        case F => k_asm
        case N => k_asm
        case N1 => k_asm
        case N2 => k_asm
        case m1 => exact .tail _ (.head _)
        case m2 => exact .head _
        case z => have := dat_len2 hdk; have := StrsLen hA; simp only [List.length_map] at *; rw [sizeLine_eq]; omega
        intro h2 F2 N2
        dsimp only
        k_steps
        unfold Hold
        refine' add_lists ?F ?N (News.isList ?N1 ?m1) (News.isList ?N2 ?m2) ?_ ?z
        case F => k_asm
        case N => k_asm
        case N1 => k_asm
        case N2 => k_asm
        case m1 => k_mem
        case m2 => k_mem
        case z => simp only [rowN, List.length_map]; rw [sizeLine_eq]; omega
        intro h3 F3 N3
        rw [rowN_append] at N3
        refine' again_src (R := Ra ++ Rb) (fun r => txt r.x) rfl F3 N3 (.head _) ?inn ?z ?turn ?fin
        case inn =>
          intro q hq
          rw [List.map_append] at hq
          rcases List.mem_append.mp hq with hq | hq
          all_goals repeat (first | exact hq | exact List.mem_append_left _ hq | refine List.Mem.tail _ ?_ | refine List.mem_append_right _ ?_)
        case z => rw [List.length_append]; omega
        case turn =>
          intro r hr ys2 I oI C oC D m₂ h tk E' hC hx hx2 F N
          have hb : 0 ≤ r.x ∧ r.x < 100 := by
            rcases List.mem_append.mp hr with hr | hr
            · exact (hRab r hr).2.2
            · have := hB r hr; omega
          clear F2 N2 F3 N3
          k_steps
          exact Went.intro (by assumption) (by assumption) (fun q hq => hq)
        case fin =>
          intro g ys2 hA2
          unfold LCg.FinE
          intro De h4 tk4 Fe Ne oe
          clear F2 N2 F3 N3
          dsimp only
          k_steps
          unfold Hold
          refine' ne_strs (News.isList ?N1 ?m1) (News.isList ?N2 ?m2) ((known_strs hdk).append' hA) hA2 ?uu1 ?ee1 ?ok1 ?_
          case N1 => k_asm
          case N2 => k_asm
          case m1 => exact .tail _ (.tail _ (.head _))
          case m2 => exact .head _
          case uu1 => ke_room
          case ee1 => rw [List.map_append]
          case ok1 =>
            intro x hx
            rcases List.mem_append.mp hx with hx | hx
            · obtain ⟨r, hr, rfl⟩ := List.mem_map.mp hx
              have := hRab r hr
              exact txt_ok this.2.2.1 this.2.2.2
            · obtain ⟨r, hr, rfl⟩ := List.mem_map.mp hx
              have := hB r hr
              exact txt_ok this.2.2.1 this.2.2.2.1
          k_steps
          unfold Hold
          refine' keys_use Rk ?bB ?bF ?bX ?bN ?bh1 ?bh2 ?bh3 ?bh4 ?bT ?bhk ?bhd ?bhu ?blen ?_
          case bB => with_reducible assumption
          case bF => k_asm
          case bX => with_reducible assumption
          case bN => k_asm
          case bh1 => k_mem
          case bh2 => k_mem
          case bh3 => k_mem
          case bh4 =>
            intro q hq
            repeat (first | exact hq | exact List.mem_append_left _ hq | refine List.Mem.tail _ ?_ | refine List.mem_append_right _ ?_)
          case bT => with_reducible assumption
          case bhk => exact rfl
          case bhd => decide
          case bhu => decide
          case blen => have := dat_len2 hdk; omega
          intro Dy h5 tk5 F5 N5
          dsimp only
          k_steps
          unfold Hold
          refine' kun_lenL (k := 7) (News.isList ?bN1 ?bm1) ?bk7 ?bz7 ?_
          case bN1 => k_asm
          case bm1 => exact .head _
          case bk7 => rw [List.size_toArray, List.length_map, dat_len2 hdk, hRa7]; rfl
          case bz7 => decide
          dsimp only
          k_steps
          unfold Hold
          (rename News _ _ _ _ => lN'); (rename Fr _ _ _ _ => lF')
          refine' CompSrcU.intro rfl lF' lN' ?cm ?cz ?_
          case cm => k_mem
          case cz => exact Nat.le_of_ble_eq_true rfl
          intro g2
          refine rest_inv (n := 7) (fun i ys => IntsAre ys ((List.range i).map fun j => leastQ (p 0) (j + 1))) ?cturn ?csrc ?cfin 7 0 [] rfl .nil
          case csrc => k_mem
          case cturn =>
            intro i ys hi hInv v I oI C oC D m₂ h tk E' hv hC hx F N
            clear lN' lF'
            obtain ⟨t, rfl⟩ := names_at hi hv
            obtain ⟨⟨tv, hlk⟩, b0, b1⟩ := look_least hRa hdk hRan (n := i + 1) (by omega) (by omega)
            k_steps
            unfold Hold
            refine' get_use Rk ?gB ?gF ?gX ?gN ?gh1 ?gh2 ?gh3 ?gh4 ?gT ?ghk ?ghd ?ghu hlk ?gq (dat_lt2 hdk hRab) ?gx ?glen ?_
            case gB => with_reducible assumption
            case gF => k_asm
            case gX => with_reducible assumption
            case gN => k_asm
            case gh1 => k_mem
            case gh2 => k_mem
            case gh3 => k_mem
            case gh4 =>
              intro q hq
              repeat (first | exact hq | exact List.mem_append_left _ hq | refine List.Mem.tail _ ?_ | refine List.mem_append_right _ ?_)
            case gT => with_reducible assumption
            case ghk => exact rfl
            case ghd => decide
            case ghu => decide
            case gq => omega
            case gx => exact ln_low (i + 1) (by omega)
            case glen => have := dat_len2 hdk; omega
            intro h9 tk9 F9 N9
            dsimp only
            k_steps
            · exact Went.intro (by assumption) (by assumption) (fun q hq => hq)
            · exact ints_map_snoc (f := fun j => leastQ (p 0) (j + 1)) hInv
          case cfin =>
            intro ys hI
            unfold LCg.FinE
            intro Dl h6 tk6 F6 N6 o6
            clear lN' lF'
            dsimp only
            k_steps
            unfold Hold
            refine' add_lists ?aF ?aN (vs := [Value.int 0 _]) (News.isList ?aN1 ?am1) (News.isList ?aN2 ?am2) ?_ ?az
            case aF => k_asm
            case aN => k_asm
            case aN1 => k_asm
            case aN2 => k_asm
            case am1 => k_mem
            case am2 => exact .head _
            case az => have := IntsAre.length hI; simp only [List.length_map, List.length_range, List.length_cons, List.length_nil] at *; rw [sizeLine_eq]; omega
            intro h7 F7 N7
            obtain ⟨tq, N8⟩ := least_list (q := leastQ (p 0)) N7 rfl hI
            clear N7
            dsimp only
            k_steps
            unfold Hold
            (rename News _ _ _ _ => lN')
            replace lN' := steps_list lN'
            (try simp only [Int.toNat_ofNat] at *)
            refine' reach_use (p := wp) (ws := ww) (x := stepX (p 3) (p 4) (p 5)) Rk ?rB ?rF ?rX ?rN ?rm1 ?rm2 ?rm3 ?rh1 ?rh2 ?rh3 ?rh4 ?rT ?rhk ?rhd ?rhu hIw.wok.lt ?rhp (stepX_bd _ _ _) (leastQ (p 0) (accW ww (stepX (p 3) (p 4) (p 5)) 3)) ?rhv ?rv0 (reach_le hIw (stepX_odd _ _ _) rfl) (dat_lt2 hdk hRab) ?rlen ?_
            case rB => with_reducible assumption
            case rF => k_asm
            case rX => with_reducible assumption
            case rN => exact lN'
            case rm1 => k_mem
            case rm2 => k_mem
            case rm3 => exact .head _
            case rh1 => k_mem
            case rh2 => k_mem
            case rh3 => k_mem
            case rh4 =>
              intro q hq
              repeat (first | exact hq | exact List.mem_append_left _ hq | refine List.Mem.tail _ ?_ | refine List.mem_append_right _ ?_)
            case rT => with_reducible assumption
            case rhk => exact rfl
            case rhd => decide
            case rhu => decide
            case rhp => rw [← hWp]; exact spoil_bd _ _
            case rhv => exact (look_least hRa hdk hRan (acc_pos hIw.wok (stepX_odd _ _ _)) (accW_lt hIw.wok.lt _ 3)).1
            case rv0 => exact (look_least hRa hdk hRan (acc_pos hIw.wok (stepX_odd _ _ _)) (accW_lt hIw.wok.lt _ 3)).2
            case rlen => have := dat_len2 hdk; omega
            intro h8 tk8 F8 N8
            clear lN'
            dsimp only
            k_steps
            unfold Hold
            obtain ⟨hfw, hnz⟩ := faces_whole hIe hpos
            have hvol : volP wp = volP (startP (p 0)) := hIw.vol
            have hvb := start_vol (p 0)
            rw [← hvol] at hvb
            refine' whole_use (q := leastQ (p 0)) ?wB ?wF ?wX ?wN ?wm ?wT ?whk ?whd ?whu ?_
            case wB => with_reducible assumption
            case wF => k_asm
            case wX => with_reducible assumption
            case wN => k_asm
            case wm => k_mem
            case wT => with_reducible assumption
            case whk => exact rfl
            case whd => decide
            case whu => decide
            intro Dw9 vs9 h9 tk9 hw9 F9 N9
            dsimp only
            k_steps
            unfold Hold
            refine' kun_lenL (k := facesOf sp) (News.isList ?vN1 ?vm1) ?vk7 ?vz7 ?_
            case vN1 => exact N9
            case vm1 => exact .head _
            case vk7 => rw [List.size_toArray, hw9]; exact hfw
            case vz7 => have := List.length_filter_le (wholeB (leastQ (p 0))) (List.range 7); rw [List.length_range] at this; omega
            dsimp only
            k_steps
            unfold Hold
            refine' faces_use (p := sp) ?fB ?fF ?fX ?fN ?fm ?fT ?fhk ?fhd ?fhu hnz ?_
            case fB => with_reducible assumption
            case fF => k_asm
            case fX => with_reducible assumption
            case fN => k_asm
            case fm => k_mem
            case fT => with_reducible assumption
            case fhk => exact rfl
            case fhd => decide
            case fhu => decide
            intro tf h10 tk10 F10 N10
            dsimp only
            k_steps
            unfold Hold
            refine' vol_use (p := wp) ?p1B ?p1F ?p1X ?p1N ?p1m ?p1T ?p1hk ?p1hd ?p1hu ?p1hp ?_
            case p1B => with_reducible assumption
            case p1F => k_asm
            case p1X => with_reducible assumption
            case p1N => k_asm
            case p1m => k_mem
            case p1T => with_reducible assumption
            case p1hk => exact rfl
            case p1hd => decide
            case p1hu => decide
            case p1hp => rw [← hWp]; exact spoil_bd _ _
            intro tv1 h11 tk11 F11 N11
            dsimp only
            k_steps
            unfold Hold
            refine' three_use (q := leastQ (p 0)) ?tB ?tF ?tX ?tN ?tm ?tT ?thk ?thd ?thu (leastQ_bd _) ?_
            case tB => with_reducible assumption
            case tF => k_asm
            case tX => with_reducible assumption
            case tN => k_asm
            case tm => k_mem
            case tT => with_reducible assumption
            case thk => exact rfl
            case thd => decide
            case thu => decide
            intro v3 t3 h12 tk12 h3v F12 N12
            have h3w := three_vol h3v
            rw [← hvol] at h3w
            have h3a := h3w.1
            have h3b := h3w.2
            dsimp only
            k_steps
            unfold Hold
            refine' vol_use (p := wp) ?p2B ?p2F ?p2X ?p2N ?p2m ?p2T ?p2hk ?p2hd ?p2hu ?p2hp ?_
            case p2B => with_reducible assumption
            case p2F => k_asm
            case p2X => with_reducible assumption
            case p2N => k_asm
            case p2m => k_mem
            case p2T => with_reducible assumption
            case p2hk => exact rfl
            case p2hd => decide
            case p2hu => decide
            case p2hp => rw [← hWp]; exact spoil_bd _ _
            intro tv2 h13 tk13 F13 N13
            dsimp only
            k_steps
end law_
end Mine
theorem PySem.Challenge.cw_to0046_01_holds : PySem.Challenge.rw_to0046_01.Holds := by
  exact Mine.law_holds
