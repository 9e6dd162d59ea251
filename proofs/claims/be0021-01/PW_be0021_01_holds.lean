import PyProof.Rows.All
import PyProof.Conv_int_bool
import PyProof.IsiPairs
import PyProof.Rows.Catch
import Wide.BytesFacts
import KE.KxBytes
import KE.KCallOwn
import KE.KIsAll
import KE.KIsBytes
import KE.KSuper
import Wide.FinOn
import OpenK.AllK
import Wide.All
import Lean
import PySem.Challenge.RW_be0021_01
set_option Elab.async false
section
open PySem PySem.W PyProof.Rows PySem.Calls
set_option maxRecDepth 100000
namespace Mine
abbrev pg : Program := PySem.Challenge.pw_be0021_01
def nthS : List Stmt → Nat → Stmt
  | s :: _, 0 => s
  | _ :: r, n + 1 => nthS r n
  | [], _ => .Pass ⟨0, 0, 0, 0⟩
def cB : Stmt → List Stmt
  | .ClassDef _ _ _ b .. => b
  | _ => []
def sAt (i : Nat) : Stmt := nthS pg.main.body i
def mAt (i j : Nat) : Stmt := nthS (cB (sAt i)) j
def fP : Stmt → Arguments
  | .FunctionDef _ a .. => a
  | _ => ⟨[], [], none, [], [], none, []⟩
def fB : Stmt → List Stmt
  | .FunctionDef _ _ b .. => b
  | _ => []
def fS : Stmt → Scope
  | .FunctionDef _ _ _ _ _ _ s .. => s
  | _ => pg.main.scope
noncomputable def ob2 (P : Params) : Obj := ⟨.none, none, .dict [⟨PyData.keyHash P (Str.mk #[105, 109, 112, 111, 114, 116, 46, 108, 111, 97, 100, 101, 100, 46, 95, 115, 114, 101]), (.str (Str.mk #[105, 109, 112, 111, 114, 116, 46, 108, 111, 97, 100, 101, 100, 46, 95, 115, 114, 101]) 183), (.bool true)⟩, ⟨PyData.keyHash P (Str.ofString "class._frozen_importlib.BuiltinImporter"), (.str (Str.ofString "class._frozen_importlib.BuiltinImporter") 185), (.ref 14)⟩, ⟨PyData.keyHash P (Str.mk #[119, 97, 116, 99, 104, 101, 100, 46, 105, 109, 112, 111, 114, 116]), (.str (Str.mk #[119, 97, 116, 99, 104, 101, 100, 46, 105, 109, 112, 111, 114, 116]) 206), (.ref 18)⟩, ⟨PyData.keyHash P (Str.ofString "class._frozen_importlib.ModuleSpec"), (.str (Str.ofString "class._frozen_importlib.ModuleSpec") 216), (.ref 22)⟩, ⟨PyData.keyHash P (Str.ofString "sys.modules.booked-epoch"), (.str (Str.ofString "sys.modules.booked-epoch") 245), (.int 3 0)⟩, ⟨PyData.keyHash P (Str.mk #[105, 109, 112, 111, 114, 116, 46, 108, 97, 116, 101, 114, 45, 108, 97, 105, 100, 46, 95, 115, 114, 101]), (.str (Str.mk #[105, 109, 112, 111, 114, 116, 46, 108, 97, 116, 101, 114, 45, 108, 97, 105, 100, 46, 95, 115, 114, 101]) 270), (.bool true)⟩, ⟨PyData.keyHash P (Str.ofString "watched.library"), (.str (Str.ofString "watched.library") 272), (.ref 27)⟩, ⟨PyData.keyHash P (Str.ofString "watched.library-objects"), (.str (Str.ofString "watched.library-objects") 0), (.str (Str.mk #[12]) 0)⟩, ⟨PyData.keyHash P (Str.ofString "watched.library-deep._sre"), (.str (Str.ofString "watched.library-deep._sre") 273), (.str (Str.mk #[4, 0, 0, 11, 4, 0, 0, 11, 4, 0, 0, 3, 4, 0, 0, 11, 8, 4, 100, 105, 99, 116, 2]) 0)⟩, ⟨PyData.keyHash P (Str.ofString "type.__subclasses__.str.0"), (.str (Str.ofString "type.__subclasses__.str.0") 1166), (.int 438 0)⟩, ⟨PyData.keyHash P (Str.ofString "type.__subclasses__.str.n"), (.str (Str.ofString "type.__subclasses__.str.n") 1167), (.int 1 0)⟩].toArray 11, [].toArray⟩
noncomputable def ob3 (P : Params) : Obj := ⟨(.type "dict"), none, .dict [⟨PyData.keyHash P (Str.ofString "__name__"), (.str (Str.ofString "__name__") 165), (.str (Str.ofString "law_be0021_01") 1170)⟩, ⟨PyData.keyHash P (Str.ofString "__doc__"), (.str (Str.ofString "__doc__") 166), .none⟩, ⟨PyData.keyHash P (Str.ofString "__package__"), (.str (Str.ofString "__package__") 167), .none⟩, ⟨PyData.keyHash P (Str.ofString "__loader__"), (.str (Str.ofString "__loader__") 168), (.builtin "__main__.__loader__#opaque")⟩, ⟨PyData.keyHash P (Str.ofString "__spec__"), (.str (Str.ofString "__spec__") 169), .none⟩, ⟨PyData.keyHash P (Str.ofString "__annotations__"), (.str (Str.ofString "__annotations__") 170), (.ref 6)⟩, ⟨PyData.keyHash P (Str.ofString "__builtins__"), (.str (Str.ofString "__builtins__") 171), (.ref 4)⟩, ⟨PyData.keyHash P (Str.ofString "__file__"), (.str (Str.ofString "__file__") 173), (.str (Str.ofString "/claim/cut.py") 172)⟩, ⟨PyData.keyHash P (Str.ofString "__cached__"), (.str (Str.ofString "__cached__") 174), .none⟩, ⟨PyData.keyHash P (Str.ofString "_sre"), (.str (Str.ofString "_sre") 275), (.ref 12)⟩, ⟨PyData.keyHash P (Str.ofString "_wall"), (.str (Str.ofString "_wall") 288), (.ref 38)⟩, ⟨PyData.keyHash P (Str.ofString "SEQUENCE_TYPES"), (.str (Str.ofString "SEQUENCE_TYPES") 291), (.ref 39)⟩, ⟨PyData.keyHash P (Str.ofString "DEFAULT_ENCODING"), (.str (Str.ofString "DEFAULT_ENCODING") 293), (.str (Str.ofString "utf-8") 292)⟩, ⟨PyData.keyHash P (Str.ofString "to_unicode"), (.str (Str.ofString "to_unicode") 302), (.ref 47)⟩, ⟨PyData.keyHash P (Str.ofString "_foldline"), (.str (Str.ofString "_foldline") 321), (.ref 55)⟩, ⟨PyData.keyHash P (Str.ofString "_escape_string"), (.str (Str.ofString "_escape_string") 328), (.ref 62)⟩, ⟨PyData.keyHash P (Str.ofString "_unescape_string"), (.str (Str.ofString "_unescape_string") 335), (.ref 69)⟩, ⟨PyData.keyHash P (Str.ofString "NAME"), (.str (Str.ofString "NAME") 360), (.ref 74)⟩, ⟨PyData.keyHash P (Str.ofString "validate_token"), (.str (Str.ofString "validate_token") 368), (.ref 81)⟩, ⟨PyData.keyHash P (Str.ofString "CaselessDict"), (.str (Str.ofString "CaselessDict") 528), (.ref 208)⟩, ⟨PyData.keyHash P (Str.ofString "param_value"), (.str (Str.ofString "param_value") 536), (.ref 218)⟩, ⟨PyData.keyHash P (Str.ofString "UNSAFE_CHAR"), (.str (Str.ofString "UNSAFE_CHAR") 570), (.ref 223)⟩, ⟨PyData.keyHash P (Str.ofString "QUNSAFE_CHAR"), (.str (Str.ofString "QUNSAFE_CHAR") 604), (.ref 228)⟩, ⟨PyData.keyHash P (Str.ofString "validate_param_value"), (.str (Str.ofString "validate_param_value") 613), (.ref 236)⟩, ⟨PyData.keyHash P (Str.ofString "QUOTABLE"), (.str (Str.ofString "QUOTABLE") 809), (.ref 241)⟩, ⟨PyData.keyHash P (Str.ofString "dquote"), (.str (Str.ofString "dquote") 817), (.ref 249)⟩, ⟨PyData.keyHash P (Str.ofString "q_split"), (.str (Str.ofString "q_split") 836), (.ref 257)⟩, ⟨PyData.keyHash P (Str.ofString "q_join"), (.str (Str.ofString "q_join") 847), (.ref 265)⟩, ⟨PyData.keyHash P (Str.ofString "Parameters"), (.str (Str.ofString "Parameters") 946), (.ref 318)⟩, ⟨PyData.keyHash P (Str.ofString "rfc_6868_unescape"), (.str (Str.ofString "rfc_6868_unescape") 957), (.ref 327)⟩, ⟨PyData.keyHash P (Str.ofString "rfc_6868_escape"), (.str (Str.ofString "rfc_6868_escape") 967), (.ref 334)⟩, ⟨PyData.keyHash P (Str.ofString "unescape_list_or_string"), (.str (Str.ofString "unescape_list_or_string") 975), (.ref 339)⟩, ⟨PyData.keyHash P (Str.ofString "unescape_backslash"), (.str (Str.ofString "unescape_backslash") 984), (.ref 346)⟩, ⟨PyData.keyHash P (Str.ofString "UFOLD"), (.str (Str.ofString "UFOLD") 1019), (.ref 351)⟩, ⟨PyData.keyHash P (Str.ofString "OWS"), (.str (Str.ofString "OWS") 1021), (.str (Str.mk #[32, 9]) 1020)⟩, ⟨PyData.keyHash P (Str.ofString "_flush_pending"), (.str (Str.ofString "_flush_pending") 1030), (.ref 358)⟩, ⟨PyData.keyHash P (Str.ofString "_strip_ows_around_delimiters"), (.str (Str.ofString "_strip_ows_around_delimiters") 1045), (.ref 366)⟩, ⟨PyData.keyHash P (Str.ofString "Contentline"), (.str (Str.ofString "Contentline") 1169), (.ref 438)⟩, ⟨PyData.keyHash P (Str.ofString "_law_bag"), (.str (Str.ofString "_law_bag") 1180), (.ref 449)⟩, ⟨PyData.keyHash P (Str.ofString "_law_draw"), (.str (Str.ofString "_law_draw") 1189), (.ref 456)⟩, ⟨PyData.keyHash P (Str.ofString "_law_line"), (.str (Str.ofString "_law_line") 1200), (.ref 463)⟩, ⟨PyData.keyHash P (Str.ofString "_law_size"), (.str (Str.ofString "_law_size") 1208), (.ref 470)⟩, ⟨PyData.keyHash P (Str.ofString "_law_pieces"), (.str (Str.ofString "_law_pieces") 1220), (.ref 477)⟩, ⟨PyData.keyHash P (Str.ofString "_law_refuses"), (.str (Str.ofString "_law_refuses") 1227), (.ref 484)⟩, ⟨PyData.keyHash P (Str.ofString "law"), (.str (Str.ofString "law") 1233), (.ref 489)⟩].toArray 45, [].toArray⟩
noncomputable def ob40 (_ : Params) : Obj := ⟨(.type "tuple"), none, .seq [(.str (Str.ofString "utf-8-sig") 294)].toArray 0, [].toArray⟩
noncomputable def ob46 (_ : Params) : Obj := ⟨(.type "code"), none, .fields [(.str (Str.ofString "to_unicode") 295), (.str (Str.ofString "to_unicode") 296), (.str (Str.ofString "/claim/cut.py") 297), (.int 8 0), (.int 2 0), (.int 0 0), (.int 0 0), (.int 3 0), (.ref 41), (.bool true), (.int 276 0), (.ref 42), .none, (.ref 43), (.ref 44), (.ref 45), (.int 300 0), (.int 8 0), (.str (Str.ofString "/claim/cut.py") 301)].toArray, [].toArray⟩
noncomputable def ob47 (_ : Params) : Obj := ⟨(.type "function"), none, .func { name := (Str.ofString "to_unicode"), qualname := (Str.ofString "to_unicode"), params := fP (sAt 5), body := .stmts (fB (sAt 5)), scope := fS (sAt 5), globals := 3, closure := [], defaults := (.ref 40), kwdefaults := .none, doc := .none, pyModule := (.str (Str.ofString "icalendar.parser_tools") 289), annotations := none, code := (.ref 46), closureTuple := .none, builtins := 0 }, [].toArray⟩
noncomputable def ob48 (_ : Params) : Obj := ⟨(.type "tuple"), none, .seq [(.int 75 305), (.str (Str.mk #[13, 10, 32]) 306)].toArray 0, [].toArray⟩
noncomputable def ob54 (_ : Params) : Obj := ⟨(.type "code"), none, .fields [(.str (Str.ofString "_foldline") 307), (.str (Str.ofString "_foldline") 308), (.str (Str.ofString "/claim/cut.py") 309), (.int 16 0), (.int 3 0), (.int 0 0), (.int 0 0), (.int 3 0), (.ref 49), (.bool true), (.int 276 0), (.ref 50), .none, (.ref 51), (.ref 52), (.ref 53), (.int 319 0), (.int 16 0), (.str (Str.ofString "/claim/cut.py") 320)].toArray, [].toArray⟩
noncomputable def ob55 (_ : Params) : Obj := ⟨(.type "function"), none, .func { name := (Str.ofString "_foldline"), qualname := (Str.ofString "_foldline"), params := fP (sAt 7), body := .stmts (fB (sAt 7)), scope := fS (sAt 7), globals := 3, closure := [], defaults := (.ref 48), kwdefaults := .none, doc := .none, pyModule := (.str (Str.ofString "icalendar.parser.string") 303), annotations := none, code := (.ref 54), closureTuple := .none, builtins := 0 }, [].toArray⟩
noncomputable def ob350 (_ : Params) : Obj := ⟨(.type "tuple"), none, .seq [(.int 14 0), (.int 4 0), (.int 0 0), (.int 2 0), (.int 4294967295 0), (.int 23 0), (.int 12 0), (.int 1 0), (.int 4294967295 0), (.int 24 0), (.int 6 0), (.int 0 0), (.int 1 0), (.int 16 0), (.int 13 0), (.int 1 0), (.int 16 0), (.int 10 0), (.int 18 0), (.int 13 0), (.int 6 0), (.int 16 0), (.int 32 0), (.int 16 0), (.int 9 0), (.int 0 0), (.int 1 0)].toArray 0, [].toArray⟩
noncomputable def ob351 (_ : Params) : Obj := ⟨(.type "re.Pattern"), none, .fields [(.str (Str.ofString "(?:\\r?\\n)+[ \\t]") 988), (.int 32 1018), (.int 0 0), .none, .none, (.ref 350), (.int 0 0)].toArray, [].toArray⟩
noncomputable def ob370 (_ : Params) : Obj := ⟨(.type "cell"), none, .cell (some (.ref 438)), [].toArray⟩
noncomputable def ob376 (_ : Params) : Obj := ⟨(.type "tuple"), none, .seq [(.bool false), (.str (Str.ofString "utf-8") 292)].toArray 0, [].toArray⟩
noncomputable def ob377 (_ : Params) : Obj := ⟨(.type "tuple"), none, .seq [(.ref 370)].toArray 0, [].toArray⟩
noncomputable def ob383 (_ : Params) : Obj := ⟨(.type "code"), none, .fields [(.str (Str.ofString "__new__") 1060), (.str (Str.ofString "Contentline.__new__") 1061), (.str (Str.ofString "/claim/cut.py") 1062), (.int 307 0), (.int 4 0), (.int 0 0), (.int 0 0), (.int 3 0), (.ref 378), (.bool true), (.int 276 0), (.ref 379), .none, (.ref 380), (.ref 381), (.ref 382), (.int 1069 0), (.int 307 0), (.str (Str.ofString "/claim/cut.py") 1070)].toArray, [].toArray⟩
noncomputable def ob384 (_ : Params) : Obj := ⟨(.type "function"), none, .func { name := (Str.ofString "__new__"), qualname := (Str.ofString "Contentline.__new__"), params := fP (mAt 34 1), body := .stmts (fB (mAt 34 1)), scope := fS (mAt 34 1), globals := 3, closure := [((Str.ofString "__class__"), 370)], defaults := (.ref 376), kwdefaults := .none, doc := .none, pyModule := (.str (Str.ofString "icalendar.parser.content_line") 985), annotations := none, code := (.ref 383), closureTuple := (.ref 377), builtins := 0 }, [].toArray⟩
noncomputable def ob417 (_ : Params) : Obj := ⟨(.type "tuple"), none, .seq [(.bool false)].toArray 0, [].toArray⟩
noncomputable def ob423 (_ : Params) : Obj := ⟨(.type "code"), none, .fields [(.str (Str.ofString "from_ical") 1131), (.str (Str.ofString "Contentline.from_ical") 1132), (.str (Str.ofString "/claim/cut.py") 1133), (.int 362 0), (.int 3 0), (.int 0 0), (.int 0 0), (.int 3 0), (.ref 418), (.bool true), (.int 276 0), (.ref 419), .none, (.ref 420), (.ref 421), (.ref 422), (.int 1137 0), (.int 362 0), (.str (Str.ofString "/claim/cut.py") 1138)].toArray, [].toArray⟩
noncomputable def ob424 (_ : Params) : Obj := ⟨(.type "function"), none, .func { name := (Str.ofString "from_ical"), qualname := (Str.ofString "Contentline.from_ical"), params := fP (mAt 34 6), body := .stmts (fB (mAt 34 6)), scope := fS (mAt 34 6), globals := 3, closure := [], defaults := (.ref 417), kwdefaults := .none, doc := .none, pyModule := (.str (Str.ofString "icalendar.parser.content_line") 985), annotations := (some 427), code := (.ref 423), closureTuple := .none, builtins := 0 }, [].toArray⟩
noncomputable def ob426 (_ : Params) : Obj := ⟨(.type "classmethod"), (some 425), .fields [(.ref 424), (.bool false)].toArray, [].toArray⟩
noncomputable def ob433 (_ : Params) : Obj := ⟨(.type "code"), none, .fields [(.str (Str.ofString "to_ical") 1152), (.str (Str.ofString "Contentline.to_ical") 1153), (.str (Str.ofString "/claim/cut.py") 1154), (.int 367 0), (.int 1 0), (.int 0 0), (.int 0 0), (.int 3 0), (.ref 428), (.bool true), (.int 276 0), (.ref 429), .none, (.ref 430), (.ref 431), (.ref 432), (.int 1156 0), (.int 367 0), (.str (Str.ofString "/claim/cut.py") 1157)].toArray, [].toArray⟩
noncomputable def ob434 (_ : Params) : Obj := ⟨(.type "function"), none, .func { name := (Str.ofString "to_ical"), qualname := (Str.ofString "Contentline.to_ical"), params := fP (mAt 34 7), body := .stmts (fB (mAt 34 7)), scope := fS (mAt 34 7), globals := 3, closure := [], defaults := .none, kwdefaults := .none, doc := .none, pyModule := (.str (Str.ofString "icalendar.parser.content_line") 985), annotations := none, code := (.ref 433), closureTuple := .none, builtins := 0 }, [].toArray⟩
noncomputable def ob437 (P : Params) : Obj := ⟨(.type "dict"), none, .dict [⟨PyData.keyHash P (Str.ofString "__module__"), (.str (Str.ofString "__module__") 1053), (.str (Str.ofString "icalendar.parser.content_line") 985)⟩, ⟨PyData.keyHash P (Str.ofString "__firstlineno__"), (.str (Str.ofString "__firstlineno__") 1057), (.int 304 1056)⟩, ⟨PyData.keyHash P (Str.ofString "__slots__"), (.str (Str.ofString "__slots__") 1059), (.ref 375)⟩, ⟨PyData.keyHash P (Str.ofString "__new__"), (.str (Str.ofString "__new__") 1071), (.ref 439)⟩, ⟨PyData.keyHash P (Str.ofString "from_parts"), (.str (Str.ofString "from_parts") 1094), (.ref 394)⟩, ⟨PyData.keyHash P (Str.ofString "raw_parts"), (.str (Str.ofString "raw_parts") 1113), (.ref 402)⟩, ⟨PyData.keyHash P (Str.ofString "parts"), (.str (Str.ofString "parts") 1123), (.ref 409)⟩, ⟨PyData.keyHash P (Str.ofString "value_separator_index"), (.str (Str.ofString "value_separator_index") 1130), (.ref 416)⟩, ⟨PyData.keyHash P (Str.ofString "from_ical"), (.str (Str.ofString "from_ical") 1151), (.ref 426)⟩, ⟨PyData.keyHash P (Str.ofString "to_ical"), (.str (Str.ofString "to_ical") 1158), (.ref 434)⟩, ⟨PyData.keyHash P (Str.ofString "__static_attributes__"), (.str (Str.ofString "__static_attributes__") 1160), (.ref 435)⟩, ⟨PyData.keyHash P (Str.ofString "strict"), (.str (Str.ofString "strict") 1164), (.ref 440)⟩, ⟨PyData.keyHash P (Str.ofString "__doc__"), (.str (Str.ofString "__doc__") 1165), .none⟩].toArray 4, [].toArray⟩
noncomputable def ob438 (_ : Params) : Obj := ⟨(.type "type"), none, .cls { name := (Str.ofString "Contentline"), bases := [(.type "str")], mro := [(.ref 438), (.type "str"), (.type "object")], ns := 437, qualname := (Str.ofString "Contentline"), hasDict := false, slotNames := [(Str.ofString "strict")], subclasses := [], abstract := false, collection := none, hasDel := false }, [(some (.ref 367)), none, (some (.str (Str.ofString "Contentline") 1046)), (some (.str (Str.ofString "Contentline") 1054)), (some .none), (some (.bool false))].toArray⟩
noncomputable def ob439 (_ : Params) : Obj := ⟨(.type "staticmethod"), none, .fields [(.ref 384)].toArray, [].toArray⟩
noncomputable def ob440 (_ : Params) : Obj := ⟨(.type "member_descriptor"), none, .fields [(.str (Str.ofString "strict") 1163), (.ref 438), (.builtin "proto.slot"), (.builtin "proto.slot#set"), (.int 0 0)].toArray, [].toArray⟩
noncomputable def ob448 (_ : Params) : Obj := ⟨(.type "code"), none, .fields [(.str (Str.ofString "_law_bag") 1172), (.str (Str.ofString "_law_bag") 1173), (.str (Str.ofString "/claim/cut.py") 1174), (.int 370 0), (.int 1 0), (.int 0 0), (.int 0 0), (.int 3 0), (.ref 443), (.bool true), (.int 276 0), (.ref 444), .none, (.ref 445), (.ref 446), (.ref 447), (.int 1178 0), (.int 370 0), (.str (Str.ofString "/claim/cut.py") 1179)].toArray, [].toArray⟩
noncomputable def ob449 (_ : Params) : Obj := ⟨(.type "function"), none, .func { name := (Str.ofString "_law_bag"), qualname := (Str.ofString "_law_bag"), params := fP (sAt 36), body := .stmts (fB (sAt 36)), scope := fS (sAt 36), globals := 3, closure := [], defaults := .none, kwdefaults := .none, doc := .none, pyModule := (.str (Str.ofString "law_be0021_01") 1170), annotations := none, code := (.ref 448), closureTuple := .none, builtins := 0 }, [].toArray⟩
noncomputable def ob455 (_ : Params) : Obj := ⟨(.type "code"), none, .fields [(.str (Str.ofString "_law_draw") 1181), (.str (Str.ofString "_law_draw") 1182), (.str (Str.ofString "/claim/cut.py") 1183), (.int 375 0), (.int 2 0), (.int 0 0), (.int 0 0), (.int 3 0), (.ref 450), (.bool true), (.int 276 0), (.ref 451), .none, (.ref 452), (.ref 453), (.ref 454), (.int 1187 0), (.int 375 0), (.str (Str.ofString "/claim/cut.py") 1188)].toArray, [].toArray⟩
noncomputable def ob456 (_ : Params) : Obj := ⟨(.type "function"), none, .func { name := (Str.ofString "_law_draw"), qualname := (Str.ofString "_law_draw"), params := fP (sAt 37), body := .stmts (fB (sAt 37)), scope := fS (sAt 37), globals := 3, closure := [], defaults := .none, kwdefaults := .none, doc := .none, pyModule := (.str (Str.ofString "law_be0021_01") 1170), annotations := none, code := (.ref 455), closureTuple := .none, builtins := 0 }, [].toArray⟩
noncomputable def ob462 (_ : Params) : Obj := ⟨(.type "code"), none, .fields [(.str (Str.ofString "_law_line") 1190), (.str (Str.ofString "_law_line") 1191), (.str (Str.ofString "/claim/cut.py") 1192), (.int 379 0), (.int 1 0), (.int 0 0), (.int 0 0), (.int 3 0), (.ref 457), (.bool true), (.int 276 0), (.ref 458), .none, (.ref 459), (.ref 460), (.ref 461), (.int 1198 0), (.int 379 0), (.str (Str.ofString "/claim/cut.py") 1199)].toArray, [].toArray⟩
noncomputable def ob463 (_ : Params) : Obj := ⟨(.type "function"), none, .func { name := (Str.ofString "_law_line"), qualname := (Str.ofString "_law_line"), params := fP (sAt 38), body := .stmts (fB (sAt 38)), scope := fS (sAt 38), globals := 3, closure := [], defaults := .none, kwdefaults := .none, doc := .none, pyModule := (.str (Str.ofString "law_be0021_01") 1170), annotations := none, code := (.ref 462), closureTuple := .none, builtins := 0 }, [].toArray⟩
noncomputable def ob469 (_ : Params) : Obj := ⟨(.type "code"), none, .fields [(.str (Str.ofString "_law_size") 1201), (.str (Str.ofString "_law_size") 1202), (.str (Str.ofString "/claim/cut.py") 1203), (.int 386 0), (.int 1 0), (.int 0 0), (.int 0 0), (.int 3 0), (.ref 464), (.bool true), (.int 276 0), (.ref 465), .none, (.ref 466), (.ref 467), (.ref 468), (.int 1206 0), (.int 386 0), (.str (Str.ofString "/claim/cut.py") 1207)].toArray, [].toArray⟩
noncomputable def ob470 (_ : Params) : Obj := ⟨(.type "function"), none, .func { name := (Str.ofString "_law_size"), qualname := (Str.ofString "_law_size"), params := fP (sAt 39), body := .stmts (fB (sAt 39)), scope := fS (sAt 39), globals := 3, closure := [], defaults := .none, kwdefaults := .none, doc := .none, pyModule := (.str (Str.ofString "law_be0021_01") 1170), annotations := none, code := (.ref 469), closureTuple := .none, builtins := 0 }, [].toArray⟩
noncomputable def ob476 (_ : Params) : Obj := ⟨(.type "code"), none, .fields [(.str (Str.ofString "_law_pieces") 1209), (.str (Str.ofString "_law_pieces") 1210), (.str (Str.ofString "/claim/cut.py") 1211), (.int 389 0), (.int 2 0), (.int 0 0), (.int 0 0), (.int 3 0), (.ref 471), (.bool true), (.int 276 0), (.ref 472), .none, (.ref 473), (.ref 474), (.ref 475), (.int 1218 0), (.int 389 0), (.str (Str.ofString "/claim/cut.py") 1219)].toArray, [].toArray⟩
noncomputable def ob477 (_ : Params) : Obj := ⟨(.type "function"), none, .func { name := (Str.ofString "_law_pieces"), qualname := (Str.ofString "_law_pieces"), params := fP (sAt 40), body := .stmts (fB (sAt 40)), scope := fS (sAt 40), globals := 3, closure := [], defaults := .none, kwdefaults := .none, doc := .none, pyModule := (.str (Str.ofString "law_be0021_01") 1170), annotations := none, code := (.ref 476), closureTuple := .none, builtins := 0 }, [].toArray⟩
noncomputable def ob483 (_ : Params) : Obj := ⟨(.type "code"), none, .fields [(.str (Str.ofString "_law_refuses") 1221), (.str (Str.ofString "_law_refuses") 1222), (.str (Str.ofString "/claim/cut.py") 1223), (.int 403 0), (.int 1 0), (.int 0 0), (.int 0 0), (.int 3 0), (.ref 478), (.bool true), (.int 276 0), (.ref 479), .none, (.ref 480), (.ref 481), (.ref 482), (.int 1225 0), (.int 403 0), (.str (Str.ofString "/claim/cut.py") 1226)].toArray, [].toArray⟩
noncomputable def ob484 (_ : Params) : Obj := ⟨(.type "function"), none, .func { name := (Str.ofString "_law_refuses"), qualname := (Str.ofString "_law_refuses"), params := fP (sAt 41), body := .stmts (fB (sAt 41)), scope := fS (sAt 41), globals := 3, closure := [], defaults := .none, kwdefaults := .none, doc := .none, pyModule := (.str (Str.ofString "law_be0021_01") 1170), annotations := none, code := (.ref 483), closureTuple := .none, builtins := 0 }, [].toArray⟩
noncomputable def KK (P : Params) : Frag := [(2, ob2 P), (3, ob3 P), (40, ob40 P), (46, ob46 P), (47, ob47 P), (48, ob48 P), (54, ob54 P), (55, ob55 P), (350, ob350 P), (351, ob351 P), (370, ob370 P), (376, ob376 P), (377, ob377 P), (383, ob383 P), (384, ob384 P), (417, ob417 P), (423, ob423 P), (424, ob424 P), (426, ob426 P), (433, ob433 P), (434, ob434 P), (437, ob437 P), (438, ob438 P), (439, ob439 P), (440, ob440 P), (448, ob448 P), (449, ob449 P), (455, ob455 P), (456, ob456 P), (462, ob462 P), (463, ob463 P), (469, ob469 P), (470, ob470 P), (476, ob476 P), (477, ob477 P), (483, ob483 P), (484, ob484 P)]
def kkAs : List Addr := [2, 3, 40, 46, 47, 48, 54, 55, 350, 351, 370, 376, 377, 383, 384, 417, 423, 424, 426, 433, 434, 437, 438, 439, 440, 448, 449, 455, 456, 462, 463, 469, 470, 476, 477, 483, 484]

/-- the globals of the text that are read -/
def GNt : List (Str × Value) := [("to_unicode", .ref 47), ("_foldline", .ref 55), ("UFOLD", .ref 351), ("Contentline", .ref 438), ("_law_bag", .ref 449), ("_law_draw", .ref 456), ("_law_line", .ref 463), ("_law_size", .ref 470), ("_law_pieces", .ref 477), ("_law_refuses", .ref 484)]
/-- the built-ins that are read -/
def GNb : List (Str × Value) := [("len", .builtin "len"), ("abs", .builtin "abs"), ("range", .type "range"), ("ord", .builtin "ord"), ("int", .type "int"), ("sum", .builtin "sum"), ("str", .type "str"), ("isinstance", .builtin "isinstance"), ("bytes", .type "bytes"), ("super", .type "super"), ("AssertionError", .type "AssertionError")]

structure Old (g h : Heap) : Prop where
  k : ∀ b o, g.get? b = some o → h.get? b = some o
theorem Old.refl (g : Heap) : Old g g := ⟨fun _ _ e => e⟩
theorem Old.trans {a b c : Heap} (x : Old a b) (y : Old b c) : Old a c := ⟨fun p o e => y.k p o (x.k p o e)⟩
theorem Old.nope {g h : Heap} (x : Old g h) {a : Addr} (ha : h.objs.size ≤ a) : g.get? a = none := by
  cases e : g.get? a with
  | none => rfl
  | some o => exact absurd (Nat.lt_of_lt_of_le (Heap.lt_size (x.k _ _ e)) ha) (Nat.lt_irrefl _)
/-- the frame at hand: its names; all of the base kept; the base does not know it -/
structure Fm (g : Heap) (L : Addr) (h : Heap) (m : Str → Option Value) : Prop where
  ns : h.Ns L m
  old : Old g h
  lo : g.get? L = none

structure TG (w : World) (h : Heap) : Prop where
  K : (KK w.params).In h
  nl : h.NoLimit
  gn : ∃ mg mb, h.Ns mainGlobals mg ∧ h.Ns builtinsNs mb ∧ (∀ p ∈ GNt, mg p.1 = some p.2) ∧ (∀ p ∈ GNb, mg p.1 = none ∧ mb p.1 = some p.2)
theorem TG.keeps {w : World} {h h' : Heap} (T : TG w h) (k : Old h h') : TG w h' :=
  ⟨T.K.keeps k.k, T.nl.keeps k.k, let ⟨a, b, c, d, e⟩ := T.gn; ⟨a, b, c.keeps k.k, d.keeps k.k, e⟩⟩

/-- a frame's names and what they hold -/
def lkv : List Str → List (Option Value) → Str → Option Value
  | n :: ns, v :: vs, y => if y = n then v else lkv ns vs y
  | _, _, _ => none
theorem lkv_get : ∀ {ns : List Str} {vs : List (Option Value)} {i : Nat} {x : Str} {v : Option Value}, ns.Nodup → ns[i]? = some x → vs[i]? = some v → lkv ns vs x = v
  | n :: ns, v :: vs, 0, x, u, _, h1, h2 => by cases h1; cases h2; simp [lkv]
  | n :: ns, v :: vs, i + 1, x, u, hd, h1, h2 => by
    have h1' : ns[i]? = some x := h1
    have h2' : vs[i]? = some u := h2
    have hx : x ≠ n := fun e => (List.nodup_cons.mp hd).1 (e ▸ List.mem_of_getElem? h1')
    simp only [lkv, if_neg hx]
    exact lkv_get (List.nodup_cons.mp hd).2 h1' h2'
  | [], _, _, _, _, _, h1, _ => by simp at h1
  | _ :: _, [], _, _, _, _, _, h2 => by simp at h2
theorem lkv_set : ∀ {ns : List Str} {vs : List (Option Value)} {i : Nat} {x : Str} {v : Value}, ns.Nodup → ns[i]? = some x → i < vs.length → (fun y => if y = x then some v else lkv ns vs y) = lkv ns (vs.set i (some v))
  | n :: ns, u :: vs, 0, x, v, _, h1, _ => by
    cases h1; funext y; simp only [lkv, List.set_cons_zero]; split <;> rfl
  | n :: ns, u :: vs, i + 1, x, v, hd, h1, h2 => by
    have h1' : ns[i]? = some x := h1
    have hx : x ≠ n := fun e => (List.nodup_cons.mp hd).1 (e ▸ List.mem_of_getElem? h1')
    have ih := lkv_set (v := v) (List.nodup_cons.mp hd).2 h1' (Nat.lt_of_succ_lt_succ h2)
    funext y
    have ihy := congrFun ih y
    simp only [lkv, List.set_cons_succ]
    by_cases hy : y = n
    · subst hy; simp [Ne.symm hx]
    · simp only [if_neg hy]; exact ihy
  | [], _, _, _, _, _, h1, _ => by simp at h1
  | _ :: _, [], _, _, _, _, _, h2 => by simp at h2

/-- what an object of the call's own is known to be -/
inductive LObj where
  | list (vs : List Value)
  | lst (vs : List Value)
  | obj (o : Obj)
def Is (h : Heap) (a : Addr) : LObj → Prop
  | .list vs => h.IsList a vs.toArray
  | .lst vs => ∃ n, IsL h a vs.toArray n
  | .obj o => h.get? a = some o
theorem Is.keep {h h' : Heap} {a : Addr} {x : LObj} (k : ∀ o, h.get? a = some o → h'.get? a = some o) (i : Is h a x) : Is h' a x := by
  cases x with
  | list vs => obtain ⟨o, e, r⟩ := i; exact ⟨o, k o e, r⟩
  | lst vs => obtain ⟨n, e⟩ := i; exact ⟨n, k _ e⟩
  | obj o => exact k o i
theorem Is.lt {h : Heap} {a : Addr} {x : LObj} (i : Is h a x) : a < h.objs.size := by
  cases x with
  | list vs => obtain ⟨o, e, r⟩ := i; exact Heap.lt_size e
  | lst vs => obtain ⟨n, e⟩ := i; exact Heap.lt_size e
  | obj o => exact Heap.lt_size i

structure Led (g : Heap) (L : Addr) (h : Heap) (σ : List (Addr × LObj)) : Prop where
  is : ∀ p ∈ σ, Is h p.1 p.2
  ne : ∀ p ∈ σ, p.1 ≠ L
  fr : ∀ p ∈ σ, g.get? p.1 = none
  nd : (σ.map (·.1)).Nodup
theorem Led.nil {g h : Heap} {L : Addr} : Led g L h [] := ⟨fun _ x => (nomatch x), fun _ x => (nomatch x), fun _ x => (nomatch x), List.Pairwise.nil⟩
theorem Led.keep {g h h' : Heap} {L : Addr} {σ} (D : Led g L h σ) (k : ∀ b o, b ≠ L → h.get? b = some o → h'.get? b = some o) : Led g L h' σ :=
  ⟨fun p hp => (D.is p hp).keep fun o e => k _ o (D.ne p hp) e, D.ne, D.fr, D.nd⟩
theorem Led.push {g h h' : Heap} {L a : Addr} {x : LObj} {σ} (D : Led g L h σ) (hL : L < h.objs.size) (hg : Old g h) (k : ∀ b o, h.get? b = some o → h'.get? b = some o) (ha : h.objs.size ≤ a) (hx : Is h' a x) : Led g L h' ((a, x) :: σ) := by
  refine ⟨fun p hp => ?_, fun p hp => ?_, fun p hp => ?_, ?_⟩
  · rcases List.mem_cons.mp hp with rfl | hp
    · exact hx
    · exact (D.is p hp).keep fun o e => k _ o e
  · rcases List.mem_cons.mp hp with rfl | hp
    · exact Nat.ne_of_gt (Nat.lt_of_lt_of_le hL ha)
    · exact D.ne p hp
  · rcases List.mem_cons.mp hp with rfl | hp
    · exact hg.nope ha
    · exact D.fr p hp
  · refine List.nodup_cons.mpr ⟨fun hm => ?_, D.nd⟩
    obtain ⟨p, hp, e⟩ := List.mem_map.mp hm
    have h1 : p.1 = a := e
    exact absurd (Nat.lt_of_lt_of_le (h1 ▸ (D.is p hp).lt) ha) (Nat.lt_irrefl _)
theorem Led.set {g h h' : Heap} {L a : Addr} {x y : LObj} {σ : List (Addr × LObj)} {i : Nat} (D : Led g L h σ) (hi : σ[i]? = some (a, x)) (hs : Heap.SameBut a h h') (hy : Is h' a y) : Led g L h' (σ.set i (a, y)) := by
  have hk : (σ.set i (a, y)).map (·.1) = σ.map (·.1) := by
    rw [List.map_set]
    apply List.ext_getElem?
    intro j
    rw [List.getElem?_set]
    split
    · rename_i e; subst e
      simp only [List.length_map]
      split
      · rename_i hl; rw [List.getElem?_map, hi]; rfl
      · rename_i hl; rw [List.getElem?_map, List.getElem?_eq_none (by omega)]; rfl
    · rfl
  have mem : ∀ p ∈ σ.set i (a, y), p = (a, y) ∨ (p ∈ σ ∧ p.1 ≠ a) := by
    intro p hp
    obtain ⟨j, hj⟩ := List.getElem?_of_mem hp
    rw [List.getElem?_set] at hj
    split at hj
    · left
      split at hj
      · exact (Option.some.inj hj).symm
      · cases hj
    · rename_i hne
      right
      refine ⟨List.mem_of_getElem? hj, fun e => hne ?_⟩
      have h1 : (σ.map (·.1))[i]? = some a := by rw [List.getElem?_map, hi]; rfl
      have h2 : (σ.map (·.1))[j]? = some a := by rw [List.getElem?_map, hj]; exact congrArg some e
      have hil : i < (σ.map (·.1)).length := by
        rcases Nat.lt_or_ge i (σ.map (·.1)).length with q | q
        · exact q
        · rw [List.getElem?_eq_none q] at h1; cases h1
      exact (List.getElem?_inj hil D.nd).mp (h1.trans h2.symm)
  refine ⟨fun p hp => ?_, fun p hp => ?_, fun p hp => ?_, hk ▸ D.nd⟩
  · rcases mem p hp with rfl | ⟨q, n⟩
    · exact hy
    · exact (D.is p q).keep fun o e => (hs.2 _ n).trans e
  · rcases mem p hp with rfl | ⟨q, _⟩
    · exact D.ne (a, x) (List.mem_of_getElem? hi)
    · exact D.ne p q
  · rcases mem p hp with rfl | ⟨q, _⟩
    · exact D.fr (a, x) (List.mem_of_getElem? hi)
    · exact D.fr p q

structure EnvOk (env : Env) (ns : List Str) (gl : List (Str × Value)) : Prop where
  kind : env.scope.kind = .function
  glob : env.globals = mainGlobals
  blt : env.builtins = builtinsNs
  nd : ns.Nodup
  ln : ∀ x ∈ ns, env.kindOf x = some .local ∧ (x == ("__debug__" : Str)) = false
  gn : ∀ p ∈ gl, env.kindOf p.1 = some .globalImplicit ∧ (p.1 == ("__debug__" : Str)) = false ∧ (p ∈ GNt ∨ p ∈ GNb)
def fnOk (cs : Scope) (ns : List Str) (gl : List (Str × Value)) : Bool :=
  decide (cs.kind = .function) && decide ns.Nodup && ns.all (fun x => decide (cs.names.lookup x = some .local) && !(x == ("__debug__" : Str))) &&
    gl.all (fun p => decide (cs.names.lookup p.1 = some .globalImplicit) && !(p.1 == ("__debug__" : Str)) && (GNt.contains p || GNb.contains p))
theorem EnvOk.of {name : Str} {cs : Scope} {L a : Addr} {cd : Value} {ns gl} (h : fnOk cs ns gl = true) : EnvOk (envOf name cs L a cd) ns gl := by
  unfold fnOk at h
  simp only [Bool.and_eq_true, List.all_eq_true, decide_eq_true_eq, Bool.not_eq_true', Bool.or_eq_true, List.contains_iff_mem] at h
  obtain ⟨⟨⟨h1, h2⟩, h3⟩, h4⟩ := h
  exact ⟨h1, rfl, rfl, h2, fun x hx => h3 x hx, fun p hp => ⟨(h4 p hp).1.1, (h4 p hp).1.2, (h4 p hp).2⟩⟩

structure SS (w : World) (g : Heap) (env : Env) (ns : List Str) (gl : List (Str × Value)) (h : Heap) (vs : List (Option Value)) (σ : List (Addr × LObj)) : Prop where
  e : EnvOk env ns gl
  T : TG w g
  F : Fm g env.locals h (lkv ns vs)
  D : Led g env.locals h σ
  len : vs.length = ns.length
theorem SS.old {w g env ns gl h vs σ} (S : SS w g env ns gl h vs σ) : Old g h := S.F.old
theorem SS.tg {w g env ns gl h vs σ} (S : SS w g env ns gl h vs σ) : TG w h := S.T.keeps S.old

structure AOk (A : Around) (n : Nat) : Prop where
  h : A.handled = none
  d : A.depth + n ≤ 500
  u : A.units + 10 * n ≤ 5000
theorem AOk.caller : AOk callerA 100 := ⟨rfl, by decide, by decide⟩
theorem AOk.deeper {A : Around} {n : Nat} (a : AOk A (n + 1)) (env : Env) : AOk (A.deeper env) n :=
  ⟨a.h, by have := a.d; show A.depth + 1 + n ≤ 500; omega, by have := a.u; show A.units + 3 + 10 * n ≤ 5000; omega⟩
theorem AOk.less {A : Around} {n m : Nat} (a : AOk A n) (h : m ≤ n := by omega) : AOk A m := ⟨a.h, by have := a.d; omega, by have := a.u; omega⟩
theorem AOk.room {A : Around} {n : Nat} (a : AOk A n) : A.depth < recursionLimit := by have := a.d; show A.depth < 1000; omega
theorem AOk.units {A : Around} {n : Nat} (a : AOk A n) : A.units < cLine := by have := a.u; show A.units < 9900; omega

@[reducible] def St (s : Shared) (h : Heap) (t : Nat) : Shared := { s with heap := h, toks := t }
end Mine

end

section
open PySem PySem.W PyProof.Rows PySem.Calls
set_option maxRecDepth 100000
namespace Mine
section
variable {w : World} {A : Around} {E : Value → Shared → Prop} {s : Shared} {g h : Heap} {t : Nat} {env : Env} {ns : List Str} {gl : List (Str × Value)} {vs : List (Option Value)} {σ : List (Addr × LObj)}

theorem rl_any {i : Nat} {x : Str} {v : Value} {Q : Value → Shared → Prop} (S : SS w g env ns gl h vs σ) (h1 : ns[i]? = some x) (h2 : vs[i]? = some (some v)) (hq : Q v (St s h t)) :
    wpAny (model pg w) A (loadName env x) Q E (St s h t) :=
  wpAny_loadName_local S.e.kind (S.e.ln x (List.mem_of_getElem? h1)).1 S.F.ns (lkv_get S.e.nd h1 h2) hq
theorem rn_any {i : Nat} {x : Str} {v : Value} {p : Pos} {Q : Value → Shared → Prop} (S : SS w g env ns gl h vs σ) (h1 : ns[i]? = some x) (h2 : vs[i]? = some (some v)) (hq : Q v (St s h t)) :
    wpAny (model pg w) A (eval (.Name x p) env) Q E (St s h t) :=
  wpAny_Name (rl_any S h1 h2 hq) (S.e.ln x (List.mem_of_getElem? h1)).2
theorem rg_any {x : Str} {v : Value} {p : Pos} {Q : Value → Shared → Prop} (S : SS w g env ns gl h vs σ) (h1 : (x, v) ∈ gl) (hq : Q v (St s h t)) :
    wpAny (model pg w) A (eval (.Name x p) env) Q E (St s h t) := by
  obtain ⟨k1, k2, k3⟩ := S.e.gn _ h1
  obtain ⟨mg, mb, g1, g2, g3, g4⟩ := S.tg.gn
  refine Name_function_global S.e.kind k1 ?_ k2
  rcases k3 with k | k
  · exact loadGlobal_global (env := env) (by rw [S.e.glob]; exact g1) (g3 _ k) hq
  · exact loadGlobal_builtin (env := env) (by rw [S.e.glob]; exact g1) (g4 _ k).1 (by rw [S.e.blt]; exact g2) (g4 _ k).2 hq
theorem SS.step {h' : Heap} {vs' : List (Option Value)} (S : SS w g env ns gl h vs σ) (hn : h'.Ns env.locals (lkv ns vs')) (hs : Heap.SameBut env.locals h h') (hl : vs'.length = ns.length) : SS w g env ns gl h' vs' σ :=
  ⟨S.e, S.T, ⟨hn, ⟨fun b o e => (hs.2 b fun q => by have := S.F.lo; rw [← q, e] at this; cases this).trans (S.F.old.k b o e)⟩, S.F.lo⟩, S.D.keep fun b o hb e => (hs.2 b hb).trans e, hl⟩
theorem SS.lt {i : Nat} {x : Str} (S : SS w g env ns gl h vs σ) (h1 : ns[i]? = some x) : i < vs.length := by
  rw [S.len]
  rcases Nat.lt_or_ge i ns.length with q | q
  · exact q
  · rw [List.getElem?_eq_none q] at h1; cases h1
theorem rs_full {i : Nat} {x : Str} {v : Value} {Q : Unit → Shared → Prop} (S : SS w g env ns gl h vs σ) (h1 : ns[i]? = some x)
    (hq : ∀ h' t', SS w g env ns gl h' (vs.set i (some v)) σ → Heap.SameBut env.locals h h' → Q () (St s h' t')) : wpAny (model pg w) A (storeName env x v) Q E (St s h t) := by
  refine wpAny_storeName_local (S.e.ln x (List.mem_of_getElem? h1)).1 S.F.ns (fun h' hn hs => ?_) (by rw [S.e.kind]; rfl)
  rw [lkv_set S.e.nd h1 (S.lt h1)] at hn
  exact hq _ _ (S.step hn hs (by rw [List.length_set]; exact S.len)) hs
theorem rs_any {i : Nat} {x : Str} {v : Value} {Q : Unit → Shared → Prop} (S : SS w g env ns gl h vs σ) (h1 : ns[i]? = some x)
    (hq : ∀ h' t', SS w g env ns gl h' (vs.set i (some v)) σ → Q () (St s h' t')) : wpAny (model pg w) A (storeName env x v) Q E (St s h t) := rs_full S h1 fun h' t' z _ => hq h' t' z

-- statements
theorem x_nil {Q : Flow → Shared → Prop} (hq : Q .next s) : wpAny (model pg w) A (execs [] env) Q E s := wpAny_execs_nil hq
theorem x_assign {x : Str} {pos' pos : Pos} {value : Expr} {rest : List Stmt} {Q : Flow → Shared → Prop}
    (hq : wpAny (model pg w) A (eval value env) (fun v s₁ => wpAny (model pg w) A (storeName env x v) (fun _ s₂ => wpAny (model pg w) A (execs rest env) Q E s₂) E s₁) E s)
    (hs : swapsWith value (some (.Name x pos')) pos.line env = pure false := by with_unfolding_all rfl) : wpAny (model pg w) A (execs (.Assign [.Name x pos'] value pos :: rest) env) Q E s :=
  wpAny_execs_cons (wpAny_Assign_Name hq hs)
theorem x_aug {x : Str} {pos' pos : Pos} {op : Operator} {value : Expr} {rest : List Stmt} {Q : Flow → Shared → Prop}
    (hq : wpAny (model pg w) A (loadName env x) (fun old s₁ => wpAny (model pg w) A (eval value env) (fun v s₂ => wpAny (model pg w) A (inplaceOp op old v)
      (fun r s₃ => wpAny (model pg w) A (storeName env x r) (fun _ s₄ => wpAny (model pg w) A (execs rest env) Q E s₄) E s₃) E s₂) E s₁) E s) :
    wpAny (model pg w) A (execs (.AugAssign (.Name x pos') op value pos :: rest) env) Q E s :=
  wpAny_execs_cons (wpAny_AugAssign_Name hq)
theorem x_sub {o i value : Expr} {pos' pos : Pos} {rest : List Stmt} {Q : Flow → Shared → Prop}
    (hq : wpAny (model pg w) A (eval value env) (fun v s₁ => wpAny (model pg w) A (eval o env) (fun ov s₂ => wpAny (model pg w) A (eval i env) (fun iv s₃ =>
      wpAny (model pg w) A (setItem ov iv v) (fun _ s₄ => wpAny (model pg w) A (execs rest env) Q E s₄) E s₃) E s₂) E s₁) E s)
    (hs : swapsWith value (some (.Subscript o i pos')) pos.line env = pure false := by with_unfolding_all rfl) : wpAny (model pg w) A (execs (.Assign [.Subscript o i pos'] value pos :: rest) env) Q E s :=
  wpAny_execs_cons (wpAny_Assign_Subscript hq hs)
theorem x_ret {e : Expr} {pos : Pos} {rest : List Stmt} {Q : Flow → Shared → Prop} (hq : wpAny (model pg w) A (eval e env) (fun v => Q (.ret v)) E s) :
    wpAny (model pg w) A (execs (.Return (some e) pos :: rest) env) Q E s := wpAny_execs_cons (wpAny_Return_some hq)
theorem x_ret0 {pos : Pos} {rest : List Stmt} {Q : Flow → Shared → Prop} (hq : Q (.ret .none) s) :
    wpAny (model pg w) A (execs (.Return none pos :: rest) env) Q E s := wpAny_execs_cons (wpAny_Return_none hq)
/-- an if whose two ways are walked apart -/
theorem x_if {test : Expr} {body orelse rest : List Stmt} {pos : Pos} {Q : Flow → Shared → Prop}
    (hq : wpAny (model pg w) A (isTrue test env (eval test env)) (fun b s₂ =>
      (b = true → wpAny (model pg w) A (execs body env) (fun f s' => match f with | .next => wpAny (model pg w) A (execs rest env) Q E s' | f => Q f s') E s₂) ∧
      (b = false → wpAny (model pg w) A (execs orelse env) (fun f s' => match f with | .next => wpAny (model pg w) A (execs rest env) Q E s' | f => Q f s') E s₂)) E s) :
    wpAny (model pg w) A (execs (.If test body orelse pos :: rest) env) Q E s := by
  refine wpAny_execs_cons (wpAny_If (wpAny_mono hq (fun b s₂ q => ?_) fun _ _ x => x))
  cases b
  · exact q.2 rfl
  · exact q.1 rfl
theorem x_expr {e : Expr} {pos : Pos} {rest : List Stmt} {Q : Flow → Shared → Prop} (hk : env.scope.kind = .function) (hq : wpAny (model pg w) A (eval e env) (fun _ s' => wpAny (model pg w) A (execs rest env) Q E s') E s)
    (hs : swapsWith e none pos.line env = pure false := by with_unfolding_all rfl) : wpAny (model pg w) A (execs (.Expr e pos :: rest) env) Q E s :=
  wpAny_execs_cons (wpAny_Expr_any hq (by unfold interactive; rw [hk]; rfl) hs)
theorem x_assert {test : Expr} {msg : Option Expr} {pos : Pos} {rest : List Stmt} {Q : Flow → Shared → Prop}
    (hq : wpAny (model pg w) A (isTrue test env (eval test env)) (fun b s₁ => b = true ∧ wpAny (model pg w) A (execs rest env) Q E s₁) E s) :
    wpAny (model pg w) A (execs (.Assert test msg pos :: rest) env) Q E s := wpAny_execs_cons (wpAny_Assert_holds hq)

-- expressions
theorem e_int {i : Int} {k : Nat} {pos : Pos} {Q : Value → Shared → Prop} (hq : ∀ t', Q (.int i t) (St s h t')) : wpAny (model pg w) A (eval (.Constant (.int i) k pos) env) Q E (St s h t) := wpAny_Constant_int (hq _)
theorem e_str {x : Str} {k : Nat} {pos : Pos} {Q : Value → Shared → Prop} (hq : ∀ t', Q (.str x t) (St s h t')) : wpAny (model pg w) A (eval (.Constant (.str x) k pos) env) Q E (St s h t) := wpAny_Constant_str (hq _)
theorem e_bool {b : Bool} {k : Nat} {pos : Pos} {Q : Value → Shared → Prop} (hq : Q (.bool b) s) : wpAny (model pg w) A (eval (.Constant (.bool b) k pos) env) Q E s := wpAny_Constant_bool hq
theorem e_none {k : Nat} {pos : Pos} {Q : Value → Shared → Prop} (hq : Q .none s) : wpAny (model pg w) A (eval (.Constant .none k pos) env) Q E s := wpAny_Constant_none hq

theorem o_add {a b : Int} {t1 t2 : Tok} {Q : Value → Shared → Prop} (hq : ∀ t', Q (.int (a + b) t) (St s h t')) : wpAny (model pg w) A (binaryOp .Add (.int a t1) (.int b t2)) Q E (St s h t) := PyProof.Rows.add_int (hq _)
theorem o_sub {a b : Int} {t1 t2 : Tok} {Q : Value → Shared → Prop} (hq : ∀ t', Q (.int (a - b) t) (St s h t')) : wpAny (model pg w) A (binaryOp .Sub (.int a t1) (.int b t2)) Q E (St s h t) := PyProof.Rows.sub_int (hq _)
theorem o_iadd {a b : Int} {t1 t2 : Tok} {Q : Value → Shared → Prop} (hq : ∀ t', Q (.int (a + b) t) (St s h t')) : wpAny (model pg w) A (inplaceOp .Add (.int a t1) (.int b t2)) Q E (St s h t) := PyProof.Rows.iadd_int (hq _)
theorem o_mod {a b : Int} {t1 t2 : Tok} {Q : Value → Shared → Prop} (hb : b ≠ 0) (hq : ∀ t', Q (.int (a.fmod b) t) (St s h t')) : wpAny (model pg w) A (binaryOp .Mod (.int a t1) (.int b t2)) Q E (St s h t) := PyProof.Rows.mod_int hb (hq _)
theorem o_div {a b : Int} {t1 t2 : Tok} {Q : Value → Shared → Prop} (hb : b ≠ 0) (hp : Builtin.divisionGoesByPylong a b = false) (hq : ∀ t', Q (.int (a.fdiv b) t) (St s h t')) : wpAny (model pg w) A (binaryOp .FloorDiv (.int a t1) (.int b t2)) Q E (St s h t) := PyProof.Rows.floordiv_int hb (hq _) (.inl hp)

theorem e_bin {l r : Expr} {op : Operator} {pos : Pos} {Q : Value → Shared → Prop} (hq : wpAny (model pg w) A (eval l env) (fun a s₁ => wpAny (model pg w) A (eval r env) (fun b s₂ => wpAny (model pg w) A (binaryOp op a b) Q E s₂) E s₁) E s) :
    wpAny (model pg w) A (eval (.BinOp l op r pos) env) Q E s := wpAny_BinOp hq
theorem e_subscr {value slice : Expr} {pos : Pos} {Q : Value → Shared → Prop}
    (hq : wpAny (model pg w) A (eval value env) (fun o s₁ => wpAny (model pg w) A (eval slice env) (fun i s₂ => wpAny (model pg w) A (subscriptTail value slice o i) Q E s₂) E s₁) E s) :
    wpAny (model pg w) A (eval (.Subscript value slice pos) env) Q E s := Subscript_ hq
theorem sub_list {value slice : Expr} {l : Addr} {vs : List Value} {k : Int} {u : Tok} {x : Value} {Q : Value → Shared → Prop} (hl : s.heap.IsList l vs.toArray) (h0 : 0 ≤ k) (hk : k < 2 ^ 63) (hx : vs[k.toNat]? = some x) (hq : Q x s)
    (hs : subscripted slice false (.ref l) (.int k u) = operate [.ref l, .int k u] (getItem (.ref l) (.int k u)) := by with_unfolding_all rfl) : wpAny (model pg w) A (subscriptTail value slice (.ref l) (.int k u)) Q E s :=
  tail_any hl.typeIs slot_list_getitem.lookup (wpAny_getItem_list hl h0 hk (by simpa using hx) hq) hs

/-- a list of the ledger's is changed -/
theorem SS.setList {h' : Heap} {a : Addr} {x : LObj} {ys : List Value} {i : Nat} (S : SS w g env ns gl h vs σ) (hi : σ[i]? = some (a, x)) (hs : Heap.SameBut a h h') (hy : h'.IsList a ys.toArray) : SS w g env ns gl h' vs (σ.set i (a, .list ys)) := by
  have hm := List.mem_of_getElem? hi
  refine ⟨S.e, S.T, ?_, S.D.set hi hs hy, S.len⟩
  refine ⟨S.F.ns.sameBut hs (Ne.symm (S.D.ne _ hm)), ⟨fun b o e => (hs.2 b fun q => ?_).trans (S.F.old.k b o e)⟩, S.F.lo⟩
  have := S.D.fr _ hm
  rw [show ((a, x) : Addr × LObj).1 = b from q.symm, e] at this
  cases this
theorem SS.list {a : Addr} {ys : List Value} {i : Nat} (S : SS w g env ns gl h vs σ) (hi : σ[i]? = some (a, .list ys)) : h.IsList a ys.toArray := S.D.is _ (List.mem_of_getElem? hi)
theorem setItem_list {l : Addr} {xs : List Value} {k : Int} {u : Tok} {v : Value} {i : Nat} {Q : Unit → Shared → Prop} (S : SS w g env ns gl h vs σ) (hi : σ[i]? = some (l, .list xs)) (h0 : 0 ≤ k) (hk : k < xs.length) (hx : xs.length ≤ 2 ^ 24)
    (hq : ∀ h', SS w g env ns gl h' vs (σ.set i (l, .list (xs.set k.toNat v))) → Q () (St s h' t)) : wpAny (model pg w) A (setItem (.ref l) (.int k u) v) Q E (St s h t) := by
  refine wpAny_setItem_list (S.list hi) h0 (by omega) (by simpa using hk) fun h' hl hs => hq h' (S.setList hi hs ?_)
  simpa using hl

-- calls
theorem e_call {f : Str} {p pos : Pos} {args : List Expr} {Q : Value → Shared → Prop}
    (hq : wpAny (model pg w) A (eval (.Name f p) env) (fun f s₁ => wpAny (model pg w) A (callWith pos f [] (backTo pos (starEach args env)) []) Q E s₁) E s) :
    wpAny (model pg w) A (eval (.Call (.Name f p) args [] pos) env) Q E s := wpAny_Call_NameR hq
theorem c_text {f : Value} {pos : Pos} {e : Expr} {rest : List Expr} {Q : Value → Shared → Prop} (T : TG w g) (hk : keepIn (KK w.params) f = true)
    (hq : wpAny (model pg w) A (spliced (backTo pos (starEach (e :: rest) env))) (fun vs s₁ => TG w s₁.heap ∧ wpAny (model pg w) A (call f vs) Q E s₁) E s)
    (he : starEach (e :: rest) env = (false, eval e env) :: starEach rest env := by with_unfolding_all rfl) (hplain : (backTo pos (starEach rest env)).any (·.1) = false := by with_unfolding_all rfl) :
    wpAny (model pg w) A (callWith pos f [] (backTo pos (starEach (e :: rest) env)) []) Q E s :=
  callWith_K (K := KK w.params) T.K hk (wpAny_mono hq (fun vs s₁ q => ⟨q.1.K, q.2⟩) fun _ _ x => x) he hplain
theorem a_more {e : Expr} {rest : List Expr} {pos : Pos} {Q : List Value → Shared → Prop}
    (hq : wpAny (model pg w) A (eval e env) (fun v s₁ => wpAny (model pg w) A (spliced (backTo pos (starEach rest env))) (fun vs s₂ => Q (v :: vs) s₂) E s₁) E s)
    (he : starEach (e :: rest) env = (false, eval e env) :: starEach rest env := by with_unfolding_all rfl) : wpAny (model pg w) A (spliced (backTo pos (starEach (e :: rest) env))) Q E s := spliced_more hq he
theorem a_none {pos : Pos} {Q : List Value → Shared → Prop} (hq : Q [] s) : wpAny (model pg w) A (spliced (backTo pos (starEach [] env))) Q E s := spliced_none hq
theorem r_name0 { x : Str} {v : Value} {ns : List Str} {vs : List (Option Value)} {p : Pos} {Q : Value → Shared → Prop} (S : SS w g env (x :: ns) gl h (some v :: vs) σ) (hq : Q v (St s h t)) : wpAny (model pg w) A (eval (.Name x p) env) Q E (St s h t) := rn_any S (i := 0) rfl rfl hq
theorem r_ld0 { x : Str} {v : Value} {ns : List Str} {vs : List (Option Value)} {Q : Value → Shared → Prop} (S : SS w g env (x :: ns) gl h (some v :: vs) σ) (hq : Q v (St s h t)) : wpAny (model pg w) A (loadName env x) Q E (St s h t) := rl_any S (i := 0) rfl rfl hq
theorem r_st0 { x : Str} { u : Option Value} {v : Value} {ns : List Str} {vs : List (Option Value)} {Q : Unit → Shared → Prop} (S : SS w g env (x :: ns) gl h (u :: vs) σ) (hq : ∀ h' t', SS w g env (x :: ns) gl h' (some v :: vs) σ → Q () (St s h' t')) : wpAny (model pg w) A (storeName env x v) Q E (St s h t) := rs_any S (i := 0) rfl fun h' t' z => hq h' t' z
theorem r_name1 {n0 x : Str} {v0 : Option Value} {v : Value} {ns : List Str} {vs : List (Option Value)} {p : Pos} {Q : Value → Shared → Prop} (S : SS w g env (n0 :: x :: ns) gl h (v0 :: some v :: vs) σ) (hq : Q v (St s h t)) : wpAny (model pg w) A (eval (.Name x p) env) Q E (St s h t) := rn_any S (i := 1) rfl rfl hq
theorem r_ld1 {n0 x : Str} {v0 : Option Value} {v : Value} {ns : List Str} {vs : List (Option Value)} {Q : Value → Shared → Prop} (S : SS w g env (n0 :: x :: ns) gl h (v0 :: some v :: vs) σ) (hq : Q v (St s h t)) : wpAny (model pg w) A (loadName env x) Q E (St s h t) := rl_any S (i := 1) rfl rfl hq
theorem r_st1 {n0 x : Str} {v0 u : Option Value} {v : Value} {ns : List Str} {vs : List (Option Value)} {Q : Unit → Shared → Prop} (S : SS w g env (n0 :: x :: ns) gl h (v0 :: u :: vs) σ) (hq : ∀ h' t', SS w g env (n0 :: x :: ns) gl h' (v0 :: some v :: vs) σ → Q () (St s h' t')) : wpAny (model pg w) A (storeName env x v) Q E (St s h t) := rs_any S (i := 1) rfl fun h' t' z => hq h' t' z
theorem r_name2 {n0 n1 x : Str} {v0 v1 : Option Value} {v : Value} {ns : List Str} {vs : List (Option Value)} {p : Pos} {Q : Value → Shared → Prop} (S : SS w g env (n0 :: n1 :: x :: ns) gl h (v0 :: v1 :: some v :: vs) σ) (hq : Q v (St s h t)) : wpAny (model pg w) A (eval (.Name x p) env) Q E (St s h t) := rn_any S (i := 2) rfl rfl hq
theorem r_ld2 {n0 n1 x : Str} {v0 v1 : Option Value} {v : Value} {ns : List Str} {vs : List (Option Value)} {Q : Value → Shared → Prop} (S : SS w g env (n0 :: n1 :: x :: ns) gl h (v0 :: v1 :: some v :: vs) σ) (hq : Q v (St s h t)) : wpAny (model pg w) A (loadName env x) Q E (St s h t) := rl_any S (i := 2) rfl rfl hq
theorem r_st2 {n0 n1 x : Str} {v0 v1 u : Option Value} {v : Value} {ns : List Str} {vs : List (Option Value)} {Q : Unit → Shared → Prop} (S : SS w g env (n0 :: n1 :: x :: ns) gl h (v0 :: v1 :: u :: vs) σ) (hq : ∀ h' t', SS w g env (n0 :: n1 :: x :: ns) gl h' (v0 :: v1 :: some v :: vs) σ → Q () (St s h' t')) : wpAny (model pg w) A (storeName env x v) Q E (St s h t) := rs_any S (i := 2) rfl fun h' t' z => hq h' t' z
theorem r_name3 {n0 n1 n2 x : Str} {v0 v1 v2 : Option Value} {v : Value} {ns : List Str} {vs : List (Option Value)} {p : Pos} {Q : Value → Shared → Prop} (S : SS w g env (n0 :: n1 :: n2 :: x :: ns) gl h (v0 :: v1 :: v2 :: some v :: vs) σ) (hq : Q v (St s h t)) : wpAny (model pg w) A (eval (.Name x p) env) Q E (St s h t) := rn_any S (i := 3) rfl rfl hq
theorem r_ld3 {n0 n1 n2 x : Str} {v0 v1 v2 : Option Value} {v : Value} {ns : List Str} {vs : List (Option Value)} {Q : Value → Shared → Prop} (S : SS w g env (n0 :: n1 :: n2 :: x :: ns) gl h (v0 :: v1 :: v2 :: some v :: vs) σ) (hq : Q v (St s h t)) : wpAny (model pg w) A (loadName env x) Q E (St s h t) := rl_any S (i := 3) rfl rfl hq
theorem r_st3 {n0 n1 n2 x : Str} {v0 v1 v2 u : Option Value} {v : Value} {ns : List Str} {vs : List (Option Value)} {Q : Unit → Shared → Prop} (S : SS w g env (n0 :: n1 :: n2 :: x :: ns) gl h (v0 :: v1 :: v2 :: u :: vs) σ) (hq : ∀ h' t', SS w g env (n0 :: n1 :: n2 :: x :: ns) gl h' (v0 :: v1 :: v2 :: some v :: vs) σ → Q () (St s h' t')) : wpAny (model pg w) A (storeName env x v) Q E (St s h t) := rs_any S (i := 3) rfl fun h' t' z => hq h' t' z
theorem r_name4 {n0 n1 n2 n3 x : Str} {v0 v1 v2 v3 : Option Value} {v : Value} {ns : List Str} {vs : List (Option Value)} {p : Pos} {Q : Value → Shared → Prop} (S : SS w g env (n0 :: n1 :: n2 :: n3 :: x :: ns) gl h (v0 :: v1 :: v2 :: v3 :: some v :: vs) σ) (hq : Q v (St s h t)) : wpAny (model pg w) A (eval (.Name x p) env) Q E (St s h t) := rn_any S (i := 4) rfl rfl hq
theorem r_ld4 {n0 n1 n2 n3 x : Str} {v0 v1 v2 v3 : Option Value} {v : Value} {ns : List Str} {vs : List (Option Value)} {Q : Value → Shared → Prop} (S : SS w g env (n0 :: n1 :: n2 :: n3 :: x :: ns) gl h (v0 :: v1 :: v2 :: v3 :: some v :: vs) σ) (hq : Q v (St s h t)) : wpAny (model pg w) A (loadName env x) Q E (St s h t) := rl_any S (i := 4) rfl rfl hq
theorem r_st4 {n0 n1 n2 n3 x : Str} {v0 v1 v2 v3 u : Option Value} {v : Value} {ns : List Str} {vs : List (Option Value)} {Q : Unit → Shared → Prop} (S : SS w g env (n0 :: n1 :: n2 :: n3 :: x :: ns) gl h (v0 :: v1 :: v2 :: v3 :: u :: vs) σ) (hq : ∀ h' t', SS w g env (n0 :: n1 :: n2 :: n3 :: x :: ns) gl h' (v0 :: v1 :: v2 :: v3 :: some v :: vs) σ → Q () (St s h' t')) : wpAny (model pg w) A (storeName env x v) Q E (St s h t) := rs_any S (i := 4) rfl fun h' t' z => hq h' t' z
theorem r_name5 {n0 n1 n2 n3 n4 x : Str} {v0 v1 v2 v3 v4 : Option Value} {v : Value} {ns : List Str} {vs : List (Option Value)} {p : Pos} {Q : Value → Shared → Prop} (S : SS w g env (n0 :: n1 :: n2 :: n3 :: n4 :: x :: ns) gl h (v0 :: v1 :: v2 :: v3 :: v4 :: some v :: vs) σ) (hq : Q v (St s h t)) : wpAny (model pg w) A (eval (.Name x p) env) Q E (St s h t) := rn_any S (i := 5) rfl rfl hq
theorem r_ld5 {n0 n1 n2 n3 n4 x : Str} {v0 v1 v2 v3 v4 : Option Value} {v : Value} {ns : List Str} {vs : List (Option Value)} {Q : Value → Shared → Prop} (S : SS w g env (n0 :: n1 :: n2 :: n3 :: n4 :: x :: ns) gl h (v0 :: v1 :: v2 :: v3 :: v4 :: some v :: vs) σ) (hq : Q v (St s h t)) : wpAny (model pg w) A (loadName env x) Q E (St s h t) := rl_any S (i := 5) rfl rfl hq
theorem r_st5 {n0 n1 n2 n3 n4 x : Str} {v0 v1 v2 v3 v4 u : Option Value} {v : Value} {ns : List Str} {vs : List (Option Value)} {Q : Unit → Shared → Prop} (S : SS w g env (n0 :: n1 :: n2 :: n3 :: n4 :: x :: ns) gl h (v0 :: v1 :: v2 :: v3 :: v4 :: u :: vs) σ) (hq : ∀ h' t', SS w g env (n0 :: n1 :: n2 :: n3 :: n4 :: x :: ns) gl h' (v0 :: v1 :: v2 :: v3 :: v4 :: some v :: vs) σ → Q () (St s h' t')) : wpAny (model pg w) A (storeName env x v) Q E (St s h t) := rs_any S (i := 5) rfl fun h' t' z => hq h' t' z
theorem r_name6 {n0 n1 n2 n3 n4 n5 x : Str} {v0 v1 v2 v3 v4 v5 : Option Value} {v : Value} {ns : List Str} {vs : List (Option Value)} {p : Pos} {Q : Value → Shared → Prop} (S : SS w g env (n0 :: n1 :: n2 :: n3 :: n4 :: n5 :: x :: ns) gl h (v0 :: v1 :: v2 :: v3 :: v4 :: v5 :: some v :: vs) σ) (hq : Q v (St s h t)) : wpAny (model pg w) A (eval (.Name x p) env) Q E (St s h t) := rn_any S (i := 6) rfl rfl hq
theorem r_ld6 {n0 n1 n2 n3 n4 n5 x : Str} {v0 v1 v2 v3 v4 v5 : Option Value} {v : Value} {ns : List Str} {vs : List (Option Value)} {Q : Value → Shared → Prop} (S : SS w g env (n0 :: n1 :: n2 :: n3 :: n4 :: n5 :: x :: ns) gl h (v0 :: v1 :: v2 :: v3 :: v4 :: v5 :: some v :: vs) σ) (hq : Q v (St s h t)) : wpAny (model pg w) A (loadName env x) Q E (St s h t) := rl_any S (i := 6) rfl rfl hq
theorem r_st6 {n0 n1 n2 n3 n4 n5 x : Str} {v0 v1 v2 v3 v4 v5 u : Option Value} {v : Value} {ns : List Str} {vs : List (Option Value)} {Q : Unit → Shared → Prop} (S : SS w g env (n0 :: n1 :: n2 :: n3 :: n4 :: n5 :: x :: ns) gl h (v0 :: v1 :: v2 :: v3 :: v4 :: v5 :: u :: vs) σ) (hq : ∀ h' t', SS w g env (n0 :: n1 :: n2 :: n3 :: n4 :: n5 :: x :: ns) gl h' (v0 :: v1 :: v2 :: v3 :: v4 :: v5 :: some v :: vs) σ → Q () (St s h' t')) : wpAny (model pg w) A (storeName env x v) Q E (St s h t) := rs_any S (i := 6) rfl fun h' t' z => hq h' t' z
theorem r_name7 {n0 n1 n2 n3 n4 n5 n6 x : Str} {v0 v1 v2 v3 v4 v5 v6 : Option Value} {v : Value} {ns : List Str} {vs : List (Option Value)} {p : Pos} {Q : Value → Shared → Prop} (S : SS w g env (n0 :: n1 :: n2 :: n3 :: n4 :: n5 :: n6 :: x :: ns) gl h (v0 :: v1 :: v2 :: v3 :: v4 :: v5 :: v6 :: some v :: vs) σ) (hq : Q v (St s h t)) : wpAny (model pg w) A (eval (.Name x p) env) Q E (St s h t) := rn_any S (i := 7) rfl rfl hq
theorem r_ld7 {n0 n1 n2 n3 n4 n5 n6 x : Str} {v0 v1 v2 v3 v4 v5 v6 : Option Value} {v : Value} {ns : List Str} {vs : List (Option Value)} {Q : Value → Shared → Prop} (S : SS w g env (n0 :: n1 :: n2 :: n3 :: n4 :: n5 :: n6 :: x :: ns) gl h (v0 :: v1 :: v2 :: v3 :: v4 :: v5 :: v6 :: some v :: vs) σ) (hq : Q v (St s h t)) : wpAny (model pg w) A (loadName env x) Q E (St s h t) := rl_any S (i := 7) rfl rfl hq
theorem r_st7 {n0 n1 n2 n3 n4 n5 n6 x : Str} {v0 v1 v2 v3 v4 v5 v6 u : Option Value} {v : Value} {ns : List Str} {vs : List (Option Value)} {Q : Unit → Shared → Prop} (S : SS w g env (n0 :: n1 :: n2 :: n3 :: n4 :: n5 :: n6 :: x :: ns) gl h (v0 :: v1 :: v2 :: v3 :: v4 :: v5 :: v6 :: u :: vs) σ) (hq : ∀ h' t', SS w g env (n0 :: n1 :: n2 :: n3 :: n4 :: n5 :: n6 :: x :: ns) gl h' (v0 :: v1 :: v2 :: v3 :: v4 :: v5 :: v6 :: some v :: vs) σ → Q () (St s h' t')) : wpAny (model pg w) A (storeName env x v) Q E (St s h t) := rs_any S (i := 7) rfl fun h' t' z => hq h' t' z
theorem r_name8 {n0 n1 n2 n3 n4 n5 n6 n7 x : Str} {v0 v1 v2 v3 v4 v5 v6 v7 : Option Value} {v : Value} {ns : List Str} {vs : List (Option Value)} {p : Pos} {Q : Value → Shared → Prop} (S : SS w g env (n0 :: n1 :: n2 :: n3 :: n4 :: n5 :: n6 :: n7 :: x :: ns) gl h (v0 :: v1 :: v2 :: v3 :: v4 :: v5 :: v6 :: v7 :: some v :: vs) σ) (hq : Q v (St s h t)) : wpAny (model pg w) A (eval (.Name x p) env) Q E (St s h t) := rn_any S (i := 8) rfl rfl hq
theorem r_ld8 {n0 n1 n2 n3 n4 n5 n6 n7 x : Str} {v0 v1 v2 v3 v4 v5 v6 v7 : Option Value} {v : Value} {ns : List Str} {vs : List (Option Value)} {Q : Value → Shared → Prop} (S : SS w g env (n0 :: n1 :: n2 :: n3 :: n4 :: n5 :: n6 :: n7 :: x :: ns) gl h (v0 :: v1 :: v2 :: v3 :: v4 :: v5 :: v6 :: v7 :: some v :: vs) σ) (hq : Q v (St s h t)) : wpAny (model pg w) A (loadName env x) Q E (St s h t) := rl_any S (i := 8) rfl rfl hq
theorem r_st8 {n0 n1 n2 n3 n4 n5 n6 n7 x : Str} {v0 v1 v2 v3 v4 v5 v6 v7 u : Option Value} {v : Value} {ns : List Str} {vs : List (Option Value)} {Q : Unit → Shared → Prop} (S : SS w g env (n0 :: n1 :: n2 :: n3 :: n4 :: n5 :: n6 :: n7 :: x :: ns) gl h (v0 :: v1 :: v2 :: v3 :: v4 :: v5 :: v6 :: v7 :: u :: vs) σ) (hq : ∀ h' t', SS w g env (n0 :: n1 :: n2 :: n3 :: n4 :: n5 :: n6 :: n7 :: x :: ns) gl h' (v0 :: v1 :: v2 :: v3 :: v4 :: v5 :: v6 :: v7 :: some v :: vs) σ → Q () (St s h' t')) : wpAny (model pg w) A (storeName env x v) Q E (St s h t) := rs_any S (i := 8) rfl fun h' t' z => hq h' t' z
theorem r_name9 {n0 n1 n2 n3 n4 n5 n6 n7 n8 x : Str} {v0 v1 v2 v3 v4 v5 v6 v7 v8 : Option Value} {v : Value} {ns : List Str} {vs : List (Option Value)} {p : Pos} {Q : Value → Shared → Prop} (S : SS w g env (n0 :: n1 :: n2 :: n3 :: n4 :: n5 :: n6 :: n7 :: n8 :: x :: ns) gl h (v0 :: v1 :: v2 :: v3 :: v4 :: v5 :: v6 :: v7 :: v8 :: some v :: vs) σ) (hq : Q v (St s h t)) : wpAny (model pg w) A (eval (.Name x p) env) Q E (St s h t) := rn_any S (i := 9) rfl rfl hq
theorem r_ld9 {n0 n1 n2 n3 n4 n5 n6 n7 n8 x : Str} {v0 v1 v2 v3 v4 v5 v6 v7 v8 : Option Value} {v : Value} {ns : List Str} {vs : List (Option Value)} {Q : Value → Shared → Prop} (S : SS w g env (n0 :: n1 :: n2 :: n3 :: n4 :: n5 :: n6 :: n7 :: n8 :: x :: ns) gl h (v0 :: v1 :: v2 :: v3 :: v4 :: v5 :: v6 :: v7 :: v8 :: some v :: vs) σ) (hq : Q v (St s h t)) : wpAny (model pg w) A (loadName env x) Q E (St s h t) := rl_any S (i := 9) rfl rfl hq
theorem r_st9 {n0 n1 n2 n3 n4 n5 n6 n7 n8 x : Str} {v0 v1 v2 v3 v4 v5 v6 v7 v8 u : Option Value} {v : Value} {ns : List Str} {vs : List (Option Value)} {Q : Unit → Shared → Prop} (S : SS w g env (n0 :: n1 :: n2 :: n3 :: n4 :: n5 :: n6 :: n7 :: n8 :: x :: ns) gl h (v0 :: v1 :: v2 :: v3 :: v4 :: v5 :: v6 :: v7 :: v8 :: u :: vs) σ) (hq : ∀ h' t', SS w g env (n0 :: n1 :: n2 :: n3 :: n4 :: n5 :: n6 :: n7 :: n8 :: x :: ns) gl h' (v0 :: v1 :: v2 :: v3 :: v4 :: v5 :: v6 :: v7 :: v8 :: some v :: vs) σ → Q () (St s h' t')) : wpAny (model pg w) A (storeName env x v) Q E (St s h t) := rs_any S (i := 9) rfl fun h' t' z => hq h' t' z
theorem r_name10 {n0 n1 n2 n3 n4 n5 n6 n7 n8 n9 x : Str} {v0 v1 v2 v3 v4 v5 v6 v7 v8 v9 : Option Value} {v : Value} {ns : List Str} {vs : List (Option Value)} {p : Pos} {Q : Value → Shared → Prop} (S : SS w g env (n0 :: n1 :: n2 :: n3 :: n4 :: n5 :: n6 :: n7 :: n8 :: n9 :: x :: ns) gl h (v0 :: v1 :: v2 :: v3 :: v4 :: v5 :: v6 :: v7 :: v8 :: v9 :: some v :: vs) σ) (hq : Q v (St s h t)) : wpAny (model pg w) A (eval (.Name x p) env) Q E (St s h t) := rn_any S (i := 10) rfl rfl hq
theorem r_ld10 {n0 n1 n2 n3 n4 n5 n6 n7 n8 n9 x : Str} {v0 v1 v2 v3 v4 v5 v6 v7 v8 v9 : Option Value} {v : Value} {ns : List Str} {vs : List (Option Value)} {Q : Value → Shared → Prop} (S : SS w g env (n0 :: n1 :: n2 :: n3 :: n4 :: n5 :: n6 :: n7 :: n8 :: n9 :: x :: ns) gl h (v0 :: v1 :: v2 :: v3 :: v4 :: v5 :: v6 :: v7 :: v8 :: v9 :: some v :: vs) σ) (hq : Q v (St s h t)) : wpAny (model pg w) A (loadName env x) Q E (St s h t) := rl_any S (i := 10) rfl rfl hq
theorem r_st10 {n0 n1 n2 n3 n4 n5 n6 n7 n8 n9 x : Str} {v0 v1 v2 v3 v4 v5 v6 v7 v8 v9 u : Option Value} {v : Value} {ns : List Str} {vs : List (Option Value)} {Q : Unit → Shared → Prop} (S : SS w g env (n0 :: n1 :: n2 :: n3 :: n4 :: n5 :: n6 :: n7 :: n8 :: n9 :: x :: ns) gl h (v0 :: v1 :: v2 :: v3 :: v4 :: v5 :: v6 :: v7 :: v8 :: v9 :: u :: vs) σ) (hq : ∀ h' t', SS w g env (n0 :: n1 :: n2 :: n3 :: n4 :: n5 :: n6 :: n7 :: n8 :: n9 :: x :: ns) gl h' (v0 :: v1 :: v2 :: v3 :: v4 :: v5 :: v6 :: v7 :: v8 :: v9 :: some v :: vs) σ → Q () (St s h' t')) : wpAny (model pg w) A (storeName env x v) Q E (St s h t) := rs_any S (i := 10) rfl fun h' t' z => hq h' t' z
theorem r_name11 {n0 n1 n2 n3 n4 n5 n6 n7 n8 n9 n10 x : Str} {v0 v1 v2 v3 v4 v5 v6 v7 v8 v9 v10 : Option Value} {v : Value} {ns : List Str} {vs : List (Option Value)} {p : Pos} {Q : Value → Shared → Prop} (S : SS w g env (n0 :: n1 :: n2 :: n3 :: n4 :: n5 :: n6 :: n7 :: n8 :: n9 :: n10 :: x :: ns) gl h (v0 :: v1 :: v2 :: v3 :: v4 :: v5 :: v6 :: v7 :: v8 :: v9 :: v10 :: some v :: vs) σ) (hq : Q v (St s h t)) : wpAny (model pg w) A (eval (.Name x p) env) Q E (St s h t) := rn_any S (i := 11) rfl rfl hq
theorem r_ld11 {n0 n1 n2 n3 n4 n5 n6 n7 n8 n9 n10 x : Str} {v0 v1 v2 v3 v4 v5 v6 v7 v8 v9 v10 : Option Value} {v : Value} {ns : List Str} {vs : List (Option Value)} {Q : Value → Shared → Prop} (S : SS w g env (n0 :: n1 :: n2 :: n3 :: n4 :: n5 :: n6 :: n7 :: n8 :: n9 :: n10 :: x :: ns) gl h (v0 :: v1 :: v2 :: v3 :: v4 :: v5 :: v6 :: v7 :: v8 :: v9 :: v10 :: some v :: vs) σ) (hq : Q v (St s h t)) : wpAny (model pg w) A (loadName env x) Q E (St s h t) := rl_any S (i := 11) rfl rfl hq
theorem r_st11 {n0 n1 n2 n3 n4 n5 n6 n7 n8 n9 n10 x : Str} {v0 v1 v2 v3 v4 v5 v6 v7 v8 v9 v10 u : Option Value} {v : Value} {ns : List Str} {vs : List (Option Value)} {Q : Unit → Shared → Prop} (S : SS w g env (n0 :: n1 :: n2 :: n3 :: n4 :: n5 :: n6 :: n7 :: n8 :: n9 :: n10 :: x :: ns) gl h (v0 :: v1 :: v2 :: v3 :: v4 :: v5 :: v6 :: v7 :: v8 :: v9 :: v10 :: u :: vs) σ) (hq : ∀ h' t', SS w g env (n0 :: n1 :: n2 :: n3 :: n4 :: n5 :: n6 :: n7 :: n8 :: n9 :: n10 :: x :: ns) gl h' (v0 :: v1 :: v2 :: v3 :: v4 :: v5 :: v6 :: v7 :: v8 :: v9 :: v10 :: some v :: vs) σ → Q () (St s h' t')) : wpAny (model pg w) A (storeName env x v) Q E (St s h t) := rs_any S (i := 11) rfl fun h' t' z => hq h' t' z
theorem r_name12 {n0 n1 n2 n3 n4 n5 n6 n7 n8 n9 n10 n11 x : Str} {v0 v1 v2 v3 v4 v5 v6 v7 v8 v9 v10 v11 : Option Value} {v : Value} {ns : List Str} {vs : List (Option Value)} {p : Pos} {Q : Value → Shared → Prop} (S : SS w g env (n0 :: n1 :: n2 :: n3 :: n4 :: n5 :: n6 :: n7 :: n8 :: n9 :: n10 :: n11 :: x :: ns) gl h (v0 :: v1 :: v2 :: v3 :: v4 :: v5 :: v6 :: v7 :: v8 :: v9 :: v10 :: v11 :: some v :: vs) σ) (hq : Q v (St s h t)) : wpAny (model pg w) A (eval (.Name x p) env) Q E (St s h t) := rn_any S (i := 12) rfl rfl hq
theorem r_ld12 {n0 n1 n2 n3 n4 n5 n6 n7 n8 n9 n10 n11 x : Str} {v0 v1 v2 v3 v4 v5 v6 v7 v8 v9 v10 v11 : Option Value} {v : Value} {ns : List Str} {vs : List (Option Value)} {Q : Value → Shared → Prop} (S : SS w g env (n0 :: n1 :: n2 :: n3 :: n4 :: n5 :: n6 :: n7 :: n8 :: n9 :: n10 :: n11 :: x :: ns) gl h (v0 :: v1 :: v2 :: v3 :: v4 :: v5 :: v6 :: v7 :: v8 :: v9 :: v10 :: v11 :: some v :: vs) σ) (hq : Q v (St s h t)) : wpAny (model pg w) A (loadName env x) Q E (St s h t) := rl_any S (i := 12) rfl rfl hq
theorem r_st12 {n0 n1 n2 n3 n4 n5 n6 n7 n8 n9 n10 n11 x : Str} {v0 v1 v2 v3 v4 v5 v6 v7 v8 v9 v10 v11 u : Option Value} {v : Value} {ns : List Str} {vs : List (Option Value)} {Q : Unit → Shared → Prop} (S : SS w g env (n0 :: n1 :: n2 :: n3 :: n4 :: n5 :: n6 :: n7 :: n8 :: n9 :: n10 :: n11 :: x :: ns) gl h (v0 :: v1 :: v2 :: v3 :: v4 :: v5 :: v6 :: v7 :: v8 :: v9 :: v10 :: v11 :: u :: vs) σ) (hq : ∀ h' t', SS w g env (n0 :: n1 :: n2 :: n3 :: n4 :: n5 :: n6 :: n7 :: n8 :: n9 :: n10 :: n11 :: x :: ns) gl h' (v0 :: v1 :: v2 :: v3 :: v4 :: v5 :: v6 :: v7 :: v8 :: v9 :: v10 :: v11 :: some v :: vs) σ → Q () (St s h' t')) : wpAny (model pg w) A (storeName env x v) Q E (St s h t) := rs_any S (i := 12) rfl fun h' t' z => hq h' t' z
theorem r_name13 {n0 n1 n2 n3 n4 n5 n6 n7 n8 n9 n10 n11 n12 x : Str} {v0 v1 v2 v3 v4 v5 v6 v7 v8 v9 v10 v11 v12 : Option Value} {v : Value} {ns : List Str} {vs : List (Option Value)} {p : Pos} {Q : Value → Shared → Prop} (S : SS w g env (n0 :: n1 :: n2 :: n3 :: n4 :: n5 :: n6 :: n7 :: n8 :: n9 :: n10 :: n11 :: n12 :: x :: ns) gl h (v0 :: v1 :: v2 :: v3 :: v4 :: v5 :: v6 :: v7 :: v8 :: v9 :: v10 :: v11 :: v12 :: some v :: vs) σ) (hq : Q v (St s h t)) : wpAny (model pg w) A (eval (.Name x p) env) Q E (St s h t) := rn_any S (i := 13) rfl rfl hq
theorem r_ld13 {n0 n1 n2 n3 n4 n5 n6 n7 n8 n9 n10 n11 n12 x : Str} {v0 v1 v2 v3 v4 v5 v6 v7 v8 v9 v10 v11 v12 : Option Value} {v : Value} {ns : List Str} {vs : List (Option Value)} {Q : Value → Shared → Prop} (S : SS w g env (n0 :: n1 :: n2 :: n3 :: n4 :: n5 :: n6 :: n7 :: n8 :: n9 :: n10 :: n11 :: n12 :: x :: ns) gl h (v0 :: v1 :: v2 :: v3 :: v4 :: v5 :: v6 :: v7 :: v8 :: v9 :: v10 :: v11 :: v12 :: some v :: vs) σ) (hq : Q v (St s h t)) : wpAny (model pg w) A (loadName env x) Q E (St s h t) := rl_any S (i := 13) rfl rfl hq
theorem r_st13 {n0 n1 n2 n3 n4 n5 n6 n7 n8 n9 n10 n11 n12 x : Str} {v0 v1 v2 v3 v4 v5 v6 v7 v8 v9 v10 v11 v12 u : Option Value} {v : Value} {ns : List Str} {vs : List (Option Value)} {Q : Unit → Shared → Prop} (S : SS w g env (n0 :: n1 :: n2 :: n3 :: n4 :: n5 :: n6 :: n7 :: n8 :: n9 :: n10 :: n11 :: n12 :: x :: ns) gl h (v0 :: v1 :: v2 :: v3 :: v4 :: v5 :: v6 :: v7 :: v8 :: v9 :: v10 :: v11 :: v12 :: u :: vs) σ) (hq : ∀ h' t', SS w g env (n0 :: n1 :: n2 :: n3 :: n4 :: n5 :: n6 :: n7 :: n8 :: n9 :: n10 :: n11 :: n12 :: x :: ns) gl h' (v0 :: v1 :: v2 :: v3 :: v4 :: v5 :: v6 :: v7 :: v8 :: v9 :: v10 :: v11 :: v12 :: some v :: vs) σ → Q () (St s h' t')) : wpAny (model pg w) A (storeName env x v) Q E (St s h t) := rs_any S (i := 13) rfl fun h' t' z => hq h' t' z
theorem r_glob0 {x : Str} {v : Value} {ns : List Str} {gl : List (Str × Value)} {vs : List (Option Value)} {p : Pos} {Q : Value → Shared → Prop} (S : SS w g env ns ((x, v) :: gl) h vs σ) (hq : Q v (St s h t)) : wpAny (model pg w) A (eval (.Name x p) env) Q E (St s h t) := rg_any S (by simp) hq
theorem r_glob1 {p0 : Str × Value} {x : Str} {v : Value} {ns : List Str} {gl : List (Str × Value)} {vs : List (Option Value)} {p : Pos} {Q : Value → Shared → Prop} (S : SS w g env ns (p0 :: (x, v) :: gl) h vs σ) (hq : Q v (St s h t)) : wpAny (model pg w) A (eval (.Name x p) env) Q E (St s h t) := rg_any S (by simp) hq
theorem r_glob2 {p0 p1 : Str × Value} {x : Str} {v : Value} {ns : List Str} {gl : List (Str × Value)} {vs : List (Option Value)} {p : Pos} {Q : Value → Shared → Prop} (S : SS w g env ns (p0 :: p1 :: (x, v) :: gl) h vs σ) (hq : Q v (St s h t)) : wpAny (model pg w) A (eval (.Name x p) env) Q E (St s h t) := rg_any S (by simp) hq
theorem r_glob3 {p0 p1 p2 : Str × Value} {x : Str} {v : Value} {ns : List Str} {gl : List (Str × Value)} {vs : List (Option Value)} {p : Pos} {Q : Value → Shared → Prop} (S : SS w g env ns (p0 :: p1 :: p2 :: (x, v) :: gl) h vs σ) (hq : Q v (St s h t)) : wpAny (model pg w) A (eval (.Name x p) env) Q E (St s h t) := rg_any S (by simp) hq
theorem r_glob4 {p0 p1 p2 p3 : Str × Value} {x : Str} {v : Value} {ns : List Str} {gl : List (Str × Value)} {vs : List (Option Value)} {p : Pos} {Q : Value → Shared → Prop} (S : SS w g env ns (p0 :: p1 :: p2 :: p3 :: (x, v) :: gl) h vs σ) (hq : Q v (St s h t)) : wpAny (model pg w) A (eval (.Name x p) env) Q E (St s h t) := rg_any S (by simp) hq
theorem r_glob5 {p0 p1 p2 p3 p4 : Str × Value} {x : Str} {v : Value} {ns : List Str} {gl : List (Str × Value)} {vs : List (Option Value)} {p : Pos} {Q : Value → Shared → Prop} (S : SS w g env ns (p0 :: p1 :: p2 :: p3 :: p4 :: (x, v) :: gl) h vs σ) (hq : Q v (St s h t)) : wpAny (model pg w) A (eval (.Name x p) env) Q E (St s h t) := rg_any S (by simp) hq
theorem r_glob6 {p0 p1 p2 p3 p4 p5 : Str × Value} {x : Str} {v : Value} {ns : List Str} {gl : List (Str × Value)} {vs : List (Option Value)} {p : Pos} {Q : Value → Shared → Prop} (S : SS w g env ns (p0 :: p1 :: p2 :: p3 :: p4 :: p5 :: (x, v) :: gl) h vs σ) (hq : Q v (St s h t)) : wpAny (model pg w) A (eval (.Name x p) env) Q E (St s h t) := rg_any S (by simp) hq
theorem r_glob7 {p0 p1 p2 p3 p4 p5 p6 : Str × Value} {x : Str} {v : Value} {ns : List Str} {gl : List (Str × Value)} {vs : List (Option Value)} {p : Pos} {Q : Value → Shared → Prop} (S : SS w g env ns (p0 :: p1 :: p2 :: p3 :: p4 :: p5 :: p6 :: (x, v) :: gl) h vs σ) (hq : Q v (St s h t)) : wpAny (model pg w) A (eval (.Name x p) env) Q E (St s h t) := rg_any S (by simp) hq
theorem r_glob8 {p0 p1 p2 p3 p4 p5 p6 p7 : Str × Value} {x : Str} {v : Value} {ns : List Str} {gl : List (Str × Value)} {vs : List (Option Value)} {p : Pos} {Q : Value → Shared → Prop} (S : SS w g env ns (p0 :: p1 :: p2 :: p3 :: p4 :: p5 :: p6 :: p7 :: (x, v) :: gl) h vs σ) (hq : Q v (St s h t)) : wpAny (model pg w) A (eval (.Name x p) env) Q E (St s h t) := rg_any S (by simp) hq
theorem r_glob9 {p0 p1 p2 p3 p4 p5 p6 p7 p8 : Str × Value} {x : Str} {v : Value} {ns : List Str} {gl : List (Str × Value)} {vs : List (Option Value)} {p : Pos} {Q : Value → Shared → Prop} (S : SS w g env ns (p0 :: p1 :: p2 :: p3 :: p4 :: p5 :: p6 :: p7 :: p8 :: (x, v) :: gl) h vs σ) (hq : Q v (St s h t)) : wpAny (model pg w) A (eval (.Name x p) env) Q E (St s h t) := rg_any S (by simp) hq
theorem r_glob10 {p0 p1 p2 p3 p4 p5 p6 p7 p8 p9 : Str × Value} {x : Str} {v : Value} {ns : List Str} {gl : List (Str × Value)} {vs : List (Option Value)} {p : Pos} {Q : Value → Shared → Prop} (S : SS w g env ns (p0 :: p1 :: p2 :: p3 :: p4 :: p5 :: p6 :: p7 :: p8 :: p9 :: (x, v) :: gl) h vs σ) (hq : Q v (St s h t)) : wpAny (model pg w) A (eval (.Name x p) env) Q E (St s h t) := rg_any S (by simp) hq
theorem r_glob11 {p0 p1 p2 p3 p4 p5 p6 p7 p8 p9 p10 : Str × Value} {x : Str} {v : Value} {ns : List Str} {gl : List (Str × Value)} {vs : List (Option Value)} {p : Pos} {Q : Value → Shared → Prop} (S : SS w g env ns (p0 :: p1 :: p2 :: p3 :: p4 :: p5 :: p6 :: p7 :: p8 :: p9 :: p10 :: (x, v) :: gl) h vs σ) (hq : Q v (St s h t)) : wpAny (model pg w) A (eval (.Name x p) env) Q E (St s h t) := rg_any S (by simp) hq
end
end Mine

end

section
open PySem PySem.W PyProof.Rows PySem.Calls
set_option maxRecDepth 100000
namespace Mine
theorem lkv_binds : ∀ (binds : List (Str × Value)) (rest : List Str), (binds.map (·.1) ++ rest).Nodup → (fun y => binds.reverse.lookup y) = lkv (binds.map (·.1) ++ rest) (binds.map (fun p => some p.2) ++ rest.map fun _ => none)
  | [], rest, _ => by
    funext y
    show none = lkv rest (rest.map fun _ => none) y
    induction rest with
    | nil => rfl
    | cons n r ih =>
      simp only [List.map_cons, lkv]
      split
      · rfl
      · exact ih (by simpa using (List.nodup_cons.mp (by assumption)).2)
  | p :: binds, rest, hd => by
    have hd' := List.nodup_cons.mp (show (p.1 :: (binds.map (·.1) ++ rest)).Nodup from hd)
    have ih := lkv_binds binds rest hd'.2
    funext y
    have ihy := congrFun ih y
    simp only [List.map_cons, List.cons_append, lkv]
    rw [List.reverse_cons, List.lookup_append]
    by_cases hy : y = p.1
    · subst hy
      rw [if_pos rfl]
      have : binds.reverse.lookup p.1 = none := by
        rw [List.lookup_eq_none_iff]
        intro q hq
        have hq' : q ∈ binds := List.mem_reverse.mp hq
        refine bne_iff_ne.mpr fun e => hd'.1 ?_
        exact List.mem_append_left _ (e ▸ List.mem_map_of_mem hq')
      rw [this]
      simp [List.lookup]
    · rw [if_neg hy, ← ihy]
      have : List.lookup y [p] = none := by
        simp [List.lookup, beq_false_of_ne hy]
      rw [this]
      cases List.lookup y binds.reverse <;> rfl

section
variable {w : World} {A : Around} {E : Value → Shared → Prop} {s : Shared} {g h h' : Heap} {t : Nat} {env : Env} {ns : List Str} {gl : List (Str × Value)} {vs : List (Option Value)} {σ : List (Addr × LObj)}

theorem enter {name qual : Str} {params : Arguments} {body : List Stmt} {scope : Scope} {dV kV doc pm cdv ct oc : Value} {an od : Option Addr} {osl : Array (Option Value)} {f : Addr} {vals : List Value} {kw : List (Str × Value)} {binds : List (Str × Value)} {rest : List Str} {n : Nat} {Q : Value → Shared → Prop}
    (ho : (KK w.params).lookup f = some ⟨oc, od, .func (fnOf name qual params body scope dV kV doc pm an cdv ct), osl⟩)
    (hcd : codeIn (KK w.params) cdv qual = true) (a : AOk A (n + 1)) (T : TG w g) (hk : Old g h)
    (hbind : BindsTo (St s h t) (fnOf name qual params body scope dV kV doc pm an cdv ct) ⟨vals, kw⟩ binds)
    (hok : fnOk scope ns gl = true) (hns : binds.map (·.1) ++ rest = ns) (hvs : binds.map (fun p => some p.2) ++ rest.map (fun _ => none) = vs)
    (hσ : ∀ p ∈ σ, Is h p.1 p.2 ∧ g.get? p.1 = none) (hnd : (σ.map (·.1)).Nodup)
    (hq : ∀ env h' t', SS w g env ns gl h' vs σ → AOk (A.deeper env) n → (∀ b o, h.get? b = some o → h'.get? b = some o) →
      wpAny (model pg w) (A.deeper env) (execs body env) (fun fl s' => Q (match fl with | .ret v => v | _ => .none) s') (fun _ _ => False) (St s h' t'))
    (hco : scope.isCoroutine = false := by rfl) (hgen : scope.isGenerator = false := by rfl) (hk' : scope.kind = .function := by rfl)
    (hcell : (scope.names.all fun x => x.2 != .cell) = true := by rfl) (hloc : (binds.all fun x => decide (scope.names.lookup x.1 = some .local)) = true := by rfl) : wpAny (model pg w) A (call (.ref f) vals kw) Q E (St s h t) := by
  have T' := T.keeps hk
  have ek : EnvOk (envOf qual scope h.objs.size f cdv) ns gl := EnvOk.of hok
  refine wpAny_call (codeAny_call_def (fd := fnOf name qual params body scope dV kV doc pm an cdv ct) (body := body) (binds := binds) a.room (T'.K _ _ ho) rfl T'.nl (codeRec_of T'.K hcd) rfl hbind (fun x hx => by simpa using List.all_eq_true.mp hcell x hx) (locs hloc) (fun h₁ hns₁ hk₁ => ?_) hco hgen hk')
  refine wpAny_mono (hq (envOf qual scope h.objs.size f cdv) h₁ _ ⟨ek, T, ⟨?_, ⟨fun b o e => hk₁ _ _ (hk.k b o e)⟩, ?_⟩, ⟨fun p hp => (hσ p hp).1.keep fun o e => hk₁ _ o e, fun p hp => Nat.ne_of_lt (hσ p hp).1.lt, fun p hp => (hσ p hp).2, hnd⟩, by subst hns hvs; simp⟩ (a.deeper _) hk₁) (fun _ _ x => x) fun _ _ x => x.elim
  · have : (fun y => binds.reverse.lookup y) = lkv ns vs := by
      subst hns hvs
      exact lkv_binds _ _ ek.nd
    show h₁.Ns h.objs.size (lkv ns vs)
    rw [← this]
    exact hns₁
  · exact hk.nope (Nat.le_refl _)

-- behind a call
theorem Led.set' {L a : Addr} {x y : LObj} {i : Nat} (D : Led g L h σ) (hi : σ[i]? = some (a, x)) (hs : ∀ b o, b ≠ a → h.get? b = some o → h'.get? b = some o) (hy : Is h' a y) : Led g L h' (σ.set i (a, y)) := by
  have hk : (σ.set i (a, y)).map (·.1) = σ.map (·.1) := by
    rw [List.map_set]
    apply List.ext_getElem?
    intro j
    rw [List.getElem?_set]
    split
    · rename_i e; subst e
      simp only [List.length_map]
      split
      · rename_i hl; rw [List.getElem?_map, hi]; rfl
      · rename_i hl; rw [List.getElem?_map, List.getElem?_eq_none (by omega)]; rfl
    · rfl
  have mem : ∀ p ∈ σ.set i (a, y), p = (a, y) ∨ (p ∈ σ ∧ p.1 ≠ a) := by
    intro p hp
    obtain ⟨j, hj⟩ := List.getElem?_of_mem hp
    rw [List.getElem?_set] at hj
    split at hj
    · left
      split at hj
      · exact (Option.some.inj hj).symm
      · cases hj
    · rename_i hne
      right
      refine ⟨List.mem_of_getElem? hj, fun e => hne ?_⟩
      have h1 : (σ.map (·.1))[i]? = some a := by rw [List.getElem?_map, hi]; rfl
      have h2 : (σ.map (·.1))[j]? = some a := by rw [List.getElem?_map, hj]; exact congrArg some e
      have hil : i < (σ.map (·.1)).length := by
        rcases Nat.lt_or_ge i (σ.map (·.1)).length with q | q
        · exact q
        · rw [List.getElem?_eq_none q] at h1; cases h1
      exact (List.getElem?_inj hil D.nd).mp (h1.trans h2.symm)
  refine ⟨fun p hp => ?_, fun p hp => ?_, fun p hp => ?_, hk ▸ D.nd⟩
  · rcases mem p hp with rfl | ⟨q, n⟩
    · exact hy
    · exact (D.is p q).keep fun o e => hs _ o n e
  · rcases mem p hp with rfl | ⟨q, _⟩
    · exact D.ne (a, x) (List.mem_of_getElem? hi)
    · exact D.ne p q
  · rcases mem p hp with rfl | ⟨q, _⟩
    · exact D.fr (a, x) (List.mem_of_getElem? hi)
    · exact D.fr p q
theorem Fm.at' {L : Addr} {m : Str → Option Value} (F : Fm g L h m) (k : ∀ b o, (b = L ∨ g.get? b = some o) → h.get? b = some o → h'.get? b = some o) : Fm g L h' m := by
  obtain ⟨oL, es, ep, hL, r⟩ := F.ns
  exact ⟨⟨oL, es, ep, k _ _ (.inl rfl) hL, r⟩, ⟨fun b o e => k b o (.inr e) (F.old.k b o e)⟩, F.lo⟩
/-- a call that kept all -/
theorem SS.after (S : SS w g env ns gl h vs σ) (o : Old h h') : SS w g env ns gl h' vs σ :=
  ⟨S.e, S.T, S.F.at' fun b o' _ e => o.k b o' e, S.D.keep fun b o' _ e => o.k b o' e, S.len⟩
/-- a call that kept all and handed back a new object -/
theorem SS.new {a : Addr} {x : LObj} (S : SS w g env ns gl h vs σ) (o : Old h h') (hn : h.get? a = none) (i : Is h' a x) : SS w g env ns gl h' vs ((a, x) :: σ) := by
  have S' := S.after o
  have ho : ∀ {b : Addr} {y : LObj}, Is h b y → b ≠ a := by
    rintro b y i rfl
    cases y with
    | list vs => obtain ⟨o, e, _⟩ := i; rw [hn] at e; cases e
    | lst vs => obtain ⟨n, e⟩ := i; rw [show h.get? b = _ from e] at hn; cases hn
    | obj o => rw [show h.get? b = some o from i] at hn; cases hn
  refine ⟨S.e, S.T, S'.F, ⟨fun p hp => ?_, fun p hp => ?_, fun p hp => ?_, ?_⟩, S.len⟩
  · rcases List.mem_cons.mp hp with rfl | hp
    · exact i
    · exact S'.D.is p hp
  · rcases List.mem_cons.mp hp with rfl | hp
    · obtain ⟨oL, _, _, hL, _⟩ := S.F.ns
      rintro rfl
      rw [hL] at hn; cases hn
    · exact S'.D.ne p hp
  · rcases List.mem_cons.mp hp with rfl | hp
    · cases e : g.get? a with
      | none => rfl
      | some o => rw [S.F.old.k _ _ e] at hn; cases hn
    · exact S'.D.fr p hp
  · refine List.nodup_cons.mpr ⟨fun hm => ?_, S'.D.nd⟩
    obtain ⟨p, hp, e⟩ := List.mem_map.mp hm
    exact ho (S.D.is p hp) e

theorem Old.hide {as : List Addr} : Old (hideAll h as) h := ⟨fun _ _ e => of_hideAll _ e⟩
theorem Old.to_hide {as : List Addr} (o : Old g h) (ha : ∀ a ∈ as, g.get? a = none) : Old g (hideAll h as) :=
  ⟨fun b x e => hideAll_get _ (o.k b x e) fun q => (by rw [ha _ q] at e; cases e)⟩
theorem SS.hideTG {a : Addr} {x : LObj} (S : SS w g env ns gl h vs σ) (hi : (a, x) ∈ σ) : TG w (hideAll h [a]) :=
  S.T.keeps (S.old.to_hide fun b hb => by rw [List.mem_singleton.mp hb]; exact S.D.fr _ hi)
/-- a call that changed one object of the ledger's -/
theorem SS.back {a : Addr} {x y : LObj} {i : Nat} (S : SS w g env ns gl h vs σ) (hi : σ[i]? = some (a, x)) (o : Old (hideAll h [a]) h') (hy : Is h' a y) : SS w g env ns gl h' vs (σ.set i (a, y)) := by
  have hm := List.mem_of_getElem? hi
  have k : ∀ b o', b ≠ a → h.get? b = some o' → h'.get? b = some o' := fun b o' hb e => o.k b o' (hideAll_get _ e fun q => hb (List.mem_singleton.mp q))
  refine ⟨S.e, S.T, S.F.at' fun b o' c e => k b o' (fun q => ?_) e, S.D.set' hi k hy, S.len⟩
  rcases c with c | c
  · exact S.D.ne _ hm (q.symm.trans c)
  · have := S.D.fr _ hm
    rw [← show b = a from q, c] at this; cases this
theorem hide_none {a : Addr} : (hideAll h [a]).get? a = none := hideAll_none _ (List.mem_singleton.mpr rfl)


theorem SS.weaken {g' : Heap} (S : SS w g' env ns gl h vs σ) (T : TG w g) (o : Old g g') : SS w g env ns gl h vs σ :=
  ⟨S.e, T, ⟨S.F.ns, o.trans S.F.old, (by
    cases e : g.get? env.locals with
    | none => rfl
    | some x => have := S.F.lo; rw [o.k _ _ e] at this; cases this)⟩, ⟨S.D.is, S.D.ne, fun p hp => (by
    cases e : g.get? p.1 with
    | none => rfl
    | some x => have := S.D.fr p hp; rw [o.k _ _ e] at this; cases this), S.D.nd⟩, S.len⟩
/-- the base anew: all but the frame and what of the ledger may still change -/
theorem SS.rebase {σ₂ : List (Addr × LObj)} (S : SS w g env ns gl h vs σ) (hsub : σ₂.Sublist σ) : ∃ g₂, Old g g₂ ∧ Old g₂ h ∧ SS w g₂ env ns gl h vs σ₂ ∧ ∀ b o, h.get? b = some o → b ≠ env.locals → b ∉ σ₂.map (·.1) → g₂.get? b = some o := by
  have nm : ∀ b ∈ env.locals :: σ₂.map (·.1), g.get? b = none := by
    intro b hb
    rcases List.mem_cons.mp hb with rfl | hb
    · exact S.F.lo
    · obtain ⟨p, hp, rfl⟩ := List.mem_map.mp hb
      exact S.D.fr p (hsub.subset hp)
  have o1 : Old g (hideAll h (env.locals :: σ₂.map (·.1))) := S.old.to_hide nm
  have o2 : Old (hideAll h (env.locals :: σ₂.map (·.1))) h := Old.hide
  refine ⟨hideAll h (env.locals :: σ₂.map (·.1)), o1, o2, ?_, fun b o e h1 h2 => hideAll_get _ e fun q => ?_⟩
  · refine ⟨S.e, S.T.keeps o1, ⟨S.F.ns, o2, hideAll_none _ (.head _)⟩, ⟨fun p hp => S.D.is p (hsub.subset hp), fun p hp => S.D.ne p (hsub.subset hp), fun p hp => hideAll_none _ (.tail _ (List.mem_map_of_mem hp)), ?_⟩, S.len⟩
    · exact List.Sublist.nodup (hsub.map _) S.D.nd
  · rcases List.mem_cons.mp q with q | q
    · exact h1 q
    · exact h2 q
end
end Mine

end

section
open PySem PySem.W PyProof.Rows PySem.Calls
set_option maxRecDepth 100000
namespace Mine
section
variable {w : World} {A : Around} {E : Value → Shared → Prop} {s : Shared} {g h h' : Heap} {t : Nat} {env : Env} {ns : List Str} {gl : List (Str × Value)} {vs : List (Option Value)} {σ : List (Addr × LObj)}

theorem SS.keepIter {wr : List Addr} (S : SS w g env ns gl h vs σ) (hw : ∀ b ∈ wr, g.get? b = none ∧ b ≠ env.locals ∧ ∀ p ∈ σ, p.1 ≠ b) (k : ∀ b o, b ∉ wr → h.get? b = some o → h'.get? b = some o) : SS w g env ns gl h' vs σ := by
  refine ⟨S.e, S.T, S.F.at' fun b o c e => k b o (fun q => ?_) e, ⟨fun p hp => (S.D.is p hp).keep fun o e => k _ o (fun q => (hw _ q).2.2 p hp rfl) e, S.D.ne, S.D.fr, S.D.nd⟩, S.len⟩
  rcases c with c | c
  · exact (hw b q).2.1 c
  · rw [(hw b q).1] at c; cases c
end

/-- what a for's turn must come to -/
def Turn (w : World) (env : Env) (ns : List Str) (gl : List (Str × Value)) (g' : Heap) (s : Shared) (J : List (Option Value) → List (Addr × LObj) → Prop) (R : Result → Shared → Prop) (f : Flow) (s' : Shared) : Prop := match f with
  | .ret v => R (.ok (.ret v)) s'
  | .brk => R (.ok .next) s'
  | _ => ∃ h' t' vs' σ', s' = St s h' t' ∧ SS w g' env ns gl h' vs' σ' ∧ J vs' σ'

section
variable {w : World} {A : Around} {s : Shared} {g h h' : Heap} {t : Nat} {env : Env} {ns : List Str} {gl : List (Str × Value)} {vs : List (Option Value)} {σ : List (Addr × LObj)}
theorem for_loop {x : Str} {px : Pos} {body : List Stmt} {I : Addr} {fp wr : List Addr} {n i : Nat} {P : Nat → Value → Prop} {Sp : Nat → Heap → Prop} {R : Result → Shared → Prop}
    (W : Walks pg w A I fp wr n P Sp) (S : SS w g env ns gl h vs σ) (hst : Sp 0 h) (ix : ns[i]? = some x) (hpr : ∀ k (h : Heap), Sp k h → ∀ b ∈ fp, ∃ o, h.get? b = some o)
    (hfp : ∀ b ∈ fp, b ≠ env.locals ∧ ∀ p ∈ σ, p.1 ≠ b) (hwr : ∀ b ∈ wr, g.get? b = none)
    (J : Nat → List (Option Value) → List (Addr × LObj) → Prop) (h0 : J 0 vs σ)
    (step : ∀ k v vs σ g' h t, k < n → P k v → J k vs σ → Old g g' → SS w g' env ns gl h (vs.set i (some v)) σ →
      wpAny (model pg w) A (execs body env) (Turn w env ns gl g' s (J (k + 1)) R) (fun _ _ => False) (St s h t))
    (done : ∀ vs σ h t, J n vs σ → SS w g env ns gl h vs σ → R (.ok .next) (St s h t)) :
    codeAny (model pg w) A (.forLoop (.Name x px) (.ref I) body [] env) R (St s h t) := by
  refine codeAny_forLoop (fun k s' => ∃ i' h' t' vs' σ', s' = St s h' t' ∧ Sp i' h' ∧ SS w g env ns gl h' vs' σ' ∧ (∀ b ∈ fp, ∀ p ∈ σ', p.1 ≠ b) ∧ J i' vs' σ' ∧ i' ≤ n ∧ k = n + 1 - i') ?_ (n + 1)
    ⟨0, h, t, vs, σ, rfl, hst, S, fun b hb => (hfp b hb).2, h0, Nat.zero_le _, rfl⟩
  rintro k s' ⟨i', h', t', vs', σ', rfl, hst', S', hd', hJ, hi', rfl⟩
  have hw : ∀ b ∈ wr, g.get? b = none ∧ b ≠ env.locals ∧ ∀ p ∈ σ', p.1 ≠ b := fun b hb => ⟨hwr b hb, (hfp b (W.sub b hb)).1, hd' b (W.sub b hb)⟩
  by_cases hlt : i' < n
  · refine W.item i' _ _ _ hlt hst' fun v h₁ tk₁ hP hst₁ hk₁ => ?_
    have S₁ := S'.keepIter hw hk₁
    refine wpAny_assign_Name (rs_full (t := tk₁) (h := h₁) (s := s) S₁ ix fun h₂ t₂ S₂ hs₂ => ?_)
    have hst₂ : Sp (i' + 1) h₂ := W.frame _ _ _ hst₁ fun b hb o e => (hs₂.2 b (hfp b hb).1).trans e
    obtain ⟨g', o1, o2, S₃, hin⟩ := S₂.rebase (List.Sublist.refl σ')
    have fpin : ∀ b ∈ fp, ∃ o, g'.get? b = some o := fun b hb => by
      obtain ⟨o, e⟩ := hpr _ _ hst₂ b hb
      exact ⟨o, hin b o e (hfp b hb).1 fun q => by
        obtain ⟨p, hp, e⟩ := List.mem_map.mp q
        exact hd' b hb p hp e⟩
    refine wpAny_mono (step i' v vs' σ' g' h₂ t₂ hlt hP hJ o1 S₃) (fun f s₃ h₃ => ?_) fun _ _ x => x.elim
    have more : (∃ h' t' vs' σ', s₃ = St s h' t' ∧ SS w g' env ns gl h' vs' σ' ∧ J (i' + 1) vs' σ') → ∃ m, m < n + 1 - i' ∧ ∃ i'' h' t' vs' σ', s₃ = St s h' t' ∧ Sp i'' h' ∧ SS w g env ns gl h' vs' σ' ∧ (∀ b ∈ fp, ∀ p ∈ σ', p.1 ≠ b) ∧ J i'' vs' σ' ∧ i'' ≤ n ∧ m = n + 1 - i'' := by
      rintro ⟨h₄, t₄, vs₄, σ₄, rfl, S₄, J₄⟩
      refine ⟨n + 1 - (i' + 1), by omega, i' + 1, h₄, t₄, vs₄, σ₄, rfl, ?_, S₄.weaken S.T o1, fun b hb p hp e => ?_, J₄, hlt, rfl⟩
      · refine W.frame _ _ _ hst₂ fun b hb o e => ?_
        obtain ⟨o', e'⟩ := fpin b hb
        have := o2.k _ _ e'
        rw [e] at this
        cases this
        exact S₄.old.k _ _ e'
      · obtain ⟨o', e'⟩ := fpin b hb
        have := S₄.D.fr p hp
        rw [e, e'] at this; cases this
    cases f with
    | ret v => exact h₃
    | brk => exact h₃
    | next => exact more h₃
    | cont => exact more h₃
  · have hin : i' = n := by omega
    subst hin
    refine W.done _ _ _ hst' fun h₁ tk₁ hk₁ => wpAny_execs_nil ?_
    exact done _ _ h₁ tk₁ hJ (S'.keepIter hw hk₁)

def ForR (w : World) (A : Around) (env : Env) (rest : List Stmt) (Q : Flow → Shared → Prop) (E : Value → Shared → Prop) : Result → Shared → Prop
  | .ok .next, s' => wpAny (model pg w) A (execs rest env) Q E s'
  | .ok f, s' => Q f s'
  | .error e, s' => cameBackBy (model pg w) A env E e s'
theorem x_for {E : Value → Shared → Prop} {x : Str} {px pos : Pos} {iter : Expr} {body rest : List Stmt} {Q : Flow → Shared → Prop}
    (hq : wpAny (model pg w) A (eval iter env) (fun xv s₁ => wpAny (model pg w) A (pyIter xv) (fun it s₂ => codeAny (model pg w) A (.forLoop (.Name x px) it body [] env) (ForR w A env rest Q E) s₂) E s₁) E s)
    (hs : ∀ x, foldedSetIterable iter env x = pure x := by intro _; with_unfolding_all rfl) :
    wpAny (model pg w) A (execs (.For (.Name x px) iter body [] pos :: rest) env) Q E s := by
  refine wpAny_execs_cons (wpAny_For (wpAny_mono hq (fun xv s₁ h₁ => wpAny_mono h₁ (fun it s₂ h₂ => codeAny_mono h₂ fun r s₃ q => ?_) fun _ _ x => x) fun _ _ x => x) hs)
  cases r with
  | error e => exact q
  | ok f => cases f <;> exact q

theorem for_str {E : Value → Shared → Prop} {y : Str} {px : Pos} {body : List Stmt} {x : Str} {tk : Tok} {i : Nat} {R : Result → Shared → Prop}
    (hA : A.handled = none) (S : SS w g env ns gl h vs σ) (ix : ns[i]? = some y)
    (J : Nat → List (Option Value) → List (Addr × LObj) → Prop) (h0 : J 0 vs σ)
    (step : ∀ k c u vs σ g' h t, x.cps[k]? = some c → J k vs σ → Old g g' → SS w g' env ns gl h (vs.set i (some (.str ⟨#[c]⟩ u))) σ →
      wpAny (model pg w) A (execs body env) (Turn w env ns gl g' s (J (k + 1)) R) (fun _ _ => False) (St s h t))
    (done : ∀ vs σ h t, J x.cps.size vs σ → SS w g env ns gl h vs σ → R (.ok .next) (St s h t)) :
    wpAny (model pg w) A (pyIter (.str x tk)) (fun it s₂ => codeAny (model pg w) A (.forLoop (.Name y px) it body [] env) R s₂) E (St s h t) := by
  have fin : ∀ (o : Obj) (Sp : Nat → Heap → Prop), Walks pg w A h.objs.size [h.objs.size] [h.objs.size] x.cps.size (SignAt x) Sp → (∀ k (h' : Heap), Sp k h' → ∃ o, h'.get? h.objs.size = some o) → Sp 0 (h.push o) →
      codeAny (model pg w) A (.forLoop (.Name y px) (.ref h.objs.size) body [] env) R (St s (h.push o) t) := by
    intro o Sp W hp h0'
    have S' : SS w g env ns gl (h.push o) vs σ := S.after ⟨fun b o' e => Heap.get?_push_of_some _ e⟩
    refine for_loop W S' h0' ix (fun k h hS b hb => by rw [List.mem_singleton.mp hb]; exact hp k h hS) (fun b hb => ?_) (fun b hb => ?_) J h0 ?_ done
    · rw [List.mem_singleton.mp hb]
      exact ⟨Nat.ne_of_gt S.F.ns.lt, fun p hp => Nat.ne_of_lt (S.D.is p hp).lt⟩
    · rw [List.mem_singleton.mp hb]; exact S.old.nope (Nat.le_refl _)
    · rintro k v vs σ g' h t hk ⟨c, u, hc, rfl⟩ hJ o' S''
      exact step k c u vs σ g' h t hc hJ o' S''
  cases ha : x.cps.all (· < 128)
  · exact wpAny_pyIter_wide ha (fin _ _ (Walks.strWide hA _ x tk) (fun k h' ⟨o, ho, _⟩ => ⟨o, ho⟩) ⟨_, Heap.get?_push_size _ rfl, rfl, rfl⟩)
  · exact wpAny_pyIter_ascii ha (fin _ _ (Walks.strAscii hA _ x tk) (fun k h' ⟨o, ho, _⟩ => ⟨o, ho⟩) ⟨_, Heap.get?_push_size _ rfl, rfl, rfl⟩)

/-- over a list that the base holds -/
theorem for_list {E : Value → Shared → Prop} {y : Str} {px : Pos} {body : List Stmt} {l : Addr} {xs : List Value} {i : Nat} {R : Result → Shared → Prop}
    (hA : A.handled = none) (S : SS w g env ns gl h vs σ) (hl : g.IsList l xs.toArray) (ix : ns[i]? = some y)
    (J : Nat → List (Option Value) → List (Addr × LObj) → Prop) (h0 : J 0 vs σ)
    (step : ∀ k v vs σ g' h t, xs[k]? = some v → J k vs σ → Old g g' → SS w g' env ns gl h (vs.set i (some v)) σ →
      wpAny (model pg w) A (execs body env) (Turn w env ns gl g' s (J (k + 1)) R) (fun _ _ => False) (St s h t))
    (done : ∀ vs σ h t, J xs.length vs σ → SS w g env ns gl h vs σ → R (.ok .next) (St s h t)) :
    wpAny (model pg w) A (pyIter (.ref l)) (fun it s₂ => codeAny (model pg w) A (.forLoop (.Name y px) it body [] env) R s₂) E (St s h t) := by
  obtain ⟨ol, hol, hr⟩ := hl
  have hlh : h.get? l = some ol := S.old.k _ _ hol
  refine wpAny_pyIter_list ⟨ol, hlh, hr⟩ ?_
  have hne : l ≠ h.objs.size := Nat.ne_of_lt (Heap.lt_size hlh)
  have S' : SS w g env ns gl (h.push { cls := .type "list_iterator", data := .fields #[.ref l, .int 0 0] }) vs σ := S.after ⟨fun b o' e => Heap.get?_push_of_some _ e⟩
  refine for_loop (Walks.list hA _ l hne xs.toArray) S' ⟨⟨_, Heap.get?_push_size _ rfl, rfl, rfl⟩, ⟨ol, Heap.get?_push_of_some _ hlh, hr⟩⟩ ix (fun k h' hS b hb => ?_) (fun b hb => ?_) (fun b hb => ?_) J h0 ?_ ?_
  · obtain ⟨⟨o1, e1, _⟩, ⟨o2, e2, _⟩⟩ := hS
    rcases List.mem_cons.mp hb with rfl | hb
    · exact ⟨o1, e1⟩
    · rw [List.mem_singleton.mp hb]; exact ⟨o2, e2⟩
  · rcases List.mem_cons.mp hb with rfl | hb
    · exact ⟨Nat.ne_of_gt S.F.ns.lt, fun p hp => Nat.ne_of_lt (S.D.is p hp).lt⟩
    · rw [List.mem_singleton.mp hb]
      refine ⟨fun e => ?_, fun p hp e => ?_⟩
      · have := S.F.lo; rw [← e, hol] at this; cases this
      · have := S.D.fr p hp; rw [e, hol] at this; cases this
  · rw [List.mem_singleton.mp hb]; exact S.old.nope (Nat.le_refl _)
  · intro k v vs σ g' h t hk hv hJ o' S''
    exact step k v vs σ g' h t (by simpa using hv) hJ o' S''
  · intro vs σ h t hJ S''
    exact done vs σ h t (by simpa using hJ) S''

theorem c_range1 {n : Int} {tk : Tok} {Q : Value → Shared → Prop} {E : Value → Shared → Prop} (S : SS w g env ns gl h vs σ)
    (hq : ∀ r h' t' t1 t2, SS w g env ns gl h' vs σ → IsRange h' r 0 n 1 t1 tk t2 → (∀ p ∈ σ, p.1 ≠ r) → g.get? r = none → r ≠ env.locals → Q (.ref r) (St s h' t')) :
    wpAny (model pg w) A (call (.type "range") [.int n tk]) Q E (St s h t) :=
  call_range_1 (hq h.objs.size _ _ _ _ (S.after ⟨fun b o' e => Heap.get?_push_of_some _ e⟩) (IsRange.new h ..) (fun p hp => Nat.ne_of_lt (S.D.is p hp).lt) (S.old.nope (Nat.le_refl _)) (Nat.ne_of_gt S.F.ns.lt))
theorem for_range {E : Value → Shared → Prop} {y : Str} {px : Pos} {body : List Stmt} {r : Addr} {n : Nat} {t1 t2 t3 : Tok} {i : Nat} {R : Result → Shared → Prop}
    (hA : A.handled = none) (S : SS w g env ns gl h vs σ) (hr : IsRange h r 0 (n : Int) 1 t1 t2 t3) (hn : n < 4611686018427387904) (ix : ns[i]? = some y)
    (J : Nat → List (Option Value) → List (Addr × LObj) → Prop) (h0 : J 0 vs σ)
    (step : ∀ (k : Nat) u vs σ g' h t, k < n → J k vs σ → Old g g' → SS w g' env ns gl h (vs.set i (some (.int k u))) σ →
      wpAny (model pg w) A (execs body env) (Turn w env ns gl g' s (J (k + 1)) R) (fun _ _ => False) (St s h t))
    (done : ∀ vs σ h t, J n vs σ → SS w g env ns gl h vs σ → R (.ok .next) (St s h t)) :
    wpAny (model pg w) A (pyIter (.ref r)) (fun it s₂ => codeAny (model pg w) A (.forLoop (.Name y px) it body [] env) R s₂) E (St s h t) := by
  have e1 : Builtin.Range.rangeSize 0 (n : Int) 1 = (n : Int) := by rw [rangeSize_one]; split <;> omega
  have hsm : Builtin.Range.small 0 (n : Int) 1 = true := small_one (by decide) (by decide) (by omega) (by omega)
  refine wpAny_pyIter_range hr hsm ?_
  have S' : ∀ o, SS w g env ns gl (h.push o) vs σ := fun o => S.after ⟨fun b o' e => Heap.get?_push_of_some _ e⟩
  refine for_loop (Walks.range hA _ 0 1 n) (S' _) ?_ ix (fun k h' hS b hb => by rw [List.mem_singleton.mp hb]; exact ⟨_, hS⟩) (fun b hb => ?_) (fun b hb => ?_) J h0 ?_ done
  · show IsRangeIter _ _ _ _ _
    rw [e1]
    simpa using Heap.get?_push_size h (o := { cls := .type "range_iterator", data := .fields #[rawInt 0, rawInt (n : Int), rawInt 1] }) rfl
  · rw [List.mem_singleton.mp hb]
    exact ⟨Nat.ne_of_gt S.F.ns.lt, fun p hp => Nat.ne_of_lt (S.D.is p hp).lt⟩
  · rw [List.mem_singleton.mp hb]; exact S.old.nope (Nat.le_refl _)
  · rintro k v vs σ g' h t hk ⟨u, rfl⟩ hJ o' S''
    exact step k u vs σ g' h t hk hJ o' (by simpa using S'')

theorem x_while {E : Value → Shared → Prop} {test : Expr} {body rest : List Stmt} {pos : Pos} {Q : Flow → Shared → Prop} (I : Nat → Shared → Prop) (n : Nat) (h0 : I n s)
    (turn : ∀ n s, I n s → wpAny (model pg w) A (isTrue test env (eval test env)) (fun b s₂ =>
      (b = true → wpAny (model pg w) A (execs body env) (fun f s₃ => match f with
        | .next | .cont => ∃ m, m < n ∧ I m s₃
        | .brk => wpAny (model pg w) A (execs rest env) Q E s₃
        | .ret v => Q (.ret v) s₃) (fun _ _ => False) s₂) ∧
      (b = false → wpAny (model pg w) A (execs rest env) Q E s₂)) (fun _ _ => False) s) :
    wpAny (model pg w) A (execs (.While test body [] pos :: rest) env) Q E s := by
  refine wpAny_execs_cons (wpAny_While (codeAny_whileLoop I (fun n s hI => wpAny_mono (turn n s hI) (fun b s₂ q => ?_) fun _ _ x => x.elim) n h0))
  cases b
  · exact wpAny_execs_nil (q.2 rfl)
  · refine wpAny_mono (q.1 rfl) (fun f s₃ q => ?_) fun _ _ x => x.elim
    cases f <;> exact q

theorem c_blt {E : Value → Shared → Prop} {pos : Pos} {id : String} {e : Expr} {rest : List Expr} {Q : Value → Shared → Prop}
    (hq : wpAny (model pg w) A (spliced (backTo pos (starEach (e :: rest) env))) (fun vs s₁ => wpAny (model pg w) A (call (.builtin id) vs) Q E s₁) E s)
    (he : starEach (e :: rest) env = (false, eval e env) :: starEach rest env := by with_unfolding_all rfl)
    (hplain : (backTo pos (starEach rest env)).any (·.1) = false := by with_unfolding_all rfl) :
    wpAny (model pg w) A (callWith pos (.builtin id) [] (backTo pos (starEach (e :: rest) env)) []) Q E s := callWith_builtin1 hq he hplain
theorem c_type {E : Value → Shared → Prop} {pos : Pos} {T : String} {e : Expr} {rest : List Expr} {Q : Value → Shared → Prop}
    (hq : wpAny (model pg w) A (spliced (backTo pos (starEach (e :: rest) env))) (fun vs s₁ => wpAny (model pg w) A (call (.type T) vs) Q E s₁) E s)
    (he : starEach (e :: rest) env = (false, eval e env) :: starEach rest env := by with_unfolding_all rfl)
    (hplain : (backTo pos (starEach rest env)).any (·.1) = false := by with_unfolding_all rfl) :
    wpAny (model pg w) A (callWith pos (.type T) [] (backTo pos (starEach (e :: rest) env)) []) Q E s := callWith_type1 hq he hplain

/-- a new list of which the ledger need not know: it goes to the base -/
theorem SS.toBase {l : Addr} {xs : List Value} (S : SS w g env ns gl h vs σ) (k : ∀ b o, h.get? b = some o → h'.get? b = some o) (hl : h.objs.size ≤ l) (hL : h'.IsList l xs.toArray) :
    ∃ g₂, Old g g₂ ∧ SS w g₂ env ns gl h' vs σ ∧ g₂.IsList l xs.toArray := by
  have S2 := S.after (h' := h') ⟨k⟩
  obtain ⟨g2, o1, o2, S3, hin⟩ := S2.rebase (List.Sublist.refl σ)
  obtain ⟨o, e, r⟩ := hL
  refine ⟨g2, o1, S3, ⟨o, hin _ _ e ?_ ?_, r⟩⟩
  · exact Nat.ne_of_gt (Nat.lt_of_lt_of_le S.F.ns.lt hl)
  · intro q
    obtain ⟨p, hp, e'⟩ := List.mem_map.mp q
    have h1 := (S.D.is p hp).lt
    rw [show p.1 = l from e'] at h1
    exact absurd (Nat.lt_of_lt_of_le h1 hl) (Nat.lt_irrefl _)
def SlTo (o vu : Value) (Q : Value → Shared → Prop) (s₂ : Shared) : Prop := ∃ (l : Addr) (xs : List Value) (k : Int) (tk : Tok), o = .ref l ∧ vu = .int k tk ∧ 0 ≤ k ∧ s₂.heap.IsList l xs.toArray ∧ xs.length ≤ 2 ^ 20 ∧
  ∀ (l' : Addr) (h' : Heap), (∀ b o, s₂.heap.get? b = some o → h'.get? b = some o) → s₂.heap.objs.size ≤ l' → h'.IsList l' (xs.take k.toNat).toArray → Q (.ref l') { s₂ with heap := h' }
theorem e_slice_to {E : Value → Shared → Prop} {value u : Expr} {p pos : Pos} {Q : Value → Shared → Prop}
    (hq : wpAny (model pg w) A (eval value env) (fun o s₁ => wpAny (model pg w) A (eval u env) (fun vu s₂ => SlTo o vu Q s₂) E s₁) E s)
    (ht : ∀ o r, letTemporaryGo value o r = pure () := by intro _ _; with_unfolding_all rfl) : wpAny (model pg w) A (eval (.Subscript value (.Slice none (some u) none p) pos) env) Q E s := by
  refine wpAny_Subscript_list_slice (wpAny_mono hq (fun o s₁ h₁ => wpAny_evalPart_none (wpAny_evalPart_some (wpAny_mono h₁ (fun vu s₂ h₂ => ?_) fun _ _ x => x))) fun _ _ x => x) ht
  obtain ⟨l, xs, k, tk, rfl, rfl, h0, hl, hz, hq⟩ := h₂
  have hsz : xs.toArray.size ≤ sizeLine := by rw [List.size_toArray]; exact Nat.le_trans hz (by decide)
  refine ⟨l, _, _, _, rfl, hl, hsz, .none, .int _ _, hq _ _ (fun b o e => Heap.get?_push_of_some _ (Heap.get?_push_of_some _ e)) (Nat.le_succ _) ?_⟩
  obtain ⟨n, rfl⟩ := Int.eq_ofNat_of_zero_le h0
  refine ⟨{ cls := .type "list", data := .seq (slicePick xs.toArray none (some (n : Int)) none) }, ?_, rfl, 0, ?_⟩
  · have := Heap.get?_push_size (s₂.heap.push { cls := .type "slice", data := .fields #[.none, .int (n : Int) tk, .none] }) (o := { cls := .type "list", data := .seq (slicePick xs.toArray none (some (n : Int)) none) }) rfl
    rwa [Heap.size_push] at this
  · show Data.seq _ _ = Data.seq _ _
    rw [slicePick_upto' xs.toArray n]
    simp

theorem e_list {E : Value → Shared → Prop} {elts : List Expr} {pos : Pos} {Q : Value → Shared → Prop}
    (hq : wpAny (model pg w) A (spliced (backTo pos (starEach elts env))) (fun vs s₁ => wpAny (model pg w) A (newList vs) Q E s₁) E s) : wpAny (model pg w) A (eval (.List elts pos) env) Q E s := List_ hq
theorem m_list {E : Value → Shared → Prop} {xs : List Value} {Q : Value → Shared → Prop} (S : SS w g env ns gl h vs σ) (hz : xs.length ≤ 2 ^ 20)
    (hq : ∀ l h', SS w g env ns gl h' vs ((l, .list xs) :: σ) → h.get? l = none → Q (.ref l) (St s h' t)) : wpAny (model pg w) A (newList xs) Q E (St s h t) := by
  refine wpAny_newList (hq _ _ (S.new ⟨fun b o e => Heap.get?_push_of_some _ e⟩ ?_ ⟨_, Heap.get?_push_size _ rfl, rfl, 0, rfl⟩) ?_) (by show xs.length ≤ sizeLine; exact Nat.le_trans hz (by decide))
  · exact (Old.refl h).nope (Nat.le_refl _)
  · exact (Old.refl h).nope (Nat.le_refl _)
theorem o_mulR {E : Value → Shared → Prop} {a b : Int} {t1 t2 : Tok} {Q : Value → Shared → Prop} (h1 : -(2 ^ 64) < b) (h2 : b < 2 ^ 64) (hq : ∀ t', Q (.int (a * b) t) (St s h t')) : wpAny (model pg w) A (binaryOp .Mult (.int a t1) (.int b t2)) Q E (St s h t) :=
  PyProof.Rows.mul_int (hq _) (IntMulOk.of_right (intBits_le_64 h1 h2))
theorem o_pow {E : Value → Shared → Prop} {a n : Int} {t1 t2 : Tok} {Q : Value → Shared → Prop} (hn : 0 ≤ n) (hsz : (Builtin.Int.intBits a : Int) * n ≤ 2 ^ 27) (hq : ∀ t', Q (.int (a ^ n.toNat) t) (St s h t')) : wpAny (model pg w) A (binaryOp .Pow (.int a t1) (.int n t2)) Q E (St s h t) :=
  PyProof.Rows.pow_int hn hsz (hq _)
theorem c_abs {E : Value → Shared → Prop} {a : Int} {t1 : Tok} {Q : Value → Shared → Prop} (hq : ∀ u t', Q (.int (if a < 0 then -a else a) u) (St s h t')) : wpAny (model pg w) A (call (.builtin "abs") [.int a t1]) Q E (St s h t) :=
  PyProof.Rows.call_abs_int fun u tk => hq u tk
end
end Mine

end

set_option hygiene false in
local macro_rules | `(tactic| walk_at "zn") => `(tactic| ((with_reducible show wpAny _ _ (eval (PySem.Expr.Name _ _) _) _ _ _); first | (with_reducible refine r_name0 S ?_) | (with_reducible refine r_name1 S ?_) | (with_reducible refine r_name2 S ?_) | (with_reducible refine r_name3 S ?_) | (with_reducible refine r_name4 S ?_) | (with_reducible refine r_name5 S ?_) | (with_reducible refine r_name6 S ?_) | (with_reducible refine r_name7 S ?_) | (with_reducible refine r_name8 S ?_) | (with_reducible refine r_name9 S ?_) | (with_reducible refine r_name10 S ?_) | (with_reducible refine r_name11 S ?_) | (with_reducible refine r_name12 S ?_) | (with_reducible refine r_name13 S ?_) | (with_reducible refine r_glob0 S ?_) | (with_reducible refine r_glob1 S ?_) | (with_reducible refine r_glob2 S ?_) | (with_reducible refine r_glob3 S ?_) | (with_reducible refine r_glob4 S ?_) | (with_reducible refine r_glob5 S ?_) | (with_reducible refine r_glob6 S ?_) | (with_reducible refine r_glob7 S ?_) | (with_reducible refine r_glob8 S ?_) | (with_reducible refine r_glob9 S ?_) | (with_reducible refine r_glob10 S ?_) | (with_reducible refine r_glob11 S ?_)))
set_option hygiene false in
local macro_rules | `(tactic| walk_at "zs") => `(tactic| ((with_reducible show wpAny _ _ (storeName _ _ _) _ _ _); first | (with_reducible refine r_st0 S ?_; clear S; intro h t S) | (with_reducible refine r_st1 S ?_; clear S; intro h t S) | (with_reducible refine r_st2 S ?_; clear S; intro h t S) | (with_reducible refine r_st3 S ?_; clear S; intro h t S) | (with_reducible refine r_st4 S ?_; clear S; intro h t S) | (with_reducible refine r_st5 S ?_; clear S; intro h t S) | (with_reducible refine r_st6 S ?_; clear S; intro h t S) | (with_reducible refine r_st7 S ?_; clear S; intro h t S) | (with_reducible refine r_st8 S ?_; clear S; intro h t S) | (with_reducible refine r_st9 S ?_; clear S; intro h t S) | (with_reducible refine r_st10 S ?_; clear S; intro h t S) | (with_reducible refine r_st11 S ?_; clear S; intro h t S) | (with_reducible refine r_st12 S ?_; clear S; intro h t S) | (with_reducible refine r_st13 S ?_; clear S; intro h t S)))
set_option hygiene false in
local macro_rules | `(tactic| walk_at "zl") => `(tactic| ((with_reducible show wpAny _ _ (loadName _ _) _ _ _); first | (with_reducible refine r_ld0 S ?_) | (with_reducible refine r_ld1 S ?_) | (with_reducible refine r_ld2 S ?_) | (with_reducible refine r_ld3 S ?_) | (with_reducible refine r_ld4 S ?_) | (with_reducible refine r_ld5 S ?_) | (with_reducible refine r_ld6 S ?_) | (with_reducible refine r_ld7 S ?_) | (with_reducible refine r_ld8 S ?_) | (with_reducible refine r_ld9 S ?_) | (with_reducible refine r_ld10 S ?_) | (with_reducible refine r_ld11 S ?_) | (with_reducible refine r_ld12 S ?_) | (with_reducible refine r_ld13 S ?_)))
set_option hygiene false in
local macro_rules | `(tactic| walk_at "z") => `(tactic| first
  | (((with_reducible show wpAny _ _ (execs _ _) _ _ _)); first | (with_reducible refine x_assign ?_) | (with_reducible refine x_ret ?_) | (with_reducible refine x_aug ?_) | (with_reducible refine x_sub ?_) | (with_reducible refine x_expr S.e.kind ?_) | (with_reducible refine x_assert ?_) | (with_reducible refine x_nil ?_))
  | walk_at "zn"
  | (((with_reducible show wpAny _ _ (eval _ _) _ _ _)); first | (with_reducible refine e_int ?_; intro t) | (with_reducible refine e_str ?_; intro t) | (with_reducible refine e_bool ?_) | (with_reducible refine e_none ?_) | (with_reducible refine e_bin ?_) | (with_reducible refine e_subscr ?_) | (with_reducible refine e_call ?_) | (with_reducible refine e_list ?_))
  | walk_at "zs"
  | walk_at "zl"
  | (((with_reducible show wpAny _ _ (spliced _) _ _ _)); first | (with_reducible refine a_more ?_) | (with_reducible refine a_none ?_))
  | (((with_reducible show wpAny _ _ (callWith _ _ _ _ _) _ _ _)); first | (with_reducible refine c_blt ?_) | (with_reducible refine c_type ?_))
  | (((with_reducible show wpAny _ _ (binaryOp _ _ _) _ _ _)); first | (with_reducible refine o_add ?_; intro t) | (with_reducible refine o_sub ?_; intro t))
  | (((with_reducible show wpAny _ _ (inplaceOp _ _ _) _ _ _)); first | (with_reducible refine o_iadd ?_; intro t)))
set_option hygiene false in
local macro_rules | `(tactic| walk_at "ent") => `(tactic| (
  (case ho => exact rfl); (case hcd => kernel_rfl!); (case hb => exact BindsTo.of_eq rfl); (case hok => kernel_rfl!);
  (case c1 => exact rfl); (case c2 => exact rfl); (case c3 => exact rfl); (case c4 => exact rfl); (case c5 => exact rfl);
  intro env h t S a' keep';
  simp only [List.map_cons, List.map_nil, List.cons_append, List.nil_append] at S;
  conv => enter [3, 1]; whnf))

section
open PySem PySem.W PyProof.Rows PySem.Calls
set_option maxRecDepth 100000
set_option maxHeartbeats 4000000
namespace Mine
section
variable {w : World} {A : Around} {E : Value → Shared → Prop} {s : Shared} {g h h' : Heap} {t : Nat}
theorem Old.none {a : Addr} (o : Old g h) (e : h.get? a = none) : g.get? a = none := by
  cases e' : g.get? a with
  | none => rfl
  | some x => rw [o.k _ _ e'] at e; cases e
theorem small_log {n : Int} (h1 : 0 < n) (h2 : n < 2 ^ 64) : n.natAbs.log2 < 9000 := by
  have h0 : n.natAbs ≠ 0 := by omega
  have : n.natAbs < 2 ^ 64 := by omega
  exact Nat.lt_of_lt_of_le ((Nat.log2_lt h0).mpr this) (by decide)

theorem draw_spec {n₀ : Nat} (a : AOk A (n₀ + 1)) (T : TG w g) (hk : Old g h) {bag : Addr} {b : Int} {tb tn : Tok} {n : Int} (hb : h.IsList bag [.int b tb].toArray) (hg : g.get? bag = none)
    (hn : 0 < n) (hn2 : n < 2 ^ 64) {Q : Value → Shared → Prop}
    (hQ : ∀ h' t' t1 t2, Old g h' → h'.IsList bag [.int (b.fdiv n) t1].toArray → Q (.int (b.fmod n) t2) (St s h' t')) :
    wpAny (model pg w) A (call (.ref 456) [.ref bag, .int n tn]) Q E (St s h t) := by
  refine' enter (binds := [("bag", .ref bag), ("n", .int n tn)]) (rest := ["told"]) (gl := []) (σ := [(bag, .list [.int b tb])]) ?ho ?hcd a T hk ?hb ?hok rfl rfl ?hσ ?hnd ?_ ?c1 ?c2 ?c3 ?c4 ?c5
  case hσ => intro p hp; rw [List.mem_singleton.mp hp]; exact ⟨hb, hg⟩
  case hnd => simp
  walk_at "ent"
  iterate 5 walk_at "z"
  refine sub_list (S.list (i := 0) rfl) (by decide) (by decide) rfl ?_
  walk_at "z"
  refine o_mod (by omega) ?_
  intro t
  iterate 6 walk_at "z"
  refine sub_list (S.list (i := 0) rfl) (by decide) (by decide) rfl ?_
  walk_at "z"
  refine o_div (by omega) (PyProof.noPylong_of_log2 (small_log hn hn2)) ?_
  intro t
  iterate 2 walk_at "z"
  refine setItem_list S (i := 0) rfl (by decide) (by simp) (by simp) ?_
  clear S; intro h S
  iterate 2 walk_at "z"
  exact hQ _ _ _ _ S.old (S.list (i := 0) rfl)

theorem int_of {vs : List Value} {ns : List Int} (h : IntsAre vs ns) {v : Value} : ∀ {k : Nat}, vs[k]? = some v → ∃ i t, v = .int i t := by
  induction h with
  | nil => intro k e; simp at e
  | cons n t _ ih =>
    intro k e
    cases k with
    | zero => cases e; exact ⟨_, _, rfl⟩
    | succ k => exact ih (k := k) (by simpa using e)
theorem natAbs_bits (x : Int) : 0 ≤ (if x < 0 then -x else x) := by split <;> omega

theorem bag_spec {n₀ : Nat} (a : AOk A (n₀ + 1)) (T : TG w g) (hk : Old g h) {l : Addr} {xs : List Value} {ns : List Int} (hl : g.IsList l xs.toArray) (hi : IntsAre xs ns) (hlen : xs.length ≤ 2 ^ 20)
    {Q : Value → Shared → Prop}
    (hQ : ∀ h' t' bag b tb, Old g h' → g.get? bag = none → h'.IsList bag [.int b tb].toArray → 0 ≤ b → Q (.ref bag) (St s h' t')) :
    wpAny (model pg w) A (call (.ref 449) [.ref l]) Q E (St s h t) := by
  refine' enter (binds := [("script", .ref l)]) (rest := ["n", "s"]) (gl := [("abs", .builtin "abs")]) (σ := []) ?ho ?hcd a T hk ?hb ?hok rfl rfl ?hσ ?hnd ?_ ?c1 ?c2 ?c3 ?c4 ?c5
  case hσ => intro p hp; cases hp
  case hnd => simp
  walk_at "ent"
  have T0 := T
  iterate 3 walk_at "z"
  refine x_for ?_
  refine e_slice_to ?_
  iterate 2 walk_at "z"
  refine ⟨l, xs, 24, _, rfl, rfl, by decide, hl.at fun o e => S.old.k l o e, hlen, fun l' h' k hl' hL => ?_⟩
  have hi2 : IntsAre (xs.take 24) (ns.take 24) := hi.take 24
  obtain ⟨g2, o1, S, hL⟩ := S.toBase k hl' hL
  refine for_list a'.h S hL (i := 2) rfl (fun _ vs σ => ∃ n tn u, vs = [some (.ref l), some (.int n tn), u] ∧ σ = []) ⟨_, _, _, rfl, rfl⟩ ?_ ?_
  · rintro k v vs σ g' h t hv ⟨n, tn, u, rfl, rfl⟩ o' S
    obtain ⟨i, ti, rfl⟩ := int_of hi2 hv
    simp only [List.set_cons_succ, List.set_cons_zero] at S
    iterate 5 walk_at "z"
    refine o_mulR (by decide) (by decide) ?_
    intro t
    iterate 4 walk_at "z"
    exact ⟨_, _, _, _, rfl, S, _, _, _, rfl, rfl⟩
  · rintro vs σ h t ⟨n, tn, u, rfl, rfl⟩ S
    show wpAny _ _ (execs _ _) _ _ _
    walk_at "z"
    walk_at "z"
    walk_at "z"
    walk_at "z"
    walk_at "z"
    walk_at "z"
    walk_at "z"
    walk_at "z"
    walk_at "z"
    walk_at "z"
    refine c_abs ?_
    intro u t
    iterate 3 walk_at "z"
    refine o_pow (by decide) (by decide +kernel) ?_
    intro t
    refine o_mod (by decide +kernel) ?_
    intro t
    walk_at "z"
    refine m_list S (by simp) ?_
    intro l h' S' hl
    refine hQ _ _ _ _ _ (o1.trans S'.old) (o1.none (S.old.none hl)) (S'.list (i := 0) rfl) ?_
    rw [Int.fmod_eq_emod_of_nonneg _ (by decide +kernel)]
    exact Int.emod_nonneg _ (by decide +kernel)
end
end Mine

end

section
open PySem PySem.W PyProof.Rows PySem.Calls
set_option maxRecDepth 100000
set_option maxHeartbeats 4000000
namespace Mine
open Builtin.Str
abbrev mkS (l : List Nat) : Str := ⟨l.toArray⟩
theorem mkS_len (l : List Nat) : (mkS l).length = l.length := by simp [mkS, Str.length]
theorem mkS_cps (x : Str) : mkS x.cps.toList = x := by cases x; simp [mkS]
theorem mkS_app (a b : List Nat) : mkS a ++ mkS b = mkS (a ++ b) := by
  show Str.append _ _ = _
  simp [mkS, Str.append]
theorem slice_text (x : Str) (l u : Option Int) : Txt.slice x l u = StrLaws.sliceText x l u := by
  unfold Txt.slice StrLaws.sliceText; rfl
theorem slice_mid (x : List Nat) {i j : Int} (h : 0 ≤ i ∧ i ≤ j ∧ j ≤ x.length) : Txt.slice (mkS x) (some i) (some j) = mkS ((x.drop i.toNat).take (j - i).toNat) := by
  rw [slice_text, StrLaws.sliceText_plain (by simpa using h)]
theorem slice_to (x : List Nat) {j : Int} (h : 0 ≤ j ∧ j ≤ x.length) : Txt.slice (mkS x) none (some j) = mkS (x.take j.toNat) := by
  rw [slice_text, StrLaws.sliceText_to (by simpa using h)]; simp
theorem slice_from (x : List Nat) {i : Int} (h : 0 ≤ i ∧ i ≤ x.length) : Txt.slice (mkS x) (some i) none = mkS (x.drop i.toNat) := by
  rw [slice_text, StrLaws.sliceText_from (by simpa using h)]
  have : List.take ((x.length : Int) - i).toNat (List.drop i.toNat x) = List.drop i.toNat x := List.take_of_length_le (by rw [List.length_drop]; omega)
  simpa using this
theorem slice_to' (x : List Nat) {j : Int} (h : 0 ≤ j) : Txt.slice (mkS x) none (some j) = mkS (x.take j.toNat) := by
  by_cases hj : j ≤ x.length
  · exact slice_to x ⟨h, hj⟩
  · rw [PyProof.Rows.slice_to_beyond (by rw [mkS_len]; omega), mkS_len, slice_to x ⟨by omega, by omega⟩, List.take_of_length_le (by omega), List.take_of_length_le (by omega)]
section
variable {w : World} {A : Around} {E : Value → Shared → Prop} {s : Shared} {g h h' : Heap} {t : Nat} {env : Env} {ns : List Str} {gl : List (Str × Value)} {vs : List (Option Value)} {σ : List (Addr × LObj)}

-- tests
theorem t_cmp {l r : Expr} {op : CmpOp} {pos : Pos} {whole : Sem Value} {Q : Bool → Shared → Prop}
    (h : wpAny (model pg w) A (eval l env) (fun a s₁ => wpAny (model pg w) A (eval r env) (fun b s₂ => wpAny (model pg w) A (compareOp op a b) (fun c s₃ => wpAny (model pg w) A (truthy c) Q E s₃) E s₂) E s₁) E s)
    (hm : behindInMarks op r = false := by with_unfolding_all rfl) : wpAny (model pg w) A (isTrue (.Compare l [op] [r] pos) env whole) Q E s := wpAny_isTrue_Compare1 h hm
theorem e_cmp {l r : Expr} {op : CmpOp} {pos : Pos} {Q : Value → Shared → Prop}
    (h : wpAny (model pg w) A (eval l env) (fun a s₁ => wpAny (model pg w) A (eval r env) (fun b s₂ => wpAny (model pg w) A (compareOp op a b) Q E s₂) E s₁) E s)
    (hm : behindInMarks op r = false := by with_unfolding_all rfl) : wpAny (model pg w) A (eval (.Compare l [op] [r] pos) env) Q E s := wpAny_Compare1 h hm
theorem t_not {x : Expr} {pos : Pos} {whole : Sem Value} {Q : Bool → Shared → Prop} (h : wpAny (model pg w) A (isTrue x env (eval x env)) (fun c s' => Q (!c) s') E s) :
    wpAny (model pg w) A (isTrue (.UnaryOp .Not x pos) env whole) Q E s := isTrue_not h
theorem t_and {x : Expr} {rest : List Expr} {pos : Pos} {whole : Sem Value} {Q : Bool → Shared → Prop}
    (h : wpAny (model pg w) A (isTrue x env (eval x env)) (fun c s' => (c = true → wpAny (model pg w) A (isTrue (.BoolOp .And rest pos) env whole) Q E s') ∧ (c = false → Q false s')) E s) :
    wpAny (model pg w) A (isTrue (.BoolOp .And (x :: rest) pos) env whole) Q E s :=
  isTrue_and (wpAny_mono h (fun c s' q => by cases c; exact q.2 rfl; exact q.1 rfl) fun _ _ x => x)
theorem t_or {x : Expr} {rest : List Expr} {pos : Pos} {whole : Sem Value} {Q : Bool → Shared → Prop}
    (h : wpAny (model pg w) A (isTrue x env (eval x env)) (fun c s' => (c = true → Q true s') ∧ (c = false → wpAny (model pg w) A (isTrue (.BoolOp .Or rest pos) env whole) Q E s')) E s) :
    wpAny (model pg w) A (isTrue (.BoolOp .Or (x :: rest) pos) env whole) Q E s :=
  isTrue_or (wpAny_mono h (fun c s' q => by cases c; exact q.2 rfl; exact q.1 rfl) fun _ _ x => x)
theorem t_and0 {pos : Pos} {whole : Sem Value} {Q : Bool → Shared → Prop} (h : Q true s) : wpAny (model pg w) A (isTrue (.BoolOp .And [] pos) env whole) Q E s := isTrue_and_nil h
theorem t_or0 {pos : Pos} {whole : Sem Value} {Q : Bool → Shared → Prop} (h : Q false s) : wpAny (model pg w) A (isTrue (.BoolOp .Or [] pos) env whole) Q E s := isTrue_or_nil h
theorem t_name {x : Str} {p : Pos} {Q : Bool → Shared → Prop} (h : wpAny (model pg w) A (eval (.Name x p) env) (fun v s₁ => wpAny (model pg w) A (truthy v) Q E s₁) E s) :
    wpAny (model pg w) A (isTrue (.Name x p) env (eval (.Name x p) env)) Q E s := isTrue_plain h
theorem t_call {f : Expr} {as : List Expr} {ks : List Keyword} {p : Pos} {Q : Bool → Shared → Prop} (h : wpAny (model pg w) A (eval (.Call f as ks p) env) (fun v s₁ => wpAny (model pg w) A (truthy v) Q E s₁) E s) :
    wpAny (model pg w) A (isTrue (.Call f as ks p) env (eval (.Call f as ks p) env)) Q E s := isTrue_plain h
theorem b_bool {b : Bool} {Q : Bool → Shared → Prop} (h : Q b s) : wpAny (model pg w) A (truthy (.bool b)) Q E s := wpAny_truthy_bool h

-- what is compared
theorem k_gt {a b : Int} {t1 t2 : Tok} {Q : Value → Shared → Prop} (h : Q (.bool (decide (b < a))) s) : wpAny (model pg w) A (compareOp .Gt (.int a t1) (.int b t2)) Q E s := PyProof.Rows.gt_int h
theorem k_lt {a b : Int} {t1 t2 : Tok} {Q : Value → Shared → Prop} (h : Q (.bool (decide (a < b))) s) : wpAny (model pg w) A (compareOp .Lt (.int a t1) (.int b t2)) Q E s := PyProof.Rows.lt_int h
theorem k_ge {a b : Int} {t1 t2 : Tok} {Q : Value → Shared → Prop} (h : Q (.bool (decide (b ≤ a))) s) : wpAny (model pg w) A (compareOp .GtE (.int a t1) (.int b t2)) Q E s := PyProof.Rows.ge_int h
theorem k_eqs {a b : Str} {t1 t2 : Tok} {Q : Value → Shared → Prop} (h : Q (.bool (a == b)) s) : wpAny (model pg w) A (compareOp .Eq (.str a t1) (.str b t2)) Q E s := PyProof.Rows.eq_str h
theorem k_nes {a b : Str} {t1 t2 : Tok} {Q : Value → Shared → Prop} (h : Q (.bool (a != b)) s) : wpAny (model pg w) A (compareOp .NotEq (.str a t1) (.str b t2)) Q E s := PyProof.Rows.ne_str h
theorem k_in {a b : Str} {t1 t2 : Tok} {Q : Value → Shared → Prop} (h : Q (.bool !(occurrences b a 0 b.length 1).isEmpty) s) : wpAny (model pg w) A (compareOp .In (.str a t1) (.str b t2)) Q E s := PyProof.Rows.in_str h
theorem k_notin {a b : Str} {t1 t2 : Tok} {Q : Value → Shared → Prop} (h : Q (.bool !(!(occurrences b a 0 b.length 1).isEmpty)) s) : wpAny (model pg w) A (compareOp .NotIn (.str a t1) (.str b t2)) Q E s := PyProof.Rows.notIn_str h
theorem in_one (x : Str) (c : Nat) : (!(occurrences x ⟨#[c]⟩ 0 x.length 1).isEmpty) = decide (c ∈ x.cps.toList) := StrLaws.found_one x c

-- calls of the built-ins
theorem c_len_str {x : Str} {u : Tok} {Q : Value → Shared → Prop} (hz : x.length ≤ 2 ^ 24) (hq : ∀ u t', Q (.int x.length u) (St s h t')) : wpAny (model pg w) A (call (.builtin "len") [.str x u]) Q E (St s h t) :=
  PyProof.Rows.len_str (by omega) (hq _ _)
theorem c_ord {c : Nat} {u : Tok} {Q : Value → Shared → Prop} (hq : ∀ u t', Q (.int c u) (St s h t')) : wpAny (model pg w) A (call (.builtin "ord") [.str ⟨#[c]⟩ u]) Q E (St s h t) :=
  P.ord_of_char (hq _ _)
theorem c_int_bool {b : Bool} {Q : Value → Shared → Prop} (hq : ∀ u t', Q (.int (if b then 1 else 0) u) (St s h t')) : wpAny (model pg w) A (call (.type "int") [.bool b]) Q E (St s h t) :=
  PySem.call_int_bool (hq _ _)
theorem o_adds {a b : Str} {t1 t2 : Tok} {Q : Value → Shared → Prop} (hz : a.length + b.length ≤ 2 ^ 20) (hq : ∀ u t', Q (.str (a ++ b) u) (St s h t')) : wpAny (model pg w) A (binaryOp .Add (.str a t1) (.str b t2)) Q E (St s h t) :=
  PyProof.Rows.add_str (fun u tk => hq u tk) (Nat.le_trans hz (by decide))

-- strs: a sign, a cut
theorem sub_str {value slice : Expr} {x : List Nat} {u v : Tok} {i : Int} {c : Nat} {Q : Value → Shared → Prop} (h0 : 0 ≤ i) (hi : i < 2 ^ 62) (hc : x[i.toNat]? = some c) (hq : ∀ u t', Q (.str ⟨#[c]⟩ u) (St s h t'))
    (hs : subscripted slice false (.str (mkS x) u) (.int i v) = operate [.str (mkS x) u, .int i v] (getItem (.str (mkS x) u) (.int i v)) := by with_unfolding_all rfl) :
    wpAny (model pg w) A (subscriptTail value slice (.str (mkS x) u) (.int i v)) Q E (St s h t) := by
  refine tail_any (typeIs_str _ _ _) slot_str_getitem.lookup (PyProof.Rows.getItem_str ?_ (StrLaws.at_nonneg h0 (by simpa using hc)) (hq _ _)) hs
  have h1 : ¬ i < -(2 ^ 63 : Int) := by omega
  have h2 : ¬ i ≥ 2 ^ 63 := by omega
  rw [decide_eq_false h1, decide_eq_false h2]; rfl

def SlStr (o vl vu : Value) (Q : Value → Shared → Prop) (s₃ : Shared) : Prop := ∃ x u₀ l u, o = .str x u₀ ∧ vl = partValue l ∧ vu = partValue u ∧ x.length ≤ 2 ^ 20 ∧
  ∀ ob u' t', Q (.str (Txt.slice x (l.map (·.1)) (u.map (·.1))) u') (St s₃ (s₃.heap.push ob) t')
theorem e_slice {value : Expr} {lo hi : Option Expr} {p pos : Pos} {Q : Value → Shared → Prop}
    (hq : wpAny (model pg w) A (eval value env) (fun o s₁ => wpAny (model pg w) A (evalPart lo env) (fun vl s₂ => wpAny (model pg w) A (evalPart hi env) (fun vu s₃ => SlStr o vl vu Q s₃) E s₂) E s₁) E s)
    (ht : ∀ o r, letTemporaryGo value o r = pure () := by intro _ _; with_unfolding_all rfl) : wpAny (model pg w) A (eval (.Subscript value (.Slice lo hi none p) pos) env) Q E s := by
  refine wpAny_Subscript_str_slice (wpAny_mono hq (fun o s₁ h₁ => wpAny_mono h₁ (fun vl s₂ h₂ => wpAny_mono h₂ (fun vu s₃ h₃ => ?_) fun _ _ x => x) fun _ _ x => x) fun _ _ x => x) ht
  obtain ⟨x, u₀, l, u, rfl, rfl, rfl, hz, hq⟩ := h₃
  refine ⟨x, u₀, l, u, rfl, rfl, rfl, post_val_or_str ⟨Nat.le_trans (Txt.slice_le x _ _) (Nat.le_trans hz (by decide)), fun t' k => hq _ t' k⟩⟩
theorem p_none {Q : Value → Shared → Prop} (h : Q .none s) : wpAny (model pg w) A (evalPart none env) Q E s := wpAny_evalPart_none h
theorem p_some {e : Expr} {Q : Value → Shared → Prop} (h : wpAny (model pg w) A (eval e env) Q E s) : wpAny (model pg w) A (evalPart (some e) env) Q E s := wpAny_evalPart_some h
theorem sl_mid {x : List Nat} {u₀ u1 u2 : Tok} {i j : Int} {Q : Value → Shared → Prop} (S : SS w g env ns gl h vs σ) (hz : x.length ≤ 2 ^ 20) (hij : 0 ≤ i ∧ i ≤ j ∧ j ≤ x.length)
    (hq : ∀ h' u' t', SS w g env ns gl h' vs σ → Old h h' → Q (.str (mkS ((x.drop i.toNat).take (j - i).toNat)) u') (St s h' t')) : SlStr (.str (mkS x) u₀) (.int i u1) (.int j u2) Q (St s h t) :=
  ⟨_, _, some (i, u1), some (j, u2), rfl, rfl, rfl, by rw [mkS_len]; exact hz, fun ob u' t' => by
    have o : Old h (h.push ob) := ⟨fun b o e => Heap.get?_push_of_some _ e⟩
    have := hq (h.push ob) u' t' (S.after o) o
    rw [← slice_mid x hij] at this
    exact this⟩
theorem sl_to {x : List Nat} {u₀ u2 : Tok} {j : Int} {Q : Value → Shared → Prop} (S : SS w g env ns gl h vs σ) (hz : x.length ≤ 2 ^ 20) (hij : 0 ≤ j)
    (hq : ∀ h' u' t', SS w g env ns gl h' vs σ → Old h h' → Q (.str (mkS (x.take j.toNat)) u') (St s h' t')) : SlStr (.str (mkS x) u₀) .none (.int j u2) Q (St s h t) :=
  ⟨_, _, none, some (j, u2), rfl, rfl, rfl, by rw [mkS_len]; exact hz, fun ob u' t' => by
    have o : Old h (h.push ob) := ⟨fun b o e => Heap.get?_push_of_some _ e⟩
    have := hq (h.push ob) u' t' (S.after o) o
    rw [← slice_to' x hij] at this
    exact this⟩
theorem sl_from {x : List Nat} {u₀ u2 : Tok} {i : Int} {Q : Value → Shared → Prop} (S : SS w g env ns gl h vs σ) (hz : x.length ≤ 2 ^ 20) (hij : 0 ≤ i ∧ i ≤ x.length)
    (hq : ∀ h' u' t', SS w g env ns gl h' vs σ → Old h h' → Q (.str (mkS (x.drop i.toNat)) u') (St s h' t')) : SlStr (.str (mkS x) u₀) (.int i u2) .none Q (St s h t) :=
  ⟨_, _, some (i, u2), none, rfl, rfl, rfl, by rw [mkS_len]; exact hz, fun ob u' t' => by
    have o : Old h (h.push ob) := ⟨fun b o e => Heap.get?_push_of_some _ e⟩
    have := hq (h.push ob) u' t' (S.after o) o
    rw [← slice_from x hij] at this
    exact this⟩

-- methods
theorem e_meth {o : Expr} {name : Str} {apos pos : Pos} {args : List Expr} {Q : Value → Shared → Prop}
    (h : wpAny (model pg w) A (eval o env) (fun ov s₁ => MethodOnS pg w A E name ov pos (backTo pos (starEach args env)) Q s₁) E s)
    (hbase : attributeBase o name env (eval o env) = eval o env := by with_unfolding_all rfl)
    (hfew : ((backTo pos (starEach args env)).all (fun x => !x.1) && (backToKw pos (keywordEach [] env)).all (fun x => x.1.isSome)
      && decide (args.length + ([] : List Keyword).length + (if ([] : List Keyword).isEmpty then 0 else 1) < 30)) = true := by with_unfolding_all rfl)
    (hline : (apos.endLine == pos.line) = true := by with_unfolding_all rfl) :
    wpAny (model pg w) A (eval (.Call (.Attribute o name apos) args [] pos) env) Q E s := wpAny_Call_method_lateS hbase hfew hline h
end
end Mine

end

set_option hygiene false in
local macro_rules | `(tactic| walk_at "y") => `(tactic| first
  | (((with_reducible show wpAny _ _ (execs _ _) _ _ _)); first | (with_reducible refine x_assign ?_) | (with_reducible refine x_ret ?_) | (with_reducible refine x_aug ?_) | (with_reducible refine x_sub ?_) | (with_reducible refine x_expr S.e.kind ?_) | (with_reducible refine x_assert ?_) | (with_reducible refine x_nil ?_))
  | walk_at "zn"
  | (((with_reducible show wpAny _ _ (eval _ _) _ _ _)); first | (with_reducible refine e_slice ?_) | (with_reducible refine e_int ?_; intro t) | (with_reducible refine e_str ?_; intro t) | (with_reducible refine e_bool ?_) | (with_reducible refine e_none ?_) | (with_reducible refine e_bin ?_) | (with_reducible refine e_subscr ?_) | (with_reducible refine e_call ?_) | (with_reducible refine e_list ?_) | (with_reducible refine e_cmp ?_) | (with_reducible refine e_meth ?_))
  | walk_at "zs"
  | walk_at "zl"
  | (((with_reducible show wpAny _ _ (spliced _) _ _ _)); first | (with_reducible refine a_more ?_) | (with_reducible refine a_none ?_))
  | (((with_reducible show wpAny _ _ (callWith _ _ _ _ _) _ _ _)); first | (with_reducible refine c_blt ?_) | (with_reducible refine c_type ?_))
  | (((with_reducible show wpAny _ _ (binaryOp _ _ _) _ _ _)); first | (with_reducible refine o_add ?_; intro t) | (with_reducible refine o_sub ?_; intro t))
  | (((with_reducible show wpAny _ _ (inplaceOp _ _ _) _ _ _)); first | (with_reducible refine o_iadd ?_; intro t))
  | (((with_reducible show wpAny _ _ (PySem.isTrue _ _ _) _ _ _)); first | (with_reducible refine t_cmp ?_) | (with_reducible refine t_not ?_) | (with_reducible refine t_and0 ?_) | (with_reducible refine t_or0 ?_) | (with_reducible refine t_and ?_) | (with_reducible refine t_or ?_) | (with_reducible refine t_name ?_) | (with_reducible refine t_call ?_))
  | (((with_reducible show wpAny _ _ (compareOp _ _ _) _ _ _)); first | (with_reducible refine k_gt ?_) | (with_reducible refine k_lt ?_) | (with_reducible refine k_ge ?_) | (with_reducible refine k_eqs ?_) | (with_reducible refine k_nes ?_) | (with_reducible refine k_in ?_) | (with_reducible refine k_notin ?_))
  | (((with_reducible show wpAny _ _ (truthy _) _ _ _)); first | (with_reducible refine b_bool ?_))
  | (((with_reducible show wpAny _ _ (evalPart _ _) _ _ _)); first | (with_reducible refine p_none ?_) | (with_reducible refine p_some ?_))
  | (((with_reducible show wpAny _ _ (call _ _ _) _ _ _)); first | (with_reducible refine c_ord ?_; intro u t) | (with_reducible refine c_int_bool ?_; intro u t)))
set_option hygiene false in
local macro_rules | `(tactic| walk_at "c") => `(tactic| (refine c_text S.tg (by kernel_rfl!) ?_))
set_option hygiene false in
local macro_rules | `(tactic| walk_at "len") => `(tactic| ((with_reducible refine c_len_str ?_ ?_); (first | (rw [mkS_len]; omega) | fail); intro u t; rw [mkS_len]))
set_option hygiene false in
local macro_rules | `(tactic| walk_at "Y") => `(tactic| first
  | (((with_reducible show wpAny _ _ (execs _ _) _ _ _)); first | (with_reducible refine x_assign ?_) | (with_reducible refine x_ret ?_) | (with_reducible refine x_aug ?_) | (with_reducible refine x_sub ?_) | (with_reducible refine x_expr S.e.kind ?_) | (with_reducible refine x_assert ?_) | (with_reducible refine x_nil ?_))
  | walk_at "zn"
  | (((with_reducible show wpAny _ _ (eval _ _) _ _ _)); first | (with_reducible refine e_meth0 ?_) | (with_reducible refine e_meth1 ?_) | (with_reducible refine e_slice ?_) | (with_reducible refine e_int ?_; intro t) | (with_reducible refine e_str ?_; intro t) | (with_reducible refine e_bool ?_) | (with_reducible refine e_none ?_) | (with_reducible refine e_bin ?_) | (with_reducible refine e_subscr ?_) | (with_reducible refine e_call ?_) | (with_reducible refine e_list ?_) | (with_reducible refine e_cmp ?_))
  | walk_at "zs"
  | walk_at "zl"
  | (((with_reducible show wpAny _ _ (spliced _) _ _ _)); first | (with_reducible refine a_more ?_) | (with_reducible refine a_none ?_))
  | (((with_reducible show wpAny _ _ (callWith _ _ _ _ _) _ _ _)); first | (with_reducible refine c_blt ?_) | (with_reducible refine c_type ?_))
  | (((with_reducible show wpAny _ _ (binaryOp _ _ _) _ _ _)); first | (with_reducible refine o_add ?_; intro t) | (with_reducible refine o_sub ?_; intro t))
  | (((with_reducible show wpAny _ _ (inplaceOp _ _ _) _ _ _)); first | (with_reducible refine o_iadd ?_; intro t))
  | (((with_reducible show wpAny _ _ (PySem.isTrue _ _ _) _ _ _)); first | (with_reducible refine t_cmp ?_) | (with_reducible refine t_not ?_) | (with_reducible refine t_and0 ?_) | (with_reducible refine t_or0 ?_) | (with_reducible refine t_and ?_) | (with_reducible refine t_or ?_) | (with_reducible refine t_name ?_) | (with_reducible refine t_call ?_))
  | (((with_reducible show wpAny _ _ (compareOp _ _ _) _ _ _)); first | (with_reducible refine k_gt ?_) | (with_reducible refine k_lt ?_) | (with_reducible refine k_ge ?_) | (with_reducible refine k_eqs ?_) | (with_reducible refine k_nes ?_) | (with_reducible refine k_in ?_) | (with_reducible refine k_notin ?_))
  | (((with_reducible show wpAny _ _ (truthy _) _ _ _)); first | (with_reducible refine b_bool ?_))
  | (((with_reducible show wpAny _ _ (evalPart _ _) _ _ _)); first | (with_reducible refine p_none ?_) | (with_reducible refine p_some ?_))
  | (((with_reducible show wpAny _ _ (call _ _ _) _ _ _)); first | (walk_at "len") | (with_reducible refine c_ord ?_; intro u t) | (with_reducible refine c_int_bool ?_; intro u t)))

section
open PySem PySem.W PyProof.Rows PySem.Calls
set_option maxRecDepth 100000
set_option maxHeartbeats 4000000
namespace Mine
section
variable {w : World} {A : Around} {E : Value → Shared → Prop} {s : Shared} {g h h' : Heap} {t : Nat}
/-- the octets of a sign -/
def osz (c : Nat) : Nat := 1 + (if 127 < c then 1 else 0) + (if 2047 < c then 1 else 0) + (if 65535 < c then 1 else 0)
theorem osz_eq (c : Nat) : (1 + (if decide (127 < (c : Int)) = true then 1 else 0) + (if decide (2047 < (c : Int)) = true then 1 else 0) + (if decide (65535 < (c : Int)) = true then 1 else 0) : Int) = ((osz c : Nat) : Int) := by
  unfold osz
  simp only [decide_eq_true_eq]
  split <;> split <;> split <;> split <;> split <;> split <;> omega
theorem size_spec {n₀ : Nat} (a : AOk A (n₀ + 1)) (T : TG w g) (hk : Old g h) {c : Nat} {u : Tok} {Q : Value → Shared → Prop}
    (hQ : ∀ h' t' u', Old g h' → Old h h' → Q (.int (osz c) u') (St s h' t')) :
    wpAny (model pg w) A (call (.ref 470) [.str ⟨#[c]⟩ u]) Q E (St s h t) := by
  refine' enter (binds := [("sign", .str ⟨#[c]⟩ u)]) (rest := ["n"]) (gl := [("ord", .builtin "ord"), ("int", .type "int")]) (σ := []) ?ho ?hcd a (T.keeps hk) (Old.refl h) ?hb ?hok rfl rfl ?hσ ?hnd ?_ ?c1 ?c2 ?c3 ?c4 ?c5
  case hσ => intro p hp; cases hp
  case hnd => simp
  walk_at "ent"
  iterate 46 walk_at "y"
  walk_at "y"
  rw [osz_eq]
  exact hQ _ _ _ (hk.trans S.old) S.old
end
end Mine

end

section
open PySem PySem.W PyProof.Rows PySem.Calls
set_option maxRecDepth 100000
set_option maxHeartbeats 4000000
namespace Mine
section
variable {w : World} {A : Around} {E : Value → Shared → Prop} {s : Shared} {g h h' : Heap} {t : Nat} {env : Env} {ns : List Str} {gl : List (Str × Value)} {vs : List (Option Value)} {σ : List (Addr × LObj)}
theorem c_draw {n₀ : Nat} (a : AOk A (n₀ + 1)) (S : SS w g env ns gl h vs σ) {i : Nat} {bag : Addr} {b : Int} {tb tn : Tok} {n : Int} (hi : σ[i]? = some (bag, .list [.int b tb])) (hn : 0 < n) (hn2 : n < 2 ^ 64)
    {Q : Value → Shared → Prop} (hq : ∀ h' t' t1 t2, SS w g env ns gl h' vs (σ.set i (bag, .list [.int (b.fdiv n) t1])) → Q (.int (b.fmod n) t2) (St s h' t')) :
    wpAny (model pg w) A (call (.ref 456) [.ref bag, .int n tn]) Q E (St s h t) :=
  draw_spec a (S.hideTG (List.mem_of_getElem? hi)) Old.hide (S.list hi) hide_none hn hn2 fun h' t' t1 t2 o l => hq h' t' t1 t2 (S.back hi o l)

/-- the signs that a line is made of -/
def alpha : List Nat := [97, 92, 94, 32, 9, 58, 233, 8364, 119070, 110, 13]
def GoodS (x : Str) : Prop := ∀ c ∈ x.cps.toList, c ∈ alpha
theorem foldl_mem {c : Nat} {x : Array Nat} : ∀ (n : Nat) (acc : Array Nat), c ∈ ((List.replicate n x).foldl (· ++ ·) acc) → c ∈ acc ∨ c ∈ x
  | 0, acc, h => .inl h
  | n + 1, acc, h => by
    rw [List.replicate_succ, List.foldl_cons] at h
    rcases foldl_mem n _ h with q | q
    · rcases Array.mem_append.mp q with q | q
      · exact .inl q
      · exact .inr q
    · exact .inr q
theorem good_mul {x : Str} {n : Int} (hx : GoodS x) : GoodS (Txt.mul x n) := by
  intro c hc
  unfold Txt.mul at hc
  split at hc
  · simp [Str.empty] at hc
  · split at hc
    · exact hx c hc
    · rcases foldl_mem n.toNat #[] (by simpa using hc) with q | q
      · simp at q
      · exact hx c (by simpa using q)
theorem good_app {x y : Str} (hx : GoodS x) (hy : GoodS y) : GoodS (x ++ y) := by
  intro c hc
  have e : (x ++ y).cps.toList = x.cps.toList ++ y.cps.toList := by show (Str.append x y).cps.toList = _; simp [Str.append]
  rw [e] at hc
  rcases List.mem_append.mp hc with q | q
  · exact hx c q
  · exact hy c q
theorem o_muls {x : Str} {n : Int} {t1 t2 : Tok} {Q : Value → Shared → Prop} (hx : x.length ≤ 2) (hn : 1 ≤ n) (hn2 : n ≤ 24) (hq : ∀ u t', Q (.str (Txt.mul x n) u) (St s h t')) :
    wpAny (model pg w) A (binaryOp .Mult (.str x t1) (.int n t2)) Q E (St s h t) := by
  refine SB.mul ⟨?_, fun _ _ => ?_, fun _ _ => ?_⟩ fun u k => hq u k
  · have h1 : ¬ n < -(2 ^ 63 : Int) := by omega
    have h2 : ¬ n ≥ 2 ^ 63 := by omega
    rw [decide_eq_false h1, decide_eq_false h2]; rfl
  · have : (2 : Int) ≤ (2 ^ 63 - 1) / n := by
      rw [Int.le_ediv_iff_mul_le (by omega)]; omega
    omega
  · have : x.length * n.toNat ≤ 2 * 24 := Nat.mul_le_mul hx (by omega)
    show decide _ = false
    refine decide_eq_false ?_
    have e : sizeLine ≥ 100 := by decide
    omega
theorem fmod_pos {b n : Int} (hn : 0 < n) : 0 ≤ b.fmod n ∧ b.fmod n < n := by
  rw [Int.fmod_eq_emod_of_nonneg _ (by omega)]
  exact ⟨Int.emod_nonneg _ (by omega), Int.emod_lt_of_pos _ hn⟩
theorem fdiv_nonneg {b n : Int} (hb : 0 ≤ b) (hn : 0 < n) : 0 ≤ b.fdiv n := by
  rw [Int.fdiv_eq_ediv_of_nonneg _ (by omega)]
  exact Int.ediv_nonneg hb (by omega)

theorem m_listP {E : Value → Shared → Prop} {xs : List Value} {Q : Value → Shared → Prop} (P : List Value → Prop) (hp : P xs) (S : SS w g env ns gl h vs σ) (hz : xs.length ≤ 2 ^ 20)
    (hq : ∀ xs, P xs → ∀ l h', SS w g env ns gl h' vs ((l, .list xs) :: σ) → h.get? l = none → Q (.ref l) (St s h' t)) : wpAny (model pg w) A (newList xs) Q E (St s h t) :=
  m_list S hz (hq xs hp)
def SignV (v : Value) : Prop := ∃ x u, v = .str x u ∧ GoodS x ∧ 1 ≤ x.length ∧ x.length ≤ 2
theorem SignV.of {x : Str} {u : Tok} (h : (x.cps.toList.all (alpha.contains ·) && Nat.ble 1 x.length && Nat.ble x.length 2) = true) : SignV (.str x u) := by
  simp only [Bool.and_eq_true, List.all_eq_true] at h
  exact ⟨x, u, rfl, fun c hc => by simpa using h.1.1 c hc, Nat.le_of_ble_eq_true h.1.2, Nat.le_of_ble_eq_true h.2⟩
def Signs (xs : List Value) : Prop := xs.length = 13 ∧ ∀ v ∈ xs, SignV v
theorem Signs.at {xs : List Value} (h : Signs xs) {m : Nat} (hm : m < 13) : ∃ x u, xs[m]? = some (.str x u) ∧ GoodS x ∧ 1 ≤ x.length ∧ x.length ≤ 2 := by
  have hl : m < xs.length := by rw [h.1]; exact hm
  obtain ⟨x, u, e, r⟩ := h.2 _ (List.getElem_mem hl)
  exact ⟨x, u, by rw [List.getElem?_eq_getElem hl, e], r⟩
theorem SignV.all {v : Value} {r : List Value} (h : SignV v) (hr : ∀ u ∈ r, SignV u) : ∀ u ∈ v :: r, SignV u := fun u hu => by
  rcases List.mem_cons.mp hu with rfl | hu
  · exact h
  · exact hr _ hu

theorem line_spec {n₀ : Nat} (a : AOk A (n₀ + 2)) (T : TG w g) (hk : Old g h) {bag : Addr} {b : Int} {tb : Tok} (hb : h.IsList bag [.int b tb].toArray) (hg : g.get? bag = none) (hb0 : 0 ≤ b)
    {Q : Value → Shared → Prop}
    (hQ : ∀ h' t' l u b' t1, Old g h' → h'.IsList bag [.int b' t1].toArray → 0 ≤ b' → 1 ≤ l.length → l.length ≤ 120 → (∀ c ∈ l, c ∈ alpha) → Q (.str (mkS l) u) (St s h' t')) :
    wpAny (model pg w) A (call (.ref 463) [.ref bag]) Q E (St s h t) := by
  refine' enter (binds := [("bag", .ref bag)]) (rest := ["signs", "told", "k", "sign"]) (gl := [("range", .type "range"), ("_law_draw", .ref 456)]) (σ := [(bag, .list [.int b tb])]) ?ho ?hcd a T hk ?hb ?hok rfl rfl ?hσ ?hnd ?_ ?c1 ?c2 ?c3 ?c4 ?c5
  case hσ => intro p hp; rw [List.mem_singleton.mp hp]; exact ⟨hb, hg⟩
  case hnd => simp
  walk_at "ent"
  repeat walk_at "y"
  refine m_listP Signs ⟨rfl, ?_⟩ S (by simp) ?_
  · iterate 13 refine SignV.all (SignV.of (by kernel_rfl!)) ?_
    intro v hv; cases hv
  clear S; intro xs hxs L h S hL
  repeat walk_at "y"
  refine x_for ?_
  repeat walk_at "y"
  walk_at "c"
  repeat walk_at "y"
  refine ⟨S.tg, ?_⟩
  refine c_draw (a'.less (m := n₀ + 1)) S (i := 1) rfl (by decide) (by decide) ?_
  clear S; intro h t t1 t2 S
  repeat walk_at "y"
  have f8 := fmod_pos (b := b) (n := 8) (by decide)
  obtain ⟨n, hn⟩ := Int.eq_ofNat_of_zero_le (show 0 ≤ 3 + b.fmod 8 by omega)
  rw [hn]
  refine c_range1 S ?_
  clear S; intro r h t' t1 t2 S hr hpr hgr hrL
  have hb1 : 0 ≤ b.fdiv 8 := fdiv_nonneg hb0 (by decide)
  refine for_range a'.h S hr (by omega) (i := 3) rfl (fun k vs σ => ∃ T lt u1 u2 b tb, vs = [some (.ref bag), some (.ref L), some (.str T lt), u1, u2] ∧ σ = [(L, .list _), (bag, .list [.int b tb])] ∧ 0 ≤ b ∧ GoodS T ∧ k ≤ T.length ∧ T.length ≤ k * 48) ⟨_, _, _, _, _, _, rfl, rfl, hb1, by unfold GoodS; decide +kernel, by decide +kernel, by decide +kernel⟩ ?_ ?_
  · rintro k u vs σ g' h t hk ⟨T, lt, u1, u2, b, tb, rfl, rfl, hb0, hT1, hT2, hT3⟩ o' S
    simp only [List.set_cons_succ, List.set_cons_zero] at S
    repeat walk_at "y"
    walk_at "c"
    repeat walk_at "y"
    refine ⟨S.tg, ?_⟩
    refine c_draw (a'.less (m := n₀ + 1)) S (i := 1) rfl (by decide) (by decide) ?_
    clear S; intro h t t1 t2 S
    have f13 := fmod_pos (b := b) (n := 13) (by decide)
    have hb1 : 0 ≤ b.fdiv 13 := fdiv_nonneg hb0 (by decide)
    obtain ⟨m, hm⟩ := Int.eq_ofNat_of_zero_le f13.1
    obtain ⟨x, xu, e, hx1, hx2, hx3⟩ := hxs.at (m := (b.fmod 13).toNat) (by omega)
    refine sub_list (S.list (i := 0) rfl) (by omega) (by omega) e ?_
    repeat walk_at "y"
    walk_at "c"
    repeat walk_at "y"
    refine ⟨S.tg, ?_⟩
    refine c_draw (a'.less (m := n₀ + 1)) S (i := 1) rfl (by decide) (by decide) ?_
    clear S; intro h t t1 t2 S
    have f24 := fmod_pos (b := b.fdiv 13) (n := 24) (by decide)
    have hb2 : 0 ≤ (b.fdiv 13).fdiv 24 := fdiv_nonneg hb1 (by decide)
    repeat walk_at "y"
    refine o_muls hx3 (by omega) (by omega) ?_
    intro u t
    have hmul := PyProof.Rows.len_mul x (1 + (b.fdiv 13).fmod 24)
    have hgood := good_mul (n := 1 + (b.fdiv 13).fmod 24) hx1
    generalize Txt.mul x (1 + (b.fdiv 13).fmod 24) = y at hmul hgood ⊢
    have hy : 1 ≤ y.length ∧ y.length ≤ 48 := by
      rw [if_neg (by rw [decide_eq_true_eq]; omega)] at hmul
      rcases (show x.length = 1 ∨ x.length = 2 by omega) with q | q <;> rw [q] at hmul <;> omega
    refine o_adds (by omega) ?_
    intro u t
    repeat walk_at "y"
    have hl := Str.length_append T y
    exact ⟨_, _, _, _, rfl, S, _, _, _, _, _, _, rfl, rfl, hb2, good_app hT1 hgood, by omega, by omega⟩
  · rintro vs σ h t ⟨T, lt, u1, u2, b, tb, rfl, rfl, hb0, hT1, hT2, hT3⟩ S
    show wpAny _ _ (execs _ _) _ _ _
    repeat walk_at "y"
    obtain ⟨l, rfl⟩ : ∃ l, T = mkS l := ⟨_, (mkS_cps T).symm⟩
    rw [mkS_len] at hT2 hT3
    refine sl_to S (by omega) (by decide) ?_
    clear S; intro h u t S _
    have hl : (l.take 120).length = min 120 l.length := List.length_take
    refine hQ _ _ _ _ _ _ S.old (S.list (i := 1) rfl) hb0 ?_ ?_ ?_
    · show 1 ≤ (l.take 120).length
      omega
    · show (l.take 120).length ≤ 120
      omega
    · intro c hc
      exact hT1 c (by simpa using List.mem_of_mem_take hc)
end
end Mine

end

section
open PySem PySem.W PyProof.Rows PySem.Calls
set_option maxRecDepth 100000
set_option maxHeartbeats 4000000
namespace Mine
open Builtin.Str
def joinL (sep : List Nat) : List (List Nat) → List Nat
  | [] => []
  | [x] => x
  | x :: y :: r => x ++ sep ++ joinL sep (y :: r)
theorem join_mk (sep : List Nat) : ∀ ls : List (List Nat), Str.join (mkS sep) (ls.map mkS) = mkS (joinL sep ls)
  | [] => rfl
  | [x] => rfl
  | x :: y :: r => by
    have ih := join_mk sep (y :: r)
    show mkS x ++ mkS sep ++ Str.join (mkS sep) ((y :: r).map mkS) = _
    rw [ih, mkS_app, mkS_app]
    rfl
theorem txt_join (sep : List Nat) (ls : List (List Nat)) : Txt.join (mkS sep) (ls.map mkS) = mkS (joinL sep ls) := by
  rw [← join_mk]; exact StrLaws.glued_eq_join _ _
theorem joinOk {sep : List Nat} {ls : List (List Nat)} (h1 : sep.length ≤ 1000) (h2 : ls.length ≤ 1000) (h3 : ∀ l ∈ ls, l.length ≤ 1000) : JoinOk (mkS sep) (ls.map mkS) = true := by
  unfold JoinOk
  rw [StrLaws.joinFits (B := 1000)]
  · rfl
  · intro y hy
    obtain ⟨l, hl, rfl⟩ := List.mem_map.mp hy
    rw [mkS_len]; exact h3 l hl
  · rw [mkS_len, List.length_map]
    have := Nat.mul_le_mul h2 h1
    omega
/-- values that are strs -/
def Strs (vs : List Value) (ls : List (List Nat)) : Prop := ∃ p : List (Str × Tok), vs = strValues p ∧ p.map (·.1) = ls.map mkS
theorem Strs.nil : Strs [] [] := ⟨[], rfl, rfl⟩
theorem Strs.snoc {vs : List Value} {ls : List (List Nat)} (h : Strs vs ls) (l : List Nat) (u : Tok) : Strs (vs ++ [.str (mkS l) u]) (ls ++ [l]) := by
  obtain ⟨p, rfl, e⟩ := h
  exact ⟨p ++ [(mkS l, u)], by simp [strValues], by simp [e]⟩
theorem Strs.one (l : List Nat) (u : Tok) : Strs [.str (mkS l) u] [l] := Strs.nil.snoc l u
theorem Strs.length {vs : List Value} {ls : List (List Nat)} (h : Strs vs ls) : vs.length = ls.length := by
  obtain ⟨p, rfl, e⟩ := h
  have := congrArg List.length e
  simpa [strValues] using this
theorem Strs.at {vs : List Value} {ls : List (List Nat)} (h : Strs vs ls) {k : Nat} {l : List Nat} (hl : ls[k]? = some l) : ∃ u, vs[k]? = some (.str (mkS l) u) := by
  obtain ⟨p, rfl, e⟩ := h
  have := congrArg (·[k]?) e
  simp only [List.getElem?_map, hl, Option.map_some] at this
  cases hp : p[k]? with
  | none => rw [hp] at this; cases this
  | some q =>
    rw [hp] at this
    have e2 : q.1 = mkS l := by simpa using this
    exact ⟨q.2, by simp [strValues, hp, e2]⟩
theorem Strs.at' {vs : List Value} {ls : List (List Nat)} (h : Strs vs ls) {k : Nat} {v : Value} (hl : vs[k]? = some v) : ∃ l u, ls[k]? = some l ∧ v = .str (mkS l) u := by
  have hk : k < vs.length := by
    rcases Nat.lt_or_ge k vs.length with q | q
    · exact q
    · rw [List.getElem?_eq_none q] at hl; cases hl
  have hk2 : k < ls.length := by rw [← h.length]; exact hk
  obtain ⟨u, e⟩ := h.at (List.getElem?_eq_getElem hk2)
  rw [hl] at e
  exact ⟨_, u, List.getElem?_eq_getElem hk2, Option.some.inj e⟩

section
variable {w : World} {A : Around} {E : Value → Shared → Prop} {s : Shared} {g h h' : Heap} {t : Nat} {env : Env} {ns : List Str} {gl : List (Str × Value)} {vs : List (Option Value)} {σ : List (Addr × LObj)}

theorem e_meth1 {o e : Expr} {name : Str} {apos pos : Pos} {Q : Value → Shared → Prop}
    (h : wpAny (model pg w) A (eval o env) (fun ov s₁ => MethodOnS pg w A E name ov pos [(false, eval e env)] Q s₁) E s)
    (hs : backTo pos (starEach [e] env) = [(false, eval e env)] := by with_unfolding_all rfl)
    (hbase : attributeBase o name env (eval o env) = eval o env := by with_unfolding_all rfl)
    (hline : (apos.endLine == pos.line) = true := by with_unfolding_all rfl) :
    wpAny (model pg w) A (eval (.Call (.Attribute o name apos) [e] [] pos) env) Q E s := by
  refine wpAny_Call_method_lateS hbase (by rw [hs]; rfl) hline ?_
  rw [hs]; exact h
theorem e_meth0 {o : Expr} {name : Str} {apos pos : Pos} {Q : Value → Shared → Prop}
    (h : wpAny (model pg w) A (eval o env) (fun ov s₁ => MethodOnS pg w A E name ov pos [] Q s₁) E s)
    (hbase : attributeBase o name env (eval o env) = eval o env := by with_unfolding_all rfl)
    (hline : (apos.endLine == pos.line) = true := by with_unfolding_all rfl) :
    wpAny (model pg w) A (eval (.Call (.Attribute o name apos) [] [] pos) env) Q E s := by
  refine wpAny_Call_method_lateS hbase rfl hline ?_
  exact h

theorem SS.lst {a : Addr} {ys : List Value} {i : Nat} (S : SS w g env ns gl h vs σ) (hi : σ[i]? = some (a, .lst ys)) : ∃ n, IsL h a ys.toArray n := S.D.is _ (List.mem_of_getElem? hi)
theorem SS.setAny {h' : Heap} {a : Addr} {x y : LObj} {i : Nat} (S : SS w g env ns gl h vs σ) (hi : σ[i]? = some (a, x)) (hs : Heap.SameBut a h h') (hy : Is h' a y) : SS w g env ns gl h' vs (σ.set i (a, y)) := by
  have hm := List.mem_of_getElem? hi
  refine ⟨S.e, S.T, ?_, S.D.set hi hs hy, S.len⟩
  refine ⟨S.F.ns.sameBut hs (Ne.symm (S.D.ne _ hm)), ⟨fun b o e => (hs.2 b fun q => ?_).trans (S.F.old.k b o e)⟩, S.F.lo⟩
  have := S.D.fr _ hm
  rw [show ((a, x) : Addr × LObj).1 = b from q.symm, e] at this
  cases this
theorem m_lst {xs : List Value} {Q : Value → Shared → Prop} (S : SS w g env ns gl h vs σ) (hz : xs.length ≤ 2 ^ 20)
    (hq : ∀ l h', SS w g env ns gl h' vs ((l, .lst xs) :: σ) → h.get? l = none → Q (.ref l) (St s h' t)) : wpAny (model pg w) A (newList xs) Q E (St s h t) := by
  refine wpAny_newList (hq _ _ (S.new ⟨fun b o e => Heap.get?_push_of_some _ e⟩ ?_ ⟨0, Heap.get?_push_size _ rfl⟩) ?_) (by show xs.length ≤ sizeLine; exact Nat.le_trans hz (by decide))
  · exact (Old.refl h).nope (Nat.le_refl _)
  · exact (Old.refl h).nope (Nat.le_refl _)
def AppTo (L : Addr) (v : Value) (Q : Value → Shared → Prop) (s₁ : Shared) : Prop := ∃ (xs : List Value) (n : Nat), xs.length ≤ 2 ^ 20 ∧ IsL s₁.heap L xs.toArray n ∧
  ∀ h', Heap.SameBut L s₁.heap h' → (∃ n, IsL h' L (xs ++ [v]).toArray n) → Q .none (St s₁ h' s₁.toks)
theorem m_append {L : Addr} {xs : List Value} {pos : Pos} {e : Expr} {i : Nat} {Q : Value → Shared → Prop} (S : SS w g env ns gl h vs σ) (hi : σ[i]? = some (L, .lst xs))
    (hq : wpAny (model pg w) A (eval e env) (fun v s₁ => AppTo L v Q s₁) E (St s h t)) : MethodOnS pg w A E "append" (.ref L) pos [(false, eval e env)] Q (St s h t) := by
  obtain ⟨n, hn⟩ := S.lst hi
  refine ⟨"list", _, F.plainAttrs_list, F.slot_list_append, F.type_list_append, ⟨_, hn, rfl⟩, ?_, P.append_list (wpAny_mono hq (fun v s₁ q => ?_) fun _ _ x => x)⟩
  · intro a ea; cases ea; exact ⟨_, hn, rfl⟩
  · obtain ⟨xs, n, hz, hl, hq⟩ := q
    have := hl.update fun xs => xs.push v
    simp only [List.push_toArray] at this
    exact ⟨_, n, by rw [List.size_toArray]; exact Nat.le_trans hz (by decide), hl, hq _ (Heap.SameBut.update ..) ⟨_, this⟩⟩
theorem app_to {L : Addr} {xs : List Value} {v : Value} {i : Nat} {Q : Value → Shared → Prop} (S : SS w g env ns gl h vs σ) (hi : σ[i]? = some (L, .lst xs)) (hz : xs.length ≤ 2 ^ 20)
    (hq : ∀ h', SS w g env ns gl h' vs (σ.set i (L, .lst (xs ++ [v]))) → Q .none (St s h' t)) : AppTo L v Q (St s h t) := by
  obtain ⟨n, hn⟩ := S.lst hi
  exact ⟨xs, n, hz, hn, fun h' hs hl => hq h' (S.setAny hi hs hl)⟩
theorem m_pop {L : Addr} {xs : List Value} {v : Value} {pos : Pos} {i : Nat} {Q : Value → Shared → Prop} (S : SS w g env ns gl h vs σ) (hi : σ[i]? = some (L, .lst (xs ++ [v]))) (hz : xs.length ≤ 2 ^ 20)
    (hq : ∀ h', SS w g env ns gl h' vs (σ.set i (L, .lst xs)) → Q v (St s h' t)) : MethodOnS pg w A E "pop" (.ref L) pos [] Q (St s h t) := by
  obtain ⟨n, hn⟩ := S.lst hi
  have e : (xs ++ [v]).toArray.eraseIdxIfInBounds ((xs ++ [v]).toArray.size - 1) = xs.toArray := by
    rw [Array.eraseIdxIfInBounds_eq]
    simp [List.eraseIdx_append_of_length_le]
  have hu := hn.update fun xs' => xs'.eraseIdxIfInBounds ((xs ++ [v]).toArray.size - 1)
  simp only [e] at hu
  refine ⟨"list", _, F.plainAttrs_list, F.slot_list_pop, F.type_list_pop, ⟨_, hn, rfl⟩, ?_, P.pop_list hn (y := v) ?_ (hq _ (S.setAny hi (Heap.SameBut.update ..) ⟨_, hu⟩)) ?_⟩
  · intro a ea; cases ea; exact ⟨_, hn, rfl⟩
  · simp
  · simp only [List.size_toArray, List.length_append, List.length_cons, List.length_nil]
    have : (2 : Nat) ^ 20 + 1 ≤ sizeLine := by decide
    omega
def JoinOf (sep : List Nat) (v : Value) (Q : Value → Shared → Prop) (s₁ : Shared) : Prop := ∃ D vs ls, v = .ref D ∧ s₁.heap.IsList D vs.toArray ∧ Strs vs ls ∧ ls.length ≤ 1000 ∧ (∀ l ∈ ls, l.length ≤ 1000) ∧
  ∀ u t', Q (.str (mkS (joinL sep ls)) u) (St s₁ s₁.heap t')
theorem m_join {sep : List Nat} {u : Tok} {pos : Pos} {e : Expr} {Q : Value → Shared → Prop} (hz : sep.length ≤ 1000)
    (hq : wpAny (model pg w) A (eval e env) (fun v s₁ => JoinOf sep v Q s₁) E s) : MethodOnS pg w A E "join" (.str (mkS sep) u) pos [(false, eval e env)] Q s := by
  refine SB.join (wpAny_mono hq (fun v s₁ q => ?_) fun _ _ x => x)
  obtain ⟨D, vs, ls, rfl, hl, ⟨p, rfl, hp⟩, h1, h2, hq⟩ := q
  refine ⟨D, p, rfl, hl, _, hp, joinOk hz h1 h2, fun u t' => ?_⟩
  rw [txt_join]
  exact hq u t'
theorem join_of {sep : List Nat} {D : Addr} {xs : List Value} {ls : List (List Nat)} {i : Nat} {Q : Value → Shared → Prop} (S : SS w g env ns gl h vs σ) (hi : σ[i]? = some (D, .lst xs)) (hs : Strs xs ls) (h1 : ls.length ≤ 1000) (h2 : ∀ l ∈ ls, l.length ≤ 1000)
    (hq : ∀ u t', Q (.str (mkS (joinL sep ls)) u) (St s h t')) : JoinOf sep (.ref D) Q (St s h t) := by
  obtain ⟨n, hn⟩ := S.lst hi
  exact ⟨D, xs, ls, rfl, hn.isList, hs, h1, h2, hq⟩
end
end Mine

end

section
namespace Mine
def esc (c : Nat) : Bool := c == 92 || c == 94
/-- how many more signs fit -/
def grow (limit : Nat) : Nat → List Nat → Nat
  | _, [] => 0
  | size, c :: r => if size + osz c < limit then grow limit (size + osz c) r + 1 else 0
def cut1 (limit : Nat) : List Nat → Nat
  | [] => 0
  | c :: r => let k := 1 + grow limit (osz c) r
    if k < r.length + 1 ∧ 1 < k ∧ esc ((c :: r).getD (k - 1) 0) = true then k - 1 else k
inductive Pieces (limit : Nat) : List Nat → List (List Nat) → Prop
  | nil : Pieces limit [] []
  | cons {l ls} : l ≠ [] → Pieces limit (l.drop (cut1 limit l)) ls → Pieces limit l (l.take (cut1 limit l) :: ls)
theorem grow_nil (limit size : Nat) : grow limit size [] = 0 := rfl
theorem grow_fit {limit size c : Nat} {r : List Nat} (h : size + osz c < limit) : grow limit size (c :: r) = grow limit (size + osz c) r + 1 := by
  show (if _ then _ else _) = _; rw [if_pos h]
theorem grow_no {limit size c : Nat} {r : List Nat} (h : ¬ size + osz c < limit) : grow limit size (c :: r) = 0 := by
  show (if _ then _ else _) = _; rw [if_neg h]
theorem cut1_cons (limit c : Nat) (r : List Nat) : cut1 limit (c :: r) = if 1 + grow limit (osz c) r < r.length + 1 ∧ 1 < 1 + grow limit (osz c) r ∧ esc ((c :: r).getD (1 + grow limit (osz c) r - 1) 0) = true then 1 + grow limit (osz c) r - 1 else 1 + grow limit (osz c) r := rfl
theorem grow_le (limit : Nat) : ∀ (r : List Nat) (size : Nat), grow limit size r ≤ r.length
  | [], _ => Nat.le_refl _
  | c :: r, size => by
    unfold grow
    split
    · have := grow_le limit r (size + osz c); rw [List.length_cons]; omega
    · exact Nat.zero_le _
theorem cut1_pos {limit : Nat} {l : List Nat} (h : l ≠ []) : 1 ≤ cut1 limit l := by
  cases l with
  | nil => exact absurd rfl h
  | cons c r => unfold cut1; simp only; split <;> omega
theorem cut1_le {limit : Nat} {l : List Nat} : cut1 limit l ≤ l.length := by
  cases l with
  | nil => exact Nat.le_refl _
  | cons c r => have := grow_le limit r (osz c); unfold cut1; simp only [List.length_cons]; split <;> omega
theorem Pieces.det {limit : Nat} {l : List Nat} {a b : List (List Nat)} (x : Pieces limit l a) (y : Pieces limit l b) : a = b := by
  induction x generalizing b with
  | nil => cases y with
    | nil => rfl
    | cons h _ => exact absurd rfl h
  | cons h _ ih => cases y with
    | nil => exact absurd rfl h
    | cons h2 z => rw [ih z]
end Mine

end

section
open PySem PySem.W PyProof.Rows PySem.Calls
set_option maxRecDepth 100000
set_option maxHeartbeats 4000000
namespace Mine
section
variable {w : World} {A : Around} {E : Value → Shared → Prop} {s : Shared} {g h h' : Heap} {t : Nat} {env : Env} {ns : List Str} {gl : List (Str × Value)} {vs : List (Option Value)} {σ : List (Addr × LObj)}
theorem c_size {n₀ : Nat} (a : AOk A (n₀ + 1)) (S : SS w g env ns gl h vs σ) {c : Nat} {u : Tok} {Q : Value → Shared → Prop}
    (hq : ∀ h' t' u', SS w g env ns gl h' vs σ → Q (.int (osz c) u') (St s h' t')) : wpAny (model pg w) A (call (.ref 470) [.str ⟨#[c]⟩ u]) Q E (St s h t) :=
  size_spec a S.tg (Old.refl _) fun h' t' u' o _ => hq h' t' u' (S.after o)

theorem x_whileJ {E : Value → Shared → Prop} {test : Expr} {body rest : List Stmt} {pos : Pos} {Q : Flow → Shared → Prop} (I : Nat → Shared → Prop) (J : Shared → Prop) (n : Nat) (h0 : I n s)
    (turn : ∀ n s, I n s → wpAny (model pg w) A (isTrue test env (eval test env)) (fun b s₂ =>
      (b = true → wpAny (model pg w) A (execs body env) (fun f s₃ => match f with
        | .next | .cont => ∃ m, m < n ∧ I m s₃
        | .brk => J s₃
        | .ret v => Q (.ret v) s₃) (fun _ _ => False) s₂) ∧
      (b = false → J s₂)) (fun _ _ => False) s)
    (done : ∀ s, J s → wpAny (model pg w) A (execs rest env) Q E s) :
    wpAny (model pg w) A (execs (.While test body [] pos :: rest) env) Q E s :=
  x_while I n h0 fun n s hI => wpAny_mono (turn n s hI) (fun b s₂ q => ⟨fun hb => wpAny_mono (q.1 hb) (fun f s₃ q => by cases f <;> first | exact q | exact done _ q) fun _ _ x => x, fun hb => done _ (q.2 hb)⟩) fun _ _ x => x
theorem x_ifJ {E : Value → Shared → Prop} {test : Expr} {body orelse rest : List Stmt} {pos : Pos} {Q : Flow → Shared → Prop} (J : Shared → Prop)
    (hq : wpAny (model pg w) A (isTrue test env (eval test env)) (fun b s₂ =>
      (b = true → wpAny (model pg w) A (execs body env) (fun f s' => match f with | .next => J s' | f => Q f s') E s₂) ∧
      (b = false → wpAny (model pg w) A (execs orelse env) (fun f s' => match f with | .next => J s' | f => Q f s') E s₂)) E s)
    (done : ∀ s, J s → wpAny (model pg w) A (execs rest env) Q E s) : wpAny (model pg w) A (execs (.If test body orelse pos :: rest) env) Q E s :=
  x_if (wpAny_mono hq (fun b s₂ q => ⟨fun hb => wpAny_mono (q.1 hb) (fun f s₃ q => by cases f <;> first | exact done _ q | exact q) fun _ _ x => x, fun hb => wpAny_mono (q.2 hb) (fun f s₃ q => by cases f <;> first | exact done _ q | exact q) fun _ _ x => x⟩) fun _ _ x => x)
theorem esc_in (c : Nat) : (!(Builtin.Str.occurrences (Str.ofString "\\^") ⟨#[c]⟩ 0 (Str.ofString "\\^").length 1).isEmpty) = esc c := by
  rw [in_one]
  have e : (Str.ofString "\\^").cps.toList = [92, 94] := by decide +kernel
  rw [e]
  unfold esc
  simp [Bool.decide_or]
  rfl
@[reducible] def nsP : List Str := ["told", "limit", "pieces", "start", "end", "size"]
@[reducible] def glP : List (Str × Value) := [("len", .builtin "len"), ("_law_size", .ref 470)]
theorem pieces_spec {n₀ : Nat} (a : AOk A (n₀ + 2)) (T : TG w g) (hk : Old g h) {l : List Nat} {ul ut : Tok} {limit : Nat} (hlen : l.length ≤ 900)
    {Q : Value → Shared → Prop}
    (hQ : ∀ h' t' L vals P, Old g h' → g.get? L = none → (∃ n, IsL h' L vals.toArray n) → Strs vals P → Pieces limit l P → P.length ≤ l.length → (∀ p ∈ P, p.length ≤ l.length) → Q (.ref L) (St s h' t')) :
    wpAny (model pg w) A (call (.ref 477) [.str (mkS l) ul, .int limit ut]) Q E (St s h t) := by
  refine' enter (binds := [("told", .str (mkS l) ul), ("limit", .int limit ut)]) (rest := ["pieces", "start", "end", "size"]) (gl := [("len", .builtin "len"), ("_law_size", .ref 470)]) (σ := []) ?ho ?hcd a T hk ?hb ?hok rfl rfl ?hσ ?hnd ?_ ?c1 ?c2 ?c3 ?c4 ?c5
  case hσ => intro p hp; cases hp
  case hnd => simp
  walk_at "ent"
  repeat walk_at "Y"
  refine m_lst S (by decide) ?_
  clear S; intro L h S hL
  repeat walk_at "Y"
  refine x_while (fun n s' => ∃ h t, ∃ start : Nat, ∃ ts P vals v1 v2, s' = St s h t ∧ SS w g env nsP glP h [some (.str (mkS l) ul), some (.int limit ut), some (.ref L), some (.int (start : Nat) ts), v1, v2] [(L, .lst vals)] ∧ Strs vals P ∧ start ≤ l.length ∧ n = l.length - start ∧ (∀ p ∈ P, p.length ≤ l.length) ∧ P.length ≤ start ∧
    ∀ rest, Pieces limit (l.drop start) rest → Pieces limit l (P ++ rest)) _ ⟨_, _, 0, _, [], [], _, _, rfl, S, Strs.nil, Nat.zero_le _, rfl, by simp, Nat.le_refl _, fun rest h => h⟩ ?_
  clear S
  rintro n s' ⟨h, t, start, ts, P, vals, v1, v2, rfl, S, hP, hst, rfl, hP1, hP2, hrest⟩
  repeat walk_at "Y"
  refine ⟨fun hlt => ?_, fun hge => ?_⟩
  · rw [decide_eq_true_eq] at hlt
    have hlt' : start < l.length := by omega
    obtain ⟨c, r, hcr⟩ : ∃ c r, l.drop start = c :: r := by
      cases e : l.drop start with
      | nil => have := congrArg List.length e; rw [List.length_drop] at this; simp at this; omega
      | cons c r => exact ⟨c, r, rfl⟩
    have hc : l[start]? = some c := by have := congrArg (·[0]?) hcr; simpa using this
    have hr : l.drop (start + 1) = r := by have := congrArg (List.drop 1) hcr; simpa [List.drop_drop] using this
    have hrl : r.length + 1 + start = l.length := by have := congrArg List.length hcr; rw [List.length_drop] at this; simp at this; omega
    repeat walk_at "Y"
    walk_at "c"
    repeat walk_at "Y"
    refine sub_str (c := c) (by omega) (by omega) (by simpa using hc) ?_
    intro u t
    walk_at "Y"
    refine ⟨S.tg, ?_⟩
    refine c_size (a'.less (m := n₀ + 1)) S ?_
    clear S; intro h t u S
    repeat walk_at "Y"
    refine x_whileJ (fun n s' => ∃ h t, ∃ e z : Int, ∃ te tz, ∃ k size : Nat, s' = St s h t ∧ SS w g env nsP glP h [some (.str (mkS l) ul), some (.int limit ut), some (.ref L), some (.int (start : Nat) ts), some (.int e te), some (.int z tz)] [(L, .lst vals)] ∧
      e = start + k ∧ z = size ∧ 1 ≤ k ∧ start + k ≤ l.length ∧ n = l.length - (start + k) ∧ k + grow limit size (l.drop (start + k)) = 1 + grow limit (osz c) r)
      (fun s' => ∃ h t, ∃ e z : Int, ∃ te tz, ∃ k : Nat, s' = St s h t ∧ SS w g env nsP glP h [some (.str (mkS l) ul), some (.int limit ut), some (.ref L), some (.int (start : Nat) ts), some (.int e te), some (.int z tz)] [(L, .lst vals)] ∧
      e = start + k ∧ 1 ≤ k ∧ start + k ≤ l.length ∧ k = 1 + grow limit (osz c) r) _ ⟨_, _, _, _, _, _, 1, osz c, rfl, S, rfl, rfl, Nat.le_refl _, hlt', rfl, by rw [hr]⟩ ?_ ?_
    rotate_left
    · clear S
      rintro s' ⟨h, t, e, z, te, tz, k, rfl, S, he, hk1, hk2, hk3⟩
      have hgl := grow_le limit r (osz c)
      refine x_ifJ (fun s' => ∃ h t, ∃ e : Int, ∃ te, ∃ v, s' = St s h t ∧ SS w g env nsP glP h [some (.str (mkS l) ul), some (.int limit ut), some (.ref L), some (.int (start : Nat) ts), some (.int e te), v] [(L, .lst vals)] ∧
        e = start + cut1 limit (c :: r)) ?_ ?_
      · have no : ¬ (1 + grow limit (osz c) r < r.length + 1 ∧ 1 < 1 + grow limit (osz c) r ∧ esc ((c :: r).getD (1 + grow limit (osz c) r - 1) 0) = true) → e = start + cut1 limit (c :: r) := fun h => by rw [cut1_cons, if_neg h]; omega
        repeat walk_at "Y"
        refine ⟨fun h1 => ?_, fun h1 => ⟨fun q => (by cases q), fun _ => x_nil ⟨_, _, _, _, _, rfl, S, no ?_⟩⟩⟩
        · rw [decide_eq_true_eq] at h1
          repeat walk_at "Y"
          refine ⟨fun h2 => ?_, fun h2 => ⟨fun q => (by cases q), fun _ => x_nil ⟨_, _, _, _, _, rfl, S, no ?_⟩⟩⟩
          · rw [decide_eq_true_eq] at h2
            repeat walk_at "Y"
            obtain ⟨d, hd⟩ : ∃ d, (c :: r)[k - 1]? = some d := ⟨_, List.getElem?_eq_getElem (by rw [List.length_cons]; omega)⟩
            have hd' : l[start + (k - 1)]? = some d := by rw [← List.getElem?_drop, hcr]; exact hd
            have hdg : (c :: r).getD (k - 1) 0 = d := by rw [List.getD_eq_getElem?_getD, hd]; rfl
            refine sub_str (c := d) (by omega) (by omega) (by rw [show (e - 1).toNat = start + (k - 1) by omega]; exact hd') ?_
            intro u t
            repeat walk_at "Y"
            rw [esc_in]
            refine ⟨fun h3 => ?_, fun h3 => ⟨fun q => (by cases q), fun _ => x_nil ⟨_, _, _, _, _, rfl, S, no ?_⟩⟩⟩
            · repeat walk_at "Y"
              refine ⟨fun _ => ?_, fun q => (by cases q)⟩
              repeat walk_at "Y"
              refine ⟨_, _, _, _, _, rfl, S, ?_⟩
              rw [cut1_cons, if_pos ⟨by omega, by omega, by rw [← hk3, hdg]; exact h3⟩]
              omega
            · rw [← hk3, hdg, h3]; simp
          · rw [decide_eq_false_iff_not] at h2; omega
        · rw [decide_eq_false_iff_not] at h1; omega
      · clear S
        rintro s' ⟨h, t, e, te, v, rfl, S, he⟩
        have hcp := cut1_pos (limit := limit) (l := c :: r) (by simp)
        have hcl := cut1_le (limit := limit) (l := c :: r)
        rw [List.length_cons] at hcl
        repeat walk_at "Y"
        refine m_append S (i := 0) rfl ?_
        repeat walk_at "Y"
        refine sl_mid S (by omega) ⟨by omega, by omega, by omega⟩ ?_
        clear S; intro h u t S _
        have hPl : vals.length ≤ 2 ^ 20 := by rw [hP.length]; omega
        refine app_to S (i := 0) rfl hPl ?_
        clear S; intro h S
        repeat walk_at "Y"
        have e1 : (l.drop (start : Int).toNat).take (e - start).toNat = (c :: r).take (cut1 limit (c :: r)) := by
          rw [Int.toNat_natCast, hcr, show (e - start).toNat = cut1 limit (c :: r) by omega]
        rw [e1] at S
        subst he
        refine ⟨_, ?_, _, _, start + cut1 limit (c :: r), _, _, _, _, _, rfl, S, hP.snoc _ _, by omega, rfl, ?_, ?_, ?_⟩
        · omega
        · intro p hp
          rcases List.mem_append.mp hp with hp | hp
          · exact hP1 p hp
          · rw [List.mem_singleton.mp hp, List.length_take]; omega
        · rw [List.length_append, List.length_singleton]; omega
        · intro rest hr'
          rw [List.append_assoc]
          refine hrest _ ?_
          rw [hcr]
          refine .cons (by simp) ?_
          have : (c :: r).drop (cut1 limit (c :: r)) = l.drop (start + cut1 limit (c :: r)) := by
            conv => lhs; rw [← hcr]
            rw [List.drop_drop, hcr]
          rw [this]
          exact hr'
    clear S
    rintro n s' ⟨h, t, e, z, te, tz, k, size, rfl, S, he, hz, hk1, hk2, rfl, hg⟩
    repeat walk_at "Y"
    refine ⟨fun h1 => ?_, fun h1 => ?_⟩
    · rw [decide_eq_true_eq] at h1
      obtain ⟨d, q, hdq⟩ : ∃ d q, l.drop (start + k) = d :: q := by
        cases e' : l.drop (start + k) with
        | nil => have := congrArg List.length e'; rw [List.length_drop] at this; simp at this; omega
        | cons c r => exact ⟨c, r, rfl⟩
      have hd : l[start + k]? = some d := by have := congrArg (·[0]?) hdq; simpa using this
      have hq' : l.drop (start + (k + 1)) = q := by have := congrArg (List.drop 1) hdq; simpa [List.drop_drop, Nat.add_assoc] using this
      have het : e.toNat = start + k := by omega
      repeat walk_at "Y"
      walk_at "c"
      repeat walk_at "Y"
      refine sub_str (c := d) (by omega) (by omega) (by rw [het]; exact hd) ?_
      intro u t
      walk_at "Y"
      refine ⟨S.tg, ?_⟩
      refine c_size (a'.less (m := n₀ + 1)) S ?_
      clear S; intro h t u S
      repeat walk_at "Y"
      refine ⟨fun h2 => ?_, fun h2 => ?_⟩
      · rw [decide_eq_true_eq] at h2
        repeat walk_at "Y"
        refine ⟨fun _ => ?_, fun q => by cases q⟩
        repeat walk_at "Y"
        walk_at "c"
        repeat walk_at "Y"
        refine sub_str (c := d) (by omega) (by omega) (by rw [het]; exact hd) ?_
        intro u t
        walk_at "Y"
        refine ⟨S.tg, ?_⟩
        refine c_size (a'.less (m := n₀ + 1)) S ?_
        clear S; intro h t u S
        repeat walk_at "Y"
        refine ⟨l.length - (start + (k + 1)), by omega, _, _, _, _, _, _, k + 1, size + osz d, rfl, S, by omega, by omega, by omega, by omega, rfl, ?_⟩
        rw [hq']
        have hg' := hg
        rw [hdq, grow_fit (by omega)] at hg'
        omega
      · rw [decide_eq_false_iff_not] at h2
        refine ⟨fun q => (by cases q), fun _ => ⟨_, _, _, _, _, _, k, rfl, S, he, hk1, hk2, ?_⟩⟩
        rw [hdq, grow_no (by omega)] at hg
        omega
    · rw [decide_eq_false_iff_not] at h1
      refine ⟨fun q => (by cases q), fun _ => ⟨_, _, _, _, _, _, k, rfl, S, he, hk1, hk2, ?_⟩⟩
      rw [List.drop_of_length_le (by omega), grow_nil] at hg
      omega
  · repeat walk_at "Y"
    have : start = l.length := by rw [decide_eq_false_iff_not] at hge; omega
    subst this
    obtain ⟨n, hn⟩ := S.lst (i := 0) rfl
    refine hQ _ _ _ _ _ S.old (S.D.fr _ (.head _)) ⟨n, hn⟩ hP ?_ hP2 hP1
    have := hrest [] (by rw [List.drop_length]; exact .nil)
    simpa using this
end
end Mine

end

section
namespace Mine
def osum (l : List Nat) : Nat := (l.map osz).sum
theorem osum_app (a b : List Nat) : osum (a ++ b) = osum a + osum b := by simp [osum]
theorem osum_cons (a : Nat) (b : List Nat) : osum (a :: b) = osz a + osum b := by simp [osum]
theorem osum_nil : osum [] = 0 := rfl
structure FoldInv (limit : Nat) (l : List Nat) (k : Nat) (P : List (List Nat)) (cur : List Nat) : Prop where
  go : ∀ rest, Pieces limit (cur ++ l.drop k) rest → Pieces limit l (P ++ rest)
  gr : ∀ c cs, cur = c :: cs → cs.length + grow limit (osum cur) (l.drop k) = grow limit (osz c) (cs ++ l.drop k)
  pl : P.length ≤ k
  cl : cur.length ≤ k
  pm : ∀ p ∈ P, p.length ≤ k
theorem fi_start {limit : Nat} {l : List Nat} : FoldInv limit l 0 [] [] :=
  ⟨fun rest h => h, fun _ _ e => by (cases e), Nat.le_refl _, Nat.le_refl _, fun _ h => by (cases h)⟩
section
variable {limit k d : Nat} {l cur q : List Nat} {P : List (List Nat)}
theorem drop_succ (hd : l.drop k = d :: q) : l.drop (k + 1) = q := by
  have := congrArg (List.drop 1) hd; simpa [List.drop_drop] using this
theorem fi_fit (I : FoldInv limit l k P cur) (hd : l.drop k = d :: q) (h : cur = [] ∨ osum cur + osz d < limit) : FoldInv limit l (k + 1) P (cur ++ [d]) := by
  have hq := drop_succ hd
  refine ⟨fun rest hr => I.go rest ?_, fun c cs e => ?_, by have := I.pl; omega, by have := I.cl; rw [List.length_append, List.length_singleton]; omega, fun p hp => by have := I.pm p hp; omega⟩
  · rw [hq] at hr; rw [hd]; simpa using hr
  · rw [hq]
    cases hc : cur with
    | nil =>
      rw [hc] at e
      cases e
      simp [osum]
    | cons c' cs' =>
      rw [hc] at e
      simp only [List.cons_append, List.cons.injEq] at e
      obtain ⟨rfl, rfl⟩ := e
      have hf : osum cur + osz d < limit := by rcases h with h | h; (rw [hc] at h; cases h); exact h
      have hg := I.gr c' cs' hc
      rw [hd, grow_fit hf, hc] at hg
      rw [osum_app, osum_cons d, osum_nil]
      simp only [List.length_append, List.length_singleton, List.append_assoc, List.singleton_append, Nat.add_zero]
      omega
theorem cut_at (I : FoldInv limit l k P cur) (hd : l.drop k = d :: q) (h : ¬ osum cur + osz d < limit) {c : Nat} {cs : List Nat} (hc : cur = c :: cs) :
    1 + grow limit (osz c) (cs ++ d :: q) = cur.length := by
  have hg := I.gr c cs hc
  rw [hd, grow_no h] at hg
  rw [hc, List.length_cons]; omega
theorem fi_esc {ys : List Nat} {p : Nat} (I : FoldInv limit l k P cur) (hd : l.drop k = d :: q) (h : ¬ osum cur + osz d < limit) (hc : cur = ys ++ [p]) (hy : ys ≠ []) (hp : esc p = true) (hl : 6 ≤ limit) :
    FoldInv limit l (k + 1) (P ++ [ys]) [p, d] := by
  have hq := drop_succ hd
  have hcl := I.cl
  have hcl' : cur.length = ys.length + 1 := by rw [hc]; simp
  refine ⟨fun rest hr => ?_, fun c cs e => ?_, by have := I.pl; simp; omega, by
      have : 1 ≤ ys.length := List.length_pos_iff.mpr hy
      simp; omega, fun p' hp' => ?_⟩
  · rw [List.append_assoc]
    refine I.go _ ?_
    obtain ⟨c, cs, hcs⟩ : ∃ c cs, ys = c :: cs := by cases ys; exact absurd rfl hy; exact ⟨_, _, rfl⟩
    have hcur : cur = c :: (cs ++ [p]) := by rw [hc, hcs]; rfl
    have hcut := cut_at I hd h hcur
    have e1 : cut1 limit (cur ++ l.drop k) = ys.length := by
      rw [hd, hcur]
      show cut1 limit (c :: ((cs ++ [p]) ++ d :: q)) = _
      rw [cut1_cons, hcut]
      have e2 : (c :: (cs ++ [p] ++ d :: q)).getD (cur.length - 1) 0 = p := by
        have : c :: (cs ++ [p] ++ d :: q) = ys ++ p :: (d :: q) := by rw [hcs]; simp
        rw [this, hcl', Nat.add_sub_cancel, List.getD_eq_getElem?_getD, List.getElem?_append_right (Nat.le_refl _)]
        simp
      rw [if_pos ⟨by rw [hcl', hcs]; simp, by rw [hcl', hcs]; simp, by rw [e2]; exact hp⟩, hcl']
      simp
    have e3 : cur ++ l.drop k = ys ++ ([p, d] ++ q) := by rw [hd, hc]; simp
    have hb := Pieces.cons (limit := limit) (l := cur ++ l.drop k) (ls := rest) (by rw [hcur]; simp) (by
      rw [e1, e3, List.drop_left]
      rw [hq] at hr; exact hr)
    rw [e1] at hb
    have e4 : (cur ++ l.drop k).take ys.length = ys := by rw [e3, List.take_left]
    rw [e4] at hb
    exact hb
  · rw [hq]
    cases e
    have h1 : osz p = 1 := by
      unfold esc at hp
      rcases Bool.or_eq_true_iff.mp hp with e | e <;> · rw [beq_iff_eq] at e; subst e; rfl
    have h2 : osz d ≤ 4 := by unfold osz; split <;> split <;> split <;> omega
    rw [osum_cons, osum_cons, osum_nil]
    show 1 + grow limit (osz p + (osz d + 0)) q = grow limit (osz p) (d :: q)
    rw [grow_fit (by omega)]
    simp only [Nat.add_zero]; omega
  · rcases List.mem_append.mp hp' with hp' | hp'
    · have := I.pm _ hp'; omega
    · rw [List.mem_singleton.mp hp']; omega
theorem fi_cut (I : FoldInv limit l k P cur) (hd : l.drop k = d :: q) (h : ¬ osum cur + osz d < limit) (hne : cur ≠ []) (hl : cur.length ≤ 1 ∨ esc (cur.getD (cur.length - 1) 0) = false) :
    FoldInv limit l (k + 1) (P ++ [cur]) [d] := by
  have hq := drop_succ hd
  refine ⟨fun rest hr => ?_, fun c cs e => ?_, by have := I.pl; simp; omega, by simp, fun p' hp' => ?_⟩
  · rw [List.append_assoc]
    refine I.go _ ?_
    obtain ⟨c, cs, hcur⟩ : ∃ c cs, cur = c :: cs := by cases cur; exact absurd rfl hne; exact ⟨_, _, rfl⟩
    have hcut := cut_at I hd h hcur
    have e1 : cut1 limit (cur ++ l.drop k) = cur.length := by
      rw [hd, hcur]
      show cut1 limit (c :: (cs ++ d :: q)) = _
      rw [cut1_cons, hcut, if_neg, hcur]
      rintro ⟨_, h2, h3⟩
      rcases hl with hl | hl
      · omega
      · have e2 : (c :: (cs ++ d :: q)).getD (cur.length - 1) 0 = cur.getD (cur.length - 1) 0 := by
          have : c :: (cs ++ d :: q) = cur ++ d :: q := by rw [hcur]; rfl
          rw [this, List.getD_eq_getElem?_getD, List.getD_eq_getElem?_getD, List.getElem?_append_left (by omega)]
        rw [e2, hl] at h3; cases h3
    have hb := Pieces.cons (limit := limit) (l := cur ++ l.drop k) (ls := rest) (by rw [hcur]; simp) (by
      rw [e1, List.drop_left, hd]
      rw [hq] at hr; exact hr)
    rw [e1, List.take_left] at hb
    exact hb
  · rw [hq]
    cases e
    simp [osum]
  · rcases List.mem_append.mp hp' with hp' | hp'
    · have := I.pm _ hp'; omega
    · have := I.cl; rw [List.mem_singleton.mp hp']; omega
theorem fi_end (I : FoldInv limit l l.length P cur) : Pieces limit l (if cur = [] then P else P ++ [cur]) := by
  have hd : l.drop l.length = [] := List.drop_length
  have hgo := I.go
  rw [hd, List.append_nil] at hgo
  split
  · rename_i h
    have := hgo [] (by rw [h]; exact .nil)
    simpa using this
  · rename_i h
    obtain ⟨c, cs, hcur⟩ : ∃ c cs, cur = c :: cs := by cases cur; exact absurd rfl h; exact ⟨_, _, rfl⟩
    have hg := I.gr c cs hcur
    rw [hd, grow_nil, List.append_nil] at hg
    have e1 : cut1 limit cur = cur.length := by
      rw [hcur, cut1_cons, ← hg, if_neg, List.length_cons]
      · omega
      · rintro ⟨h1, _⟩; omega
    refine hgo [cur] ?_
    have hb := Pieces.cons (limit := limit) (l := cur) (ls := []) h (by rw [e1, List.drop_length]; exact .nil)
    rw [e1, List.take_length] at hb
    exact hb
end
end Mine

end

section
open PySem PySem.W PyProof.Rows PySem.Calls
set_option maxRecDepth 100000
set_option maxHeartbeats 4000000
namespace Mine
section
variable {w : World} {A : Around} {E : Value → Shared → Prop} {s : Shared} {g h h' : Heap} {t : Nat} {env : Env} {ns : List Str} {gl : List (Str × Value)} {vs : List (Option Value)} {σ : List (Addr × LObj)}
/-- the ledger may forget -/
theorem SS.sub {σ₂ : List (Addr × LObj)} (S : SS w g env ns gl h vs σ) (hs : σ₂.Sublist σ) : SS w g env ns gl h vs σ₂ :=
  ⟨S.e, S.T, S.F, ⟨fun p hp => S.D.is p (hs.subset hp), fun p hp => S.D.ne p (hs.subset hp), fun p hp => S.D.fr p (hs.subset hp), List.Sublist.nodup (hs.map _) S.D.nd⟩, S.len⟩
theorem b_lst {L : Addr} {xs : List Value} {i : Nat} {Q : Bool → Shared → Prop} (S : SS w g env ns gl h vs σ) (hi : σ[i]? = some (L, .lst xs)) (hz : xs.length ≤ 2 ^ 20)
    (hq : ∀ t', Q (!xs.isEmpty) (St s h t')) : wpAny (model pg w) A (truthy (.ref L)) Q E (St s h t) := by
  obtain ⟨n, hn⟩ := S.lst hi
  refine wpAny_truthy_list hn.isList (by rw [List.size_toArray]; omega) ?_
  have := hq (t + 1 + 1)
  simpa using this
theorem c_len_lst {L : Addr} {xs : List Value} {i : Nat} {Q : Value → Shared → Prop} (S : SS w g env ns gl h vs σ) (hi : σ[i]? = some (L, .lst xs)) (hz : xs.length ≤ 2 ^ 20)
    (hq : ∀ u t', Q (.int xs.length u) (St s h t')) : wpAny (model pg w) A (call (.builtin "len") [.ref L]) Q E (St s h t) := by
  obtain ⟨n, hn⟩ := S.lst hi
  refine PySem.Calls.call_len_list hn.isList (by rw [List.size_toArray]; omega) ?_
  have := hq (t + 1) (t + 1 + 1)
  simpa using this
theorem e_neg1 {k : Nat} {p pos : Pos} {Q : Value → Shared → Prop} (hq : ∀ u t', Q (.int (-1) u) (St s h t')) : wpAny (model pg w) A (eval (.UnaryOp .USub (.Constant (.int 1) k p) pos) env) Q E (St s h t) := by
  refine UnaryOp_ (wpAny_Constant_int ?_)
  exact PyProof.Rows.neg_int (hq _ _)
theorem c_isi_str {x : Str} {u : Tok} {Q : Value → Shared → Prop} (hq : ∀ t', Q (.bool true) (St s h t')) : wpAny (model pg w) A (call (.builtin "isinstance") [.str x u, .type "str"]) Q E (St s h t) :=
  IsiPair.str_str (hq _)
theorem sub_last {value slice : Expr} {L : Addr} {xs : List Value} {x : Value} {u : Tok} {i : Nat} {Q : Value → Shared → Prop} (S : SS w g env ns gl h vs σ) (hi : σ[i]? = some (L, .lst (xs ++ [x]))) (hz : xs.length ≤ 2 ^ 20) (hq : Q x (St s h t))
    (hs : subscripted slice false (.ref L) (.int (-1) u) = operate [.ref L, .int (-1) u] (getItem (.ref L) (.int (-1) u)) := by with_unfolding_all rfl) : wpAny (model pg w) A (subscriptTail value slice (.ref L) (.int (-1) u)) Q E (St s h t) := by
  obtain ⟨n, hn⟩ := S.lst hi
  refine tail_any hn.isList.typeIs slot_list_getitem.lookup (wpAny_getItem_list_neg (x := x) hn.isList (by decide) (by simp; omega) (by decide) (by
    have e : ((-1 : Int) + ((xs ++ [x]).toArray.size : Nat)).toNat = xs.length := by
      simp only [List.size_toArray, List.length_append, List.length_singleton]
      omega
    rw [e]; simp) hq) hs

/-- what `_foldline` asks of a line: a str, or what is one -/
structure LineOk (w : World) (g₀ : Heap) (v : Value) (l : List Nat) : Prop where
  isi : ∀ {A : Around} {n : Nat} {E : Value → Shared → Prop} {s : Shared} {h : Heap} {t : Nat} {Q : Value → Shared → Prop}, AOk A n → Old g₀ h → (∀ t', Q (.bool true) (St s h t')) → wpAny (model pg w) A (call (.builtin "isinstance") [v, .type "str"]) Q E (St s h t)
  nin : ∀ {A : Around} {n : Nat} {E : Value → Shared → Prop} {s : Shared} {h : Heap} {t : Nat} {u : Tok} {Q : Value → Shared → Prop}, AOk A n → Old g₀ h → (∀ t', Q (.bool (!decide (10 ∈ l))) (St s h t')) → wpAny (model pg w) A (compareOp .NotIn (.str (Str.ofString "\n") u) v) Q E (St s h t)
  iter : ∀ {A : Around} {n : Nat} {E : Value → Shared → Prop} {s : Shared} {g h : Heap} {t : Nat} {env : Env} {ns : List Str} {gl : List (Str × Value)} {vs : List (Option Value)} {σ : List (Addr × LObj)} {y : Str} {px : Pos} {body : List Stmt} {i : Nat} {R : Result → Shared → Prop},
    AOk A n → Old g₀ g → SS w g env ns gl h vs σ → ns[i]? = some y → (J : Nat → List (Option Value) → List (Addr × LObj) → Prop) → J 0 vs σ →
    (∀ k c u vs σ g' h t, l[k]? = some c → J k vs σ → Old g g' → SS w g' env ns gl h (vs.set i (some (.str ⟨#[c]⟩ u))) σ →
      wpAny (model pg w) A (execs body env) (Turn w env ns gl g' s (J (k + 1)) R) (fun _ _ => False) (St s h t)) →
    (∀ vs σ h t, J l.length vs σ → SS w g env ns gl h vs σ → R (.ok .next) (St s h t)) →
    wpAny (model pg w) A (pyIter v) (fun it s₂ => codeAny (model pg w) A (.forLoop (.Name y px) it body [] env) R s₂) E (St s h t)
theorem nl_str : Str.ofString "\n" = ⟨#[10]⟩ := by decide +kernel
theorem LineOk.str {l : List Nat} {u : Tok} : LineOk w g (.str (mkS l) u) l where
  isi _ _ hq := c_isi_str hq
  nin _ _ hq := k_notin (by rw [nl_str, in_one]; simpa using hq _)
  iter a _ S ix J h0 step done := by
    refine for_str a.h S ix J h0 (fun k c u vs σ g' h t hc hJ o' S' => step k c u vs σ g' h t (by simpa using hc) hJ o' S') ?_
    intro vs σ h t hJ S'
    exact done vs σ h t (by simpa using hJ) S'
end
end Mine

end

section
open PySem
set_option maxRecDepth 100000
namespace Mine
open Builtin Builtin._codecs
theorem enc_foldl : ∀ (l : List Nat) (acc : Array UInt8), l.foldl (fun acc y => acc ++ (Str.utf8Of y).toArray) acc = acc ++ (l.flatMap Str.utf8Of).toArray
  | [], acc => by simp
  | c :: r, acc => by rw [List.foldl_cons, enc_foldl r]; simp
theorem utf8_len (c : Nat) : (Str.utf8Of c).length ≤ 4 := by
  unfold Str.utf8Of; split <;> (try split) <;> (try split) <;> simp
theorem utf8s_len : ∀ l : List Nat, (l.flatMap Str.utf8Of).length ≤ 4 * l.length
  | [] => by simp
  | c :: r => by
    have h1 := utf8_len c
    have h2 := utf8s_len r
    rw [List.flatMap_cons, List.length_append, List.length_cons]; omega
theorem encN {id : String} {e : Option Str} {self : Value} {l : List Nat} (h : ∀ c ∈ l, Str.isSurrogate c = false) (hz : l.length ≤ 2 ^ 20) : encodeNarrow id utf8Codec e self (mkS l) = pure (l.flatMap Str.utf8Of).toArray := by
  unfold encodeNarrow
  simp only [Std.Legacy.Range.forIn_eq_forIn_range']
  cases l with
  | nil => rfl
  | cons c r =>
    have hsz : (mkS (c :: r)).length = r.length + 1 := mkS_len _
    simp only [Std.Legacy.Range.size, hsz]
    have hn : (r.length + 1 - 0 + 1 - 1) / 1 = r.length + 1 := by omega
    rw [hn]
    generalize hf : (fun (x : Nat) (__s : Nat × Array UInt8 × Faults) => _) = f
    have f1 : f 0 (0, #[], {}) = pure (.yield ((c :: r).length, ((c :: r).flatMap Str.utf8Of).toArray, {})) := by
      rw [← hf]
      have e0 : Array.findIdx? utf8Codec.bad ((c :: r).toArray.extract 0) = none := by
        rw [Array.findIdx?_eq_none_iff]
        intro x hx
        exact h x (by simpa using hx)
      show (if (#[] : Array UInt8).size > sizeLine then _ else (if (!Str.isSurrogate c) = true then pure (ForInStep.yield (0 + (Array.findIdx? utf8Codec.bad ((c :: r).toArray.extract 0)).getD ((c :: r).toArray.extract 0).size,
        Array.foldl (fun acc y => acc ++ (utf8Codec.bytesOf y).toArray) #[] (((c :: r).toArray.extract 0).extract 0 ((Array.findIdx? utf8Codec.bad ((c :: r).toArray.extract 0)).getD ((c :: r).toArray.extract 0).size)), ({} : Faults))) else _)) = _
      rw [if_neg (by decide), if_pos (by rw [h c (.head _)]; rfl), e0]
      have e1 : ((c :: r).toArray.extract 0).extract 0 ((c :: r).toArray.extract 0).size = (c :: r).toArray := by simp
      show pure (ForInStep.yield (0 + ((c :: r).toArray.extract 0).size, Array.foldl (fun acc y => acc ++ (Str.utf8Of y).toArray) #[] (((c :: r).toArray.extract 0).extract 0 ((c :: r).toArray.extract 0).size), ({} : Faults))) = _
      rw [e1]
      have e2 : Array.foldl (fun acc y => acc ++ (Str.utf8Of y).toArray) #[] (c :: r).toArray = ((c :: r).flatMap Str.utf8Of).toArray := by
        rw [List.foldl_toArray, enc_foldl]; simp
      rw [e2]
      simp
    rw [List.range'_succ, List.forIn_cons, f1]
    have f2 : ∀ x, f x ((c :: r).length, ((c :: r).flatMap Str.utf8Of).toArray, {}) = pure (.done ((c :: r).length, ((c :: r).flatMap Str.utf8Of).toArray, {})) := by
      intro x
      rw [← hf]
      have e3 : (c :: r).toArray[(c :: r).length]? = none := by simp
      have e4 := utf8s_len (c :: r)
      have e5 : (2 : Nat) ^ 22 ≤ sizeLine := by decide
      simp only []
      rw [if_neg (by rw [List.size_toArray]; omega), e3]
    rw [pure_bind]
    cases r with
    | nil => rfl
    | cons d r' =>
      show (do let __s ← forIn (List.range' 1 (r'.length + 1)) ((c :: d :: r').length, ((c :: d :: r').flatMap Str.utf8Of).toArray, ({} : Faults)) f; pure __s.snd.fst) = _
      rw [List.range'_succ, List.forIn_cons, f2, pure_bind]
      rfl
end Mine

end

section
open PySem PySem.W PyProof.Rows PySem.Calls
set_option maxRecDepth 100000
namespace Mine
open Builtin Builtin._codecs
theorem enc_tree (x : Str) (t u : Tok) : «str.encode» ⟨[.str x t, .str (Str.ofString "utf-8") u], []⟩ = (do ret (← encodeRoad "str.encode" (.str x t) x (Str.ofString "utf-8") none)) := by kernel_rfl
theorem dec_tree (b : Array UInt8) (t u : Tok) : ∃ k, «bytes.decode» ⟨[.bytes b t, .str (Str.ofString "utf-8") u], []⟩ = k := ⟨_, rfl⟩
section
variable {w : World} {A : Around} {E : Value → Shared → Prop} {s : Shared} {g h h' : Heap} {t : Nat} {env : Env}
theorem m_encode {l : List Nat} {u : Tok} {pos : Pos} {e : Expr} {Q : Value → Shared → Prop} (hs : ∀ c ∈ l, Str.isSurrogate c = false) (hz : l.length ≤ 2 ^ 20)
    (hq : wpAny (model pg w) A (eval e env) (fun v s₁ => ∃ u, v = .str (Str.ofString "utf-8") u ∧ ∀ u t', Q (.bytes (l.flatMap Str.utf8Of).toArray u) (St s₁ s₁.heap t')) E s) :
    MethodOnS pg w A E "encode" (.str (mkS l) u) pos [(false, eval e env)] Q s := by
  refine ⟨"str", _, F.plainAttrs_str, F.slot_str_encode, F.type_str_encode, typeIs_str _ _ _, (fun _ e => nomatch e),
    method1_meets F.slot_str_encode F.entry_str_encode (wpAny_mono hq (fun v s₁ q => ?_) fun _ _ e => e)⟩
  obtain ⟨u', rfl, hq⟩ := q
  refine ⟨typeIs_str _ _ _, F.args_str_encode_2 _ _, (fun _ R s => R (.ok (.ret (.bytes (l.flatMap Str.utf8Of).toArray s.toks))) { s with toks := s.toks + 1 }), Meets.of_wp fun prog w A R s hR => ?_, hq _ _⟩
  rw [enc_tree, encodeRoad_utf8, encN hs hz, pure_bind]
  refine wpAny_bind (wpAny_mkBytes (wpAny_pure ⟨_, rfl, hR⟩) ?_)
  have := utf8s_len l
  have e5 : (2 : Nat) ^ 22 ≤ sizeLine := by decide
  rw [List.size_toArray]; omega
end
end Mine

end

section
open PySem PySem.W PyProof.Rows PySem.Calls
set_option maxRecDepth 100000
set_option maxHeartbeats 4000000
namespace Mine
section
variable {w : World} {A : Around} {E : Value → Shared → Prop} {s : Shared} {g h h' : Heap} {t : Nat} {env : Env}
@[reducible] def nsF : List Str := ["line", "limit", "fold_sep", "folded_lines", "current_chars", "byte_count", "char", "char_byte_len", "escaped_prefix"]
@[reducible] def glF : List (Str × Value) := [("isinstance", .builtin "isinstance"), ("str", .type "str"), ("len", .builtin "len")]
theorem utf8_osz (c : Nat) : (Str.utf8Of c).length = osz c := by
  unfold Str.utf8Of osz
  split <;> (try split) <;> (try split) <;> simp only [List.length_cons, List.length_nil] <;> (repeat' split) <;> omega
theorem c_len_enc {c : Nat} {u : Tok} {Q : Value → Shared → Prop} (hq : ∀ u t', Q (.int (osz c) u) (St s h t')) : wpAny (model pg w) A (call (.builtin "len") [.bytes ([c].flatMap Str.utf8Of).toArray u]) Q E (St s h t) := by
  have e : ([c].flatMap Str.utf8Of).toArray.size = osz c := by rw [List.size_toArray]; simp [utf8_osz]
  have h2 : osz c ≤ 4 := by unfold osz; split <;> split <;> split <;> omega
  refine PySem.W.len_bytes (by rw [e]; omega) ?_
  rw [e]
  exact hq _ _
theorem Strs.snoc_inv {vs : List Value} {ls : List (List Nat)} {x : List Nat} (h : Strs vs (ls ++ [x])) : ∃ vs' u, vs = vs' ++ [.str (mkS x) u] ∧ Strs vs' ls := by
  obtain ⟨p, rfl, e⟩ := h
  have hl : p.length = ls.length + 1 := by have := congrArg List.length e; simpa using this
  obtain ⟨q, r, rfl⟩ : ∃ q r, p = q ++ [r] := by
    rcases List.eq_nil_or_concat p with rfl | ⟨q, r, rfl⟩
    · simp at hl
    · exact ⟨q, r, by simp⟩
  simp only [List.map_append, List.map_cons, List.map_nil] at e
  obtain ⟨e1, e2⟩ := List.append_inj' e rfl
  have e3 : r.1 = mkS x := by simpa using e2
  exact ⟨strValues q, r.2, by simp [strValues, e3], q, rfl, e1⟩
theorem join_ones : ∀ cur : List Nat, joinL [] (cur.map fun c => [c]) = cur
  | [] => rfl
  | [c] => rfl
  | c :: d :: r => by
    show [c] ++ [] ++ joinL [] ((d :: r).map fun c => [c]) = _
    rw [join_ones (d :: r)]; rfl
theorem emp_str : Str.ofString "" = mkS [] := rfl
@[reducible] def FJ (w : World) (s : Shared) (g : Heap) (env : Env) (v : Value) (l : List Nat) (limit : Nat) (u1 u2 : Tok) (k c : Nat) (u : Tok) (s' : Shared) : Prop :=
  ∃ h t F C fv cv P cur tb tc x3, s' = St s h t ∧ SS w g env nsF glF h [some v, some (.int limit u1), some (.str (mkS [13, 10, 32]) u2), some (.ref F), some (.ref C), some (.int (osum cur : Nat) tb), some (.str ⟨#[c]⟩ u), some (.int (osz c : Nat) tc), x3] [(C, .lst cv), (F, .lst fv)] ∧
    Strs fv P ∧ Strs cv (cur.map fun c => [c]) ∧ FoldInv limit l (k + 1) P (cur ++ [c])
theorem fold_body {n₀ : Nat} {v : Value} {l : List Nat} {limit : Nat} {u1 u2 : Tok} (a : AOk A n₀) (hl : ∀ c ∈ l, Str.isSurrogate c = false) (hlen : l.length ≤ 900) (hlim : 6 ≤ limit) (h10 : 10 ∉ l)
    (LO : LineOk w g v l) (S : SS w g env nsF glF h [some v, some (.int limit u1), some (.str (mkS [13, 10, 32]) u2), none, none, none, none, none, none] [])
    {Q : Value → Shared → Prop} (hQ : ∀ P h' u t', Old g h' → Pieces limit l P → Q (.str (mkS (joinL [13, 10, 32] P)) u) (St s h' t')) :
    wpAny (model pg w) A (execs (fB (sAt 7)) env) (fun fl s' => Q (match fl with | .ret v => v | _ => .none) s') (fun _ _ => False) (St s h t) := by
  conv => enter [3, 1]; whnf
  repeat walk_at "Y"
  refine LO.isi a S.old ?_
  intro t
  repeat walk_at "Y"
  refine ⟨rfl, ?_⟩
  repeat walk_at "Y"
  refine LO.nin a S.old ?_
  intro t
  repeat walk_at "Y"
  refine ⟨by simp [h10], ?_⟩
  repeat walk_at "Y"
  refine m_lst S (by decide) ?_
  clear S; intro F h S hF
  repeat walk_at "Y"
  refine m_lst S (by decide) ?_
  clear S; intro C h S hC
  repeat walk_at "Y"
  refine x_for ?_
  repeat walk_at "Y"
  refine LO.iter a (Old.refl _) S (i := 6) rfl (fun k vs σ => ∃ F C fv cv P cur tb x1 x2 x3, vs = [some v, some (.int limit u1), some (.str (mkS [13, 10, 32]) u2), some (.ref F), some (.ref C), some (.int (osum cur : Nat) tb), x1, x2, x3] ∧ σ = [(C, .lst cv), (F, .lst fv)] ∧
    Strs fv P ∧ Strs cv (cur.map fun c => [c]) ∧ FoldInv limit l k P cur) ⟨_, _, _, _, [], [], _, _, _, _, rfl, rfl, Strs.nil, Strs.nil, fi_start⟩ ?_ ?_
  · rintro k c uc vs σ g' h t hck ⟨F, C, fv, cv, P, cur, tb, x1, x2, x3, rfl, rfl, hF, hC, I⟩ o' S
    simp only [List.set_cons_succ, List.set_cons_zero] at S
    have hk : k < l.length := by
      rcases Nat.lt_or_ge k l.length with q | q
      · exact q
      · rw [List.getElem?_eq_none q] at hck; cases hck
    have hd : l.drop k = c :: l.drop (k + 1) := by
      rw [List.drop_eq_getElem_cons hk]
      rw [List.getElem?_eq_getElem hk] at hck
      rw [Option.some.inj hck]
    have hcl := I.cl
    have hcv : cv.length = cur.length := by have := hC.length; simpa using this
    repeat walk_at "Y"
    refine m_encode (l := [c]) (fun d hd' => by rw [List.mem_singleton.mp hd']; exact hl c (List.mem_of_getElem? hck)) (by show 1 ≤ _; decide) ?_
    repeat walk_at "Y"
    refine ⟨_, rfl, fun u t => ?_⟩
    repeat walk_at "Y"
    refine c_len_enc ?_
    intro u t
    repeat walk_at "Y"
    refine x_ifJ (FJ w s g' env v l limit u1 u2 k c uc) ?_ ?_
    · repeat walk_at "Y"
      refine b_lst S (i := 0) rfl (by omega) ?_
      intro t
      refine ⟨fun hne => ?_, fun hne => ⟨fun q => (by cases q), fun _ => x_nil ?_⟩⟩
      · have hne' : cv ≠ [] := by rintro rfl; cases hne
        have hcur : cur ≠ [] := by rintro rfl; exact hne' (List.eq_nil_of_length_eq_zero hcv)
        repeat walk_at "Y"
        refine ⟨fun hfull => ?_, fun hfit => ⟨fun q => (by cases q), fun _ => x_nil ?_⟩⟩
        · rw [decide_eq_true_eq] at hfull
          have hno : ¬ osum cur + osz c < limit := by omega
          repeat walk_at "Y"
          refine ⟨fun _ => ?_, fun q => (by cases q)⟩
          obtain ⟨ys, p, hys⟩ : ∃ ys p, cur = ys ++ [p] := by
            rcases List.eq_nil_or_concat cur with e | ⟨q, r, e⟩
            · exact absurd e hcur
            · exact ⟨q, r, by simpa using e⟩
          subst hys
          rw [List.map_append] at hC
          obtain ⟨cv', pu, rfl, hC'⟩ := Strs.snoc_inv hC
          have hcl2 : cv'.length = ys.length := by have := hC'.length; simpa using this
          have hfl := hF.length
          have hpl := I.pl
          simp only [List.length_append, List.length_singleton] at hcl hcv
          refine x_ifJ (FJ w s g' env v l limit u1 u2 k c uc) ?_ (fun s' hs => x_nil hs)
          have cutJ : (ys ++ [p]).length ≤ 1 ∨ esc p = false → FoldInv limit l (k + 1) (P ++ [ys ++ [p]]) ([] ++ [c]) := fun hor => by
            refine fi_cut I hd hno (by simp) ?_
            rcases hor with q | q
            · exact .inl q
            · refine .inr ?_
              have : (ys ++ [p]).getD ((ys ++ [p]).length - 1) 0 = p := by
                rw [List.getD_eq_getElem?_getD]; simp
              rw [this]; exact q
          have hCs : Strs (cv' ++ [.str (mkS [p]) pu]) ((ys ++ [p]).map fun c => [c]) := by
            rw [List.map_append]; exact hC'.snoc [p] pu
          have hz : (cv' ++ [Value.str (mkS [p]) pu]).length ≤ 2 ^ 20 := by rw [List.length_append, List.length_singleton]; omega
          have jb : ((ys ++ [p]).map fun c => [c]).length ≤ 1000 := by rw [List.length_map, List.length_append, List.length_singleton]; omega
          have jb2 : ∀ l ∈ ((ys ++ [p]).map fun c => [c]), l.length ≤ 1000 := by
            intro l hl; obtain ⟨c, _, rfl⟩ := List.mem_map.mp hl; show 1 ≤ 1000; decide
          have yb : (ys.map fun c => [c]).length ≤ 1000 := by rw [List.length_map]; omega
          have yb2 : ∀ l ∈ (ys.map fun c => [c]), l.length ≤ 1000 := by
            intro l hl; obtain ⟨c, _, rfl⟩ := List.mem_map.mp hl; show 1 ≤ 1000; decide
          repeat walk_at "Y"
          refine c_len_lst S (i := 0) rfl hz ?_
          intro u t
          repeat walk_at "Y"
          refine ⟨fun h1 => ?_, fun h1 => ⟨fun q => (by cases q), fun _ => ?_⟩⟩
          · rw [decide_eq_true_eq, List.length_append, List.length_singleton] at h1
            have hys : ys ≠ [] := by intro e; rw [e, List.length_nil] at hcl2; omega
            repeat walk_at "Y"
            refine e_neg1 ?_
            intro u t
            refine sub_last S (i := 0) rfl (by omega) ?_
            repeat walk_at "Y"
            rw [esc_in]
            refine ⟨fun h3 => ?_, fun h3 => ⟨fun q => (by cases q), fun _ => ?_⟩⟩
            · repeat walk_at "Y"
              refine ⟨fun _ => ?_, fun q => (by cases q)⟩
              repeat walk_at "Y"
              refine m_pop S (i := 0) rfl (by omega) ?_
              clear S; intro h S
              repeat walk_at "Y"
              refine m_append S (i := 1) rfl ?_
              repeat walk_at "Y"
              rw [emp_str]
              refine m_join (by decide) ?_
              repeat walk_at "Y"
              refine join_of S (i := 0) rfl hC' yb yb2 ?_
              intro u t
              rw [join_ones]
              refine app_to S (i := 1) rfl (by omega) ?_
              clear S; intro h S
              repeat walk_at "Y"
              refine m_lst S (by show 1 ≤ _; decide) ?_
              clear S; intro C' h S _
              have S := S.sub (σ₂ := [(C', _), (F, _)]) (.cons_cons _ (.cons _ (.cons_cons _ .slnil)))
              repeat walk_at "Y"
              refine m_encode (l := [p]) (fun d hd' => by
                rw [List.mem_singleton.mp hd']
                unfold esc at h3
                rcases Bool.or_eq_true_iff.mp h3 with e | e <;> · rw [beq_iff_eq] at e; subst e; rfl) (by show 1 ≤ _; decide) ?_
              repeat walk_at "Y"
              refine ⟨_, rfl, fun u t => ?_⟩
              repeat walk_at "Y"
              refine c_len_enc ?_
              intro u t
              repeat walk_at "Y"
              have e : (osz p : Nat) = osum [p] := by simp [osum]
              rw [e] at S
              exact ⟨_, _, _, _, _, _, _, _, _, _, _, rfl, S, hF.snoc _ _, Strs.one _ _, fi_esc I hd hno rfl hys h3 hlim⟩
            · skip
              repeat walk_at "Y"
              refine m_append S (i := 1) rfl ?_
              repeat walk_at "Y"
              rw [emp_str]
              refine m_join (by decide) ?_
              repeat walk_at "Y"
              refine join_of S (i := 0) rfl hCs jb jb2 ?_
              intro u t
              rw [join_ones]
              refine app_to S (i := 1) rfl (by omega) ?_
              clear S; intro h S
              repeat walk_at "Y"
              refine m_lst S (by decide) ?_
              clear S; intro C' h S _
              have S := S.sub (σ₂ := [(C', _), (F, _)]) (.cons_cons _ (.cons _ (.cons_cons _ .slnil)))
              repeat walk_at "Y"
              exact ⟨_, _, _, _, _, _, _, [], _, _, _, rfl, S, hF.snoc _ _, Strs.nil, cutJ (.inr h3)⟩
          · rw [decide_eq_false_iff_not, List.length_append, List.length_singleton] at h1
            repeat walk_at "Y"
            refine m_append S (i := 1) rfl ?_
            repeat walk_at "Y"
            rw [emp_str]
            refine m_join (by decide) ?_
            repeat walk_at "Y"
            refine join_of S (i := 0) rfl hCs jb jb2 ?_
            intro u t
            rw [join_ones]
            refine app_to S (i := 1) rfl (by omega) ?_
            clear S; intro h S
            repeat walk_at "Y"
            refine m_lst S (by decide) ?_
            clear S; intro C' h S _
            have S := S.sub (σ₂ := [(C', _), (F, _)]) (.cons_cons _ (.cons _ (.cons_cons _ .slnil)))
            repeat walk_at "Y"
            exact ⟨_, _, _, _, _, _, _, [], _, _, _, rfl, S, hF.snoc _ _, Strs.nil, cutJ (.inl (by rw [List.length_append, List.length_singleton]; omega))⟩
        · rw [decide_eq_false_iff_not] at hfit
          exact ⟨_, _, _, _, _, _, _, _, _, _, _, rfl, S, hF, hC, fi_fit I hd (.inr (by omega))⟩
      · have hcur : cur = [] := by
          have : cv = [] := by cases cv; rfl; cases hne
          subst this
          exact List.eq_nil_of_length_eq_zero hcv.symm
        exact ⟨_, _, _, _, _, _, _, _, _, _, _, rfl, S, hF, hC, fi_fit I hd (.inl hcur)⟩
    · clear S hC hF I hcv hcl
      rintro s' ⟨h, t, F, C, fv, cv, P, cur, tb, tc, x3, rfl, S, hF, hC, I⟩
      have hcl := I.cl
      have hcv : cv.length = cur.length := by have := hC.length; simpa using this
      rw [List.length_append, List.length_singleton] at hcl
      repeat walk_at "Y"
      refine m_append S (i := 0) rfl ?_
      repeat walk_at "Y"
      refine app_to S (i := 0) rfl (by omega) ?_
      clear S; intro h S
      repeat walk_at "Y"
      have e : ((osum cur : Nat) : Int) + (osz c : Nat) = ((osum (cur ++ [c]) : Nat) : Int) := by rw [osum_app, osum_cons, osum_nil]; omega
      rw [e] at S
      refine ⟨_, _, _, _, rfl, S, _, _, _, _, _, _, _, _, _, _, rfl, rfl, hF, ?_, I⟩
      have := hC.snoc [c] uc
      simpa using this
  · rintro vs σ h t ⟨F, C, fv, cv, P, cur, tb, x1, x2, x3, rfl, rfl, hF, hC, I⟩ S
    show wpAny _ _ (execs _ _) _ _ _
    have hcl := I.cl
    have hcv : cv.length = cur.length := by have := hC.length; simpa using this
    have hfl := hF.length
    have hpl := I.pl
    refine x_ifJ (fun s' => ∃ h t F C fv cv x0 x1 x2 x3 P, s' = St s h t ∧ SS w g env nsF glF h [some v, some (.int limit u1), some (.str (mkS [13, 10, 32]) u2), some (.ref F), some (.ref C), x0, x1, x2, x3] [(C, .lst cv), (F, .lst fv)] ∧ Strs fv P ∧ Pieces limit l P ∧ P.length ≤ 1000 ∧ ∀ p ∈ P, p.length ≤ 1000) ?_ ?_
    · have hE := fi_end I
      repeat walk_at "Y"
      refine b_lst S (i := 0) rfl (by omega) ?_
      intro t
      refine ⟨fun hne => ?_, fun hne => x_nil ?_⟩
      · have hcur : cur ≠ [] := by
          rintro rfl
          have : cv = [] := List.eq_nil_of_length_eq_zero hcv
          subst this; cases hne
        rw [if_neg hcur] at hE
        repeat walk_at "Y"
        refine m_append S (i := 1) rfl ?_
        repeat walk_at "Y"
        rw [emp_str]
        refine m_join (by decide) ?_
        repeat walk_at "Y"
        refine join_of S (i := 0) rfl hC (by rw [List.length_map]; omega) (by
          intro l hl; obtain ⟨c, _, rfl⟩ := List.mem_map.mp hl; show 1 ≤ 1000; decide) ?_
        intro u t
        rw [join_ones]
        refine app_to S (i := 1) rfl (by omega) ?_
        clear S; intro h S
        repeat walk_at "Y"
        refine ⟨_, _, _, _, _, _, _, _, _, _, _, rfl, S, hF.snoc _ _, hE, by rw [List.length_append, List.length_singleton]; omega, ?_⟩
        intro p hp
        rcases List.mem_append.mp hp with hp | hp
        · have := I.pm p hp; omega
        · rw [List.mem_singleton.mp hp]; omega
      · have hcur : cur = [] := by
          have : cv = [] := by cases cv; rfl; cases hne
          subst this
          exact List.eq_nil_of_length_eq_zero hcv.symm
        rw [if_pos hcur] at hE
        exact ⟨_, _, _, _, _, _, _, _, _, _, _, rfl, S, hF, hE, by omega, fun p hp => by have := I.pm p hp; omega⟩
    · clear S hF hC hcv hfl
      rintro s' ⟨h, t, F, C, fv, cv, x0, x1, x2, x3, P, rfl, S, hF, hP, h1, h2⟩
      repeat walk_at "Y"
      refine m_join (by show 3 ≤ _; decide) ?_
      repeat walk_at "Y"
      refine join_of S (i := 1) rfl hF h1 h2 ?_
      intro u t
      exact hQ P _ _ _ S.old hP
end
end Mine

end

section
open PySem PySem.W PyProof.Rows PySem.Calls
set_option maxRecDepth 100000
set_option maxHeartbeats 4000000
namespace Mine
section
variable {w : World} {A : Around} {E : Value → Shared → Prop} {s : Shared} {g h h' : Heap} {t : Nat} {env : Env}
theorem fold2_spec {n₀ : Nat} (a : AOk A (n₀ + 1)) (T : TG w g) (hk : Old g h) {v : Value} {l : List Nat} {limit : Nat} {u1 : Tok} (hl : ∀ c ∈ l, Str.isSurrogate c = false) (hlen : l.length ≤ 900) (hlim : 6 ≤ limit) (h10 : 10 ∉ l)
    (LO : LineOk w g v l) {Q : Value → Shared → Prop} (hQ : ∀ P h' u t', Old g h' → Pieces limit l P → Q (.str (mkS (joinL [13, 10, 32] P)) u) (St s h' t')) :
    wpAny (model pg w) A (call (.ref 55) [v, .int limit u1]) Q E (St s h t) := by
  refine' enter (binds := [("line", v), ("limit", .int limit u1), ("fold_sep", .str (Str.mk #[13, 10, 32]) 306)]) (rest := ["folded_lines", "current_chars", "byte_count", "char", "char_byte_len", "escaped_prefix"]) (gl := glF) (σ := []) ?ho ?hcd a T hk ?hb ?hok rfl rfl ?hσ ?hnd ?_ ?c1 ?c2 ?c3 ?c4 ?c5
  case hσ => intro p hp; cases hp
  case hnd => simp
  (case ho => exact rfl); (case hb => exact binds_K (T.keeps hk).K rfl rfl rfl rfl rfl); (case hcd => kernel_rfl!); (case hok => kernel_rfl!)
  (case c1 => exact rfl); (case c2 => exact rfl); (case c3 => exact rfl); (case c4 => exact rfl); (case c5 => exact rfl)
  intro env h t S a' keep'
  simp only [List.map_cons, List.map_nil, List.cons_append, List.nil_append] at S
  exact fold_body a' hl hlen hlim h10 LO S hQ
theorem fold1_spec {n₀ : Nat} (a : AOk A (n₀ + 1)) (T : TG w g) (hk : Old g h) {v : Value} {l : List Nat} (hl : ∀ c ∈ l, Str.isSurrogate c = false) (hlen : l.length ≤ 900) (h10 : 10 ∉ l)
    (LO : LineOk w g v l) {Q : Value → Shared → Prop} (hQ : ∀ P h' u t', Old g h' → Pieces 75 l P → Q (.str (mkS (joinL [13, 10, 32] P)) u) (St s h' t')) :
    wpAny (model pg w) A (call (.ref 55) [v]) Q E (St s h t) := by
  refine' enter (binds := [("line", v), ("limit", .int 75 305), ("fold_sep", .str (Str.mk #[13, 10, 32]) 306)]) (rest := ["folded_lines", "current_chars", "byte_count", "char", "char_byte_len", "escaped_prefix"]) (gl := glF) (σ := []) ?ho ?hcd a T hk ?hb ?hok rfl rfl ?hσ ?hnd ?_ ?c1 ?c2 ?c3 ?c4 ?c5
  case hσ => intro p hp; cases hp
  case hnd => simp
  (case ho => exact rfl); (case hb => exact binds_K (T.keeps hk).K rfl rfl rfl rfl rfl); (case hcd => kernel_rfl!); (case hok => kernel_rfl!)
  (case c1 => exact rfl); (case c2 => exact rfl); (case c3 => exact rfl); (case c4 => exact rfl); (case c5 => exact rfl)
  intro env h t S a' keep'
  simp only [List.map_cons, List.map_nil, List.cons_append, List.nil_append] at S
  exact fold_body (limit := 75) a' hl hlen (by decide) h10 LO S hQ
end
end Mine

end

section
open PySem PySem.Sre
set_option maxRecDepth 100000
set_option maxHeartbeats 1000000
namespace Mine
/-- the folding pattern's words -/
def UC : Array Nat := #[14, 4, 0, 2, 4294967295, 23, 12, 1, 4294967295, 24, 6, 0, 1, 16, 13, 1, 16, 10, 18, 13, 6, 16, 32, 16, 9, 0, 1]
def Reach (B : Nat) (a b : M) : Prop := ∃ n, n ≤ B ∧ M.runFor n a = b
theorem runFor_add : ∀ (a b : Nat) (m : M), M.runFor (a + b) m = M.runFor b (M.runFor a m)
  | 0, b, m => by rw [Nat.zero_add]; rfl
  | a + 1, b, m => by
    rw [Nat.add_right_comm]
    show (if m.outcome.isSome then m else M.runFor (a + b) m.step) = M.runFor b (if m.outcome.isSome then m else M.runFor a m.step)
    split
    · rename_i h
      cases b with
      | zero => rfl
      | succ b => show m = if m.outcome.isSome then m else _; rw [if_pos h]
    · exact runFor_add a b _
theorem Reach.trans {A B : Nat} {a b c : M} (x : Reach A a b) (y : Reach B b c) : Reach (A + B) a c := by
  obtain ⟨n, hn, rfl⟩ := x
  obtain ⟨k, hk, rfl⟩ := y
  exact ⟨n + k, by omega, runFor_add n k a⟩
theorem Reach.le {A B : Nat} {a b : M} (x : Reach A a b) (h : A ≤ B) : Reach B a b := by
  obtain ⟨n, hn, e⟩ := x
  exact ⟨n, by omega, e⟩
theorem Reach.one {a b : M} (h : a.outcome = none) (e : a.step = b) : Reach 1 a b :=
  ⟨1, Nat.le_refl _, by show (if a.outcome.isSome then a else a.step) = b; rw [h]; exact e⟩
theorem step_exec {m : M} (h1 : m.outcome = none) (h2 : m.answer = none) (h3 : m.pc < m.code.size) : m.step = m.exec := by
  unfold M.step
  rw [h1, h2]
  simp [h3]
theorem exec_lit_no {m : M} (hop : ops[m.word 0]? = some .LITERAL) (h : m.pos < m.lim → m.text.getD m.pos 0 ≠ m.word 1) : m.exec = ({ m with seen := m.seen.add (m.word 0) } : M).say false := by
  unfold M.exec
  rw [hop]
  simp only []
  split
  · rfl
  · rename_i hlt
    have hc := h (by omega)
    have : accepts m.code m.pc (m.text.getD m.pos 0) (m.seen.add (m.word 0)) = .ok (false, m.seen.add (m.word 0)) := by
      unfold accepts
      have hop' : ops[m.code.getD m.pc 0]? = some .LITERAL := hop
      rw [hop']
      show Except.ok (m.text.getD m.pos 0 == m.word 1, _) = _
      rw [beq_false_of_ne hc]
    rw [this]
theorem exec_lit_ok {m : M} (hop : ops[m.word 0]? = some .LITERAL) (h : m.pos < m.lim) (hc : m.text.getD m.pos 0 = m.word 1) : m.exec = { m with seen := m.seen.add (m.word 0), pc := m.pc + 2, pos := m.pos + 1 } := by
  unfold M.exec
  rw [hop]
  simp only []
  rw [if_neg (by omega)]
  have hop' : ops[m.code.getD m.pc 0]? = some .LITERAL := hop
  have : accepts m.code m.pc (m.text.getD m.pos 0) (m.seen.add (m.word 0)) = .ok (true, m.seen.add (m.word 0)) := by
    unfold accepts
    rw [hop']
    show Except.ok (m.text.getD m.pos 0 == m.word 1, _) = _
    rw [hc]; simp
  rw [this]
  have hw : itemWidth m.code m.pc = 2 := by unfold itemWidth; rw [hop']
  simp only [hw]
theorem exec_rep {m : M} {n : Nat} {sn : Seen} (hop : ops[m.word 0]? = some .REPEAT_ONE) (h2 : m.word 2 = 0) (h : m.pos ≤ m.lim)
    (hr : run m.code m.text (m.pc + 4) (min (m.word 3) ((m.lim : Int) - m.pos).toNat) m.pos 0 ((m.seen.add (m.word 0)).add (m.word 4)) = .ok (n, sn)) :
    m.exec = ({ m with seen := sn, pos := m.pos + n } : M).afterRun .giveBack n (({ m with seen := sn, pos := m.pos + n } : M).keep m.inner.isSome) := by
  unfold M.exec
  rw [hop]
  simp only []
  have h2' : ({ m with seen := m.seen.add (m.word 0) } : M).word 2 = 0 := h2
  rw [h2', if_neg (by omega)]
  have hr' : run m.code m.text (m.pc + 4) (min (if (false = true) then 0 else ({ m with seen := m.seen.add (m.word 0) } : M).word 3) ((m.lim : Int) - m.pos).toNat) m.pos 0 ((m.seen.add (m.word 0)).add (({ m with seen := m.seen.add (m.word 0) } : M).word 4)) = .ok (n, sn) := hr
  rw [hr']
  simp only []
  rw [if_neg (by omega)]
  rfl
theorem run13 {text : Array Nat} {k p : Nat} {sn : Seen} : ∃ sn', run UC text 13 (min 1 k) p 0 sn = .ok (if 0 < k ∧ text.getD p 0 = 13 then 1 else 0, sn') := by
  cases k with
  | zero => exact ⟨sn, rfl⟩
  | succ k =>
    have e : min 1 (k + 1) = 1 := by omega
    rw [e]
    by_cases hc : text.getD p 0 = 13
    · refine ⟨sn, ?_⟩
      rw [if_pos ⟨Nat.succ_pos _, hc⟩]
      show ((Except.ok (text.getD p 0 == 13, sn)).bind fun (yes, seen) => if yes then run UC text 13 0 (p + 1) 1 seen else pure (0, seen)) = _
      rw [hc]; rfl
    · refine ⟨sn, ?_⟩
      rw [if_neg (fun h => hc h.2)]
      show ((Except.ok (text.getD p 0 == 13, sn)).bind fun (yes, seen) => if yes then run UC text 13 0 (p + 1) 1 seen else pure (0, seen)) = _
      rw [beq_false_of_ne hc]; rfl
end Mine

end

section
open PySem PySem.Sre
set_option maxRecDepth 100000
set_option maxHeartbeats 1000000
namespace Mine
section
variable (text : Array Nat) (lim L s : Nat)
@[reducible] def Kst (om : Bool) (pc pos handed : Nat) (loops : Array Loop) (inner : Option Nat) (fs : List Sre.Frame) (w : Nat) (ans : Option Bool) (seen : Seen) : M :=
  { code := UC, text, lim, start := s, lastStart := L, pc, pos, handed, outermost := om, marks := #[], lastmark := -1, lastindex := -1, loops, inner, frames := fs, weight := w, answer := ans, seen }
@[reducible] def k0 : Sre.Kept := { lastmark := -1, lastindex := -1, whole := true, marks := #[] }
@[reducible] def gb (om : Bool) (pos : Nat) (count : Int) : Sre.Frame := { wait := .giveBack, pc := 9, pos, outermost := om, count, kept := k0 }
def NL (p p' : Nat) : Prop := (p < lim ∧ text.getD p 0 = 10 ∧ p' = p + 1) ∨ (p + 1 < lim ∧ text.getD p 0 = 13 ∧ text.getD (p + 1) 0 = 10 ∧ p' = p + 2)
end
section
variable {text : Array Nat} {lim L s : Nat} {om : Bool}
theorem attempt_eq {m : M} {f : Sre.Frame} {t fr : Nat} {o : Bool} (h : m.weight + 1 + f.kept.marks.size ≤ 1000) : m.attempt f t fr o = { m with frames := f :: m.frames, weight := m.weight + 1 + f.kept.marks.size, pc := t, pos := fr, handed := fr, outermost := o } := by
  unfold M.attempt; rw [if_neg (by omega)]
theorem rep9 {p hd w : Nat} {loops : Array Loop} {fs : List Sre.Frame} {seen : Seen} (hp : p ≤ lim) (hw : w ≤ 900) :
    ∃ seen', (Kst text lim L s om 9 p hd loops (some 0) fs w none seen).step =
      Kst text lim L s om 16 (p + (if 0 < lim - p ∧ text.getD p 0 = 13 then 1 else 0)) (p + (if 0 < lim - p ∧ text.getD p 0 = 13 then 1 else 0)) loops (some 0)
        (gb om (p + (if 0 < lim - p ∧ text.getD p 0 = 13 then 1 else 0)) ((if 0 < lim - p ∧ text.getD p 0 = 13 then 1 else 0 : Nat) : Int) :: fs) (w + 1) none seen' := by
  obtain ⟨sn, hr⟩ := run13 (text := text) (k := lim - p) (p := p) (sn := (seen.add 24).add 16)
  refine ⟨sn, ?_⟩
  rw [step_exec rfl rfl (by show 9 < 27; decide)]
  have hl : ((lim : Int) - p).toNat = lim - p := by omega
  rw [exec_rep (n := if 0 < lim - p ∧ text.getD p 0 = 13 then 1 else 0) (sn := sn) rfl rfl hp (by
    show run UC text 13 (min 1 ((lim : Int) - p).toNat) p 0 ((seen.add 24).add 16) = _
    rw [hl]; exact hr)]
  generalize (if 0 < lim - p ∧ text.getD p 0 = 13 then 1 else 0) = n
  show M.attempt _ _ _ _ _ = _
  rw [attempt_eq (by show w + 1 + 0 ≤ 1000; omega)]
  rfl
theorem lit16_no {p hd w : Nat} {loops : Array Loop} {fs : List Sre.Frame} {seen : Seen} (h : p < lim → text.getD p 0 ≠ 10) :
    (Kst text lim L s om 16 p hd loops (some 0) fs w none seen).step = Kst text lim L s om 16 p hd loops (some 0) fs w (some false) (seen.add 16) := by
  rw [step_exec rfl rfl (by show 16 < 27; decide), exec_lit_no rfl h]
  rfl
theorem lit16_ok {p hd w : Nat} {loops : Array Loop} {fs : List Sre.Frame} {seen : Seen} (hp : p < lim) (h : text.getD p 0 = 10) :
    (Kst text lim L s om 16 p hd loops (some 0) fs w none seen).step = Kst text lim L s om 18 (p + 1) hd loops (some 0) fs w none (seen.add 16) := by
  rw [step_exec rfl rfl (by show 16 < 27; decide), exec_lit_ok rfl hp h]
  rfl
theorem back0 {p hd w q pc : Nat} {loops : Array Loop} {fs : List Sre.Frame} {seen : Seen} :
    (Kst text lim L s om pc q hd loops (some 0) (gb om p 0 :: fs) (w + 1) (some false) seen).step = Kst text lim L s om 9 p hd loops (some 0) fs w (some false) seen := by
  show M.say (M.putBack _ _) false = _
  rfl
theorem back1 {p hd w q pc : Nat} {loops : Array Loop} {fs : List Sre.Frame} {seen : Seen} (hw : w ≤ 900) :
    (Kst text lim L s om pc q hd loops (some 0) (gb om (p + 1) 1 :: fs) (w + 1) (some false) seen).step = Kst text lim L s om 16 p p loops (some 0) (gb om p 0 :: fs) (w + 1) none seen := by
  show M.attempt _ _ _ _ _ = _
  rw [attempt_eq (by show w + 1 + 0 ≤ 1000; omega)]
  rfl
/-- no line end here -/
theorem inner_no {p hd w : Nat} {loops : Array Loop} {fs : List Sre.Frame} {seen : Seen} (hp : p ≤ lim) (hw : w ≤ 900) (hn : ∀ p', ¬ NL text lim p p') :
    ∃ hd' seen', Reach 6 (Kst text lim L s om 9 p hd loops (some 0) fs w none seen) (Kst text lim L s om 9 p hd' loops (some 0) fs w (some false) seen') := by
  obtain ⟨s1, e1⟩ := rep9 (text := text) (lim := lim) (L := L) (s := s) (om := om) (p := p) (hd := hd) (w := w) (loops := loops) (fs := fs) (seen := seen) hp hw
  have hno : p < lim → text.getD p 0 ≠ 10 := fun h e => hn _ (.inl ⟨h, e, rfl⟩)
  by_cases hc : 0 < lim - p ∧ text.getD p 0 = 13
  · rw [if_pos hc] at e1
    have hno1 : p + 1 < lim → text.getD (p + 1) 0 ≠ 10 := fun h e => hn _ (.inr ⟨h, hc.2, e, rfl⟩)
    refine ⟨_, _, Reach.le ((Reach.one rfl e1).trans ((Reach.one rfl (lit16_no hno1)).trans ((Reach.one rfl (back1 hw)).trans ((Reach.one rfl (lit16_no hno)).trans (Reach.one rfl back0))))) (by decide)⟩
  · rw [if_neg hc] at e1
    exact ⟨_, _, Reach.le ((Reach.one rfl e1).trans ((Reach.one rfl (lit16_no hno)).trans (Reach.one rfl back0))) (by decide)⟩
theorem inner_ok {p p' hd w : Nat} {loops : Array Loop} {fs : List Sre.Frame} {seen : Seen} (hw : w ≤ 900) (hn : NL text lim p p') :
    ∃ q c hd' seen', Reach 2 (Kst text lim L s om 9 p hd loops (some 0) fs w none seen) (Kst text lim L s om 18 p' hd' loops (some 0) (gb om q c :: fs) (w + 1) none seen') := by
  have hp : p ≤ lim := by rcases hn with h | h <;> omega
  obtain ⟨s1, e1⟩ := rep9 (text := text) (lim := lim) (L := L) (s := s) (om := om) (p := p) (hd := hd) (w := w) (loops := loops) (fs := fs) (seen := seen) hp hw
  rcases hn with ⟨h1, h2, rfl⟩ | ⟨h1, h2, h3, rfl⟩
  · rw [if_neg (by rw [h2]; simp)] at e1
    exact ⟨_, _, _, _, (Reach.one rfl e1).trans (Reach.one rfl (lit16_ok h1 h2))⟩
  · rw [if_pos ⟨by omega, h2⟩] at e1
    exact ⟨_, _, _, _, (Reach.one rfl e1).trans (Reach.one rfl (lit16_ok h1 h3))⟩

-- an attempt
@[reducible] def frN (om : Bool) (s : Nat) : Sre.Frame := { wait := .nextStart, pc := 5, pos := s, outermost := om }
@[reducible] def frC (om : Bool) (s : Nat) : Sre.Frame := { wait := .closeLoop, pc := 5, pos := s, outermost := om }
@[reducible] def frB (om : Bool) (s : Nat) : Sre.Frame := { wait := .maxBelow, pc := 19, pos := s, outermost := om, loop := 0, count := 0, kept := {}, began := none }
@[reducible] def At (text : Array Nat) (lim L s : Nat) (om : Bool) (seen : Seen) : M := Kst text lim L s om 5 s s #[] none [frN om s] 1 none seen
theorem at_in {seen : Seen} : Reach 2 (At text lim L s om seen) (Kst text lim L s om 9 s s #[{ pc := 5, count := 0, outer := none }] (some 0) [frB om s, frC om s, frN om s] 3 none ((seen.add 23).add 18)) :=
  (Reach.one rfl rfl).trans (Reach.one rfl rfl)
theorem at_out {hd : Nat} {seen : Seen} (h : s < L) : Reach 3 (Kst text lim L s om 9 s hd #[{ pc := 5, count := 0, outer := none }] (some 0) [frB om s, frC om s, frN om s] 3 (some false) seen) (At text lim L (s + 1) false seen) := by
  refine (Reach.one rfl rfl).trans ((Reach.one rfl rfl).trans (Reach.one (b := At text lim L (s + 1) false seen) rfl ?_))
  show (if s < L then _ else _) = _
  rw [if_pos h]
  rfl
theorem at_end {hd : Nat} {seen : Seen} (h : ¬ s < L) : ∃ m', Reach 4 (Kst text lim L s om 9 s hd #[{ pc := 5, count := 0, outer := none }] (some 0) [frB om s, frC om s, frN om s] 3 (some false) seen) m' ∧ m'.outcome = some .failed := by
  refine ⟨_, (Reach.one rfl rfl).trans ((Reach.one rfl rfl).trans ((Reach.one (b := Kst text lim L s om 5 s hd #[] none [] 0 (some false) seen) rfl ?_).trans (Reach.one rfl rfl))), rfl⟩
  show (if s < L then _ else _) = _
  rw [if_neg h]
  rfl
/-- no line end: on to the next start -/
theorem at_next {seen : Seen} (hs : s ≤ lim) (h : s < L) (hn : ∀ p', ¬ NL text lim s p') : ∃ seen', Reach 11 (At text lim L s om seen) (At text lim L (s + 1) false seen') := by
  obtain ⟨hd, sn, r⟩ := inner_no (text := text) (lim := lim) (L := L) (s := s) (om := om) (p := s) (hd := s) (w := 3) (loops := #[{ pc := 5, count := 0, outer := none }]) (fs := [frB om s, frC om s, frN om s]) (seen := (seen.add 23).add 18) hs (by decide) hn
  exact ⟨_, at_in.trans (r.trans (at_out h))⟩
theorem at_fail {seen : Seen} (hs : s ≤ lim) (h : ¬ s < L) (hn : ∀ p', ¬ NL text lim s p') : ∃ m', Reach 12 (At text lim L s om seen) m' ∧ m'.outcome = some .failed := by
  obtain ⟨hd, sn, r⟩ := inner_no (text := text) (lim := lim) (L := L) (s := s) (om := om) (p := s) (hd := s) (w := 3) (loops := #[{ pc := 5, count := 0, outer := none }]) (fs := [frB om s, frC om s, frN om s]) (seen := (seen.add 23).add 18) hs (by decide) hn
  obtain ⟨m', r', e⟩ := at_end (hd := hd) (seen := sn) (text := text) (lim := lim) (om := om) h
  exact ⟨m', at_in.trans (r.trans r'), e⟩
end
end Mine

end

section
open PySem PySem.Sre
set_option maxRecDepth 100000
set_option maxHeartbeats 1000000
namespace Mine
def yesW : Wait → Bool
  | .giveBack | .maxMore | .maxTail | .maxBelow | .closeLoop | .nextStart => true
  | _ => false
theorem unwind_yes : ∀ (fs : List Sre.Frame) (m : M), (∀ f ∈ fs, yesW f.wait = true) → m.frames = fs → m.answer = some true → m.outcome = none →
    ∃ m', Reach (fs.length + 1) m m' ∧ m'.outcome = some .matched ∧ m'.start = m.start ∧ m'.handed = m.handed
  | [], m, _, hf, ha, ho => by
    refine ⟨m.step, Reach.one ho rfl, ?_, ?_, ?_⟩ <;> (unfold M.step; rw [ho, ha, hf]; rfl)
  | f :: rest, m, hy, hf, ha, ho => by
    have hw := hy f (.head _)
    have key : ∃ m1, m.step = m1 ∧ m1.frames = rest ∧ m1.answer = some true ∧ m1.outcome = none ∧ m1.start = m.start ∧ m1.handed = m.handed := by
      cases m
      simp only at hf ha ho
      subst hf ha ho
      obtain ⟨wt, f1, f2, f3, f4, f5, f6, f7⟩ := f
      cases wt <;> first | (cases hw; done) | exact ⟨_, rfl, rfl, rfl, rfl, rfl, rfl⟩
    obtain ⟨m1, e, k1, k2, k3, k4, k5⟩ := key
    obtain ⟨m', r, q1, q2, q3⟩ := unwind_yes rest m1 (fun f hf => hy f (.tail _ hf)) k1 k2 k3
    refine ⟨m', ?_, q1, q2.trans k4, q3.trans k5⟩
    exact ((Reach.one ho e).trans r).le (by rw [List.length_cons]; omega)
section
variable {text : Array Nat} {lim L s : Nat} {om : Bool}
@[reducible] def frM (om : Bool) (p : Nat) (c : Int) (lb : Option Nat) : Sre.Frame := { wait := .maxMore, pc := 19, pos := p, outermost := om, loop := 0, count := c, kept := k0, began := lb }
@[reducible] def frT (om : Bool) (p : Nat) (c : Int) : Sre.Frame := { wait := .maxTail, pc := 19, pos := p, outermost := om, loop := 0, count := c, kept := { lastmark := -1, lastindex := -1 } }
theorem until_more {p hd w : Nat} {lc : Int} {lb : Option Nat} {fs : List Sre.Frame} {seen : Seen} (h0 : 0 ≤ lc) (hlc : lc ≤ 100) (hb : lb ≠ some p) (hw : w ≤ 900) :
    (Kst text lim L s om 18 p hd #[{ pc := 5, count := lc, began := lb, outer := none }] (some 0) fs w none seen).step =
      Kst text lim L s om 9 p p #[{ pc := 5, count := lc + 1, began := some p, outer := none }] (some 0) (frM om p (lc + 1) lb :: fs) (w + 1) none (seen.add 18) := by
  rw [step_exec rfl rfl (by show 18 < 27; decide)]
  show (if lc + 1 < (1 : Nat) then _ else if (!true) = true then _ else if ((decide (lc + 1 < (4294967295 : Nat)) || (4294967295 == maxRepeat)) && lb != some p) = true then _ else _) = _
  rw [if_neg (by omega), if_neg (by decide), if_pos (by
    have h1 : lc + 1 < ((4294967295 : Nat) : Int) := by omega
    rw [decide_eq_true h1, Bool.true_or, Bool.true_and]
    exact bne_iff_ne.mpr hb)]
  show M.attempt _ _ _ _ _ = _
  rw [attempt_eq (by show w + 1 + 0 ≤ 1000; omega)]
  rfl
theorem more_tail {p q hd w pc : Nat} {lc c2 : Int} {lb b2 : Option Nat} {fs : List Sre.Frame} {seen : Seen} (hw : w ≤ 900) :
    (Kst text lim L s om pc q hd #[{ pc := 5, count := c2, began := b2, outer := none }] (some 0) (frM om p (lc + 1) lb :: fs) (w + 1) (some false) seen).step =
      Kst text lim L s om 19 p p #[{ pc := 5, count := lc + 1 - 1, began := lb, outer := none }] none (frT om p (lc + 1) :: fs) (w + 1) none seen := by
  show M.attempt _ _ _ _ _ = _
  rw [attempt_eq (by show w + 1 + 0 ≤ 1000; omega)]
  rfl
theorem in19 {p hd w : Nat} {loops : Array Loop} {fs : List Sre.Frame} {seen : Seen} (hp : p < lim) (h : text.getD p 0 = 32 ∨ text.getD p 0 = 9) :
    ∃ seen', (Kst text lim L s om 19 p hd loops none fs w none seen).step = Kst text lim L s om 26 (p + 1) hd loops none fs w none seen' := by
  have acc : ∃ sn, accepts UC 19 (text.getD p 0) (seen.add 13) = .ok (true, sn) := by
    rcases h with h | h <;> rw [h]
    · exact ⟨_, rfl⟩
    · exact ⟨_, rfl⟩
  obtain ⟨sn, ea⟩ := acc
  refine ⟨sn, ?_⟩
  rw [step_exec rfl rfl (by show 19 < 27; decide)]
  show (if p ≥ lim then _ else match accepts UC 19 (text.getD p 0) (seen.add 13) with | .error why => _ | .ok (false, seen) => _ | .ok (true, seen) => _) = _
  rw [if_neg (by omega), ea]
  rfl
theorem succ26 {q hd w : Nat} {loops : Array Loop} {fs : List Sre.Frame} {seen : Seen} :
    (Kst text lim L s om 26 q hd loops none fs w none seen).step = Kst text lim L s om 26 q q loops none fs w (some true) (seen.add 1) := by
  rw [step_exec rfl rfl (by show 26 < 27; decide)]
  cases om <;> rfl

inductive Run (text : Array Nat) (lim : Nat) : Nat → Nat → Nat → Prop
  | blank {p} : p < lim → (text.getD p 0 = 32 ∨ text.getD p 0 = 9) → Run text lim 0 p (p + 1)
  | more {n p p' q} : NL text lim p p' → Run text lim n p' q → Run text lim (n + 1) p q
theorem blank_no {p : Nat} (h : text.getD p 0 = 32 ∨ text.getD p 0 = 9) (p' : Nat) : ¬ NL text lim p p' := by
  rintro (⟨_, h2, _⟩ | ⟨_, h2, _⟩) <;> rcases h with h | h <;> rw [h] at h2 <;> cases h2
theorem nl_lt {p p' : Nat} (h : NL text lim p p') : p < p' := by rcases h with h | h <;> omega
theorem from18 {n p q : Nat} (hr : Run text lim n p q) : ∀ (hd w : Nat) (lc : Int) (lb : Option Nat) (fs : List Sre.Frame) (seen : Seen), 0 ≤ lc → lc + n ≤ 100 → (∀ b, lb = some b → b < p) → w + 2 * n ≤ 800 → (∀ f ∈ fs, yesW f.wait = true) →
    ∃ m', Reach (14 + 20 * n + fs.length) (Kst text lim L s om 18 p hd #[{ pc := 5, count := lc, began := lb, outer := none }] (some 0) fs w none seen) m' ∧ m'.outcome = some .matched ∧ m'.start = s ∧ m'.handed = q := by
  induction hr with
  | @blank p hp hb =>
    intro hd w lc lb fs seen h0 hlc hlb hw hy
    obtain ⟨hd1, s1, r1⟩ := inner_no (text := text) (lim := lim) (L := L) (s := s) (om := om) (p := p) (hd := p) (w := w + 1) (loops := #[{ pc := 5, count := lc + 1, began := some p, outer := none }]) (fs := frM om p (lc + 1) lb :: fs) (seen := seen.add 18) (by omega) (by omega) (blank_no hb)
    obtain ⟨s2, e2⟩ := in19 (text := text) (lim := lim) (L := L) (s := s) (om := om) (hd := p) (w := w + 1) (loops := #[{ pc := 5, count := lc + 1 - 1, began := lb, outer := none }]) (fs := frT om p (lc + 1) :: fs) (seen := s1) hp hb
    obtain ⟨m', r3, q1, q2, q3⟩ := unwind_yes (frT om p (lc + 1) :: fs) (Kst text lim L s om 26 (p + 1) (p + 1) #[{ pc := 5, count := lc + 1 - 1, began := lb, outer := none }] none (frT om p (lc + 1) :: fs) (w + 1) (some true) (s2.add 1)) (fun f hf => by
      rcases List.mem_cons.mp hf with rfl | hf
      · rfl
      · exact hy f hf) rfl rfl rfl
    refine ⟨m', Reach.le ((Reach.one rfl (until_more h0 (by omega) (fun e => absurd (hlb _ e) (Nat.lt_irrefl _)) (by omega))).trans (r1.trans ((Reach.one rfl (more_tail (by omega))).trans ((Reach.one rfl e2).trans ((Reach.one rfl succ26).trans r3))))) (by rw [List.length_cons]; omega), q1, q2, q3⟩
  | @more n p p' q hn _ ih =>
    intro hd w lc lb fs seen h0 hlc hlb hw hy
    obtain ⟨a, c, hd1, s1, r1⟩ := inner_ok (text := text) (lim := lim) (L := L) (s := s) (om := om) (hd := p) (w := w + 1) (loops := #[{ pc := 5, count := lc + 1, began := some p, outer := none }]) (fs := frM om p (lc + 1) lb :: fs) (seen := seen.add 18) (by omega) hn
    obtain ⟨m', r2, q1, q2, q3⟩ := ih hd1 (w + 1 + 1) (lc + 1) (some p) (gb om a c :: frM om p (lc + 1) lb :: fs) s1 (by omega) (by omega) (fun b e => by cases e; exact nl_lt hn) (by omega) (fun f hf => by
      rcases List.mem_cons.mp hf with rfl | hf
      · rfl
      · rcases List.mem_cons.mp hf with rfl | hf
        · rfl
        · exact hy f hf)
    refine ⟨m', Reach.le ((Reach.one rfl (until_more h0 (by omega) (fun e => absurd (hlb _ e) (Nat.lt_irrefl _)) (by omega))).trans (r1.trans r2)) (by simp only [List.length_cons]; omega), q1, q2, q3⟩
/-- a fold here -/
theorem at_match {n p q : Nat} {seen : Seen} (hn : NL text lim s p) (hr : Run text lim n p q) (hN : n ≤ 50) : ∃ m', Reach 1100 (At text lim L s om seen) m' ∧ m'.outcome = some .matched ∧ m'.start = s ∧ m'.handed = q := by
  obtain ⟨a, c, hd1, s1, r1⟩ := inner_ok (text := text) (lim := lim) (L := L) (s := s) (om := om) (hd := s) (w := 3) (loops := #[{ pc := 5, count := 0, outer := none }]) (fs := [frB om s, frC om s, frN om s]) (seen := (seen.add 23).add 18) (by decide) hn
  obtain ⟨m', r2, q1, q2, q3⟩ := from18 (L := L) (s := s) (om := om) hr hd1 4 0 none [gb om a c, frB om s, frC om s, frN om s] s1 (by omega) (by omega) (fun b e => by cases e) (by omega) (fun f hf => by
    simp only [List.mem_cons, List.not_mem_nil, or_false] at hf
    rcases hf with rfl | rfl | rfl | rfl <;> rfl)
  refine ⟨m', Reach.le (at_in.trans (r1.trans r2)) ?_, q1, q2, q3⟩
  simp only [List.length_cons, List.length_nil]; omega
end
end Mine

end

section
open PySem PySem.Sre
set_option maxRecDepth 100000
set_option maxHeartbeats 1000000
namespace Mine
section
variable {text : Array Nat} {lim : Nat}
theorem walk_to {L : Nat} : ∀ (k s0 : Nat) (om : Bool) (seen : Seen), s0 + k ≤ L → L ≤ lim → (∀ i, s0 ≤ i → i < s0 + k → ∀ p, ¬ NL text lim i p) → ∃ om' seen', Reach (11 * k) (At text lim L s0 om seen) (At text lim L (s0 + k) om' seen')
  | 0, s0, om, seen, _, _, _ => ⟨om, seen, 0, Nat.zero_le _, rfl⟩
  | k + 1, s0, om, seen, hL, hl, hn => by
    obtain ⟨s1, r1⟩ := at_next (text := text) (lim := lim) (L := L) (s := s0) (om := om) (seen := seen) (by omega) (by omega) (hn s0 (Nat.le_refl _) (by omega))
    obtain ⟨o2, s2, r2⟩ := walk_to k (s0 + 1) false s1 (by omega) hl (fun i h1 h2 => hn i (by omega) (by omega))
    refine ⟨o2, s2, ?_⟩
    rw [show s0 + (k + 1) = s0 + 1 + k by omega]
    exact (r1.trans r2).le (by omega)
theorem search_eq {s0 : Nat} (h : s0 + 2 ≤ lim) : ∃ seen, forSearch UC text 0 s0 lim false = At text lim (max s0 (lim - 1)) s0 true seen := by
  refine ⟨({} : Seen).add 14, ?_⟩
  show (if (decide (s0 > lim) || decide (lim - s0 < 2)) = true then _ else _) = _
  rw [if_neg (by
    have h1 : ¬ s0 > lim := by omega
    have h2 : ¬ lim - s0 < 2 := by omega
    rw [decide_eq_false h1, decide_eq_false h2]; decide)]
  rfl
theorem search_found {s0 s n p q : Nat} (hs : s0 ≤ s) (hno : ∀ i, s0 ≤ i → i < s → ∀ p, ¬ NL text lim i p) (hn : NL text lim s p) (hr : Run text lim n p q) (hN : n ≤ 50) :
    ∃ m', Reach (11 * (s - s0) + 1100) (forSearch UC text 0 s0 lim false) m' ∧ m'.outcome = some .matched ∧ m'.start = s ∧ m'.handed = q := by
  have hp : p < lim := by cases hr with
    | blank h _ => exact h
    | more h _ => rcases h with h | h <;> omega
  have hsp := nl_lt hn
  obtain ⟨seen, e⟩ := search_eq (text := text) (s0 := s0) (lim := lim) (by omega)
  rw [e]
  obtain ⟨o1, s1, r1⟩ := walk_to (text := text) (lim := lim) (L := max s0 (lim - 1)) (s - s0) s0 true seen (by omega) (by omega) (fun i h1 h2 => hno i h1 (by omega))
  rw [show s0 + (s - s0) = s by omega] at r1
  obtain ⟨m', r2, q1, q2, q3⟩ := at_match (L := max s0 (lim - 1)) (seen := s1) (om := o1) hn hr hN
  exact ⟨m', r1.trans r2, q1, q2, q3⟩
theorem search_none {s0 : Nat} (hs : s0 ≤ lim) (hno : ∀ i, s0 ≤ i → i < lim → ∀ p, ¬ NL text lim i p) :
    ∃ m', Reach (11 * (lim - s0) + 12) (forSearch UC text 0 s0 lim false) m' ∧ m'.outcome = some .failed := by
  by_cases h : s0 + 2 ≤ lim
  · obtain ⟨seen, e⟩ := search_eq (text := text) (s0 := s0) (lim := lim) h
    rw [e]
    obtain ⟨o1, s1, r1⟩ := walk_to (text := text) (lim := lim) (L := max s0 (lim - 1)) (lim - 1 - s0) s0 true seen (by omega) (by omega) (fun i h1 h2 => hno i h1 (by omega))
    rw [show s0 + (lim - 1 - s0) = lim - 1 by omega] at r1
    obtain ⟨m', r2, q1⟩ := at_fail (text := text) (lim := lim) (L := max s0 (lim - 1)) (s := lim - 1) (om := o1) (seen := s1) (by omega) (by omega) (hno _ (by omega) (by omega))
    exact ⟨m', (r1.trans r2).le (by omega), q1⟩
  · refine ⟨_, Reach.le (Reach.one (b := M.step (forSearch UC text 0 s0 lim false)) ?_ rfl) (by omega), ?_⟩ <;>
    · have e : forSearch UC text 0 s0 lim false = if (decide (s0 > lim) || decide (lim - s0 < 2)) = true then _ else _ := rfl
      rw [e, if_pos (by
        have h2 : lim - s0 < 2 := by omega
        rw [decide_eq_true h2, Bool.or_true])]
      rfl
end

section
open Builtin.Re
variable {M : Model} {A : Around} {E : Value → Shared → Prop} {s : Shared}
theorem runFor_done : ∀ (n : Nat) (m : Sre.M), m.outcome.isSome = true → Sre.M.runFor n m = m
  | 0, _, _ => rfl
  | n + 1, m, h => by show (if m.outcome.isSome then m else _) = m; rw [if_pos h]
theorem drive {m' : Sre.M} (hm : m'.outcome.isSome = true) {Q : Sre.M → Shared → Prop} (hq : Q m' s) : ∀ (n turns : Nat) (m : Sre.M), Sre.M.runFor n m = m' → n < 4 * turns → wpAny M A (reDrive turns m) Q E s
  | n, 0, m, _, h => by omega
  | n, turns + 1, m, e, h => by
    show wpAny M A (if (Sre.M.runFor reTurnSteps m).outcome.isSome then pure (Sre.M.runFor reTurnSteps m) else do rule "sre.turn"; reDrive turns (Sre.M.runFor reTurnSteps m)) Q E s
    by_cases hd : (Sre.M.runFor reTurnSteps m).outcome.isSome = true
    · rw [if_pos hd]
      have : Sre.M.runFor reTurnSteps m = m' := by
        rcases Nat.lt_or_ge n 4 with hn | hn
        · have e4 : reTurnSteps = n + (4 - n) := by show 4 = _; omega
          rw [e4, runFor_add, e, runFor_done _ _ hm]
        · have en : n = 4 + (n - 4) := by omega
          rw [en, runFor_add] at e
          rw [← e]
          exact (runFor_done _ _ hd).symm
      rw [this]
      exact wpAny_pure hq
    · rw [if_neg hd]
      refine wpAny_bind (wpAny_rule ?_)
      have hn : 4 ≤ n := by
        rcases Nat.lt_or_ge n 4 with hn | hn
        · exfalso
          have e4 : reTurnSteps = n + (4 - n) := by show 4 = _; omega
          rw [e4, runFor_add, e, runFor_done _ _ hm] at hd
          exact hd hm
        · exact hn
      refine drive hm hq (n - 4) turns _ ?_ (by omega)
      have en : n = 4 + (n - 4) := by omega
      rw [en, runFor_add] at e
      exact e
theorem marks {Q : Unit → Shared → Prop} {sn : Seen} (hq : Q () s) : ∀ l : List Nat, wpAny M A (forIn l PUnit.unit (fun i _ => if sn.has i = true then (do rule (Sre.names.getD i ""); pure (ForInStep.yield PUnit.unit)) else pure (ForInStep.yield PUnit.unit)) : Sem PUnit) Q E s
  | [] => wpAny_pure hq
  | i :: r => by
    rw [List.forIn_cons]
    refine wpAny_bind ?_
    split
    · exact wpAny_bind (wpAny_rule (wpAny_pure (marks hq r)))
    · exact wpAny_pure (marks hq r)
theorem to_match {m m' : Sre.M} {B : Nat} (r : Reach B m m') (hB : B < 2 ^ 64) (ho : m'.outcome = some .matched) {Q : Option Sre.M → Shared → Prop} (hq : Q (some m') s) : wpAny M A (reRunToEnd m) Q E s := by
  obtain ⟨n, hn, e⟩ := r
  unfold reRunToEnd
  refine wpAny_bind (drive (by rw [ho]; rfl) ?_ n (2 ^ 64) m e (by omega))
  refine wpAny_bind (marks ?_ _)
  rw [ho]
  exact wpAny_pure hq
theorem to_none {m m' : Sre.M} {B : Nat} (r : Reach B m m') (hB : B < 2 ^ 64) (ho : m'.outcome = some .failed) {Q : Option Sre.M → Shared → Prop} (hq : Q none s) : wpAny M A (reRunToEnd m) Q E s := by
  obtain ⟨n, hn, e⟩ := r
  unfold reRunToEnd
  refine wpAny_bind (drive (by rw [ho]; rfl) ?_ n (2 ^ 64) m e (by omega))
  refine wpAny_bind (marks ?_ _)
  rw [ho]
  exact wpAny_pure hq
end
end Mine

end

section
open PySem PySem.Sre
set_option maxRecDepth 100000
set_option maxHeartbeats 1000000
namespace Mine
/-- what a fold is made of -/
def isSep (sep : List Nat) : Prop := sep = [13, 10, 32] ∨ sep = [10, 32] ∨ sep = [13, 10, 9] ∨ sep = [10, 13, 10, 32]
/-- a text with folds, and what it unfolds to -/
inductive Fold : List Nat → List Nat → Prop
  | last {a} : 10 ∉ a → Fold a a
  | cut {a sep b out} : 10 ∉ a → isSep sep → (a.getLast? = some 13 → sep.head? = some 13) → Fold b out → Fold (a ++ sep ++ b) (a ++ out)
theorem getD_mid (pre a : List Nat) (i : Nat) (b : List Nat) (h1 : pre.length ≤ i) (h2 : i < pre.length + a.length) : (pre ++ (a ++ b)).toArray.getD i 0 = a.getD (i - pre.length) 0 := by
  simp only [Array.getD_eq_getD_getElem?, List.getElem?_toArray, List.getD_eq_getElem?_getD]
  rw [List.getElem?_append_right h1, List.getElem?_append_left (by omega)]
theorem getD_in {a : List Nat} {i : Nat} (h : i < a.length) : a.getD i 0 ∈ a := by
  rw [List.getD_eq_getElem?_getD, List.getElem?_eq_getElem h]; exact List.getElem_mem h
theorem no_last {pre a : List Nat} (ha : 10 ∉ a) {i : Nat} (h1 : pre.length ≤ i) (p : Nat) : ¬ NL (pre ++ a).toArray (pre ++ a).length i p := by
  have e : ∀ j, pre.length ≤ j → j < (pre ++ a).length → (pre ++ a).toArray.getD j 0 ≠ 10 := by
    intro j hj1 hj2 hc
    rw [List.length_append] at hj2
    have := getD_mid pre a j [] hj1 hj2
    rw [List.append_nil] at this
    rw [this] at hc
    exact ha (hc ▸ getD_in (by omega))
  rintro (⟨q1, q2, _⟩ | ⟨q1, _, q3, _⟩)
  · exact e i h1 q1 q2
  · exact e (i + 1) (by omega) q1 q3
theorem sep_at (pre a sep b : List Nat) (j : Nat) (h : j < sep.length) : (pre ++ (a ++ sep ++ b)).toArray.getD (pre.length + a.length + j) 0 = sep.getD j 0 := by
  have e : pre ++ (a ++ sep ++ b) = (pre ++ a) ++ (sep ++ b) := by simp
  rw [e]
  have := getD_mid (pre ++ a) sep (pre.length + a.length + j) b (by rw [List.length_append]; omega) (by rw [List.length_append]; omega)
  rw [this, List.length_append, Nat.add_sub_cancel_left]
theorem no_cut {pre a sep b : List Nat} (ha : 10 ∉ a) (hs : isSep sep) (hl : a.getLast? = some 13 → sep.head? = some 13) {i : Nat} (h1 : pre.length ≤ i) (h2 : i < pre.length + a.length) (p : Nat) :
    ¬ NL (pre ++ (a ++ sep ++ b)).toArray (pre ++ (a ++ sep ++ b)).length i p := by
  have e : ∀ j, pre.length ≤ j → j < pre.length + a.length → (pre ++ (a ++ sep ++ b)).toArray.getD j 0 ≠ 10 := by
    intro j hj1 hj2 hc
    have := getD_mid pre a j (sep ++ b) hj1 hj2
    rw [← List.append_assoc a] at this
    rw [this] at hc
    exact ha (hc ▸ getD_in (by omega))
  rintro (⟨_, q2, _⟩ | ⟨_, q2, q3, _⟩)
  · exact e i h1 h2 q2
  · rcases Nat.lt_or_ge (i + 1) (pre.length + a.length) with h3 | h3
    · exact e (i + 1) (by omega) h3 q3
    · have h4 : i + 1 = pre.length + a.length + 0 := by omega
      have hsl : 0 < sep.length := by rcases hs with rfl | rfl | rfl | rfl <;> decide
      rw [h4, sep_at pre a sep b 0 hsl] at q3
      have hi : (pre ++ (a ++ sep ++ b)).toArray.getD i 0 = a.getD (a.length - 1) 0 := by
        have := getD_mid pre a i (sep ++ b) h1 h2
        rw [← List.append_assoc a] at this
        rw [this]
        congr 1; omega
      rw [hi] at q2
      have : a.getLast? = some 13 := by
        rw [List.getLast?_eq_getElem?]
        rw [List.getD_eq_getElem?_getD, List.getElem?_eq_getElem (by omega)] at q2
        rw [List.getElem?_eq_getElem (by omega)]
        exact congrArg some q2
      have := hl this
      rcases hs with rfl | rfl | rfl | rfl <;> first | (cases this; done) | (cases q3; done)
theorem run_sep (pre a sep b : List Nat) (hs : isSep sep) : ∃ n p, NL (pre ++ (a ++ sep ++ b)).toArray (pre ++ (a ++ sep ++ b)).length (pre.length + a.length) p ∧ Run (pre ++ (a ++ sep ++ b)).toArray (pre ++ (a ++ sep ++ b)).length n p (pre.length + a.length + sep.length) ∧ n ≤ 50 := by
  have g := sep_at pre a sep b
  have hlen : (pre ++ (a ++ sep ++ b)).length = pre.length + a.length + sep.length + b.length := by simp; omega
  generalize (pre ++ (a ++ sep ++ b)).toArray = T at g ⊢
  rw [hlen]
  rcases hs with rfl | rfl | rfl | rfl
  · have g0 := g 0 (by decide); have g1 := g 1 (by decide); have g2 := g 2 (by decide)
    refine ⟨0, _, .inr ⟨?_, g0, g1, rfl⟩, .blank ?_ (.inl g2), by decide⟩ <;> simp <;> omega
  · have g0 := g 0 (by decide); have g1 := g 1 (by decide)
    refine ⟨0, _, .inl ⟨?_, g0, rfl⟩, .blank ?_ (.inl g1), by decide⟩ <;> simp <;> omega
  · have g0 := g 0 (by decide); have g1 := g 1 (by decide); have g2 := g 2 (by decide)
    refine ⟨0, _, .inr ⟨?_, g0, g1, rfl⟩, .blank ?_ (.inr g2), by decide⟩ <;> simp <;> omega
  · have g0 := g 0 (by decide); have g1 := g 1 (by decide); have g2 := g 2 (by decide); have g3 := g 3 (by decide)
    refine ⟨1, _, .inl ⟨?_, g0, rfl⟩, .more (.inr ⟨?_, g1, g2, rfl⟩) (.blank ?_ (.inl g3)), by decide⟩ <;> simp <;> omega
/-- a text joined at a fold -/
theorem fold_join {limit : Nat} {sep : List Nat} (hs : sep = [13, 10, 32]) : ∀ (P : List (List Nat)), P ≠ [] → (∀ p ∈ P, 10 ∉ p) → Fold (joinL sep P) P.flatten
  | [], h, _ => absurd rfl h
  | [x], _, h => by
    show Fold x ([x].flatten)
    have : [x].flatten = x := by simp
    rw [this]; exact .last (h x (.head _))
  | x :: y :: r, _, h => by
    have ih := fold_join (limit := limit) hs (y :: r) (by simp) (fun p hp => h p (.tail _ hp))
    show Fold (x ++ sep ++ joinL sep (y :: r)) ((x :: y :: r).flatten)
    rw [List.flatten_cons]
    exact .cut (h x (.head _)) (.inl hs) (fun _ => by rw [hs]; rfl) ih
theorem Pieces.flat {limit : Nat} {l : List Nat} {P : List (List Nat)} (h : Pieces limit l P) : P.flatten = l := by
  induction h with
  | nil => rfl
  | cons _ _ ih => rw [List.flatten_cons, ih, List.take_append_drop]
end Mine

end

section
open PySem PySem.W PyProof.Rows PySem.Calls
set_option maxRecDepth 100000
set_option maxHeartbeats 1000000
namespace Mine
open Builtin Builtin.Re
theorem plainAttrs_pat : PlainAttrs "re.Pattern" :=
  ⟨⟨"object.__getattribute__", by rw [typeLookup_type, builtinLookup_eq_fast]; kernel_rfl, by decide +kernel⟩, by rw [typeLookup_type, builtinLookup_eq_fast]; kernel_rfl⟩
theorem slot_pat_sub : Slot "re.Pattern" "sub" "re.Pattern.sub" :=
  .of (owner := "re.Pattern") (n := "sub") (by rw [typeLookup_type, builtinLookup_eq_fast]; kernel_rfl) (by decide +kernel) (by decide +kernel) (by decide +kernel)
    (by first | exact .inl (by decide +kernel) | exact .inr (by decide +kernel)) (by rw [isSubtype_type]; kernel_rfl)
theorem type_pat_sub : typeOf (.builtin "re.Pattern.sub") = pure (.type "method_descriptor") := by show builtinType _ = _; rw [builtinType_eq_fast]; kernel_rfl
theorem entry_pat_sub : entryFor table "re.Pattern.sub" = some Builtin.«re.Pattern.sub» := entryFor_of_tree (by kernel_rfl)
theorem entry_pat_loop : entryFor table "re.Pattern.sub.loop" = some Builtin.«re.Pattern.sub.loop» := entryFor_of_tree (by kernel_rfl)
theorem args_pat_sub (a b c : Value) : argsOk "re.Pattern.sub" ⟨[a, b, c], []⟩ := by unfold argsOk; kernel_rfl
section
variable {M : Model} {A : Around} {E : Value → Shared → Prop} {P : Params}
theorem target {x : List Nat} {u : Tok} {Q : ReTarget → Shared → Prop} {s : Shared} (h1 : s.heap.get? 351 = some (ob351 P)) (h2 : s.heap.get? 350 = some (ob350 P))
    (hq : Q { pattern := .ref 351, string := .str (mkS x) u, code := UC, text := x.toArray, kind := 0, groups := 0, pos := 0, lim := x.toArray.size } s) :
    wpAny M A (reWholeTarget (.ref 351) (.str (mkS x) u)) Q E s := by
  obtain ⟨h, g, d, t, os⟩ := s
  unfold reWholeTarget
  repeat lk
  refine (congrArg (fun c => Q { pattern := .ref 351, string := .str (mkS x) u, code := c, text := x.toArray, kind := 0, groups := 0, pos := 0, lim := x.toArray.size } _) ?_).mpr hq
  decide +kernel
theorem lit_ok {x : Str} {u : Tok} {Q : Unit → Shared → Prop} {s : Shared} (hq : Q () s) : wpAny M A (reLiteralCannotBeTurned (.str x u)) Q E s := by
  obtain ⟨h, g, d, t, os⟩ := s
  unfold reLiteralCannotBeTurned
  repeat lk
  exact hq
end
section
variable {prog : Program} {w : World} {P : Params}
theorem joinL_flat : ∀ parts : List (List Nat), joinL [] parts = parts.flatten
  | [] => rfl
  | [x] => by simp [joinL]
  | x :: y :: r => by
    show x ++ [] ++ joinL [] (y :: r) = _
    rw [joinL_flat (y :: r)]; simp
def Kept (L : Addr) (h h' : Heap) : Prop := ∀ b o, b ≠ L → h.get? b = some o → h'.get? b = some o
theorem Kept.refl (L : Addr) (h : Heap) : Kept L h h := fun _ _ _ e => e
theorem Kept.trans {L : Addr} {a b c : Heap} (x : Kept L a b) (y : Kept L b c) : Kept L a c := fun p o n e => y p o n (x p o n e)
theorem push_ok {A : Around} {E : Value → Shared → Prop} {s : Shared} {L : Addr} {items : List Value} {k : Nat} {x : Value} {Q : Unit → Shared → Prop} (hl : IsL s.heap L items.toArray k) (hz : items.length ≤ 2 ^ 20)
    (hq : ∀ h', Kept L s.heap h' → (∃ k, IsL h' L (items ++ [x]).toArray k) → Q () (St s h' s.toks)) : wpAny (model prog w) A (updateSeq L fun xs => xs.push x) Q E s := by
  have hu := hl.update fun xs => xs.push x
  simp only [List.push_toArray] at hu
  have e5 : (2 : Nat) ^ 20 + 1 ≤ sizeLine := by decide
  refine wpAny_updateSeq hl rfl (hq _ (fun b o n e => ?_) ⟨_, hu⟩) (by rw [List.size_toArray]; omega) (by simp; omega)
  exact (Heap.get?_update_other s.heap _ (Ne.symm n)).trans e
theorem slice_ok {A : Around} {E : Value → Shared → Prop} {s : Shared} {x : List Nat} {b e : Nat} {Q : Value → Shared → Prop} (hz : x.length ≤ 2 ^ 20) (hq : ∀ u t', Q (.str ⟨x.toArray.extract b e⟩ u) (St s s.heap t')) : wpAny (model prog w) A (reSlice x.toArray 0 b e) Q E s := by
  unfold reSlice
  rw [if_pos (show ((0 : Nat) == 0) = true from rfl)]
  refine wpAny_mkStr (hq _ _) ?_
  have e5 : (2 : Nat) ^ 20 ≤ sizeLine := by decide
  show (x.toArray.extract b e).size ≤ _
  rw [Array.size_extract, List.size_toArray]
  omega
theorem tail_ok {A : Around} {E : Value → Shared → Prop} {s : Shared} {x : List Nat} {L : Addr} {items : List Value} {parts : List (List Nat)} {k : Nat} {Q : Fin → Shared → Prop} (hx : x.length ≤ 2 ^ 20) (hl : IsL s.heap L items.toArray k) (hs : Strs items parts)
    (hp : parts.length ≤ 2 ^ 13) (hp2 : ∀ p ∈ parts, p.length ≤ 900) (hq : ∀ u t', Q (.done (.ret (.str (mkS parts.flatten) u))) (St s s.heap t')) :
    wpAny (model prog w) A (do
      let joiner ← reSlice x.toArray 0 0 0
      let __do_lift ← seqItems? (Value.ref L)
      if (__do_lift.getD #[]).isEmpty = true then do
          let __do_lift ← pure joiner
          ret __do_lift
        else do
          let __do_lift ← call (Value.builtin "str.join") [joiner, Value.ref L]
          ret __do_lift) Q E s := by
  refine wpAny_bind (slice_ok hx fun u t' => ?_)
  have e0 : x.toArray.extract 0 0 = #[] := by simp
  rw [e0]
  refine wpAny_bind (wpAny_seqItems hl rfl ?_)
  by_cases hn : items = []
  · subst hn
    have hp0 : parts = [] := List.eq_nil_of_length_eq_zero hs.length.symm
    subst hp0
    rw [if_pos (show ((some (#[] : Array Value)).getD #[]).isEmpty = true from rfl)]
    exact wpAny_bind (wpAny_pure (wpAny_pure (hq u t')))
  · rw [if_neg (by simpa using hn)]
    obtain ⟨l, rfl, hl2⟩ := hs
    have hfit : Builtin.Str.tooLong ((l.map (·.1)).toArray.foldl (· + ·.length + (mkS []).length) 0) = false := by
      refine StrLaws.joinFits (B := 900) (fun y hy => ?_) ?_
      · rw [hl2] at hy
        obtain ⟨p, hp, rfl⟩ := List.mem_map.mp hy
        rw [mkS_len]; exact hp2 p hp
      · rw [hl2, List.length_map, mkS_len, List.length_nil]
        have : parts.length * 900 ≤ 2 ^ 13 * 900 := Nat.mul_le_mul_right _ hp
        omega
    refine wpAny_bind (call_meets F.slot_str_join (typeIs_str _ _ _) F.entry_str_join (F.args_str_join_2 _ _) (meets_str_join_list (mkS []) u L l hfit) ⟨hl.isList, post_join l ⟨joinFit_length hfit, fun u2 k2 => wpAny_pure ?_⟩⟩)
    rw [hl2, txt_join, joinL_flat]
    exact hq u2 k2
theorem sub_loop {rest out : List Nat} (F : Fold rest out) : ∀ {A : Around} {R : Result → Shared → Prop} {s : Shared} {h : Heap} {t : Nat} (pre : List Nat) (parts : List (List Nat)) (items : List Value) (n : Int) (k : Nat) {u u0 : Tok} {L : Addr},
    h.get? 351 = some (ob351 P) → h.get? 350 = some (ob350 P) → L ≠ 351 → L ≠ 350 → IsL h L items.toArray k → Strs items parts → (pre ++ rest).length ≤ 900 → parts.length + 2 * rest.length ≤ 2 ^ 12 →
    (∀ p ∈ parts, p.length ≤ 900) →
    (∀ h' t' u', Kept L h h' → R (.ok (.ret (.str (mkS (parts.flatten ++ out)) u'))) (St s h' t')) →
    codeAny (model prog w) A (.builtin "re.Pattern.sub.loop" ⟨[.ref 351, .str (mkS (pre ++ rest)) u, .str (mkS []) u0, .int 0 0, .int 0 0, .int n 0, .int pre.length 0, .int pre.length 0, .bool false, .ref L, .bool false], []⟩) R (St s h t) := by
  induction F with
  | @last a ha =>
    intro A R s h t pre parts items n k u u0 L h1 h2 hL1 hL2 hl hs hz hp hp2 hR
    have hal : a.length ≤ 900 := by rw [List.length_append] at hz; omega
    refine codeAny_builtin entry_pat_loop ?_
    unfold Builtin.«re.Pattern.sub.loop»
    dsimp only
    refine wpAny_bind (target (P := P) h1 h2 ?_)
    dsimp only
    simp only [beq_self_eq_true, if_true, bne_self_eq_false, Bool.false_and, Bool.false_eq_true, if_false]
    refine wpAny_bind (lit_ok ?_)
    obtain ⟨m', r, ho⟩ := search_none (text := (pre ++ a).toArray) (lim := (pre ++ a).length) (s0 := pre.length) (by rw [List.length_append]; omega) (fun i hi _ => no_last ha hi)
    refine wpAny_bind ?_
    show wpAny _ _ (reRunToEnd (Sre.forSearch UC (pre ++ a).toArray 0 (Int.toNat (pre.length : Int)) (pre ++ a).toArray.size false)) _ _ _
    rw [Int.toNat_natCast, List.size_toArray]
    refine to_none r (by omega) ho ?_
    dsimp only
    split
    · rename_i hlt
      refine wpAny_bind (slice_ok (by omega) fun u1 t1 => wpAny_bind (push_ok hl (by rw [hs.length]; omega) fun h' hk ⟨k', hl'⟩ => ?_))
      have ea : (pre ++ a).toArray.extract pre.length (pre ++ a).length = a.toArray := by simp
      rw [ea] at hl'
      refine tail_ok (by omega) hl' (hs.snoc a u1) (by rw [List.length_append, List.length_singleton]; omega) (fun p hp => ?_) fun u2 t2 => ?_
      · rcases List.mem_append.mp hp with hp | hp
        · exact hp2 p hp
        · rw [List.mem_singleton.mp hp]; exact hal
      · have := hR h' t2 u2 hk
        simpa using this
    · rename_i hlt
      have ha0 : a = [] := List.eq_nil_of_length_eq_zero (by rw [List.length_append] at hlt; omega)
      subst ha0
      refine tail_ok (by omega) hl hs (by omega) hp2 fun u2 t2 => ?_
      have := hR h t2 u2 (Kept.refl L h)
      simpa using this
  | @cut a sep b out ha hsep hlast hF ih =>
    intro A R s h t pre parts items n k u u0 L h1 h2 hL1 hL2 hl hs hz hp hp2 hR
    have hsl : 2 ≤ sep.length := by rcases hsep with rfl | rfl | rfl | rfl <;> decide
    have hlen : (pre ++ (a ++ sep ++ b)).length = pre.length + a.length + sep.length + b.length := by simp; omega
    have hlen2 : (a ++ sep ++ b).length = a.length + sep.length + b.length := by simp; omega
    refine codeAny_builtin entry_pat_loop ?_
    unfold Builtin.«re.Pattern.sub.loop»
    dsimp only
    refine wpAny_bind (target (P := P) h1 h2 ?_)
    dsimp only
    simp only [beq_self_eq_true, if_true, bne_self_eq_false, Bool.false_and, Bool.false_eq_true, if_false]
    refine wpAny_bind (lit_ok ?_)
    obtain ⟨nn, p, hnl, hrun, hN⟩ := run_sep pre a sep b hsep
    obtain ⟨m', r, ho, hst, hhd⟩ := search_found (s0 := pre.length) (by omega) (fun i h1 h2 p => no_cut ha hsep hlast h1 h2 p) hnl hrun hN
    refine wpAny_bind ?_
    show wpAny _ _ (reRunToEnd (Sre.forSearch UC (pre ++ (a ++ sep ++ b)).toArray 0 (Int.toNat (pre.length : Int)) (pre ++ (a ++ sep ++ b)).toArray.size false)) _ _ _
    rw [Int.toNat_natCast, List.size_toArray]
    refine to_match r (by omega) ho ?_
    dsimp only
    rw [hst, hhd]
    have key : ∀ (h' : Heap) (t' : Nat) (items' : List Value) (parts' : List (List Nat)) (k' : Nat), Kept L h h' → IsL h' L items'.toArray k' → Strs items' parts' → parts'.flatten = parts.flatten ++ a → parts'.length ≤ parts.length + 2 → (∀ p ∈ parts', p.length ≤ 900) →
        codeAny (model prog w) A (.builtin "re.Pattern.sub.loop" ⟨[.ref 351, .str (mkS (pre ++ (a ++ sep ++ b))) u, .str (mkS []) u0, rawInt 0, rawInt 0, rawInt (n + 1), rawInt ((pre.length + a.length + sep.length : Nat) : Int), rawInt ((pre.length + a.length + sep.length : Nat) : Int), .bool (pre.length + a.length + sep.length == pre.length + a.length), .ref L, .bool false], []⟩) R (St s h' t') := by
      intro h' t' items' parts' k' hk hl' hs' hfl hpl hp2'
      have e1 : pre ++ (a ++ sep ++ b) = (pre ++ a ++ sep) ++ b := by simp
      have e2 : pre.length + a.length + sep.length = (pre ++ a ++ sep).length := by simp; omega
      have e3 : (pre.length + a.length + sep.length == pre.length + a.length) = false := beq_false_of_ne (by omega)
      rw [e3, e1, e2]
      refine ih (pre ++ a ++ sep) parts' items' (n + 1) k' (hk _ _ (Ne.symm hL1) h1) (hk _ _ (Ne.symm hL2) h2) hL1 hL2 hl' hs' (by rw [← e1]; exact hz) (by omega) hp2' fun h2' t2 u2 hk2 => ?_
      have := hR h2' t2 u2 (hk.trans hk2)
      rw [hfl, List.append_assoc]
      exact this
    have hitem : (Value.str (mkS []) u0 != Value.none) = true := by rfl
    split
    · rename_i hlt
      refine wpAny_bind (slice_ok (by omega) fun u1 t1 => wpAny_bind (push_ok hl (by rw [hs.length]; omega) fun h' hk ⟨k', hl'⟩ => ?_))
      have ea : (pre ++ (a ++ sep ++ b)).toArray.extract pre.length (pre.length + a.length) = a.toArray := by simp
      rw [ea] at hl'
      refine wpAny_bind (wpAny_pure ?_)
      rw [if_pos hitem]
      refine wpAny_bind (push_ok hl' (by rw [List.length_append, hs.length, List.length_singleton]; omega) fun h2' hk2 ⟨k2, hl2⟩ => ?_)
      refine wpAny_pure ⟨Code.quiet_builtin _ (by decide +kernel), key _ _ _ _ _ (hk.trans hk2) hl2 ((hs.snoc a u1).snoc [] u0) (by simp) (by simp) fun p hp => ?_⟩
      simp only [List.mem_append, List.mem_singleton] at hp
      rcases hp with (hp | rfl) | rfl
      · exact hp2 p hp
      · omega
      · exact Nat.zero_le _
    · rename_i hlt
      have ha0 : a = [] := List.eq_nil_of_length_eq_zero (by omega)
      refine wpAny_bind (wpAny_pure ?_)
      rw [if_pos hitem]
      refine wpAny_bind (push_ok hl (by rw [hs.length]; omega) fun h2' hk2 ⟨k2, hl2⟩ => ?_)
      refine wpAny_pure ⟨Code.quiet_builtin _ (by decide +kernel), key _ _ _ _ _ hk2 hl2 (hs.snoc [] u0) (by subst ha0; simp) (by simp) fun p hp => ?_⟩
      simp only [List.mem_append, List.mem_singleton] at hp
      rcases hp with hp | rfl
      · exact hp2 p hp
      · exact Nat.zero_le _
end
end Mine

end

section
open PySem PySem.W PyProof.Rows PySem.Calls
set_option maxRecDepth 100000
set_option maxHeartbeats 1000000
namespace Mine
open Builtin Builtin.Re
theorem named_sub (a b : Value) : reNamed "re.Pattern.sub" "sub" ["repl", "string", "count"] 2 [a, b] [] = pure [some a, some b, none] := by kernel_rfl
theorem str_nocall : typeLookup (.type "str") "__call__" = pure none := by rw [typeLookup_type, builtinLookup_eq_fast]; kernel_rfl
theorem meets_sub {P : Params} {l out : List Nat} {u u0 : Tok} : Meets (Builtin.«re.Pattern.sub» ⟨[.ref 351, .str (mkS []) u0, .str (mkS l) u], []⟩)
    (fun _ R s => s.heap.get? 351 = some (ob351 P) ∧ s.heap.get? 350 = some (ob350 P) ∧ Fold l out ∧ l.length ≤ 900 ∧ ∀ h' t' u', Old s.heap h' → R (.ok (.ret (.str (mkS out) u'))) (St s h' t')) := by
  rintro prog w A R s ⟨h1, h2, hF, hz, hR⟩
  unfold Builtin.«re.Pattern.sub» reSubstitute
  dsimp only
  rw [named_sub]
  refine wpAny_bind (wpAny_pure ?_)
  dsimp only
  refine wpAny_bind (wpAny_pure ?_)
  refine wpAny_bind ?_
  have hsp : specialOf (.str (mkS []) u0) "__call__" = pure none := str_nocall
  rw [hsp]
  refine wpAny_pure ?_
  simp only [Option.isSome_none, Bool.false_eq_true, if_false]
  refine wpAny_bind (wpAny_pure ?_)
  dsimp only
  refine wpAny_bind (wpAny_pure ?_)
  rw [if_pos (show (!(mkS []).cps.contains 92) = true by simp [mkS])]
  refine wpAny_bind (wpAny_pure ?_)
  refine wpAny_bind (wpAny_holding (target (P := P) h1 h2 ?_))
  dsimp only
  rw [if_neg (by decide)]
  refine wpAny_bind (wpAny_newList ?_ (by decide))
  have hlt := Heap.lt_size h1
  have hlt2 := Heap.lt_size h2
  refine wpAny_pure ⟨Code.quiet_builtin _ (by decide +kernel), ?_⟩
  have := sub_loop (prog := prog) (w := w) (P := P) (A := A) (R := R) (s := s) (t := s.toks) (h := s.heap.push { cls := .type "list", data := .seq #[] }) (u := u) (u0 := u0) hF [] [] [] 0 0 (L := s.heap.objs.size) (Heap.get?_push_of_some _ h1) (Heap.get?_push_of_some _ h2) (Nat.ne_of_gt hlt) (Nat.ne_of_gt hlt2) (Heap.get?_push_size _ rfl) Strs.nil hz (by simp; omega) (fun _ h => by cases h) (fun h' t' u' hk => by
    refine hR h' t' u' ⟨fun b o e => hk _ _ ?_ (Heap.get?_push_of_some _ e)⟩
    exact Nat.ne_of_lt (Heap.lt_size e))
  exact this
section
variable {w : World} {A : Around} {E : Value → Shared → Prop} {s : Shared} {g h h' : Heap} {t : Nat} {env : Env} {ns : List Str} {gl : List (Str × Value)} {vs : List (Option Value)} {σ : List (Addr × LObj)}
theorem e_meth2 {o e e2 : Expr} {name : Str} {apos pos : Pos} {Q : Value → Shared → Prop}
    (h : wpAny (model pg w) A (eval o env) (fun ov s₁ => MethodOnS pg w A E name ov pos [(false, eval e env), (false, eval e2 env)] Q s₁) E s)
    (hs : backTo pos (starEach [e, e2] env) = [(false, eval e env), (false, eval e2 env)] := by with_unfolding_all rfl)
    (hbase : attributeBase o name env (eval o env) = eval o env := by with_unfolding_all rfl)
    (hline : (apos.endLine == pos.line) = true := by with_unfolding_all rfl) :
    wpAny (model pg w) A (eval (.Call (.Attribute o name apos) [e, e2] [] pos) env) Q E s := by
  refine wpAny_Call_method_lateS hbase (by rw [hs]; rfl) hline ?_
  rw [hs]; exact h
theorem m_sub {pos : Pos} {e1 e2 : Expr} {Q : Value → Shared → Prop} (T : TG w s.heap)
    (hq : wpAny (model pg w) A (eval e1 env) (fun v1 s₁ => wpAny (model pg w) A (eval e2 env) (fun v2 s₂ => ∃ u0 l u out, v1 = .str (mkS []) u0 ∧ v2 = .str (mkS l) u ∧ TG w s₂.heap ∧ Fold l out ∧ l.length ≤ 900 ∧
      ∀ h' t' u', Old s₂.heap h' → Q (.str (mkS out) u') (St s₂ h' t')) E s₁) E s) :
    MethodOnS pg w A E "sub" (.ref 351) pos [(false, eval e1 env), (false, eval e2 env)] Q s := by
  have h1 : s.heap.get? 351 = some (ob351 w.params) := T.K _ _ rfl
  refine ⟨"re.Pattern", _, plainAttrs_pat, slot_pat_sub, type_pat_sub, ⟨_, h1, rfl⟩, ?_, method_meets slot_pat_sub entry_pat_sub rfl (Calls.evalArgs_plain (Calls.spliced_cons (wpAny_mono hq (fun v1 s₁ q => Calls.spliced_cons (wpAny_mono q (fun v2 s₂ q => Calls.spliced_nil ?_) fun _ _ x => x)) fun _ _ x => x)))⟩
  · intro a ea; cases ea; exact ⟨_, h1, rfl⟩
  · obtain ⟨u0, l, u, out, rfl, rfl, T2, hF, hz, hq⟩ := q
    have g1 : s₂.heap.get? 351 = some (ob351 w.params) := T2.K _ _ rfl
    have g2 : s₂.heap.get? 350 = some (ob350 w.params) := T2.K _ _ rfl
    exact ⟨rfl, ⟨_, g1, rfl⟩, args_pat_sub _ _ _, _, meets_sub (P := w.params) (u := u) (u0 := u0) (l := l) (out := out), g1, g2, hF, hz, hq⟩
end
end Mine

end

section
open PySem PySem.W PyProof.Rows PySem.Calls
set_option maxRecDepth 100000
set_option maxHeartbeats 1000000
namespace Mine
open Builtin Builtin._codecs
def alpha2 : List Nat := 10 :: alpha
theorem at_byte (pre x post : List UInt8) (k : Nat) (h : k < x.length) : (pre ++ (x ++ post)).toArray[pre.length + k]? = x[k]? := by
  rw [List.getElem?_toArray, List.getElem?_append_right (by omega), Nat.add_sub_cancel_left, List.getElem?_append_left h]
theorem utf8At_ok (pre post : List UInt8) {c : Nat} (hc : c ∈ alpha2) : Bytes.utf8At (pre ++ (Str.utf8Of c ++ post)).toArray pre.length = (.char c, pre.length + (Str.utf8Of c).length) := by
  have g := at_byte pre (Str.utf8Of c) post
  generalize (pre ++ (Str.utf8Of c ++ post)).toArray = b at g ⊢
  have hg : ∀ x, b[pre.length]? = some x → b.getD pre.length 0 = x := fun x h => by rw [Array.getD_eq_getD_getElem?, h]; rfl
  simp only [alpha2, alpha, List.mem_cons, List.not_mem_nil, or_false] at hc
  rcases hc with rfl | rfl | rfl | rfl | rfl | rfl | rfl | rfl | rfl | rfl | rfl | rfl
  all_goals
    first
    | (have g0 := hg _ (g 0 (by decide))
       unfold Bytes.utf8At
       rw [g0]
       rfl)
    | skip
  · have g0 : b.getD pre.length 0 = 195 := hg _ (g 0 (by decide))
    have g1 : b[pre.length + 1]? = some 169 := g 1 (by decide)
    unfold Bytes.utf8At
    rw [g0]
    simp [List.range_succ, Except.bind, g1, Str.utf8Of]
  · have g0 : b.getD pre.length 0 = 226 := hg _ (g 0 (by decide))
    have g1 : b[pre.length + 1]? = some 130 := g 1 (by decide)
    have g2 : b[pre.length + 2]? = some 172 := g 2 (by decide)
    unfold Bytes.utf8At
    rw [g0]
    simp [List.range_succ, Except.bind, g1, g2, Str.utf8Of]
  · have g0 : b.getD pre.length 0 = 240 := hg _ (g 0 (by decide))
    have g1 : b[pre.length + 1]? = some 157 := g 1 (by decide)
    have g2 : b[pre.length + 2]? = some 132 := g 2 (by decide)
    have g3 : b[pre.length + 3]? = some 158 := g 3 (by decide)
    unfold Bytes.utf8At
    rw [g0]
    simp [List.range_succ, Except.bind, g1, g2, g3, Str.utf8Of]
theorem decN {id : String} {e : Option Str} {held : List Value} {l : List Nat} (h : ∀ c ∈ l, c ∈ alpha2) (hz : l.length ≤ 2 ^ 20) : runDecoder id utf8Decoder e true (l.flatMap Str.utf8Of).toArray 0 held = pure (l.toArray, (l.flatMap Str.utf8Of).length) := by
  unfold runDecoder
  simp only [Std.Legacy.Range.forIn_eq_forIn_range', Std.Legacy.Range.size]
  generalize hf : (fun (x : Nat) (__s : Nat × Array Nat × Faults) => _) = f
  have hb := utf8s_len l
  have e5 : (2 : Nat) ^ 22 ≤ sizeLine := by decide
  have stp : ∀ (x : Nat) (l1 : List Nat) (c : Nat) (r : List Nat), l1 ++ c :: r = l → f x ((l1.flatMap Str.utf8Of).length, l1.toArray, { held := held }) = pure (.yield (((l1 ++ [c]).flatMap Str.utf8Of).length, (l1 ++ [c]).toArray, { held := held })) := by
    intro x l1 c r hl
    have hcm : c ∈ l := by rw [← hl]; simp
    have hu := utf8At_ok (l1.flatMap Str.utf8Of) (r.flatMap Str.utf8Of) (h c hcm)
    have e1 : l1.flatMap Str.utf8Of ++ (Str.utf8Of c ++ r.flatMap Str.utf8Of) = l.flatMap Str.utf8Of := by rw [← hl]; simp
    rw [e1] at hu
    have hlen : (l1.flatMap Str.utf8Of).length < (l.flatMap Str.utf8Of).length := by
      rw [← e1, List.length_append, List.length_append]
      have : 1 ≤ (Str.utf8Of c).length := by unfold Str.utf8Of; split <;> (try split) <;> (try split) <;> simp
      omega
    have hl1 : l1.length ≤ l.length := by rw [← hl]; simp
    rw [← hf]
    simp only []
    rw [if_neg (by rw [List.size_toArray]; omega), if_neg (by rw [List.size_toArray]; omega)]
    have e2 : utf8Decoder.find true (l.flatMap Str.utf8Of).toArray (l1.flatMap Str.utf8Of).length = .text [c] ((l1.flatMap Str.utf8Of).length + (Str.utf8Of c).length) := by
      show (match Bytes.utf8At _ _ with | (.char c, nx) => Found.char c nx | (.bad _ stop reason, _) => _) = _
      rw [hu]; rfl
    rw [e2]
    simp
  have fin : ∀ x, f x ((l.flatMap Str.utf8Of).length, l.toArray, { held := held }) = pure (.done ((l.flatMap Str.utf8Of).length, l.toArray, { held := held })) := by
    intro x
    rw [← hf]
    simp only []
    rw [if_neg (by rw [List.size_toArray]; omega), if_pos (by rw [List.size_toArray]; omega)]
  have run : ∀ (r l1 : List Nat) (xs : List Nat), l1 ++ r = l → r.length ≤ xs.length → forIn xs ((l1.flatMap Str.utf8Of).length, l1.toArray, ({ held := held } : Faults)) f = pure ((l.flatMap Str.utf8Of).length, l.toArray, { held := held }) := by
    intro r
    induction r with
    | nil =>
      intro l1 xs e hx
      rw [List.append_nil] at e
      subst e
      cases xs with
      | nil => rfl
      | cons x xs => rw [List.forIn_cons, fin, pure_bind]
    | cons c r ih =>
      intro l1 xs e hx
      cases xs with
      | nil => simp at hx
      | cons x xs =>
        rw [List.forIn_cons, stp x l1 c r e, pure_bind]
        exact ih (l1 ++ [c]) xs (by rw [← e]; simp) (by simpa using hx)
  have hge : l.length ≤ (l.flatMap Str.utf8Of).length := by
    clear stp fin run hf hb h hz
    induction l with
    | nil => simp
    | cons c r ih =>
      have : 1 ≤ (Str.utf8Of c).length := by unfold Str.utf8Of; split <;> (try split) <;> (try split) <;> simp
      rw [List.flatMap_cons, List.length_append, List.length_cons]; omega
  have := run l [] (List.range' 0 (((l.flatMap Str.utf8Of).toArray.size - 0 + 1 - 1) / 1)) rfl (by rw [List.length_range', List.size_toArray]; omega)
  have e0 : (([] : List Nat).flatMap Str.utf8Of).length = 0 := rfl
  rw [e0] at this
  rw [this]
  rfl
section
variable {w : World} {A : Around} {E : Value → Shared → Prop} {s : Shared} {g h h' : Heap} {t : Nat} {env : Env}
theorem named_dec (u : Value) : Bytes.bindOptional "bytes.decode" "decode" ["encoding", "errors"] [u] [] = pure [some u, none] := by kernel_rfl
theorem decTree (b : Array UInt8) (t u : Tok) : Builtin.«bytes.decode» ⟨[.bytes b t, .str (Str.ofString "utf-8") u], []⟩ = (if b.isEmpty = true then (do rule "bytes.decode.empty"; retStr Str.empty) else do
    let d ← mkStr (Str.ofString "utf-8")
    let enc ← mkStr (Str.ofString "utf-8")
    let id ← mkStr (Str.ofString "bytes.decode")
    let r ← call (.builtin "_codecs.decode.text") [.bytes b t, enc, .none, id]
    ret r) := by kernel_rfl
theorem entry_dec_text : entryFor table "_codecs.decode.text" = some Builtin.«_codecs.decode.text» := entryFor_of_tree (by kernel_rfl)
theorem args_dec_text (a b c d : Value) : argsOk "_codecs.decode.text" ⟨[a, b, c, d], []⟩ := by unfold argsOk; kernel_rfl
theorem road_dec {M : Model} {A : Around} {E : Value → Shared → Prop} {s : Shared} (b : Array UInt8) {Q : Value → Shared → Prop} (hq : wpAny M A (do
    let r ← runDecoder (Str.ofString "bytes.decode").toString utf8Decoder none true b 0 []
    mkStr ⟨r.1⟩) Q E s) : wpAny M A (decodeRoad (Str.ofString "bytes.decode").toString b (Str.ofString "utf-8") none []) Q E s := by
  have e : decodeRoad (Str.ofString "bytes.decode").toString b (Str.ofString "utf-8") none [] = (do
    let r ← runDecoder (Str.ofString "bytes.decode").toString utf8Decoder none true b 0 []
    mkStr ⟨r.1⟩) := by first | rfl | (unfold decodeRoad; rfl)
  rw [e]; exact hq
theorem args_dec2 (a b : Value) : argsOk "bytes.decode" ⟨[a, b], []⟩ := by unfold argsOk; kernel_rfl
theorem meets_dec {l : List Nat} {t u : Tok} (h : ∀ c ∈ l, c ∈ alpha2) (hz : l.length ≤ 2 ^ 20) (hne : l ≠ []) : Meets (Builtin.«bytes.decode» ⟨[.bytes (l.flatMap Str.utf8Of).toArray t, .str (Str.ofString "utf-8") u], []⟩)
    (fun _ R s => ∀ t' u', R (.ok (.ret (.str (mkS l) u'))) (St s s.heap t')) := by
  rintro prog w A R s hR
  rw [decTree]
  have hb : (l.flatMap Str.utf8Of).toArray.isEmpty = false := by
    cases l with
    | nil => exact absurd rfl hne
    | cons c r =>
      have : 1 ≤ (Str.utf8Of c).length := by unfold Str.utf8Of; split <;> (try split) <;> (try split) <;> simp
      rw [List.isEmpty_toArray, List.flatMap_cons]
      cases hc : Str.utf8Of c with
      | nil => rw [hc] at this; cases this
      | cons a b => rfl
  rw [if_neg (by rw [hb]; decide)]
  refine wpAny_bind (wpAny_mkStr (wpAny_bind (wpAny_mkStr (wpAny_bind (wpAny_mkStr ?_ (by decide +kernel))) (by decide +kernel))) (by decide +kernel))
  refine wpAny_bind (call_function_meets (by decide +kernel) (by decide +kernel) entry_dec_text (args_dec_text _ _ _ _) (S := fun _ R s => ∀ t' u', R (.ok (.ret (.str (mkS l) u'))) (St s s.heap t')) ?_ ?_)
  · rintro prog w A R s hR
    unfold Builtin.«_codecs.decode.text»
    dsimp only
    refine wpAny_bind (wpAny_pure ?_)
    unfold dataHeld Bytes.bytesLike
    rw [KBy.buffer_eq]
    refine wpAny_bind (wpAny_pure (wpAny_bind (wpAny_bind (wpAny_pure (wpAny_pure ?_)))))
    refine wpAny_bind (road_dec _ ?_)
    rw [decN h hz, pure_bind]
    refine (wpAny_mkStr (wpAny_pure (hR _ _)) ?_)
    have e5 : (2 : Nat) ^ 22 ≤ sizeLine := by decide
    show l.toArray.size ≤ _
    rw [List.size_toArray]; omega
  · intro t' u'
    exact wpAny_pure (hR _ _)
end
end Mine

end

section
open PySem PySem.W PyProof.Rows PySem.Calls
set_option maxRecDepth 100000
set_option maxHeartbeats 4000000
namespace Mine
section
variable {w : World} {A : Around} {E : Value → Shared → Prop} {s : Shared} {g h h' : Heap} {t : Nat} {env : Env} {ns : List Str} {gl : List (Str × Value)} {vs : List (Option Value)} {σ : List (Addr × LObj)}
theorem c_isi_bytes_str {b : Array UInt8} {u : Tok} {Q : Value → Shared → Prop} (T : TG w h) (hq : ∀ t', Q (.bool false) (St s h t')) : wpAny (model pg w) A (call (.builtin "isinstance") [.bytes b u, .type "str"]) Q E (St s h t) :=
  kia_one (K := KK w.params) kitx_bytes T.K trivial (by kernel_rfl!) (by intro h; cases h) fun tk => hq tk
theorem c_isi_bytes_bytes {b : Array UInt8} {u : Tok} {Q : Value → Shared → Prop} (T : TG w h) (hq : ∀ t', Q (.bool true) (St s h t')) : wpAny (model pg w) A (call (.builtin "isinstance") [.bytes b u, .type "bytes"]) Q E (St s h t) :=
  kia_one (K := KK w.params) kitx_bytes T.K trivial (by kernel_rfl!) (by intro h; cases h) fun tk => hq tk
theorem m_decode {l : List Nat} {u : Tok} {pos : Pos} {e : Expr} {Q : Value → Shared → Prop} (hl : ∀ c ∈ l, c ∈ alpha2) (hz : l.length ≤ 2 ^ 20) (hne : l ≠ [])
    (hq : wpAny (model pg w) A (eval e env) (fun v s₁ => ∃ u, v = .str (Str.ofString "utf-8") u ∧ ∀ u t', Q (.str (mkS l) u) (St s₁ s₁.heap t')) E s) :
    MethodOnS pg w A E "decode" (.bytes (l.flatMap Str.utf8Of).toArray u) pos [(false, eval e env)] Q s := by
  refine ⟨"bytes", _, FB.plainAttrs_bytes, FB.slot_bytes_decode, FB.type_bytes_decode, rfl, (fun _ e => nomatch e),
    method1_meets FB.slot_bytes_decode FB.entry_bytes_decode (wpAny_mono hq (fun v s₁ q => ?_) fun _ _ e => e)⟩
  obtain ⟨u', rfl, hq⟩ := q
  exact ⟨rfl, args_dec2 _ _, _, meets_dec hl hz hne, fun t' u' => hq u' t'⟩
@[reducible] def nsU : List Str := ["value", "encoding"]
@[reducible] def glU : List (Str × Value) := [("isinstance", .builtin "isinstance"), ("str", .type "str"), ("bytes", .type "bytes")]
theorem uni_str_body {n₀ : Nat} {x : Str} {u : Tok} {v2 : Value} (a : AOk A n₀) (S : SS w g env nsU glU h [some (.str x u), some v2] [])
    {Q : Value → Shared → Prop} (hQ : ∀ h' t', Old g h' → Old h h' → Q (.str x u) (St s h' t')) :
    wpAny (model pg w) A (execs (fB (sAt 5)) env) (fun fl s' => Q (match fl with | .ret v => v | _ => .none) s') (fun _ _ => False) (St s h t) := by
  conv => enter [3, 1]; whnf
  repeat walk_at "Y"
  refine x_ifJ (fun _ => False) ?_ (fun _ h => h.elim)
  repeat walk_at "Y"
  refine c_isi_str ?_
  intro t
  repeat walk_at "Y"
  refine ⟨fun _ => ?_, fun q => (by cases q)⟩
  repeat walk_at "Y"
  exact hQ _ _ S.old (Old.refl _)
theorem uni_bytes_body {n₀ : Nat} {l : List Nat} {u : Tok} {v2 : Value} (a : AOk A n₀) (hl : ∀ c ∈ l, c ∈ alpha2) (hz : l.length ≤ 2 ^ 20) (hne : l ≠ []) (S : SS w g env nsU glU h [some (.bytes (l.flatMap Str.utf8Of).toArray u), some v2] [])
    {Q : Value → Shared → Prop} (hQ : ∀ h' t' u', Old g h' → Q (.str (mkS l) u') (St s h' t')) :
    wpAny (model pg w) A (execs (fB (sAt 5)) env) (fun fl s' => Q (match fl with | .ret v => v | _ => .none) s') (fun _ _ => False) (St s h t) := by
  conv => enter [3, 1]; whnf
  repeat walk_at "Y"
  refine x_ifJ (fun s' => ∃ t', s' = St s h t') ?_ ?_
  · repeat walk_at "Y"
    refine c_isi_bytes_str S.tg ?_
    intro t
    repeat walk_at "Y"
    exact ⟨fun q => (by cases q), fun _ => x_nil ⟨_, rfl⟩⟩
  · rintro s' ⟨t, rfl⟩
    refine x_ifJ (fun _ => False) ?_ (fun _ h => h.elim)
    repeat walk_at "Y"
    refine c_isi_bytes_bytes S.tg ?_
    intro t
    repeat walk_at "Y"
    refine ⟨fun _ => ?_, fun q => (by cases q)⟩
    repeat walk_at "Y"
    refine m_decode hl hz hne ?_
    repeat walk_at "Y"
    exact ⟨_, rfl, fun u t' => hQ _ _ _ S.old⟩
/-- a str, with its encoding by name -/
theorem uniK_spec {n₀ : Nat} (a : AOk A (n₀ + 1)) (T : TG w g) (hk : Old g h) {x : Str} {u : Tok} {v2 : Value} {Q : Value → Shared → Prop}
    (hQ : ∀ h' t', Old g h' → Q (.str x u) (St s h' t')) : wpAny (model pg w) A (call (.ref 47) [.str x u] [("encoding", v2)]) Q E (St s h t) := by
  refine' enter (binds := [("value", .str x u), ("encoding", v2)]) (rest := []) (gl := glU) (σ := []) ?ho ?hcd a T hk ?hb ?hok rfl rfl ?hσ ?hnd ?_ ?c1 ?c2 ?c3 ?c4 ?c5
  case hσ => intro p hp; cases hp
  case hnd => simp
  (case ho => exact rfl); (case hb => exact binds_K (T.keeps hk).K rfl rfl rfl rfl rfl); (case hcd => kernel_rfl!); (case hok => kernel_rfl!)
  (case c1 => exact rfl); (case c2 => exact rfl); (case c3 => exact rfl); (case c4 => exact rfl); (case c5 => exact rfl)
  intro env h t S a' keep'
  simp only [List.map_cons, List.map_nil, List.cons_append, List.nil_append] at S
  exact uni_str_body a' S fun h' t' o _ => hQ h' t' o
theorem uni_spec {n₀ : Nat} (a : AOk A (n₀ + 1)) (T : TG w g) (hk : Old g h) {x : Str} {u : Tok} {Q : Value → Shared → Prop}
    (hQ : ∀ h' t', Old g h' → Q (.str x u) (St s h' t')) : wpAny (model pg w) A (call (.ref 47) [.str x u]) Q E (St s h t) := by
  refine' enter (binds := [("value", .str x u), ("encoding", .str (Str.ofString "utf-8-sig") 294)]) (rest := []) (gl := glU) (σ := []) ?ho ?hcd a T hk ?hb ?hok rfl rfl ?hσ ?hnd ?_ ?c1 ?c2 ?c3 ?c4 ?c5
  case hσ => intro p hp; cases hp
  case hnd => simp
  (case ho => exact rfl); (case hb => exact binds_K (T.keeps hk).K rfl rfl rfl rfl rfl); (case hcd => kernel_rfl!); (case hok => kernel_rfl!)
  (case c1 => exact rfl); (case c2 => exact rfl); (case c3 => exact rfl); (case c4 => exact rfl); (case c5 => exact rfl)
  intro env h t S a' keep'
  simp only [List.map_cons, List.map_nil, List.cons_append, List.nil_append] at S
  exact uni_str_body a' S fun h' t' o _ => hQ h' t' o
theorem uniB_spec {n₀ : Nat} (a : AOk A (n₀ + 1)) (T : TG w g) (hk : Old g h) {l : List Nat} {u : Tok} (hl : ∀ c ∈ l, c ∈ alpha2) (hz : l.length ≤ 2 ^ 20) (hne : l ≠ []) {Q : Value → Shared → Prop}
    (hQ : ∀ h' t' u', Old g h' → Q (.str (mkS l) u') (St s h' t')) : wpAny (model pg w) A (call (.ref 47) [.bytes (l.flatMap Str.utf8Of).toArray u]) Q E (St s h t) := by
  refine' enter (binds := [("value", .bytes (l.flatMap Str.utf8Of).toArray u), ("encoding", .str (Str.ofString "utf-8-sig") 294)]) (rest := []) (gl := glU) (σ := []) ?ho ?hcd a T hk ?hb ?hok rfl rfl ?hσ ?hnd ?_ ?c1 ?c2 ?c3 ?c4 ?c5
  case hσ => intro p hp; cases hp
  case hnd => simp
  (case ho => exact rfl); (case hb => exact binds_K (T.keeps hk).K rfl rfl rfl rfl rfl); (case hcd => kernel_rfl!); (case hok => kernel_rfl!)
  (case c1 => exact rfl); (case c2 => exact rfl); (case c3 => exact rfl); (case c4 => exact rfl); (case c5 => exact rfl)
  intro env h t S a' keep'
  simp only [List.map_cons, List.map_nil, List.cons_append, List.nil_append] at S
  exact uni_bytes_body a' hl hz hne S hQ
end
end Mine

end

section
open PySem PySem.W PyProof.Rows PySem.Calls
set_option maxRecDepth 100000
set_option maxHeartbeats 1000000
namespace Mine
open Builtin
section
variable {prog : Program} {w : World} {A : Around} {E : Value → Shared → Prop} {h : Heap} {g : Array GenState} {d : Drawn} {t : Nat} {os : OsState} {P : Params}
/-- super() in a class's own making -/
theorem call_super_cls {D : Addr} {oD : Obj} {cdD : ClassData} {Q : Value → Shared → Prop}
    (hD : h.get? D = some oD) (hDt : oD.data = .cls cdD) (hsub : Looks (model prog w) h (isSubtype (.ref D) (.ref D)) true)
    (hq : ∀ h', h'.get? h.objs.size = some { cls := .type "super", dict := none, data := .fields #[.ref D, .ref D, .ref D], slots := #[] } → (∀ y o, h.get? y = some o → h'.get? y = some o) → Q (.ref h.objs.size) ⟨h', g, d, t, os⟩) :
    wpAny (model prog w) A (call (.type "super") [.ref D, .ref D]) Q E ⟨h, g, d, t, os⟩ := by
  refine ks_callType_codesW (Q₁ := fun obj s₁ => obj = .ref h.objs.size ∧ s₁ = ⟨h.push { cls := .type "super", data := .fields #[.none, .none, .none] }, g, d, t, os⟩) F.ks_called_super (ks_wpAny_checkTypeCall_super hD hDt) F.ks_entry_super_init
    (ks_code_super_new _ _ ⟨rfl, rfl⟩) fun obj s₁ h₁ => ?_
  obtain ⟨rfl, rfl⟩ := h₁
  have up : ∀ y o, h.get? y = some o → (h.push { cls := .type "super", data := .fields #[.none, .none, .none] }).get? y = some o := fun y o e => Heap.get?_push_of_some _ e
  have hso : (h.push { cls := .type "super", data := .fields #[.none, .none, .none] }).get? h.objs.size = some { cls := .type "super", dict := none, data := .fields #[.none, .none, .none], slots := #[] } := Heap.get?_push_at rfl rfl
  have hD' := up _ _ hD
  have hsub' := hsub.keeps up
  refine ⟨⟨_, hso, rfl⟩, F.ks_initArgs_super _ _ _, ?_⟩
  unfold Builtin.«super.__init__» noKeywords
  repeat (first | (with_reducible refine ks_wpAny_isType_cls hD' hDt ?_) | (with_reducible refine Looks.at hsub' ?_) | (with_reducible refine ks_wpAny_super_set3 hso ?_) | wp_step)
  all_goals first
    | (intro h' e k; exact ⟨rfl, hq h' e fun y o ey => k y o (Nat.ne_of_lt (Heap.lt_size ey)) (up y o ey)⟩)
    | (refine ks_wpAny_super_set3 hso ?_; intro h' e k; exact ⟨rfl, hq h' e fun y o ey => k y o (Nat.ne_of_lt (Heap.lt_size ey)) (up y o ey)⟩)
theorem new_type : typeOf (.builtin "str.__new__") = pure (.type "builtin_function_or_method") := by show builtinType _ = _; rw [builtinType_eq_fast]; kernel_rfl
theorem new_noget : typeLookup (.type "builtin_function_or_method") "__get__" = pure none := by rw [typeLookup_type, builtinLookup_eq_fast]; kernel_rfl
theorem super_ga_own {so D : Addr} {name : Str} {tk : Tok} {Q : Fin → Shared → Prop} {K : Frag} {v tv : Value} {l₀ l : List Value}
    (hso : h.get? so = some { cls := .type "super", dict := none, data := .fields #[.ref D, .ref D, .ref D], slots := #[] }) (hno : Looks (model prog w) h (opaqueClassAbove (.ref D)) none)
    (hC : Looks (model prog w) h (mroOf (.ref D)) l₀) (hl : (l₀.dropWhile (· != .ref D)).drop 1 = l) (X : K.In h) (hf : alongIn K name l = some (some v)) (hn : (name == ("__class__" : Str)) = false)
    (ht : typeOf v = pure tv) (hg : typeLookup tv "__get__" = pure none) (hh : handedOut v = pure v)
    (hq : Q (.done (.ret v)) ⟨h, g, d, t, os⟩) :
    wpAny (model prog w) A (Builtin.«super.__getattribute__» ⟨[.ref so, .str name tk], []⟩) Q E ⟨h, g, d, t, os⟩ := by
  have hdt : ({ cls := .type "super", dict := none, data := .fields #[.ref D, .ref D, .ref D], slots := #[] } : Obj).data = .fields #[.ref D, .ref D, .ref D] := rfl
  have f0 : (#[.ref D, .ref D, .ref D] : Array Value)[0]? = some (.ref D) := rfl
  have f1 : (#[.ref D, .ref D, .ref D] : Array Value)[1]? = some (.ref D) := rfl
  have f2 : (#[.ref D, .ref D, .ref D] : Array Value)[2]? = some (.ref D) := rfl
  unfold Builtin.«super.__getattribute__»
  repeat (first
    | (with_reducible refine wpAny_field hso hdt f0 ?_) | (with_reducible refine wpAny_field hso hdt f1 ?_) | (with_reducible refine wpAny_field hso hdt f2 ?_)
    | (with_reducible refine ks_wpAny_notOpaque hno ?_)
    | (with_reducible refine Looks.at hC ?_; rw [hl])
    | (refine ks_forIn_along X (fun _ _ => rfl) rfl ?_ hf)
    | (with_reducible refine wpAny_of_eq ht ?_)
    | (with_reducible refine wpAny_of_eq hg ?_)
    | (with_reducible refine wpAny_of_eq hh ?_)
    | (simp only [hn, Bool.or_false, Bool.false_eq_true, if_false])
    | wp_step
    | dsimp only)
  all_goals exact hq
theorem getMethod_super_own {so D : Addr} {name : Str} {pl : Sem Bool} {Q : Value × List Value → Shared → Prop} {K : Frag} {v tv : Value} {l₀ l : List Value}
    (hso : h.get? so = some { cls := .type "super", dict := none, data := .fields #[.ref D, .ref D, .ref D], slots := #[] }) (hno : Looks (model prog w) h (opaqueClassAbove (.ref D)) none)
    (hC : Looks (model prog w) h (mroOf (.ref D)) l₀) (hl : (l₀.dropWhile (· != .ref D)).drop 1 = l) (X : K.In h) (hf : alongIn K name l = some (some v)) (hn : (name == ("__class__" : Str)) = false)
    (ht : typeOf v = pure tv) (hg : typeLookup tv "__get__" = pure none) (hh : handedOut v = pure v)
    (hq : Q (v, []) ⟨h, g, d, t + 1, os⟩) :
    wpAny (model prog w) A (getMethod (.ref so) name pl) Q E ⟨h, g, d, t, os⟩ := by
  have hlk := F.ks_slot_super_ga.lookup
  have hcan := F.ks_canon_super_ga
  have hT : ∀ t', (⟨h, g, d, t', os⟩ : Shared).TypeIs (.ref so) "super" := fun _ => ⟨_, hso, rfl⟩
  unfold getMethod
  refine wpAny_bind (wpAny_specialOf (hT _) hlk ?_)
  show wpAny _ _ (if (Manifest.canonical "super.__getattribute__" != "object.__getattribute__") = true then _ else _) _ _ _
  rw [if_pos hcan]
  unfold getAttr getAttrBy
  refine wpAny_bind (wpAny_bind (wpAny_mkText (wpAny_holding (wpAny_bind (wpAny_typeOf (hT _) (wpAny_bind (wpAny_of_eq hlk ?_)))))))
  show wpAny _ _ (getAttrByItsOwn (.ref so) (.str name t) (.type "super") (.builtin "super.__getattribute__") true false) _ _ _
  unfold getAttrByItsOwn hookBefore callGetattribute boundAndCalled
  refine wpAny_bind (wpAny_of_eq (show (if onTheHeap (.type "super") then typeLookup (.type "super") "__getattr__" else pure none) = pure none from rfl) ?_)
  refine wpAny_bind (wpAny_attempt (wpAny_holding ?_))
  show wpAny _ _ (bindSpecial (.builtin "super.__getattribute__") (.ref so) >>= _) _ _ _
  refine wpAny_bind (wpAny_of_eq (F.ks_slot_super_ga.bind _) ?_)
  refine wpAny_mono (Q := fun r s' => r = v ∧ s' = ⟨h, g, d, t + 1, os⟩) (E := fun _ _ => False)
    (wpAny_call_entry F.ks_slot_super_ga (hT _) F.ks_entry_super_ga (super_ga_own hso hno hC hl X hf hn ht hg hh ⟨_, rfl, rfl, rfl⟩) (F.ks_gaArgs_super _ _)) (fun r s' hv => ?_) fun _ _ z => z.elim
  obtain ⟨rfl, rfl⟩ := hv
  exact wpAny_of_eq hh (wpAny_pure hq)

theorem entry_str_new : entryFor table "str.__new__" = some Builtin.«str.__new__» := entryFor_of_tree (by kernel_rfl)
theorem along_new (P : Params) : alongIn (KK P) "__new__" [.type "str", .type "object"] = some (some (.builtin "str.__new__")) := by kernel_rfl
theorem handed_new : handedOut (.builtin "str.__new__") = pure (.builtin "str.__new__") := by kernel_rfl
theorem sub_438 (P : Params) : subIn (KK P) (.ref 438) (.ref 438) = some true := by kernel_rfl
theorem sub_438s (P : Params) : subIn (KK P) (.ref 438) (.type "str") = some true := by kernel_rfl
theorem new_check (P : Params) (S : Setting) (a : Str) (u : Tok) : peek (KK P) S (checkBuiltinCall "str.__new__" ⟨[.ref 438, .str a u], []⟩) = some () := by kernel_rfl
end
end Mine

end

section
open PySem PySem.W PyProof.Rows PySem.Calls
set_option maxRecDepth 100000
set_option maxHeartbeats 1000000
namespace Mine
open Builtin Builtin.ObjectAttr Builtin.Getset_descriptor
section
variable {w : World} {A : Around} {E : Value → Shared → Prop} {h : Heap} {g : Array GenState} {d : Drawn} {t : Nat} {os : OsState}
@[reducible] def dictObj : Obj := { cls := .type "dict", data := .dict #[] }
@[reducible] def lineObj (x : Str) (u : Tok) (dx : Addr) : Obj := { cls := .ref 438, dict := some dx, data := .prim (.str x u) }
theorem str_new_run {x : Str} {u : Tok} {Q : Fin → Shared → Prop} (K : (KK w.params).In h)
    (hx : x.length ≤ 2 ^ 20)
    (hq : Q (.done (.ret (.ref (h.objs.size + 1)))) ⟨(h.push dictObj).push (lineObj x t h.objs.size), g, d, t + 1, os⟩) :
    wpAny (model pg w) A (Builtin.«str.__new__» ⟨[.ref 438, .str x u], []⟩) Q E ⟨h, g, d, t, os⟩ := by
  have h1 : h.get? 438 = some (ob438 w.params) := K _ _ rfl
  have hsub : Looks (model pg w) h (isSubtype (.ref 438) (.type "str")) true := Looks.of_peek K (by kernel_rfl)
  unfold Builtin.«str.__new__»
  repeat lk
  have hsz : (2 : Nat) ^ 20 ≤ sizeLine := by decide
  show wpAny _ _ (mkStr x) _ _ _
  refine wpAny_mkStr ?_ (by omega)
  have h2 : ((h.push dictObj).push (lineObj x t h.objs.size)).get? 438 = some (ob438 w.params) := Heap.get?_push_of_some _ (Heap.get?_push_of_some _ h1)
  unfold newObj
  have pl : (Data.prim (.str x t)).pastItsLine = none := by
    show (if x.length > sizeLine then some "str:memory" else none) = none
    rw [if_neg (by omega)]
  dsimp only
  rw [pl]
  dsimp only
  refine wpAny_bind ?_
  show wpAny _ _ (newObjAsIs _ _ _) _ _ _
  unfold newObjAsIs classHasDel
  refine wpAny_bind (wpAny_alloc (wpAny_bind (wpAny_bind (wpAny_load h2 (wpAny_pure ?_)))))
  refine wpAny_pure (wpAny_pure ?_)
  rw [Heap.size_push]
  exact hq
theorem call_str_new {x : Str} {u : Tok} {Q : Value → Shared → Prop} (K : (KK w.params).In h) (hx : x.length ≤ 2 ^ 20)
    (hq : Q (.ref (h.objs.size + 1)) ⟨(h.push dictObj).push (lineObj x t h.objs.size), g, d, t + 1, os⟩) :
    wpAny (model pg w) A (call (.builtin "str.__new__") [.ref 438, .str x u]) Q E ⟨h, g, d, t, os⟩ :=
  wpAny_call (codeAny_call_builtin_at (Code.quiet_builtin _ (by decide +kernel)) entry_str_new (Looks.at (Looks.of_peek K (new_check _ _ _ _)) (str_new_run K hx hq)))
theorem line_inst {h : Heap} {o dx : Addr} {ox : Obj} {od : Obj} (ho : h.get? o = some ox) (hc : ox.cls = .ref 438) (hd : ox.dict = some dx) (hn : notCls ox = true) (hdx : h.get? dx = some od) : InstAt h o ox 438 (some od) :=
  ⟨ho, hc, hn, by rw [hd]; exact hdx⟩
theorem mset {A : Around} {x : Str} {u : Tok} {o dx : Addr} {od : Obj} {v : Value} {R : Result → Shared → Prop} (K : (KK w.params).In h) (I : InstAt h o (lineObj x u dx) 438 (some od))
    (hq : ∀ h', h'.get? o = some { lineObj x u dx with slots := #[some v] } → Heap.SameBut o h h' → R (.ok (.ret .none)) ⟨h', g, d, t, os⟩) :
    codeAny (model pg w) A (.call (.builtin "member_descriptor.__set__") ⟨[.ref 440, .ref o, v], []⟩) R ⟨h, g, d, t, os⟩ := by
  have hs : slotIn (KK w.params) 440 438 = some 0 := by kernel_rfl
  obtain ⟨n, tn, owner, behind, tb, d', sl, cd, hp, hc, hm, hb, hi⟩ := slot_of K hs
  have L0 := I.type (M := model pg w)
  have L1 := looks_mroIn (M := model pg w) K hm
  have L2 : Looks (model pg w) h (Slots.slotNamesOf (.ref 438)) cd.slotNames := (looks_clsIn K hc).andThen .now
  have hx := I.at_
  have f0 := looks_field (M := model pg w) hp 0 (v := .str n tn) rfl
  have f1 := looks_field (M := model pg w) hp 1 (v := owner) rfl
  have f3 := looks_field (M := model pg w) hp 3 (v := .builtin "proto.slot#set") rfl
  have f4 := looks_field (M := model pg w) hp 4 (v := .int behind tb) rfl
  refine codeAny_call_builtin KF.slot_mset.plain KF.entry_mset (KF.slot_mset.check _ _ _ _ _ _ _ _ ⟨_, hp, rfl⟩ (KF.args_mset _ _ _) ?_)
  unfold Builtin.«member_descriptor.__set__» descrSet descrStoreThrough descrCheckInstance descrNameAndClass isInstance
  have f5 : Looks (model pg w) h (descrItself (.ref 440)) [.ref 440] := ((Looks.ld (part := none) hp).andThen .now).andThen (Looks.of_pure (by kernel_rfl))
  dsimp only
  repeat lk
  refine ⟨Code.quiet_builtin _ (by decide +kernel), codeAny_builtin KF.entry_slotset ?_⟩
  unfold Builtin.«proto.slot#set» Slots.target
  repeat lk
  rw [if_neg hb]
  refine wpAny_pure (wpAny_bind ?_)
  unfold setSlotAt
  dsimp only
  rw [if_neg (by rw [sizeLine_eq]; omega)]
  rw [← hi]
  refine wpAny_updatePart hx (wpAny_pure (hq _ ?_ (Heap.SameBut.update ..)))
  rw [Heap.get?_update_self _ hx rfl]
  rfl
theorem set_strict {x : Str} {u : Tok} {o dx : Addr} {od : Obj} {v : Value} {Q : Unit → Shared → Prop} (K : (KK w.params).In h) (ho : h.get? o = some (lineObj x u dx)) (hdx : h.get? dx = some od)
    (hq : ∀ h', h'.get? o = some { lineObj x u dx with slots := #[some v] } → Heap.SameBut o h h' → Q () ⟨h', g, d, t + 1, os⟩) :
    wpAny (model pg w) A (setAttr (.ref o) "strict" v) Q E ⟨h, g, d, t, os⟩ := by
  have I := line_inst ho rfl rfl rfl hdx
  have SF := PySem.F.store_object
  refine set_plain (K := KK w.params) K I (by kernel_rfl) ?_
  have sub : Looks (model pg w) h (isInstance (.ref o) (.type "object")) true := I.type.andThen (Looks.of_peek K (by kernel_rfl))
  refine codeAny_call_builtin SF.slot.plain SF.entry (@check_slot (model pg w) _ _ _ "object.__setattr__" "object" "__setattr__" (.ref o) [.str "strict" t, v] [] _ SF.kind SF.split sub (SF.args (.ref o) (.str "strict" t) v) ?_)
  rw [osa_eq, refuse_eq]
  have q1 : Looks (model pg w) h (mroOf (.ref 438)) [.ref 438, .type "str", .type "object"] := Looks.of_peek K (by kernel_rfl)
  have q2 : Looks (model pg w) h (refuseLoop (.ref o) "__setattr__" [.ref 438, .type "str", .type "object"]) () := Looks.of_peek K (by kernel_rfl)
  have q3 : Looks (model pg w) h (typeLookup (.ref 438) "strict") (some (.ref 440)) := Looks.of_peek K (by kernel_rfl)
  have q4 : Looks (model pg w) h (storeTaker? (some (.ref 440))) (some (.ref 440)) := Looks.of_peek K (by kernel_rfl)
  have q5 : Looks (model pg w) h (typeOf (.ref 440)) (.type "member_descriptor") := Looks.of_peek K (by kernel_rfl)
  refine wpAny_bind (wpAny_bind (I.type.here (wpAny_bind (q1.here (q2.here ?_)))))
  refine wpAny_bind (I.type.here (wpAny_bind (q3.here (wpAny_bind (q4.here ?_)))))
  refine wpAny_bind (wpAny_rule (wpAny_bind (wpAny_holding (wpAny_bind (wpAny_bind (q5.here ((Looks.of_pure KF.slot_mset.lookup).here (wpAny_holding ?_))))))))
  rw [KF.slot_mset.bind]
  refine wpAny_bind (wpAny_pure (wpAny_bind (wpAny_call ?_)))
  refine codeAny_mono (mset (t := t + 1) (v := v) (R := fun r s' => match r with | .ok (.ret v) => v = .none ∧ Q () s' | _ => False) K I fun h' e b => ⟨rfl, hq h' e b⟩) (fun r s' z => ?_)
  rcases r with e | (v | _ | _ | _) <;> first | exact z.elim | skip
  obtain ⟨rfl, z⟩ := z
  exact wpAny_pure (wpAny_pure z)
end
end Mine

end

section
open PySem PySem.W PyProof.Rows PySem.Calls
set_option maxRecDepth 100000
set_option maxHeartbeats 4000000
namespace Mine
section
variable {w : World} {A : Around} {E : Value → Shared → Prop} {s : Shared} {g h h' : Heap} {t : Nat} {env : Env} {ns : List Str} {gl : List (Str × Value)} {vs : List (Option Value)} {σ : List (Addr × LObj)}
theorem EnvOk.gen {env : Env} (h : fnOk env.scope ns gl = true) (hg : env.globals = mainGlobals) (hb : env.builtins = builtinsNs) : EnvOk env ns gl := by
  unfold fnOk at h
  simp only [Bool.and_eq_true, List.all_eq_true, decide_eq_true_eq, Bool.not_eq_true', Bool.or_eq_true, List.contains_iff_mem] at h
  obtain ⟨⟨⟨h1, h2⟩, h3⟩, h4⟩ := h
  exact ⟨h1, hg, hb, h2, fun x hx => h3 x hx, fun p hp => ⟨(h4 p hp).1.1, (h4 p hp).1.2, (h4 p hp).2⟩⟩
theorem rgl_any {x : Str} {v : Value} {Q : Value → Shared → Prop} (S : SS w g env ns gl h vs σ) (h1 : (x, v) ∈ gl) (hq : Q v (St s h t)) :
    wpAny (model pg w) A (loadName env x) Q E (St s h t) := by
  obtain ⟨k1, k2, k3⟩ := S.e.gn _ h1
  obtain ⟨mg, mb, g1, g2, g3, g4⟩ := S.tg.gn
  refine ks_loadName_global S.e.kind k1 ?_
  rcases k3 with k | k
  · exact loadGlobal_global (env := env) (by rw [S.e.glob]; exact g1) (g3 _ k) hq
  · exact loadGlobal_builtin (env := env) (by rw [S.e.glob]; exact g1) (g4 _ k).1 (by rw [S.e.blt]; exact g2) (g4 _ k).2 hq
/-- into a function with cells of its own makers -/
theorem enterX {fd : FuncData} {body : List Stmt} {oc : Value} {od : Option Addr} {osl : Array (Option Value)} {f : Addr} {vals : List Value} {kw : List (Str × Value)} {binds : List (Str × Value)} {rest : List Str} {n : Nat} {Q : Value → Shared → Prop}
    (ho : (KK w.params).lookup f = some ⟨oc, od, .func fd, osl⟩) (hcd : codeIn (KK w.params) fd.code fd.qualname = true) (hbody : fd.body = .stmts body) (a : AOk A (n + 1)) (T : TG w g) (hk : Old g h)
    (hbind : BindsTo (St s h t) fd ⟨vals, kw⟩ binds) (hok : fnOk fd.scope ns gl = true) (hgb : fd.globals = mainGlobals) (hbt : fd.builtins = builtinsNs) (hns : binds.map (·.1) ++ rest = ns) (hvs : binds.map (fun p => some p.2) ++ rest.map (fun _ => none) = vs)
    (hq : ∀ h' t', SS w g (callEnv fd h.objs.size f) ns gl h' vs [] → AOk (A.deeper (callEnv fd h.objs.size f)) n → (∀ b o, h.get? b = some o → h'.get? b = some o) →
      PySem.wpAt (model pg w) (A.deeper (callEnv fd h.objs.size f)) (.func body (callEnv fd h.objs.size f)) (execs body (callEnv fd h.objs.size f)) (fun fl s' => Q (match fl with | .ret v => v | _ => .none) s')
        (fun e s' => wpAny (model pg w) (A.deeper (callEnv fd h.objs.size f)) (leaving (callEnv fd h.objs.size f) e) (fun _ s'' => E e s'') (fun e' s'' => E e' s'') s') (St s h' t'))
    (hcell : (fd.scope.names.all fun x => x.2 != .cell) = true := by rfl) (hloc : (binds.all fun x => decide (fd.scope.names.lookup x.1 = some .local)) = true := by rfl)
    (hco : fd.scope.isCoroutine = false := by rfl) (hgen : fd.scope.isGenerator = false := by rfl) (hk' : fd.scope.kind = .function := by rfl) : wpAny (model pg w) A (call (.ref f) vals kw) Q E (St s h t) := by
  have T' := T.keeps hk
  have ek : EnvOk (callEnv fd h.objs.size f) ns gl := EnvOk.gen hok hgb hbt
  refine wpAny_call (ks_codeAny_call_defAt (fd := fd) (body := body) (binds := binds) a.room (T'.K _ _ ho) rfl T'.nl (codeRec_of T'.K hcd) hbody hbind (fun x hx => by simpa using List.all_eq_true.mp hcell x hx) (locs hloc) (fun h₁ hns₁ hk₁ => ?_) hco hgen hk')
  refine hq h₁ _ ⟨ek, T, ⟨?_, ⟨fun b o e => hk₁ _ _ (hk.k b o e)⟩, hk.nope (Nat.le_refl _)⟩, Led.nil, by subst hns hvs; simp⟩ (a.deeper _) hk₁
  have : (fun y => binds.reverse.lookup y) = lkv ns vs := by
    subst hns hvs
    exact lkv_binds _ _ ek.nd
  show h₁.Ns h.objs.size (lkv ns vs)
  rw [← this]
  exact hns₁

/-- a call of the text's own with one argument and one by name -/
theorem e_callK {f : Str} {p pos kp : Pos} {e kv : Expr} {name : Str} {a : Addr} {o : Obj} {fd : FuncData} {Q : Value → Shared → Prop} (hd : o.data = .func fd)
    (hq : wpAny (model pg w) A (eval (.Name f p) env) (fun fv s₁ => fv = .ref a ∧ wpAny (model pg w) A (eval e env) (fun v1 s₂ => wpAny (model pg w) A (eval kv env) (fun v2 s₃ => s₃.heap.get? a = some o ∧
      wpAny (model pg w) A (call (.ref a) [v1] [(name, v2)]) Q E s₃) E s₂) E s₁) E s)
    (he : starEach [e] env = [(false, eval e env)] := by with_unfolding_all rfl) :
    wpAny (model pg w) A (eval (.Call (.Name f p) [e] [⟨some name, kv, kp⟩] pos) env) Q E s := by
  show wpAny _ _ (do callWith pos (← eval (.Name f p) env) [] (backTo pos (starEach [e] env)) (backToKw pos (keywordEach [⟨some name, kv, kp⟩] env))) _ _ _
  refine wpAny_bind (wpAny_mono hq (fun fv s₁ h₁ => ?_) fun _ _ x => x)
  obtain ⟨rfl, h₁⟩ := h₁
  refine callWith_def_kw hd (evalArgs_kw2 rfl ?_ he)
  refine spliced_more (wpAny_mono h₁ (fun v1 s₂ h₂ => spliced_none ?_) fun _ _ x => x) he
  exact kwAll_cons (wpAny_mono h₂ (fun v2 s₃ h₃ => kwAll_nil h₃) fun _ _ x => x)
@[reducible] def nsN : List Str := ["cls", "value", "strict", "encoding", "self"]
@[reducible] def glN : List (Str × Value) := [("to_unicode", .ref 47), ("super", .type "super")]
/-- an instance of the line's class -/
def IsLine (h : Heap) (o : Addr) (l : List Nat) : Prop := ∃ u dx od v, h.get? o = some { lineObj (mkS l) u dx with slots := #[some v] } ∧ h.get? dx = some od ∧ od = dictObj
theorem new_spec {n₀ : Nat} (a : AOk A (n₀ + 2)) (T : TG w g) (hk : Old g h) {l : List Nat} {u : Tok} (hlen : l.length ≤ 900) (h10 : 10 ∉ l)
    {Q : Value → Shared → Prop} (hQ : ∀ h' t' o, Old g h' → g.get? o = none → IsLine h' o l → Q (.ref o) (St s h' t')) :
    wpAny (model pg w) A (call (.ref 384) [.ref 438, .str (mkS l) u]) Q E (St s h t) := by
  refine' enterX (binds := [("cls", .ref 438), ("value", .str (mkS l) u), ("strict", .bool false), ("encoding", .str (Str.ofString "utf-8") 292)]) (rest := ["self"]) (gl := glN) ?ho ?hcd ?hbd a T hk ?hb ?hok ?hgb ?hbt rfl rfl ?_ ?c1 ?c2 ?c3 ?c4 ?c5
  (case ho => exact rfl); (case hbd => exact rfl); (case hcd => kernel_rfl!); (case hb => exact binds_K (T.keeps hk).K rfl rfl rfl rfl rfl); (case hok => kernel_rfl!); (case hgb => rfl); (case hbt => rfl)
  (case c1 => exact rfl); (case c2 => exact rfl); (case c3 => exact rfl); (case c4 => exact rfl); (case c5 => exact rfl)
  intro h t S a' keep'
  simp only [List.map_cons, List.map_nil, List.cons_append, List.nil_append] at S
  conv => enter [4, 1]; whnf
  refine ks_wpAt_execs_cons (PySem.wpAt_of_wpAny ?_)
  refine wpAny_Assign_Name ?_ (by with_unfolding_all rfl)
  refine e_callK (a := 47) (o := ob47 w.params) rfl ?_
  repeat walk_at "Y"
  refine ⟨rfl, ?_⟩
  repeat walk_at "Y"
  refine ⟨S.tg.K _ _ rfl, ?_⟩
  refine uniK_spec (a'.less (m := n₀ + 1)) S.tg (Old.refl _) ?_
  intro h t o1
  have S := S.after o1
  repeat walk_at "Y"
  refine ks_wpAt_execs_cons (PySem.wpAt_of_wpAny (wpAny_Assert_holds ?_))
  repeat walk_at "Y"
  rw [nl_str, in_one]
  refine ⟨by simpa using h10, ?_⟩
  refine ks_wpAt_execs_cons (ks_wpAt_Assign_Name (ks_wpAt_MethodCall (pl := _) (ks_wpAt_super_base (f := 384) (cc := 383) (tf := _) (by kernel_rfl!) (by kernel_rfl!) (by rfl) rfl (S.tg.K _ _ rfl) rfl rfl rfl (S.tg.K _ _ rfl) rfl rfl (by kernel_rfl!) (by kernel_rfl!) ?_) (by with_unfolding_all rfl)) (by with_unfolding_all rfl))
  refine rgl_any S (v := .type "super") (.tail _ (.head _)) ?_
  refine ⟨rfl, ?_⟩
  refine wpAny_loadName_free S.e.kind (by kernel_rfl!) (c := 370) rfl ⟨_, S.tg.K _ _ rfl, rfl⟩ ?_
  refine rl_any S (i := 0) rfl rfl ?_
  refine ks_wpAny_isType_cls (S.tg.K 438 _ rfl) rfl ⟨rfl, ?_⟩
  refine call_super_cls (S.tg.K 438 _ rfl) rfl (Looks.of_peek S.tg.K (by kernel_rfl)) fun h' hso k1 => ?_
  have S := S.after (h' := h') ⟨k1⟩
  refine getMethod_super_own (K := KK w.params) (l₀ := [.ref 438, .type "str", .type "object"]) (l := [.type "str", .type "object"]) hso (looks_opaque S.tg.K (by kernel_rfl)) (Looks.of_peek S.tg.K (by kernel_rfl)) rfl S.tg.K (along_new w.params) (by rfl) new_type new_noget handed_new ?_
  refine c_blt ?_
  refine a_more ?_
  refine rn_any S (i := 0) rfl rfl ?_
  refine a_more ?_
  refine rn_any S (i := 1) rfl rfl ?_
  refine a_none ?_
  refine call_str_new S.tg.K (by rw [mkS_len]; omega) ?_
  have hdict : (h'.push dictObj).get? h'.objs.size = some dictObj := Heap.get?_push_size _ rfl
  have S := S.new (a := h'.objs.size) (x := .obj dictObj) (h' := h'.push dictObj) ⟨fun b o e => Heap.get?_push_of_some _ e⟩ ((Old.refl h').nope (Nat.le_refl _)) hdict
  have hline : ((h'.push dictObj).push (lineObj (mkS l) (t + 1) h'.objs.size)).get? (h'.objs.size + 1) = some (lineObj (mkS l) (t + 1) h'.objs.size) := by
    have := Heap.get?_push_size (h'.push dictObj) (o := lineObj (mkS l) (t + 1) h'.objs.size) rfl
    rwa [Heap.size_push] at this
  have S := S.new (a := h'.objs.size + 1) (x := .obj (lineObj (mkS l) (t + 1) h'.objs.size)) (h' := (h'.push dictObj).push (lineObj (mkS l) (t + 1) h'.objs.size)) ⟨fun b o e => Heap.get?_push_of_some _ e⟩ ((Old.refl _).nope (by rw [Heap.size_push]; exact Nat.le_refl _)) hline
  generalize h'.objs.size + 1 = o at S ⊢
  generalize h'.objs.size = dx at S ⊢
  refine r_st4 S ?_
  clear S; intro h t S
  have ho : h.get? o = some (lineObj (mkS l) _ dx) := S.D.is _ (.head _)
  have hdx : h.get? dx = some dictObj := S.D.is _ (.tail _ (.head _))
  refine ks_wpAt_execs_cons (ks_wpAt_Assign_Attr (PySem.wpAt_of_wpAny ?_) (by with_unfolding_all rfl))
  refine rn_any S (i := 2) rfl rfl ?_
  refine rn_any S (i := 4) rfl rfl ?_
  refine set_strict S.tg.K ho hdx fun h2 e2 b2 => ?_
  have S := S.setAny (i := 0) (y := .obj _) rfl b2 e2
  refine PySem.wpAt_of_wpAny (x_ret ?_)
  refine rn_any S (i := 4) rfl rfl ?_
  have i0 := S.D.is _ (.head _)
  have i1 := S.D.is _ (.tail _ (.head _))
  exact hQ _ _ _ S.old (S.D.fr _ (.head _)) ⟨_, _, _, _, i0, i1, rfl⟩
end
end Mine

end

section
open PySem PySem.W PyProof.Rows PySem.Calls
set_option maxRecDepth 100000
set_option maxHeartbeats 1000000
namespace Mine
open Builtin Builtin.ObjectAttr
section
variable {w : World} {A : Around} {E : Value → Shared → Prop} {h : Heap} {g : Array GenState} {d : Drawn} {t : Nat} {os : OsState}
theorem reads438 (P : Params) : readsIn (KK P) 438 (.type "type") = true := by kernel_rfl
theorem find_new (P : Params) : findCls (KK P) (.ref 438) (.type "type") "__new__" = some (.get (.builtin "staticmethod.__get__") (.ref 439) .none (.ref 438)) := by kernel_rfl
theorem rec439 (P : Params) : recIn (KK P) 439 "staticmethod" = some [.ref 384] := by kernel_rfl
theorem handed384 : handedIn (.ref 384) = true := by rfl
/-- Contentline.__new__ is found -/
theorem get_new {Q : Value → Shared → Prop} (K : (KK w.params).In h) (hq : Q (.ref 384) ⟨h, g, d, t + 1, os⟩) : wpAny (model pg w) A (getAttr (.ref 438) "__new__") Q E ⟨h, g, d, t, os⟩ := by
  refine cls_bind (K := KK w.params) K (reads438 _) (find_new _) (wpAny_call ?_)
  exact sm_get (K := KK w.params) K (rec439 _) (handed_on handed384 hq)
end
end Mine

end

section
open PySem PySem.W PyProof.Rows PySem.Calls
set_option maxRecDepth 100000
set_option maxHeartbeats 1000000
namespace Mine
open Builtin Builtin.ObjectAttr
section
variable {w : World} {A : Around} {E : Value → Shared → Prop} {h : Heap} {g : Array GenState} {d : Drawn} {t : Nat} {os : OsState}
/-- a line made by its class: what its own __new__ gives -/
theorem call_438_core {v : Value} {kw : List (Str × Value)} {R : Result → Shared → Prop} (K : (KK w.params).In h)
    (hq : wpAny (model pg w) (A.under (.builtin "type.__call__" ⟨[.ref 438, v], kw⟩)) (call (.ref 384) [.ref 438, v] kw) (fun r s' => ∃ o ox od, r = .ref o ∧ InstAt s'.heap o ox 438 od ∧ (KK w.params).In s'.heap ∧ R (.ok (.ret (.ref o))) s') (fun e s' => R (.error e) s') ⟨h, g, d, t + 1, os⟩) :
    codeAny (model pg w) A (.call (.ref 438) ⟨[v], kw⟩) R ⟨h, g, d, t, os⟩ := by
  have hC : h.get? 438 = some (ob438 w.params) := K _ _ rfl
  have call : Looks (model pg w) h (specialOf (.ref 438) "__call__") (some (.builtin "type.__call__")) := Looks.of_peek K (by kernel_rfl)
  have typ : Looks (model pg w) h (isInstance (.ref 438) (.type "type")) true := Looks.of_peek K (by kernel_rfl)
  refine codeAny_of_tree ?_
  show wpAny _ _ (callAny (.ref 438) _) _ _ _
  refine nd_load hC ?_
  show wpAny _ _ (callAny.viaDunder (.ref 438) _) _ _ _
  unfold callAny.viaDunder
  refine wpAny_bind (call.at ?_)
  dsimp only
  rw [tc_bind]
  refine wpAny_bind (wpAny_pure (wpAny_bind (wpAny_pure ?_)))
  refine wpAny_pure (a := Fin.again (.call (.builtin "type.__call__") ⟨.ref 438 :: [v], kw⟩)) (And.intro rfl ?_)
  refine codeAny_call_builtin_at (Code.quiet_builtin _ (by decide +kernel)) entry_typeCall (check_slot tc_kind tc_split typ (tc_args _ _ _) ?_)
  unfold Builtin.«type.__call__»
  have hm : Looks (model pg w) h (mroOf (.ref 438)) [.ref 438, .type "str", .type "object"] := Looks.of_peek K (by kernel_rfl)
  have hmade : Looks (model pg w) h (Bind.madeBy (.ref 438)) none := Looks.of_peek K (by kernel_rfl)
  dsimp only
  repeat (first | (with_reducible refine get_new K ?_) | (with_reducible refine wpAny_mono hq ?_ ?_) | lk)
  rotate_left
  · exact fun _ _ z => z
  rintro r ⟨hh, gg, dd, tt, oo⟩ ⟨o, ox, od, rfl, I, K', hR⟩
  have i0 := I.type (M := model pg w)
  have i1 : Looks (model pg w) hh (isInstance (.ref o) (.ref 438)) true := i0.andThen (Looks.of_peek K' (by kernel_rfl))
  have i2 : Looks (model pg w) hh (typeLookup (.ref 438) "__init__") (some (.builtin "object.__init__")) := Looks.of_peek K' (by kernel_rfl)
  have i3 : Looks (model pg w) hh (isInstance (.ref o) (.type "object")) true := i0.andThen (Looks.of_peek K' (by kernel_rfl))
  have i4 : Looks (model pg w) hh (Bind.madeBy (.ref 438)) none := Looks.of_peek K' (by kernel_rfl)
  have b1 := oi_bind (.ref o)
  refine wpAny_bind (i1.at ?_)
  rw [if_neg (by decide)]
  unfold callSpecial? specialOf
  refine wpAny_bind (wpAny_holding (wpAny_bind (wpAny_bind (i0.at (i2.at ?_)))))
  dsimp only
  rw [b1]
  refine wpAny_holding (wpAny_bind (wpAny_pure (wpAny_bind (wpAny_call ?_))))
  refine codeAny_call_builtin_at (Code.quiet_builtin _ (by decide +kernel)) entry_oi (check_slot (self := .ref o) (rest := [v]) oi_kind oi_split i3 (by unfold argsOk; kernel_rfl) ?_)
  have un : Builtin.«object.__init__» ⟨[.ref o, v], kw⟩ = (do
      let tp ← typeOf (.ref o)
      let initOverridden := (← typeLookup tp "__init__") != some (.builtin "object.__init__")
      let noSlot : Bool := match tp with | .type n => ((Manifest.find? n).elim [] (·.mro)).any (fun b => (Manifest.find? b).any (·.noNew)) | _ => false
      let made ← Bind.madeBy tp
      let newOverridden := noSlot || made != some "object.__new__"
      if initOverridden then raiseError "TypeError" "object.__init__() takes exactly one argument (the instance to initialize)"
      if !newOverridden then raiseError "TypeError" s!"{← typeNameOf (.ref o)}.__init__() takes exactly one argument (the instance to initialize)"
      ret .none) := by kernel_rfl
  show wpAny _ _ (Builtin.«object.__init__» ⟨[.ref o, v], kw⟩) _ _ _
  rw [un]
  refine wpAny_bind (i0.at (wpAny_bind (i2.at ?_)))
  refine wpAny_bind (i4.at ?_)
  dsimp only
  rw [if_neg (by decide +kernel), if_neg (by decide +kernel)]
  refine wpAny_pure ?_
  exact wpAny_pure (wpAny_pure hR)
end
end Mine

end

section
open PySem PySem.W PyProof.Rows PySem.Calls
set_option maxRecDepth 100000
namespace Mine
theorem AOk.tc {A : Around} {n : Nat} {kw : List (Str × Value)} {v : Value} (a : AOk A (n + 1)) : AOk (A.under (.builtin "type.__call__" ⟨[.ref 438, v], kw⟩)) n := by
  have e1 : (Code.builtin "type.__call__" ⟨[.ref 438, v], kw⟩).weight = 1 := by kernel_rfl
  have e2 : (Code.builtin "type.__call__" ⟨[.ref 438, v], kw⟩).cUnits = 1 := by kernel_rfl
  exact ⟨a.h, by have := a.d; show A.depth + _ + n ≤ 500; rw [e1]; omega, by have := a.u; show A.units + _ + 10 * n ≤ 5000; rw [e2]; omega⟩
section
variable {w : World} {A : Around} {E : Value → Shared → Prop} {s : Shared} {g h h' : Heap} {t : Nat}
/-- a line made of a str without line ends -/
theorem make_spec {n₀ : Nat} (a : AOk A (n₀ + 3)) (T : TG w g) (hk : Old g h) {l : List Nat} {u : Tok} (hlen : l.length ≤ 900) (h10 : 10 ∉ l)
    {Q : Value → Shared → Prop} (hQ : ∀ h' t' o, Old g h' → g.get? o = none → IsLine h' o l → Q (.ref o) (St s h' t')) :
    wpAny (model pg w) A (call (.ref 438) [.str (mkS l) u]) Q E (St s h t) := by
  refine wpAny_call (call_438_core (T.keeps hk).K ?_)
  refine new_spec (a.tc (n := n₀ + 2)) T hk hlen h10 (s := s) (t := t + 1) fun h' t' o o1 o2 o3 => ?_
  obtain ⟨u', dx, od, v, e1, e2, e3⟩ := o3
  exact ⟨o, _, _, rfl, line_inst e1 rfl rfl rfl e2, (T.keeps o1).K, hQ h' t' o o1 o2 ⟨u', dx, od, v, e1, e2, e3⟩⟩
end
end Mine

end

section
open PySem PySem.W PyProof.Rows PySem.Calls
set_option maxRecDepth 100000
set_option maxHeartbeats 4000000
namespace Mine
section
variable {w : World} {A : Around} {E : Value → Shared → Prop} {s : Shared} {g h h' : Heap} {t : Nat}
theorem newK_spec {n₀ : Nat} (a : AOk A (n₀ + 2)) (T : TG w g) (hk : Old g h) {l : List Nat} {u : Tok} (hlen : l.length ≤ 900) (h10 : 10 ∉ l)
    {Q : Value → Shared → Prop} (hQ : ∀ h' t' o, Old g h' → g.get? o = none → IsLine h' o l → Q (.ref o) (St s h' t')) :
    wpAny (model pg w) A (call (.ref 384) [.ref 438, .str (mkS l) u] [("strict", .bool false)]) Q E (St s h t) := by
  refine' enterX (binds := [("cls", .ref 438), ("value", .str (mkS l) u), ("strict", .bool false), ("encoding", .str (Str.ofString "utf-8") 292)]) (rest := ["self"]) (gl := glN) ?ho ?hcd ?hbd a T hk ?hb ?hok ?hgb ?hbt rfl rfl ?_ ?c1 ?c2 ?c3 ?c4 ?c5
  (case ho => exact rfl); (case hbd => exact rfl); (case hcd => kernel_rfl!); (case hb => exact binds_K (T.keeps hk).K rfl rfl rfl rfl rfl); (case hok => kernel_rfl!); (case hgb => rfl); (case hbt => rfl)
  (case c1 => exact rfl); (case c2 => exact rfl); (case c3 => exact rfl); (case c4 => exact rfl); (case c5 => exact rfl)
  intro h t S a' keep'
  simp only [List.map_cons, List.map_nil, List.cons_append, List.nil_append] at S
  conv => enter [4, 1]; whnf
  refine ks_wpAt_execs_cons (PySem.wpAt_of_wpAny ?_)
  refine wpAny_Assign_Name ?_ (by with_unfolding_all rfl)
  refine e_callK (a := 47) (o := ob47 w.params) rfl ?_
  repeat walk_at "Y"
  refine ⟨rfl, ?_⟩
  repeat walk_at "Y"
  refine ⟨S.tg.K _ _ rfl, ?_⟩
  refine uniK_spec (a'.less (m := n₀ + 1)) S.tg (Old.refl _) ?_
  intro h t o1
  have S := S.after o1
  repeat walk_at "Y"
  refine ks_wpAt_execs_cons (PySem.wpAt_of_wpAny (wpAny_Assert_holds ?_))
  repeat walk_at "Y"
  rw [nl_str, in_one]
  refine ⟨by simpa using h10, ?_⟩
  refine ks_wpAt_execs_cons (ks_wpAt_Assign_Name (ks_wpAt_MethodCall (pl := _) (ks_wpAt_super_base (f := 384) (cc := 383) (tf := _) (by kernel_rfl!) (by kernel_rfl!) (by rfl) rfl (S.tg.K _ _ rfl) rfl rfl rfl (S.tg.K _ _ rfl) rfl rfl (by kernel_rfl!) (by kernel_rfl!) ?_) (by with_unfolding_all rfl)) (by with_unfolding_all rfl))
  refine rgl_any S (v := .type "super") (.tail _ (.head _)) ?_
  refine ⟨rfl, ?_⟩
  refine wpAny_loadName_free S.e.kind (by kernel_rfl!) (c := 370) rfl ⟨_, S.tg.K _ _ rfl, rfl⟩ ?_
  refine rl_any S (i := 0) rfl rfl ?_
  refine ks_wpAny_isType_cls (S.tg.K 438 _ rfl) rfl ⟨rfl, ?_⟩
  refine call_super_cls (S.tg.K 438 _ rfl) rfl (Looks.of_peek S.tg.K (by kernel_rfl)) fun h' hso k1 => ?_
  have S := S.after (h' := h') ⟨k1⟩
  refine getMethod_super_own (K := KK w.params) (l₀ := [.ref 438, .type "str", .type "object"]) (l := [.type "str", .type "object"]) hso (looks_opaque S.tg.K (by kernel_rfl)) (Looks.of_peek S.tg.K (by kernel_rfl)) rfl S.tg.K (along_new w.params) (by rfl) new_type new_noget handed_new ?_
  refine c_blt ?_
  refine a_more ?_
  refine rn_any S (i := 0) rfl rfl ?_
  refine a_more ?_
  refine rn_any S (i := 1) rfl rfl ?_
  refine a_none ?_
  refine call_str_new S.tg.K (by rw [mkS_len]; omega) ?_
  have hdict : (h'.push dictObj).get? h'.objs.size = some dictObj := Heap.get?_push_size _ rfl
  have S := S.new (a := h'.objs.size) (x := .obj dictObj) (h' := h'.push dictObj) ⟨fun b o e => Heap.get?_push_of_some _ e⟩ ((Old.refl h').nope (Nat.le_refl _)) hdict
  have hline : ((h'.push dictObj).push (lineObj (mkS l) (t + 1) h'.objs.size)).get? (h'.objs.size + 1) = some (lineObj (mkS l) (t + 1) h'.objs.size) := by
    have := Heap.get?_push_size (h'.push dictObj) (o := lineObj (mkS l) (t + 1) h'.objs.size) rfl
    rwa [Heap.size_push] at this
  have S := S.new (a := h'.objs.size + 1) (x := .obj (lineObj (mkS l) (t + 1) h'.objs.size)) (h' := (h'.push dictObj).push (lineObj (mkS l) (t + 1) h'.objs.size)) ⟨fun b o e => Heap.get?_push_of_some _ e⟩ ((Old.refl _).nope (by rw [Heap.size_push]; exact Nat.le_refl _)) hline
  generalize h'.objs.size + 1 = o at S ⊢
  generalize h'.objs.size = dx at S ⊢
  refine r_st4 S ?_
  clear S; intro h t S
  have ho : h.get? o = some (lineObj (mkS l) _ dx) := S.D.is _ (.head _)
  have hdx : h.get? dx = some dictObj := S.D.is _ (.tail _ (.head _))
  refine ks_wpAt_execs_cons (ks_wpAt_Assign_Attr (PySem.wpAt_of_wpAny ?_) (by with_unfolding_all rfl))
  refine rn_any S (i := 2) rfl rfl ?_
  refine rn_any S (i := 4) rfl rfl ?_
  refine set_strict S.tg.K ho hdx fun h2 e2 b2 => ?_
  have S := S.setAny (i := 0) (y := .obj _) rfl b2 e2
  refine PySem.wpAt_of_wpAny (x_ret ?_)
  refine rn_any S (i := 4) rfl rfl ?_
  have i0 := S.D.is _ (.head _)
  have i1 := S.D.is _ (.tail _ (.head _))
  exact hQ _ _ _ S.old (S.D.fr _ (.head _)) ⟨_, _, _, _, i0, i1, rfl⟩
/-- a line made of a str without line ends -/
theorem makeK_spec {n₀ : Nat} (a : AOk A (n₀ + 3)) (T : TG w g) (hk : Old g h) {l : List Nat} {u : Tok} (hlen : l.length ≤ 900) (h10 : 10 ∉ l)
    {Q : Value → Shared → Prop} (hQ : ∀ h' t' o, Old g h' → g.get? o = none → IsLine h' o l → Q (.ref o) (St s h' t')) :
    wpAny (model pg w) A (call (.ref 438) [.str (mkS l) u] [("strict", .bool false)]) Q E (St s h t) := by
  refine wpAny_call (call_438_core (T.keeps hk).K ?_)
  refine newK_spec (a.tc (n := n₀ + 2)) T hk hlen h10 (s := s) (t := t + 1) fun h' t' o o1 o2 o3 => ?_
  obtain ⟨u', dx, od, v, e1, e2, e3⟩ := o3
  exact ⟨o, _, _, rfl, line_inst e1 rfl rfl rfl e2, (T.keeps o1).K, hQ h' t' o o1 o2 ⟨u', dx, od, v, e1, e2, e3⟩⟩
end
end Mine

end

section
open PySem PySem.W PyProof.Rows PySem.Calls
set_option maxRecDepth 100000
set_option maxHeartbeats 4000000
namespace Mine
open Builtin Builtin.ObjectAttr
section
variable {w : World} {A : Around} {E : Value → Shared → Prop} {s : Shared} {g h h' : Heap} {t : Nat} {env : Env} {ns : List Str} {gl : List (Str × Value)} {vs : List (Option Value)} {σ : List (Addr × LObj)}
/-- enter, in the machine's own words -/
theorem enterC {name qual : Str} {params : Arguments} {body : List Stmt} {scope : Scope} {dV kV doc pm cdv ct oc : Value} {an od : Option Addr} {osl : Array (Option Value)} {f : Addr} {vals : List Value} {kw : List (Str × Value)} {binds : List (Str × Value)} {rest : List Str} {n : Nat} {R : Result → Shared → Prop}
    (ho : (KK w.params).lookup f = some ⟨oc, od, .func (fnOf name qual params body scope dV kV doc pm an cdv ct), osl⟩)
    (hcd : codeIn (KK w.params) cdv qual = true) (a : AOk A (n + 1)) (T : TG w g) (hk : Old g h)
    (hbind : BindsTo (St s h t) (fnOf name qual params body scope dV kV doc pm an cdv ct) ⟨vals, kw⟩ binds)
    (hok : fnOk scope ns gl = true) (hns : binds.map (·.1) ++ rest = ns) (hvs : binds.map (fun p => some p.2) ++ rest.map (fun _ => none) = vs)
    (hσ : ∀ p ∈ σ, Is h p.1 p.2 ∧ g.get? p.1 = none) (hnd : (σ.map (·.1)).Nodup)
    (hq : ∀ env h' t', SS w g env ns gl h' vs σ → AOk (A.deeper env) n → (∀ b o, h.get? b = some o → h'.get? b = some o) →
      wpAny (model pg w) (A.deeper env) (execs body env) (fun fl s' => R (.ok (.ret (match fl with | .ret v => v | _ => .none))) s') (fun _ _ => False) (St s h' t'))
    (hco : scope.isCoroutine = false := by rfl) (hgen : scope.isGenerator = false := by rfl) (hk' : scope.kind = .function := by rfl)
    (hcell : (scope.names.all fun x => x.2 != .cell) = true := by rfl) (hloc : (binds.all fun x => decide (scope.names.lookup x.1 = some .local)) = true := by rfl) : codeAny (model pg w) A (.call (.ref f) ⟨vals, kw⟩) R (St s h t) := by
  have T' := T.keeps hk
  have ek : EnvOk (envOf qual scope h.objs.size f cdv) ns gl := EnvOk.of hok
  refine (codeAny_call_def (fd := fnOf name qual params body scope dV kV doc pm an cdv ct) (body := body) (binds := binds) a.room (T'.K _ _ ho) rfl T'.nl (codeRec_of T'.K hcd) rfl hbind (fun x hx => by simpa using List.all_eq_true.mp hcell x hx) (locs hloc) (fun h₁ hns₁ hk₁ => ?_) hco hgen hk')
  refine wpAny_mono (hq (envOf qual scope h.objs.size f cdv) h₁ _ ⟨ek, T, ⟨?_, ⟨fun b o e => hk₁ _ _ (hk.k b o e)⟩, ?_⟩, ⟨fun p hp => (hσ p hp).1.keep fun o e => hk₁ _ o e, fun p hp => Nat.ne_of_lt (hσ p hp).1.lt, fun p hp => (hσ p hp).2, hnd⟩, by subst hns hvs; simp⟩ (a.deeper _) hk₁) (fun _ _ x => x) fun _ _ x => x.elim
  · have : (fun y => binds.reverse.lookup y) = lkv ns vs := by
      subst hns hvs
      exact lkv_binds _ _ ek.nd
    show h₁.Ns h.objs.size (lkv ns vs)
    rw [← this]
    exact hns₁
  · exact hk.nope (Nat.le_refl _)

/-- a call of a thing of the text's own, with one argument and one by name -/
theorem e_callKC {f : Str} {p pos kp : Pos} {e kv : Expr} {name : Str} {Q : Value → Shared → Prop}
    (hq : wpAny (model pg w) A (eval (.Name f p) env) (fun fv s₁ => keepIn (KK w.params) fv = true ∧ wpAny (model pg w) A (eval e env) (fun v1 s₂ => wpAny (model pg w) A (eval kv env) (fun v2 s₃ => (KK w.params).In s₃.heap ∧
      wpAny (model pg w) A (call fv [v1] [(name, v2)]) Q E s₃) E s₂) E s₁) E s)
    (he : starEach [e] env = [(false, eval e env)] := by with_unfolding_all rfl) :
    wpAny (model pg w) A (eval (.Call (.Name f p) [e] [⟨some name, kv, kp⟩] pos) env) Q E s := by
  show wpAny _ _ (do callWith pos (← eval (.Name f p) env) [] (backTo pos (starEach [e] env)) (backToKw pos (keywordEach [⟨some name, kv, kp⟩] env))) _ _ _
  refine wpAny_bind (wpAny_mono hq (fun fv s₁ h₁ => ?_) fun _ _ x => x)
  obtain ⟨hk, h₁⟩ := h₁
  refine callWith_of (P := fun h => (KK w.params).In h) (by rw [he]; rfl) (keeps_K hk) (evalArgs_kw2 rfl ?_ he)
  refine spliced_more (wpAny_mono h₁ (fun v1 s₂ h₂ => spliced_none ?_) fun _ _ x => x) he
  exact kwAll_cons (wpAny_mono h₂ (fun v2 s₃ h₃ => kwAll_nil h₃) fun _ _ x => x)
/-- a value that to_unicode makes a text of -/
def UniOk (w : World) (v : Value) (l : List Nat) : Prop := ∀ {A : Around} {n : Nat} {E : Value → Shared → Prop} {s : Shared} {g h : Heap} {t : Nat} {Q : Value → Shared → Prop}, AOk A (n + 1) → TG w g → Old g h →
  (∀ h' t' u', Old g h' → Q (.str (mkS l) u') (St s h' t')) → wpAny (model pg w) A (call (.ref 47) [v]) Q E (St s h t)
theorem UniOk.str {l : List Nat} {u : Tok} : UniOk w (.str (mkS l) u) l := fun a T o q => uni_spec a T o fun h' t' o' => q h' t' u o'
theorem UniOk.bytes {l : List Nat} {u : Tok} (hl : ∀ c ∈ l, c ∈ alpha2) (hz : l.length ≤ 2 ^ 20) (hne : l ≠ []) : UniOk w (.bytes (l.flatMap Str.utf8Of).toArray u) l := fun a T o q => uniB_spec a T o hl hz hne q
@[reducible] def nsC : List Str := ["cls", "ical", "strict"]
@[reducible] def glC : List (Str × Value) := [("to_unicode", .ref 47), ("UFOLD", .ref 351)]
theorem from_code {n₀ : Nat} (a : AOk A (n₀ + 4)) (T : TG w g) (hk : Old g h) {v : Value} {l out : List Nat} (hv : UniOk w v l) (hF : Fold l out) (hlen : l.length ≤ 900) (hlen2 : out.length ≤ 900) (h10 : 10 ∉ out)
    {R : Result → Shared → Prop} (hQ : ∀ h' t' o, Old g h' → g.get? o = none → IsLine h' o out → R (.ok (.ret (.ref o))) (St s h' t')) :
    codeAny (model pg w) A (.call (.ref 424) ⟨[.ref 438, v], []⟩) R (St s h t) := by
  refine' enterC (binds := [("cls", .ref 438), ("ical", v), ("strict", .bool false)]) (rest := []) (gl := glC) (σ := []) ?ho ?hcd a T hk ?hb ?hok rfl rfl ?hσ ?hnd ?_ ?c1 ?c2 ?c3 ?c4 ?c5
  case hσ => intro p hp; cases hp
  case hnd => simp
  (case ho => exact rfl); (case hb => exact binds_K (T.keeps hk).K rfl rfl rfl rfl rfl); (case hcd => kernel_rfl!); (case hok => kernel_rfl!)
  (case c1 => exact rfl); (case c2 => exact rfl); (case c3 => exact rfl); (case c4 => exact rfl); (case c5 => exact rfl)
  intro env h t S a' keep'
  simp only [List.map_cons, List.map_nil, List.cons_append, List.nil_append] at S
  conv => enter [3, 1]; whnf
  repeat walk_at "Y"
  walk_at "c"
  repeat walk_at "Y"
  refine ⟨S.tg, ?_⟩
  refine hv (a'.less (m := n₀ + 1)) S.tg (Old.refl _) ?_
  intro h t u o1
  have S := S.after o1
  repeat walk_at "Y"
  refine e_callKC ?_
  repeat walk_at "Y"
  refine ⟨by kernel_rfl!, ?_⟩
  refine e_meth2 ?_
  repeat walk_at "Y"
  refine m_sub S.tg ?_
  repeat walk_at "Y"
  refine ⟨_, _, _, _, rfl, rfl, S.tg, hF, hlen, fun h t u o1 => ?_⟩
  have S := S.after o1
  repeat walk_at "Y"
  refine ⟨S.tg.K, ?_⟩
  refine makeK_spec (a'.less (m := n₀ + 3)) S.tg (Old.refl _) hlen2 h10 fun h' t' o o1 o2 o3 => ?_
  have S' := S.after o1
  exact hQ _ _ _ S'.old (S.old.none o2) o3
theorem reads438' (P : Params) : readsIn (KK P) 438 (.type "type") = true := by kernel_rfl
theorem find_from (P : Params) : findCls (KK P) (.ref 438) (.type "type") "from_ical" = some (.get (.builtin "classmethod.__get__") (.ref 426) .none (.ref 438)) := by kernel_rfl
theorem rec426 (P : Params) : recIn (KK P) 426 "classmethod" = some [.ref 424, .bool false] := by kernel_rfl
theorem ga438 (P : Params) : specialIn (KK P) (.ref 438) "__getattribute__" = some (some (.builtin "type.__getattribute__")) := by kernel_rfl
/-- Contentline.from_ical(..) -/
theorem e_from {n₀ : Nat} {pl : Sem Bool} {x : Str} {e : Expr} {p apos pos : Pos} (a : AOk A (n₀ + 4)) (S : SS w g env ns gl h vs σ) (hx : (x, .ref 438) ∈ gl) {Q : Value → Shared → Prop}
    (hq : ∀ h t q, SS w g env ns gl h vs ((q, .obj (methodObj (.ref 424) (.ref 438))) :: σ) → wpAny (model pg w) A (eval e env) (fun v s₁ => ∃ h₁ t₁ l out, s₁ = St s h₁ t₁ ∧ Old h h₁ ∧ UniOk w v l ∧ Fold l out ∧ l.length ≤ 900 ∧ out.length ≤ 900 ∧ 10 ∉ out ∧
      ∀ h' t' o, Old h₁ h' → h₁.get? o = none → IsLine h' o out → Q (.ref o) (St s h' t')) E (St s h t))
    (hbase : attributeBase (.Name x p) "from_ical" env (eval (.Name x p) env) = eval (.Name x p) env := by with_unfolding_all rfl)
    (he : starEach [e] env = [(false, eval e env)] := by with_unfolding_all rfl)
    (hE : eval (.Call (.Attribute (.Name x p) "from_ical" apos) [e] [] pos) env = (do
      let ov ← eval (.Name x p) env
      standAt apos.atName
      let (f, first) ← holding [ov] (getMethod ov "from_ical" pl)
      callWith pos f first (backTo pos (starEach [e] env)) []) := by with_unfolding_all rfl) :
    wpAny (model pg w) A (eval (.Call (.Attribute (.Name x p) "from_ical" apos) [e] [] pos) env) Q E (St s h t) := by
  refine MethodCall_ ?_ hE
  refine rg_any S hx ?_
  refine method_cls (K := KK w.params) S.tg.K (ga438 _) ?_
  refine cls_bind (K := KK w.params) S.tg.K (reads438' _) (find_from _) (wpAny_call ?_)
  refine cm_get (K := KK w.params) S.tg.K (rec426 _) (handed_on rfl ?_)
  have hm := Heap.get?_push_size h (o := methodObj (.ref 424) (.ref 438)) rfl
  have S := S.new (a := h.objs.size) (x := .obj (methodObj (.ref 424) (.ref 438))) (h' := h.push (methodObj (.ref 424) (.ref 438))) ⟨fun b o e => Heap.get?_push_of_some _ e⟩ ((Old.refl h).nope (Nat.le_refl _)) hm
  generalize h.push (methodObj (.ref 424) (.ref 438)) = h₂ at S ⊢
  show wpAny _ _ (callWith pos (.ref h.objs.size) [] (backTo pos (starEach [e] env)) []) _ _ _
  generalize h.objs.size = q at S ⊢
  rw [he]
  refine callWith_of (P := MethP (KK w.params) q 424 (.ref 438)) rfl (keeps_M (by kernel_rfl!)) (evalArgs_plain ?_)
  refine Calls.spliced_cons (wpAny_mono (hq h₂ (t + 1) q S) (fun v s₁ h₁ => Calls.spliced_nil ?_) fun _ _ x => x)
  obtain ⟨h₁, t₁, l, out, rfl, o1, hv, hF, z1, z2, h10, hQ⟩ := h₁
  have T₁ := S.tg.keeps o1
  have hm₁ : h₁.get? q = some (methodObj (.ref 424) (.ref 438)) := o1.k _ _ (S.D.is _ (.head _))
  refine ⟨⟨hm₁, T₁.K⟩, wpAny_call (method_call hm₁ ?_)⟩
  exact from_code (n₀ := n₀) a T₁ (Old.refl _) hv hF z1 z2 h10 fun h' t' o o2 o3 o4 => hQ h' t' o o2 o3 o4
end
end Mine

end

section
open PySem PySem.W PyProof.Rows PySem.Calls
set_option maxRecDepth 100000
set_option maxHeartbeats 1000000
namespace Mine
open Builtin Builtin.Str Builtin.ObjectAttr
section
variable {w : World} {A : Around} {E : Value → Shared → Prop} {h h' : Heap} {g : Array GenState} {d : Drawn} {t : Nat} {os : OsState} {o : Addr} {l : List Nat}
theorem IsLine.keep (I : IsLine h o l) (k : Old h h') : IsLine h' o l := by
  obtain ⟨u, dx, od, v, e1, e2, e3⟩ := I
  exact ⟨u, dx, od, v, k.k _ _ e1, k.k _ _ e2, e3⟩
theorem IsLine.inst (I : IsLine h o l) : ∃ ox, InstAt h o ox 438 (some dictObj) := by
  obtain ⟨u, dx, od, v, e1, e2, e3⟩ := I
  subst e3
  exact ⟨_, line_inst e1 rfl rfl rfl e2⟩
theorem IsLine.type {M : Model} (I : IsLine h o l) : Looks M h (typeOf (.ref o)) (.ref 438) := by
  obtain ⟨ox, i⟩ := I.inst
  exact i.type
theorem IsLine.isStr {M : Model} (I : IsLine h o l) (K : (KK M.w.params).In h) : Looks M h (isInstance (.ref o) (.type "str")) true := I.type.andThen (Looks.of_peek K (by kernel_rfl))
theorem IsLine.asStr {M : Model} (I : IsLine h o l) : Looks M h (asStr? (.ref o)) (some (mkS l)) := by
  obtain ⟨u, dx, od, v, e1, e2, e3⟩ := I
  exact (Looks.ld (part := none) e1).andThen .now
theorem IsLine.text {M : Model} (I : IsLine h o l) : Looks M h (textOf (.ref o)) (mkS l) := I.asStr.andThen .now
/-- a slot of str's upon a line -/
theorem line_slot {id n : String} {B : Builtin} {rest : List Value} {Q : Value → Shared → Prop} (K : (KK w.params).In h) (I : IsLine h o l)
    (hk : builtinKind id = some .slot) (hs : splitId id = some ("str", n)) (he : entryFor table id = some B) (hp : plainId id = true) (ha : argsOk id ⟨.ref o :: rest, []⟩)
    (hb : wpAny (model pg w) A.in1 (B ⟨.ref o :: rest, []⟩) (fun fin s' => match fin with | .done (.ret v) => Q v s' | _ => False) E ⟨h, g, d, t, os⟩) :
    wpAny (model pg w) A (call (.builtin id) (.ref o :: rest)) Q E ⟨h, g, d, t, os⟩ := by
  refine wpAny_call (codeAny_call_builtin hp he (check_slot hk hs (I.isStr K) ha (wpAny_mono hb (fun fin s' z => ?_) fun _ _ z => z)))
  rcases fin with (v | _ | _ | _) | c <;> first | exact z | exact z.elim
theorem line_special {id : String} {name : Str} {args : List Value} {Q : Option Value → Shared → Prop} (K : (KK w.params).In h) (I : IsLine h o l)
    (hl : Looks (model pg w) h (typeLookup (.ref 438) name) (some (.builtin id))) (hb : ∀ self, bindSpecial (.builtin id) self = pure (.builtin id, [self]))
    (hc : wpAny (model pg w) A (call (.builtin id) (.ref o :: args)) (fun v => Q (some v)) E ⟨h, g, d, t, os⟩) : wpAny (model pg w) A (callSpecial? (.ref o) name args) Q E ⟨h, g, d, t, os⟩ := by
  unfold callSpecial? specialOf
  refine wpAny_bind (wpAny_bind (I.type.here (hl.here ?_)))
  dsimp only
  rw [hb]
  refine wpAny_holding (wpAny_bind (wpAny_pure (wpAny_bind (wpAny_mono ?_ (fun v s' z => wpAny_pure z) fun _ _ z => z))))
  simpa using hc
theorem strOf_line {Q : Value → Shared → Prop} (hu : A.units < cLine) (K : (KK w.params).In h) (I : IsLine h o l) (hz : l.length ≤ 2 ^ 20) (hq : Q (.str (mkS l) t) ⟨h, g, d, t + 1, os⟩) :
    wpAny (model pg w) A (PySem.Builtin.Str.strOf (.ref o)) Q E ⟨h, g, d, t, os⟩ := by
  unfold PySem.Builtin.Str.strOf
  rw [show isExactStr (.ref o) = false from rfl]
  refine wpAny_bind (m := cRoomFor _ _) (wpAny_cRoomFor hu ?_)
  refine wpAny_bind (m := callSpecial? (.ref o) (Str.ofString "__str__")) (line_special (id := "str.__str__") K I (Looks.of_peek K (by kernel_rfl)) PySem.F.slot_str_str.bind ?_)
  refine line_slot (n := "__str__") K I (by decide +kernel) (by decide +kernel) PySem.F.entry_str_str PySem.F.slot_str_str.plain (PySem.F.args_str_str_1 _) ?_
  unfold Builtin.«str.__str__» Builtin.Str.strSlot slotArgs
  dsimp only
  have hsz : (2 : Nat) ^ 20 ≤ sizeLine := by decide
  refine wpAny_bind (wpAny_bind (wpAny_pure (wpAny_bind (I.text.here (wpAny_pure ?_)))))
  refine wpAny_bind ?_
  show wpAny _ _ (mkStr (mkS l)) _ _ _
  refine wpAny_mkStr ?_ (by rw [mkS_len]; omega)
  refine wpAny_pure ?_
  exact wpAny_pure hq
theorem call_str_line {Q : Value → Shared → Prop} (hu : A.in1.in1.units < cLine) (K : (KK w.params).In h) (I : IsLine h o l) (hz : l.length ≤ 2 ^ 20) (hq : Q (.str (mkS l) t) ⟨h, g, d, t + 1, os⟩) :
    wpAny (model pg w) A (call (.type "str") [.ref o]) Q E ⟨h, g, d, t, os⟩ := by
  refine callType_codes (T := "str") (Bi := Builtin.«object.__init__») (Q₁ := fun r s₁ => r = .str (mkS l) t ∧ s₁ = ⟨h, g, d, t + 1, os⟩) PySem.F.called_str (PySem.F.typeCall_str_1 _) PySem.F.entry_object_init ?_ ?_
  · refine codeAny_of_tree ?_
    show wpAny _ A.in1.in1 (do checkBuiltinCall "str.__new__" ⟨[.type "str", .ref o], []⟩; again (.builtin "str.__new__" ⟨[.type "str", .ref o], []⟩)) _ _ _
    refine wpAny_bind (wpAny_of_eq (PySem.F.newCall_str_1 _) (wpAny_pure ⟨plainId_quiet (by decide +kernel) _, codeAny_builtin PySem.F.entry_str_new ?_⟩))
    rw [Around.under_plainId (by decide +kernel) _]
    rw [str_new_tree]
    refine wpAny_bind (wpAny_pure ?_)
    refine wpAny_bind (wpAny_of_eq isSubtype_str_str ?_)
    exact wpAny_bind (strOf_line hu K I hz (wpAny_pure ⟨rfl, rfl⟩))
  · rintro obj s₁ ⟨rfl, rfl⟩
    exact ⟨typeIs_str _ _ _, PySem.F.args_object_init_2 _ _, object_init_meets PySem.F.called_str.init.lookup PySem.F.called_str.made (by decide) pg w A.in1 _ _ ⟨typeIs_str _ _ _, rfl, hq⟩⟩
/-- isinstance(line, str) -/
theorem isi_line {Q : Value → Shared → Prop} (K : (KK w.params).In h) (I : IsLine h o l) (hq : Q (.bool true) ⟨h, g, d, t, os⟩) :
    wpAny (model pg w) A (call (.builtin "isinstance") [.ref o, .type "str"]) Q E ⟨h, g, d, t, os⟩ := by
  refine wpAny_call (codeAny_call_builtin PySem.F.plain_isinstance PySem.F.entry_isinstance ?_)
  have hck : checkBuiltinCall "isinstance" ⟨[.ref o, .type "str"], []⟩ = pure () := by kernel_rfl
  refine wpAny_of_eq hck ?_
  refine isinstance_outer (R := fun r s' => match r with | .ok (.ret v) => Q v s' | .ok _ => False | .error e => E e s') ?_ (fun e => by cases e)
  have h1 : Looks (model pg w) h (typeOf (.type "str")) (.type "type") := Looks.of_peek K (by kernel_rfl)
  have h2 : Looks (model pg w) h (isType (.type "str")) true := Looks.of_peek K (by kernel_rfl)
  have h3 := I.isStr (M := model pg w) K
  unfold Builtin.«isinstance.nested»
  refine wpAny_bind (I.type.at ?_)
  rw [if_neg (by decide)]
  refine wpAny_bind (h1.at ?_)
  rw [if_pos (by decide)]
  k_delta "plainIsInstance"
  refine wpAny_bind (wpAny_bind (h2.at ?_))
  simp only [Bool.not_true, Bool.false_eq_true, if_false]
  refine wpAny_bind (h3.at ?_)
  simp only [if_true]
  exact wpAny_pure (wpAny_pure hq)
/-- '\n' not in line -/
theorem nin_line {u : Tok} {Q : Value → Shared → Prop} (K : (KK w.params).In h) (I : IsLine h o l) (hq : Q (.bool (!decide (10 ∈ l))) ⟨h, g, d, t, os⟩) :
    wpAny (model pg w) A (compareOp .NotIn (.str (Str.ofString "\n") u) (.ref o)) Q E ⟨h, g, d, t, os⟩ := by
  have h1 : Looks (model pg w) h (typeLookup (.ref 438) "__contains__") (some (.builtin "str.__contains__")) := Looks.of_peek K (by kernel_rfl)
  have h0 : Looks (model pg w) h (specialOf (.ref o) "__contains__") (some (.builtin "str.__contains__")) := I.type.andThen h1
  show wpAny _ _ (contains (.ref o) (.str (Str.ofString "\n") u) >>= fun b => pure (Value.bool (!b))) _ _ _
  unfold contains callSpecialUnlessNone?
  refine wpAny_bind (wpAny_holding ?_)
  show wpAny _ _ (specialOf (.ref o) "__contains__" >>= _) _ _ _
  refine wpAny_bind (h0.here ?_)
  rw [if_neg (by decide)]
  refine wpAny_bind (wpAny_bind (h0.here ?_))
  dsimp only
  rw [slot_str_contains.bind]
  refine wpAny_holding (wpAny_bind (wpAny_pure ?_))
  dsimp only
  rw [if_neg (by decide)]
  refine wpAny_bind (line_slot (n := "__contains__") K I (by decide +kernel) (by decide +kernel) entry_str_contains slot_str_contains.plain (args_str_contains _ _) ?_)
  unfold Builtin.«str.__contains__» Builtin.Str.strSlot slotArgs
  dsimp only
  refine wpAny_bind (wpAny_bind (wpAny_pure (wpAny_bind (I.text.here (wpAny_pure ?_)))))
  refine wpAny_bind (wpAny_pure (wpAny_pure (wpAny_pure ?_)))
  refine wpAny_truthy_bool ?_
  refine wpAny_pure ?_
  rw [nl_str, in_one]
  exact hq
end
end Mine

end

section
open PySem PySem.W PyProof.Rows PySem.Calls
set_option maxRecDepth 100000
set_option maxHeartbeats 1000000
namespace Mine
open Builtin Builtin.Str Builtin.ObjectAttr
section
variable {w : World} {A : Around} {E : Value → Shared → Prop} {h h' : Heap} {s : Shared} {g : Array GenState} {d : Drawn} {t : Nat} {os : OsState} {o it : Addr} {l : List Nat}
/-- a thing that bears a text -/
def Bears (h : Heap) (o : Addr) (l : List Nat) : Prop := ∃ u ob, h.get? o = some ob ∧ ob.data = .prim (.str (mkS l) u)
theorem IsLine.bears (I : IsLine h o l) : Bears h o l := by
  obtain ⟨u, dx, od, v, e1, e2, e3⟩ := I
  exact ⟨u, _, e1, rfl⟩
theorem Bears.asStr {M : Model} (I : Bears h o l) : Looks M h (asStr? (.ref o)) (some (mkS l)) := by
  obtain ⟨u, ⟨c, dd, da, sl⟩, e1, e2⟩ := I
  cases e2
  exact (Looks.ld (part := none) e1).andThen .now
theorem ref_none {a : Addr} : (Value.ref a == Value.none) = false := beq_false_of_ne (by intro e; cases e)
/-- an iterator over a line -/
def OwnIter (h : Heap) (it o : Addr) (i : Nat) : Prop := ∃ ob, h.get? it = some ob ∧ ob.cls = .type "str_iterator" ∧ ob.data = .fields #[.ref o, .int i 0]
theorem line_ifBound {id : String} {name : Str} {refuse : Sem Value} {Q : Option Value → Shared → Prop} (I : IsLine h o l)
    (hl : Looks (model pg w) h (typeLookup (.ref 438) name) (some (.builtin id))) (hb : ∀ self, bindSpecial (.builtin id) self = pure (.builtin id, [self])) (hn : (Value.builtin id == Value.none) = false)
    (hc : wpAny (model pg w) A (call (.builtin id) [.ref o]) (fun v => Q (some v)) E ⟨h, g, d, t, os⟩) : wpAny (model pg w) A (callSpecialIfBoundUnlessNone? (.ref o) name refuse) Q E ⟨h, g, d, t, os⟩ := by
  simp only [callSpecialIfBoundUnlessNone?, bindSpecialIfBound?]
  refine wpAny_holding (wpAny_bind (wpAny_bind ((Looks.andThen I.type hl : Looks _ _ (specialOf (.ref o) name) _).here ?_)))
  simp only [hb]
  refine wpAny_bind (wpAny_askSetting (wpAny_ite ?_))
  have fin : wpAny (model pg w) A (if (Value.builtin id == Value.none) = true then (refuse >>= fun v => pure (some v)) else (call (.builtin id) [.ref o] >>= fun v => pure (some v))) Q E ⟨h, g, d, t, os⟩ := by
    simp only [hn, Bool.false_eq_true, if_false]
    exact wpAny_bind (wpAny_mono hc (fun v s' h' => wpAny_pure h') fun _ _ h' => h')
  split
  · exact wpAny_bind (wpAny_pure (wpAny_pure fin))
  · exact wpAny_tryCatch (wpAny_bind (wpAny_pure (wpAny_pure fin)))
theorem iter_line {Q : Value → Shared → Prop} (K : (KK w.params).In h) (I : IsLine h o l)
    (hq : Q (.ref h.objs.size) ⟨h.push { cls := .type "str_iterator", data := .fields #[.ref o, .int 0 0] }, g, d, t, os⟩) :
    wpAny (model pg w) A (pyIter (.ref o)) Q E ⟨h, g, d, t, os⟩ := by
  have h1 : Looks (model pg w) h (typeLookup (.ref 438) "__iter__") (some (.builtin "str.__iter__")) := Looks.of_peek K (by kernel_rfl)
  have h0 : Looks (model pg w) h (specialOf (.ref o) "__iter__") (some (.builtin "str.__iter__")) := I.type.andThen h1
  unfold pyIter
  refine wpAny_bind (h0.here ?_)
  show wpAny _ _ (callSpecialIfBoundUnlessNone? (.ref o) "__iter__" _ >>= _) _ _ _
  refine wpAny_bind (line_ifBound I h1 PySem.F.slot_str_iter.bind (by decide) ?_)
  refine line_slot (n := "__iter__") K I (by decide +kernel) (by decide +kernel) PySem.F.entry_str_iter PySem.F.slot_str_iter.plain (PySem.F.args_str_iter_1 _) ?_
  unfold Builtin.«str.__iter__» Builtin.Str.strSlot slotArgs
  dsimp only
  refine wpAny_bind (wpAny_bind (wpAny_pure (wpAny_bind (I.text.here (wpAny_pure ?_)))))
  show wpAny _ _ (newFields (if (false && (mkS l).cps.all (· < 128)) = true then "str_ascii_iterator" else "str_iterator") [.ref o, rawInt 0] >>= _) _ _ _
  rw [Bool.false_and, if_neg (by decide)]
  refine wpAny_bind (wpAny_newObj_type (wpAny_pure ?_))
  exact wpAny_bind (wpAny_specialOf ⟨_, Heap.get?_push_size _ rfl, rfl⟩ PySem.F.slot_str_iterator_next.lookup (wpAny_pure hq))
theorem next_line {i c : Nat} {Q : Option Value → Shared → Prop} (hit : OwnIter s.heap it o i) (I : Bears s.heap o l) (hx : l[i]? = some c)
    (hQ : ∀ h', OwnIter h' it o (i + 1) → Heap.SameBut it s.heap h' → Q (some (.str ⟨#[c]⟩ s.toks)) { s with heap := h', toks := s.toks + 1 }) :
    wpAny (model pg w) A (pyNext (.ref it)) Q E s := by
  obtain ⟨ob, ho, hc, hd⟩ := id hit
  have hT : s.TypeIs (.ref it) "str_iterator" := ⟨_, ho, hc⟩
  unfold pyNext
  refine wpAny_bind (wpAny_attempt (wpAny_callSpecial?_slot (name := Str.ofString "__next__") hT PySem.F.slot_str_iterator_next
    (wpAny_call_entry PySem.F.slot_str_iterator_next hT PySem.F.entry_str_iterator_next ?_ (PySem.F.args_str_iterator_next_1 _))))
  show wpAny _ _ (field (.ref it) 0 >>= _) _ _ s
  refine wpAny_bind (wpAny_field ho hd (x := .ref o) rfl ?_)
  dsimp only
  rw [if_neg (by rw [ref_none]; decide)]
  refine wpAny_bind (I.asStr.here ?_)
  refine wpAny_bind (wpAny_field ho hd (x := .int i 0) rfl ?_)
  have hx' : (mkS l).cps[(i : Int).toNat]? = some c := by simpa using hx
  simp only [hx']
  refine wpAny_bind (wpAny_setField ho hd (by simp) (wpAny_bind (wpAny_mkStr (wpAny_pure ⟨_, rfl, wpAny_pure (hQ _ ?_ (Heap.SameBut.update ..))⟩) (by show 1 ≤ sizeLine; decide))))
  exact ⟨_, Heap.get?_update_self _ ho (Obj.isFreed_of_fields (Obj.data_mapFields hd _)), (Obj.cls_mapFields ..).trans hc, by
    rw [Obj.data_mapFields hd]; simp [rawInt]⟩
theorem stop_line {i : Nat} {Q : Option Value → Shared → Prop} (hh : A.handled = none) (hit : OwnIter s.heap it o i) (I : Bears s.heap o l) (hx : l[i]? = none)
    (hQ : ∀ h', Heap.ExtBut it s.heap h' → Q none { s with heap := h' }) : wpAny (model pg w) A (pyNext (.ref it)) Q E s := by
  obtain ⟨ob, ho, hc, hd⟩ := id hit
  have hT : s.TypeIs (.ref it) "str_iterator" := ⟨_, ho, hc⟩
  unfold pyNext
  refine wpAny_bind (wpAny_attempt (wpAny_callSpecial?_slot (name := Str.ofString "__next__") hT PySem.F.slot_str_iterator_next
    (wpAny_call_entry PySem.F.slot_str_iterator_next hT PySem.F.entry_str_iterator_next ?_ (PySem.F.args_str_iterator_next_1 _))))
  show wpAny _ _ (field (.ref it) 0 >>= _) _ _ s
  refine wpAny_bind (wpAny_field ho hd (x := .ref o) rfl ?_)
  dsimp only
  rw [if_neg (by rw [ref_none]; decide)]
  refine wpAny_bind (I.asStr.here ?_)
  refine wpAny_bind (wpAny_field ho hd (x := .int i 0) rfl ?_)
  have hx' : (mkS l).cps[(i : Int).toNat]? = none := by simpa using hx
  simp only [hx']
  refine wpAny_bind (wpAny_rule (wpAny_bind (wpAny_setField ho hd (by simp) (wpAny_bind (wpAny_letGo ?_)))))
  show wpAny _ _ (newExc (.type "StopIteration") [] >>= _) _ _ _
  refine wpAny_bind ?_
  simp only [newExc, newTuple]
  refine wpAny_bind (wpAny_newObj_type ?_ (by size_fits))
  refine wpAny_bind (m := firstArgMember _ _) (wpAny_of_eq (a := Value.none) (by first | rfl | (simp only [firstArgMember]; rfl)) ?_)
  refine wpAny_newObj_type ?_ (by size_fits)
  simp only [raiseNew]
  refine wpAny_bind (wpAny_handled ?_)
  rw [show A.in1.handled = none from hh]
  refine wpAny_bind (wpAny_pure (wpAny_throw ?_))
  refine wpAny_bind (wpAny_isInstance (T := "StopIteration") (b := true) ⟨_, Heap.get?_push_size _ rfl, rfl⟩ isSubtype_stop ?_)
  exact wpAny_pure (hQ _ (((Heap.SameBut.update ..).extBut.push _).push _))
theorem iter_again {i : Nat} {Q : Value → Shared → Prop} (hit : OwnIter s.heap it o i) (hQ : Q (.ref it) s) : wpAny (model pg w) A (pyIter (.ref it)) Q E s := by
  obtain ⟨ob, ho, hc, hd⟩ := hit
  have hT : s.TypeIs (.ref it) "str_iterator" := ⟨_, ho, hc⟩
  refine wpAny_pyIter_slot hT PySem.F.slot_str_iterator_iter (wpAny_call_entry PySem.F.slot_str_iterator_iter hT PySem.F.entry_str_iterator_iter ?_ (PySem.F.args_str_iterator_iter_1 _))
  exact wpAny_pure ⟨_, rfl, "str_iterator", _, hT, PySem.F.slot_str_iterator_next.lookup, hQ⟩
theorem walks_line {A : Around} (hh : A.handled = none) (hne : o ≠ it) : Walks pg w A it [it, o] [it] l.length (fun i v => ∃ c u, l[i]? = some c ∧ v = .str ⟨#[c]⟩ u) (fun i h => OwnIter h it o i ∧ Bears h o l) where
  sub := fun b hb => by simp at hb; simp [hb]
  frame := fun _ _ _ st hk => by
    obtain ⟨⟨ob, ho, r⟩, u, oo, e1, e2⟩ := st
    exact ⟨⟨ob, hk it (by simp) ob ho, r⟩, u, oo, hk o (by simp) _ e1, e2⟩
  item := fun i s Q E hi st hQ => by
    refine next_line st.1 st.2 (c := l[i]) (by simp [hi]) fun h' hit' hs' => ?_
    refine hQ _ h' (s.toks + 1) ⟨_, _, by simp [hi], rfl⟩ ⟨hit', ?_⟩ fun b o hb e => hs'.extBut b o (fun h => hb (by simp [h])) e
    obtain ⟨u, oo, e1, e2⟩ := st.2
    exact ⟨u, oo, (hs'.2 _ hne).trans e1, e2⟩
  done := fun s Q E st hQ => stop_line hh st.1 st.2 (by simp) fun h' he' => hQ h' s.toks fun b o hb e => he' b o (fun h => hb (by simp [h])) e
  self := fun _ _ _ _ st hQ => iter_again st.1 hQ
end
end Mine

end

section
open PySem PySem.W PyProof.Rows PySem.Calls
set_option maxRecDepth 100000
set_option maxHeartbeats 4000000
namespace Mine
section
variable {w : World} {A : Around} {E : Value → Shared → Prop} {s : Shared} {g h h' : Heap} {t : Nat} {env : Env} {ns : List Str} {gl : List (Str × Value)} {vs : List (Option Value)} {σ : List (Addr × LObj)} {o : Addr} {l : List Nat}
theorem LineOk.line (I : IsLine g o l) (T : TG w g) : LineOk w g (.ref o) l where
  isi _ k hq := isi_line (T.keeps k).K (I.keep k) (hq _)
  nin _ k hq := nin_line (T.keeps k).K (I.keep k) (hq _)
  iter := by
    intro A n E s g' h t env ns gl vs σ y px body i R a k S ix J h0 step done
    have Ih := I.keep (k.trans S.old)
    obtain ⟨u, oo, e1, e2⟩ := (I.keep k).bears
    have e1h := S.old.k _ _ e1
    refine iter_line S.tg.K Ih ?_
    have hne : o ≠ h.objs.size := Nat.ne_of_lt (Heap.lt_size e1h)
    have S' : SS w g' env ns gl (h.push { cls := .type "str_iterator", data := .fields #[.ref o, .int 0 0] }) vs σ := S.after ⟨fun b o e => Heap.get?_push_of_some _ e⟩
    refine for_loop (walks_line a.h hne) S' ⟨⟨_, Heap.get?_push_size _ rfl, rfl, rfl⟩, ⟨u, oo, Heap.get?_push_of_some _ e1h, e2⟩⟩ ix (fun k h' hS b hb => ?_) (fun b hb => ?_) (fun b hb => ?_) J h0 ?_ ?_
    · obtain ⟨⟨o1, q1, _⟩, ⟨_, o2, q2, _⟩⟩ := hS
      rcases List.mem_cons.mp hb with rfl | hb
      · exact ⟨o1, q1⟩
      · rw [List.mem_singleton.mp hb]; exact ⟨o2, q2⟩
    · rcases List.mem_cons.mp hb with rfl | hb
      · exact ⟨Nat.ne_of_gt S.F.ns.lt, fun p hp => Nat.ne_of_lt (S.D.is p hp).lt⟩
      · rw [List.mem_singleton.mp hb]
        refine ⟨fun e => ?_, fun p hp e => ?_⟩
        · have := S.F.lo; rw [← e, e1] at this; cases this
        · have := S.D.fr p hp; rw [e, e1] at this; cases this
    · rw [List.mem_singleton.mp hb]; exact S.old.nope (Nat.le_refl _)
    · rintro k v vs σ g' h t hk ⟨c, u, hc, rfl⟩ hJ o' S''
      exact step k c u vs σ g' h t hc hJ o' S''
    · intro vs σ h t hJ S''
      exact done vs σ h t hJ S''
def octets (l : List Nat) : Array UInt8 := (l.flatMap Str.utf8Of).toArray
theorem joinL_len (sep : List Nat) : ∀ P : List (List Nat), (joinL sep P).length ≤ P.flatten.length + P.length * sep.length
  | [] => by simp [joinL]
  | [x] => by simp [joinL]
  | x :: y :: r => by
    have := joinL_len sep (y :: r)
    show (x ++ sep ++ joinL sep (y :: r)).length ≤ _
    rw [List.flatten_cons, List.length_append, List.length_append, List.length_append, List.length_cons, Nat.succ_mul]
    omega
theorem joinL_mem {sep : List Nat} {c : Nat} : ∀ {P : List (List Nat)}, c ∈ joinL sep P → c ∈ P.flatten ∨ c ∈ sep
  | [], h => by cases h
  | [x], h => .inl (by simpa [joinL] using h)
  | x :: y :: r, h => by
    have h' : c ∈ x ++ sep ++ joinL sep (y :: r) := h
    rw [List.flatten_cons]
    rcases List.mem_append.mp h' with h' | h'
    · rcases List.mem_append.mp h' with h' | h'
      · exact .inl (List.mem_append_left _ h')
      · exact .inr h'
    · rcases joinL_mem h' with q | q
      · exact .inl (List.mem_append_right _ q)
      · exact .inr q
theorem Pieces.count {limit : Nat} {l : List Nat} {P : List (List Nat)} (h : Pieces limit l P) : P.length ≤ l.length := by
  induction h with
  | nil => exact Nat.le_refl _
  | @cons l ls hne _ ih =>
    have h1 := cut1_pos (limit := limit) hne
    have h2 := cut1_le (limit := limit) (l := l)
    rw [List.length_drop] at ih
    have h3 := List.length_pos_iff.mpr hne
    show ls.length + 1 ≤ l.length
    omega
theorem Pieces.all {limit : Nat} {l : List Nat} {P : List (List Nat)} (h : Pieces limit l P) : (∀ p ∈ P, ∀ c ∈ p, c ∈ l) ∧ (∀ p ∈ P, p ≠ []) := by
  induction h with
  | nil => exact ⟨fun _ h => (nomatch h), fun _ h => (nomatch h)⟩
  | @cons l ls hne _ ih =>
    refine ⟨fun p hp c hc => ?_, fun p hp => ?_⟩
    · rcases List.mem_cons.mp hp with rfl | hp
      · exact List.mem_of_mem_take hc
      · exact List.mem_of_mem_drop (ih.1 p hp c hc)
    · rcases List.mem_cons.mp hp with rfl | hp
      · have h1 := cut1_pos (limit := limit) hne
        intro e
        have := congrArg List.length e
        rw [List.length_take, List.length_nil] at this
        have h3 := List.length_pos_iff.mpr hne
        omega
      · exact ih.2 p hp
theorem Pieces.surr {limit : Nat} {l : List Nat} {P : List (List Nat)} (h : Pieces limit l P) (hl : ∀ c ∈ l, Str.isSurrogate c = false) : ∀ c ∈ joinL [13, 10, 32] P, Str.isSurrogate c = false := by
  intro c hc
  rcases joinL_mem hc with q | q
  · rw [h.flat] at q; exact hl c q
  · simp only [List.mem_cons, List.not_mem_nil, or_false] at q
    rcases q with rfl | rfl | rfl <;> rfl
theorem Pieces.joinLen {limit : Nat} {l : List Nat} {P : List (List Nat)} (h : Pieces limit l P) : (joinL [13, 10, 32] P).length ≤ 4 * l.length := by
  have h1 := joinL_len [13, 10, 32] P
  have h2 := h.count
  rw [h.flat] at h1
  simp only [List.length_cons, List.length_nil] at h1
  omega
theorem toical_spec {n₀ : Nat} (a : AOk A (n₀ + 2)) (T : TG w g) (hk : Old g h) (hl : ∀ c ∈ l, Str.isSurrogate c = false) (hlen : l.length ≤ 900) (h10 : 10 ∉ l) (I : IsLine g o l)
    {Q : Value → Shared → Prop} (hQ : ∀ P h' u t', Old g h' → Pieces 75 l P → Q (.bytes ((joinL [13, 10, 32] P).flatMap Str.utf8Of).toArray u) (St s h' t')) :
    wpAny (model pg w) A (call (.ref 434) [.ref o]) Q E (St s h t) := by
  refine' enter (binds := [("self", .ref o)]) (rest := []) (gl := [("_foldline", .ref 55)]) (σ := []) ?ho ?hcd a T hk ?hb ?hok rfl rfl ?hσ ?hnd ?_ ?c1 ?c2 ?c3 ?c4 ?c5
  case hσ => intro p hp; cases hp
  case hnd => simp
  walk_at "ent"
  repeat walk_at "Y"
  walk_at "c"
  repeat walk_at "Y"
  refine ⟨S.tg, ?_⟩
  refine fold1_spec (a'.less (m := n₀ + 1)) S.tg (Old.refl _) hl hlen h10 (LineOk.line (I.keep S.old) S.tg) fun P h₁ u t o1 hP => ?_
  have S := S.after o1
  have hj := hP.joinLen
  refine m_encode (hP.surr hl) (by omega) ?_
  repeat walk_at "Y"
  refine ⟨_, rfl, fun u t => hQ P _ _ _ S.old hP⟩
theorem ga438o (P : Params) : findIn (KK P) (.ref 438) "__getattribute__" = some (some (.builtin "object.__getattribute__")) := by kernel_rfl
theorem hk438o (P : Params) : findIn (KK P) (.ref 438) "__getattr__" = some none := by kernel_rfl
theorem find_toical (P : Params) : findIn (KK P) (.ref 438) "to_ical" = some (some (.ref 434)) := by kernel_rfl
theorem type434 (P : Params) : typeIn (KK P) (.ref 434) = some (.type "function") := by kernel_rfl
/-- line.to_ical() -/
theorem e_toical {n₀ i : Nat} {pl : Sem Bool} {x : Str} {p apos pos : Pos} (a : AOk A (n₀ + 2)) (S : SS w g env ns gl h vs σ) (ix : ns[i]? = some x) (iv : vs[i]? = some (some (.ref o))) (I : IsLine h o l)
    (hl : ∀ c ∈ l, Str.isSurrogate c = false) (hlen : l.length ≤ 900) (h10 : 10 ∉ l) {Q : Value → Shared → Prop}
    (hQ : ∀ P h' u t', SS w g env ns gl h' vs σ → Old h h' → Pieces 75 l P → Q (.bytes ((joinL [13, 10, 32] P).flatMap Str.utf8Of).toArray u) (St s h' t'))
    (hE : eval (.Call (.Attribute (.Name x p) "to_ical" apos) [] [] pos) env = (do
      let ov ← eval (.Name x p) env
      standAt apos.atName
      let (f, first) ← holding [ov] (getMethod ov "to_ical" pl)
      callWith pos f first (backTo pos (starEach [] env)) []) := by with_unfolding_all rfl) :
    wpAny (model pg w) A (eval (.Call (.Attribute (.Name x p) "to_ical" apos) [] [] pos) env) Q E (St s h t) := by
  refine MethodCall_ ?_ hE
  refine rn_any S ix iv ?_
  obtain ⟨ox, i⟩ := I.inst
  refine method_fn (K := KK w.params) S.tg.K i (ga438o _) (hk438o _) (find_toical _) (type434 _) (by kernel_rfl) ?_
  refine callWith_K0 (K := KK w.params) S.tg.K (by kernel_rfl!) ?_
  exact toical_spec a S.tg (Old.refl _) hl hlen h10 I fun P h' u t' o1 hP => hQ P h' u t' (S.after o1) o1 hP
end
end Mine

end

section
open PySem PySem.W PyProof.Rows PySem.Calls
set_option maxRecDepth 100000
set_option maxHeartbeats 4000000
namespace Mine
section
variable {w : World} {A : Around} {E : Value → Shared → Prop} {s : Shared} {g h h' : Heap} {t : Nat} {outer : List Env}
theorem rgT {A : Around} {E : Value → Shared → Prop} {env : Env} {ns : List Str} {gl : List (Str × Value)} {x : Str} {v : Value} {p : Pos} {Q : Value → Shared → Prop} (e : EnvOk env ns gl) (T : TG w h) (h1 : (x, v) ∈ gl) (hq : Q v (St s h t)) :
    wpAny (model pg w) A (eval (.Name x p) env) Q E (St s h t) := by
  obtain ⟨k1, k2, k3⟩ := e.gn _ h1
  obtain ⟨mg, mb, g1, g2, g3, g4⟩ := T.gn
  refine Name_function_global e.kind k1 ?_ k2
  rcases k3 with k | k
  · exact loadGlobal_global (env := env) (by rw [e.glob]; exact g1) (g3 _ k) hq
  · exact loadGlobal_builtin (env := env) (by rw [e.glob]; exact g1) (g4 _ k).1 (by rw [e.blt]; exact g2) (g4 _ k).2 hq
/-- the frames around, known to the heap and not to the base -/
theorem funFrames_push {env : Env} {m : Str → Option Value} {L : Addr} (hk : env.scope.kind = .function) (hf : env.frame = some L) (hg : g.get? L = none) (hn : h.Ns L m) (hl : h.FunFrames g outer) : h.FunFrames g (env :: outer) := by
  obtain ⟨o, es, ep, ho, hd, _⟩ := hn
  exact ⟨by rw [hk]; decide, ⟨L, o, hf, hg, ho, fun vs e => by rw [hd] at e; cases e⟩, hl⟩
theorem funFrames_old {g h h' : Heap} (k : Old h h') (hl : h.FunFrames g outer) : h'.FunFrames g outer := hl.of_keeps fun b o e _ => ⟨o, k.k b o e, rfl⟩
/-- a line end in a line: the class's own __new__ raises -/
theorem newRaise_spec {n₀ : Nat} (a : AOk A (n₀ + 2)) (T : TG w g) (hk : Old g h) (hfr : A.frames = some outer) (hl : h.FunFrames g outer) {l : List Nat} {u : Tok} (h10 : 10 ∈ l)
    {Q : Value → Shared → Prop} (hE : ∀ h' t' e t1, Heap.FlyingW g outer e (.type "AssertionError") (.ref t1) h' → E (.ref e) (St s h' t')) :
    wpAny (model pg w) A (call (.ref 384) [.ref 438, .str (mkS l) u]) Q E (St s h t) := by
  refine' enterX (g := h) (binds := [("cls", .ref 438), ("value", .str (mkS l) u), ("strict", .bool false), ("encoding", .str (Str.ofString "utf-8") 292)]) (rest := ["self"]) (gl := glN) ?ho ?hcd ?hbd a (T.keeps hk) (Old.refl h) ?hb ?hok ?hgb ?hbt rfl rfl ?_ ?c1 ?c2 ?c3 ?c4 ?c5
  (case ho => exact rfl); (case hbd => exact rfl); (case hcd => kernel_rfl!); (case hb => exact binds_K (T.keeps hk).K rfl rfl rfl rfl rfl); (case hok => kernel_rfl!); (case hgb => rfl); (case hbt => rfl)
  (case c1 => exact rfl); (case c2 => exact rfl); (case c3 => exact rfl); (case c4 => exact rfl); (case c5 => exact rfl)
  intro h₁ t S a' keep'
  simp only [List.map_cons, List.map_nil, List.cons_append, List.nil_append] at S
  conv => enter [4, 1]; whnf
  refine ks_wpAt_execs_cons (PySem.wpAt_of_wpAny ?_)
  refine wpAny_Assign_Name ?_ (by with_unfolding_all rfl)
  refine e_callK (a := 47) (o := ob47 w.params) rfl ?_
  repeat walk_at "Y"
  refine ⟨rfl, ?_⟩
  repeat walk_at "Y"
  refine ⟨S.tg.K _ _ rfl, ?_⟩
  refine uniK_spec (a'.less (m := n₀ + 1)) S.tg (Old.refl _) ?_
  intro h₂ t o1
  have S := S.after o1
  refine r_st1 S ?_
  clear S; intro h₂ t S
  refine ks_wpAt_execs_cons (PySem.wpAt_of_wpAny (wpAny_Assert_msg a'.h ?_))
  refine t_cmp ?_
  refine e_str ?_; intro t
  refine r_name1 S ?_
  refine k_notin ?_
  refine b_bool ?_
  rw [nl_str, in_one]
  have e10 : decide (10 ∈ (mkS l).cps.toList) = true := by simpa using h10
  rw [e10]
  simp only [Bool.not_true, Bool.false_eq_true, if_false]
  refine e_str ?_; intro t
  intro h₃ e hm
  refine wpAny_leaves_madeW (base := g) (h := h₂) (env := _) (outer := outer) (by show A.frames.map _ = _; rw [hfr]; rfl) rfl (fun b o q => S.old.k b o (hk.k b o q)) (funFrames_push S.e.kind rfl (hk.none S.F.lo) S.F.ns (funFrames_old S.old hl)) (Heap.MadeExc.of hm) ?_
  intro h₄ t1 hfl _ _ _
  exact hE h₄ _ e t1 hfl
theorem makeRaise_spec {n₀ : Nat} (a : AOk A (n₀ + 3)) (T : TG w g) (hk : Old g h) (hfr : A.frames = some outer) (hl : h.FunFrames g outer) {l : List Nat} {u : Tok} (h10 : 10 ∈ l)
    {Q : Value → Shared → Prop} (hE : ∀ h' t' e t1, Heap.FlyingW g outer e (.type "AssertionError") (.ref t1) h' → E (.ref e) (St s h' t')) :
    wpAny (model pg w) A (call (.ref 438) [.str (mkS l) u]) Q E (St s h t) := by
  refine wpAny_call (call_438_core (T.keeps hk).K ?_)
  exact newRaise_spec (a.tc (n := n₀ + 2)) T hk hfr hl h10 (s := s) (t := t + 1) hE
theorem refuses_spec {n₀ : Nat} (a : AOk A (n₀ + 4)) (T : TG w g) (hk : Old g h) (hfr : A.frames = some outer) (hl : h.FunFrames g outer) {l : List Nat} {u : Tok} (h10 : 10 ∈ l)
    {Q : Value → Shared → Prop} (hQ : ∀ h' t', Old g h' → Q (.bool true) (St s h' t')) :
    wpAny (model pg w) A (call (.ref 484) [.str (mkS l) u]) Q E (St s h t) := by
  refine' enterX (g := h) (binds := [("told", .str (mkS l) u)]) (rest := []) (gl := [("Contentline", .ref 438), ("AssertionError", .type "AssertionError")]) ?ho ?hcd ?hbd a (T.keeps hk) (Old.refl h) ?hb ?hok ?hgb ?hbt rfl rfl ?_ ?c1 ?c2 ?c3 ?c4 ?c5
  (case ho => exact rfl); (case hbd => exact rfl); (case hcd => kernel_rfl!); (case hb => exact BindsTo.of_eq rfl); (case hok => kernel_rfl!); (case hgb => rfl); (case hbt => rfl)
  (case c1 => exact rfl); (case c2 => exact rfl); (case c3 => exact rfl); (case c4 => exact rfl); (case c5 => exact rfl)
  intro h₁ t S a' keep'
  simp only [List.map_cons, List.map_nil, List.cons_append, List.nil_append] at S
  conv => enter [4, 1]; whnf
  refine PySem.wpAt_of_wpAny (wpAny_execs_cons (wpAny_Try_except ?_))
  refine x_expr S.e.kind ?_
  refine e_call ?_
  refine r_glob0 S ?_
  refine c_text S.tg (by kernel_rfl!) ?_
  repeat walk_at "Y"
  refine ⟨S.tg, ?_⟩
  refine makeRaise_spec (g := g) (a'.less (m := n₀ + 3)) T (hk.trans S.old) (outer := _ :: outer) (by show A.frames.map _ = _; rw [hfr]; rfl) (funFrames_push S.e.kind rfl (hk.none S.F.lo) S.F.ns (funFrames_old S.old hl)) h10 ?_
  intro h₂ t₂ e t1 hfl
  refine wpAny_looks_onW (by show A.frames.map _ = _; rw [hfr]; rfl) rfl hfl fun h₃ hheld _ => ?_
  refine wpAny_landsW hheld fun h₄ hfl₄ _ => ?_
  have o4 : Old g h₄ := ⟨hfl₄.1⟩
  obtain ⟨ob, hob, hobc⟩ := hfl₄.there
  refine wpAny_handleBy_builtin (X := "AssertionError") (T := "AssertionError") (b := true) PySem.F.isExc_AssertionError PySem.F.notTuple_AssertionError PySem.F.self_AssertionError ?_
  refine rgT (s := s) S.e (T.keeps o4) (.tail _ (.head _)) ⟨rfl, ⟨ob, hob, hobc⟩, ?_⟩
  rw [if_pos rfl]
  refine lands_againW hfl₄ fun h₅ hfl₅ _ => ?_
  refine x_ret (e_bool ?_)
  exact hQ _ _ ⟨hfl₅.1⟩
end
end Mine

end

section
open PySem PySem.W PyProof.Rows PySem.Calls
set_option maxRecDepth 100000
set_option maxHeartbeats 1000000
namespace Mine
open Builtin.Str PySem.StrLaws
abbrev sep3 : List Nat := [13, 10, 32]
theorem at_sep {x : List Nat} {k : Nat} (h : StrLaws.At (mkS x) (mkS sep3) (mkS x).length k) : x[k + 1]? = some 10 ∧ x[k]? = some 13 := by
  obtain ⟨h1, h2⟩ := h
  rw [subAt_eq] at h2
  have h3 : ((x.drop k).take 3) = sep3 := by simpa [mkS_len] using h2
  have e1 := congrArg (·[1]?) h3
  have e0 := congrArg (·[0]?) h3
  simp only [List.getElem?_take, List.getElem?_drop] at e0 e1
  exact ⟨by simpa [Nat.add_comm] using e1, by simpa using e0⟩
theorem at_sep_mk {pre post : List Nat} : StrLaws.At (mkS (pre ++ sep3 ++ post)) (mkS sep3) (mkS (pre ++ sep3 ++ post)).length pre.length := by
  refine ⟨by simp [mkS_len], ?_⟩
  rw [subAt_eq]
  simp [mkS_len]
theorem strSub_mk (x : List Nat) (a b : Nat) : strSub (mkS x) a b = mkS ((x.drop a).take (b - a)) := by
  have := strSub_toList (mkS x) a b
  rw [← mkS_cps (strSub (mkS x) a b), this]
theorem split_go : ∀ (P : List (List Nat)), P ≠ [] → (∀ p ∈ P, 10 ∉ p) → ∀ (pre : List Nat) (cuts : List Nat) (f : Nat), ChainG (mkS (pre ++ joinL sep3 P)) (mkS sep3) (mkS (pre ++ joinL sep3 P)).length pre.length cuts f →
    (∀ k, f ≤ k → ¬ StrLaws.At (mkS (pre ++ joinL sep3 P)) (mkS sep3) (mkS (pre ++ joinL sep3 P)).length k) → partsFrom (mkS (pre ++ joinL sep3 P)) 3 pre.length cuts = P.map mkS
  | [], h, _ => absurd rfl h
  | [p], _, h10 => by
    intro pre cuts f hc hn
    have hp := h10 p (.head _)
    have hno : ∀ k, pre.length ≤ k → ¬ StrLaws.At (mkS (pre ++ p)) (mkS sep3) (mkS (pre ++ p)).length k := by
      intro k hk hA
      have := (at_sep hA).1
      rw [List.getElem?_append_right (by omega)] at this
      exact hp (List.mem_of_getElem? this)
    cases cuts with
    | nil =>
      show [strSub (mkS (pre ++ p)) pre.length (mkS (pre ++ p)).length] = _
      rw [strSub_mk, mkS_len]
      simp
    | cons c cs => exact absurd hc.2.1 (hno c hc.1)
  | p :: q :: r, _, h10 => by
    intro pre cuts f hc hn
    have hp := h10 p (.head _)
    have ex : pre ++ joinL sep3 (p :: q :: r) = (pre ++ p) ++ sep3 ++ joinL sep3 (q :: r) := by
      show pre ++ (p ++ sep3 ++ joinL sep3 (q :: r)) = _
      simp
    have ex2 : pre ++ joinL sep3 (p :: q :: r) = (pre ++ p ++ sep3) ++ joinL sep3 (q :: r) := ex
    have hyes : StrLaws.At (mkS (pre ++ joinL sep3 (p :: q :: r))) (mkS sep3) (mkS (pre ++ joinL sep3 (p :: q :: r))).length (pre.length + p.length) := by
      have := at_sep_mk (pre := pre ++ p) (post := joinL sep3 (q :: r))
      rw [List.length_append, ← ex] at this
      exact this
    have hno : ∀ k, pre.length ≤ k → k < pre.length + p.length → ¬ StrLaws.At (mkS (pre ++ joinL sep3 (p :: q :: r))) (mkS sep3) (mkS (pre ++ joinL sep3 (p :: q :: r))).length k := by
      intro k hk hk2 hA
      have h1 := (at_sep hA).1
      have e : pre ++ joinL sep3 (p :: q :: r) = pre ++ (p ++ (sep3 ++ joinL sep3 (q :: r))) := by rw [ex]; simp
      rw [e, List.getElem?_append_right (by omega)] at h1
      by_cases hk3 : k + 1 - pre.length < p.length
      · rw [List.getElem?_append_left hk3] at h1
        exact hp (List.mem_of_getElem? h1)
      · rw [List.getElem?_append_right (by omega), show k + 1 - pre.length - p.length = 0 by omega] at h1
        cases h1
    cases cuts with
    | nil =>
      have ef : f = pre.length := hc
      exact absurd hyes (hn _ (by omega))
    | cons c cs =>
      obtain ⟨h1, h2, h3, h4⟩ := hc
      have ec : c = pre.length + p.length := by
        rcases Nat.lt_trichotomy c (pre.length + p.length) with q | q | q
        · exact absurd h2 (hno c h1 q)
        · exact q
        · exact absurd hyes (h3 _ (by omega) q)
      subst ec
      show strSub (mkS (pre ++ joinL sep3 (p :: q :: r))) pre.length (pre.length + p.length) :: partsFrom (mkS (pre ++ joinL sep3 (p :: q :: r))) 3 (pre.length + p.length + 3) cs = mkS p :: (q :: r).map mkS
      have el : pre.length + p.length + 3 = (pre ++ p ++ sep3).length := by simp; omega
      have ih := split_go (q :: r) (by simp) (fun x hx => h10 x (.tail _ hx)) (pre ++ p ++ sep3) cs f (by
        rw [← ex2, ← el]; exact h4) (by rw [← ex2]; exact hn)
      rw [← ex2, ← el] at ih
      rw [ih, strSub_mk]
      congr 1
      have e : pre ++ joinL sep3 (p :: q :: r) = pre ++ (p ++ (sep3 ++ joinL sep3 (q :: r))) := by rw [ex]; simp
      rw [e, List.drop_left, Nat.add_sub_cancel_left, List.take_left]
theorem strKind_pos (x : Str) : ¬ Builtin.Str.strKind x < Builtin.Str.strKind (mkS sep3) := by
  have e : Builtin.Str.strKind (mkS sep3) = 1 := by decide +kernel
  rw [e]
  unfold Builtin.Str.strKind
  split <;> (try split) <;> decide
theorem split_join {P : List (List Nat)} (hne : P ≠ []) (h10 : ∀ p ∈ P, 10 ∉ p) : Txt.split (mkS (joinL sep3 P)) (mkS sep3) = P.map mkS := by
  obtain ⟨f, hc, hn⟩ := occ_tight (mkS (joinL sep3 P)) (mkS sep3) (by rw [mkS_len]; decide)
  have key := split_go P hne h10 [] _ f hc hn
  rw [List.nil_append] at key
  unfold Txt.split
  have one : (occurrences (mkS (joinL sep3 P)) (mkS sep3) 0 (mkS (joinL sep3 P)).length ((mkS (joinL sep3 P)).length + 1)) = [] → [mkS (joinL sep3 P)] = P.map mkS := by
    intro e
    rw [e] at key
    rw [← key]
    show _ = [strSub (mkS (joinL sep3 P)) 0 (mkS (joinL sep3 P)).length]
    rw [strSub_mk, mkS_len]; simp
  split
  · rename_i hsh
    rw [Bool.or_eq_true, decide_eq_true_eq, decide_eq_true_eq] at hsh
    rcases hsh with hsh | hsh
    · refine one ?_
      cases e : occurrences (mkS (joinL sep3 P)) (mkS sep3) 0 (mkS (joinL sep3 P)).length ((mkS (joinL sep3 P)).length + 1) with
      | nil => rfl
      | cons c cs =>
        rw [e] at hc
        have := hc.2.1.1
        omega
    · exact absurd hsh (strKind_pos _)
  · split
    · rename_i he
      exact one (by simpa using he)
    · rw [← key]
      show partsBetween _ _ _ = _
      unfold partsBetween
      exact zip_parts _ _ _ _
/-- each piece is below the limit -/
theorem osz_le (c : Nat) : 1 ≤ osz c ∧ osz c ≤ 4 := by unfold osz; split <;> split <;> split <;> omega
theorem grow_sum {limit : Nat} : ∀ (r : List Nat) (size : Nat), size < limit → size + osum (r.take (grow limit size r)) < limit
  | [], size, h => by simpa [osum, grow_nil] using h
  | c :: r, size, h => by
    by_cases hf : size + osz c < limit
    · rw [grow_fit hf, List.take_succ_cons, osum_cons, ← Nat.add_assoc]
      exact grow_sum r (size + osz c) hf
    · rw [grow_no hf]; simpa [osum] using h
theorem osum_take_le (l : List Nat) {a b : Nat} (h : a ≤ b) : osum (l.take a) ≤ osum (l.take b) := by
  have e : l.take b = l.take a ++ (l.take b).drop a := by
    conv => lhs; rw [← List.take_append_drop a (l.take b)]
    rw [List.take_take, Nat.min_eq_left h]
  rw [e, osum_app]; omega
theorem cut1_sum {limit : Nat} (hl : 6 ≤ limit) (l : List Nat) (h : l ≠ []) : osum (l.take (cut1 limit l)) < limit := by
  cases l with
  | nil => exact absurd rfl h
  | cons c r =>
    have h1 := osz_le c
    have h2 := grow_sum (limit := limit) r (osz c) (by omega)
    have h3 : osum ((c :: r).take (1 + grow limit (osz c) r)) < limit := by
      rw [Nat.add_comm, List.take_succ_cons, osum_cons]; exact h2
    refine Nat.lt_of_le_of_lt (osum_take_le _ ?_) h3
    rw [cut1_cons]
    split <;> omega
theorem Pieces.small {limit : Nat} {l : List Nat} {P : List (List Nat)} (h : Pieces limit l P) (hl : 6 ≤ limit) : ∀ p ∈ P, osum p < limit := by
  induction h with
  | nil => exact fun _ h => (nomatch h)
  | @cons l ls hne _ ih =>
    intro p hp
    rcases List.mem_cons.mp hp with rfl | hp
    · exact cut1_sum hl l hne
    · exact ih p hp
theorem Pieces.ne {limit : Nat} {l : List Nat} {P : List (List Nat)} (h : Pieces limit l P) (hl : l ≠ []) : P ≠ [] := by
  rintro rfl
  exact hl h.flat.symm
end Mine

end

section
open PySem PySem.W PyProof.Rows PySem.Calls
set_option maxRecDepth 100000
set_option maxHeartbeats 4000000
namespace Mine
open Builtin.Str PySem.StrLaws
section
variable {w : World} {A : Around} {E : Value → Shared → Prop} {s : Shared} {g h h' : Heap} {t : Nat} {env : Env} {ns : List Str} {gl : List (Str × Value)} {vs : List (Option Value)} {σ : List (Addr × LObj)}
theorem strs_of : ∀ {l : List (Str × Tok)} {ls : List (List Nat)}, l.map (·.1) = ls.map mkS → Strs (strValues l) ls := fun h => ⟨_, rfl, h⟩
/-- text.split('\r\n ') -/
theorem m_split {P : List (List Nat)} {u : Tok} {pos : Pos} {e : Expr} {Q : Value → Shared → Prop} (S : SS w g env ns gl h vs σ) (hne : P ≠ []) (h10 : ∀ p ∈ P, 10 ∉ p) (hz : (joinL sep3 P).length ≤ 2 ^ 20) (hz2 : P.length ≤ 2 ^ 20)
    (hq : wpAny (model pg w) A (eval e env) (fun v s₁ => ∃ u t₁, v = .str (mkS sep3) u ∧ s₁ = St s h t₁ ∧ ∀ D vals h' t', SS w g env ns gl h' vs σ → Old h h' → h'.IsList D vals.toArray → Strs vals P → Q (.ref D) (St s h' t')) E (St s h t)) :
    MethodOnS pg w A E "split" (.str (mkS (joinL sep3 P)) u) pos [(false, eval e env)] Q (St s h t) := by
  refine ⟨"str", _, F.plainAttrs_str, F.slot_str_split, F.type_str_split, typeIs_str _ _ _, (fun _ e => nomatch e), ?_⟩
  refine Calls.callWith_builtin rfl (Calls.evalArgs_plain (Calls.spliced_cons (wpAny_mono hq (fun v s₁ q => Calls.spliced_nil ?_) fun _ _ x => x)))
  obtain ⟨u', t₁, rfl, rfl, hq⟩ := q
  have hsz : (2 : Nat) ^ 21 ≤ sizeLine := by decide
  refine SCH.split1 (P := fun h₁ => Old h h₁) (s := St s h t₁) (fun h₁ ob o => o.trans ⟨fun b o e => Heap.get?_push_of_some _ e⟩) (Old.refl _) (by rw [mkS_len]; rfl) (fun D l h₁ k hl o hL => ?_) (by rw [mkS_len]; omega) ?_
  · rw [split_join hne h10] at hl
    exact hq D _ h₁ k (S.after o) o hL (strs_of hl)
  · have := StrLaws.occ_length_le_len (mkS (joinL sep3 P)) (mkS sep3) 0 (mkS (joinL sep3 P)).length ((mkS (joinL sep3 P)).length + 1)
    unfold partsBetween
    simp only [List.length_map, List.length_zip, List.length_cons, List.length_append]
    rw [mkS_len] at this ⊢
    omega
/-- two lists of texts that are alike -/
theorem k_ne_strs {n₀ : Nat} {a b : Addr} {xs ys : List Value} {ls : List (List Nat)} {Q : Value → Shared → Prop} (ha : AOk A n₀) (hx : s.heap.IsList a xs.toArray) (hy : s.heap.IsList b ys.toArray) (h1 : Strs xs ls) (h2 : Strs ys ls) (hq : Q (.bool false) s) :
    wpAny (model pg w) A (compareOp .NotEq (.ref a) (.ref b)) Q E s := by
  have l1 := h1.length
  have l2 := h2.length
  refine PySem.SeqAt.RcNeAt.lists (e := fun _ => true) hx hy (by rw [List.size_toArray, List.size_toArray]; omega) (by have := ha.units; exact this) (fun j j1 j2 => ?_) pg w E Q ?_
  · rw [List.size_toArray] at j1 j2
    obtain ⟨l, u, e1, e2⟩ := h1.at' (List.getElem?_eq_getElem j1)
    obtain ⟨l', u', e3, e4⟩ := h2.at' (List.getElem?_eq_getElem j2)
    rw [e1] at e3; cases e3
    rw [List.getElem_toArray, List.getElem_toArray, e2, e4]
    have := PySem.SeqAt.EqAt.str_str (A := A.in1) (s := s) (mkS l) u (mkS l) u'
    rw [beq_self_eq_true] at this
    exact this
  · have : (!(List.range xs.toArray.size).all fun _ => true) = false := by simp
    rw [this]; exact hq
end
end Mine

end

section
open PySem PySem.W PyProof.Rows PySem.Calls
set_option maxRecDepth 100000
set_option maxHeartbeats 4000000
namespace Mine
open Builtin.Str PySem.StrLaws
section
variable {w : World} {A : Around} {E : Value → Shared → Prop} {s : Shared} {g h h' : Heap} {t : Nat} {env : Env} {ns : List Str} {gl : List (Str × Value)} {vs : List (Option Value)} {σ : List (Addr × LObj)}
theorem rgT2 {A : Around} {E : Value → Shared → Prop} {env : Env} {ns : List Str} {gl : List (Str × Value)} {x : Str} {v : Value} {p : Pos} {Q : Value → Shared → Prop} (e : EnvOk env ns gl) (T : TG w h) (h1 : (x, v) ∈ gl) (hq : Q v (St s h t)) :
    wpAny (model pg w) A (eval (.Name x p) env) Q E (St s h t) := by
  obtain ⟨k1, k2, k3⟩ := e.gn _ h1
  obtain ⟨mg, mb, g1, g2, g3, g4⟩ := T.gn
  refine Name_function_global e.kind k1 ?_ k2
  rcases k3 with k | k
  · exact loadGlobal_global (env := env) (by rw [e.glob]; exact g1) (g3 _ k) hq
  · exact loadGlobal_builtin (env := env) (by rw [e.glob]; exact g1) (g4 _ k).1 (by rw [e.blt]; exact g2) (g4 _ k).2 hq
theorem ints_pair {F : Value → Value → Prop} {f : Nat → Int} (hF : ∀ {v y c u}, F v y → v = Value.str ⟨#[c]⟩ u → ∃ t, y = Value.int (f c) t) : ∀ (l : List Nat) (vs ys : List Value), vs.length = l.length → (∀ (j : Nat) (v : Value), vs[j]? = some v → ∃ c u, l[j]? = some c ∧ v = Value.str ⟨#[c]⟩ u) → Paired F vs ys → IntsAre ys (l.map f)
  | [], [], _, _, _, .nil => .nil
  | c :: l, v :: vs, _, hl, hv, .cons hp hr => by
    obtain ⟨c', u, e1, e2⟩ := hv 0 v rfl
    cases e1
    obtain ⟨t, rfl⟩ := hF hp e2
    exact .cons _ t (ints_pair hF l vs _ (by simpa using hl) (fun j v e => hv (j + 1) v e) hr)
  | [], _ :: _, _, hl, _, _ => by cases hl
  | _ :: _, [], _, hl, _, _ => by cases hl
theorem e_sizes {n₀ : Nat} {f x : Str} {p1 p2 p3 px pos : Pos} {iter : Expr} {scope : Scope} {l : List Nat} {Q : Value → Shared → Prop} (a : AOk A (n₀ + 1)) (S : SS w g env ns gl h vs σ)
    (hfn : fnOk scope [] [(f, .ref 470)] = true) (hx : scope.names.lookup x = some .local) (hxd : (x == ("__debug__" : Str)) = false)
    (hfree : ∀ y ∈ scope.names, y.2 ≠ .free) (hcell : ∀ y ∈ scope.names, y.2 ≠ .cell) (hkind : scope.kind = .function) (hnames : ∀ y ∈ scope.names, y.2 = .local → scope.names.lookup y.1 = some .local)
    (hlen : l.length ≤ 2 ^ 20)
    (hq : wpAny (model pg w) A (eval iter env) (fun v s₁ => ∃ u t₁, v = .str (mkS l) u ∧ s₁ = St s h t₁) E (St s h t))
    (hQ : ∀ D ys h' t', Old h h' → SS w g env ns gl h' vs σ → h'.IsList D ys.toArray → IntsAre ys (l.map fun c => ((osz c : Nat) : Int)) → Q (.ref D) (St s h' t'))
    (hs : ∀ x, foldedSetIterable iter env x = pure x := by intro _; with_unfolding_all rfl) :
    wpAny (model pg w) A (eval (.ListComp (.Call (.Name f p1) [.Name x p2] [] p3) [⟨.Name x px, iter, [], 0⟩] scope pos) env) Q E (St s h t) := by
  refine wpAny_ListComp_walk (fun _ => true) (fun v y => ∃ c u t, v = .str ⟨#[c]⟩ u ∧ y = .int ((osz c : Nat) : Int) t) hfree hcell hkind hnames hx (wpAny_mono hq (fun v s₁ h₁ => ?_) fun _ _ e => e) hs
  obtain ⟨u, t₁, rfl, rfl⟩ := h₁
  refine wpAny_pyIter_str fun o Sp W hSp => ?_
  have e5 : (2 : Nat) ^ 20 ≤ sizeLine := by decide
  have o1 : Old h (h.push o) := ⟨fun b o e => Heap.get?_push_of_some _ e⟩
  refine ⟨h.objs.size, [h.objs.size], [h.objs.size], l.length, SignAt (mkS l), Sp, rfl, ?_, by omega, hSp, ?_, ⟨?_, ?_⟩, ?_⟩
  · have := W A a.h
    simpa using this
  · intro b hb
    rw [List.mem_singleton.mp hb]
    show _ < (h.push o).objs.size
    rw [Heap.size_push]; exact Nat.lt_succ_self _
  · intro C i v s₃ m₃ E' _ _ _ _ _
    exact wpAny_pure ⟨rfl, s₃.heap, s₃.toks, rfl, fun _ _ e => e⟩
  · intro C i v s₃ m₃ E' hv _ hn hm hk _
    obtain ⟨c, u', hc, rfl⟩ := hv
    have o3 : Old h s₃.heap := ⟨fun b ob e => hk b ob (fun q => by rw [List.mem_singleton.mp q] at e; exact absurd (Heap.lt_size e) (Nat.lt_irrefl _)) (Heap.get?_push_of_some _ e)⟩
    have T3 := S.tg.keeps o3
    have ek : EnvOk (compEnv scope C env) [] [(f, .ref 470)] := EnvOk.gen hfn S.e.glob S.e.blt
    show wpAny (model pg w) A _ _ E' (St s₃ s₃.heap s₃.toks)
    refine e_call ?_
    refine rgT2 ek T3 (.head _) ?_
    refine c_text T3 (by kernel_rfl!) ?_
    refine a_more ?_
    refine wpAny_Name (wpAny_loadName_local hkind hx hn hm ?_) hxd
    refine a_none ?_
    refine ⟨T3, ?_⟩
    refine size_spec (g := s₃.heap) a T3 (Old.refl _) fun h' t' u'' _ o4 => ?_
    exact ⟨⟨c, u', u'', rfl, rfl⟩, h', t', rfl, fun b o e => o4.k b o e⟩
  · intro D h' tk ys vs' hD hl _ hlen' hP hF hk
    have o3 : Old h h' := ⟨fun b ob e => hk b ob (fun q => by rw [List.mem_singleton.mp q] at e; exact absurd (Heap.lt_size e) (Nat.lt_irrefl _)) (Heap.get?_push_of_some _ e)⟩
    refine hQ D ys.toList h' tk o3 (S.after o3) (by simpa using hl) ?_
    rw [List.filter_eq_self.mpr (fun _ _ => rfl)] at hF
    refine ints_pair (fun {v y c u} hh e => ?_) l vs' _ hlen' (fun j v e => ?_) hF
    · obtain ⟨c', u', t', e1, e2⟩ := hh
      rw [e1] at e
      have : c' = c := by
        have h1 := congrArg (fun v => match v with | Value.str x _ => x.cps.toList | _ => []) e
        simpa using h1
      subst this
      exact ⟨t', e2⟩
    · obtain ⟨c, u, hc, e'⟩ := hP j v e
      exact ⟨c, u, by simpa using hc, e'⟩
theorem sum_osz (l : List Nat) : (l.map fun c => ((osz c : Nat) : Int)).sum = ((osum l : Nat) : Int) := by
  induction l with
  | nil => rfl
  | cons c r ih => rw [List.map_cons, List.sum_cons, ih, osum_cons]; omega
theorem c_sum {n₀ : Nat} {D : Addr} {ys : List Value} {ms : List Int} {Q : Value → Shared → Prop} (a : AOk A n₀) (S : SS w g env ns gl h vs σ) (hl : h.IsList D ys.toArray) (hi : IntsAre ys ms)
    (hQ : ∀ h' t' u, Old h h' → SS w g env ns gl h' vs σ → Q (.int ms.sum u) (St s h' t')) : wpAny (model pg w) A (call (.builtin "sum") [.ref D]) Q E (St s h t) := by
  obtain ⟨xs, hxs⟩ := hi.allInts.items
  rw [hxs] at hl
  refine sum_intListG a.h (s := St s h t) hl fun h' tk t' hk => ?_
  have e1 : preSum (numAt xs) xs.size = ms.sum := by
    rw [preSum_eq, List.take_of_length_le (by simp), ← nums_intItems, ← hxs, ← hi.numsOf]
  rw [e1]
  exact hQ h' tk t' ⟨hk⟩ (S.after ⟨hk⟩)
end
end Mine

end

section
open PySem PySem.W PyProof.Rows PySem.Calls
set_option maxRecDepth 100000
set_option maxHeartbeats 4000000
namespace Mine
open Builtin.Str
@[reducible] def nsL : List Str := ["script", "bag", "limit", "told", "pieces", "folded", "piece", "line", "place", "mark"]
@[reducible] def glL : List (Str × Value) := [("_law_bag", .ref 449), ("_law_draw", .ref 456), ("_law_line", .ref 463), ("_law_pieces", .ref 477), ("_foldline", .ref 55), ("sum", .builtin "sum"), ("str", .type "str"), ("Contentline", .ref 438), ("len", .builtin "len"), ("_law_refuses", .ref 484)]
/-- a line as the law draws it -/
structure Told (l : List Nat) : Prop where
  lo : 1 ≤ l.length
  hi : l.length ≤ 120
  al : ∀ c ∈ l, c ∈ alpha
theorem Told.h10 {l : List Nat} (T : Told l) : 10 ∉ l := fun h => absurd (T.al _ h) (by decide)
theorem Told.sur {l : List Nat} (T : Told l) : ∀ c ∈ l, Str.isSurrogate c = false := fun c hc => by
  have h := T.al c hc
  simp only [alpha, List.mem_cons, List.not_mem_nil, or_false] at h
  rcases h with rfl | rfl | rfl | rfl | rfl | rfl | rfl | rfl | rfl | rfl | rfl <;> rfl
theorem Told.ne {l : List Nat} (T : Told l) : l ≠ [] := by rintro rfl; have := T.lo; simp at this
theorem alpha2_of {c : Nat} (h : c ∈ alpha) : c ∈ alpha2 := List.mem_cons_of_mem _ h
theorem Pieces.p10 {limit : Nat} {l : List Nat} {P : List (List Nat)} (h : Pieces limit l P) (T : Told l) : ∀ p ∈ P, 10 ∉ p := fun p hp hc => T.h10 (h.all.1 p hp 10 hc)
theorem Pieces.j2 {limit : Nat} {l : List Nat} {P : List (List Nat)} (h : Pieces limit l P) (T : Told l) : ∀ c ∈ joinL sep3 P, c ∈ alpha2 := by
  intro c hc
  rcases joinL_mem hc with q | q
  · rw [h.flat] at q; exact alpha2_of (T.al c q)
  · simp only [List.mem_cons, List.not_mem_nil, or_false] at q
    rcases q with rfl | rfl | rfl <;> decide
theorem Pieces.fold {limit : Nat} {l : List Nat} {P : List (List Nat)} (h : Pieces limit l P) (T : Told l) : Fold (joinL sep3 P) l := by
  have := fold_join (limit := limit) (sep := sep3) rfl P (h.ne T.ne) (h.p10 T)
  rw [h.flat] at this
  exact this
section
variable {w : World} {A : Around} {E : Value → Shared → Prop} {s : Shared} {g h h' : Heap} {t : Nat} {env : Env} {ns : List Str} {gl : List (Str × Value)} {vs : List (Option Value)} {σ : List (Addr × LObj)}
theorem crlf_str : Str.ofString "\x0d\n " = mkS sep3 := rfl
theorem len_le_sum : ∀ {P : List (List Nat)} {p : List Nat}, p ∈ P → p.length ≤ P.flatten.length
  | q :: P, p, h => by
    rw [List.flatten_cons, List.length_append]
    rcases List.mem_cons.mp h with rfl | h
    · omega
    · have := len_le_sum h; omega
theorem m_ints {xs : List Value} {Q : Value → Shared → Prop} (P : List Value → Prop) (hp : P xs) (S : SS w g env ns gl h vs σ) (hz : xs.length ≤ 2 ^ 20)
    (hq : ∀ xs, P xs → ∀ l h', SS w g env ns gl h' vs ((l, .list xs) :: σ) → Q (.ref l) (St s h' t)) : wpAny (model pg w) A (newList xs) Q E (St s h t) :=
  m_listP P hp S hz fun xs hx l h' S _ => hq xs hx l h' S
def Limits (xs : List Value) : Prop := xs.length = 7 ∧ ∀ v ∈ xs, ∃ (n : Nat) (u : Tok), v = .int (n : Int) u ∧ 6 ≤ n ∧ n ≤ 80
theorem lim_all {n : Nat} {u : Tok} {r : List Value} (h1 : 6 ≤ n) (h2 : n ≤ 80) (hr : ∀ v ∈ r, ∃ (n : Nat) (u : Tok), v = .int (n : Int) u ∧ 6 ≤ n ∧ n ≤ 80) : ∀ v ∈ (Value.int (n : Int) u :: r), ∃ (n : Nat) (u : Tok), v = .int (n : Int) u ∧ 6 ≤ n ∧ n ≤ 80 := fun v hv => by
  rcases List.mem_cons.mp hv with rfl | hv
  · exact ⟨n, u, rfl, h1, h2⟩
  · exact hr v hv
theorem m_joinE {sep : List Nat} {x : Str} {u : Tok} {pos : Pos} {e : Expr} {Q : Value → Shared → Prop} (hx : x = mkS sep) (hz : sep.length ≤ 1000)
    (hq : wpAny (model pg w) A (eval e env) (fun v s₁ => JoinOf sep v Q s₁) E s) : MethodOnS pg w A E "join" (.str x u) pos [(false, eval e env)] Q s := by
  subst hx; exact m_join hz hq
theorem joinOf_base {sep : List Nat} {D : Addr} {xs : List Value} {ls : List (List Nat)} {Q : Value → Shared → Prop} (S : SS w g env ns gl h vs σ) (hl : g.IsList D xs.toArray) (hs : Strs xs ls) (h1 : ls.length ≤ 1000) (h2 : ∀ l ∈ ls, l.length ≤ 1000)
    (hq : ∀ u t', Q (.str (mkS (joinL sep ls)) u) (St s h t')) : JoinOf sep (.ref D) Q (St s h t) :=
  ⟨D, xs, ls, rfl, hl.at fun o e => S.old.k D o e, hs, h1, h2, hq⟩
end
end Mine

end

section
open PySem PySem.W PyProof.Rows PySem.Calls
set_option maxRecDepth 100000
set_option maxHeartbeats 4000000
namespace Mine
open Builtin.Str
section
variable {w : World} {A : Around} {E : Value → Shared → Prop} {s : Shared} {g h h' : Heap} {t : Nat} {env : Env}
theorem law_1 {n₀ : Nat} (a : AOk A (n₀ + 8)) {sc : Addr} {xs : List Value} {zs : List Int} (hl : g.IsList sc xs.toArray) (hi : IntsAre xs zs) (hlen : xs.length ≤ 2 ^ 20)
    (S : SS w g env nsL glL h [some (.ref sc), none, none, none, none, none, none, none, none, none] [])
    {Q : Flow → Shared → Prop} (next : ∀ g₂ h t bag b tb limit lu l ul L vals P uf, Old g g₂ → 0 ≤ b → 6 ≤ limit → limit ≤ 80 → Told l → Pieces limit l P → Strs vals P → g₂.IsList L vals.toArray →
      SS w g₂ env nsL glL h [some (.ref sc), some (.ref bag), some (.int ((limit : Nat) : Int) lu), some (.str (mkS l) ul), some (.ref L), some (.str (mkS (joinL sep3 P)) uf), none, none, none, none] [(bag, .list [.int b tb])] →
      wpAny (model pg w) A (execs ((fB (sAt 42)).drop 5) env) Q (fun _ _ => False) (St s h t)) :
    wpAny (model pg w) A (execs (fB (sAt 42)) env) Q (fun _ _ => False) (St s h t) := by
  conv => enter [3, 1]; whnf
  repeat walk_at "Y"
  walk_at "c"
  repeat walk_at "Y"
  refine ⟨S.tg, ?_⟩
  refine bag_spec (a.less (m := n₀ + 1)) S.tg (Old.refl h) (hl.at fun o e => S.old.k sc o e) hi hlen fun h₁ t₁ bag b tb o1 hb hB hb0 => ?_
  have S := S.new (x := .list [.int b tb]) o1 hb hB
  clear o1 hb hB
  repeat walk_at "Y"
  refine m_ints Limits ⟨rfl, ?_⟩ S (by simp) ?_
  · iterate 7 refine lim_all (by decide) (by decide) ?_
    intro v hv; cases hv
  clear S; intro ls hls LA h S
  repeat walk_at "Y"
  walk_at "c"
  repeat walk_at "Y"
  refine ⟨S.tg, ?_⟩
  refine c_draw (a.less (m := n₀ + 1)) S (i := 1) rfl (by decide) (by decide) ?_
  clear S; intro h t t1 t2 S
  have f7 := fmod_pos (b := b) (n := 7) (by decide)
  have hb1 : 0 ≤ b.fdiv 7 := fdiv_nonneg hb0 (by decide)
  generalize b.fdiv 7 = b1 at hb1 S
  obtain ⟨m, hm⟩ := Int.eq_ofNat_of_zero_le f7.1
  obtain ⟨v, hv⟩ : ∃ v, ls[m]? = some v := ⟨_, List.getElem?_eq_getElem (by rw [hls.1]; omega)⟩
  obtain ⟨limit, lu, rfl, hlim1, hlim2⟩ := hls.2 v (List.mem_of_getElem? hv)
  refine sub_list (S.list (i := 0) rfl) (by omega) (by omega) (by rw [hm]; exact hv) ?_
  have S := S.sub (σ₂ := [(bag, .list [.int b1 t1])]) (.cons _ (.cons_cons _ .slnil))
  repeat walk_at "Y"
  walk_at "c"
  repeat walk_at "Y"
  refine ⟨S.tg, ?_⟩
  refine line_spec (a.less (m := n₀ + 2)) (S.hideTG (List.mem_of_getElem? (i := 0) rfl)) Old.hide (S.list (i := 0) rfl) hide_none hb1 fun h₂ t₂ l ul b2 tb2 o2 hB2 hb2 hl1 hl2 hal => ?_
  have S := S.back (i := 0) rfl o2 (y := .list [.int b2 tb2]) hB2
  have hT : Told l := ⟨hl1, hl2, hal⟩
  clear o2 hB2
  repeat walk_at "Y"
  walk_at "c"
  repeat walk_at "Y"
  refine ⟨S.tg, ?_⟩
  refine pieces_spec (a.less (m := n₀ + 2)) S.tg (Old.refl _) (by omega) fun h₃ t₃ L vals P o3 hLn hLl hvs hP _ _ => ?_
  obtain ⟨k, hLl⟩ := hLl
  have S := S.new (x := .lst vals) o3 hLn ⟨k, hLl⟩
  clear o3 hLn hLl
  repeat walk_at "Y"
  walk_at "c"
  repeat walk_at "Y"
  refine ⟨S.tg, ?_⟩
  refine fold2_spec (a.less (m := n₀ + 1)) S.tg (Old.refl _) hT.sur (by omega) hlim1 hT.h10 LineOk.str fun P' h₄ uf t₄ o4 hP' => ?_
  have S := S.after o4
  rw [hP'.det hP]
  clear o4
  refine r_st5 S ?_
  clear S; intro h t S
  obtain ⟨k, hLl⟩ := S.lst (i := 0) rfl
  obtain ⟨g₂, og, oh, S₂, hin⟩ := S.rebase (σ₂ := [(bag, .list [.int b2 tb2])]) (.cons _ (.cons_cons _ .slnil))
  have hne1 : L ≠ env.locals := S.D.ne _ (.head _)
  have hne2 : L ∉ [(bag, LObj.list [.int b2 tb2])].map (·.1) := by
    have := S.D.nd
    intro hm
    exact (List.nodup_cons.mp this).1 hm
  refine next g₂ h t bag b2 tb2 limit lu l ul L vals P uf og hb2 hlim1 hlim2 hT hP hvs ?_ S₂
  exact IsL.isList (hin L _ hLl hne1 hne2)
end
end Mine

end

section
open PySem PySem.W PyProof.Rows PySem.Calls
set_option maxRecDepth 100000
set_option maxHeartbeats 4000000
namespace Mine
open Builtin.Str
section
variable {w : World} {A : Around} {E : Value → Shared → Prop} {s : Shared} {g h h' : Heap} {t : Nat} {env : Env}
theorem law_2 {n₀ : Nat} (a : AOk A (n₀ + 8)) {sc bag L : Addr} {b : Int} {tb lu ul uf : Tok} {limit : Nat} {l : List Nat} {P : List (List Nat)} {vals : List Value} (hlim : 6 ≤ limit) (hT : Told l) (hP : Pieces limit l P) (hvs : Strs vals P) (hL : g.IsList L vals.toArray)
    (S : SS w g env nsL glL h [some (.ref sc), some (.ref bag), some (.int ((limit : Nat) : Int) lu), some (.str (mkS l) ul), some (.ref L), some (.str (mkS (joinL sep3 P)) uf), none, none, none, none] [(bag, .list [.int b tb])])
    {Q : Flow → Shared → Prop} (next : ∀ h t pv, SS w g env nsL glL h [some (.ref sc), some (.ref bag), some (.int ((limit : Nat) : Int) lu), some (.str (mkS l) ul), some (.ref L), some (.str (mkS (joinL sep3 P)) uf), pv, none, none, none] [(bag, .list [.int b tb])] →
      wpAny (model pg w) A (execs ((fB (sAt 42)).drop 8) env) Q (fun _ _ => False) (St s h t)) :
    wpAny (model pg w) A (execs ((fB (sAt 42)).drop 5) env) Q (fun _ _ => False) (St s h t) := by
  have hhi := hT.hi
  have hcount := hP.count
  have hjl : (joinL sep3 P).length ≤ 4 * l.length := hP.joinLen
  have hpl : ∀ p ∈ P, p.length ≤ 120 := by
    intro p hp
    have := len_le_sum hp
    rw [hP.flat] at this
    omega
  conv => enter [3, 1]; whnf
  refine x_if ?_
  refine t_or ?_
  repeat walk_at "Y"
  refine m_joinE crlf_str (by decide) ?_
  repeat walk_at "Y"
  refine joinOf_base S hL hvs (by omega) (fun p hp => by have := hpl p hp; omega) ?_
  intro u t
  repeat walk_at "Y"
  refine ⟨fun q => ?_, fun _ => ?_⟩
  · rw [bne_self_eq_false] at q; cases q
  repeat walk_at "Y"
  refine m_joinE emp_str (by decide) ?_
  repeat walk_at "Y"
  refine joinOf_base S hL hvs (by omega) (fun p hp => by have := hpl p hp; omega) ?_
  intro u t
  rw [joinL_flat, hP.flat]
  repeat walk_at "Y"
  refine ⟨fun q => ?_, fun _ => ?_⟩
  · rw [bne_self_eq_false] at q; cases q
  repeat walk_at "Y"
  refine ⟨fun q => (by cases q), fun _ => ?_⟩
  refine x_nil ?_
  refine x_if ?_
  repeat walk_at "Y"
  refine m_split S (hP.ne hT.ne) (hP.p10 hT) (by omega) (by omega) ?_
  repeat walk_at "Y"
  refine ⟨_, _, rfl, rfl, fun D vals' h t S o1 hD hvs' => ?_⟩
  repeat walk_at "Y"
  refine k_ne_strs a hD (hL.at fun o e => S.old.k L o e) hvs' hvs ?_
  repeat walk_at "Y"
  refine ⟨fun q => (by cases q), fun _ => ?_⟩
  refine x_nil ?_
  refine x_for ?_
  repeat walk_at "Y"
  refine for_list a.h S hL (i := 6) rfl (fun _ vs σ => ∃ pv, vs = [some (.ref sc), some (.ref bag), some (.int ((limit : Nat) : Int) lu), some (.str (mkS l) ul), some (.ref L), some (.str (mkS (joinL sep3 P)) uf), pv, none, none, none] ∧ σ = [(bag, .list [.int b tb])]) ⟨_, rfl, rfl⟩ ?_ ?_
  · rintro k v vs σ g' h t hv ⟨pv, rfl, rfl⟩ o' S
    obtain ⟨p, u, hp, rfl⟩ := hvs.at' hv
    have hpm := List.mem_of_getElem? hp
    have hsm := hP.small hlim p hpm
    have hpn := hP.all.2 p hpm
    simp only [List.set_cons_succ, List.set_cons_zero] at S
    refine x_if ?_
    refine t_or ?_
    repeat walk_at "Y"
    refine e_sizes (l := p) (a.less (m := n₀ + 1)) S (by kernel_rfl!) (by rfl) (by decide) (by decide) (by decide) (by rfl) (by decide) (by have := hpl p hpm; omega) ?_ ?_
    · repeat walk_at "Y"
      exact ⟨_, _, rfl, rfl⟩
    intro D ys h t o1 S hD hys
    refine a_none ?_
    refine c_sum a S hD hys fun h t u o2 S => ?_
    rw [sum_osz]
    repeat walk_at "Y"
    refine ⟨fun q => ?_, fun _ => ?_⟩
    · rw [decide_eq_true_eq] at q; omega
    repeat walk_at "Y"
    refine ⟨fun q => ?_, fun _ => ?_⟩
    · rw [emp_str] at q
      have : mkS p = mkS [] := by simpa using q
      have h2 := congrArg (fun x => x.cps.toList) this
      exact absurd (by simpa using h2) hpn
    repeat walk_at "Y"
    refine ⟨fun q => (by cases q), fun _ => ?_⟩
    refine x_nil ?_
    refine x_nil ?_
    exact ⟨_, _, _, _, rfl, S, _, rfl, rfl⟩
  · rintro vs σ h t ⟨pv, rfl, rfl⟩ S
    exact next h t pv S
end
end Mine

end

section
open PySem PySem.W PyProof.Rows PySem.Calls
set_option maxRecDepth 100000
set_option maxHeartbeats 4000000
namespace Mine
open Builtin.Str
section
variable {w : World} {A : Around} {E : Value → Shared → Prop} {s : Shared} {g h h' : Heap} {t : Nat} {env : Env} {ns : List Str} {gl : List (Str × Value)} {vs : List (Option Value)}
theorem SS.lineBase {bag o : Addr} {ys : List Value} {l : List Nat} {x : Str} {v : Value} (S : SS w g env ns gl h vs [(bag, .list ys)]) (h0 : ns[0]? = some x) (v0 : vs[0]? = some (some v)) (I : IsLine h o l) :
    ∃ g₂, Old g g₂ ∧ SS w g₂ env ns gl h vs [(bag, .list ys)] ∧ IsLine g₂ o l := by
  obtain ⟨g₂, og, oh, S₂, hin⟩ := S.rebase (List.Sublist.refl _)
  obtain ⟨u, dx, od, v', e1, e2, rfl⟩ := I
  obtain ⟨oL, es, ep, hL, hd, _, hf⟩ := S.F.ns
  obtain ⟨ob, hb, hc, _⟩ := S.D.is _ (.head _)
  have n1 : o ≠ env.locals := by rintro rfl; rw [e1] at hL; cases hL; cases hd
  have n2 : o ≠ bag := by rintro rfl; rw [e1] at hb; cases hb; cases hc
  have n3 : dx ≠ env.locals := by
    rintro rfl
    rw [e2] at hL; cases hL
    have : es = #[] := by cases hd; rfl
    subst this
    have := hf x
    rw [lkv_get S.e.nd h0 v0] at this
    cases this
  have n4 : dx ≠ bag := by rintro rfl; rw [e2] at hb; cases hb; injection hc with hc; exact absurd hc (by decide)
  refine ⟨g₂, og, S₂, u, dx, _, v', hin o _ e1 n1 (by simpa using n2), hin dx _ e2 n3 (by simpa using n4), rfl⟩
theorem fits {l : List Nat} {P : List (List Nat)} {limit : Nat} (hT : Told l) (hP : Pieces limit l P) : (joinL sep3 P).length ≤ 900 := by
  have h1 : (joinL sep3 P).length ≤ 4 * l.length := hP.joinLen
  have := hT.hi
  omega
end
section
variable {w : World} {A : Around} {E : Value → Shared → Prop} {s : Shared} {g h h' : Heap} {t : Nat} {env : Env}
theorem joinL_ne {sep : List Nat} : ∀ {P : List (List Nat)}, P.flatten ≠ [] → joinL sep P ≠ []
  | [], h => absurd rfl h
  | [x], h => by simpa [joinL] using h
  | x :: y :: r, h => by
    intro e
    have e' : x ++ sep ++ joinL sep (y :: r) = [] := e
    simp only [List.append_eq_nil_iff] at e'
    refine h ?_
    rw [List.flatten_cons, e'.1.1, List.nil_append]
    cases hr : (y :: r).flatten with
    | nil => rfl
    | cons c cs => exact absurd e'.2 (joinL_ne (by rw [hr]; simp))
theorem law_3 {n₀ : Nat} (a : AOk A (n₀ + 8)) {sc bag L : Addr} {b : Int} {tb lu ul uf : Tok} {limit : Nat} {l : List Nat} {P : List (List Nat)} {pv : Option Value} (hT : Told l) (hP : Pieces limit l P)
    (S : SS w g env nsL glL h [some (.ref sc), some (.ref bag), some (.int ((limit : Nat) : Int) lu), some (.str (mkS l) ul), some (.ref L), some (.str (mkS (joinL sep3 P)) uf), pv, none, none, none] [(bag, .list [.int b tb])])
    {Q : Flow → Shared → Prop} (next : ∀ g₂ h t o, Old g g₂ → SS w g₂ env nsL glL h [some (.ref sc), some (.ref bag), some (.int ((limit : Nat) : Int) lu), some (.str (mkS l) ul), some (.ref L), some (.str (mkS (joinL sep3 P)) uf), pv, some (.ref o), none, none] [(bag, .list [.int b tb])] →
      wpAny (model pg w) A (execs ((fB (sAt 42)).drop 12) env) Q (fun _ _ => False) (St s h t)) :
    wpAny (model pg w) A (execs ((fB (sAt 42)).drop 8) env) Q (fun _ _ => False) (St s h t) := by
  have hhi := hT.hi
  have hf1 := fits hT hP
  have hu := a.u
  conv => enter [3, 1]; whnf
  refine x_if ?_
  refine t_cmp ?_
  refine e_call ?_
  walk_at "zn"
  refine c_type ?_
  refine a_more ?_
  refine e_from (a.less (m := n₀ + 4)) S (by simp) (fun h t q S => ?_)
  repeat walk_at "Y"
  refine ⟨_, _, joinL sep3 P, l, rfl, Old.refl _, UniOk.str, hP.fold hT, hf1, by omega, hT.h10, fun h₁ t₁ o o1 o2 o3 => ?_⟩
  have S := (S.after o1).sub (σ₂ := [(bag, .list [.int b tb])]) (.cons _ (.cons_cons _ .slnil))
  repeat walk_at "Y"
  refine call_str_line (by show A.units + 1 + 1 < 9900; omega) S.tg.K o3 (by omega) ?_
  clear o1 o2 o3
  repeat walk_at "Y"
  refine ⟨fun q => ?_, fun _ => ?_⟩
  · rw [bne_self_eq_false] at q; cases q
  refine x_nil ?_
  repeat walk_at "Y"
  walk_at "c"
  repeat walk_at "Y"
  refine ⟨S.tg, ?_⟩
  refine make_spec (a.less (m := n₀ + 3)) S.tg (Old.refl _) (by omega) hT.h10 fun h₁ t₁ o o1 o2 o3 => ?_
  have S := S.after o1
  clear o1 o2
  obtain ⟨g₂, og, S, hI⟩ := S.lineBase rfl rfl o3
  clear o3
  repeat walk_at "Y"
  refine x_if ?_
  refine t_or ?_
  repeat walk_at "Y"
  refine call_str_line (by show A.units + 1 + 1 < 9900; omega) S.tg.K (hI.keep S.old) (by omega) ?_
  repeat walk_at "Y"
  refine ⟨fun q => ?_, fun _ => ?_⟩
  · rw [bne_self_eq_false] at q; cases q
  refine t_or ?_
  refine t_cmp ?_
  refine e_toical (a.less (m := n₀ + 2)) S (i := 7) rfl rfl (hI.keep S.old) hT.sur (by omega) hT.h10 fun P1 h u t S _ hP1 => ?_
  repeat walk_at "Y"
  refine m_joinE crlf_str (by decide) ?_
  repeat walk_at "Y"
  walk_at "c"
  repeat walk_at "Y"
  refine ⟨S.tg, ?_⟩
  refine pieces_spec (limit := 75) (a.less (m := n₀ + 2)) S.tg (Old.refl _) (by omega) fun h₃ t₃ L2 vals2 P2 o3 hLn hLl hvs2 hP2 hc1 hc2 => ?_
  obtain ⟨k, hLl⟩ := hLl
  have S := S.after o3
  refine ⟨L2, vals2, P2, rfl, hLl.isList, hvs2, by omega, fun p hp => by have := hc2 p hp; omega, fun u t => ?_⟩
  refine m_encode (hP2.surr hT.sur) (by have := fits hT hP2; omega) ?_
  repeat walk_at "Y"
  refine ⟨_, rfl, fun u t => ?_⟩
  refine PySem.W.ne_bytes ?_
  rw [hP1.det hP2]
  repeat walk_at "Y"
  refine ⟨fun q => ?_, fun _ => ?_⟩
  · rw [bne_self_eq_false] at q; cases q
  repeat walk_at "Y"
  refine ⟨fun q => (by cases q), fun _ => ?_⟩
  refine x_nil ?_
  refine x_if ?_
  refine t_cmp ?_
  refine e_call ?_
  walk_at "zn"
  refine c_type ?_
  refine a_more ?_
  refine e_from (a.less (m := n₀ + 4)) S (by simp) (fun h t q S => ?_)
  refine e_toical (a.less (m := n₀ + 2)) S (i := 7) rfl rfl (hI.keep S.old) hT.sur (by omega) hT.h10 fun P3 h u t S o1 hP3 => ?_
  refine ⟨_, _, joinL sep3 P3, l, rfl, o1, UniOk.bytes (hP3.j2 hT) (by have := fits hT hP3; omega) (joinL_ne (by rw [hP3.flat]; exact hT.ne)), hP3.fold hT, fits hT hP3, by omega, hT.h10, fun h₁ t₁ o' o1 o2 o3 => ?_⟩
  have S := (S.after o1).sub (σ₂ := [(bag, .list [.int b tb])]) (.cons _ (.cons_cons _ .slnil))
  repeat walk_at "Y"
  refine call_str_line (by show A.units + 1 + 1 < 9900; omega) S.tg.K o3 (by omega) ?_
  clear o1 o2 o3
  repeat walk_at "Y"
  refine ⟨fun q => ?_, fun _ => ?_⟩
  · rw [bne_self_eq_false] at q; cases q
  refine x_nil ?_
  exact next g₂ _ _ _ og S
end
end Mine

end

section
open PySem PySem.W PyProof.Rows PySem.Calls
set_option maxRecDepth 100000
set_option maxHeartbeats 4000000
namespace Mine
open Builtin.Str
section
variable {w : World} {A : Around} {E : Value → Shared → Prop} {s : Shared} {g h h' : Heap} {t : Nat} {env : Env} {ns : List Str} {gl : List (Str × Value)} {vs : List (Option Value)} {σ : List (Addr × LObj)}
theorem funFrames_env {env : Env} {m : Str → Option Value} {L : Addr} (hk : env.scope.kind = .function) (hf : env.frame = some L) (hg : g.get? L = none) (hn : h.Ns L m) : h.FunFrames g [env] := funFrames_push hk hf hg hn trivial
theorem e_sliceX {value : Expr} {lo hi : Option Expr} {p pos : Pos} {Q : Value → Shared → Prop}
    (hq : wpAny (model pg w) A (eval value env) (fun o s₁ => wpAny (model pg w) A (evalPart lo env) (fun vl s₂ => wpAny (model pg w) A (evalPart hi env) (fun vu s₃ => SlStr o vl vu Q s₃) E s₂) E s₁) E s) :
    wpAny (model pg w) A (eval (.Subscript value (.Slice lo hi none p) pos) env) Q E s := by
  refine e_subscr (wpAny_mono hq (fun o s₁ h₁ => wpAny_Slice (wpAny_mono h₁ (fun vl s₂ h₂ => wpAny_mono h₂ (fun vu s₃ h₃ => wpAny_evalPart_none ?_) fun _ _ x => x) fun _ _ x => x)) fun _ _ x => x)
  obtain ⟨x, u₀, l, u, rfl, rfl, rfl, hz, hq⟩ := h₃
  exact tail_any (typeIs_str _ _ _) PySem.F.slot_str_getitem.lookup (wpAny_getItem_str_slice (l := l) (u := u) (st := none) ⟨_, Heap.get?_push_size _ rfl, rfl, rfl⟩ rfl
    (post_val_or_str ⟨Nat.le_trans (Txt.slice_le x _ _) (Nat.le_trans hz (by decide)), fun t' k => hq _ t' k⟩)) (by with_unfolding_all rfl)
theorem sl_last {x : List Nat} {u₀ u2 : Tok} {Q : Value → Shared → Prop} (S : SS w g env ns gl h vs σ) (hz : x.length ≤ 2 ^ 20)
    (hq : ∀ h' u' t', SS w g env ns gl h' vs σ → Old h h' → Q (.str (mkS (x.drop (x.length - 1))) u') (St s h' t')) : SlStr (.str (mkS x) u₀) (.int (-1) u2) .none Q (St s h t) :=
  ⟨_, _, some (-1, u2), none, rfl, rfl, rfl, by rw [mkS_len]; exact hz, fun ob u' t' => by
    have o : Old h (h.push ob) := ⟨fun b o e => Heap.get?_push_of_some _ e⟩
    have := hq (h.push ob) u' t' (S.after o) o
    show Q (.str (Txt.slice (mkS x) (some (-1)) none) u') _
    rw [PyProof.Rows.slice_from_neg (by decide), slice_from x ⟨by omega, by rw [mkS_len]; omega⟩]
    have e : (max 0 (((mkS x).length : Int) + -1)).toNat = x.length - 1 := by rw [mkS_len]; omega
    rw [e]; exact this⟩
def Marks (xs : List Value) : Prop := xs.length = 4 ∧ ∀ v ∈ xs, ∃ m u, v = .str (mkS m) u ∧ isSep m
theorem mark_all {m : List Nat} {x : Str} {u : Tok} {r : List Value} (hx : x = mkS m) (hm : isSep m) (hr : ∀ v ∈ r, ∃ m u, v = .str (mkS m) u ∧ isSep m) : ∀ v ∈ (Value.str x u :: r), ∃ m u, v = .str (mkS m) u ∧ isSep m := fun v hv => by
  subst hx
  rcases List.mem_cons.mp hv with rfl | hv
  · exact ⟨m, u, rfl, hm⟩
  · exact hr v hv
theorem isSep.len {m : List Nat} (h : isSep m) : m.length ≤ 4 := by rcases h with rfl | rfl | rfl | rfl <;> decide
theorem cr_str : Str.ofString "\x0d" = mkS [13] := rfl
theorem last_13 {x : List Nat} (h : (mkS (x.drop (x.length - 1)) != mkS [13]) = true) : x.getLast? ≠ some 13 := by
  intro e
  obtain ⟨ys, rfl⟩ := List.getLast?_eq_some_iff.mp e
  have : (ys ++ [13]).drop ((ys ++ [13]).length - 1) = [13] := by simp
  rw [this, bne_self_eq_false] at h
  cases h
end
section
variable {w : World} {A : Around} {E : Value → Shared → Prop} {s : Shared} {g h h' : Heap} {t : Nat} {env : Env}
theorem law_4 {n₀ : Nat} (a : AOk A (n₀ + 8)) {sc bag L o : Addr} {b : Int} {tb lu ul : Tok} {lim : Int} {uf : Value} {l : List Nat} {pv : Option Value} (hT : Told l) (hb0 : 0 ≤ b)
    (S : SS w g env nsL glL h [some (.ref sc), some (.ref bag), some (.int lim lu), some (.str (mkS l) ul), some (.ref L), some uf, pv, some (.ref o), none, none] [(bag, .list [.int b tb])])
    (hfr : A.frames = some [env]) (hef : env.frame = some env.locals)
    {Q : Flow → Shared → Prop} (hQ : ∀ h' t', Old g h' → Q (.ret (.bool true)) (St s h' t')) :
    wpAny (model pg w) A (execs ((fB (sAt 42)).drop 12) env) Q (fun _ _ => False) (St s h t) := by
  have hhi := hT.hi
  have hlo := hT.lo
  have hu := a.u
  conv => enter [3, 1]; whnf
  refine x_assign ?_
  refine e_call ?_
  walk_at "zn"
  walk_at "c"
  repeat walk_at "Y"
  refine ⟨S.tg, ?_⟩
  refine c_draw (a.less (m := n₀ + 1)) S (i := 0) rfl (by omega) (by omega) ?_
  clear S; intro h t t1 tp S
  have fp := fmod_pos (b := b) (n := (l.length : Int) + 1) (by omega)
  have hb1 : 0 ≤ b.fdiv ((l.length : Int) + 1) := fdiv_nonneg hb0 (by omega)
  generalize b.fdiv ((l.length : Int) + 1) = b1 at hb1 S
  obtain ⟨p, hp⟩ := Int.eq_ofNat_of_zero_le fp.1
  rw [hp] at fp ⊢
  clear hp
  repeat walk_at "Y"
  refine m_ints Marks ⟨rfl, ?_⟩ S (by simp) ?_
  · refine mark_all (m := [13, 10, 32]) rfl (.inl rfl) (mark_all (m := [10, 32]) rfl (.inr (.inl rfl)) (mark_all (m := [13, 10, 9]) rfl (.inr (.inr (.inl rfl))) (mark_all (m := [10, 13, 10, 32]) rfl (.inr (.inr (.inr rfl))) ?_)))
    intro v hv; cases hv
  clear S; intro ms hms LM h S
  repeat walk_at "Y"
  walk_at "c"
  repeat walk_at "Y"
  refine ⟨S.tg, ?_⟩
  refine c_draw (a.less (m := n₀ + 1)) S (i := 1) rfl (by decide) (by decide) ?_
  clear S; intro h t t1 t2 S
  have f4 := fmod_pos (b := b1) (n := 4) (by decide)
  obtain ⟨k, hk⟩ := Int.eq_ofNat_of_zero_le f4.1
  obtain ⟨v, hv⟩ : ∃ v, ms[k]? = some v := ⟨_, List.getElem?_eq_getElem (by rw [hms.1]; omega)⟩
  obtain ⟨m, mu, rfl, hm⟩ := hms.2 v (List.mem_of_getElem? hv)
  have hml := hm.len
  refine sub_list (S.list (i := 0) rfl) (by omega) (by omega) (by rw [hk]; exact hv) ?_
  have S := S.sub (σ₂ := [(bag, _)]) (.cons _ (.cons_cons _ .slnil))
  repeat walk_at "Y"
  have htk : (l.take ((p : Nat) : Int).toNat).length ≤ 120 := by rw [List.length_take]; omega
  have hdr : (l.drop ((p : Nat) : Int).toNat).length ≤ 120 := by rw [List.length_drop]; omega
  have hsp : l.take ((p : Nat) : Int).toNat ++ l.drop ((p : Nat) : Int).toNat = l := List.take_append_drop _ _
  have ha10 : 10 ∉ l.take ((p : Nat) : Int).toNat := fun hc => hT.h10 (List.mem_of_mem_take hc)
  have hb10 : 10 ∉ l.drop ((p : Nat) : Int).toNat := fun hc => hT.h10 (List.mem_of_mem_drop hc)
  refine x_ifJ (fun s' => ∃ h t, s' = St s h t ∧ SS w g env nsL glL h [some (.ref sc), some (.ref bag), some (.int lim lu), some (.str (mkS l) ul), some (.ref L), some uf, pv, some (.ref o), some (.int ((p : Nat) : Int) tp), some (.str (mkS m) mu)] [(bag, .list [.int (b1.fdiv 4) t1])]) ?_ ?_
  rotate_left
  · clear S
    rintro s' ⟨h, t, rfl, S⟩
    refine x_ret ?_
    refine e_call ?_
    walk_at "zn"
    walk_at "c"
    refine a_more ?_
    refine e_bin ?_
    refine e_bin ?_
    refine e_slice ?_
    repeat walk_at "Y"
    refine sl_to S (by omega) (by omega) ?_
    clear S; intro h1 u t S _
    repeat walk_at "Y"
    rw [nl_str]
    refine o_adds (by rw [mkS_len]; show _ + 1 ≤ _; omega) ?_
    intro u t
    repeat walk_at "Y"
    refine sl_from S (by omega) ⟨by omega, by omega⟩ ?_
    clear S; intro h2 u t S _
    rw [show (⟨#[10]⟩ : Str) = mkS [10] from rfl]
    refine o_adds (by rw [mkS_app, mkS_len, mkS_len, List.length_append]; show _ + 1 + _ ≤ _; omega) ?_
    intro u t
    rw [mkS_app, mkS_app]
    refine a_none ?_
    refine ⟨S.tg, ?_⟩
    exact refuses_spec (g := g) (a.less (m := n₀ + 4)) S.T S.old hfr (funFrames_env S.e.kind hef S.F.lo S.F.ns) (by simp) fun h' t' o' => hQ h' t' o'
  refine t_and ?_
  refine t_cmp ?_
  refine e_sliceX ?_
  repeat walk_at "Y"
  refine sl_to S (by omega) (by omega) ?_
  clear S; intro h u t S _
  refine p_some ?_
  refine e_neg1 ?_
  intro u t
  refine p_none ?_
  refine sl_last S (by omega) ?_
  clear S; intro h u t S _
  refine e_str ?_; intro t
  refine k_nes ?_
  refine b_bool ?_
  rw [cr_str]
  refine ⟨fun q1 => ?_, fun _ => ⟨fun q => (by cases q), fun _ => x_nil ⟨_, _, rfl, S⟩⟩⟩
  · skip
    have hl13 := last_13 q1
    have hF : Fold (l.take ((p : Nat) : Int).toNat ++ m ++ l.drop ((p : Nat) : Int).toNat) l := by
      have := Fold.cut ha10 hm (fun e => absurd e hl13) (Fold.last hb10)
      rw [hsp] at this
      exact this
    refine t_and ?_
    refine t_cmp ?_
    refine e_call ?_
    walk_at "zn"
    refine c_type ?_
    refine a_more ?_
    refine e_from (a.less (m := n₀ + 4)) S (by simp) (fun h t q S => ?_)
    refine e_bin ?_
    refine e_bin ?_
    refine e_slice ?_
    repeat walk_at "Y"
    refine sl_to S (by omega) (by omega) ?_
    clear S; intro h1 u t S o1
    repeat walk_at "Y"
    refine o_adds (by rw [mkS_len, mkS_len]; omega) ?_
    intro u t
    repeat walk_at "Y"
    refine sl_from S (by omega) ⟨by omega, by omega⟩ ?_
    clear S; intro h2 u t S o2
    refine o_adds (by rw [mkS_app, mkS_len, mkS_len, List.length_append]; omega) ?_
    intro u t
    rw [mkS_app, mkS_app]
    refine ⟨h2, _, _, l, rfl, o1.trans o2, UniOk.str, hF, by rw [List.length_append, List.length_append]; omega, by omega, hT.h10, fun h₁ t₁ o' o1 o2 o3 => ?_⟩
    have S := (S.after o1).sub (σ₂ := [(bag, _)]) (.cons _ (.cons_cons _ .slnil))
    repeat walk_at "Y"
    refine call_str_line (by show A.units + 1 + 1 < 9900; omega) S.tg.K o3 (by omega) ?_
    clear o1 o2 o3
    repeat walk_at "Y"
    refine ⟨fun q => ?_, fun _ => ?_⟩
    · rw [bne_self_eq_false] at q; cases q
    exact ⟨fun q => (by cases q), fun _ => x_nil ⟨_, _, rfl, S⟩⟩
end
end Mine

end

section
open PySem PySem.W PyProof.Rows PySem.Calls
set_option maxRecDepth 100000
set_option maxHeartbeats 4000000
namespace Mine
open Builtin.Str
section
variable {w : World} {A : Around} {E : Value → Shared → Prop} {s : Shared} {g h h' : Heap} {t : Nat} {env : Env}
theorem law_all {n₀ : Nat} (a : AOk A (n₀ + 8)) {sc : Addr} {xs : List Value} {zs : List Int} (hl : g.IsList sc xs.toArray) (hi : IntsAre xs zs) (hlen : xs.length ≤ 2 ^ 20)
    (S : SS w g env nsL glL h [some (.ref sc), none, none, none, none, none, none, none, none, none] []) (hfr : A.frames = some [env]) (hef : env.frame = some env.locals)
    {Q : Flow → Shared → Prop} (hQ : ∀ h' t', Old g h' → Q (.ret (.bool true)) (St s h' t')) :
    wpAny (model pg w) A (execs (fB (sAt 42)) env) Q E (St s h t) := by
  refine wpAny_mono (law_1 (Q := Q) a hl hi hlen S ?_) (fun _ _ x => x) fun _ _ x => x.elim
  intro g₂ h t bag b tb limit lu l ul L vals P uf og hb0 hl1 hl2 hT hP hvs hL S
  refine law_2 a hl1 hT hP hvs hL S ?_
  intro h t pv S
  refine law_3 a hT hP S ?_
  intro g₃ h t o og' S
  exact law_4 a hT hb0 S hfr hef fun h' t' o' => hQ h' t' (og.trans (og'.trans o'))
theorem gnt_ok (P : Params) : GNt.all (fun p => nsFind (match (ob3 P).data with | .dict es _ => es | _ => #[]) p.1 == some p.2) = true := by kernel_rfl
theorem gnb_ok (P : Params) : GNb.all (fun p => (nsFind (match (ob3 P).data with | .dict es _ => es | _ => #[]) p.1 == none) && !(p.1 == ("__name__" : Str)) && (bootBuiltins p.1 == some p.2)) = true := by kernel_rfl
theorem tg_of {p : Program} {loose : List Str} {mean : ExcName → Option Value} {mg mb : Str → Option Value} (T : Top p loose mean mg mb h) (X : (KK w.params).In h) : TG w h := by
  have h3 : h.get? mainGlobals = some (ob3 w.params) := X 3 _ rfl
  obtain ⟨o, es, ep, ho, hd, _, hf⟩ := T.g
  rw [h3] at ho
  cases ho
  have e : es = (match (ob3 w.params).data with | .dict es _ => es | _ => #[]) := by rw [hd]
  refine ⟨X, T.nolimit, mg, mb, T.g, T.b, fun q hq => ?_, fun q hq => ?_⟩
  · have := List.all_eq_true.mp (gnt_ok w.params) q hq
    rw [← e, hf] at this
    exact beq_iff_eq.mp this
  · have := List.all_eq_true.mp (gnb_ok w.params) q hq
    rw [← e, hf] at this
    simp only [Bool.and_eq_true, beq_iff_eq, Bool.not_eq_true'] at this
    refine ⟨this.1.1, (T.builtins _ ?_).trans this.2⟩
    intro q'
    have h2 := this.1.2
    rw [q'] at h2
    simp at h2
theorem law_head {p : Program} {loose : List Str} {mean : ExcName → Option Value} {mg mb : Str → Option Value} {s₁ : Shared} {sc a : Addr} {cd : Value} {name : Str} {xs : List Value} {zs : List Int} {m : Str → Option Value}
    {c : ClaimW} {cl : Str → Option Addr} {mean' : ExcName → Option Value} {args : List WData}
    (T : Top p loose mean mg mb s₁.heap) (X : (KK w.params).In s₁.heap) (hl : s₁.heap.IsList sc xs.toArray) (hi : IntsAre xs zs) (hz : zs.length ≤ 63) (hg : s₁.gens = #[])
    (F : Fr s₁.heap s₁.heap.objs.size h m) (hm : m = fun x => List.lookup x [((Str.ofString "script" : Str), Value.ref sc)].reverse)
    (hn : ∀ cls, c.raises args cls = false) (hp : c.post args (.bool true) args = true) :
    wpAny (model pg w) (callerA.deeper (envOf name (fS (sAt 42)) s₁.heap.objs.size a cd)) (execs (fB (sAt 42)) (envOf name (fS (sAt 42)) s₁.heap.objs.size a cd))
      (fun f s' => GoodW c cl mean' args s₁ (.ok (.ret (match f with | .ret v => v | _ => .none))) s') E (St s₁ h t) := by
  have TG1 := tg_of T X
  have ek : EnvOk (envOf name (fS (sAt 42)) s₁.heap.objs.size a cd) nsL glL := EnvOk.of (by kernel_rfl!)
  have hx := hi.length
  have S : SS w s₁.heap (envOf name (fS (sAt 42)) s₁.heap.objs.size a cd) nsL glL h [some (.ref sc), none, none, none, none, none, none, none, none, none] [] := by
    refine ⟨ek, TG1, ⟨?_, ⟨F.keep⟩, (Old.refl _).nope (Nat.le_refl _)⟩, Led.nil, rfl⟩
    have e : m = lkv nsL [some (.ref sc), none, none, none, none, none, none, none, none, none] := by
      rw [hm]
      exact lkv_binds [("script", .ref sc)] ["bag", "limit", "told", "pieces", "folded", "piece", "line", "place", "mark"] ek.nd
    rw [← e]
    exact F.ns
  refine law_all (n₀ := 0) ((AOk.caller.less (m := 9)).deeper _) hl hi (by omega) S rfl rfl ?_
  intro h' t' o'
  exact ⟨.inl ⟨.bool true, .bool true, [], rfl, hn, .bool true, hp, unshared_nil⟩, o'.k, rfl, hg⟩
end
end Mine

end

namespace Mine
theorem hd.tw10012880186880212623 : True := trivial
theorem hd.tw10024716035694756283 : True := trivial
theorem hd.tw10030107230732127627 : True := trivial
theorem hd.tw100483095206116625 : True := trivial
theorem hd.tw1007915042366553198 : True := trivial
theorem hd.tw1011335219593555734 : True := trivial
theorem hd.tw10117440562283002822 : True := trivial
theorem hd.tw1013155817946168525 : True := trivial
theorem hd.tw10147078004011405896 : True := trivial
theorem hd.tw10170382586518783626 : True := trivial
theorem hd.tw10216474801634566288 : True := trivial
theorem hd.tw10246146449241189800 : True := trivial
theorem hd.tw10258225898301398825 : True := trivial
theorem hd.tw10258999931320997221 : True := trivial
theorem hd.tw10292235466723388172 : True := trivial
theorem hd.tw1033889070964956483 : True := trivial
theorem hd.tw10403243965636340961 : True := trivial
theorem hd.tw10404513684093684653 : True := trivial
theorem hd.tw10424393626065333798 : True := trivial
theorem hd.tw1043307727769730188 : True := trivial
theorem hd.tw10491609206876299696 : True := trivial
theorem hd.tw10507497572311344420 : True := trivial
theorem hd.tw10525666975642140466 : True := trivial
theorem hd.tw10603584201595350602 : True := trivial
theorem hd.tw10614716105012338702 : True := trivial
theorem hd.tw10678649693572172417 : True := trivial
theorem hd.tw10738003575532504788 : True := trivial
theorem hd.tw10743916045514856203 : True := trivial
theorem hd.tw10752148897807903841 : True := trivial
theorem hd.tw10784824025267889561 : True := trivial
theorem hd.tw10788059911547816233 : True := trivial
theorem hd.tw10792051664901133789 : True := trivial
theorem hd.tw10806950440038215891 : True := trivial
theorem hd.tw10815687359251902143 : True := trivial
theorem hd.tw10844753989422098599 : True := trivial
theorem hd.tw10847404155465417027 : True := trivial
theorem hd.tw10860895700388868024 : True := trivial
theorem hd.tw10879034167726328663 : True := trivial
theorem hd.tw10905682514733158466 : True := trivial
theorem hd.tw10919297434634762262 : True := trivial
theorem hd.tw10949625832625181284 : True := trivial
theorem hd.tw10953424211689256117 : True := trivial
theorem hd.tw10957212852122400357 : True := trivial
theorem hd.tw1097998534492414930 : True := trivial
theorem hd.tw11011131195910976488 : True := trivial
theorem hd.tw11032806212648032379 : True := trivial
theorem hd.tw11034497122203965937 : True := trivial
theorem hd.tw11054480109507316185 : True := trivial
theorem hd.tw11117797201346649052 : True := trivial
theorem hd.tw11128854368766332075 : True := trivial
theorem hd.tw11136197038861592535 : True := trivial
theorem hd.tw11151547217846952531 : True := trivial
theorem hd.tw11162318198679636149 : True := trivial
theorem hd.tw11210553801493137410 : True := trivial
theorem hd.tw11232374478483605306 : True := trivial
theorem hd.tw11249132867342737325 : True := trivial
theorem hd.tw11251137523995926341 : True := trivial
theorem hd.tw11256106856564762260 : True := trivial
theorem hd.tw1129884963351977449 : True := trivial
theorem hd.tw11319097763535126812 : True := trivial
theorem hd.tw11319892378374348655 : True := trivial
theorem hd.tw11375277706881905925 : True := trivial
theorem hd.tw11389486352061984695 : True := trivial
theorem hd.tw11399449904127653305 : True := trivial
theorem hd.tw11402939732021071671 : True := trivial
theorem hd.tw11419897168645086397 : True := trivial
theorem hd.tw11465210709893060100 : True := trivial
theorem hd.tw11470277288517554348 : True := trivial
theorem hd.tw1147470481896660410 : True := trivial
theorem hd.tw11513968764499736323 : True := trivial
theorem hd.tw11551083187376567056 : True := trivial
theorem hd.tw11587034568685482758 : True := trivial
theorem hd.tw11631869004601391166 : True := trivial
theorem hd.tw11631947586910100387 : True := trivial
theorem hd.tw11652457597714270106 : True := trivial
theorem hd.tw11660266114150955751 : True := trivial
theorem hd.tw11672842613191775419 : True := trivial
theorem hd.tw11709330566771433103 : True := trivial
theorem hd.tw11713075325732132258 : True := trivial
theorem hd.tw11754176132448286083 : True := trivial
theorem hd.tw11778180911958503814 : True := trivial
theorem hd.tw11893437276241958245 : True := trivial
theorem hd.tw11905698266875326907 : True := trivial
theorem hd.tw11912922877643110818 : True := trivial
theorem hd.tw11917015161858427179 : True := trivial
theorem hd.tw11942203153941410639 : True := trivial
theorem hd.tw11953376511379268794 : True := trivial
theorem hd.tw1197925565968671727 : True := trivial
theorem hd.tw12023040214023829324 : True := trivial
theorem hd.tw12058812876911547015 : True := trivial
theorem hd.tw12070051907170230399 : True := trivial
theorem hd.tw12092154237167983948 : True := trivial
theorem hd.tw12112201142124510154 : True := trivial
theorem hd.tw12127338746724423809 : True := trivial
theorem hd.tw12164877068977213862 : True := trivial
theorem hd.tw12173100003817136821 : True := trivial
theorem hd.tw1222794163293265305 : True := trivial
theorem hd.tw12260484870129314786 : True := trivial
theorem hd.tw12274583820390217901 : True := trivial
theorem hd.tw12303938624490466284 : True := trivial
theorem hd.tw12393119488966705847 : True := trivial
theorem hd.tw12394076208661396346 : True := trivial
theorem hd.tw12399718760709695909 : True := trivial
theorem hd.tw12410138535482941034 : True := trivial
theorem hd.tw1241404454085649124 : True := trivial
theorem hd.tw12414669353804360901 : True := trivial
theorem hd.tw12459740579856956213 : True := trivial
theorem hd.tw12521463284412890351 : True := trivial
theorem hd.tw12575139184659369484 : True := trivial
theorem hd.tw12588582704262371052 : True := trivial
theorem hd.tw12590977762386282803 : True := trivial
theorem hd.tw12591134339009171964 : True := trivial
theorem hd.tw12598724348716800887 : True := trivial
theorem hd.tw12602439190401603521 : True := trivial
theorem hd.tw12614811148066621264 : True := trivial
theorem hd.tw12629568148972539762 : True := trivial
theorem hd.tw12631932088317031055 : True := trivial
theorem hd.tw12659318050587179527 : True := trivial
theorem hd.tw12736428759040340287 : True := trivial
theorem hd.tw12744807935193187038 : True := trivial
theorem hd.tw12832683148521936107 : True := trivial
theorem hd.tw128412058910260475 : True := trivial
theorem hd.tw12902384961775860052 : True := trivial
theorem hd.tw12949589719889679912 : True := trivial
theorem hd.tw1299046323782801668 : True := trivial
theorem hd.tw12994019391074448376 : True := trivial
theorem hd.tw13038990169509382042 : True := trivial
theorem hd.tw13047593935725612058 : True := trivial
theorem hd.tw13064592750173068379 : True := trivial
theorem hd.tw13066319289922817542 : True := trivial
theorem hd.tw13181700845877081190 : True := trivial
theorem hd.tw13217225542625558698 : True := trivial
theorem hd.tw13217827037086042188 : True := trivial
theorem hd.tw13267510147771200024 : True := trivial
theorem hd.tw13280443560766958183 : True := trivial
theorem hd.tw13285133528070534704 : True := trivial
theorem hd.tw13289513938125300765 : True := trivial
theorem hd.tw1331086792558400476 : True := trivial
theorem hd.tw13315533130655954831 : True := trivial
theorem hd.tw13321331477185743149 : True := trivial
theorem hd.tw13322179722446271537 : True := trivial
theorem hd.tw13342606739435360313 : True := trivial
theorem hd.tw13361092576175992595 : True := trivial
theorem hd.tw13368278939475635651 : True := trivial
theorem hd.tw13372043803930879067 : True := trivial
theorem hd.tw13409441903868389331 : True := trivial
theorem hd.tw13431754692932380062 : True := trivial
theorem hd.tw13466754112058979494 : True := trivial
theorem hd.tw13483081372092288885 : True := trivial
theorem hd.tw13531707123254989501 : True := trivial
theorem hd.tw13566260322249332789 : True := trivial
theorem hd.tw1359830224848277088 : True := trivial
theorem hd.tw13609717118414637909 : True := trivial
theorem hd.tw13638418597567726942 : True := trivial
theorem hd.tw13642289790063256904 : True := trivial
theorem hd.tw13770079208771991547 : True := trivial
theorem hd.tw13783031573616600631 : True := trivial
theorem hd.tw13790719812936386609 : True := trivial
theorem hd.tw13828106393651249627 : True := trivial
theorem hd.tw1382963296337349011 : True := trivial
theorem hd.tw13855946660403688772 : True := trivial
theorem hd.tw13866372431405929976 : True := trivial
theorem hd.tw13893168526513508166 : True := trivial
theorem hd.tw13919464512627920130 : True := trivial
theorem hd.tw13929354066492186541 : True := trivial
theorem hd.tw13931416462566266981 : True := trivial
theorem hd.tw14029546391885035639 : True := trivial
theorem hd.tw14046544046406475602 : True := trivial
theorem hd.tw14060154772996877548 : True := trivial
theorem hd.tw1409312971732116557 : True := trivial
theorem hd.tw14103535550066685397 : True := trivial
theorem hd.tw1413172679324656950 : True := trivial
theorem hd.tw14168552714766633299 : True := trivial
theorem hd.tw14246236162039180721 : True := trivial
theorem hd.tw1425423193147277237 : True := trivial
theorem hd.tw14294001040229213422 : True := trivial
theorem hd.tw14353793391729792155 : True := trivial
theorem hd.tw1439246655266547700 : True := trivial
theorem hd.tw14400467628812073631 : True := trivial
theorem hd.tw14439243815434019604 : True := trivial
theorem hd.tw14457593812595234344 : True := trivial
theorem hd.tw14462709497994964445 : True := trivial
theorem hd.tw14478148883734587675 : True := trivial
theorem hd.tw14553816603554493358 : True := trivial
theorem hd.tw14560493823538711346 : True := trivial
theorem hd.tw14569599914269954835 : True := trivial
theorem hd.tw14620637471214046174 : True := trivial
theorem hd.tw14667805832236412624 : True := trivial
theorem hd.tw14685462170515437407 : True := trivial
theorem hd.tw14705683404202351889 : True := trivial
theorem hd.tw14772383043592177042 : True := trivial
theorem hd.tw14852329139284432860 : True := trivial
theorem hd.tw14859038896228082724 : True := trivial
theorem hd.tw14892549342360969540 : True := trivial
theorem hd.tw14896477498954680388 : True := trivial
theorem hd.tw14906377314874228009 : True := trivial
theorem hd.tw14955159897011116063 : True := trivial
theorem hd.tw14960593345356199642 : True := trivial
theorem hd.tw14980023328507725902 : True := trivial
theorem hd.tw15042006015671813226 : True := trivial
theorem hd.tw15043168886218598503 : True := trivial
theorem hd.tw15048261121198461528 : True := trivial
theorem hd.tw1506431575118746342 : True := trivial
theorem hd.tw15083628210047938546 : True := trivial
theorem hd.tw15089522573102190283 : True := trivial
theorem hd.tw15103106377680225435 : True := trivial
theorem hd.tw15153279154761372571 : True := trivial
theorem hd.tw15166520500009309586 : True := trivial
theorem hd.tw15179676742415161110 : True := trivial
theorem hd.tw15207398651663016943 : True := trivial
theorem hd.tw15213948185873263833 : True := trivial
theorem hd.tw15220180469806662145 : True := trivial
theorem hd.tw15267262664429841522 : True := trivial
theorem hd.tw15279998641719260112 : True := trivial
theorem hd.tw15344866539931968096 : True := trivial
theorem hd.tw15367242080415987702 : True := trivial
theorem hd.tw15368132723985388332 : True := trivial
theorem hd.tw15416985209724490359 : True := trivial
theorem hd.tw15422856539912107476 : True := trivial
theorem hd.tw15508949281206285077 : True := trivial
theorem hd.tw15527848837575444561 : True := trivial
theorem hd.tw15529170255622000948 : True := trivial
theorem hd.tw15595854959937240912 : True := trivial
theorem hd.tw15615420239508185596 : True := trivial
theorem hd.tw15616948245753086127 : True := trivial
theorem hd.tw1563692795949630186 : True := trivial
theorem hd.tw15642763164714097627 : True := trivial
theorem hd.tw15675198926951892251 : True := trivial
theorem hd.tw15683763237869141255 : True := trivial
theorem hd.tw15759970867653108152 : True := trivial
theorem hd.tw15790720579355451973 : True := trivial
theorem hd.tw15833661619300960221 : True := trivial
theorem hd.tw15837987909243819085 : True := trivial
theorem hd.tw15852365999677673905 : True := trivial
theorem hd.tw1588505670450824345 : True := trivial
theorem hd.tw1589133516308662214 : True := trivial
theorem hd.tw15910714762333108613 : True := trivial
theorem hd.tw15946388913382835224 : True := trivial
theorem hd.tw15948780112781908787 : True := trivial
theorem hd.tw15967140613478806237 : True := trivial
theorem hd.tw15987713032478767096 : True := trivial
theorem hd.tw15992342658441690333 : True := trivial
theorem hd.tw1600037746751723098 : True := trivial
theorem hd.tw16006246977917349235 : True := trivial
theorem hd.tw16029623286316568529 : True := trivial
theorem hd.tw16037735763661986305 : True := trivial
theorem hd.tw16053994301053490033 : True := trivial
theorem hd.tw16056359734778111409 : True := trivial
theorem hd.tw16064382804478563927 : True := trivial
theorem hd.tw16154546982801380032 : True := trivial
theorem hd.tw16155205043701107222 : True := trivial
theorem hd.tw16171809288044610508 : True := trivial
theorem hd.tw16194383521188589630 : True := trivial
theorem hd.tw16211521421427940678 : True := trivial
theorem hd.tw16257038226119295666 : True := trivial
theorem hd.tw16259696140248634718 : True := trivial
theorem hd.tw162610821266807592 : True := trivial
theorem hd.tw16266765267341612309 : True := trivial
theorem hd.tw16299706092928115795 : True := trivial
theorem hd.tw16302227732802510677 : True := trivial
theorem hd.tw16332348944364537037 : True := trivial
theorem hd.tw16345102440705955213 : True := trivial
theorem hd.tw16357263729072622229 : True := trivial
theorem hd.tw16376525773666504680 : True := trivial
theorem hd.tw16412773359747925120 : True := trivial
theorem hd.tw16432713993328977331 : True := trivial
theorem hd.tw16456969618363192440 : True := trivial
theorem hd.tw16473244170626142550 : True := trivial
theorem hd.tw16502264421070913907 : True := trivial
theorem hd.tw16634568088961857937 : True := trivial
theorem hd.tw16640546478005224243 : True := trivial
theorem hd.tw16649331688326792143 : True := trivial
theorem hd.tw1666387254794493845 : True := trivial
theorem hd.tw16694946328126371552 : True := trivial
theorem hd.tw16713699803418581334 : True := trivial
theorem hd.tw16722109127936396110 : True := trivial
theorem hd.tw1673930711015175961 : True := trivial
theorem hd.tw16772102934027710169 : True := trivial
theorem hd.tw16794629799341752650 : True := trivial
theorem hd.tw16828841361933241965 : True := trivial
theorem hd.tw16853341256802265648 : True := trivial
theorem hd.tw16858285156579221889 : True := trivial
theorem hd.tw16868993833207775613 : True := trivial
theorem hd.tw16904818350239718627 : True := trivial
theorem hd.tw16919406825032445293 : True := trivial
theorem hd.tw16920754564084929960 : True := trivial
theorem hd.tw16922344198503927458 : True := trivial
theorem hd.tw16936856274547049314 : True := trivial
theorem hd.tw16945582573551092051 : True := trivial
theorem hd.tw16959320532776909470 : True := trivial
theorem hd.tw16970440968685349367 : True := trivial
theorem hd.tw1699103778626983548 : True := trivial
theorem hd.tw17001982702790524580 : True := trivial
theorem hd.tw17047115858639842297 : True := trivial
theorem hd.tw17062030032774818151 : True := trivial
theorem hd.tw17076082267592564974 : True := trivial
theorem hd.tw17087091549796120035 : True := trivial
theorem hd.tw1712922718373300912 : True := trivial
theorem hd.tw17130151131035750659 : True := trivial
theorem hd.tw17177331786930743035 : True := trivial
theorem hd.tw17183224562656869120 : True := trivial
theorem hd.tw17213754286329925777 : True := trivial
theorem hd.tw17230750143080123999 : True := trivial
theorem hd.tw17238950712881123350 : True := trivial
theorem hd.tw17239309540020616440 : True := trivial
theorem hd.tw17252143746492648416 : True := trivial
theorem hd.tw17258206423299326598 : True := trivial
theorem hd.tw17312999752573914782 : True := trivial
theorem hd.tw17325209927041812611 : True := trivial
theorem hd.tw17330132731328240911 : True := trivial
theorem hd.tw17330945745186091897 : True := trivial
theorem hd.tw17332286549532740043 : True := trivial
theorem hd.tw17336936450418997793 : True := trivial
theorem hd.tw17377529257436501650 : True := trivial
theorem hd.tw17387473266821786944 : True := trivial
theorem hd.tw17420951861521290806 : True := trivial
theorem hd.tw17429513623812275283 : True := trivial
theorem hd.tw17447410573909459338 : True := trivial
theorem hd.tw17484501187754107823 : True := trivial
theorem hd.tw17491280204586788870 : True := trivial
theorem hd.tw17491317419825422843 : True := trivial
theorem hd.tw17562767543260142214 : True := trivial
theorem hd.tw17574625026820762457 : True := trivial
theorem hd.tw17577478241444706838 : True := trivial
theorem hd.tw17599816209265215132 : True := trivial
theorem hd.tw1760603350576429475 : True := trivial
theorem hd.tw17606422857730326317 : True := trivial
theorem hd.tw17628472586750557451 : True := trivial
theorem hd.tw17650839729002327288 : True := trivial
theorem hd.tw17672654358674132775 : True := trivial
theorem hd.tw17673860158736603733 : True := trivial
theorem hd.tw17681399029576232318 : True := trivial
theorem hd.tw17695894125631835039 : True := trivial
theorem hd.tw17696971302532935780 : True := trivial
theorem hd.tw17711083657039698284 : True := trivial
theorem hd.tw17714235663813219645 : True := trivial
theorem hd.tw17739348878880393726 : True := trivial
theorem hd.tw1781861727890032366 : True := trivial
theorem hd.tw17843490464661113860 : True := trivial
theorem hd.tw17893044597097874663 : True := trivial
theorem hd.tw17895171251205151618 : True := trivial
theorem hd.tw17901334829092211166 : True := trivial
theorem hd.tw17902569758825723728 : True := trivial
theorem hd.tw17903497710992402801 : True := trivial
theorem hd.tw17919194246423945575 : True := trivial
theorem hd.tw17925215291927510665 : True := trivial
theorem hd.tw17948085552500728524 : True := trivial
theorem hd.tw17950676927832955104 : True := trivial
theorem hd.tw17975533764899295144 : True := trivial
theorem hd.tw17986969038992634876 : True := trivial
theorem hd.tw17989097746536338734 : True := trivial
theorem hd.tw1800889605409440832 : True := trivial
theorem hd.tw18084382956967824920 : True := trivial
theorem hd.tw18093812233618175256 : True := trivial
theorem hd.tw18103420901670897651 : True := trivial
theorem hd.tw18163647496604598072 : True := trivial
theorem hd.tw18166333605607142505 : True := trivial
theorem hd.tw18176940659606848779 : True := trivial
theorem hd.tw18185175575083235020 : True := trivial
theorem hd.tw18219297243305740317 : True := trivial
theorem hd.tw18241275227582772068 : True := trivial
theorem hd.tw18291419657060728153 : True := trivial
theorem hd.tw18293732401869909652 : True := trivial
theorem hd.tw18293851220164018083 : True := trivial
theorem hd.tw18300207936620678264 : True := trivial
theorem hd.tw18322514126500204803 : True := trivial
theorem hd.tw18343703819029505601 : True := trivial
theorem hd.tw1836080755315867724 : True := trivial
theorem hd.tw18438098558361616911 : True := trivial
theorem hd.tw1847840615245081061 : True := trivial
theorem hd.tw1848646778235469078 : True := trivial
theorem hd.tw185848376630758926 : True := trivial
theorem hd.tw189712035060473897 : True := trivial
theorem hd.tw190519026028168232 : True := trivial
theorem hd.tw1954109241102656831 : True := trivial
theorem hd.tw1997569388931296116 : True := trivial
theorem hd.tw2000490053193787569 : True := trivial
theorem hd.tw2027170810949906035 : True := trivial
theorem hd.tw2051048951616859547 : True := trivial
theorem hd.tw2068664650715991707 : True := trivial
theorem hd.tw2101469004524951375 : True := trivial
theorem hd.tw2114630138375439770 : True := trivial
theorem hd.tw212345690472687942 : True := trivial
theorem hd.tw2134215046882385847 : True := trivial
theorem hd.tw2161074415491429590 : True := trivial
theorem hd.tw2167537188350426706 : True := trivial
theorem hd.tw2176489550163708957 : True := trivial
theorem hd.tw2199584428180367758 : True := trivial
theorem hd.tw2216850387143573719 : True := trivial
theorem hd.tw2252305205657439004 : True := trivial
theorem hd.tw22551697357593593 : True := trivial
theorem hd.tw2274498078352570744 : True := trivial
theorem hd.tw2284436838669742495 : True := trivial
theorem hd.tw2295870552580634182 : True := trivial
theorem hd.tw2304311442786299043 : True := trivial
theorem hd.tw2315301623876862497 : True := trivial
theorem hd.tw2329189449893159454 : True := trivial
theorem hd.tw2372203768776136332 : True := trivial
theorem hd.tw2386827423013361158 : True := trivial
theorem hd.tw2391449824757734642 : True := trivial
theorem hd.tw2400206964158358034 : True := trivial
theorem hd.tw243823211424636713 : True := trivial
theorem hd.tw2442259710966052079 : True := trivial
theorem hd.tw2448417245163862455 : True := trivial
theorem hd.tw2457190517430149469 : True := trivial
theorem hd.tw2480057099694739299 : True := trivial
theorem hd.tw2502866573005156581 : True := trivial
theorem hd.tw250903467453971090 : True := trivial
theorem hd.tw257007361410690125 : True := trivial
theorem hd.tw2603259988358896889 : True := trivial
theorem hd.tw2608437505485318709 : True := trivial
theorem hd.tw2708950531961675432 : True := trivial
theorem hd.tw2781682124601125471 : True := trivial
theorem hd.tw2783992281797965187 : True := trivial
theorem hd.tw2788664435532181463 : True := trivial
theorem hd.tw280609765759037681 : True := trivial
theorem hd.tw2845679848157327705 : True := trivial
theorem hd.tw2855845756224970109 : True := trivial
theorem hd.tw2887051446865420828 : True := trivial
theorem hd.tw2898070501236239869 : True := trivial
theorem hd.tw2930668341846507884 : True := trivial
theorem hd.tw2955605003016680478 : True := trivial
theorem hd.tw3008623586974134963 : True := trivial
theorem hd.tw3039998526598829958 : True := trivial
theorem hd.tw3047274911554671679 : True := trivial
theorem hd.tw3085183777334472315 : True := trivial
theorem hd.tw3109861748172591687 : True := trivial
theorem hd.tw3182187488490625086 : True := trivial
theorem hd.tw3196399650302076718 : True := trivial
theorem hd.tw3219085151875037572 : True := trivial
theorem hd.tw3229955645248102723 : True := trivial
theorem hd.tw3259873300814134281 : True := trivial
theorem hd.tw3309697970292668127 : True := trivial
theorem hd.tw3350930974749635488 : True := trivial
theorem hd.tw3383556878581593091 : True := trivial
theorem hd.tw3404104791013757517 : True := trivial
theorem hd.tw3415780608434026743 : True := trivial
theorem hd.tw3429492842335990350 : True := trivial
theorem hd.tw3434918251397683217 : True := trivial
theorem hd.tw3443669649825651883 : True := trivial
theorem hd.tw3451239065008710300 : True := trivial
theorem hd.tw3452870863015275354 : True := trivial
theorem hd.tw3480954088277226078 : True := trivial
theorem hd.tw3493717111155160527 : True := trivial
theorem hd.tw3510980238559043118 : True := trivial
theorem hd.tw3512582945414635055 : True := trivial
theorem hd.tw3530705653197291679 : True := trivial
theorem hd.tw3571134770919094901 : True := trivial
theorem hd.tw3641398702317700610 : True := trivial
theorem hd.tw3646829019195819677 : True := trivial
theorem hd.tw3673020696563887462 : True := trivial
theorem hd.tw3694398316872202419 : True := trivial
theorem hd.tw3704167492566942397 : True := trivial
theorem hd.tw3759623122121258479 : True := trivial
theorem hd.tw378796410717407128 : True := trivial
theorem hd.tw3789350110615891812 : True := trivial
theorem hd.tw3795277891434052102 : True := trivial
theorem hd.tw3828038474966422129 : True := trivial
theorem hd.tw3919010098100093602 : True := trivial
theorem hd.tw3941438180925939637 : True := trivial
theorem hd.tw395138700845864316 : True := trivial
theorem hd.tw3953601041324332601 : True := trivial
theorem hd.tw4014540891139286612 : True := trivial
theorem hd.tw4015398097383911347 : True := trivial
theorem hd.tw4021928978595405253 : True := trivial
theorem hd.tw402640490398009360 : True := trivial
theorem hd.tw4065347644161347641 : True := trivial
theorem hd.tw4068527845204499245 : True := trivial
theorem hd.tw4111692666942324129 : True := trivial
theorem hd.tw4115565904173853331 : True := trivial
theorem hd.tw4138081844389336918 : True := trivial
theorem hd.tw4159134105002834734 : True := trivial
theorem hd.tw4172343393113369950 : True := trivial
theorem hd.tw4182648748547736412 : True := trivial
theorem hd.tw4225703048834024713 : True := trivial
theorem hd.tw4272726840584523970 : True := trivial
theorem hd.tw4282304852377368616 : True := trivial
theorem hd.tw4292457097857839397 : True := trivial
theorem hd.tw4297731678662094536 : True := trivial
theorem hd.tw4315991029959535628 : True := trivial
theorem hd.tw432457690288141553 : True := trivial
theorem hd.tw4360684699965382250 : True := trivial
theorem hd.tw4367231431732253908 : True := trivial
theorem hd.tw4377701919642642989 : True := trivial
theorem hd.tw4383666589626881386 : True := trivial
theorem hd.tw4402725079659364252 : True := trivial
theorem hd.tw4449123307109862055 : True := trivial
theorem hd.tw4478177076189095293 : True := trivial
theorem hd.tw4494801613693538912 : True := trivial
theorem hd.tw4523669819894539328 : True := trivial
theorem hd.tw461538923250603899 : True := trivial
theorem hd.tw4638619862557768729 : True := trivial
theorem hd.tw4642405928176397000 : True := trivial
theorem hd.tw4643362625855044894 : True := trivial
theorem hd.tw4654797750381630734 : True := trivial
theorem hd.tw4702841417184801058 : True := trivial
theorem hd.tw4706079058837389440 : True := trivial
theorem hd.tw4788038989552484473 : True := trivial
theorem hd.tw4816591812421909578 : True := trivial
theorem hd.tw4851647983119433812 : True := trivial
theorem hd.tw4870687313549177768 : True := trivial
theorem hd.tw4877497464389501135 : True := trivial
theorem hd.tw4990156530697904881 : True := trivial
theorem hd.tw4993660671451451078 : True := trivial
theorem hd.tw5001160737161284680 : True := trivial
theorem hd.tw5009564483982726761 : True := trivial
theorem hd.tw5036846961687405229 : True := trivial
theorem hd.tw5054737718236178183 : True := trivial
theorem hd.tw5129540485172723726 : True := trivial
theorem hd.tw5130813555471234732 : True := trivial
theorem hd.tw5148922909946612681 : True := trivial
theorem hd.tw5149956267321005627 : True := trivial
theorem hd.tw5174551420813472067 : True := trivial
theorem hd.tw5190246844813560578 : True := trivial
theorem hd.tw519851828213033955 : True := trivial
theorem hd.tw5238241317806426387 : True := trivial
theorem hd.tw5245234834050458271 : True := trivial
theorem hd.tw5247051413645994129 : True := trivial
theorem hd.tw5278057926702712004 : True := trivial
theorem hd.tw5282504435634884242 : True := trivial
theorem hd.tw5283464899586487735 : True := trivial
theorem hd.tw5348722895839320484 : True := trivial
theorem hd.tw5363116716869082496 : True := trivial
theorem hd.tw5363564295841288755 : True := trivial
theorem hd.tw5366084841770067474 : True := trivial
theorem hd.tw5373601922739893978 : True := trivial
theorem hd.tw5388632664720090651 : True := trivial
theorem hd.tw541196102884509978 : True := trivial
theorem hd.tw5416991563250132298 : True := trivial
theorem hd.tw5480042469492414594 : True := trivial
theorem hd.tw5505005885091257285 : True := trivial
theorem hd.tw5511420028821071320 : True := trivial
theorem hd.tw5513025101015932971 : True := trivial
theorem hd.tw5549315172176941698 : True := trivial
theorem hd.tw5567388512258382067 : True := trivial
theorem hd.tw5592360268479517082 : True := trivial
theorem hd.tw5608270528595127837 : True := trivial
theorem hd.tw5629675986466331604 : True := trivial
theorem hd.tw5635641802508607975 : True := trivial
theorem hd.tw5657824000916062451 : True := trivial
theorem hd.tw5715356086224469760 : True := trivial
theorem hd.tw5902613922787404954 : True := trivial
theorem hd.tw5961118342813265553 : True := trivial
theorem hd.tw5976792059365374437 : True := trivial
theorem hd.tw5978321128707920903 : True := trivial
theorem hd.tw5987830557187376847 : True := trivial
theorem hd.tw6012861574644467004 : True := trivial
theorem hd.tw6019021122589006684 : True := trivial
theorem hd.tw6060742912462422084 : True := trivial
theorem hd.tw6082411064634330575 : True := trivial
theorem hd.tw6123773746684550334 : True := trivial
theorem hd.tw6136932545381038964 : True := trivial
theorem hd.tw6140570298594658328 : True := trivial
theorem hd.tw6164396464334811476 : True := trivial
theorem hd.tw6184208073178115725 : True := trivial
theorem hd.tw6184460063843016694 : True := trivial
theorem hd.tw6186238094035137676 : True := trivial
theorem hd.tw6196171512934965099 : True := trivial
theorem hd.tw6245462706441815368 : True := trivial
theorem hd.tw6264232113106981867 : True := trivial
theorem hd.tw6276725880618359904 : True := trivial
theorem hd.tw6291416237084387574 : True := trivial
theorem hd.tw6305734824756694309 : True := trivial
theorem hd.tw6308581086252854402 : True := trivial
theorem hd.tw6320253292602491972 : True := trivial
theorem hd.tw6394381022753523788 : True := trivial
theorem hd.tw6407587892757256292 : True := trivial
theorem hd.tw6411954120941647267 : True := trivial
theorem hd.tw6438293893037913957 : True := trivial
theorem hd.tw6449127861642672459 : True := trivial
theorem hd.tw646085421988531314 : True := trivial
theorem hd.tw6469175993241445255 : True := trivial
theorem hd.tw6482722132109649516 : True := trivial
theorem hd.tw6492395905823917156 : True := trivial
theorem hd.tw6545403380812914513 : True := trivial
theorem hd.tw6578402527460240241 : True := trivial
theorem hd.tw6617666114400451534 : True := trivial
theorem hd.tw6663896369628448293 : True := trivial
theorem hd.tw6683769817339685419 : True := trivial
theorem hd.tw6720100405149421450 : True := trivial
theorem hd.tw6759412095888398321 : True := trivial
theorem hd.tw6767318904944593275 : True := trivial
theorem hd.tw6785817131721698500 : True := trivial
theorem hd.tw678751956320672890 : True := trivial
theorem hd.tw6820112392323778065 : True := trivial
theorem hd.tw6820862383352777685 : True := trivial
theorem hd.tw6830512106363814048 : True := trivial
theorem hd.tw6838551448383532254 : True := trivial
theorem hd.tw6906073325868019850 : True := trivial
theorem hd.tw6924109203229866365 : True := trivial
theorem hd.tw6931407450589930559 : True := trivial
theorem hd.tw6965799899956892507 : True := trivial
theorem hd.tw697623264460660564 : True := trivial
theorem hd.tw6990203504111849199 : True := trivial
theorem hd.tw6998783941825042932 : True := trivial
theorem hd.tw701787995468756871 : True := trivial
theorem hd.tw7023726343779634624 : True := trivial
theorem hd.tw7027693238206520802 : True := trivial
theorem hd.tw7028611270464810887 : True := trivial
theorem hd.tw7068711184596962023 : True := trivial
theorem hd.tw7082855905992002993 : True := trivial
theorem hd.tw7085514621470718492 : True := trivial
theorem hd.tw7120233287515763914 : True := trivial
theorem hd.tw7152984921513172624 : True := trivial
theorem hd.tw7153062008950511462 : True := trivial
theorem hd.tw7160230888196847802 : True := trivial
theorem hd.tw7195054533507998468 : True := trivial
theorem hd.tw7270182246851987180 : True := trivial
theorem hd.tw728884934406724761 : True := trivial
theorem hd.tw7289634563603522867 : True := trivial
theorem hd.tw7292484366425897655 : True := trivial
theorem hd.tw7296583596125217682 : True := trivial
theorem hd.tw7296651951206262968 : True := trivial
theorem hd.tw732345407407602841 : True := trivial
theorem hd.tw7354087734392854552 : True := trivial
theorem hd.tw7355570028127101125 : True := trivial
theorem hd.tw7366208706002141716 : True := trivial
theorem hd.tw7369741819223213686 : True := trivial
theorem hd.tw7379015992945566340 : True := trivial
theorem hd.tw7451428367024993598 : True := trivial
theorem hd.tw7492773218913965947 : True := trivial
theorem hd.tw7494724483528729301 : True := trivial
theorem hd.tw7510230149288206974 : True := trivial
theorem hd.tw7512474625130614241 : True := trivial
theorem hd.tw7519716089354478335 : True := trivial
theorem hd.tw7523672394736509286 : True := trivial
theorem hd.tw7525542149764818722 : True := trivial
theorem hd.tw7526368328331116154 : True := trivial
theorem hd.tw7534799579077118603 : True := trivial
theorem hd.tw7540655947842036084 : True := trivial
theorem hd.tw7540741092611519060 : True := trivial
theorem hd.tw7578210074245671484 : True := trivial
theorem hd.tw758273949599710562 : True := trivial
theorem hd.tw7598622570094877466 : True := trivial
theorem hd.tw7610815399733428385 : True := trivial
theorem hd.tw7628703163842673926 : True := trivial
theorem hd.tw7676003278276379012 : True := trivial
theorem hd.tw7721951785955056133 : True := trivial
theorem hd.tw7746578258024575070 : True := trivial
theorem hd.tw7752767780024739350 : True := trivial
theorem hd.tw7754304195085646258 : True := trivial
theorem hd.tw7762615721169606023 : True := trivial
theorem hd.tw7793673504863384051 : True := trivial
theorem hd.tw7854228177987924090 : True := trivial
theorem hd.tw7880807054014371918 : True := trivial
theorem hd.tw7891253978561527248 : True := trivial
theorem hd.tw7914949630228597729 : True := trivial
theorem hd.tw7927469264209771579 : True := trivial
theorem hd.tw8001178428526945343 : True := trivial
theorem hd.tw8004679753235328684 : True := trivial
theorem hd.tw8015326511298524721 : True := trivial
theorem hd.tw8025032847418708242 : True := trivial
theorem hd.tw8047900516022102942 : True := trivial
theorem hd.tw8068729725432388964 : True := trivial
theorem hd.tw8112040973832200146 : True := trivial
theorem hd.tw8117029840178788049 : True := trivial
theorem hd.tw8134915037123179040 : True := trivial
theorem hd.tw8191903926673212241 : True := trivial
theorem hd.tw8228950375871286339 : True := trivial
theorem hd.tw8242931771332617035 : True := trivial
theorem hd.tw8268277133935991078 : True := trivial
theorem hd.tw8273930003744585626 : True := trivial
theorem hd.tw8317466277049474617 : True := trivial
theorem hd.tw8343274005884668182 : True := trivial
theorem hd.tw8351282476255451920 : True := trivial
theorem hd.tw8416633103373805312 : True := trivial
theorem hd.tw8428860471423672150 : True := trivial
theorem hd.tw8457440626546761165 : True := trivial
theorem hd.tw8479784124755550697 : True := trivial
theorem hd.tw8516288146210602744 : True := trivial
theorem hd.tw8530313416858939550 : True := trivial
theorem hd.tw8538877666451538035 : True := trivial
theorem hd.tw8545014587354053640 : True := trivial
theorem hd.tw8587404781116728655 : True := trivial
theorem hd.tw8609351116199087170 : True := trivial
theorem hd.tw8652628183442184457 : True := trivial
theorem hd.tw8668723539883848799 : True := trivial
theorem hd.tw8671608845466749128 : True := trivial
theorem hd.tw8683856772340465682 : True := trivial
theorem hd.tw8684328023851190084 : True := trivial
theorem hd.tw8716120427605611371 : True := trivial
theorem hd.tw8727321023445011275 : True := trivial
theorem hd.tw8735263284916673568 : True := trivial
theorem hd.tw876696051765687494 : True := trivial
theorem hd.tw876933089483189297 : True := trivial
theorem hd.tw8770205317985620760 : True := trivial
theorem hd.tw8801323125487838256 : True := trivial
theorem hd.tw881544763273948857 : True := trivial
theorem hd.tw8879563391730754479 : True := trivial
theorem hd.tw8934143017859847078 : True := trivial
theorem hd.tw8959176491354863721 : True := trivial
theorem hd.tw8960069828448710407 : True := trivial
theorem hd.tw8965841893048198262 : True := trivial
theorem hd.tw8977307856219701671 : True := trivial
theorem hd.tw8990313861142287110 : True := trivial
theorem hd.tw9077708301081682751 : True := trivial
theorem hd.tw9124265346937455464 : True := trivial
theorem hd.tw9131607905817354932 : True := trivial
theorem hd.tw9132557439983319658 : True := trivial
theorem hd.tw9135094705627611597 : True := trivial
theorem hd.tw9153386212771759811 : True := trivial
theorem hd.tw9155422001095189878 : True := trivial
theorem hd.tw9170477692918782315 : True := trivial
theorem hd.tw9184186324627900627 : True := trivial
theorem hd.tw920214292312260371 : True := trivial
theorem hd.tw921402611603131450 : True := trivial
theorem hd.tw9228397985900620932 : True := trivial
theorem hd.tw9271970288684553227 : True := trivial
theorem hd.tw9277588360372424766 : True := trivial
theorem hd.tw9298403506768410418 : True := trivial
theorem hd.tw9325612240067072397 : True := trivial
theorem hd.tw9330943631129107780 : True := trivial
theorem hd.tw9345676750909349944 : True := trivial
theorem hd.tw9345929723534960622 : True := trivial
theorem hd.tw9378550001415264710 : True := trivial
theorem hd.tw9386895884608548742 : True := trivial
theorem hd.tw9398405308114057262 : True := trivial
theorem hd.tw940197309796970549 : True := trivial
theorem hd.tw9406673726873002282 : True := trivial
theorem hd.tw9427301549700849589 : True := trivial
theorem hd.tw9430268157657104642 : True := trivial
theorem hd.tw9459050058782445324 : True := trivial
theorem hd.tw9496365245306024149 : True := trivial
theorem hd.tw9499510787657705874 : True := trivial
theorem hd.tw9507622343938183044 : True := trivial
theorem hd.tw9533747618267967006 : True := trivial
theorem hd.tw9555612238305686254 : True := trivial
theorem hd.tw9577689765879766989 : True := trivial
theorem hd.tw9584524481848810436 : True := trivial
theorem hd.tw9627352822768427035 : True := trivial
theorem hd.tw9641152695372364146 : True := trivial
theorem hd.tw9657781627882305391 : True := trivial
theorem hd.tw9673543361469618366 : True := trivial
theorem hd.tw9702936160620672325 : True := trivial
theorem hd.tw9719896912496429819 : True := trivial
theorem hd.tw9731375825926819010 : True := trivial
theorem hd.tw9748044761591592747 : True := trivial
theorem hd.tw9763420282994701918 : True := trivial
theorem hd.tw9767066376272134970 : True := trivial
theorem hd.tw9908193460736022307 : True := trivial
theorem hd.tw991583007596301734 : True := trivial
theorem hd.tw9960721518486171458 : True := trivial
theorem hd.tw9983995961361265002 : True := trivial
end Mine
open PySem PySem.W PyProof.Rows PySem.Calls
set_option maxRecDepth 100000
set_option maxHeartbeats 8000000
namespace Mine
set_option Elab.async true
theorem hd : PySem.Challenge.rw_be0021_01.Holds := by
  w_on
  o_law
  o_head (kHook KK kkAs (fun _ => by kernel_rfl))
  (case hw => w_witness2)
  w_strict (k_go0; exact law_head (by assumption) (by assumption) (by assumption) (by assumption) (by omega) (by assumption) (by assumption) rfl (raisesW_false (by wrow_none_raised)) (by wrow_post))
end Mine
theorem PySem.Challenge.cw_be0021_01_holds : PySem.Challenge.rw_be0021_01.Holds :=
  Mine.hd
