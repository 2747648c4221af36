import PyProof.Rows.All
import Wide.All
import OpenK.AllK
import Wide.FinOn
import PySem.Challenge.RW_ny0408_02
set_option Elab.async false
set_option linter.all false
open PySem PySem.W PyProof.Rows
namespace Mine
section
theorem sub_cons {α : Type} {a : α} {r l : List α} (h : a ∈ l) (hr : ∀ p ∈ r, p ∈ l) : ∀ p ∈ a :: r, p ∈ l := fun p hp => (List.mem_cons.mp hp).elim (fun e => e ▸ h) (hr p)
theorem sub_drop {α : Type} {a : α} {r l : List α} (hr : ∀ p ∈ r, p ∈ l) : ∀ p ∈ r, p ∈ a :: l := fun p hp => .tail _ (hr p hp)
theorem ne_cons {d : Addr} {q : Addr × Obj} {r : List (Addr × Obj)} (h : q.1 ≠ d) (hr : ∀ p ∈ r, p.1 ≠ d) : ∀ p ∈ q :: r, p.1 ≠ d := fun p hp => (List.mem_cons.mp hp).elim (fun e => e ▸ h) (hr p)
theorem al_cons {x d : Addr} {r : List Addr} (h : x ≠ d) (hr : ∀ z ∈ r, x ≠ z) : ∀ z ∈ d :: r, x ≠ z := fun z hz => (List.mem_cons.mp hz).elim (fun e => e ▸ h) (hr z)
theorem of_cons {α : Type} {P : α → Prop} {a : α} {r : List α} (h : P a) (hr : ∀ p ∈ r, P p) : ∀ p ∈ a :: r, P p := fun p hp => (List.mem_cons.mp hp).elim (fun e => e ▸ h) (hr p)
theorem of_nil {α : Type} {P : α → Prop} : ∀ p ∈ ([] : List α), P p := fun _ h => absurd h List.not_mem_nil
theorem al_nil {x : Addr} : ∀ z ∈ ([] : List Addr), x ≠ z := fun _ hz => absurd hz List.not_mem_nil
theorem nin1 {b I : Addr} (h : b ≠ I) : b ∉ [I] := fun hm => h (List.mem_singleton.mp hm)
end
section
set_option maxRecDepth 100000
set_option maxHeartbeats 8000000
set_option linter.unusedVariables false
noncomputable def nth : List Stmt → Nat → Stmt
  | [], _ => .Pass default
  | a :: _, 0 => a
  | _ :: r, n + 1 => nth r n
noncomputable def inClass : Stmt → List Stmt
  | .ClassDef (body := b) .. => b
  | _ => []
noncomputable abbrev body : List Stmt := PySem.Challenge.pw_ny0408_02.main.body
noncomputable abbrev fnO {st : Stmt} (n : Str) (ps : Arguments) (b : List Stmt) (dl : List Expr) {rt} {tp} (sc : Scope) {dc} (ql : Str) (po : Pos) (qn : Str) (dV pm : Value) (cd : Addr) (_ : st = Stmt.FunctionDef n ps b dl rt tp sc dc ql po) : Obj :=
  { cls := .type "function", data := .func { name := n, qualname := qn, params := ps, body := .stmts b, scope := sc, globals := 3, closure := [], defaults := dV, kwdefaults := .none, pyModule := pm, code := .ref cd } }
noncomputable def laidKey (s : String) : Str := ⟨PySem.Builtin.chainKey.cps.extract 0 7 ++ (Str.ofString s).cps⟩
noncomputable def watchKey : Str := ⟨(Str.ofString "watched.").cps ++ PySem.Builtin.chainKey.cps.extract 0 6⟩
noncomputable abbrev k2 (PPP : Params) : Obj := { cls := Value.none, data := Data.dict #[{ hash := PyData.keyHash PPP (laidKey "loaded._sre"), key := Value.str (laidKey "loaded._sre") 183, val := Value.bool true }, { hash := PyData.keyHash PPP (Str.ofString "class._frozen_importlib.BuiltinImporter"), key := Value.str (Str.ofString "class._frozen_importlib.BuiltinImporter") 185, val := Value.ref 14 }, { hash := PyData.keyHash PPP (watchKey), key := Value.str (watchKey) 206, val := Value.ref 18 }, { hash := PyData.keyHash PPP (Str.ofString "class._frozen_importlib.ModuleSpec"), key := Value.str (Str.ofString "class._frozen_importlib.ModuleSpec") 216, val := Value.ref 22 }, { hash := PyData.keyHash PPP (Str.ofString "sys.modules.booked-epoch"), key := Value.str (Str.ofString "sys.modules.booked-epoch") 245, val := Value.int 4 0 }, { hash := PyData.keyHash PPP (laidKey "later-laid._sre"), key := Value.str (laidKey "later-laid._sre") 270, val := Value.bool true }, { hash := PyData.keyHash PPP (Str.ofString "watched.library"), key := Value.str (Str.ofString "watched.library") 272, val := Value.ref 27 }, { hash := PyData.keyHash PPP (Str.ofString "watched.library-objects"), key := Value.str (Str.ofString "watched.library-objects") 0, val := Value.str (Str.ofString "\x0c\x1e") 0 }, { hash := PyData.keyHash PPP (Str.ofString "watched.library-deep._sre"), key := Value.str (Str.ofString "watched.library-deep._sre") 273, val := Value.str (Str.ofString "\x04\x00\x00\x0b\x04\x00\x00\x0b\x04\x00\x00\x03\x04\x00\x00\x0b\x08\x04dict\x02") 0 }, { hash := PyData.keyHash PPP (laidKey "loaded._collections"), key := Value.str (laidKey "loaded._collections") 280, val := Value.bool true }, { hash := PyData.keyHash PPP (Str.ofString "sys.modules.landed._collections"), key := Value.str (Str.ofString "sys.modules.landed._collections") 294, val := Value.bool true }, { hash := PyData.keyHash PPP (laidKey "later-laid._collections"), key := Value.str (laidKey "later-laid._collections") 309, val := Value.bool true }, { hash := PyData.keyHash PPP (Str.ofString "watched.library-deep._collections"), key := Value.str (Str.ofString "watched.library-deep._collections") 311, val := Value.str (Str.ofString "\x04\x00\x00\x1d\x04\x00\x00\x1d\x04\x00\x00\x03\x04\x00\x00\x1d\x08\x04dict\x02") 0 }, { hash := PyData.keyHash PPP (Str.ofString "type.__subclasses__.OSError.0"), key := Value.str (Str.ofString "type.__subclasses__.OSError.0") 443, val := Value.int 87 0 }, { hash := PyData.keyHash PPP (Str.ofString "type.__subclasses__.OSError.n"), key := Value.str (Str.ofString "type.__subclasses__.OSError.n") 444, val := Value.int 1 0 }] 15 }
noncomputable abbrev k3 (PPP : Params) : Obj := { cls := Value.type "dict", data := Data.dict #[{ hash := PyData.keyHash PPP (Str.ofString "__name__"), key := Value.str (Str.ofString "__name__") 165, val := Value.str (Str.ofString "law_ny0408_02") 1376 }, { hash := PyData.keyHash PPP (Str.ofString "__doc__"), key := Value.str (Str.ofString "__doc__") 166, val := Value.none }, { hash := PyData.keyHash PPP (Str.ofString "__package__"), key := Value.str (Str.ofString "__package__") 167, val := Value.none }, { hash := PyData.keyHash PPP (Str.ofString "__loader__"), key := Value.str (Str.ofString "__loader__") 168, val := Value.builtin "__main__.__loader__#opaque" }, { hash := PyData.keyHash PPP (Str.ofString "__spec__"), key := Value.str (Str.ofString "__spec__") 169, val := Value.none }, { hash := PyData.keyHash PPP (Str.ofString "__annotations__"), key := Value.str (Str.ofString "__annotations__") 170, val := Value.ref 6 }, { hash := PyData.keyHash PPP (Str.ofString "__builtins__"), key := Value.str (Str.ofString "__builtins__") 171, val := Value.ref 4 }, { hash := PyData.keyHash PPP (Str.ofString "__file__"), key := Value.str (Str.ofString "__file__") 173, val := Value.str (Str.ofString "/claim/cut.py") 172 }, { hash := PyData.keyHash PPP (Str.ofString "__cached__"), key := Value.str (Str.ofString "__cached__") 174, val := Value.none }, { hash := PyData.keyHash PPP (Str.ofString "_sre"), key := Value.str (Str.ofString "_sre") 275, val := Value.ref 12 }, { hash := PyData.keyHash PPP (Str.ofString "deque"), key := Value.str (Str.ofString "deque") 317, val := Value.type "collections.deque" }, { hash := PyData.keyHash PPP (Str.ofString "_wall"), key := Value.str (Str.ofString "_wall") 330, val := Value.ref 44 }, { hash := PyData.keyHash PPP (Str.ofString "_MAX_STRING_SIZE"), key := Value.str (Str.ofString "_MAX_STRING_SIZE") 334, val := Value.int 40 333 }, { hash := PyData.keyHash PPP (Str.ofString "_MOVE_COST"), key := Value.str (Str.ofString "_MOVE_COST") 336, val := Value.int 2 335 }, { hash := PyData.keyHash PPP (Str.ofString "_CASE_COST"), key := Value.str (Str.ofString "_CASE_COST") 338, val := Value.int 1 337 }, { hash := PyData.keyHash PPP (Str.ofString "_substitution_cost"), key := Value.str (Str.ofString "_substitution_cost") 346, val := Value.ref 51 }, { hash := PyData.keyHash PPP (Str.ofString "_levenshtein_distance"), key := Value.str (Str.ofString "_levenshtein_distance") 366, val := Value.ref 58 }, { hash := PyData.keyHash PPP (Str.ofString "_twin_re_1"), key := Value.str (Str.ofString "_twin_re_1") 406, val := Value.ref 63 }, { hash := PyData.keyHash PPP (Str.ofString "_whence"), key := Value.str (Str.ofString "_whence") 416, val := Value.ref 70 }, { hash := PyData.keyHash PPP (Str.ofString "_index"), key := Value.str (Str.ofString "_index") 424, val := Value.ref 77 }, { hash := PyData.keyHash PPP (Str.ofString "UnsupportedOperation"), key := Value.str (Str.ofString "UnsupportedOperation") 446, val := Value.ref 87 }, { hash := PyData.keyHash PPP (Str.ofString "IOBase"), key := Value.str (Str.ofString "IOBase") 478, val := Value.ref 107 }, { hash := PyData.keyHash PPP (Str.ofString "BufferedIOBase"), key := Value.str (Str.ofString "BufferedIOBase") 496, val := Value.ref 122 }, { hash := PyData.keyHash PPP (Str.ofString "TextIOBase"), key := Value.str (Str.ofString "TextIOBase") 514, val := Value.ref 134 }, { hash := PyData.keyHash PPP (Str.ofString "BytesIO"), key := Value.str (Str.ofString "BytesIO") 776, val := Value.ref 364 }, { hash := PyData.keyHash PPP (Str.ofString "StringIO"), key := Value.str (Str.ofString "StringIO") 1063, val := Value.ref 611 }, { hash := PyData.keyHash PPP (Str.ofString "_kind"), key := Value.str (Str.ofString "_kind") 1074, val := Value.ref 620 }, { hash := PyData.keyHash PPP (Str.ofString "_fspath"), key := Value.str (Str.ofString "_fspath") 1083, val := Value.ref 627 }, { hash := PyData.keyHash PPP (Str.ofString "_check_arg_types"), key := Value.str (Str.ofString "_check_arg_types") 1093, val := Value.ref 634 }, { hash := PyData.keyHash PPP (Str.ofString "isabs"), key := Value.str (Str.ofString "isabs") 1100, val := Value.ref 641 }, { hash := PyData.keyHash PPP (Str.ofString "join"), key := Value.str (Str.ofString "join") 1111, val := Value.ref 765 }, { hash := PyData.keyHash PPP (Str.ofString "join_path"), key := Value.str (Str.ofString "join_path") 1112, val := Value.ref 648 }, { hash := PyData.keyHash PPP (Str.ofString "dirname"), key := Value.str (Str.ofString "dirname") 1122, val := Value.ref 655 }, { hash := PyData.keyHash PPP (Str.ofString "shlex"), key := Value.str (Str.ofString "shlex") 1263, val := Value.ref 746 }, { hash := PyData.keyHash PPP (Str.ofString "split"), key := Value.str (Str.ofString "split") 1273, val := Value.ref 758 }, { hash := PyData.keyHash PPP (Str.ofString "join_shlex"), key := Value.str (Str.ofString "join_shlex") 1281, val := Value.ref 765 }, { hash := PyData.keyHash PPP (Str.ofString "_find_unsafe"), key := Value.str (Str.ofString "_find_unsafe") 1283, val := Value.ref 766 }, { hash := PyData.keyHash PPP (Str.ofString "quote"), key := Value.str (Str.ofString "quote") 1290, val := Value.ref 773 }, { hash := PyData.keyHash PPP (Str.ofString "S_IFMT"), key := Value.str (Str.ofString "S_IFMT") 1299, val := Value.ref 780 }, { hash := PyData.keyHash PPP (Str.ofString "S_IFDIR"), key := Value.str (Str.ofString "S_IFDIR") 1301, val := Value.int 16384 1300 }, { hash := PyData.keyHash PPP (Str.ofString "S_IFCHR"), key := Value.str (Str.ofString "S_IFCHR") 1303, val := Value.int 8192 1302 }, { hash := PyData.keyHash PPP (Str.ofString "S_IFBLK"), key := Value.str (Str.ofString "S_IFBLK") 1305, val := Value.int 24576 1304 }, { hash := PyData.keyHash PPP (Str.ofString "S_IFREG"), key := Value.str (Str.ofString "S_IFREG") 1307, val := Value.int 32768 1306 }, { hash := PyData.keyHash PPP (Str.ofString "S_IFIFO"), key := Value.str (Str.ofString "S_IFIFO") 1309, val := Value.int 4096 1308 }, { hash := PyData.keyHash PPP (Str.ofString "S_IFLNK"), key := Value.str (Str.ofString "S_IFLNK") 1311, val := Value.int 40960 1310 }, { hash := PyData.keyHash PPP (Str.ofString "S_IFSOCK"), key := Value.str (Str.ofString "S_IFSOCK") 1313, val := Value.int 49152 1312 }, { hash := PyData.keyHash PPP (Str.ofString "S_ISUID"), key := Value.str (Str.ofString "S_ISUID") 1315, val := Value.int 2048 1314 }, { hash := PyData.keyHash PPP (Str.ofString "S_ISGID"), key := Value.str (Str.ofString "S_ISGID") 1317, val := Value.int 1024 1316 }, { hash := PyData.keyHash PPP (Str.ofString "S_ISVTX"), key := Value.str (Str.ofString "S_ISVTX") 1319, val := Value.int 512 1318 }, { hash := PyData.keyHash PPP (Str.ofString "S_IRUSR"), key := Value.str (Str.ofString "S_IRUSR") 1321, val := Value.int 256 1320 }, { hash := PyData.keyHash PPP (Str.ofString "S_IWUSR"), key := Value.str (Str.ofString "S_IWUSR") 1323, val := Value.int 128 1322 }, { hash := PyData.keyHash PPP (Str.ofString "S_IXUSR"), key := Value.str (Str.ofString "S_IXUSR") 1325, val := Value.int 64 1324 }, { hash := PyData.keyHash PPP (Str.ofString "S_IRGRP"), key := Value.str (Str.ofString "S_IRGRP") 1327, val := Value.int 32 1326 }, { hash := PyData.keyHash PPP (Str.ofString "S_IWGRP"), key := Value.str (Str.ofString "S_IWGRP") 1329, val := Value.int 16 1328 }, { hash := PyData.keyHash PPP (Str.ofString "S_IXGRP"), key := Value.str (Str.ofString "S_IXGRP") 1331, val := Value.int 8 1330 }, { hash := PyData.keyHash PPP (Str.ofString "S_IROTH"), key := Value.str (Str.ofString "S_IROTH") 1333, val := Value.int 4 1332 }, { hash := PyData.keyHash PPP (Str.ofString "S_IWOTH"), key := Value.str (Str.ofString "S_IWOTH") 1335, val := Value.int 2 1334 }, { hash := PyData.keyHash PPP (Str.ofString "S_IXOTH"), key := Value.str (Str.ofString "S_IXOTH") 1337, val := Value.int 1 1336 }, { hash := PyData.keyHash PPP (Str.ofString "_filemode_table"), key := Value.str (Str.ofString "_filemode_table") 1363, val := Value.ref 813 }, { hash := PyData.keyHash PPP (Str.ofString "filemode"), key := Value.str (Str.ofString "filemode") 1375, val := Value.ref 820 }, { hash := PyData.keyHash PPP (Str.ofString "_law_told"), key := Value.str (Str.ofString "_law_told") 1383, val := Value.ref 825 }, { hash := PyData.keyHash PPP (Str.ofString "_law_signs"), key := Value.str (Str.ofString "_law_signs") 1392, val := Value.ref 832 }, { hash := PyData.keyHash PPP (Str.ofString "_law_apart"), key := Value.str (Str.ofString "_law_apart") 1402, val := Value.ref 839 }, { hash := PyData.keyHash PPP (Str.ofString "_law_due"), key := Value.str (Str.ofString "_law_due") 1408, val := Value.ref 844 }, { hash := PyData.keyHash PPP (Str.ofString "law"), key := Value.str (Str.ofString "law") 1416, val := Value.ref 851 }] 65 }
noncomputable abbrev k50 (PPP : Params) : Obj := { cls := Value.type "code", data := Data.fields #[Value.str (Str.ofString "_substitution_cost") 339, Value.str (Str.ofString "_substitution_cost") 340, Value.str (Str.ofString "/claim/cut.py") 341, Value.int 10 0, Value.int 2 0, Value.int 0 0, Value.int 0 0, Value.int 3 0, Value.ref 45, Value.bool true, Value.int 318 0, Value.ref 46, Value.none, Value.ref 47, Value.ref 48, Value.ref 49, Value.int 344 0, Value.int 10 0, Value.str (Str.ofString "/claim/cut.py") 345] }
noncomputable abbrev k51 : Obj := fnO (st := nth body 7) _ _ _ _ _ _ _ (Str.ofString "_substitution_cost") (Value.none) (Value.str (Str.ofString "cpy313.traceback") 331) 50 rfl
noncomputable abbrev k57 (PPP : Params) : Obj := { cls := Value.type "code", data := Data.fields #[Value.str (Str.ofString "_levenshtein_distance") 347, Value.str (Str.ofString "_levenshtein_distance") 348, Value.str (Str.ofString "/claim/cut.py") 349, Value.int 16 0, Value.int 3 0, Value.int 0 0, Value.int 0 0, Value.int 3 0, Value.ref 52, Value.bool true, Value.int 318 0, Value.ref 53, Value.none, Value.ref 54, Value.ref 55, Value.ref 56, Value.int 364 0, Value.int 16 0, Value.str (Str.ofString "/claim/cut.py") 365] }
noncomputable abbrev k58 : Obj := fnO (st := nth body 8) _ _ _ _ _ _ _ (Str.ofString "_levenshtein_distance") (Value.none) (Value.str (Str.ofString "cpy313.traceback") 331) 57 rfl
noncomputable abbrev k62 (PPP : Params) : Obj := { cls := Value.type "tuple", data := Data.seq #[Value.int 14 0, Value.int 17 0, Value.int 4 0, Value.int 1 0, Value.int 1 0, Value.int 21 0, Value.int 9 0, Value.int 0 0, Value.int 604043296 0, Value.int 1 0, Value.int 0 0, Value.int 0 0, Value.int 0 0, Value.int 0 0, Value.int 0 0, Value.int 8 0, Value.int 4 0, Value.int 0 0, Value.int 13 0, Value.int 14 0, Value.int 21 0, Value.int 9 0, Value.int 0 0, Value.int 604043296 0, Value.int 1 0, Value.int 0 0, Value.int 0 0, Value.int 0 0, Value.int 0 0, Value.int 0 0, Value.int 8 0, Value.int 4 0, Value.int 0 0, Value.int 1 0] }
noncomputable abbrev k63 (PPP : Params) : Obj := { cls := Value.type "re.Pattern", data := Data.fields #[Value.str (Str.ofString "[^\\w@%+=:,./-]") 368, Value.int 256 405, Value.int 0 0, Value.none, Value.none, Value.ref 62, Value.int 0 0] }
noncomputable abbrev k69 (PPP : Params) : Obj := { cls := Value.type "code", data := Data.fields #[Value.str (Str.ofString "_whence") 409, Value.str (Str.ofString "_whence") 410, Value.str (Str.ofString "/claim/cut.py") 411, Value.int 56 0, Value.int 2 0, Value.int 0 0, Value.int 0 0, Value.int 3 0, Value.ref 64, Value.bool true, Value.int 318 0, Value.ref 65, Value.none, Value.ref 66, Value.ref 67, Value.ref 68, Value.int 414 0, Value.int 56 0, Value.str (Str.ofString "/claim/cut.py") 415] }
noncomputable abbrev k70 : Obj := fnO (st := nth body 11) _ _ _ _ _ _ _ (Str.ofString "_whence") (Value.none) (Value.str (Str.ofString "io") 407) 69 rfl
noncomputable abbrev k76 (PPP : Params) : Obj := { cls := Value.type "code", data := Data.fields #[Value.str (Str.ofString "_index") 417, Value.str (Str.ofString "_index") 418, Value.str (Str.ofString "/claim/cut.py") 419, Value.int 61 0, Value.int 2 0, Value.int 0 0, Value.int 0 0, Value.int 3 0, Value.ref 71, Value.bool true, Value.int 318 0, Value.ref 72, Value.none, Value.ref 73, Value.ref 74, Value.ref 75, Value.int 422 0, Value.int 61 0, Value.str (Str.ofString "/claim/cut.py") 423] }
noncomputable abbrev k77 : Obj := fnO (st := nth body 12) _ _ _ _ _ _ _ (Str.ofString "_index") (Value.none) (Value.str (Str.ofString "io") 407) 76 rfl
noncomputable abbrev k86 (PPP : Params) : Obj := { cls := Value.type "dict", data := Data.dict #[{ hash := PyData.keyHash PPP (Str.ofString "__module__"), key := Value.str (Str.ofString "__module__") 432, val := Value.str (Str.ofString "io") 437 }, { hash := PyData.keyHash PPP (Str.ofString "__firstlineno__"), key := Value.str (Str.ofString "__firstlineno__") 436, val := Value.int 68 435 }, { hash := PyData.keyHash PPP (Str.ofString "__static_attributes__"), key := Value.str (Str.ofString "__static_attributes__") 439, val := Value.ref 85 }, { hash := PyData.keyHash PPP (Str.ofString "__weakref__"), key := Value.str (Str.ofString "__weakref__") 441, val := Value.ref 88 }, { hash := PyData.keyHash PPP (Str.ofString "__doc__"), key := Value.str (Str.ofString "__doc__") 442, val := Value.none }] 3 }
noncomputable abbrev k87 (PPP : Params) : Obj := { cls := Value.type "type", data := Data.cls { name := Str.ofString "UnsupportedOperation", bases := [Value.type "OSError", Value.type "ValueError"], mro := [Value.ref 87, Value.type "OSError", Value.type "ValueError", Value.type "Exception", Value.type "BaseException", Value.type "object"], ns := 86, qualname := Str.ofString "UnsupportedOperation" }, slots := #[some (Value.ref 78), none, some (Value.str (Str.ofString "UnsupportedOperation") 425), some (Value.str (Str.ofString "UnsupportedOperation") 433), some (Value.builtin "OSError.__new__"), some (Value.bool true)] }
noncomputable abbrev k88 (PPP : Params) : Obj := { cls := Value.type "getset_descriptor", data := Data.fields #[Value.str (Str.ofString "__weakref__") 440, Value.ref 87, Value.builtin "ExceptionGroup.__weakref__", Value.none] }
noncomputable abbrev k103 (PPP : Params) : Obj := { cls := Value.type "code", data := Data.fields #[Value.str (Str.ofString "__new__") 461, Value.str (Str.ofString "IOBase.__new__") 462, Value.str (Str.ofString "/claim/cut.py") 463, Value.int 73 0, Value.int 1 0, Value.int 1 0, Value.int 0 0, Value.int 15 0, Value.ref 98, Value.bool true, Value.int 318 0, Value.ref 99, Value.none, Value.ref 100, Value.ref 101, Value.ref 102, Value.int 467 0, Value.int 73 0, Value.str (Str.ofString "/claim/cut.py") 468] }
noncomputable abbrev k104 : Obj := fnO (st := nth (inClass (nth body 14)) 1) _ _ _ _ _ _ _ (Str.ofString "IOBase.__new__") (Value.none) (Value.str (Str.ofString "io") 407) 103 rfl
noncomputable abbrev k106 (PPP : Params) : Obj := { cls := Value.type "dict", data := Data.dict #[{ hash := PyData.keyHash PPP (Str.ofString "__module__"), key := Value.str (Str.ofString "__module__") 454, val := Value.str (Str.ofString "io") 459 }, { hash := PyData.keyHash PPP (Str.ofString "__firstlineno__"), key := Value.str (Str.ofString "__firstlineno__") 458, val := Value.int 70 457 }, { hash := PyData.keyHash PPP (Str.ofString "__new__"), key := Value.str (Str.ofString "__new__") 469, val := Value.ref 108 }, { hash := PyData.keyHash PPP (Str.ofString "__static_attributes__"), key := Value.str (Str.ofString "__static_attributes__") 470, val := Value.ref 105 }, { hash := PyData.keyHash PPP (Str.ofString "__dict__"), key := Value.str (Str.ofString "__dict__") 473, val := Value.ref 109 }, { hash := PyData.keyHash PPP (Str.ofString "__weakref__"), key := Value.str (Str.ofString "__weakref__") 475, val := Value.ref 110 }, { hash := PyData.keyHash PPP (Str.ofString "__doc__"), key := Value.str (Str.ofString "__doc__") 476, val := Value.none }] 4 }
noncomputable abbrev k107 (PPP : Params) : Obj := { cls := Value.type "type", data := Data.cls { name := Str.ofString "IOBase", bases := [Value.type "object"], mro := [Value.ref 107, Value.type "object"], ns := 106, qualname := Str.ofString "IOBase", subclasses := [Value.ref 122, Value.ref 134] }, slots := #[none, none, some (Value.str (Str.ofString "IOBase") 447), some (Value.str (Str.ofString "IOBase") 455), some Value.none, some (Value.bool true)] }
noncomputable abbrev k108 (PPP : Params) : Obj := { cls := Value.type "staticmethod", data := Data.fields #[Value.ref 104] }
noncomputable abbrev k109 (PPP : Params) : Obj := { cls := Value.type "getset_descriptor", data := Data.fields #[Value.str (Str.ofString "__dict__") 472, Value.ref 107, Value.builtin "function.__dict__", Value.builtin "function.__dict__#set"] }
noncomputable abbrev k110 (PPP : Params) : Obj := { cls := Value.type "getset_descriptor", data := Data.fields #[Value.str (Str.ofString "__weakref__") 474, Value.ref 107, Value.builtin "ExceptionGroup.__weakref__", Value.none] }
noncomputable abbrev k121 (PPP : Params) : Obj := { cls := Value.type "dict", data := Data.dict #[{ hash := PyData.keyHash PPP (Str.ofString "__module__"), key := Value.str (Str.ofString "__module__") 486, val := Value.str (Str.ofString "io") 491 }, { hash := PyData.keyHash PPP (Str.ofString "__firstlineno__"), key := Value.str (Str.ofString "__firstlineno__") 490, val := Value.int 77 489 }, { hash := PyData.keyHash PPP (Str.ofString "__static_attributes__"), key := Value.str (Str.ofString "__static_attributes__") 493, val := Value.ref 120 }, { hash := PyData.keyHash PPP (Str.ofString "__doc__"), key := Value.str (Str.ofString "__doc__") 494, val := Value.none }] 2 }
noncomputable abbrev k122 (PPP : Params) : Obj := { cls := Value.type "type", data := Data.cls { name := Str.ofString "BufferedIOBase", bases := [Value.ref 107], mro := [Value.ref 122, Value.ref 107, Value.type "object"], ns := 121, qualname := Str.ofString "BufferedIOBase", subclasses := [Value.ref 364] }, slots := #[some (Value.ref 113), none, some (Value.str (Str.ofString "BufferedIOBase") 479), some (Value.str (Str.ofString "BufferedIOBase") 487), some Value.none, some (Value.bool true)] }
noncomputable abbrev k133 (PPP : Params) : Obj := { cls := Value.type "dict", data := Data.dict #[{ hash := PyData.keyHash PPP (Str.ofString "__module__"), key := Value.str (Str.ofString "__module__") 504, val := Value.str (Str.ofString "io") 509 }, { hash := PyData.keyHash PPP (Str.ofString "__firstlineno__"), key := Value.str (Str.ofString "__firstlineno__") 508, val := Value.int 79 507 }, { hash := PyData.keyHash PPP (Str.ofString "__static_attributes__"), key := Value.str (Str.ofString "__static_attributes__") 511, val := Value.ref 132 }, { hash := PyData.keyHash PPP (Str.ofString "__doc__"), key := Value.str (Str.ofString "__doc__") 512, val := Value.none }] 2 }
noncomputable abbrev k134 (PPP : Params) : Obj := { cls := Value.type "type", data := Data.cls { name := Str.ofString "TextIOBase", bases := [Value.ref 107], mro := [Value.ref 134, Value.ref 107, Value.type "object"], ns := 133, qualname := Str.ofString "TextIOBase", subclasses := [Value.ref 611] }, slots := #[some (Value.ref 125), none, some (Value.str (Str.ofString "TextIOBase") 497), some (Value.str (Str.ofString "TextIOBase") 505), some Value.none, some (Value.bool true)] }
noncomputable abbrev k173 (PPP : Params) : Obj := { cls := Value.type "property", data := Data.fields #[Value.ref 172, Value.none, Value.none, Value.none, Value.str (Str.ofString "closed") 562, Value.bool false] }
noncomputable abbrev k363 (PPP : Params) : Obj := { cls := Value.type "dict", data := Data.dict #[{ hash := PyData.keyHash PPP (Str.ofString "__module__"), key := Value.str (Str.ofString "__module__") 522, val := Value.str (Str.ofString "_io") 527 }, { hash := PyData.keyHash PPP (Str.ofString "__firstlineno__"), key := Value.str (Str.ofString "__firstlineno__") 526, val := Value.int 81 525 }, { hash := PyData.keyHash PPP (Str.ofString "__init__"), key := Value.str (Str.ofString "__init__") 536, val := Value.ref 151 }, { hash := PyData.keyHash PPP (Str.ofString "_BytesIO__check"), key := Value.str (Str.ofString "_BytesIO__check") 543, val := Value.ref 158 }, { hash := PyData.keyHash PPP (Str.ofString "_BytesIO__line"), key := Value.str (Str.ofString "_BytesIO__line") 554, val := Value.ref 165 }, { hash := PyData.keyHash PPP (Str.ofString "closed"), key := Value.str (Str.ofString "closed") 562, val := Value.ref 173 }, { hash := PyData.keyHash PPP (Str.ofString "close"), key := Value.str (Str.ofString "close") 569, val := Value.ref 180 }, { hash := PyData.keyHash PPP (Str.ofString "__enter__"), key := Value.str (Str.ofString "__enter__") 576, val := Value.ref 187 }, { hash := PyData.keyHash PPP (Str.ofString "__exit__"), key := Value.str (Str.ofString "__exit__") 584, val := Value.ref 194 }, { hash := PyData.keyHash PPP (Str.ofString "readable"), key := Value.str (Str.ofString "readable") 591, val := Value.ref 201 }, { hash := PyData.keyHash PPP (Str.ofString "writable"), key := Value.str (Str.ofString "writable") 598, val := Value.ref 208 }, { hash := PyData.keyHash PPP (Str.ofString "seekable"), key := Value.str (Str.ofString "seekable") 605, val := Value.ref 215 }, { hash := PyData.keyHash PPP (Str.ofString "isatty"), key := Value.str (Str.ofString "isatty") 612, val := Value.ref 222 }, { hash := PyData.keyHash PPP (Str.ofString "flush"), key := Value.str (Str.ofString "flush") 619, val := Value.ref 229 }, { hash := PyData.keyHash PPP (Str.ofString "fileno"), key := Value.str (Str.ofString "fileno") 626, val := Value.ref 236 }, { hash := PyData.keyHash PPP (Str.ofString "detach"), key := Value.str (Str.ofString "detach") 633, val := Value.ref 243 }, { hash := PyData.keyHash PPP (Str.ofString "getvalue"), key := Value.str (Str.ofString "getvalue") 640, val := Value.ref 250 }, { hash := PyData.keyHash PPP (Str.ofString "getbuffer"), key := Value.str (Str.ofString "getbuffer") 647, val := Value.ref 257 }, { hash := PyData.keyHash PPP (Str.ofString "tell"), key := Value.str (Str.ofString "tell") 654, val := Value.ref 264 }, { hash := PyData.keyHash PPP (Str.ofString "seek"), key := Value.str (Str.ofString "seek") 664, val := Value.ref 272 }, { hash := PyData.keyHash PPP (Str.ofString "truncate"), key := Value.str (Str.ofString "truncate") 672, val := Value.ref 280 }, { hash := PyData.keyHash PPP (Str.ofString "read"), key := Value.str (Str.ofString "read") 684, val := Value.ref 288 }, { hash := PyData.keyHash PPP (Str.ofString "read1"), key := Value.str (Str.ofString "read1") 694, val := Value.ref 296 }, { hash := PyData.keyHash PPP (Str.ofString "readinto"), key := Value.str (Str.ofString "readinto") 704, val := Value.ref 303 }, { hash := PyData.keyHash PPP (Str.ofString "readinto1"), key := Value.str (Str.ofString "readinto1") 712, val := Value.ref 310 }, { hash := PyData.keyHash PPP (Str.ofString "readline"), key := Value.str (Str.ofString "readline") 722, val := Value.ref 318 }, { hash := PyData.keyHash PPP (Str.ofString "readlines"), key := Value.str (Str.ofString "readlines") 730, val := Value.ref 326 }, { hash := PyData.keyHash PPP (Str.ofString "__iter__"), key := Value.str (Str.ofString "__iter__") 737, val := Value.ref 333 }, { hash := PyData.keyHash PPP (Str.ofString "__next__"), key := Value.str (Str.ofString "__next__") 745, val := Value.ref 340 }, { hash := PyData.keyHash PPP (Str.ofString "write"), key := Value.str (Str.ofString "write") 755, val := Value.ref 347 }, { hash := PyData.keyHash PPP (Str.ofString "writelines"), key := Value.str (Str.ofString "writelines") 763, val := Value.ref 354 }, { hash := PyData.keyHash PPP (Str.ofString "__repr__"), key := Value.str (Str.ofString "__repr__") 770, val := Value.ref 361 }, { hash := PyData.keyHash PPP (Str.ofString "__static_attributes__"), key := Value.str (Str.ofString "__static_attributes__") 773, val := Value.ref 362 }, { hash := PyData.keyHash PPP (Str.ofString "__doc__"), key := Value.str (Str.ofString "__doc__") 774, val := Value.none }] 2 }
noncomputable abbrev k364 (PPP : Params) : Obj := { cls := Value.type "type", data := Data.cls { name := Str.ofString "BytesIO", bases := [Value.ref 122], mro := [Value.ref 364, Value.ref 122, Value.ref 107, Value.type "object"], ns := 363, qualname := Str.ofString "BytesIO" }, slots := #[some (Value.ref 137), none, some (Value.str (Str.ofString "BytesIO") 515), some (Value.str (Str.ofString "BytesIO") 523), some Value.none, some (Value.bool true)] }
noncomputable abbrev k374 (PPP : Params) : Obj := { cls := Value.type "tuple", data := Data.seq #[Value.str (Str.ofString "") 791, Value.str (Str.ofString "\n") 792] }
noncomputable abbrev k380 (PPP : Params) : Obj := { cls := Value.type "code", data := Data.fields #[Value.str (Str.ofString "__init__") 793, Value.str (Str.ofString "StringIO.__init__") 794, Value.str (Str.ofString "/claim/cut.py") 795, Value.int 254 0, Value.int 3 0, Value.int 0 0, Value.int 0 0, Value.int 3 0, Value.ref 375, Value.bool true, Value.int 318 0, Value.ref 376, Value.none, Value.ref 377, Value.ref 378, Value.ref 379, Value.int 799 0, Value.int 254 0, Value.str (Str.ofString "/claim/cut.py") 800] }
noncomputable abbrev k381 : Obj := fnO (st := nth (inClass (nth body 18)) 1) _ _ _ _ _ _ _ (Str.ofString "StringIO.__init__") (Value.ref 374) (Value.str (Str.ofString "io") 407) 380 rfl
noncomputable abbrev k387 (PPP : Params) : Obj := { cls := Value.type "code", data := Data.fields #[Value.str (Str.ofString "__translated") 802, Value.str (Str.ofString "StringIO.__translated") 803, Value.str (Str.ofString "/claim/cut.py") 804, Value.int 267 0, Value.int 2 0, Value.int 0 0, Value.int 0 0, Value.int 3 0, Value.ref 382, Value.bool true, Value.int 318 0, Value.ref 383, Value.none, Value.ref 384, Value.ref 385, Value.ref 386, Value.int 808 0, Value.int 267 0, Value.str (Str.ofString "/claim/cut.py") 809] }
noncomputable abbrev k388 : Obj := fnO (st := nth (inClass (nth body 18)) 2) _ _ _ _ _ _ _ (Str.ofString "StringIO.__translated") (Value.none) (Value.str (Str.ofString "io") 407) 387 rfl
noncomputable abbrev k394 (PPP : Params) : Obj := { cls := Value.type "code", data := Data.fields #[Value.str (Str.ofString "__check") 811, Value.str (Str.ofString "StringIO.__check") 812, Value.str (Str.ofString "/claim/cut.py") 813, Value.int 275 0, Value.int 1 0, Value.int 0 0, Value.int 0 0, Value.int 3 0, Value.ref 389, Value.bool true, Value.int 318 0, Value.ref 390, Value.none, Value.ref 391, Value.ref 392, Value.ref 393, Value.int 815 0, Value.int 275 0, Value.str (Str.ofString "/claim/cut.py") 816] }
noncomputable abbrev k395 : Obj := fnO (st := nth (inClass (nth body 18)) 3) _ _ _ _ _ _ _ (Str.ofString "StringIO.__check") (Value.none) (Value.str (Str.ofString "io") 407) 394 rfl
noncomputable abbrev k417 (PPP : Params) : Obj := { cls := Value.type "property", data := Data.fields #[Value.ref 416, Value.none, Value.none, Value.none, Value.str (Str.ofString "closed") 847, Value.bool false] }
noncomputable abbrev k425 (PPP : Params) : Obj := { cls := Value.type "property", data := Data.fields #[Value.ref 424, Value.none, Value.none, Value.none, Value.str (Str.ofString "line_buffering") 855, Value.bool false] }
noncomputable abbrev k433 (PPP : Params) : Obj := { cls := Value.type "property", data := Data.fields #[Value.ref 432, Value.none, Value.none, Value.none, Value.str (Str.ofString "newlines") 863, Value.bool false] }
noncomputable abbrev k441 (PPP : Params) : Obj := { cls := Value.type "property", data := Data.fields #[Value.ref 440, Value.none, Value.none, Value.none, Value.str (Str.ofString "encoding") 871, Value.bool false] }
noncomputable abbrev k449 (PPP : Params) : Obj := { cls := Value.type "property", data := Data.fields #[Value.ref 448, Value.none, Value.none, Value.none, Value.str (Str.ofString "errors") 879, Value.bool false] }
noncomputable abbrev k550 (PPP : Params) : Obj := { cls := Value.type "tuple", data := Data.seq #[Value.int (-1) 984] }
noncomputable abbrev k556 (PPP : Params) : Obj := { cls := Value.type "code", data := Data.fields #[Value.str (Str.ofString "read") 985, Value.str (Str.ofString "StringIO.read") 986, Value.str (Str.ofString "/claim/cut.py") 987, Value.int 397 0, Value.int 2 0, Value.int 2 0, Value.int 0 0, Value.int 3 0, Value.ref 551, Value.bool true, Value.int 318 0, Value.ref 552, Value.none, Value.ref 553, Value.ref 554, Value.ref 555, Value.int 992 0, Value.int 397 0, Value.str (Str.ofString "/claim/cut.py") 993] }
noncomputable abbrev k557 : Obj := fnO (st := nth (inClass (nth body 18)) 25) _ _ _ _ _ _ _ (Str.ofString "StringIO.read") (Value.ref 550) (Value.str (Str.ofString "io") 407) 556 rfl
noncomputable abbrev k610 (PPP : Params) : Obj := { cls := Value.type "dict", data := Data.dict #[{ hash := PyData.keyHash PPP (Str.ofString "__module__"), key := Value.str (Str.ofString "__module__") 784, val := Value.str (Str.ofString "_io") 789 }, { hash := PyData.keyHash PPP (Str.ofString "__firstlineno__"), key := Value.str (Str.ofString "__firstlineno__") 788, val := Value.int 251 787 }, { hash := PyData.keyHash PPP (Str.ofString "__init__"), key := Value.str (Str.ofString "__init__") 801, val := Value.ref 381 }, { hash := PyData.keyHash PPP (Str.ofString "_StringIO__translated"), key := Value.str (Str.ofString "_StringIO__translated") 810, val := Value.ref 388 }, { hash := PyData.keyHash PPP (Str.ofString "_StringIO__check"), key := Value.str (Str.ofString "_StringIO__check") 817, val := Value.ref 395 }, { hash := PyData.keyHash PPP (Str.ofString "_StringIO__check_dot"), key := Value.str (Str.ofString "_StringIO__check_dot") 824, val := Value.ref 402 }, { hash := PyData.keyHash PPP (Str.ofString "_StringIO__line"), key := Value.str (Str.ofString "_StringIO__line") 839, val := Value.ref 409 }, { hash := PyData.keyHash PPP (Str.ofString "closed"), key := Value.str (Str.ofString "closed") 847, val := Value.ref 417 }, { hash := PyData.keyHash PPP (Str.ofString "line_buffering"), key := Value.str (Str.ofString "line_buffering") 855, val := Value.ref 425 }, { hash := PyData.keyHash PPP (Str.ofString "newlines"), key := Value.str (Str.ofString "newlines") 863, val := Value.ref 433 }, { hash := PyData.keyHash PPP (Str.ofString "encoding"), key := Value.str (Str.ofString "encoding") 871, val := Value.ref 441 }, { hash := PyData.keyHash PPP (Str.ofString "errors"), key := Value.str (Str.ofString "errors") 879, val := Value.ref 449 }, { hash := PyData.keyHash PPP (Str.ofString "close"), key := Value.str (Str.ofString "close") 886, val := Value.ref 456 }, { hash := PyData.keyHash PPP (Str.ofString "__enter__"), key := Value.str (Str.ofString "__enter__") 893, val := Value.ref 463 }, { hash := PyData.keyHash PPP (Str.ofString "__exit__"), key := Value.str (Str.ofString "__exit__") 901, val := Value.ref 470 }, { hash := PyData.keyHash PPP (Str.ofString "readable"), key := Value.str (Str.ofString "readable") 908, val := Value.ref 477 }, { hash := PyData.keyHash PPP (Str.ofString "writable"), key := Value.str (Str.ofString "writable") 915, val := Value.ref 484 }, { hash := PyData.keyHash PPP (Str.ofString "seekable"), key := Value.str (Str.ofString "seekable") 922, val := Value.ref 491 }, { hash := PyData.keyHash PPP (Str.ofString "isatty"), key := Value.str (Str.ofString "isatty") 929, val := Value.ref 498 }, { hash := PyData.keyHash PPP (Str.ofString "flush"), key := Value.str (Str.ofString "flush") 936, val := Value.ref 505 }, { hash := PyData.keyHash PPP (Str.ofString "fileno"), key := Value.str (Str.ofString "fileno") 943, val := Value.ref 512 }, { hash := PyData.keyHash PPP (Str.ofString "detach"), key := Value.str (Str.ofString "detach") 950, val := Value.ref 519 }, { hash := PyData.keyHash PPP (Str.ofString "getvalue"), key := Value.str (Str.ofString "getvalue") 957, val := Value.ref 526 }, { hash := PyData.keyHash PPP (Str.ofString "tell"), key := Value.str (Str.ofString "tell") 964, val := Value.ref 533 }, { hash := PyData.keyHash PPP (Str.ofString "seek"), key := Value.str (Str.ofString "seek") 974, val := Value.ref 541 }, { hash := PyData.keyHash PPP (Str.ofString "truncate"), key := Value.str (Str.ofString "truncate") 982, val := Value.ref 549 }, { hash := PyData.keyHash PPP (Str.ofString "read"), key := Value.str (Str.ofString "read") 994, val := Value.ref 557 }, { hash := PyData.keyHash PPP (Str.ofString "readline"), key := Value.str (Str.ofString "readline") 1004, val := Value.ref 565 }, { hash := PyData.keyHash PPP (Str.ofString "readlines"), key := Value.str (Str.ofString "readlines") 1014, val := Value.ref 573 }, { hash := PyData.keyHash PPP (Str.ofString "__iter__"), key := Value.str (Str.ofString "__iter__") 1021, val := Value.ref 580 }, { hash := PyData.keyHash PPP (Str.ofString "__next__"), key := Value.str (Str.ofString "__next__") 1029, val := Value.ref 587 }, { hash := PyData.keyHash PPP (Str.ofString "write"), key := Value.str (Str.ofString "write") 1041, val := Value.ref 594 }, { hash := PyData.keyHash PPP (Str.ofString "writelines"), key := Value.str (Str.ofString "writelines") 1049, val := Value.ref 601 }, { hash := PyData.keyHash PPP (Str.ofString "__repr__"), key := Value.str (Str.ofString "__repr__") 1056, val := Value.ref 608 }, { hash := PyData.keyHash PPP (Str.ofString "__static_attributes__"), key := Value.str (Str.ofString "__static_attributes__") 1060, val := Value.ref 609 }, { hash := PyData.keyHash PPP (Str.ofString "__doc__"), key := Value.str (Str.ofString "__doc__") 1061, val := Value.none }] 2 }
noncomputable abbrev k611 (PPP : Params) : Obj := { cls := Value.type "type", data := Data.cls { name := Str.ofString "StringIO", bases := [Value.ref 134], mro := [Value.ref 611, Value.ref 134, Value.ref 107, Value.type "object"], ns := 610, qualname := Str.ofString "StringIO" }, slots := #[some (Value.ref 367), none, some (Value.str (Str.ofString "StringIO") 777), some (Value.str (Str.ofString "StringIO") 785), some Value.none, some (Value.bool true)] }
noncomputable abbrev k663 (PPP : Params) : Obj := { cls := Value.type "tuple", data := Data.seq #[Value.none, Value.none, Value.bool false, Value.bool false] }
noncomputable abbrev k669 (PPP : Params) : Obj := { cls := Value.type "code", data := Data.fields #[Value.str (Str.ofString "__init__") 1137, Value.str (Str.ofString "shlex.__init__") 1138, Value.str (Str.ofString "/claim/cut.py") 1139, Value.int 523 0, Value.int 5 0, Value.int 0 0, Value.int 0 0, Value.int 3 0, Value.ref 664, Value.bool true, Value.int 318 0, Value.ref 665, Value.none, Value.ref 666, Value.ref 667, Value.ref 668, Value.int 1146 0, Value.int 523 0, Value.str (Str.ofString "/claim/cut.py") 1147] }
noncomputable abbrev k670 : Obj := fnO (st := nth (inClass (nth body 28)) 0) _ _ _ _ _ _ _ (Str.ofString "shlex.__init__") (Value.ref 663) (Value.str (Str.ofString "cpy313.shlex") 1123) 669 rfl
noncomputable abbrev k676 (PPP : Params) : Obj := { cls := Value.type "code", data := Data.fields #[Value.str (Str.ofString "punctuation_chars") 1149, Value.str (Str.ofString "shlex.punctuation_chars") 1150, Value.str (Str.ofString "/claim/cut.py") 1151, Value.int 564 0, Value.int 1 0, Value.int 0 0, Value.int 0 0, Value.int 3 0, Value.ref 671, Value.bool true, Value.int 318 0, Value.ref 672, Value.none, Value.ref 673, Value.ref 674, Value.ref 675, Value.int 1153 0, Value.int 564 0, Value.str (Str.ofString "/claim/cut.py") 1154] }
noncomputable abbrev k677 : Obj := fnO (st := nth (inClass (nth body 28)) 1) _ _ _ _ _ _ _ (Str.ofString "shlex.punctuation_chars") (Value.none) (Value.str (Str.ofString "cpy313.shlex") 1123) 676 rfl
noncomputable abbrev k678 (PPP : Params) : Obj := { cls := Value.type "property", data := Data.fields #[Value.ref 677, Value.none, Value.none, Value.none, Value.str (Str.ofString "punctuation_chars") 1156, Value.bool false] }
noncomputable abbrev k706 (PPP : Params) : Obj := { cls := Value.type "code", data := Data.fields #[Value.str (Str.ofString "get_token") 1181, Value.str (Str.ofString "shlex.get_token") 1182, Value.str (Str.ofString "/claim/cut.py") 1183, Value.int 591 0, Value.int 1 0, Value.int 0 0, Value.int 0 0, Value.int 3 0, Value.ref 701, Value.bool true, Value.int 318 0, Value.ref 702, Value.none, Value.ref 703, Value.ref 704, Value.ref 705, Value.int 1190 0, Value.int 591 0, Value.str (Str.ofString "/claim/cut.py") 1191] }
noncomputable abbrev k707 : Obj := fnO (st := nth (inClass (nth body 28)) 5) _ _ _ _ _ _ _ (Str.ofString "shlex.get_token") (Value.none) (Value.str (Str.ofString "cpy313.shlex") 1123) 706 rfl
noncomputable abbrev k713 (PPP : Params) : Obj := { cls := Value.type "code", data := Data.fields #[Value.str (Str.ofString "read_token") 1193, Value.str (Str.ofString "shlex.read_token") 1194, Value.str (Str.ofString "/claim/cut.py") 1195, Value.int 618 0, Value.int 1 0, Value.int 0 0, Value.int 0 0, Value.int 3 0, Value.ref 708, Value.bool true, Value.int 318 0, Value.ref 709, Value.none, Value.ref 710, Value.ref 711, Value.ref 712, Value.int 1201 0, Value.int 618 0, Value.str (Str.ofString "/claim/cut.py") 1202] }
noncomputable abbrev k714 : Obj := fnO (st := nth (inClass (nth body 28)) 6) _ _ _ _ _ _ _ (Str.ofString "shlex.read_token") (Value.none) (Value.str (Str.ofString "cpy313.shlex") 1123) 713 rfl
noncomputable abbrev k735 (PPP : Params) : Obj := { cls := Value.type "code", data := Data.fields #[Value.str (Str.ofString "__iter__") 1221, Value.str (Str.ofString "shlex.__iter__") 1222, Value.str (Str.ofString "/claim/cut.py") 1223, Value.int 765 0, Value.int 1 0, Value.int 0 0, Value.int 0 0, Value.int 3 0, Value.ref 730, Value.bool true, Value.int 318 0, Value.ref 731, Value.none, Value.ref 732, Value.ref 733, Value.ref 734, Value.int 1225 0, Value.int 765 0, Value.str (Str.ofString "/claim/cut.py") 1226] }
noncomputable abbrev k736 : Obj := fnO (st := nth (inClass (nth body 28)) 9) _ _ _ _ _ _ _ (Str.ofString "shlex.__iter__") (Value.none) (Value.str (Str.ofString "cpy313.shlex") 1123) 735 rfl
noncomputable abbrev k742 (PPP : Params) : Obj := { cls := Value.type "code", data := Data.fields #[Value.str (Str.ofString "__next__") 1228, Value.str (Str.ofString "shlex.__next__") 1229, Value.str (Str.ofString "/claim/cut.py") 1230, Value.int 768 0, Value.int 1 0, Value.int 0 0, Value.int 0 0, Value.int 3 0, Value.ref 737, Value.bool true, Value.int 318 0, Value.ref 738, Value.none, Value.ref 739, Value.ref 740, Value.ref 741, Value.int 1233 0, Value.int 768 0, Value.str (Str.ofString "/claim/cut.py") 1234] }
noncomputable abbrev k743 : Obj := fnO (st := nth (inClass (nth body 28)) 10) _ _ _ _ _ _ _ (Str.ofString "shlex.__next__") (Value.none) (Value.str (Str.ofString "cpy313.shlex") 1123) 742 rfl
noncomputable abbrev k745 (PPP : Params) : Obj := { cls := Value.type "dict", data := Data.dict #[{ hash := PyData.keyHash PPP (Str.ofString "__module__"), key := Value.str (Str.ofString "__module__") 1132, val := Value.str (Str.ofString "cpy313.shlex") 1123 }, { hash := PyData.keyHash PPP (Str.ofString "__firstlineno__"), key := Value.str (Str.ofString "__firstlineno__") 1136, val := Value.int 521 1135 }, { hash := PyData.keyHash PPP (Str.ofString "__init__"), key := Value.str (Str.ofString "__init__") 1148, val := Value.ref 670 }, { hash := PyData.keyHash PPP (Str.ofString "punctuation_chars"), key := Value.str (Str.ofString "punctuation_chars") 1156, val := Value.ref 678 }, { hash := PyData.keyHash PPP (Str.ofString "push_token"), key := Value.str (Str.ofString "push_token") 1164, val := Value.ref 685 }, { hash := PyData.keyHash PPP (Str.ofString "push_source"), key := Value.str (Str.ofString "push_source") 1173, val := Value.ref 693 }, { hash := PyData.keyHash PPP (Str.ofString "pop_source"), key := Value.str (Str.ofString "pop_source") 1180, val := Value.ref 700 }, { hash := PyData.keyHash PPP (Str.ofString "get_token"), key := Value.str (Str.ofString "get_token") 1192, val := Value.ref 707 }, { hash := PyData.keyHash PPP (Str.ofString "read_token"), key := Value.str (Str.ofString "read_token") 1203, val := Value.ref 714 }, { hash := PyData.keyHash PPP (Str.ofString "sourcehook"), key := Value.str (Str.ofString "sourcehook") 1211, val := Value.ref 721 }, { hash := PyData.keyHash PPP (Str.ofString "error_leader"), key := Value.str (Str.ofString "error_leader") 1220, val := Value.ref 729 }, { hash := PyData.keyHash PPP (Str.ofString "__iter__"), key := Value.str (Str.ofString "__iter__") 1227, val := Value.ref 736 }, { hash := PyData.keyHash PPP (Str.ofString "__next__"), key := Value.str (Str.ofString "__next__") 1235, val := Value.ref 743 }, { hash := PyData.keyHash PPP (Str.ofString "__static_attributes__"), key := Value.str (Str.ofString "__static_attributes__") 1256, val := Value.ref 744 }, { hash := PyData.keyHash PPP (Str.ofString "__dict__"), key := Value.str (Str.ofString "__dict__") 1258, val := Value.ref 747 }, { hash := PyData.keyHash PPP (Str.ofString "__weakref__"), key := Value.str (Str.ofString "__weakref__") 1260, val := Value.ref 748 }, { hash := PyData.keyHash PPP (Str.ofString "__doc__"), key := Value.str (Str.ofString "__doc__") 1261, val := Value.none }] 4 }
noncomputable abbrev k746 (PPP : Params) : Obj := { cls := Value.type "type", data := Data.cls { name := Str.ofString "shlex", bases := [Value.type "object"], mro := [Value.ref 746, Value.type "object"], ns := 745, qualname := Str.ofString "shlex" }, slots := #[none, none, some (Value.str (Str.ofString "shlex") 1125), some (Value.str (Str.ofString "shlex") 1133), some (Value.builtin "object.__new__"), some (Value.bool true)] }
noncomputable abbrev k747 (PPP : Params) : Obj := { cls := Value.type "getset_descriptor", data := Data.fields #[Value.str (Str.ofString "__dict__") 1257, Value.ref 746, Value.builtin "function.__dict__", Value.builtin "function.__dict__#set"] }
noncomputable abbrev k748 (PPP : Params) : Obj := { cls := Value.type "getset_descriptor", data := Data.fields #[Value.str (Str.ofString "__weakref__") 1259, Value.ref 746, Value.builtin "ExceptionGroup.__weakref__", Value.none] }
noncomputable abbrev k751 (PPP : Params) : Obj := { cls := Value.type "tuple", data := Data.seq #[Value.bool false, Value.bool true] }
noncomputable abbrev k757 (PPP : Params) : Obj := { cls := Value.type "code", data := Data.fields #[Value.str (Str.ofString "split") 1264, Value.str (Str.ofString "split") 1265, Value.str (Str.ofString "/claim/cut.py") 1266, Value.int 773 0, Value.int 3 0, Value.int 0 0, Value.int 0 0, Value.int 3 0, Value.ref 752, Value.bool true, Value.int 318 0, Value.ref 753, Value.none, Value.ref 754, Value.ref 755, Value.ref 756, Value.int 1271 0, Value.int 773 0, Value.str (Str.ofString "/claim/cut.py") 1272] }
noncomputable abbrev k758 : Obj := fnO (st := nth body 29) _ _ _ _ _ _ _ (Str.ofString "split") (Value.ref 751) (Value.str (Str.ofString "cpy313.shlex") 1123) 757 rfl
noncomputable abbrev k764 (PPP : Params) : Obj := { cls := Value.type "code", data := Data.fields #[Value.str (Str.ofString "join") 1274, Value.str (Str.ofString "join") 1275, Value.str (Str.ofString "/claim/cut.py") 1276, Value.int 781 0, Value.int 1 0, Value.int 0 0, Value.int 0 0, Value.int 3 0, Value.ref 759, Value.bool true, Value.int 318 0, Value.ref 760, Value.none, Value.ref 761, Value.ref 762, Value.ref 763, Value.int 1278 0, Value.int 781 0, Value.str (Str.ofString "/claim/cut.py") 1279] }
noncomputable abbrev k765 : Obj := fnO (st := nth body 30) _ _ _ _ _ _ _ (Str.ofString "join") (Value.none) (Value.str (Str.ofString "cpy313.shlex") 1123) 764 rfl
noncomputable abbrev k766 (PPP : Params) : Obj := { cls := Value.type "builtin_function_or_method", data := Data.fields #[Value.builtin "re.Pattern.search", Value.ref 63] }
noncomputable abbrev k772 (PPP : Params) : Obj := { cls := Value.type "code", data := Data.fields #[Value.str (Str.ofString "quote") 1284, Value.str (Str.ofString "quote") 1285, Value.str (Str.ofString "/claim/cut.py") 1286, Value.int 785 0, Value.int 1 0, Value.int 0 0, Value.int 0 0, Value.int 3 0, Value.ref 767, Value.bool true, Value.int 318 0, Value.ref 768, Value.none, Value.ref 769, Value.ref 770, Value.ref 771, Value.int 1288 0, Value.int 785 0, Value.str (Str.ofString "/claim/cut.py") 1289] }
noncomputable abbrev k773 : Obj := fnO (st := nth body 33) _ _ _ _ _ _ _ (Str.ofString "quote") (Value.none) (Value.str (Str.ofString "cpy313.shlex") 1123) 772 rfl
noncomputable abbrev k779 (PPP : Params) : Obj := { cls := Value.type "code", data := Data.fields #[Value.str (Str.ofString "S_IFMT") 1293, Value.str (Str.ofString "S_IFMT") 1294, Value.str (Str.ofString "/claim/cut.py") 1295, Value.int 792 0, Value.int 1 0, Value.int 0 0, Value.int 0 0, Value.int 3 0, Value.ref 774, Value.bool true, Value.int 318 0, Value.ref 775, Value.none, Value.ref 776, Value.ref 777, Value.ref 778, Value.int 1297 0, Value.int 792 0, Value.str (Str.ofString "/claim/cut.py") 1298] }
noncomputable abbrev k780 : Obj := fnO (st := nth body 35) _ _ _ _ _ _ _ (Str.ofString "S_IFMT") (Value.none) (Value.str (Str.ofString "cpy313.stat") 1291) 779 rfl
noncomputable abbrev k781 (PPP : Params) : Obj := { cls := Value.type "tuple", data := Data.seq #[Value.int 40960 1310, Value.str (Str.ofString "l") 1338] }
noncomputable abbrev k782 (PPP : Params) : Obj := { cls := Value.type "tuple", data := Data.seq #[Value.int 49152 1312, Value.str (Str.ofString "s") 1339] }
noncomputable abbrev k783 (PPP : Params) : Obj := { cls := Value.type "tuple", data := Data.seq #[Value.int 32768 1306, Value.str (Str.ofString "-") 1340] }
noncomputable abbrev k784 (PPP : Params) : Obj := { cls := Value.type "tuple", data := Data.seq #[Value.int 24576 1304, Value.str (Str.ofString "b") 1341] }
noncomputable abbrev k785 (PPP : Params) : Obj := { cls := Value.type "tuple", data := Data.seq #[Value.int 16384 1300, Value.str (Str.ofString "d") 1342] }
noncomputable abbrev k786 (PPP : Params) : Obj := { cls := Value.type "tuple", data := Data.seq #[Value.int 8192 1302, Value.str (Str.ofString "c") 1343] }
noncomputable abbrev k787 (PPP : Params) : Obj := { cls := Value.type "tuple", data := Data.seq #[Value.int 4096 1308, Value.str (Str.ofString "p") 1344] }
noncomputable abbrev k788 (PPP : Params) : Obj := { cls := Value.type "tuple", data := Data.seq #[Value.ref 781, Value.ref 782, Value.ref 783, Value.ref 784, Value.ref 785, Value.ref 786, Value.ref 787] }
noncomputable abbrev k789 (PPP : Params) : Obj := { cls := Value.type "tuple", data := Data.seq #[Value.int 256 1320, Value.str (Str.ofString "r") 1345] }
noncomputable abbrev k790 (PPP : Params) : Obj := { cls := Value.type "tuple", data := Data.seq #[Value.ref 789] }
noncomputable abbrev k791 (PPP : Params) : Obj := { cls := Value.type "tuple", data := Data.seq #[Value.int 128 1322, Value.str (Str.ofString "w") 1346] }
noncomputable abbrev k792 (PPP : Params) : Obj := { cls := Value.type "tuple", data := Data.seq #[Value.ref 791] }
noncomputable abbrev k793 (PPP : Params) : Obj := { cls := Value.type "tuple", data := Data.seq #[Value.int 2112 1347, Value.str (Str.ofString "s") 1348] }
noncomputable abbrev k794 (PPP : Params) : Obj := { cls := Value.type "tuple", data := Data.seq #[Value.int 2048 1314, Value.str (Str.ofString "S") 1349] }
noncomputable abbrev k795 (PPP : Params) : Obj := { cls := Value.type "tuple", data := Data.seq #[Value.int 64 1324, Value.str (Str.ofString "x") 1350] }
noncomputable abbrev k796 (PPP : Params) : Obj := { cls := Value.type "tuple", data := Data.seq #[Value.ref 793, Value.ref 794, Value.ref 795] }
noncomputable abbrev k797 (PPP : Params) : Obj := { cls := Value.type "tuple", data := Data.seq #[Value.int 32 1326, Value.str (Str.ofString "r") 1351] }
noncomputable abbrev k798 (PPP : Params) : Obj := { cls := Value.type "tuple", data := Data.seq #[Value.ref 797] }
noncomputable abbrev k799 (PPP : Params) : Obj := { cls := Value.type "tuple", data := Data.seq #[Value.int 16 1328, Value.str (Str.ofString "w") 1352] }
noncomputable abbrev k800 (PPP : Params) : Obj := { cls := Value.type "tuple", data := Data.seq #[Value.ref 799] }
noncomputable abbrev k801 (PPP : Params) : Obj := { cls := Value.type "tuple", data := Data.seq #[Value.int 1032 1353, Value.str (Str.ofString "s") 1354] }
noncomputable abbrev k802 (PPP : Params) : Obj := { cls := Value.type "tuple", data := Data.seq #[Value.int 1024 1316, Value.str (Str.ofString "S") 1355] }
noncomputable abbrev k803 (PPP : Params) : Obj := { cls := Value.type "tuple", data := Data.seq #[Value.int 8 1330, Value.str (Str.ofString "x") 1356] }
noncomputable abbrev k804 (PPP : Params) : Obj := { cls := Value.type "tuple", data := Data.seq #[Value.ref 801, Value.ref 802, Value.ref 803] }
noncomputable abbrev k805 (PPP : Params) : Obj := { cls := Value.type "tuple", data := Data.seq #[Value.int 4 1332, Value.str (Str.ofString "r") 1357] }
noncomputable abbrev k806 (PPP : Params) : Obj := { cls := Value.type "tuple", data := Data.seq #[Value.ref 805] }
noncomputable abbrev k807 (PPP : Params) : Obj := { cls := Value.type "tuple", data := Data.seq #[Value.int 2 1334, Value.str (Str.ofString "w") 1358] }
noncomputable abbrev k808 (PPP : Params) : Obj := { cls := Value.type "tuple", data := Data.seq #[Value.ref 807] }
noncomputable abbrev k809 (PPP : Params) : Obj := { cls := Value.type "tuple", data := Data.seq #[Value.int 513 1359, Value.str (Str.ofString "t") 1360] }
noncomputable abbrev k810 (PPP : Params) : Obj := { cls := Value.type "tuple", data := Data.seq #[Value.int 512 1318, Value.str (Str.ofString "T") 1361] }
noncomputable abbrev k811 (PPP : Params) : Obj := { cls := Value.type "tuple", data := Data.seq #[Value.int 1 1336, Value.str (Str.ofString "x") 1362] }
noncomputable abbrev k812 (PPP : Params) : Obj := { cls := Value.type "tuple", data := Data.seq #[Value.ref 809, Value.ref 810, Value.ref 811] }
noncomputable abbrev k813 (PPP : Params) : Obj := { cls := Value.type "tuple", data := Data.seq #[Value.ref 788, Value.ref 790, Value.ref 792, Value.ref 796, Value.ref 798, Value.ref 800, Value.ref 804, Value.ref 806, Value.ref 808, Value.ref 812] }
noncomputable abbrev k819 (PPP : Params) : Obj := { cls := Value.type "code", data := Data.fields #[Value.str (Str.ofString "filemode") 1364, Value.str (Str.ofString "filemode") 1365, Value.str (Str.ofString "/claim/cut.py") 1366, Value.int 814 0, Value.int 1 0, Value.int 0 0, Value.int 0 0, Value.int 3 0, Value.ref 814, Value.bool true, Value.int 318 0, Value.ref 815, Value.none, Value.ref 816, Value.ref 817, Value.ref 818, Value.int 1373 0, Value.int 814 0, Value.str (Str.ofString "/claim/cut.py") 1374] }
noncomputable abbrev k820 : Obj := fnO (st := nth body 56) _ _ _ _ _ _ _ (Str.ofString "filemode") (Value.none) (Value.str (Str.ofString "cpy313.stat") 1291) 819 rfl
noncomputable abbrev k824 (PPP : Params) : Obj := { cls := Value.type "code", data := Data.fields #[Value.str (Str.ofString "_law_told") 1378, Value.str (Str.ofString "_law_told") 1379, Value.str (Str.ofString "/claim/cut.py") 1380, Value.int 832 0, Value.int 1 0, Value.int 0 0, Value.int 0 0, Value.int 3 0, Value.ref 821, Value.bool true, Value.int 318 0, Value.ref 822, Value.none, Value.none, Value.none, Value.ref 823, Value.int 1381 0, Value.int 832 0, Value.str (Str.ofString "/claim/cut.py") 1382] }
noncomputable abbrev k825 : Obj := fnO (st := nth body 58) _ _ _ _ _ _ _ (Str.ofString "_law_told") (Value.none) (Value.str (Str.ofString "law_ny0408_02") 1376) 824 rfl
noncomputable abbrev k831 (PPP : Params) : Obj := { cls := Value.type "code", data := Data.fields #[Value.str (Str.ofString "_law_signs") 1384, Value.str (Str.ofString "_law_signs") 1385, Value.str (Str.ofString "/claim/cut.py") 1386, Value.int 840 0, Value.int 1 0, Value.int 0 0, Value.int 0 0, Value.int 3 0, Value.ref 826, Value.bool true, Value.int 318 0, Value.ref 827, Value.none, Value.ref 828, Value.ref 829, Value.ref 830, Value.int 1390 0, Value.int 840 0, Value.str (Str.ofString "/claim/cut.py") 1391] }
noncomputable abbrev k832 : Obj := fnO (st := nth body 59) _ _ _ _ _ _ _ (Str.ofString "_law_signs") (Value.none) (Value.str (Str.ofString "law_ny0408_02") 1376) 831 rfl
noncomputable abbrev k838 (PPP : Params) : Obj := { cls := Value.type "code", data := Data.fields #[Value.str (Str.ofString "_law_apart") 1393, Value.str (Str.ofString "_law_apart") 1394, Value.str (Str.ofString "/claim/cut.py") 1395, Value.int 845 0, Value.int 2 0, Value.int 0 0, Value.int 0 0, Value.int 3 0, Value.ref 833, Value.bool true, Value.int 318 0, Value.ref 834, Value.none, Value.ref 835, Value.ref 836, Value.ref 837, Value.int 1400 0, Value.int 845 0, Value.str (Str.ofString "/claim/cut.py") 1401] }
noncomputable abbrev k839 : Obj := fnO (st := nth body 60) _ _ _ _ _ _ _ (Str.ofString "_law_apart") (Value.none) (Value.str (Str.ofString "law_ny0408_02") 1376) 838 rfl
noncomputable abbrev k843 (PPP : Params) : Obj := { cls := Value.type "code", data := Data.fields #[Value.str (Str.ofString "_law_due") 1403, Value.str (Str.ofString "_law_due") 1404, Value.str (Str.ofString "/claim/cut.py") 1405, Value.int 851 0, Value.int 1 0, Value.int 0 0, Value.int 0 0, Value.int 3 0, Value.ref 840, Value.bool true, Value.int 318 0, Value.ref 841, Value.none, Value.none, Value.none, Value.ref 842, Value.int 1406 0, Value.int 851 0, Value.str (Str.ofString "/claim/cut.py") 1407] }
noncomputable abbrev k844 : Obj := fnO (st := nth body 61) _ _ _ _ _ _ _ (Str.ofString "_law_due") (Value.none) (Value.str (Str.ofString "law_ny0408_02") 1376) 843 rfl
noncomputable abbrev k850 (PPP : Params) : Obj := { cls := Value.type "code", data := Data.fields #[Value.str (Str.ofString "law") 1409, Value.str (Str.ofString "law") 1410, Value.str (Str.ofString "/claim/cut.py") 1411, Value.int 859 0, Value.int 1 0, Value.int 0 0, Value.int 0 0, Value.int 3 0, Value.ref 845, Value.bool true, Value.int 318 0, Value.ref 846, Value.none, Value.ref 847, Value.ref 848, Value.ref 849, Value.int 1414 0, Value.int 859 0, Value.str (Str.ofString "/claim/cut.py") 1415] }
noncomputable abbrev k851 : Obj := fnO (st := nth body 62) _ _ _ _ _ _ _ (Str.ofString "law") (Value.none) (Value.str (Str.ofString "law_ny0408_02") 1376) 850 rfl
noncomputable def K (P : Params) : Frag := (nat_lit 2, k2 P) :: (nat_lit 3, k3 P) :: (nat_lit 50, k50 P) :: (nat_lit 51, k51) :: (nat_lit 57, k57 P) :: (nat_lit 58, k58) :: (nat_lit 62, k62 P) :: (nat_lit 63, k63 P) :: (nat_lit 69, k69 P) :: (nat_lit 70, k70) :: (nat_lit 76, k76 P) :: (nat_lit 77, k77) :: (nat_lit 86, k86 P) :: (nat_lit 87, k87 P) :: (nat_lit 88, k88 P) :: (nat_lit 103, k103 P) :: (nat_lit 104, k104) :: (nat_lit 106, k106 P) :: (nat_lit 107, k107 P) :: (nat_lit 108, k108 P) :: (nat_lit 109, k109 P) :: (nat_lit 110, k110 P) :: (nat_lit 121, k121 P) :: (nat_lit 122, k122 P) :: (nat_lit 133, k133 P) :: (nat_lit 134, k134 P) :: (nat_lit 173, k173 P) :: (nat_lit 363, k363 P) :: (nat_lit 364, k364 P) :: (nat_lit 374, k374 P) :: (nat_lit 380, k380 P) :: (nat_lit 381, k381) :: (nat_lit 387, k387 P) :: (nat_lit 388, k388) :: (nat_lit 394, k394 P) :: (nat_lit 395, k395) :: (nat_lit 417, k417 P) :: (nat_lit 425, k425 P) :: (nat_lit 433, k433 P) :: (nat_lit 441, k441 P) :: (nat_lit 449, k449 P) :: (nat_lit 550, k550 P) :: (nat_lit 556, k556 P) :: (nat_lit 557, k557) :: (nat_lit 610, k610 P) :: (nat_lit 611, k611 P) :: (nat_lit 663, k663 P) :: (nat_lit 669, k669 P) :: (nat_lit 670, k670) :: (nat_lit 676, k676 P) :: (nat_lit 677, k677) :: (nat_lit 678, k678 P) :: (nat_lit 706, k706 P) :: (nat_lit 707, k707) :: (nat_lit 713, k713 P) :: (nat_lit 714, k714) :: (nat_lit 735, k735 P) :: (nat_lit 736, k736) :: (nat_lit 742, k742 P) :: (nat_lit 743, k743) :: (nat_lit 745, k745 P) :: (nat_lit 746, k746 P) :: (nat_lit 747, k747 P) :: (nat_lit 748, k748 P) :: (nat_lit 751, k751 P) :: (nat_lit 757, k757 P) :: (nat_lit 758, k758) :: (nat_lit 764, k764 P) :: (nat_lit 765, k765) :: (nat_lit 766, k766 P) :: (nat_lit 772, k772 P) :: (nat_lit 773, k773) :: (nat_lit 779, k779 P) :: (nat_lit 780, k780) :: (nat_lit 781, k781 P) :: (nat_lit 782, k782 P) :: (nat_lit 783, k783 P) :: (nat_lit 784, k784 P) :: (nat_lit 785, k785 P) :: (nat_lit 786, k786 P) :: (nat_lit 787, k787 P) :: (nat_lit 788, k788 P) :: (nat_lit 789, k789 P) :: (nat_lit 790, k790 P) :: (nat_lit 791, k791 P) :: (nat_lit 792, k792 P) :: (nat_lit 793, k793 P) :: (nat_lit 794, k794 P) :: (nat_lit 795, k795 P) :: (nat_lit 796, k796 P) :: (nat_lit 797, k797 P) :: (nat_lit 798, k798 P) :: (nat_lit 799, k799 P) :: (nat_lit 800, k800 P) :: (nat_lit 801, k801 P) :: (nat_lit 802, k802 P) :: (nat_lit 803, k803 P) :: (nat_lit 804, k804 P) :: (nat_lit 805, k805 P) :: (nat_lit 806, k806 P) :: (nat_lit 807, k807 P) :: (nat_lit 808, k808 P) :: (nat_lit 809, k809 P) :: (nat_lit 810, k810 P) :: (nat_lit 811, k811 P) :: (nat_lit 812, k812 P) :: (nat_lit 813, k813 P) :: (nat_lit 819, k819 P) :: (nat_lit 820, k820) :: (nat_lit 824, k824 P) :: (nat_lit 825, k825) :: (nat_lit 831, k831 P) :: (nat_lit 832, k832) :: (nat_lit 838, k838 P) :: (nat_lit 839, k839) :: (nat_lit 843, k843 P) :: (nat_lit 844, k844) :: (nat_lit 850, k850 P) :: (nat_lit 851, k851) :: []
noncomputable abbrev kAs : List Addr := nat_lit 2 :: nat_lit 3 :: nat_lit 50 :: nat_lit 51 :: nat_lit 57 :: nat_lit 58 :: nat_lit 62 :: nat_lit 63 :: nat_lit 69 :: nat_lit 70 :: nat_lit 76 :: nat_lit 77 :: nat_lit 86 :: nat_lit 87 :: nat_lit 88 :: nat_lit 103 :: nat_lit 104 :: nat_lit 106 :: nat_lit 107 :: nat_lit 108 :: nat_lit 109 :: nat_lit 110 :: nat_lit 121 :: nat_lit 122 :: nat_lit 133 :: nat_lit 134 :: nat_lit 173 :: nat_lit 363 :: nat_lit 364 :: nat_lit 374 :: nat_lit 380 :: nat_lit 381 :: nat_lit 387 :: nat_lit 388 :: nat_lit 394 :: nat_lit 395 :: nat_lit 417 :: nat_lit 425 :: nat_lit 433 :: nat_lit 441 :: nat_lit 449 :: nat_lit 550 :: nat_lit 556 :: nat_lit 557 :: nat_lit 610 :: nat_lit 611 :: nat_lit 663 :: nat_lit 669 :: nat_lit 670 :: nat_lit 676 :: nat_lit 677 :: nat_lit 678 :: nat_lit 706 :: nat_lit 707 :: nat_lit 713 :: nat_lit 714 :: nat_lit 735 :: nat_lit 736 :: nat_lit 742 :: nat_lit 743 :: nat_lit 745 :: nat_lit 746 :: nat_lit 747 :: nat_lit 748 :: nat_lit 751 :: nat_lit 757 :: nat_lit 758 :: nat_lit 764 :: nat_lit 765 :: nat_lit 766 :: nat_lit 772 :: nat_lit 773 :: nat_lit 779 :: nat_lit 780 :: nat_lit 781 :: nat_lit 782 :: nat_lit 783 :: nat_lit 784 :: nat_lit 785 :: nat_lit 786 :: nat_lit 787 :: nat_lit 788 :: nat_lit 789 :: nat_lit 790 :: nat_lit 791 :: nat_lit 792 :: nat_lit 793 :: nat_lit 794 :: nat_lit 795 :: nat_lit 796 :: nat_lit 797 :: nat_lit 798 :: nat_lit 799 :: nat_lit 800 :: nat_lit 801 :: nat_lit 802 :: nat_lit 803 :: nat_lit 804 :: nat_lit 805 :: nat_lit 806 :: nat_lit 807 :: nat_lit 808 :: nat_lit 809 :: nat_lit 810 :: nat_lit 811 :: nat_lit 812 :: nat_lit 813 :: nat_lit 819 :: nat_lit 820 :: nat_lit 824 :: nat_lit 825 :: nat_lit 831 :: nat_lit 832 :: nat_lit 838 :: nat_lit 839 :: nat_lit 843 :: nat_lit 844 :: nat_lit 850 :: nat_lit 851 :: []
noncomputable def vw : Program := { PySem.Challenge.pw_ny0408_02 with main := { PySem.Challenge.pw_ny0408_02.main with body := [nth body 0, nth body 1, nth body 62] } }
noncomputable abbrev loose0 : List Str := [Str.ofString "_wall", Str.ofString "_MAX_STRING_SIZE", Str.ofString "_MOVE_COST", Str.ofString "_CASE_COST", Str.ofString "_substitution_cost", Str.ofString "_levenshtein_distance", Str.ofString "_twin_re_1", Str.ofString "_whence", Str.ofString "_index", Str.ofString "UnsupportedOperation", Str.ofString "IOBase", Str.ofString "BufferedIOBase", Str.ofString "TextIOBase", Str.ofString "BytesIO", Str.ofString "StringIO", Str.ofString "_kind", Str.ofString "_fspath", Str.ofString "_check_arg_types", Str.ofString "isabs", Str.ofString "join", Str.ofString "join_path", Str.ofString "dirname", Str.ofString "shlex", Str.ofString "split", Str.ofString "join_shlex", Str.ofString "_find_unsafe", Str.ofString "quote", Str.ofString "S_IFMT", Str.ofString "S_IFDIR", Str.ofString "S_IFCHR", Str.ofString "S_IFBLK", Str.ofString "S_IFREG", Str.ofString "S_IFIFO", Str.ofString "S_IFLNK", Str.ofString "S_IFSOCK", Str.ofString "S_ISUID", Str.ofString "S_ISGID", Str.ofString "S_ISVTX", Str.ofString "S_IRUSR", Str.ofString "S_IWUSR", Str.ofString "S_IXUSR", Str.ofString "S_IRGRP", Str.ofString "S_IWGRP", Str.ofString "S_IXGRP", Str.ofString "S_IROTH", Str.ofString "S_IWOTH", Str.ofString "S_IXOTH", Str.ofString "_filemode_table", Str.ofString "filemode", Str.ofString "_law_told", Str.ofString "_law_signs", Str.ofString "_law_apart", Str.ofString "_law_due"]
noncomputable def loose : List Str := looseW vw loose0
end
section
set_option maxRecDepth 100000
noncomputable def topQ (p : Program) (w : World) (n₀ : Nat) (ann : Option Value) : Nat → SharedT → Thread → Option SharedT
  | 0, _, _ => none
  | n + 1, s, t => match through t with
    | true => some s
    | false => match PySem.W.Fast.tw6613529449190102663 n₀ ann t with
      | false => none
      | true => match PySem.W.Fast.tw10156331382660048174 (PySem.W.Fast.tw11892475500146522536 PySem.W.Fast.tw14364793385576792824) p w s t with
        | some (s', t') => topQ p w n₀ ann n s' t'
        | none => none
theorem topQ_of {p : Program} {w : World} {n₀ : Nat} {ann : Option Value} : ∀ {n : Nat} {s s' : SharedT} {t : Thread}, topQ p w n₀ ann n s t = some s' → topRun treeTable p w n₀ ann n s.abs t = some s'.abs
  | 0, s, s', t, h => by cases h
  | n + 1, s, s', t, h => by
    unfold topQ at h
    unfold topRun
    cases he : through t with
    | true => rw [he] at h; cases h; rfl
    | false =>
      rw [he] at h
      dsimp only at h ⊢
      rw [← PySem.W.Fast.te6613529449190102663] at h
      cases hk : stepOk n₀ ann t with
      | false => rw [hk] at h; cases h
      | true =>
        rw [hk] at h
        dsimp only at h ⊢
        rw [← PySem.W.Fast.te10156331382660048174, ← PySem.W.Fast.te11892475500146522536, ← PySem.W.Fast.te14364793385576792824] at h
        cases hs : stepT (denote treeTable) p w s t with
        | none => rw [hs] at h; cases h
        | some r => obtain ⟨s₂, t₂⟩ := r; rw [hs] at h; dsimp only at h; rw [stepT_spec hs]; exact topQ_of h
noncomputable def impQ (p : Program) (w : World) : Nat → SharedT → Thread → Option SharedT
  | 0, _, _ => none
  | n + 1, s, t => match PySem.W.Fast.tw3805553451399329143 t with
    | some [] => some s
    | some (_ :: _) => none
    | none => match PySem.W.Fast.tw10156331382660048174 (PySem.W.Fast.tw11892475500146522536 PySem.W.Fast.tw14364793385576792824) p w s t with
      | some (s', t') => impQ p w n s' t'
      | none => none
theorem impQ_of {p : Program} {w : World} : ∀ {n : Nat} {s s' : SharedT} {t : Thread}, impQ p w n s t = some s' → importEnds treeTable p w n s.abs t = some s'.abs
  | 0, s, s', t, h => by cases h
  | n + 1, s, s', t, h => by
    unfold impQ at h
    unfold importEnds
    rw [← PySem.W.Fast.te3805553451399329143] at h
    cases he : t.atExitBegin with
    | some l =>
      rw [he] at h
      cases l with
      | nil => cases h; rfl
      | cons a b => cases h
    | none =>
      rw [he] at h
      dsimp only at h ⊢
      rw [← PySem.W.Fast.te10156331382660048174, ← PySem.W.Fast.te11892475500146522536, ← PySem.W.Fast.te14364793385576792824] at h
      cases hs : stepT (denote treeTable) p w s t with
      | none => rw [hs] at h; cases h
      | some r => obtain ⟨s₂, t₂⟩ := r; rw [hs] at h; dsimp only at h; rw [stepT_spec hs]; exact impQ_of h
noncomputable def ofL : List Obj → Nat → BT → Option BT
  | [], _, t => some t
  | o :: r, n, t => match ((t.ins n o).get n).isSome with
    | true => ofL r (n + 1) (t.ins n o)
    | false => none
theorem ofL_of {life : Life} : ∀ {l : List Obj} {n : Nat} {t t' : BT}, ofL l n t = some t' → (absHeap t' (n + l.length) life).objs.toList = (absHeap t n life).objs.toList ++ l
  | [], n, t, t', h => by cases h; simp
  | o :: r, n, t, t', h => by
    unfold ofL at h
    cases hs : ((t.ins n o).get n).isSome with
    | false => rw [hs] at h; cases h
    | true =>
      rw [hs] at h
      have e := ofL_of (life := life) h
      rw [absHeap_ins hs] at e
      rw [List.length_cons, show n + (r.length + 1) = n + 1 + r.length by lia, e]
      simp [Heap.push]
theorem ofL_heap {h : Heap} {t : BT} (e : ofL h.objs.toList 0 .nil = some t) : absHeap t h.objs.size h.life = h := by
  have := ofL_of (life := h.life) e
  rw [Nat.zero_add, Array.length_toList] at this
  have z : (absHeap BT.nil 0 h.life).objs.toList = [] := rfl
  rw [z, List.nil_append] at this
  cases h with
  | mk objs life =>
    have q : (absHeap t objs.size life).objs = objs := Array.toList_inj.mp this
    show absHeap t objs.size life = ⟨objs, life⟩
    cases hh : absHeap t objs.size life with
    | mk o l =>
      rw [hh] at q
      have : l = life := by have := congrArg Heap.life hh; exact this.symm
      subst this
      cases q
      rfl
noncomputable def startT (p : Program) : SharedT := ⟨.nil, 0, (PySem.W.Fast.tw1435165496053646825 p).1.heap.life, (PySem.W.Fast.tw1435165496053646825 p).1.gens, (PySem.W.Fast.tw1435165496053646825 p).1.drawn, (PySem.W.Fast.tw1435165496053646825 p).1.toks, (PySem.W.Fast.tw1435165496053646825 p).1.os⟩
noncomputable def opened (p : Program) (w : World) (N : Nat) : Option Shared := (impQ (opening p) w N (startT (opening p)) (PySem.W.Fast.tw1435165496053646825 (opening p)).2).bind fun s => PySem.W.Fast.tw14289696077712309145 p s.abs
noncomputable def isAt (a : Addr) : Option Value → Bool
  | some (.ref b) => Nat.beq b a
  | _ => false
theorem isAt_of {a : Addr} : ∀ {v : Option Value}, isAt a v = true → v = some (.ref a)
  | some (.ref b), h => by rw [Nat.eq_of_beq_eq_true (n := b) (m := a) h]
noncomputable def endsQ (p : Program) (w : World) (N m₀ : Nat) (an : Addr) : Option Shared :=
  (opened p w N).bind fun s₀ => match s₀.heap.isNs mainGlobals && s₀.gens.size == 0 && Nat.beq s₀.heap.objs.size m₀ && isAt an (PySem.W.Fast.tw8920871248978507458 s₀.heap mainGlobals "__annotations__") with
    | false => none
    | true => (ofL s₀.heap.objs.toList 0 .nil).bind fun t =>
      (topQ p w m₀ (some (.ref an)) N ⟨t, m₀, s₀.heap.life, s₀.gens, s₀.drawn, s₀.toks, s₀.os⟩ (topStub p)).bind fun s₁ =>
        match staticsOk (importedModules p.main.body) s₀.heap s₁.abs.heap && namesBound p s₁.abs.heap && gensDone s₁.abs && laidKept s₀.heap s₁.abs.heap with
        | true => some s₁.abs
        | false => none
theorem endsQ_of {p : Program} {w : World} {N m₀ : Nat} {an : Addr} {s : Shared} (h : endsQ p w N m₀ an = some s) : openEnds treeTable p w N = some s := by
  unfold endsQ at h
  obtain ⟨s₀, h0, h1⟩ := Option.bind_eq_some_iff.mp h
  unfold opened at h0
  obtain ⟨s', h2, h3⟩ := Option.bind_eq_some_iff.mp h0
  have a := impQ_of h2
  rw [← PySem.W.Fast.te14289696077712309145] at h3
  have e0 : (startT (opening p)).abs = (start (opening p)).1 := by
    rw [startT, ← PySem.W.Fast.te1435165496053646825]
    rfl
  rw [e0, ← PySem.W.Fast.te1435165496053646825] at a
  have f : fencedOpening treeTable p w N = some s₀ := by
    unfold fencedOpening
    rw [a]
    exact h3
  unfold openEnds
  rw [f]
  show topFrom treeTable p w N s₀ = some s
  rw [← PySem.W.Fast.te8920871248978507458] at h1
  cases hc : (s₀.heap.isNs mainGlobals && s₀.gens.size == 0 && Nat.beq s₀.heap.objs.size m₀ && isAt an (s₀.heap.nsMap mainGlobals "__annotations__")) with
  | false => rw [hc] at h1; cases h1
  | true =>
    rw [hc] at h1
    dsimp only at h1
    obtain ⟨t, h4, h5⟩ := Option.bind_eq_some_iff.mp h1
    obtain ⟨s₁, h6, h7⟩ := Option.bind_eq_some_iff.mp h5
    simp only [Bool.and_eq_true] at hc
    obtain ⟨⟨⟨c1, c2⟩, c3⟩, c4⟩ := hc
    have c3' := Nat.eq_of_beq_eq_true c3
    have c4' := isAt_of c4
    subst c3'
    have b := topQ_of h6
    have e1 : (SharedT.mk t s₀.heap.objs.size s₀.heap.life s₀.gens s₀.drawn s₀.toks s₀.os).abs = s₀ := by
      show Shared.mk (absHeap t s₀.heap.objs.size s₀.heap.life) _ _ _ _ = s₀
      rw [ofL_heap h4]
    rw [e1] at b
    unfold topFrom
    rw [c1, c2, c4']
    show (topRun treeTable p w s₀.heap.objs.size (some (.ref an)) N s₀ (topStub p)).bind _ = _
    rw [b]
    exact h7
noncomputable abbrev rr : OpenRow := PySem.Challenge.rw_ny0408_02.row
noncomputable abbrev Xq (s : Shared) : Bool := xlAt vw [] s && recOk (RowW.records (OpenRow.toRowW rr)) s
noncomputable abbrev Kp (P : Params) : Frag := (nat_lit 760, { cls := Value.none, data := Data.fields #[] }) :: K P
noncomputable abbrev kAp : List Addr := nat_lit 760 :: kAs
noncomputable abbrev Hk : Hook := kHook Kp kAp (fun _ => by kernel_rfl)
theorem left : LeftO rr.toRowW.prog vw loose0 Xq (Hook.obs Hk) (Hook.val Hk) 6000 := fun w => by
  have c : (endsQ PySem.Challenge.pw_ny0408_02 w 6000 34 6).map (fun s => (PySem.W.Fast.tw4187177175401517315 vw loose0 (importedModules PySem.Challenge.pw_ny0408_02.main.body) Xq true s, Hook.obs Hk s)) = some (openGood vw loose0, Hook.val Hk w) := by kernel_rfl
  rw [← PySem.W.Fast.te4187177175401517315] at c
  obtain ⟨s, h, e⟩ := Option.map_eq_some_iff.mp c
  show (openEnds treeTable PySem.Challenge.pw_ny0408_02 w 6000).map (fun s => (openSeen vw loose0 (importedModules PySem.Challenge.pw_ny0408_02.main.body) Xq true s, Hook.obs Hk s)) = some (openGood vw loose0, Hook.val Hk w)
  rw [endsQ_of h]
  exact congrArg some e
end
section
set_option maxRecDepth 100000
set_option maxHeartbeats 8000000
theorem look1 : PySem.W.Fast.tw11788848310118352699 PySem.Challenge.pw_ny0408_02.main = true := by kernel_rfl
theorem look2 : ((PySem.W.Fast.tw9807087744658564304 PySem.Challenge.pw_ny0408_02.main.body).isEmpty || PySem.W.Fast.tw12862048085361865435 (PySem.W.Fast.tw9807087744658564304 PySem.Challenge.pw_ny0408_02.main.body) PySem.Challenge.pw_ny0408_02.main.body) = true := by kernel_rfl
theorem look3 : PySem.W.Fast.tw8377067652309620493 PySem.Challenge.pw_ny0408_02 = true := by kernel_rfl
theorem look4 : (R.allR (PySem.W.Fast.tw18344453789297297638 PySem.Challenge.pw_ny0408_02) fun n => !PySem.W.Fast.tw3471404346716756564 PySem.W.Fast.tw14412699480532031325 n) = true := by kernel_rfl
noncomputable abbrev lookAt (p : Program) : Look := { strict := !R.allR (PySem.W.Fast.tw5923862056798008813 p.main.body) (PySem.W.Fast.tw3471404346716756564 PySem.W.Fast.tw17691160309236699985), foot := none, bare := R.filterR (PySem.W.Fast.tw13343964577679436407 p p.main.body) [{ cps := { toList := [118, 97, 114, 115] } }, { cps := { toList := [100, 105, 114] } }, { cps := { toList := [108, 111, 99, 97, 108, 115] } }] }
theorem look5 : PySem.W.Fast.tw8326940854005059898 (lookAt PySem.Challenge.pw_ny0408_02) PySem.Challenge.pw_ny0408_02.main.body = true := by kernel_rfl
theorem look6 : (PySem.W.Fast.tw17119622794617984870 PySem.Challenge.pw_ny0408_02 PySem.Challenge.pw_ny0408_02.main.body fun _ n => PySem.W.Fast.tw17868728402115742887 n) = true := by kernel_rfl
theorem looks : PySem.W.Fast.tw12908688711261696721 PySem.Challenge.pw_ny0408_02 = true := by
  delta PySem.W.Fast.tw12908688711261696721
  exact look_both (look_both (look_both (look_both (look_both look1 look2) look3) look4) look5) look6
theorem said : OpenLaw.wellSaid PySem.Challenge.rw_ny0408_02 = true := by
  rw [PySem.W.Fast.te9446332074065402090]
  delta PySem.W.Fast.tw9446332074065402090
  repeat' (with_reducible refine look_both ?_ ?_)
  delta PySem.W.Fast.tw17960256430627541270
  repeat' (with_reducible refine look_both ?_ ?_)
  delta PySem.W.Fast.tw2436336058641802641
  repeat' (with_reducible refine look_both ?_ ?_)
  exact looks
  all_goals kernel_rfl
theorem hd : ∀ {d : DefRec} {kwd : List (Str × Expr)}, defOf vw rr.name = some (d, kwd) → rr.prog.theDef rr.name = some (d.params, d.body, d.scope) → kwWritten? d.params.kwonlyargs d.params.kw_defaults = some kwd →
    WalkO vw loose0 (XL vw []) (Hook.says Hk) rr.toRowW d kwd (fun f vs => PySem.call f vs) → PySem.Challenge.rw_ny0408_02.Holds := by
  intro d kwd h1 h2 h3 walk
  refine holds_law said fun sd => ?_
  refine holds_open (q := vw) (loose := loose0) (Xt := Xq) (XP := XL vw []) (Yf := Hook.obs Hk) (Ya := Hook.val Hk) (YP := Hook.says Hk) (N := 6000) left (Hook.of Hk) (Hook.keeps Hk) (fun s e => xl_of s (Bool.and_eq_true_iff.mp e).1) XL.keeps h1 h2 h3 (fun s e => recFacts_of (Bool.and_eq_true_iff.mp e).2) (by rfl) sd (by decide +kernel) ⟨rfl, rfl, rfl, rfl, rfl, by decide +kernel⟩ ?hw walk
  case hw => w_witness2
end
section
theorem tkGen {α : Type} {mo : Model} {A : Around} {x : Sem α} {Q : α → Shared → Prop} {E : Value → Shared → Prop} {h : Heap} {g : Array GenState} {d : Drawn} {t n : Nat} {o : OsState} (k : ∀ tk, wpAny mo A x Q E ⟨h, g, d, tk, o⟩) : wpAny mo A x Q E ⟨h, g, d, t + n, o⟩ := k _
theorem toBE {h₀ h : Heap} {L : Addr} {m : Str → Option Value} (ps : List (Str × Value)) (F : Fr h₀ L h m) (hp : ∀ p ∈ ps, m p.1 = some p.2) : ∃ u, Fr h₀ L h (kstB u ps) :=
  ⟨m, by have e : kstB m ps = m := funext fun z => kstB_eq hp fun _ => rfl
         rw [e]; exact F⟩
end
section
noncomputable abbrev cl (x : Str) : List Nat := x.cps.toList
noncomputable def sOf (l : List Nat) : Str := ⟨l.toArray⟩
theorem cl_sOf (l : List Nat) : cl (sOf l) = l := by simp [cl, sOf]
theorem sOf_cl (x : Str) : sOf (cl x) = x := by simp [cl, sOf]
theorem len_cl (x : Str) : (cl x).length = x.length := by simp [cl, Str.length]
theorem len_sOf (l : List Nat) : (sOf l).length = l.length := by simp [sOf, Str.length]
theorem sOf_inj {l l' : List Nat} (h : sOf l = sOf l') : l = l' := by
  have := congrArg cl h
  rwa [cl_sOf, cl_sOf] at this
theorem add_neg_lt (z : Int) {k : Int} (h : k < 0) : z + k < z := by
  have := Int.add_lt_add_left h z
  rwa [Int.add_zero] at this
theorem up_nat {k : Int} (h0 : 0 ≤ k) : (k + 1).toNat = k.toNat + 1 := by
  obtain ⟨m, rfl⟩ := Int.eq_ofNat_of_zero_le h0
  rfl
theorem slice_from {x : Str} {i : Int} (h0 : 0 ≤ i) (h : i ≤ x.length) : Txt.slice x (some i) none = sOf ((cl x).drop i.toNat) := by
  rw [slice_from_eq h0 h rfl]
  unfold sOf
  rw [List.take_of_length_le]
  rw [List.length_drop]
  obtain ⟨m, rfl⟩ := Int.eq_ofNat_of_zero_le h0
  show (cl x).length - m ≤ _
  rw [len_cl]
  exact Nat.le_of_eq (Int.toNat_sub _ _).symm
theorem slice_to {x : Str} {j : Int} (h0 : 0 ≤ j) (h : j ≤ x.length) : Txt.slice x none (some j) = sOf ((cl x).take j.toNat) := by
  have e := eq_of_beq (slice_closes_toL h0 h)
  rw [e]
  simp [sOf]
theorem idx_neg (n : Nat) {j : Int} (h : j < 0) (h' : 0 ≤ (n : Int) + j) : Builtin.Str.strSliceIndices none (some j) 1 n = Builtin.Str.strSliceIndices none (some ((n : Int) + j)) 1 n := by
  have a2 : ¬ ((n : Int) + j < 0) := Int.not_lt.mpr h'
  simp only [Builtin.Str.strSliceIndices, h, a2, if_true, if_false]
  rw [Int.add_comm j]
theorem slice_neg {x : Str} {j : Int} (h : j < 0) (h' : 0 ≤ (x.length : Int) + j) : Txt.slice x none (some j) = sOf ((cl x).take ((x.length : Int) + j).toNat) := by
  rw [← slice_to h' (Int.le_of_lt (add_neg_lt _ h))]
  unfold Txt.slice
  rw [idx_neg _ h h']
theorem slice_all (x : Str) : Txt.slice x none none = x := by
  have e : Builtin.Str.strSliceIndices none none 1 x.length = Builtin.Str.strSliceIndices none (some (x.length : Int)) 1 x.length := by
    have a2 : ¬ ((x.length : Int) < 0) := by lia
    simp [Builtin.Str.strSliceIndices, a2]
  have e2 : Txt.slice x none none = Txt.slice x none (some (x.length : Int)) := by
    unfold Txt.slice
    rw [e]
  rw [e2, slice_to (by lia) (by lia)]
  have := len_cl x
  rw [List.take_of_length_le (by lia), sOf_cl]
theorem item_at {x : Str} {k : Int} (h0 : 0 ≤ k) (h : k < x.length) : Txt.item x k = sOf [(cl x).getD k.toNat 0] := by
  unfold Txt.item Txt.charAt
  have a : seqIndex? k x.length = some k.toNat := by
    simp [seqIndex?]
    lia
  rw [a]
  have hl : k.toNat < x.cps.size := (Int.toNat_lt h0).mpr h
  simp [sOf, cl, hl]
theorem item_neg {x : Str} {k : Int} (h0 : k < 0) (h : 0 ≤ (x.length : Int) + k) : Txt.item x k = sOf [(cl x).getD ((x.length : Int) + k).toNat 0] := by
  unfold Txt.item Txt.charAt
  have a : seqIndex? k x.length = some ((x.length : Int) + k).toNat := by
    have b : ¬ 0 ≤ k := Int.not_le.mpr h0
    simp [seqIndex?]
    lia
  rw [a]
  have hl : ((x.length : Int) + k).toNat < x.cps.size := (Int.toNat_lt h).mpr (add_neg_lt _ h0)
  simp [sOf, cl, hl]
noncomputable def preLen : List Nat → List Nat → Nat
  | x :: xs, y :: ys => if x = y then preLen xs ys + 1 else 0
  | _, _ => 0
theorem preLen_le : ∀ (a b : List Nat), preLen a b ≤ a.length ∧ preLen a b ≤ b.length
  | [], b => by simp [preLen]
  | x :: xs, [] => by simp [preLen]
  | x :: xs, y :: ys => by
    have ih := preLen_le xs ys
    unfold preLen
    split
    · simp only [List.length_cons]; lia
    · simp
theorem preLen_exit : ∀ (a b : List Nat) (p : Nat), p ≤ a.length → p ≤ b.length → a.take p = b.take p → (p = a.length ∨ p = b.length ∨ a.getD p 0 ≠ b.getD p 0) → preLen a b = p
  | [], b, p, h1, _, _, _ => by simp at h1; subst h1; simp [preLen]
  | x :: xs, [], p, _, h2, _, _ => by simp at h2; subst h2; simp [preLen]
  | x :: xs, y :: ys, 0, _, _, _, h => by
    simp at h
    unfold preLen
    rw [if_neg h]
  | x :: xs, y :: ys, p + 1, h1, h2, h3, h => by
    simp only [List.take_succ_cons, List.cons.injEq] at h3
    have ih := preLen_exit xs ys p (by simpa using h1) (by simpa using h2) h3.2 (by simpa using h)
    unfold preLen
    rw [if_pos h3.1, ih]
theorem take_step {a b : List Nat} {p : Nat} (h1 : p < a.length) (h2 : p < b.length) (h : a.take p = b.take p) (e : a.getD p 0 = b.getD p 0) : a.take (p + 1) = b.take (p + 1) := by
  have e1 : a[p]? = some (a.getD p 0) := by simp [h1]
  have e2 : b[p]? = some (b.getD p 0) := by simp [h2]
  rw [List.take_add_one, List.take_add_one, h, e1, e2, e]
theorem rev_getD {a : List Nat} {k : Nat} (h : k < a.length) : a.reverse.getD k 0 = a.getD (a.length - 1 - k) 0 := by
  have h' : a.length - 1 - k < a.length := Nat.lt_of_le_of_lt (Nat.sub_le _ _) (Nat.sub_lt (Nat.zero_lt_of_lt h) Nat.one_pos)
  simp [List.getD_eq_getElem?_getD, List.getElem?_reverse h]
end
section
set_option maxRecDepth 100000
set_option maxHeartbeats 8000000
noncomputable def Halt (P : Prop) : Prop := P
theorem halt {P : Prop} (h : Halt P) : P := h
theorem fill {P : Prop} (h : PySem.Challenge.rw_ny0408_02.prog = PySem.Challenge.rw_ny0408_02.prog → P) : P := h rfl
section
variable {prog : Program} {w : World} {A : Around} {E : Value → Shared → Prop} {Q : Flow → Shared → Prop} {s : Shared} {env : Env} {h₀ : Heap} {L : Addr} {st : Stmt}
theorem cutS {σ : Type} {m : Str → Option Value} (F : Fr h₀ L s.heap m) (Led : σ → List (Addr × Obj)) (ps : σ → List (Str × Value)) (P : σ → Prop)
    (h1 : ∀ Q' : Flow → Shared → Prop, (∀ (c : σ) (u : Str → Option Value) h tk, P c → Fr h₀ L h (kstB u (ps c)) → News h₀ L h (Led c) → Q' .next { s with heap := h, toks := tk }) → wpAny (model prog w) A (exec st env) Q' E s)
    (h2 : ∀ (c : σ) (u : Str → Option Value) h tk, P c → Fr h₀ L h (kstB u (ps c)) → News h₀ L h (Led c) → Q .next { s with heap := h, toks := tk }) :
    wpAny (model prog w) A (exec st env) Q E s := h1 Q h2
theorem toB {h : Heap} {m : Str → Option Value} (ps : List (Str × Value)) (F : Fr h₀ L h m) (hp : ∀ p ∈ ps, m p.1 = some p.2) : Fr h₀ L h (kstB m ps) := by
  have e : kstB m ps = m := funext fun z => kstB_eq hp fun _ => rfl
  rw [e]; exact F
end
noncomputable abbrev MClaim (prog : Program) (w : World) (K : Frag) (p : Program) (loose : List Str) (mean : ExcName → Option Value) (mg mb : Str → Option Value) (f : Addr) (news : List (Addr × Obj)) (pre : Prop) (vs : List Value) (R : Tok → Value) : Prop :=
  ∀ (dp un : Nat) (gd : Option (List Code)) (cn : Str) (cs : Scope) (a : Addr) (ccd : Value) (cl : List (Str × Addr)) (outer : List Env) (A₀ : Around) (base h₀ : Heap) (L : Addr) (m : Str → Option Value) (s : Shared) (Q E : Value → Shared → Prop),
    Below A₀ base outer h₀ → Fr h₀ L s.heap m → K.In h₀ → News h₀ L s.heap news → Top p loose mean mg mb h₀ → cs.kind = .function →
    pre → dp + 40 < recursionLimit → un + 400 < cLine → CbRet h₀ L m news s Q R →
      wpAny (model prog w) (ktrTop dp un gd cn cs L a ccd cl outer) (call (.ref f) vs) Q E s
noncomputable def scost (x y : Str) : Int := if x = y then 0 else if Txt.lower x = Txt.lower y then 1 else 2
noncomputable def scN (c d : Nat) : Int := scost (sOf [c]) (sOf [d])
noncomputable def istep (c : Nat) (A : List Nat) (k : Nat) (s : Int × Int × Int × List Int) : Int × Int × Int × List Int :=
  let r := if s.1 + scN c (A.getD k 0) < (if s.2.2.2.getD k 0 < s.2.1 then s.2.2.2.getD k 0 else s.2.1) + 2 then s.1 + scN c (A.getD k 0) else (if s.2.2.2.getD k 0 < s.2.1 then s.2.2.2.getD k 0 else s.2.1) + 2
  (s.2.2.2.getD k 0, r, if r < s.2.2.1 then r else s.2.2.1, s.2.2.2.set k r)
noncomputable def iters (c : Nat) (A : List Nat) : Nat → Int × Int × Int × List Int → Int × Int × Int × List Int
  | 0, s => s
  | n + 1, s => istep c A n (iters c A n s)
noncomputable def orun (A B : List Nat) (mc : Int) : Nat → List Int → Option (List Int × Int)
  | 0, row => some (row, 0)
  | k + 1, row0 => match orun A B mc k row0 with
    | none => none
    | some (row, _) =>
      let t := iters (B.getD k 0) A A.length ((k : Int) * 2, (k : Int) * 2, 9223372036854775807, row)
      if t.2.2.1 > mc then none else some (t.2.2.2, t.2.1)
noncomputable def row0 (n : Nat) : List Int := (List.range n).map fun (i : Nat) => 2 * ((i : Int) + 1)
noncomputable def levD (A B : List Nat) (mc : Int) : Int :=
  if 2 * ((B.length : Int) - A.length) > mc then mc + 1 else match orun A B mc B.length (row0 A.length) with
    | none => mc + 1
    | some (_, r) => r
noncomputable def levR (A B : List Nat) (mc : Int) : Int :=
  if A = [] ∨ B = [] then 2 * ((A.length : Int) + B.length)
  else if B.length < A.length then levD B A mc else levD A B mc
noncomputable def levS (A B : List Nat) (mc : Int) : Int :=
  let q := preLen A.reverse B.reverse
  levR (A.take (A.length - q)) (B.take (B.length - q)) mc
noncomputable def levL (x y : List Nat) (mc : Int) : Int :=
  if x = y then 0 else
  let p := preLen x y
  levS (x.drop p) (y.drop p) mc
theorem subst_c (w : World) (mean : ExcName → Option Value) (mg mb : Str → Option Value) (x y : Str) (tx ty : Tok) (news : List (Addr × Obj)) :
    CbClaim PySem.Challenge.pw_ny0408_02 w (Mine.K w.params) Mine.vw loose mean mg mb 51 news [] (x.length ≤ 1 ∧ y.length ≤ 1) [.str x tx, .str y ty] (fun t => .int (scost x y) t) := by
  refine fill ?_
  k_fill
  intro _
  dsimp only [CbClaim, CbLists, CbRet]
  intros
  rename_i hret
  refine wpAny_call ?_
  k_dflt cell_enter
  k_steps
  all_goals (refine cb_retI hret ?_ (by k_asm) (by k_asm))
  all_goals (clear hret)
  all_goals (simp_all [scost]; done)
end
section
theorem ltc0 {a d : Addr} {R : Prop} (h : @LT.lt Nat _ a d ∧ R) : a ≠ d := Nat.ne_of_lt h.1
theorem ltc1 {a d : Addr} {P0 : Prop} {R : Prop} (h : P0 ∧ @LT.lt Nat _ a d ∧ R) : a ≠ d := Nat.ne_of_lt h.2.1
theorem ltc2 {a d : Addr} {P0 P1 : Prop} {R : Prop} (h : P0 ∧ P1 ∧ @LT.lt Nat _ a d ∧ R) : a ≠ d := Nat.ne_of_lt h.2.2.1
theorem ltc3 {a d : Addr} {P0 P1 P2 : Prop} {R : Prop} (h : P0 ∧ P1 ∧ P2 ∧ @LT.lt Nat _ a d ∧ R) : a ≠ d := Nat.ne_of_lt h.2.2.2.1
theorem ltc4 {a d : Addr} {P0 P1 P2 P3 : Prop} {R : Prop} (h : P0 ∧ P1 ∧ P2 ∧ P3 ∧ @LT.lt Nat _ a d ∧ R) : a ≠ d := Nat.ne_of_lt h.2.2.2.2.1
theorem ltc5 {a d : Addr} {P0 P1 P2 P3 P4 : Prop} {R : Prop} (h : P0 ∧ P1 ∧ P2 ∧ P3 ∧ P4 ∧ @LT.lt Nat _ a d ∧ R) : a ≠ d := Nat.ne_of_lt h.2.2.2.2.2.1
theorem ltc6 {a d : Addr} {P0 P1 P2 P3 P4 P5 : Prop} {R : Prop} (h : P0 ∧ P1 ∧ P2 ∧ P3 ∧ P4 ∧ P5 ∧ @LT.lt Nat _ a d ∧ R) : a ≠ d := Nat.ne_of_lt h.2.2.2.2.2.2.1
theorem ltc7 {a d : Addr} {P0 P1 P2 P3 P4 P5 P6 : Prop} {R : Prop} (h : P0 ∧ P1 ∧ P2 ∧ P3 ∧ P4 ∧ P5 ∧ P6 ∧ @LT.lt Nat _ a d ∧ R) : a ≠ d := Nat.ne_of_lt h.2.2.2.2.2.2.2.1
theorem ltc8 {a d : Addr} {P0 P1 P2 P3 P4 P5 P6 P7 : Prop} {R : Prop} (h : P0 ∧ P1 ∧ P2 ∧ P3 ∧ P4 ∧ P5 ∧ P6 ∧ P7 ∧ @LT.lt Nat _ a d ∧ R) : a ≠ d := Nat.ne_of_lt h.2.2.2.2.2.2.2.2.1
theorem adn1 (a : Addr) : @Ne Nat (a + 1) (a + 1 + 1) := Nat.ne_of_lt (Nat.lt_succ_self _)
theorem adn2 (a : Addr) : @Ne Nat (a + 1) (a + 1 + 1 + 1) := Nat.ne_of_lt (Nat.lt_succ_of_lt (Nat.lt_succ_self _))
theorem adn3 (a : Addr) : @Ne Nat (a + 1 + 1) (a + 1 + 1 + 1) := Nat.ne_of_lt (Nat.lt_succ_self _)
theorem ne_all {d : Addr} {l : List (Addr × Obj)} (h : AllLt d l) : ∀ p ∈ l, p.1 ≠ d := by
  induction l with
  | nil => intro p hp; cases hp
  | cons q r ih =>
    intro p hp
    rcases List.mem_cons.mp hp with rfl | hp
    · exact Nat.ne_of_lt h.1
    · exact ih h.2 p hp
theorem lt_all {d : Addr} {l : List (Addr × Obj)} (h : AllLt d l) : ∀ p ∈ l, p.1 < d := by
  induction l with
  | nil => intro p hp; cases hp
  | cons q r ih =>
    intro p hp
    rcases List.mem_cons.mp hp with rfl | hp
    · exact h.1
    · exact ih h.2 p hp
theorem ne_lt {d : Addr} {l : List (Addr × Obj)} (h : ∀ p ∈ l, p.1 < d) : ∀ p ∈ l, p.1 ≠ d := fun p hp => Nat.ne_of_lt (h p hp)
theorem ne_all1 {d : Addr} {l : List (Addr × Obj)} {P1 : Prop} (h : P1 ∧ AllLt d l) : ∀ p ∈ l, p.1 ≠ d := ne_all h.2
theorem ne_all2 {d : Addr} {l : List (Addr × Obj)} {P1 P2 : Prop} (h : P1 ∧ P2 ∧ AllLt d l) : ∀ p ∈ l, p.1 ≠ d := ne_all h.2.2
theorem ne_all3 {d : Addr} {l : List (Addr × Obj)} {P1 P2 P3 : Prop} (h : P1 ∧ P2 ∧ P3 ∧ AllLt d l) : ∀ p ∈ l, p.1 ≠ d := ne_all h.2.2.2
theorem ne_all4 {d : Addr} {l : List (Addr × Obj)} {P1 P2 P3 P4 : Prop} (h : P1 ∧ P2 ∧ P3 ∧ P4 ∧ AllLt d l) : ∀ p ∈ l, p.1 ≠ d := ne_all h.2.2.2.2
theorem ne_all5 {d : Addr} {l : List (Addr × Obj)} {P1 P2 P3 P4 P5 : Prop} (h : P1 ∧ P2 ∧ P3 ∧ P4 ∧ P5 ∧ AllLt d l) : ∀ p ∈ l, p.1 ≠ d := ne_all h.2.2.2.2.2
theorem ne_all6 {d : Addr} {l : List (Addr × Obj)} {P1 P2 P3 P4 P5 P6 : Prop} (h : P1 ∧ P2 ∧ P3 ∧ P4 ∧ P5 ∧ P6 ∧ AllLt d l) : ∀ p ∈ l, p.1 ≠ d := ne_all h.2.2.2.2.2.2
theorem ne_all7 {d : Addr} {l : List (Addr × Obj)} {P1 P2 P3 P4 P5 P6 P7 : Prop} (h : P1 ∧ P2 ∧ P3 ∧ P4 ∧ P5 ∧ P6 ∧ P7 ∧ AllLt d l) : ∀ p ∈ l, p.1 ≠ d := ne_all h.2.2.2.2.2.2.2
theorem ne_all8 {d : Addr} {l : List (Addr × Obj)} {P1 P2 P3 P4 P5 P6 P7 P8 : Prop} (h : P1 ∧ P2 ∧ P3 ∧ P4 ∧ P5 ∧ P6 ∧ P7 ∧ P8 ∧ AllLt d l) : ∀ p ∈ l, p.1 ≠ d := ne_all h.2.2.2.2.2.2.2.2
theorem list_in {h₀ h : Heap} {L l : Addr} {all news : List (Addr × Obj)} {us : List Value} {c : Nat} (N : News h₀ L h all) (hm : (l, listOf us.toArray c) ∈ news) (hs : ∀ p ∈ news, p ∈ all) : h.IsList l us.toArray := ⟨_, (N _ (hs _ hm)).1, rfl, _, rfl⟩
end
section
local macro_rules | `(tactic| k_room) => `(tactic| ((try simp only [depth_mark, depth_under_make, depth_under_kw, depth_in1, depth_deeper, depth_caller]); lia))
local macro_rules | `(tactic| k_ne) => `(tactic| first | assumption | exact Ne.symm (by assumption) | exact adn1 _ | exact adn2 _ | exact adn3 _ | exact (adn1 _).symm | exact (adn2 _).symm | exact (adn3 _).symm)
local macro_rules | `(tactic| k_all) => `(tactic| first | exact ne_all1 (by assumption) | exact ne_all2 (by assumption) | exact ne_all3 (by assumption) | exact ne_all4 (by assumption) | exact ne_all5 (by assumption) | exact ne_all6 (by assumption) | exact ne_all7 (by assumption) | exact ne_all8 (by assumption))
local macro_rules | `(tactic| k_all) => `(tactic| first | assumption | exact ne_lt (by assumption) | exact ne_all (by assumption))
section
set_option maxRecDepth 100000
section
variable {prog : Program} {w : World} {A : Around} {E : Value → Shared → Prop} {s : Shared} {env : Env} {h₀ : Heap} {target : Expr} {body orelse : List Stmt} {Q : Flow → Shared → Prop}

noncomputable def TurnE (h₀ : Heap) (L : Addr) (s₁ : Shared) (wr : List Addr) (own : List (Addr × Obj)) (J : (Str → Option Value) → List (Addr × Obj) → Prop) (Q : Flow → Shared → Prop) (f : Flow) (s₂ : Shared) : Prop :=
  match f with
  | .ret v => Q (.ret v) s₂
  | .brk => Q .next s₂
  | _ => ∃ h' tk m' news', s₂ = { s₁ with heap := h', toks := tk } ∧ Fr h₀ L h' m' ∧ News h₀ L h' (own ++ news') ∧ (∀ p ∈ news', p.1 ∉ wr) ∧ J m' news'
theorem loopE {I : Addr} {fp wr : List Addr} {n : Nat} {P Md : Nat → Value → Heap → Prop} {St : Nat → Heap → Prop} {m : Str → Option Value} {news : List (Addr × Obj)} (W : KTurns prog w A target I fp wr n P Md St)
    (hLf : env.locals ∉ fp) (hwr : ∀ b ∈ wr, h₀.get? b = none) (hnw : ∀ p ∈ news, p.1 ∉ wr) (hst : St 0 s.heap) (F : Fr h₀ env.locals s.heap m) (N : News h₀ env.locals s.heap news)
    (J : Nat → (Str → Option Value) → List (Addr × Obj) → Prop) (h0 : J 0 m news) (hE : PassesOwn (model prog w) A env E)
    (step : ∀ i v m₁ news₁ h₁ tk₁ own, i < n → P i v h₁ → J i m₁ news₁ → (∀ p ∈ news₁, p.1 ∉ wr) → (∀ p ∈ own, p.1 ∈ fp) →
      Fr h₀ env.locals h₁ m₁ → News h₀ env.locals h₁ (own ++ news₁) →
      wpAny (model prog w) A (assign target env v) (fun _ s₂ => wpAny (model prog w) A (execs body env) (TurnE h₀ env.locals { s with heap := h₁, toks := tk₁ } wr own (J (i + 1)) Q) E s₂) E { s with heap := h₁, toks := tk₁ })
    (done : ∀ h' tk m' news', Fr h₀ env.locals h' m' → News h₀ env.locals h' news' → (∀ p ∈ news', p.1 ∉ wr) → J n m' news' → wpAny (model prog w) A (execs orelse env) Q E { s with heap := h', toks := tk }) :
    codeAny (model prog w) A (.forLoop target (.ref I) body orelse env) (fun r s' => match r with | .ok f => Q f s' | .error e => cameBackBy (model prog w) A env E e s') s := by
  have hLw : env.locals ∉ wr := fun h => hLf (W.sub _ h)
  have old : ∀ b o, h₀.get? b = some o → b ∉ wr := fun b o e hb => by rw [hwr b hb] at e; cases e
  refine codeAny_forLoop_any
    (fun k s' => ∃ h' tk m' news' i, s' = { s with heap := h', toks := tk } ∧ St i h' ∧ Fr h₀ env.locals h' m' ∧ News h₀ env.locals h' news' ∧ (∀ p ∈ news', p.1 ∉ wr) ∧ J i m' news' ∧ i ≤ n ∧ k = n + 1 - i) ?_ (n + 1)
    ⟨s.heap, s.toks, m, news, 0, rfl, hst, F, N, hnw, h0, Nat.zero_le _, rfl⟩
  rintro k s' ⟨h', tk, m', news', i, rfl, hst', F', N', hnw', hJ, hi, rfl⟩
  have next : ∀ h₁ : Heap, (∀ b o, b ∉ wr → h'.get? b = some o → h₁.get? b = some o) → Fr h₀ env.locals h₁ m' ∧ News h₀ env.locals h₁ news' := fun h₁ hk₁ =>
    ⟨⟨F'.ns.at' fun o e => hk₁ _ o hLw e, fun b o e => hk₁ b o (old b o e) (F'.keep b o e), F'.above⟩, fun p hp => ⟨hk₁ _ _ (hnw' p hp) (N' p hp).1, (N' p hp).2⟩⟩
  by_cases hlt : i < n
  · refine W.item i _ _ _ hlt hst' fun v h₁ tk₁ hMd hk₁ => ?_
    refine W.go i v _ _ _ hMd fun h₂ hP hst₂ hk₂ => ?_
    obtain ⟨F₂, N₂⟩ := next h₂ fun b o hb x => hk₂ b o hb (hk₁ b o hb x)
    have Nown : News h₀ env.locals h₂ (PyProof.Rows.ownOf h₀ fp h₂) := news_ownOf hLf
    refine wpAny_mono (step i v m' news' h₂ tk₁ (PyProof.Rows.ownOf h₀ fp h₂) hlt hP hJ hnw' ownOf_sub F₂ (Nown.append N₂)) (fun _ s₂ h₂' => wpAny_mono h₂' (fun f s₃ h₃ => ?_) fun e s' x => hE e s' x) fun e s' x => hE e s' x
    have fin : (∃ h'' tk'' m'' news'', s₃ = { s with heap := h'', toks := tk'' } ∧ Fr h₀ env.locals h'' m'' ∧ News h₀ env.locals h'' (PyProof.Rows.ownOf h₀ fp h₂ ++ news'') ∧ (∀ p ∈ news'', p.1 ∉ wr) ∧ J (i + 1) m'' news'') →
        ∃ m₁, m₁ < n + 1 - i ∧ ∃ h'' tk'' m'' news'' j, s₃ = { s with heap := h'', toks := tk'' } ∧ St j h'' ∧ Fr h₀ env.locals h'' m'' ∧ News h₀ env.locals h'' news'' ∧ (∀ p ∈ news'', p.1 ∉ wr) ∧ J j m'' news'' ∧ j ≤ n ∧ m₁ = n + 1 - j := by
      rintro ⟨h₃', tk₃, m₂, news₂, rfl, F₃, N₃, ha₃, hJ₃⟩
      refine ⟨n + 1 - (i + 1), Nat.sub_succ_lt_self _ _ (Nat.lt_succ_of_lt hlt), h₃', tk₃, m₂, news₂, i + 1, rfl, ?_, F₃, N₃.right, ha₃, hJ₃, hlt, rfl⟩
      refine W.frame _ _ _ hst₂ fun b hb o e => ?_
      cases hn : h₀.get? b with
      | some o₀ =>
        have : o₀ = o := by have q := F₂.keep b o₀ hn; rw [e] at q; exact (Option.some.inj q).symm
        exact this ▸ F₃.keep b o₀ hn
      | none => exact (N₃ _ (List.mem_append_left _ (mem_ownOf hb hn e))).1
    cases f with
    | ret v => exact h₃
    | brk => exact h₃
    | cont => exact fin h₃
    | next => exact fin h₃
  · have hin : i = n := Nat.le_antisymm hi (Nat.not_lt.mp hlt)
    subst hin
    refine W.done _ _ _ hst' fun h₁ tk₁ hk₁ => ?_
    obtain ⟨F₁, N₁⟩ := next h₁ hk₁
    exact wpAny_mono (done h₁ tk₁ m' news' F₁ N₁ hnw' hJ) (fun _ _ x => x) fun e s' x => hE e s' x


theorem iter_tupE {ax : Addr} {vs : List Value} {m₀ : Str → Option Value} {news : List (Addr × Obj)} (J : Nat → (Str → Option Value) → List (Addr × Obj) → Prop)
    (hh : A.handled = none) (hl : h₀.IsTuple ax vs.toArray) (F : Fr h₀ env.locals s.heap m₀) (N : News h₀ env.locals s.heap news) (h0 : J 0 m₀ news) (hE : PassesOwn (model prog w) A env E)
    (step : ∀ I i v m₁ news₁ h₁ tk₁ own, vs[i]? = some v → J i m₁ news₁ → (∀ p ∈ news₁, p.1 ≠ I) → (∀ p ∈ own, p.1 = I) →
      Fr h₀ env.locals h₁ m₁ → News h₀ env.locals h₁ (own ++ news₁) →
      wpAny (model prog w) A (assign target env v) (fun _ s₂ => wpAny (model prog w) A (execs body env) (TurnE h₀ env.locals { s with heap := h₁, toks := tk₁ } [I] own (J (i + 1)) Q) E s₂) E { s with heap := h₁, toks := tk₁ })
    (done : ∀ h' tk m' news', Fr h₀ env.locals h' m' → News h₀ env.locals h' news' → J vs.length m' news' → wpAny (model prog w) A (execs orelse env) Q E { s with heap := h', toks := tk }) :
    wpAny (model prog w) A (pyIter (.ref ax)) (fun it s₂ => codeAny (model prog w) A (.forLoop target it body orelse env) (fun r s' => match r with | .ok f => Q f s' | .error e => cameBackBy (model prog w) A env E e s') s₂) E s := by
  obtain ⟨lo, hlo, hc, nn, hd⟩ := id hl
  have hax : s.heap.get? ax = some lo := F.keep _ _ hlo
  have hls : s.heap.IsTuple ax vs.toArray := ⟨lo, hax, hc, nn, hd⟩
  have hlt : ax < s.heap.objs.size := Heap.lt_size hax
  have hne : ax ≠ s.heap.objs.size := Nat.ne_of_lt hlt
  refine wpAny_pyIter_tuple hls ?_
  refine loopE (P := fun i v _ => vs.toArray[i]? = some v) (KTurns.ofWalks (Walks.tuple hh s.heap.objs.size ax hne vs.toArray) fun i v s Q E st q => letGo_tupleiter st.1 q) ?_ ?_ ?_ ?_ (F.push _) (fun p hp => ⟨Heap.get?_push_of_some _ (N p hp).1, (N p hp).2⟩) J h0 hE ?_ ?_
  · intro hI
    rcases List.mem_cons.mp hI with e | hI
    · exact absurd F.ns.lt (e ▸ Nat.lt_irrefl _)
    · have e := List.mem_singleton.mp hI
      have a1 := Heap.lt_size hlo
      have a2 := F.above
      rw [e] at a2
      exact absurd a1 (Nat.not_lt.mpr a2)
  · intro b hb
    rw [List.mem_singleton.mp hb]
    exact next_is_new F
  · intro p hp hI
    exact absurd (Heap.lt_size (N p hp).1) ((List.mem_singleton.mp hI) ▸ Nat.lt_irrefl _)
  · exact ⟨⟨_, Heap.get?_push_size _ rfl, rfl, rfl⟩, hls.at fun o e => Heap.get?_push_of_some _ e⟩
  · intro i v m₁ news₁ h₁ tk₁ own hi hP hJ hoff hown F₁ N₁
    refine step s.heap.objs.size i v m₁ news₁ h₁ tk₁ own (by simpa using hP) hJ (fun p hp e => hoff p hp (by simp [e])) (fun p hp => ?_) F₁ N₁
    have h1 := hown p hp
    rcases List.mem_cons.mp h1 with e | h2
    · exact e
    · have e := List.mem_singleton.mp h2
      have h3 := (N₁ p (List.mem_append_left _ hp)).2.2
      rw [e, hlo] at h3
      cases h3
  · intro h' tk m' news' F' N' _ hJ
    exact done h' tk m' news' F' N' (by simpa using hJ)

theorem nextOf_tup_item {it t : Addr} {i : Nat} {items : Array Value} {x : Value} {Q : Value → Shared → Prop} (hit : s.heap.IsTupleIter it t i) (ht : s.heap.IsTuple t items) (hx : items[i]? = some x)
    (hQ : ∀ h', h'.IsTupleIter it t (i + 1) → Heap.SameBut it s.heap h' → Q x { s with heap := h' }) :
    wpAny (model prog w) A (Builtin.SmallTypes.nextOf (.ref it)) Q E s := by
  obtain ⟨o, ho, hc, hd⟩ := id hit
  obtain ⟨ol, hol, _, nl, hdl⟩ := ht
  unfold Builtin.SmallTypes.nextOf
  refine wpAny_bind (wpAny_callSpecial?_slot (name := Str.ofString "__next__") hit.typeIs F.slot_tuple_iterator_next
    (wpAny_call_entry F.slot_tuple_iterator_next hit.typeIs F.entry_tuple_iterator_next ?_ (F.args_tuple_iterator_next_1 _)))
  show wpAny _ _ (field (.ref it) 0 >>= _) _ _ s
  refine wpAny_bind (wpAny_field ho hd (x := .ref t) rfl ?_)
  show wpAny _ _ (if (Value.ref t == Value.none) = true then _ else _) _ _ s
  rw [if_neg (show ¬ ((Value.ref t == Value.none) = true) from Bool.false_ne_true)]
  show wpAny _ _ (field (.ref it) 1 >>= _) _ _ s
  refine wpAny_bind (wpAny_field ho hd (x := .int i 0) rfl ?_)
  show wpAny _ _ (seqItems? (.ref t) >>= _) _ _ s
  refine wpAny_bind (wpAny_seqItems hol hdl ?_)
  simp only [Int.toNat_natCast, hx]
  refine wpAny_bind (wpAny_setField ho hd (by simp) (wpAny_pure ⟨x, rfl, wpAny_pure (hQ _ ?_ (Heap.SameBut.update ..))⟩))
  exact ⟨_, Heap.get?_update_self _ ho (Obj.isFreed_of_fields (Obj.data_mapFields hd _)), (Obj.cls_mapFields ..).trans hc, by
    rw [Obj.data_mapFields hd]; simp [rawInt]⟩
theorem nextOf_tup_end {it t : Addr} {i : Nat} {items : Array Value} {Q : Value → Shared → Prop} (hh : A.handled = none) (hit : s.heap.IsTupleIter it t i) (ht : s.heap.IsTuple t items) (hx : items[i]? = none)
    (hE : ∀ h' e, Heap.ExtBut it s.heap h' → (∃ o, h'.get? e = some o ∧ o.cls = .type "StopIteration") → E (.ref e) { s with heap := h' }) :
    wpAny (model prog w) A (Builtin.SmallTypes.nextOf (.ref it)) Q E s := by
  obtain ⟨o, ho, hc, hd⟩ := id hit
  obtain ⟨ol, hol, _, nl, hdl⟩ := ht
  unfold Builtin.SmallTypes.nextOf
  refine wpAny_bind (wpAny_callSpecial?_slot (name := Str.ofString "__next__") hit.typeIs F.slot_tuple_iterator_next
    (wpAny_call_entry F.slot_tuple_iterator_next hit.typeIs F.entry_tuple_iterator_next ?_ (F.args_tuple_iterator_next_1 _)))
  show wpAny _ _ (field (.ref it) 0 >>= _) _ _ s
  refine wpAny_bind (wpAny_field ho hd (x := .ref t) rfl ?_)
  show wpAny _ _ (if (Value.ref t == Value.none) = true then _ else _) _ _ s
  rw [if_neg (show ¬ ((Value.ref t == Value.none) = true) from Bool.false_ne_true)]
  show wpAny _ _ (field (.ref it) 1 >>= _) _ _ s
  refine wpAny_bind (wpAny_field ho hd (x := .int i 0) rfl ?_)
  show wpAny _ _ (seqItems? (.ref t) >>= _) _ _ s
  refine wpAny_bind (wpAny_seqItems hol hdl ?_)
  simp only [Int.toNat_natCast, hx]
  refine wpAny_bind (wpAny_rule (wpAny_bind (wpAny_setField ho hd (by simp) ?_)))
  show wpAny _ _ (newExc (.type "StopIteration") [] >>= _) _ _ _
  refine wpAny_bind ?_
  simp only [newExc, newTuple]
  refine wpAny_bind (wpAny_newObj_type ?_ (by size_fits))
  refine wpAny_bind (m := firstArgMember _ _) (wpAny_of_eq (a := Value.none) (by first | rfl | (simp only [firstArgMember]; rfl)) ?_)
  refine wpAny_newObj_type ?_ (by size_fits)
  simp only [raiseNew]
  refine wpAny_bind (wpAny_handled ?_)
  first | rw [show A.in1.handled = none from hh] | rw [hh]
  refine wpAny_bind (wpAny_pure (wpAny_throw ?_))
  exact hE _ _ (((Heap.SameBut.update ..).extBut.push _).push _) ⟨_, Heap.get?_push_size _ rfl, rfl⟩
theorem draws_tup (hh : A.handled = none) (it t : Addr) (hne : t ≠ it) (items : Array Value) :
    Draws prog w A it [it, t] items.size (fun i v => items[i]? = some v) (fun i h => h.IsTupleIter it t i ∧ h.IsTuple t items) where
  live := fun _ _ st => let ⟨o, ho, _⟩ := st.1; ⟨o, ho⟩
  frame := fun _ _ _ st hk => ⟨st.1.at fun o e => hk it (by simp) o e, st.2.at fun o e => hk t (by simp) o e⟩
  item := fun i s Q E hi st hQ => by
    refine nextOf_tup_item st.1 st.2 (x := items[i]) (by simp [hi]) fun h' hit' hs' => ?_
    exact hQ _ h' s.toks (by simp [hi]) ⟨hit', st.2.extBut hs'.extBut hne⟩ hs'
  done := fun s Q E st hE => nextOf_tup_end hh st.1 st.2 (by simp) hE
open AutoSeq1 (wpAny_loadPart') in
theorem meets_enum_tup (l : Addr) (items : Array Value) (n : Nat) (dct : Option Addr) (sl : Array (Option Value)) :
    Meets (Builtin.«enumerate.__new__» ⟨[.type "enumerate", .ref l], []⟩) (fun _ R s => s.heap.get? l = some { cls := .type "tuple", dict := dct, data := .seq items n, slots := sl } ∧
      R (.ok (.ret (.ref (s.heap.push { cls := .type "tuple_iterator", data := .fields #[.ref l, .int 0 0] }).objs.size)))
        { s with heap := (s.heap.push { cls := .type "tuple_iterator", data := .fields #[.ref l, .int 0 0] }).push { cls := .type "enumerate", data := .fields #[.none, .bool false, .ref s.heap.objs.size, rawInt 0, .none, .none] } }) :=
  .of_wp fun prog w A R s h => by
    obtain ⟨hp, g, d, tk, os⟩ := s; obtain ⟨hl, h⟩ := h
    have hsub := sub_enumerate
    have hL : Heap.IsTuple (Shared.heap ⟨hp, g, d, tk, os⟩) l items := ⟨_, hl, rfl, n, rfl⟩
    wp_walk using wpAny_loadPart' hl
    refine wpAny_stack_any fun st => wpAny_pure ?_
    split
    · rename_i c _ _ _ _ _
      cases (c == Value.type "enumerate")
      · wp_walk using wpAny_loadPart' hl, wpAny_pyIter_tuple hL
        exact ⟨_, rfl, h⟩
      · wp_walk using wpAny_loadPart' hl, wpAny_pyIter_tuple hL
        exact ⟨_, rfl, h⟩
    · wp_walk using wpAny_loadPart' hl, wpAny_pyIter_tuple hL
      exact ⟨_, rfl, h⟩
theorem call_enum_tup {l : Addr} {items : Array Value} {Q : Value → Shared → Prop} (hL : s.heap.IsTuple l items)
    (h : ∀ h', IsEnum h' (s.heap.objs.size + 1) s.heap.objs.size 0 .none → h'.IsTupleIter s.heap.objs.size l 0 →
      (∀ b o, s.heap.get? b = some o → h'.get? b = some o) → Q (.ref (s.heap.objs.size + 1)) { s with heap := h' }) :
    wpAny (model prog w) A (call (.type "enumerate") [.ref l]) Q E s := by
  obtain ⟨⟨c, dct, dt, sl⟩, hl, hc, n, hd⟩ := hL
  replace hc : c = .type "tuple" := hc
  replace hd : dt = .seq items n := hd
  subst hc hd
  refine callType_new F.called_enumerate (by decide) (F.typeCall_enumerate_1 _) (F.newCall_enumerate_1 _) (fun obj => F.args_object_init_2 obj _) F.entry_enumerate_new
    (meets_enum_tup l items n dct sl) ⟨hl, ?_⟩
  have hz : (s.heap.push { cls := .type "tuple_iterator", data := .fields #[.ref l, .int 0 0] }).objs.size = s.heap.objs.size + 1 := Heap.size_push ..
  show _ ∧ _
  rw [hz]
  have he : IsEnum ((s.heap.push { cls := .type "tuple_iterator", data := .fields #[.ref l, .int 0 0] }).push
      { cls := .type "enumerate", data := .fields #[.none, .bool false, .ref s.heap.objs.size, rawInt 0, .none, .none] }) (s.heap.objs.size + 1) s.heap.objs.size 0 .none := by
    have := Heap.get?_push_size (s.heap.push { cls := .type "tuple_iterator", data := .fields #[.ref l, .int 0 0] })
      (o := { cls := .type "enumerate", data := .fields #[.none, .bool false, .ref s.heap.objs.size, rawInt 0, .none, .none] }) rfl
    rw [hz] at this; exact this
  exact ⟨⟨_, he, rfl⟩, h _ he ⟨_, Heap.get?_push_of_some _ (Heap.get?_push_size _ rfl), rfl, rfl⟩ fun b o x => Heap.get?_push_of_some _ (Heap.get?_push_of_some _ x)⟩

theorem iter_enumE {elts : List Expr} {kk : Nat} {pos : Pos} {ax : Addr} {vs : List Value} {m₀ : Str → Option Value} {news : List (Addr × Obj)} (J : Nat → (Str → Option Value) → List (Addr × Obj) → Prop)
    (hh : A.handled = none) (hl : h₀.IsTuple ax vs.toArray) (F : Fr h₀ env.locals s.heap m₀) (N : News h₀ env.locals s.heap news) (h0 : J 0 m₀ news) (hE : PassesOwn (model prog w) A env E)
    (step : ∀ I i v T t m₁ news₁ h₁ tk₁ own, vs[i]? = some v → h₁.IsTuple T #[.int (i : Int) t, v] → J i m₁ news₁ → (∀ p ∈ news₁, p.1 ≠ I ∧ p.1 ≠ I + 1) → (∀ p ∈ own, p.1 = I ∨ p.1 = I + 1) →
      Fr h₀ env.locals h₁ m₁ → News h₀ env.locals h₁ (own ++ news₁) →
      wpAny (model prog w) A (assign (.Tuple elts kk pos) env (.ref T)) (fun _ s₂ => wpAny (model prog w) A (execs body env) (TurnE h₀ env.locals { s with heap := h₁, toks := tk₁ } [I + 1, I] own (J (i + 1)) Q) E s₂) E { s with heap := h₁, toks := tk₁ })
    (done : ∀ h' tk m' news', Fr h₀ env.locals h' m' → News h₀ env.locals h' news' → J vs.length m' news' → wpAny (model prog w) A (execs orelse env) Q E { s with heap := h', toks := tk }) :
    wpAny (model prog w) A (call (.type "enumerate") [.ref ax]) (fun xv s₁ => wpAny (model prog w) A (pyIter xv) (fun it s₂ => codeAny (model prog w) A (.forLoop (.Tuple elts kk pos) it body orelse env) (fun r s' => match r with | .ok f => Q f s' | .error e => cameBackBy (model prog w) A env E e s') s₂) E s₁) E s := by
  obtain ⟨lo, hlo, hc, nn, hd⟩ := id hl
  have hax : s.heap.get? ax = some lo := F.keep _ _ hlo
  have hls : s.heap.IsTuple ax vs.toArray := ⟨lo, hax, hc, nn, hd⟩
  have hlt : ax < s.heap.objs.size := Heap.lt_size hax
  have hne : ax ≠ s.heap.objs.size := Nat.ne_of_lt hlt
  have hLs : env.locals < s.heap.objs.size := F.ns.lt
  refine call_enum_tup hls fun h' hE' hI hk => ?_
  refine wpAny_pyIter_enum hE' ?_
  refine loopE (KTurns.ofWalksU (WalksT.enumerateD (draws_tup (A := A.in1) hh s.heap.objs.size ax hne vs.toArray) (s.heap.objs.size + 1) (Nat.succ_ne_self _) ?_ (by simp)).toU) ?_ ?_ ?_ ?_ (F.keeps hk) (N.grown hk) J h0 hE ?_ ?_
  · intro hm
    rcases List.mem_cons.mp hm with e | hm
    · exact Nat.succ_ne_self _ e
    · exact ktu_ne 1 hlt (List.mem_singleton.mp hm).symm
  · intro hm
    have hb' : env.locals = s.heap.objs.size + 1 ∨ env.locals = s.heap.objs.size ∨ env.locals = ax := by simpa using hm
    rcases hb' with e | e | e
    · exact ktu_ne 1 hLs e
    · exact Nat.ne_of_lt hLs e
    · have a1 := Heap.lt_size hlo
      have a2 := F.above
      rw [e] at a2
      exact absurd a1 (Nat.not_lt.mpr a2)
  · intro b hb
    have hb' : b = s.heap.objs.size + 1 ∨ b = s.heap.objs.size := by simpa using hb
    rcases hb' with rfl | rfl
    · exact ktu_new F (Nat.le_add_right _ _)
    · exact ktu_new F (Nat.le_refl _)
  · intro p hp hm
    have hb' : p.1 = s.heap.objs.size + 1 ∨ p.1 = s.heap.objs.size := by simpa using hm
    have hlp := Heap.lt_size (N p hp).1
    rcases hb' with e | e
    · exact ktu_ne 1 hlp e
    · exact Nat.ne_of_lt hlp e
  · exact ⟨⟨.none, hE'⟩, hI, hls.at fun o e => hk ax o e⟩
  · rintro i v m₁ news₁ h₁ tk₁ own hi ⟨T, vals, rfl, ⟨t, x, hx, rfl⟩, hT⟩ hJ hoff hown F₁ N₁
    refine step s.heap.objs.size i x T t m₁ news₁ h₁ tk₁ own (by simpa using hx) hT hJ (fun p hp => ⟨fun e => hoff p hp (by simp [e]), fun e => hoff p hp (by simp [e])⟩) (fun p hp => ?_) F₁ N₁
    have hb' : p.1 = s.heap.objs.size + 1 ∨ p.1 = s.heap.objs.size ∨ p.1 = ax := by simpa using hown p hp
    rcases hb' with e | e | e
    · exact .inr e
    · exact .inl e
    · have h3 := (N₁ p (List.mem_append_left _ hp)).2.2
      rw [e, hlo] at h3
      cases h3
  · intro h' tk m' news' F' N' _ hJ
    exact done h' tk m' news' F' N' (by simpa using hJ)
end
end
section
set_option maxRecDepth 100000
set_option maxHeartbeats 8000000
noncomputable def rowsT : List (List (Int × Nat)) := [[(40960, 108), (49152, 115), (32768, 45), (24576, 98), (16384, 100), (8192, 99), (4096, 112)], [(256, 114)], [(128, 119)], [(2112, 115), (2048, 83), (64, 120)], [(32, 114)], [(16, 119)], [(1032, 115), (1024, 83), (8, 120)], [(4, 114)], [(2, 119)], [(513, 116), (512, 84), (1, 120)]]
noncomputable def hit (mode : Int) (i : Nat) (b : Int) : Bool := if i = 0 then Builtin.bitAnd mode 61440 == b else Builtin.bitAnd mode b == b
noncomputable def sel (mode : Int) (i : Nat) : List (Int × Nat) → Nat
  | [] => if i = 0 then 63 else 45
  | p :: r => if hit mode i p.1 then p.2 else sel mode i r
noncomputable def fmChars (mode : Int) : List Nat := (List.range 10).map fun i => sel mode i (rowsT.getD i [])

noncomputable def PairsAt (h : Heap) : List Value → List (Int × Nat) → Prop
  | [], [] => True
  | v :: vs, p :: ps => (∃ a t t', v = .ref a ∧ h.IsTuple a #[.int p.1 t, .str (sOf [p.2]) t']) ∧ PairsAt h vs ps
  | _, _ => False
noncomputable def tabVs : List Value := [.ref 788, .ref 790, .ref 792, .ref 796, .ref 798, .ref 800, .ref 804, .ref 806, .ref 808, .ref 812]
theorem sOf1 (c : Nat) : sOf [c] = Str.mk #[c] := rfl
theorem tab_at {w : World} {h : Heap} (X : (Mine.K w.params).In h) : h.IsTuple 813 tabVs.toArray := tupK (l := tabVs) X rfl
theorem pairs_at {w : World} {h : Heap} (X : (Mine.K w.params).In h) : ∀ {i : Nat} {v : Value}, tabVs[i]? = some v → ∃ ax as, v = .ref ax ∧ h.IsTuple ax (List.toArray as) ∧ PairsAt h as (rowsT.getD i [])
  | 0, v, e => by cases e; exact ⟨788, [.ref 781, .ref 782, .ref 783, .ref 784, .ref 785, .ref 786, .ref 787], rfl, tupK X rfl, ⟨_, _, _, rfl, tupK (l := [_, _]) X rfl⟩, ⟨_, _, _, rfl, tupK (l := [_, _]) X rfl⟩, ⟨_, _, _, rfl, tupK (l := [_, _]) X rfl⟩, ⟨_, _, _, rfl, tupK (l := [_, _]) X rfl⟩, ⟨_, _, _, rfl, tupK (l := [_, _]) X rfl⟩, ⟨_, _, _, rfl, tupK (l := [_, _]) X rfl⟩, ⟨_, _, _, rfl, tupK (l := [_, _]) X rfl⟩, trivial⟩
  | 1, v, e => by cases e; exact ⟨790, [.ref 789], rfl, tupK X rfl, ⟨_, _, _, rfl, tupK (l := [_, _]) X rfl⟩, trivial⟩
  | 2, v, e => by cases e; exact ⟨792, [.ref 791], rfl, tupK X rfl, ⟨_, _, _, rfl, tupK (l := [_, _]) X rfl⟩, trivial⟩
  | 3, v, e => by cases e; exact ⟨796, [.ref 793, .ref 794, .ref 795], rfl, tupK X rfl, ⟨_, _, _, rfl, tupK (l := [_, _]) X rfl⟩, ⟨_, _, _, rfl, tupK (l := [_, _]) X rfl⟩, ⟨_, _, _, rfl, tupK (l := [_, _]) X rfl⟩, trivial⟩
  | 4, v, e => by cases e; exact ⟨798, [.ref 797], rfl, tupK X rfl, ⟨_, _, _, rfl, tupK (l := [_, _]) X rfl⟩, trivial⟩
  | 5, v, e => by cases e; exact ⟨800, [.ref 799], rfl, tupK X rfl, ⟨_, _, _, rfl, tupK (l := [_, _]) X rfl⟩, trivial⟩
  | 6, v, e => by cases e; exact ⟨804, [.ref 801, .ref 802, .ref 803], rfl, tupK X rfl, ⟨_, _, _, rfl, tupK (l := [_, _]) X rfl⟩, ⟨_, _, _, rfl, tupK (l := [_, _]) X rfl⟩, ⟨_, _, _, rfl, tupK (l := [_, _]) X rfl⟩, trivial⟩
  | 7, v, e => by cases e; exact ⟨806, [.ref 805], rfl, tupK X rfl, ⟨_, _, _, rfl, tupK (l := [_, _]) X rfl⟩, trivial⟩
  | 8, v, e => by cases e; exact ⟨808, [.ref 807], rfl, tupK X rfl, ⟨_, _, _, rfl, tupK (l := [_, _]) X rfl⟩, trivial⟩
  | 9, v, e => by cases e; exact ⟨812, [.ref 809, .ref 810, .ref 811], rfl, tupK X rfl, ⟨_, _, _, rfl, tupK (l := [_, _]) X rfl⟩, ⟨_, _, _, rfl, tupK (l := [_, _]) X rfl⟩, ⟨_, _, _, rfl, tupK (l := [_, _]) X rfl⟩, trivial⟩
  | _ + 10, v, e => by simp [tabVs] at e
noncomputable def FmInv (mode : Int) (D : Addr) (tm : Tok) (news : List (Addr × Obj)) (i : Nat) (m' : Str → Option Value) (news' : List (Addr × Obj)) : Prop :=
  ∃ u us c, m' = kstB u [(Str.ofString "perm", .ref D), (Str.ofString "mode", .int mode tm)] ∧ news' = (D, listOf (List.toArray us) c) :: news ∧ StrsAre us (((fmChars mode).take i).map fun c => sOf [c])
noncomputable def FmIn (mode : Int) (D : Addr) (tm : Tok) (i : Nat) (t : Tok) (us : List Value) (c : Nat) (news : List (Addr × Obj)) (rows : List (Int × Nat)) (j : Nat) (m' : Str → Option Value) (news' : List (Addr × Obj)) : Prop :=
  ∃ u, m' = kstB u [(Str.ofString "perm", .ref D), (Str.ofString "mode", .int mode tm), (Str.ofString "index", .int (i : Int) t)] ∧ news' = (D, listOf (List.toArray us) c) :: news ∧ ∀ j' < j, ∀ p, rows[j']? = some p → hit mode i p.1 = false
theorem pair_of {h : Heap} : ∀ {as : List Value} {rows : List (Int × Nat)} {j : Nat} {v : Value}, PairsAt h as rows → as[j]? = some v → ∃ (p : Int × Nat) (a : Addr) (t t' : Tok), rows[j]? = some p ∧ v = .ref a ∧ h.IsTuple a #[.int p.1 t, .str (sOf [p.2]) t']
  | [], _, _, _, _, e => by simp at e
  | _ :: _, [], _, _, h, _ => h.elim
  | x :: as, p :: rows, 0, v, h, e => by
    obtain ⟨⟨a, t, t', rfl, hT⟩, _⟩ := h
    have : Value.ref a = v := by simpa using e
    subst this
    exact ⟨p, a, t, t', rfl, rfl, hT⟩
  | x :: as, p :: rows, j + 1, v, h, e => by
    simpa using pair_of h.2 (by simpa using e)
theorem sum_signs : ∀ cs : List Nat, ((cs.map fun c => sOf [c]).map (·.length)).sum = cs.length
  | [] => rfl
  | c :: cs => by
    have ih := sum_signs cs
    simp only [List.map_cons, List.sum_cons, List.length_cons]
    rw [ih, len_sOf]
    simp
    lia
theorem signs_fit (cs : List Nat) {n : Nat} (h : cs.length = n ∧ n ≤ 20) : (((cs.take n).map fun c => sOf [c]).map (·.length)).sum + ((cs.take n).map fun c => sOf [c]).length * (Str.ofString "").length ≤ 16777216 := by
  rw [List.take_of_length_le (by lia), sum_signs]
  have : (Str.ofString "").length = 0 := by decide +kernel
  rw [this]
  lia
theorem glue_fold {g : Str} (hg : g.cps = #[]) : ∀ (cs : List Nat) (acc : Array Nat), (cs.map fun c => sOf [c]).foldl (fun acc p => acc ++ g.cps ++ p.cps) acc = acc ++ cs.toArray
  | [], acc => by simp
  | c :: cs, acc => by
    rw [List.map_cons, List.foldl_cons, glue_fold hg cs, hg]
    simp [sOf]
theorem join_signs (cs : List Nat) {n : Nat} (h : cs.length = n) : Txt.join (Str.ofString "") ((cs.take n).map fun c => sOf [c]) = sOf cs := by
  rw [List.take_of_length_le (by lia)]
  have hg : (Str.ofString "").cps = #[] := by decide +kernel
  unfold Txt.join Builtin.Str.glued
  cases cs with
  | nil => rfl
  | cons c cs =>
    rw [List.map_cons, List.drop_succ_cons, List.drop_zero, glue_fold hg]
    simp [sOf]
theorem upd_mid {D : Addr} {o o' : Obj} : ∀ {pre rest : List (Addr × Obj)}, (∀ p ∈ pre, p.1 ≠ D) → (∀ p ∈ rest, p.1 ≠ D) → Upd D o o' (pre ++ (D, o) :: rest) (pre ++ (D, o') :: rest)
  | [], _, _, h => .head h
  | _ :: _, _, h1, h2 => .tail (h1 _ (List.mem_cons_self ..)) (upd_mid (fun p hp => h1 p (List.mem_cons_of_mem _ hp)) h2)
theorem strs_len : ∀ {us : List Value} {ps : List Str}, StrsAre us ps → us.length = ps.length
  | _, _, .nil => rfl
  | _, _, .cons _ _ h => congrArg (· + 1) (strs_len h)
theorem strs_snoc {x : Str} {t : Tok} : ∀ {us : List Value} {ps : List Str}, StrsAre us ps → StrsAre (us ++ [.str x t]) (ps ++ [x])
  | _, _, .nil => .cons _ _ .nil
  | _, _, .cons _ _ h => .cons _ _ (strs_snoc h)
theorem sel_hit {mode : Int} {i : Nat} : ∀ {rows : List (Int × Nat)} {j : Nat} {b : Int} {ch : Nat}, (∀ j' < j, ∀ p, rows[j']? = some p → hit mode i p.1 = false) → rows[j]? = some (b, ch) → hit mode i b = true → sel mode i rows = ch
  | [], _, _, _, _, e, _ => by simp at e
  | p :: rows, 0, b, ch, _, e, h => by
    have : p = (b, ch) := by simpa using e
    subst this
    simp [sel, h]
  | p :: rows, j + 1, b, ch, hno, e, h => by
    have h0 := hno 0 (Nat.succ_pos _) p rfl
    have ih := sel_hit (rows := rows) (j := j) (b := b) (ch := ch) (fun j' hj q hq => hno (j' + 1) (Nat.succ_lt_succ hj) q (by simpa using hq)) (by simpa using e) h
    simp [sel, h0, ih]
theorem sel_none {mode : Int} {i : Nat} : ∀ {rows : List (Int × Nat)}, (∀ j' < rows.length, ∀ p, rows[j']? = some p → hit mode i p.1 = false) → sel mode i rows = if i = 0 then 63 else 45
  | [], _ => rfl
  | p :: rows, hno => by
    have h0 := hno 0 (Nat.succ_pos _) p rfl
    have ih := sel_none (rows := rows) (fun j' hj q hq => hno (j' + 1) (Nat.succ_lt_succ hj) q (by simpa using hq))
    simp [sel, h0, ih]
theorem fm_take {mode : Int} {i : Nat} (h : i < 10) : (fmChars mode).take (i + 1) = (fmChars mode).take i ++ [sel mode i (rowsT.getD i [])] := by
  have e : (fmChars mode)[i]? = some (sel mode i (rowsT.getD i [])) := by simp [fmChars, h]
  rw [List.take_add_one, e]
  rfl
theorem pairs_len {h : Heap} : ∀ {as : List Value} {rows : List (Int × Nat)}, PairsAt h as rows → as.length = rows.length
  | [], [], _ => rfl
  | [], _ :: _, h => h.elim
  | _ :: _, [], h => h.elim
  | _ :: _, _ :: _, h => congrArg (· + 1) (pairs_len h.2)
theorem ifmt_c (w : World) (mean : ExcName → Option Value) (mg mb : Str → Option Value) (x : Int) (tx : Tok) (news : List (Addr × Obj)) :
    CbClaim PySem.Challenge.pw_ny0408_02 w (Mine.K w.params) Mine.vw loose mean mg mb 780 news [] True [.int x tx] (fun t => .int (Builtin.bitAnd x 61440) t) := by
  refine fill ?_
  k_fill
  intro _
  dsimp only [CbClaim, CbLists, CbRet]
  intros
  rename_i hret
  refine wpAny_call ?_
  k_dflt cell_enter
  k_steps
  refine cb_retI hret rfl (by k_asm) (by k_asm)
theorem us_fit {us : List Value} {i : Nat} (h : us.length = i) (hi : i < 10) : us.toArray.size ≤ sizeLine := by
  rw [List.size_toArray, h]
  exact Nat.le_trans (Nat.le_of_lt hi) (Nat.le_of_ble_eq_true rfl)
theorem hit_zero {mode b : Int} {i : Nat} (h : i = 0) (e : Builtin.bitAnd mode 61440 = b) : hit mode i b = true := by simp [hit, h, e]
theorem hit_zero_not {mode b : Int} {i : Nat} (h : i = 0) (e : Builtin.bitAnd mode 61440 ≠ b) : hit mode i b = false := by simp [hit, h, e]
theorem hit_pos {mode b : Int} {i : Nat} (h : i ≠ 0) (e : Builtin.bitAnd mode b = b) : hit mode i b = true := by simp [hit, h, e]
theorem hit_pos_not {mode b : Int} {i : Nat} (h : i ≠ 0) (e : Builtin.bitAnd mode b ≠ b) : hit mode i b = false := by simp [hit, h, e]
theorem hno_succ {mode : Int} {i j : Nat} {rows : List (Int × Nat)} {b : Int} {ch : Nat} (hno : ∀ j' < j, ∀ p, rows[j']? = some p → hit mode i p.1 = false) (hrow : rows[j]? = some (b, ch)) (hh : hit mode i b = false) : ∀ j' < j + 1, ∀ p, rows[j']? = some p → hit mode i p.1 = false := by
  intro j' hj p hp
  rcases Nat.lt_or_ge j' j with h | h
  · exact hno j' h p hp
  · have : j' = j := by lia
    subst this
    rw [hrow] at hp
    cases hp
    exact hh
theorem fm_strs {mode : Int} {i ch : Nat} {us : List Value} {t : Tok} (hi : i < 10) (hS : StrsAre us (((fmChars mode).take i).map fun c => sOf [c])) (e : sel mode i (rowsT.getD i []) = ch) : StrsAre (us ++ [.str (sOf [ch]) t]) (((fmChars mode).take (i + 1)).map fun c => sOf [c]) := by
  rw [fm_take hi, e, List.map_append]
  exact strs_snoc hS
theorem toB_eq {m : Str → Option Value} {ps : List (Str × Value)} (hp : ∀ p ∈ ps, m p.1 = some p.2) : m = kstB m ps := (funext fun z => kstB_eq hp fun _ => rfl).symm
theorem news_snoc {h₀ h : Heap} {L D : Addr} {pre rest : List (Addr × Obj)} {us : List Value} {v : Value} {c : Nat} (N : News h₀ L h (pre ++ (D, listOf (us.toArray.push v) (c + 1)) :: rest)) : News h₀ L h ((D, listOf (List.toArray (us ++ [v])) (c + 1)) :: rest) := by
  rw [List.push_toArray] at N
  exact fun p hp => N p (List.mem_append_right _ hp)
theorem news_snoc0 {h₀ h : Heap} {L D : Addr} {rest : List (Addr × Obj)} {us : List Value} {v : Value} {c : Nat} (N : News h₀ L h ((D, listOf (us.toArray.push v) (c + 1)) :: rest)) : News h₀ L h ((D, listOf (List.toArray (us ++ [v])) (c + 1)) :: rest) := by
  rw [List.push_toArray] at N
  exact N
theorem fm_off {I D : Addr} {us us' : List Value} {c c' : Nat} {news own : List (Addr × Obj)} (hoff : ∀ p ∈ (D, listOf (List.toArray us) c) :: news, p.1 ≠ I ∧ p.1 ≠ I + 1) (_ : ∀ p ∈ own, p.1 = I ∨ p.1 = I + 1) {p : Addr × Obj} (hp : p = (D, listOf (List.toArray us') c') ∨ p ∈ news) (e : p.1 = I + 1 ∨ p.1 = I) : False := by
  have q : p.1 ≠ I ∧ p.1 ≠ I + 1 := by
    rcases hp with rfl | h
    · exact hoff (D, listOf (List.toArray us) c) (List.mem_cons_self ..)
    · exact hoff p (List.mem_cons_of_mem _ h)
  rcases e with e | e
  · exact q.2 e
  · exact q.1 e
theorem fm_c (w : World) (mean : ExcName → Option Value) (mg mb : Str → Option Value) (mode : Int) (tm : Tok) (news : List (Addr × Obj)) :
    MClaim PySem.Challenge.pw_ny0408_02 w (Mine.K w.params) Mine.vw loose mean mg mb 820 news True [.int mode tm] (fun t => .str (sOf (fmChars mode)) t) := by
  refine fill ?_
  k_fill
  intro _
  dsimp only [MClaim, CbRet]
  intros
  rename_i hret
  refine wpAny_call ?_
  k_dflt cell_enter
  k_with_none
  k_with "exec For Tuple Call cons nil" => refine halt ?_
  k_steps
  unfold Halt
  refine wpAny_For ?_
  k_with "call type:enumerate" => refine halt ?_
  k_steps
  unfold Halt
  (rename Fr _ _ _ _ => F1)
  (rename News _ _ _ _ => N1)
  rename_i D hA lA hB
  have F2 := toB [(Str.ofString "perm", .ref D), (Str.ofString "mode", .int mode tm)] F1 (by kst_all)
  (rename Frag.In _ _ => X0)
  refine iter_enumE (fun i m' news' => FmInv mode D tm news i m' news') rfl (tab_at X0) F2 N1 ⟨_, [], _, rfl, rfl, StrsAre.nil⟩ ?_ ?_ ?_
  · k_steps
  · rintro I i v T t m₁ news₁ h₁ tk₁ own hv hT ⟨u, us, c, rfl, rfl, hS⟩ hoff hown F₁ N₁
    obtain ⟨ax, as, rfl, hax, hP⟩ := pairs_at X0 hv
    clear F1 F2 N1
    simp only [kstB] at F₁
    have hi : i < 10 := by
      rcases Nat.lt_or_ge i 10 with h | h
      · exact h
      · rw [List.getElem?_eq_none (by simpa [tabVs] using h)] at hv; cases hv
    have hD4 : ∀ p ∈ own ++ news, p.1 ≠ D := fun p hp e => by
      rcases List.mem_append.mp hp with h | h
      · have q := hoff _ (List.mem_cons_self ..)
        rcases hown p h with z | z
        · exact q.1 (e.symm.trans z)
        · exact q.2 (e.symm.trans z)
      · exact absurd (lA p h) (e ▸ Nat.lt_irrefl _)
    have hus : us.length = i := by
      rw [strs_len hS, List.length_map, List.length_take]
      simp only [fmChars, List.length_map, List.length_range]
      lia
    have Ci : CbC 780 0 (∀ (cbNews : List (Addr × Obj)) (V0 : Int) (T0 : Tok), CbClaim PySem.Challenge.pw_ny0408_02 w (Mine.K w.params) Mine.vw loose mean mg mb 780 cbNews [] True [.int V0 T0] (fun t => .int (Builtin.bitAnd V0 61440) t)) := fun n a b => ifmt_c w mean mg mb a b n
    k_with_none
    k_with "exec For Tuple Name cons cons" => refine halt ?_
    k_steps
    unfold Halt
    refine cutS (σ := List Value × Nat) (by k_asm) (fun q => (D, listOf (List.toArray q.1) q.2) :: (own ++ news)) (fun _ => [(Str.ofString "perm", .ref D), (Str.ofString "mode", .int mode tm)]) (fun q => StrsAre q.1 (((fmChars mode).take (i + 1)).map fun c => sOf [c])) ?_ ?_
    · intro Q' hq
      refine wpAny_For ?_
      k_with_none
      k_with "pyIter ref" => refine halt ?_
      k_steps
      unfold Halt
      (rename Fr _ _ _ _ => F3)
      (rename News _ _ _ _ => N3)
      have F4 := toB [(Str.ofString "perm", .ref D), (Str.ofString "mode", .int mode tm), (Str.ofString "index", .int (i : Int) t)] F3 (by kst_all)
      have N4 := cb_drop (news := (D, listOf (List.toArray us) c) :: (own ++ news)) N3 (fun p hp => by simp only [List.mem_append, List.mem_cons] at hp ⊢; rcases hp with h | h | h <;> simp [h])
      refine iter_tupE (fun j m' news' => FmIn mode D tm i t us c (own ++ news) (rowsT.getD i []) j m' news') rfl hax F4 N4 ⟨_, rfl, rfl, fun j' hj => absurd hj (Nat.not_lt_zero _)⟩ ?_ ?_ ?_
      · k_steps
      · rintro I2 j v m₂ news₂ h₂ tk₂ own₂ hv2 ⟨u2, rfl, rfl, hno⟩ hoff2 hown2 F5 N5
        obtain ⟨⟨bt, ch⟩, a, t4, t5, hrow, rfl, hTa⟩ := pair_of hP hv2
        replace hTa := hTa.at (h' := h₂) fun o e => F5.keep _ o e
        clear F3 F4 N3 N4
        simp only [kstB] at F5
        have hD3 : ∀ p ∈ own₂, p.1 ≠ D := fun p hp e => hoff2 _ (List.mem_cons_self ..) (e.symm.trans (hown2 p hp))
        k_with_none
        k_with "call ref" => k_call_by "S_IFMT" (fun m : Int => Builtin.bitAnd m 61440)
        k_with "call builtin:list.append" => (k_dflt (refine' append_K ?k1 ?k2 ?k3 ?_ ?z; (case k1 => k_asm); (case k2 => k_asm); (case k3 => exact upd_mid hD3 hD4); (case z => exact us_fit hus hi); k_whole); intro h' F' N'; (try k_sweep))
        k_steps
        · have hh : hit mode i bt = true := hit_zero (by lia) (by assumption)
          exact hq (us ++ [.str (sOf [ch]) t5], c + 1) _ _ _ (fm_strs hi hS (sel_hit hno hrow hh)) (toB _ (by k_asm) (by kst_all)) (news_snoc (by k_asm))
        · have hh : hit mode i bt = false := hit_zero_not (by lia) (by assumption)
          exact ⟨_, _, _, _, rfl, by k_asm, by k_asm, fun p hp e => hoff2 p hp (by simpa using e), _, (toB_eq (by kst_all)), rfl, hno_succ hno hrow hh⟩
        · have hh : hit mode i bt = true := hit_pos (by lia) (by assumption)
          exact hq (us ++ [.str (sOf [ch]) t5], c + 1) _ _ _ (fm_strs hi hS (sel_hit hno hrow hh)) (toB _ (by k_asm) (by kst_all)) (news_snoc (by k_asm))
        · have hh : hit mode i bt = false := hit_pos_not (by lia) (by assumption)
          exact ⟨_, _, _, _, rfl, by k_asm, by k_asm, fun p hp e => hoff2 p hp (by simpa using e), _, (toB_eq (by kst_all)), rfl, hno_succ hno hrow hh⟩
      · rintro h' tk m' news' F' N' ⟨u2, rfl, rfl, hno⟩
        simp only [kstB] at F'
        k_with_none
        k_with "call builtin:list.append" => (k_dflt (refine' append_K ?k1 ?k2 ?k3 ?_ ?z; (case k1 => k_asm); (case k2 => k_asm); (case k3 => exact Upd.head hD4); (case z => exact us_fit hus hi); k_whole); intro h' F' N'; (try k_sweep))
        k_steps
        · exact hq (us ++ [.str (sOf [63]) _], c + 1) _ _ _ (fm_strs hi hS ((sel_none (fun j hj => hno j (by rw [pairs_len hP]; exact hj))).trans (if_pos (by lia)))) (toB _ (by k_asm) (by kst_all)) (news_snoc0 (by k_asm))
        · exact hq (us ++ [.str (sOf [45]) _], c + 1) _ _ _ (fm_strs hi hS ((sel_none (fun j hj => hno j (by rw [pairs_len hP]; exact hj))).trans (if_neg (by lia)))) (toB _ (by k_asm) (by kst_all)) (news_snoc0 (by k_asm))
    · rintro ⟨us', c'⟩ u' h' tk' hS' F' N'
      k_with_none
      k_steps
      exact ⟨_, _, _, (D, listOf (List.toArray us') c') :: news, rfl, F', cb_drop N' (fun p hp => by simp only [List.mem_append, List.mem_cons] at hp ⊢; rcases hp with h | h | h <;> simp [h]), fun p hp e => fm_off hoff hown (by simpa using hp) (by simpa using e), _, us', c', rfl, rfl, hS'⟩
  · rintro h' tk m' news' F' N' ⟨u, us, c, rfl, rfl, hS⟩
    clear F1 F2 N1
    simp only [kstB] at F'
    k_with_none
    k_with "call builtin:str.join" => refine halt ?_
    k_steps
    unfold Halt
    refine join_list (News.isList (by k_asm) (.head _)) (by simpa using hS) ?_ ?_
    · exact signs_fit (fmChars mode) (n := tabVs.length) ⟨by simp [fmChars, tabVs], by decide⟩
    · intro t' k
      k_with_none
      k_steps
      refine cb_retS hret ?_ (by k_asm) (by first | k_asm | (refine' cb_drop ?cbN ?cbS; (case cbN => assumption); (case cbS => kcj_all)))
      exact join_signs (fmChars mode) (n := tabVs.length) (by simp [fmChars, tabVs])
end
section
set_option maxRecDepth 100000
noncomputable def patObj : Obj := { cls := .type "re.Pattern", data := .fields #[.str ⟨#[91, 94, 92, 119, 64, 37, 43, 61, 58, 44, 46, 47, 45, 93]⟩ 368, .int 256 405, .int 0 0, .none, .none, .ref 62, .int 0 0] }
noncomputable def codeL : List Nat := [14, 17, 4, 1, 1, 21, 9, 0, 604043296, 1, 0, 0, 0, 0, 0, 8, 4, 0, 13, 14, 21, 9, 0, 604043296, 1, 0, 0, 0, 0, 0, 8, 4, 0, 1]
noncomputable def codeObj : Obj := { cls := .type "tuple", data := .seq (codeL.map fun (n : Nat) => Value.int (n : Int) 0).toArray }
section
variable {prog : Program} {w : World} {A : Around} {E : Value → Shared → Prop} {s : Shared} {x : Str} {t : Tok}
theorem ifF {α : Type} {c : Bool} {a b : Sem α} {Q : α → Shared → Prop} (hc : c = false) (h : wpAny (model prog w) A b Q E s) : wpAny (model prog w) A (if c = true then a else b) Q E s := by
  subst hc
  exact h
theorem named_search : Builtin.Re.reNamed "re.Pattern.search" "search" ["string", "pos", "endpos"] 1 [.str x t] [] = pure [some (.str x t), none, none] := by first | kernel_rfl | rfl
theorem target_search {Q : Builtin.Re.ReTarget → Shared → Prop} (h63 : s.heap.get? 63 = some patObj) (h62 : s.heap.get? 62 = some codeObj)
    (h : Q { pattern := .ref 63, string := .str x t, code := codeL.toArray, text := x.cps, kind := 0, groups := 0, pos := 0, lim := x.cps.size } s) (hx : x.length ≤ 1000) :
    wpAny (model prog w) A (Builtin.Re.reTarget "re.Pattern.search" "search" ⟨[.ref 63, .str x t], []⟩) Q E s := by
  unfold Builtin.Re.reTarget
  dsimp only
  refine wpAny_bind (wpAny_of_eq (a := [some (.str x t), none, none]) named_search ?_)
  dsimp only
  refine wpAny_bind (wpAny_pure ?_)
  refine wpAny_bind (wpAny_pure ?_)
  refine wpAny_bind (wpAny_fieldsOf h63 rfl ?_)
  refine wpAny_bind (wpAny_of_eq (a := (x.cps, 0)) (by first | rfl | kernel_rfl) ?_)
  refine ifF rfl ?_
  refine ifF rfl ?_
  refine wpAny_bind (wpAny_of_eq (a := ()) (by first | rfl | kernel_rfl) ?_)
  refine wpAny_bind ?_
  unfold Builtin.Re.reRawItems
  refine wpAny_bind (wpAny_seqItems h62 rfl ?_)
  refine wpAny_pure (wpAny_pure ?_)
  have e : ∀ {a b : Builtin.Re.ReTarget}, a = b → Q b s → Q a s := fun e q => e ▸ q
  refine e ?_ h
  have hm : min ((2 : Int) ^ 63 - 1).toNat x.cps.size = x.cps.size := by
    have : x.cps.size ≤ 1000 := hx
    lia
  show Builtin.Re.ReTarget.mk _ _ _ _ _ _ _ (min ((2 : Int) ^ 63 - 1).toNat x.cps.size) = _
  rw [hm]
  have hcd : Array.map (fun (x : Int) => x.toNat) (Array.map Builtin.Re.reRawOf ((some (List.map (fun (n : Nat) => Value.int (n : Int) 0) codeL).toArray).getD #[])) = codeL.toArray := by decide +kernel
  rw [hcd]
  show Builtin.Re.ReTarget.mk _ _ _ _ _ _ (min 0 x.cps.size) _ = _
  rw [Nat.zero_min]
  rfl

noncomputable def safe (c : Nat) : Bool := (decide (c < 256) && (codeL.toArray.getD (6 + (1 + c / 32)) 0).testBit (c % 32)) || Sre.isWord c
theorem inSet5 (c : Nat) (seen : Sre.Seen) : ∃ seen', Sre.inSet codeL.toArray c codeL.toArray.size 5 true seen = .ok (!safe c, seen') := by
  have e1 : Sre.inSet codeL.toArray c codeL.toArray.size 5 true seen = Sre.inSet codeL.toArray c 33 6 false (seen.add 21) := rfl
  have e2 : ∀ sn, Sre.inSet codeL.toArray c 33 6 false sn = if (decide (c < 256) && (codeL.toArray.getD (6 + (1 + c / 32)) 0).testBit (c % 32)) = true then .ok (false, sn.add 9) else Sre.inSet codeL.toArray c 32 15 false (sn.add 9) := fun _ => rfl
  have e3 : ∀ sn, Sre.inSet codeL.toArray c 32 15 false sn = if (Sre.isWord c != false) = true then .ok (false, (sn.add 8).add 59) else Sre.inSet codeL.toArray c 31 17 false ((sn.add 8).add 59) := fun _ => rfl
  have e4 : ∀ sn, Sre.inSet codeL.toArray c 31 17 false sn = .ok (true, sn.add 0) := fun _ => rfl
  rw [e1, e2]
  unfold safe
  cases h1 : (decide (c < 256) && (codeL.toArray.getD (6 + (1 + c / 32)) 0).testBit (c % 32)) with
  | true => exact ⟨_, rfl⟩
  | false =>
    simp only [Bool.false_eq_true, if_false]
    rw [e3]
    cases h2 : Sre.isWord c with
    | true => exact ⟨_, rfl⟩
    | false => simp only [bne_self_eq_false, Bool.false_eq_true, if_false]; rw [e4]; exact ⟨_, rfl⟩
theorem admit_none {m : Sre.M} (hc : m.code = codeL.toArray) : ∀ (fuel st : Nat) (seen : Sre.Seen), (∀ k, st ≤ k → k < m.lim → safe (m.text.getD k 0) = true) → ∃ seen', m.admitted fuel st seen = .ok (none, seen')
  | 0, _, seen, _ => ⟨seen, rfl⟩
  | fuel + 1, st, seen, h => by
    unfold Sre.M.admitted
    by_cases hs : st ≥ m.lim
    · rw [if_pos hs]; exact ⟨_, rfl⟩
    · rw [if_neg hs, hc]
      obtain ⟨s1, e⟩ := inSet5 (m.text.getD st 0) seen
      rw [e, h st (Nat.le_refl _) (by lia)]
      exact admit_none hc fuel (st + 1) s1 fun k hk hl => h k (by lia) hl
theorem attempt_none {m : Sre.M} (hc : m.code = codeL.toArray) (hf : m.frames = []) (ho : m.outcome = none) (h : ∀ k, k < m.lim → safe (m.text.getD k 0) = true) : ((m.attemptFrom 0 true).runFor 4).outcome = some .failed := by
  have hh : m.hasFirstSet = true := by
    unfold Sre.M.hasFirstSet
    rw [hc]
    rfl
  obtain ⟨sn, e⟩ := admit_none hc (m.lim + 1 - 0) 0 m.seen fun k _ hk => h k hk
  unfold Sre.M.attemptFrom
  rw [hh, e]
  simp only [Bool.not_true, Bool.false_eq_true, if_false]
  have e1 : (Sre.M.say { m with seen := sn } false).step = { (Sre.M.say { m with seen := sn } false) with outcome := some .failed } := by
    unfold Sre.M.step
    simp [Sre.M.say, ho, hf]
  have e0 : (Sre.M.say { m with seen := sn } false).outcome.isSome = false := by simp [Sre.M.say, ho]
  rw [Sre.M.runFor, if_neg (by rw [e0]; exact Bool.false_ne_true), e1]
  rfl
theorem search_none (h : ∀ c ∈ cl x, safe c = true) : ((Sre.forSearch codeL.toArray x.cps 0 0 x.cps.size false).runFor 4).outcome = some .failed := by
  unfold Sre.forSearch
  dsimp only
  split
  · rfl
  · exact attempt_none rfl rfl rfl fun k hk => h _ (by
      have hk' : k < x.cps.size := hk
      show x.cps.getD k 0 ∈ _
      simp [cl, hk'])
theorem wp_rules (f : Nat → Bool) (g : Nat → String) {Q : PUnit → Shared → Prop} (h : Q ⟨⟩ s) : ∀ (l : List Nat), wpAny (model prog w) A (forIn l PUnit.unit fun i (_ : PUnit) => if f i = true then do rule (g i); pure (ForInStep.yield PUnit.unit) else pure (ForInStep.yield PUnit.unit)) Q E s
  | [] => by
    rw [List.forIn_nil]
    exact wpAny_pure h
  | i :: l => by
    rw [List.forIn_cons]
    refine wpAny_bind ?_
    cases f i with
    | true => exact wpAny_bind (wpAny_rule (wpAny_pure (wp_rules f g h l)))
    | false => exact wpAny_pure (wp_rules f g h l)
theorem drive {m : Sre.M} {o : Sre.Outcome} (h : (m.runFor 4).outcome = some o) : Builtin.Re.reDrive (2 ^ 64) m = pure (m.runFor 4) := by
  show Builtin.Re.reDrive (18446744073709551615 + 1) m = _
  unfold Builtin.Re.reDrive
  show (if (m.runFor 4).outcome.isSome = true then pure (m.runFor 4) else _) = _
  rw [h]
  rfl
theorem run_none {m : Sre.M} {Q : Option Sre.M → Shared → Prop} (h : (m.runFor 4).outcome = some .failed) (hQ : Q none s) : wpAny (model prog w) A (Builtin.Re.reRunToEnd m) Q E s := by
  unfold Builtin.Re.reRunToEnd
  refine wpAny_bind (wpAny_of_eq (drive h) ?_)
  refine wpAny_bind (wp_rules (fun i => (m.runFor 4).seen.has i) (fun i => Sre.names.getD i "") ?_ _)
  rw [h]
  exact wpAny_pure hQ
theorem run_some {m : Sre.M} {Q : Option Sre.M → Shared → Prop} (h : (m.runFor 4).outcome = some .matched) (hQ : Q (some (m.runFor 4)) s) : wpAny (model prog w) A (Builtin.Re.reRunToEnd m) Q E s := by
  unfold Builtin.Re.reRunToEnd
  refine wpAny_bind (wpAny_of_eq (drive h) ?_)
  refine wpAny_bind (wp_rules (fun i => (m.runFor 4).seen.has i) (fun i => Sre.names.getD i "") ?_ _)
  rw [h]
  exact wpAny_pure hQ
theorem inSet20 (c : Nat) (seen : Sre.Seen) : ∃ seen', Sre.inSet codeL.toArray c codeL.toArray.size 20 true seen = .ok (!safe c, seen') := by
  have e1 : Sre.inSet codeL.toArray c codeL.toArray.size 20 true seen = Sre.inSet codeL.toArray c 33 21 false (seen.add 21) := rfl
  have e2 : ∀ sn, Sre.inSet codeL.toArray c 33 21 false sn = if (decide (c < 256) && (codeL.toArray.getD (21 + (1 + c / 32)) 0).testBit (c % 32)) = true then .ok (false, sn.add 9) else Sre.inSet codeL.toArray c 32 30 false (sn.add 9) := fun _ => rfl
  have e3 : ∀ sn, Sre.inSet codeL.toArray c 32 30 false sn = if (Sre.isWord c != false) = true then .ok (false, (sn.add 8).add 59) else Sre.inSet codeL.toArray c 31 32 false ((sn.add 8).add 59) := fun _ => rfl
  have e4 : ∀ sn, Sre.inSet codeL.toArray c 31 32 false sn = .ok (true, sn.add 0) := fun _ => rfl
  have e5 : (decide (c < 256) && (codeL.toArray.getD (21 + (1 + c / 32)) 0).testBit (c % 32)) = (decide (c < 256) && (codeL.toArray.getD (6 + (1 + c / 32)) 0).testBit (c % 32)) := by
    by_cases hc : c < 256
    · have key : ∀ q : Fin 8, codeL.toArray.getD (21 + (1 + q.1)) 0 = codeL.toArray.getD (6 + (1 + q.1)) 0 := by decide
      rw [key ⟨c / 32, by lia⟩]
    · simp [hc]
  rw [e1, e2, e5]
  unfold safe
  cases h1 : (decide (c < 256) && (codeL.toArray.getD (6 + (1 + c / 32)) 0).testBit (c % 32)) with
  | true => exact ⟨_, rfl⟩
  | false =>
    simp only [Bool.false_eq_true, if_false]
    rw [e3]
    cases h2 : Sre.isWord c with
    | true => exact ⟨_, rfl⟩
    | false => simp only [bne_self_eq_false, Bool.false_eq_true, if_false]; rw [e4]; exact ⟨_, rfl⟩
theorem admit_some {m : Sre.M} (hc : m.code = codeL.toArray) : ∀ (fuel st : Nat) (seen : Sre.Seen), m.lim < fuel + st → (∃ k, st ≤ k ∧ k < m.lim ∧ safe (m.text.getD k 0) = false) → ∃ k seen', k < m.lim ∧ safe (m.text.getD k 0) = false ∧ m.admitted fuel st seen = .ok (some k, seen')
  | 0, st, seen, hl, ⟨k, h1, h2, _⟩ => by lia
  | fuel + 1, st, seen, hl, ⟨k, h1, h2, h3⟩ => by
    unfold Sre.M.admitted
    rw [if_neg (by lia), hc]
    obtain ⟨s1, e⟩ := inSet5 (m.text.getD st 0) seen
    rw [e]
    cases hs : safe (m.text.getD st 0) with
    | false => exact ⟨st, s1, by lia, hs, rfl⟩
    | true =>
      have hne : st ≠ k := fun e => by rw [e, h3] at hs; cases hs
      exact admit_some hc fuel (st + 1) s1 (by lia) ⟨k, by lia, h2, h3⟩
theorem attempt_some {m : Sre.M} (hc : m.code = codeL.toArray) (hpc : m.pc = 18) (hf : m.frames = []) (ho : m.outcome = none) (ha : m.answer = none) (hw : m.weight = 0) (hwt : m.wholeText = false) (h : ∃ k, k < m.lim ∧ safe (m.text.getD k 0) = false) : ((m.attemptFrom 0 true).runFor 4).outcome = some .matched := by
  have hh : m.hasFirstSet = true := by
    unfold Sre.M.hasFirstSet
    rw [hc]
    rfl
  obtain ⟨k0, h1, h2⟩ := h
  obtain ⟨k, sn, hk, hs, e⟩ := admit_some hc (m.lim + 1 - 0) 0 m.seen (by lia) ⟨k0, Nat.zero_le _, h1, h2⟩
  unfold Sre.M.attemptFrom
  rw [hh, e]
  clear e hh
  obtain ⟨code, text, lim, start, lastStart, wholeText, mustAdvance, pc, pos, handed, outermost, marks, lastmark, lastindex, loops, inner, frames, weight, answer, seen, outcome⟩ := m
  dsimp only at hc hpc hf ho ha hw hwt h1 h2 hk hs
  subst hc hpc hf ho ha hw hwt
  obtain ⟨s2, e2⟩ := inSet20 (text.getD k 0) (sn.add 13)
  rw [hs] at e2
  have acc : Sre.accepts codeL.toArray 18 (text.getD k 0) (sn.add 13) = .ok (true, s2) := e2
  let F0 : Sre.Frame := { wait := .nextStart, pc := 18, pos := k, outermost := true }
  let M0 : Sre.M := { code := codeL.toArray, text := text, lim := lim, start := k, lastStart := lastStart, wholeText := false, mustAdvance := false, pc := 18, pos := k, handed := k, outermost := true, marks := marks, lastmark := -1, lastindex := -1, loops := loops, inner := inner, frames := [F0], weight := 1, answer := none, seen := sn, outcome := none }
  show (Sre.M.runFor 4 M0).outcome = _
  have st1 : M0.step = (if k ≥ lim then Sre.M.say { M0 with seen := sn.add 13 } false else match Sre.accepts codeL.toArray 18 (text.getD k 0) (sn.add 13) with
      | .error why => Sre.M.stick { M0 with seen := sn.add 13 } why
      | .ok (false, seen) => Sre.M.say { M0 with seen := seen } false
      | .ok (true, seen) => { M0 with seen := seen, pc := 33, pos := k + 1 }) := rfl
  rw [if_neg (by lia), acc] at st1
  show (Sre.M.runFor 3 M0.step).outcome = _
  rw [st1]
  rfl
theorem search_some (h : ∃ c ∈ cl x, safe c = false) (hx : 0 < x.cps.size) : ((Sre.forSearch codeL.toArray x.cps 0 0 x.cps.size false).runFor 4).outcome = some .matched := by
  unfold Sre.forSearch
  dsimp only
  rw [if_neg (by
    intro q
    have q' : x.cps.size < (Sre.header codeL.toArray).fst := by simpa using q
    have hd : (Sre.header codeL.toArray).fst = 1 := rfl
    rw [hd] at q'
    lia)]
  refine attempt_some rfl rfl rfl rfl rfl rfl rfl ?_
  obtain ⟨c, hc, hs⟩ := h
  obtain ⟨k, hk, e⟩ := List.getElem_of_mem hc
  refine ⟨k, show k < x.cps.size from by simpa [cl] using hk, ?_⟩
  show safe (x.cps.getD k 0) = false
  have hk' : k < x.cps.size := by simpa [cl] using hk
  have e' : x.cps.getD k 0 = c := by rw [← e]; simp [cl, hk']
  rw [e']
  exact hs
theorem tree_search_none {P : Fin → Shared → Prop} (h63 : s.heap.get? 63 = some patObj) (h62 : s.heap.get? 62 = some codeObj) (hx : x.length ≤ 1000) (hs : ∀ c ∈ cl x, safe c = true)
    (h : P (.done (.ret .none)) s) : wpAny (model prog w) A (Builtin.«re.Pattern.search» ⟨[.ref 63, .str x t], []⟩) P E s := by
  unfold Builtin.«re.Pattern.search»
  refine wpAny_bind (target_search h63 h62 ?_ hx)
  unfold Builtin.Re.reAnswer
  refine wpAny_bind (run_none (search_none hs) ?_)
  exact wpAny_pure h
theorem tree_search_some {P : Fin → Shared → Prop} (h63 : s.heap.get? 63 = some patObj) (h62 : s.heap.get? 62 = some codeObj) (hx : x.length ≤ 1000) (hs : ∃ c ∈ cl x, safe c = false)
    (h : ∀ a h', (∀ b o, s.heap.get? b = some o → h'.get? b = some o) → P (.done (.ret (.ref a))) { s with heap := h' }) : wpAny (model prog w) A (Builtin.«re.Pattern.search» ⟨[.ref 63, .str x t], []⟩) P E s := by
  have hx0 : 0 < x.cps.size := by
    obtain ⟨c, hc, _⟩ := hs
    have := List.length_pos_of_mem hc
    simpa [cl] using this
  unfold Builtin.«re.Pattern.search»
  refine wpAny_bind (target_search h63 h62 ?_ hx)
  unfold Builtin.Re.reAnswer
  refine wpAny_bind (run_some (search_some hs hx0) ?_)
  dsimp only
  unfold Builtin.Re.reNewMatch
  generalize (Sre.M.runFor 4 (Sre.forSearch codeL.toArray x.cps 0 0 x.cps.size false)) = m
  refine wpAny_bind ?_
  dsimp only
  refine ifF rfl ?_
  refine wpAny_bind ?_
  simp only [newTuple, newFields]
  refine wpAny_newObj_type ?_ (Nat.le_of_ble_eq_true rfl)
  refine wpAny_newObj_type ?_ (Nat.le_of_ble_eq_true rfl)
  exact wpAny_pure (h _ _ fun b o e => Heap.get?_push_of_some _ (Heap.get?_push_of_some _ e))
noncomputable def boundS : Obj := { cls := .type "builtin_function_or_method", data := .fields #[.builtin "re.Pattern.search", .ref 63] }
theorem callWith_S {pos : Pos} {u : Addr} {first : List Value} {args : List (Bool × Sem Value)} {Q : Value → Shared → Prop} (hplain : args.any (·.1) = false)
    (h : wpAny (model prog w) A (evalArgs (.ref u) true args []) (fun x s₁ => s₁.heap.get? u = some boundS ∧ wpAny (model prog w) A (call (.ref u) (first ++ x.pos) x.kw) Q E s₁) E s) : wpAny (model prog w) A (callWith pos (.ref u) first args []) Q E s := by
  unfold callWith
  refine wpAny_bind (wpAny_holding (wpAny_mono h (fun x s₁ h₁ => wpAny_bind (wpAny_standAt ?_)) fun _ _ x => x))
  obtain ⟨ho, hcall⟩ := h₁
  simp only [hplain, List.any_nil, Bool.or_false]
  refine wpAny_bind (m := keeperOf (.ref u)) ?_
  unfold keeperOf
  refine wpAny_bind (wpAny_load ho ?_)
  simp only [boundS, show (Value.type "builtin_function_or_method" != Value.type "method") = true by decide, show (Value.type "builtin_function_or_method" == Value.type "builtin_function_or_method" || Value.type "builtin_function_or_method" == Value.type "method-wrapper") = true by decide, if_true]
  refine wpAny_pure ?_
  exact wpAny_bind (wpAny_mono hcall (fun r s₂ hr => wpAny_bind (wpAny_holding (wpAny_point (wpAny_pure hr)))) fun _ _ x => x)
end
end
section
set_option maxRecDepth 100000
section
variable {prog : Program} {w : World} {A : Around} {E : Value → Shared → Prop} {s : Shared} {x : Str} {t : Tok}
noncomputable def sigS : Manifest.Signature := (Manifest.signature? "re.Pattern.search").get (by decide +kernel)
theorem sig_S : Manifest.signature? "re.Pattern.search" = some sigS := by kernel_rfl
theorem kind_S : builtinKind "re.Pattern.search" = some .method := by decide +kernel
theorem var_S : Manifest.varargsMethods.contains "re.Pattern.search" = false := by decide +kernel
theorem args_S : Bind.checkArgs "re.Pattern.search" { sigS with full := s!"{Bind.lastOf "re.Pattern"}.{Bind.lastOf "re.Pattern.search"}" } ⟨[.ref 63, .str x t], []⟩ = pure () := by kernel_rfl
theorem check_S {Q : Unit → Shared → Prop} (h63 : s.heap.get? 63 = some patObj) (h : Q () s) : wpAny (model prog w) A (checkBoundCall "re.Pattern.search" ⟨[.ref 63, .str x t], []⟩) Q E s := by
  have hT : s.TypeIs (.ref 63) "re.Pattern" := ⟨_, h63, rfl⟩
  unfold checkBoundCall
  rw [sig_S, kind_S]
  simp only [var_S, Bool.false_or]
  refine ifF (by decide) ?_
  refine wpAny_bind (wpAny_isInstance hT (b := false) (by rw [isSubtype_type]; kernel_rfl) ?_)
  refine ifF rfl ?_
  refine wpAny_bind ?_
  refine wpAny_mono (Q := fun b s' => b = false ∧ s' = s) (E := E) ?_ (fun b s' hb => ?_) (fun _ _ z => z)
  · unfold isType
    exact wpAny_bind (wpAny_loadPart h63 (wpAny_pure ⟨rfl, rfl⟩))
  · obtain ⟨rfl, rfl⟩ := hb
    refine ifF rfl ?_
    refine wpAny_bind (wpAny_typeOf hT ?_)
    exact wpAny_of_eq args_S h
theorem entry_S : entryFor table "re.Pattern.search" = some Builtin.«re.Pattern.search» := entryFor_of_tree (by kernel_rfl)
theorem quiet_S {as : Args} : (Code.builtin "re.Pattern.search" as).quiet = true := Code.quiet_builtin _ (by decide +kernel)
theorem call_S {u : Addr} {Q : Value → Shared → Prop} (ho : s.heap.get? u = some boundS) (h63 : s.heap.get? 63 = some patObj)
    (h : ∀ (A' : Around) (P : Fin → Shared → Prop) (E' : Value → Shared → Prop), (∀ v s', Q v s' → P (.done (.ret v)) s') → wpAny (model prog w) A' (Builtin.«re.Pattern.search» ⟨[.ref 63, .str x t], []⟩) P E' s) : wpAny (model prog w) A (call (.ref u) [.str x t]) Q E s := by
  refine wpAny_call (codeAny_of_tree ?_)
  show wpAny _ A.in1 (callAny (.ref u) ⟨[.str x t], []⟩) _ _ s
  simp only [callAny]
  refine wpAny_bind (wpAny_load ho ?_)
  simp only [boundS, show (Value.type "builtin_function_or_method" == Value.type "method" || Value.type "builtin_function_or_method" == Value.type "builtin_function_or_method" || Value.type "builtin_function_or_method" == Value.type "method-wrapper") = true by decide, if_true]
  refine W.KFB.if_so (by decide) ?_
  refine wpAny_bind (check_S h63 ?_)
  refine wpAny_bind (wpAny_pure (wpAny_pure ?_))
  exact ⟨quiet_S, codeAny_builtin entry_S (h _ _ _ fun v s' q => q)⟩
theorem call_none {u : Addr} {Q : Value → Shared → Prop} (ho : s.heap.get? u = some boundS) (h63 : s.heap.get? 63 = some patObj) (h62 : s.heap.get? 62 = some codeObj) (hx : x.length ≤ 1000) (hs : ∀ c ∈ cl x, safe c = true)
    (h : Q .none s) : wpAny (model prog w) A (call (.ref u) [.str x t]) Q E s :=
  call_S ho h63 fun _ _ _ k => tree_search_none h63 h62 hx hs (k _ _ h)
theorem call_some {u : Addr} {Q : Value → Shared → Prop} (ho : s.heap.get? u = some boundS) (h63 : s.heap.get? 63 = some patObj) (h62 : s.heap.get? 62 = some codeObj) (hx : x.length ≤ 1000) (hs : ∃ c ∈ cl x, safe c = false)
    (h : ∀ a h', (∀ b o, s.heap.get? b = some o → h'.get? b = some o) → Q (.ref a) { s with heap := h' }) : wpAny (model prog w) A (call (.ref u) [.str x t]) Q E s :=
  call_S ho h63 fun _ _ _ k => tree_search_some h63 h62 hx hs fun a h' hk => k _ _ (h a h' hk)
end
end
section
set_option maxRecDepth 100000
set_option maxHeartbeats 8000000
noncomputable def quoteS (x : Str) : Str := if x.length = 0 then Str.ofString "''" else if (cl x).all safe then x else Str.ofString "'" ++ Txt.replace x (Str.ofString "'") (Str.ofString "'\"'\"'") ++ Str.ofString "'"
theorem find_at {w : World} {h : Heap} (X : (Mine.K w.params).In h) : h.get? 766 = some boundS ∧ h.get? 63 = some patObj ∧ h.get? 62 = some codeObj := ⟨X _ _ rfl, X _ _ rfl, X _ _ rfl⟩
theorem find_K {prog : Program} {w : World} {A : Around} {E : Value → Shared → Prop} {s : Shared} {x : Str} {t : Tok} {h₀ : Heap} {L : Addr} {m : Str → Option Value} {news : List (Addr × Obj)} {pos : Pos} {e : Expr} {env : Env} {Q : Value → Shared → Prop}
    (X : (Mine.K w.params).In h₀) (F : Fr h₀ L s.heap m) (N : News h₀ L s.heap news) (hx : x.length ≤ 500)
    (he : ∀ Q' : Value → Shared → Prop, Q' (.str x t) s → wpAny (model prog w) A (eval e env) Q' E s)
    (h1 : (cl x).all safe = true → Q .none s)
    (h2 : (cl x).all safe = false → ∀ a h', Fr h₀ L h' m → News h₀ L h' news → Q (.ref a) { s with heap := h' })
    (hs : starEach [e] env = [(false, eval e env)] := by rfl) :
    wpAny (model prog w) A (callWith pos (.ref 766) [] (backTo pos (starEach [e] env)) []) Q E s := by
  rw [hs]
  obtain ⟨a1, a2, a3⟩ := find_at X
  have b1 := F.keep _ _ a1
  have b2 := F.keep _ _ a2
  have b3 := F.keep _ _ a3
  refine callWith_S rfl (Calls.evalArgs_plain (Calls.spliced_cons ?_))
  refine he _ ?_
  refine Calls.spliced_nil ⟨b1, ?_⟩
  cases hc : (cl x).all safe
  · refine call_some b1 b2 b3 (by lia) (by obtain ⟨c, h1, h2⟩ := List.all_eq_false.1 hc; exact ⟨c, h1, by simpa using h2⟩) fun a h' hk => h2 hc a h' (F.keeps hk) (N.grown hk)
  · exact call_none b1 b2 b3 (by lia) (List.all_eq_true.1 hc) (h1 hc)
noncomputable abbrev envY (qn : Str) (cs : Scope) (L gl : Addr) (fn : Option Addr) (ccd : Value) (cl : List (Str × Addr)) (bi : Addr) : Env := { scope := cs, locals := L, globals := gl, cells := cl, qual := qn, func := fn, code := ccd, frame := some L, builtins := bi }
noncomputable abbrev GClaim (prog : Program) (w : World) (K : Frag) (p : Program) (loose : List Str) (mean : ExcName → Option Value) (mg mb : Str → Option Value) (f : Addr) (news : List (Addr × Obj)) (pre : Prop) (vs : List Value) (R : Tok → Value) : Prop :=
  ∀ (dp un : Nat) (gd : Option (List Code)) (qn : Str) (cs : Scope) (gl : Addr) (fn : Option Addr) (ccd : Value) (cl : List (Str × Addr)) (bi : Addr) (outer : List Env) (A₀ : Around) (base h₀ : Heap) (L : Addr) (m : Str → Option Value) (s : Shared) (Q E : Value → Shared → Prop),
    Below A₀ base outer h₀ → Fr h₀ L s.heap m → K.In h₀ → News h₀ L s.heap news → Top p loose mean mg mb h₀ → cs.kind = .function →
    pre → dp + 40 < recursionLimit → un + 400 < cLine → CbRet h₀ L m news s Q R →
      wpAny (model prog w) { handled := none, depth := dp, frames := some (envY qn cs L gl fn ccd cl bi :: outer), guards := gd, units := un } (call (.ref f) vs) Q E s
theorem quote_c (w : World) (mean : ExcName → Option Value) (mg mb : Str → Option Value) (x : Str) (tx : Tok) (news : List (Addr × Obj)) :
    GClaim PySem.Challenge.pw_ny0408_02 w (Mine.K w.params) Mine.vw loose mean mg mb 773 news (x.length ≤ 500 ∧ ((cl x).all safe = true ∨ (Txt.replace x (Str.ofString "'") (Str.ofString "'\"'\"'")).length ≤ 5000)) [.str x tx] (fun t => .str (quoteS x) t) := by
  refine fill ?_
  k_fill
  intro _
  dsimp only [GClaim, CbRet]
  intros
  rename_i hret
  rename_i hpre _ _
  obtain ⟨hx, hy⟩ := hpre
  refine wpAny_call ?_
  k_dflt cell_enter
  k_with_none
  k_with "callWith ref" => refine halt ?_
  k_steps
  rotate_left
  · refine cb_retS hret (by have : x.length = 0 := by lia
                            simp [quoteS, this]) (by k_asm) (by first | k_asm | (refine' cb_drop ?cbN ?cbS; (case cbN => assumption); (case cbS => kcj_all)))
  unfold Halt
  refine' find_K (x := x) (t := tx) ?X ?F ?N ?hx ?he ?h1 ?h2
  case X => assumption
  case F => assumption
  case N => assumption
  case hx => assumption
  case he => 
    intro Q' hQ'
    k_steps
    exact hQ'
  case h1 =>
    intro hs
    k_steps
    refine cb_retS hret (by have : ¬ x.length = 0 := by lia
                            simp only [quoteS, this, hs, if_false, if_true]) (by k_asm) (by first | k_asm | (refine' cb_drop ?cbN ?cbS; (case cbN => assumption); (case cbS => kcj_all)))
  case h2 =>
    intro hs a h' F N
    have hz : (Txt.replace x (Str.ofString "'") (Str.ofString "'\"'\"'")).length ≤ 5000 := by
      rcases hy with h | h
      · rw [hs] at h; exact absurd h (by decide)
      · exact h
    clear hy
    k_steps
    refine cb_retS hret (by have : ¬ x.length = 0 := by lia
                            simp only [quoteS, this, hs, if_false, Bool.false_eq_true]) (by k_asm) (by first | k_asm | (refine' cb_drop ?cbN ?cbS; (case cbN => assumption); (case cbS => kcj_all)))
end
section
set_option maxRecDepth 100000
section
variable {prog : Program} {w : World} {A : Around}
noncomputable abbrev allT : Nat → Bool := fun _ => true
noncomputable def KB (C : Addr) (s s' : Shared) : Prop := ∃ h tk, s' = { s with heap := h, toks := tk } ∧ (∀ b o, b ≠ C → s.heap.get? b = some o → h.get? b = some o) ∧ ∃ m, h.Ns C m
noncomputable def EltF (prog : Program) (w : World) (cenv : Env) (x : Str) (elt : Expr) (fp wr : List Addr) (P : Nat → Value → Prop) (F : Nat → Value → Prop) (href : Heap) (fr : Option (List Env)) (D U : Nat) : Prop :=
  ∀ (A' : Around) E' i v (s₂ : Shared) m₂, A'.handled = none → A'.frames = fr → A'.depth ≤ D → A'.units ≤ U → P i v → s₂.heap.Ns cenv.locals m₂ → m₂ x = some v → (∀ b ∈ fp, b ∉ wr → ∀ o, href.get? b = some o → s₂.heap.get? b = some o) →
    wpAny (model prog w) A' (eval elt cenv) (fun y s₃ => F i y ∧ KB cenv.locals s₂ s₃) E' s₂
theorem loopF {elt iter : Expr} {x : Str} {px : Pos} {scope : Scope} {pos : Pos} {I : Addr} {fp wr : List Addr} {n₀ : Nat} {P : Nat → Value → Prop} {St₀ : Nat → Heap → Prop} {cenv : Env} {fr : List Env}
    (hh : A.handled = none) (hf : A.frames = some fr) (W₀ : ∀ A' : Around, A'.handled = none → Walks prog w A' I fp wr n₀ P St₀) (F : Nat → Value → Prop) (href : Heap)
    (hx : cenv.kindOf x = some .local) (hp : (cenv.scope.kind == .class || (cenv.scope.kind == .module && cenv.locals != cenv.globals)) = false)
    (hco : cenv.scope.isCoroutine = false) (hCf : cenv.locals ∉ fp) (hq : EltF prog w cenv x elt fp wr P F href (some (cenv :: fr)) (A.depth + 1) (A.units + 3)) :
    ∀ (k i : Nat) (s₀ s : Shared) (m : Str → Option Value), n₀ - i = k → i ≤ n₀ → St₀ i s.heap → s.heap.Ns cenv.locals m → GenSince cenv.locals wr s₀ s →
      (∀ b ∈ fp, b ∉ wr → ∀ o, href.get? b = some o → s.heap.get? b = some o) →
      Seg (model prog w) A (fun n s₀ r s₁ => r = .ok .next ∧ (n = 0 ∧ GenSince cenv.locals wr s₀ s₁)) (genProto cenv.locals fp wr allT n₀ F) (passing allT n₀ i).length s₀
        (.compLoop (.GeneratorExp elt [⟨.Name x px, iter, [], 0⟩] scope pos) 0 (.ref I) .none cenv)
        ((model prog w).den (.compLoop (.GeneratorExp elt [⟨.Name x px, iter, [], 0⟩] scope pos) 0 (.ref I) .none cenv)) [] s := by
  have hh' : (A.over (.compLoop (.GeneratorExp elt [⟨.Name x px, iter, [], 0⟩] scope pos) 0 (.ref I) .none cenv) []).handled = none := hh
  have hf' : (A.over (.compLoop (.GeneratorExp elt [⟨.Name x px, iter, [], 0⟩] scope pos) 0 (.ref I) .none cenv) []).frames = some (cenv :: fr) := by
    show pushEnvs [cenv] (pushEnvs [] A.frames) = _
    rw [hf]; rfl
  have hCw : cenv.locals ∉ wr := fun h => hCf ((W₀ A hh).sub _ h)
  intro k
  induction k with
  | zero =>
    intro i s₀ s m hk hi hst hn hs hkp
    have hin : i = n₀ := Nat.le_antisymm hi (Nat.sub_eq_zero_iff_le.mp hk)
    subst hin
    show Seg _ A _ _ _ s₀ _ ((compTurn (.GeneratorExp elt [⟨.Name x px, iter, [], 0⟩] scope pos) 0 (.ref I) .none cenv).onRaise (leaving cenv)) [] s
    rw [compTurn_gen, Sem.onRaise_eq_wrap]
    refine seg_bind_wrap (wpAny_standAt ?_)
    refine seg_bind_wrap ((W₀ _ hh').done s _ _ hst fun h' tk hk' => ?_)
    exact seg_end (.ok .next) ⟨rfl, by rw [passing_end]; rfl, hs.step fun b o _ hw e => hk' b o hw e⟩
  | succ k ih =>
    intro i s₀ s m hk hi hst hn hs hkp
    have hlt : i < n₀ := Nat.lt_of_sub_eq_succ hk
    show Seg _ A _ _ _ s₀ _ ((compTurn (.GeneratorExp elt [⟨.Name x px, iter, [], 0⟩] scope pos) 0 (.ref I) .none cenv).onRaise (leaving cenv)) [] s
    rw [compTurn_gen, Sem.onRaise_eq_wrap]
    refine seg_bind_wrap (wpAny_standAt ?_)
    refine seg_bind_wrap ((W₀ _ hh').item i s _ _ hlt hst fun v h₁ tk₁ hPv hst₁ hk₁ => ?_)
    refine seg_bind_wrap (wpAny_of_eq (rfl : letOwnedTupleGo (.Name x px) (.ref I) v = pure ()) ?_)
    refine seg_bind_wrap (wpAny_assign_Name (wpAny_storeName_local hx (hn.at' fun o e => hk₁ _ o hCw e) (fun h₂ hn₂ hs₂ => ?_) hp))
    have up : ∀ b o, b ≠ cenv.locals → b ∉ wr → s.heap.get? b = some o → h₂.get? b = some o := fun b o hbC hbw e => hs₂.extBut b o hbC (hk₁ b o hbw e)
    have hst₂ : St₀ (i + 1) h₂ := (W₀ A hh).frame _ _ _ hst₁ fun b hb o e => hs₂.extBut b o (fun h => hCf (h ▸ hb)) e
    have hkp₂ : ∀ b ∈ fp, b ∉ wr → ∀ o, href.get? b = some o → h₂.get? b = some o := fun b hb hbw o e => up b o (fun h => hCf (h ▸ hb)) hbw (hkp b hb hbw o e)
    have hs₂' : GenSince cenv.locals wr s₀ { s with heap := h₂, toks := tk₁ } := hs.step fun b o hbC hbw e => up b o hbC hbw e
    refine seg_bind_wrap (wpAny_pure ?_)
    rw [passing_true hlt rfl, List.length_cons]
    simp only [if_true]
    have hy : ∀ v, yieldOut cenv v = yieldValue v := fun v => by simp only [yieldOut, hco, Bool.false_eq_true, if_false]
    simp only [hy]
    rw [Sem.bind_eq_wrap', Sem.bind_eq_wrap', Sem.wrap_wrap, Sem.wrap_wrap]
    refine seg_wrap (wpAny_mono (hq _ _ i v _ _ hh' hf' (Nat.le_of_eq rfl) (Nat.le_of_eq rfl) hPv hn₂ (by simp) hkp₂) (fun y s₄ h₄ => ?_) fun _ _ e => e)
    obtain ⟨hFy, h₄, tk₄, rfl, hk₄, m₄, hn₄⟩ := h₄
    have hst₄ : St₀ (i + 1) h₄ := (W₀ A hh).frame _ _ _ hst₂ fun b hb o e => hk₄ b o (fun h => hCf (h ▸ hb)) e
    refine seg_at (seg_yield rfl rfl rfl ⟨⟨i, passing_here hlt rfl, hFy⟩, hs₂'.step fun b o hbC _ e => hk₄ b o hbC e, fun s'' hal => ?_⟩)
    refine seg_again rfl (ih (i + 1) s'' s'' _ (by rw [← Nat.sub_sub n₀ i 1, hk]; rfl) hlt ((W₀ A hh).frame _ _ _ hst₄ fun b hb o e => hal b (List.mem_cons_of_mem _ hb) o e)
      (hn₄.at' fun o e => hal _ (List.mem_cons_self ..) o e) (GenSince.refl _ _ _) fun b hb hbw o e => hal b (List.mem_cons_of_mem _ hb) o (hk₄ b o (fun h => hCf (h ▸ hb)) (hkp₂ b hb hbw o e)))
theorem startF {elt iter : Expr} {x : Str} {px : Pos} {scope : Scope} {pos : Pos} {I : Addr} {fp wr : List Addr} {n₀ : Nat} {P : Nat → Value → Prop} {St₀ : Nat → Heap → Prop} {cenv : Env} {fr : List Env}
    (hh : A.handled = none) (hf : A.frames = some fr) (W₀ : ∀ A' : Around, A'.handled = none → Walks prog w A' I fp wr n₀ P St₀) (F : Nat → Value → Prop) (href : Heap)
    (hx : cenv.kindOf x = some .local) (hp : (cenv.scope.kind == .class || (cenv.scope.kind == .module && cenv.locals != cenv.globals)) = false)
    (hco : cenv.scope.isCoroutine = false) (hCf : cenv.locals ∉ fp) (hq : EltF prog w cenv x elt fp wr P F href (some (cenv :: fr)) (A.depth + 1) (A.units + 3))
    (s₀ s : Shared) (m : Str → Option Value) (hst : St₀ 0 s.heap) (hn : s.heap.Ns cenv.locals m) (hs : GenSince cenv.locals wr s₀ s)
    (hkp : ∀ b ∈ fp, b ∉ wr → ∀ o, href.get? b = some o → s.heap.get? b = some o) :
    Seg (model prog w) A (fun n s₀ r s₁ => r = .ok .next ∧ (n = 0 ∧ GenSince cenv.locals wr s₀ s₁)) (genProto cenv.locals fp wr allT n₀ F) (passing allT n₀ 0).length s₀
      (.compStart (.GeneratorExp elt [⟨.Name x px, iter, [], 0⟩] scope pos) 0 (.ref I) .none cenv)
      ((model prog w).den (.compStart (.GeneratorExp elt [⟨.Name x px, iter, [], 0⟩] scope pos) 0 (.ref I) .none cenv)) [] s := by
  have hh' : (A.over (.compStart (.GeneratorExp elt [⟨.Name x px, iter, [], 0⟩] scope pos) 0 (.ref I) .none cenv) []).handled = none := hh
  have loop := loopF (iter := iter) (px := px) (scope := scope) (pos := pos) hh hf W₀ F href hx hp hco hCf hq n₀ 0 s₀ s m (Nat.sub_zero _) (Nat.zero_le _) hst hn hs hkp
  show Seg _ A _ _ _ s₀ _ ((compStart (.GeneratorExp elt [⟨.Name x px, iter, [], 0⟩] scope pos) 0 (.ref I) .none cenv).onRaise (leaving cenv)) [] s
  unfold compStart
  rw [Sem.onRaise_eq_wrap]
  show Seg _ A _ _ _ s₀ _ ((ask >>= _).wrap _ _ _ _) [] s
  refine seg_bind_wrap (wpAny_askSetting ?_)
  split
  · exact seg_again rfl loop
  · first
      | exact seg_bind_wrap (wpAny_rule (seg_bind_wrap (wpAny_standAt (seg_bind_wrap ((W₀ _ hh').self 0 s _ _ hst (seg_again rfl loop))))))
      | (refine seg_bind_wrap (wpAny_rule ?_); show Seg _ A _ _ _ s₀ _ ((standAt iter.pos >>= _).wrap _ _ _ _) [] s; exact seg_bind_wrap (wpAny_standAt (seg_bind_wrap ((W₀ _ hh').self 0 s _ _ hst (seg_again rfl loop)))))
theorem freshF {elt iter : Expr} {x : Str} {px : Pos} {scope : Scope} {pos : Pos} {I a : Addr} {g : Nat} {fp wr : List Addr} {n₀ : Nat} {P : Nat → Value → Prop} {St₀ : Nat → Heap → Prop} {cenv : Env} {fr : List Env}
    (hh : A.handled = none) (hf : A.frames = some fr) (W₀ : ∀ A' : Around, A'.handled = none → Walks prog w A' I fp wr n₀ P St₀) (F : Nat → Value → Prop)
    (hx : cenv.kindOf x = some .local) (hp : (cenv.scope.kind == .class || (cenv.scope.kind == .module && cenv.locals != cenv.globals)) = false)
    (hco : cenv.scope.isCoroutine = false) (hCf : cenv.locals ∉ fp) {s : Shared} {m : Str → Option Value} (hq : EltF prog w cenv x elt fp wr P F s.heap (some (cenv :: fr)) (A.depth + 1) (A.units + 4))
    (hg : s.heap.IsGen a g) (hgs : s.gens[g]? = some (.fresh (.compStart (.GeneratorExp elt [⟨.Name x px, iter, [], 0⟩] scope pos) 0 (.ref I) .none cenv)))
    (hst : St₀ 0 s.heap) (hn : s.heap.Ns cenv.locals m) (hl : s.heap.NoLimit) : GenAt prog w A a g cenv.locals fp wr allT n₀ F 0 s :=
  ⟨hg, hl, _, hgs, fun s'' hal => ⟨rfl, startF (A := A.in1) hh hf W₀ F s.heap hx hp hco hCf hq s'' s'' m ((W₀ A hh).frame _ _ _ hst fun b hb o e => hal b (List.mem_cons_of_mem _ hb) o e)
    (hn.at' fun o e => hal _ (List.mem_cons_self ..) o e) (GenSince.refl _ _ _) fun b hb _ o e => hal b (List.mem_cons_of_mem _ hb) o e⟩⟩
theorem genexpF {E : Value → Shared → Prop} {s : Shared} {env : Env} {elt iter : Expr} {x : Str} {px : Pos} {scope : Scope} {cl : List (Str × Addr)} {pos : Pos} {Q : Value → Shared → Prop} {fr : List Env}
    (hh : A.handled = none) (hf : A.frames = some fr) (hco : scope.isCoroutine = false) (hclos : closureFor scope env = pure cl) (hcell : ∀ y ∈ scope.names, y.2 ≠ .cell) (h0 : scope.names.lookup (".0" : Str) = some NameKind.local)
    (hx : scope.names.lookup x = some .local) (hkind : scope.kind = .function) (hroom : A.depth < recursionLimit)
    (h : wpAny (model prog w) A (eval iter env) (fun xv s₁ => wpAny (model prog w) A (pyIter xv) (fun it s₂ => s₂.heap.NoLimit ∧
      wpAny (model prog w) A (genexprCode env pos (env.qual ++ "<genexpr>") scope) (fun code s₃ => wpAny (model prog w) A (builtinsFor env.globals env.builtins) (fun bi s₄ =>
        ∃ I fp wr n₀ P St₀ F, it = .ref I ∧ (∀ A' : Around, A'.handled = none → Walks prog w A' I fp wr n₀ P St₀) ∧ St₀ 0 s₄.heap ∧ (∀ b ∈ fp, b < s₄.heap.objs.size) ∧ s₄.heap.NoLimit ∧ cStatics ∉ wr ∧
          (∀ href : Heap, (∀ b o, s₄.heap.get? b = some o → href.get? b = some o) →
            EltF prog w (genEnv scope cl s₄.heap.objs.size code bi env) x elt (List.range s₄.heap.objs.size) wr P F href (some (genEnv scope cl s₄.heap.objs.size code bi env :: fr)) (A.depth + 1) (A.units + 8)) ∧
          (∀ a h₅ tk gs, gs.bare = true → s₄.heap.objs.size < a → h₅.objs.size = a + 1 → (∀ b o, s₄.heap.get? b = some o → h₅.get? b = some o) →
            WalksS prog w A.in4 a (a :: s₄.heap.objs.size :: List.range s₄.heap.objs.size) (s₄.heap.objs.size :: wr) (GenOnlyQ s₄.gens.size) (passing allT n₀ 0).length
              (fun j y => ∃ i, (passing allT n₀ 0)[j]? = some i ∧ F i y) (GenAt prog w A.in4 a s₄.gens.size s₄.heap.objs.size (List.range s₄.heap.objs.size) wr allT n₀ F) →
            GenAt prog w A.in4 a s₄.gens.size s₄.heap.objs.size (List.range s₄.heap.objs.size) wr allT n₀ F 0 { s₄ with gens := s₄.gens.push gs, toks := tk, heap := h₅ } →
            Q (.ref a) { s₄ with gens := s₄.gens.push gs, toks := tk, heap := h₅ })) E s₃) E s₂) E s₁) E s)
    (hs : ∀ x, genFold iter env x = pure x) :
    wpAny (model prog w) A (eval (.GeneratorExp elt [⟨.Name x px, iter, [], 0⟩] scope pos) env) Q E s := by
  refine wpAny_GeneratorExp_make hco hclos hcell h0 hkind hroom (wpAny_mono h (fun xv s₁ h₁ => wpAny_mono h₁ (fun it s₂ h₂ => ⟨h₂.1, wpAny_mono h₂.2 (fun code s₃ h₃ => wpAny_mono h₃ (fun bi s₄ h₄ => ?_)
    fun _ _ e => e) fun _ _ e => e⟩) fun _ _ e => e) fun _ _ e => e) hs
  obtain ⟨I, fp, wr, n₀, P, St₀, F, rfl, W₀, hst, hfp, hl₄, hcw, hq, hQ⟩ := h₄
  have hclt : cStatics < s₄.heap.objs.size := let ⟨_, hn, _⟩ := hl₄; hn.lt
  intro h' hn' hs'
  have hsz : h'.objs.size = s₄.heap.objs.size + 1 := by rw [hs'.1, Heap.size_push]
  have keep' : ∀ b o, s₄.heap.get? b = some o → h'.get? b = some o := fun b o e => hs'.extBut b o (Nat.ne_of_lt (Heap.lt_size e)) (Heap.get?_push_of_some _ e)
  have hsub : ∀ b ∈ wr, b ∈ List.range s₄.heap.objs.size := fun b hb => List.mem_range.mpr (hfp b ((W₀ A hh).sub b hb))
  have haC : h'.objs.size ≠ s₄.heap.objs.size := by rw [hsz]; exact Nat.succ_ne_self _
  have haf : h'.objs.size ∉ List.range s₄.heap.objs.size := fun hm => by have := List.mem_range.mp hm; lia
  have keep₅ : ∀ b o, s₄.heap.get? b = some o → (h'.push { cls := .type "generator", data := .fields #[.int s₄.gens.size 0, .str "<genexpr>" (s₄.toks + 1), .str (env.qual ++ "<genexpr>") (s₄.toks + 1 + 1)] }).get? b = some o :=
    fun b o e => Heap.get?_push_of_some _ (keep' b o e)
  refine hQ _ _ _ _ rfl (by lia) (by rw [Heap.size_push]) keep₅ (WalksS.genexpQ (A := A.in4) hh _ _ _ _ wr allT n₀ F haC haf hsub hroom (List.mem_range.mpr hclt) (Nat.ne_of_lt hclt) hcw) ?_
  refine freshF (A := A.in4) (cenv := genEnv scope cl s₄.heap.objs.size code bi env) (m := fun y => if y = ".0" then some (.ref I) else none) hh hf
    (fun A' hA => (W₀ A' hA).mono_fp fun b hb => List.mem_range.mpr (hfp b hb)) F hx (by simp [genEnv, hkind]) hco
    (fun hm => Nat.lt_irrefl _ (List.mem_range.mp hm)) (hq _ keep₅) ⟨_, _, _, Heap.get?_push_size _ rfl, rfl, rfl, rfl⟩ (Array.getElem?_push_size ..) ((W₀ A hh).frame _ _ _ hst fun b _ o e => keep₅ b o e) (hn'.push _) (hl₄.keeps keep₅)
end
end
section
noncomputable def cutH (h : Heap) (C : Nat) : Heap := ⟨h.objs.extract 0 C, h.life⟩
theorem cut_get {h : Heap} {C b : Nat} : (cutH h C).get? b = if b < C then h.get? b else none := by
  unfold Heap.get? cutH
  rw [Array.getElem?_extract]
  simp only [Nat.sub_zero, Nat.zero_add]
  by_cases hb : b < C
  · by_cases hs : b < h.objs.size
    · have : b < min C h.objs.size := by lia
      rw [if_pos this, if_pos hb]
    · have : ¬ b < min C h.objs.size := by lia
      rw [if_neg this, if_pos hb, Array.getElem?_eq_none (by lia)]
  · have : ¬ b < min C h.objs.size := by lia
    rw [if_neg this, if_neg hb]
theorem cut_size {h : Heap} {C : Nat} : (cutH h C).objs.size ≤ C := by
  unfold cutH
  simp
  lia
theorem cut_keep {h : Heap} {C : Nat} : ∀ b o, (cutH h C).get? b = some o → h.get? b = some o := by
  intro b o e
  rw [cut_get] at e
  split at e
  · exact e
  · cases e
theorem cut_fr {h : Heap} {C : Nat} {m : Str → Option Value} (hn : h.Ns C m) : Fr (cutH h C) C h m := ⟨hn, cut_keep, cut_size⟩
noncomputable def tailN (h : Heap) (C : Nat) : List (Addr × Obj) := (List.range h.objs.size).filterMap fun b => if C < b then (h.get? b).map fun o => (b, o) else none
theorem tail_mem {h : Heap} {C : Nat} {b : Addr} {o : Obj} : (b, o) ∈ tailN h C ↔ C < b ∧ h.get? b = some o := by
  unfold tailN
  rw [List.mem_filterMap]
  constructor
  · rintro ⟨a, _, h2⟩
    split at h2
    · rename_i hc
      cases hg : h.get? a with
      | none => rw [hg] at h2; cases h2
      | some x => rw [hg] at h2; simp at h2; obtain ⟨rfl, rfl⟩ := h2; exact ⟨hc, hg⟩
    · cases h2
  · rintro ⟨h1, h2⟩
    exact ⟨b, List.mem_range.mpr (Heap.lt_size h2), by rw [if_pos h1, h2]; rfl⟩
theorem tail_news {h : Heap} {C : Nat} : News (cutH h C) C h (tailN h C) := by
  rintro ⟨b, o⟩ hp
  obtain ⟨h1, h2⟩ := tail_mem.mp hp
  exact ⟨h2, Nat.ne_of_gt h1, by rw [cut_get, if_neg (Nat.not_lt.mpr (Nat.le_of_lt h1))]⟩
theorem cut_kept {h h' : Heap} {C : Nat} {m : Str → Option Value} (F : Fr (cutH h C) C h' m) (N : News (cutH h C) C h' (tailN h C)) : ∀ b o, b ≠ C → h.get? b = some o → h'.get? b = some o := by
  intro b o hb e
  rcases Nat.lt_or_ge b C with hc | hc
  · exact F.keep b o (by rw [cut_get, if_pos hc]; exact e)
  · exact N.get (tail_mem.mpr ⟨Nat.lt_of_le_of_ne hc (Ne.symm hb), e⟩)
end
section
set_option maxRecDepth 100000
set_option maxHeartbeats 8000000
theorem below_to {A₀ : Around} {base h h' : Heap} {outer : List Env} (B : Below A₀ base outer h) (k : ∀ b o, h.get? b = some o → h'.get? b = some o) : Below A₀ base outer h' :=
  ⟨B.stack, fun b o e => k b o (B.stays b o e), B.frames.of_keeps fun b o e _ => ⟨o, k b o e, rfl⟩⟩
theorem top_to {p : Program} {lo : List Str} {mean : ExcName → Option Value} {mg mb : Str → Option Value} {h h' : Heap} (T : Top p lo mean mg mb h) (k : ∀ b o, h.get? b = some o → h'.get? b = some o) : Top p lo mean mg mb h' := T.keeps k
theorem call_quote (w : World) (mean : ExcName → Option Value) (mg mb : Str → Option Value) (x : Str) (tx : Tok) {dp un : Nat} {gd : Option (List Code)} {qn : Str} {ccd : Value} {p1 p2 p3 : Pos} {sc : Scope}
    {outer : List Env} {A₀ : Around} {base h₀ : Heap} {L : Addr} {m : Str → Option Value} {news : List (Addr × Obj)} {s : Shared} {Q E : Value → Shared → Prop}
    (hsc : sc = { kind := .function, names := [(Str.ofString ".0", NameKind.local), (Str.ofString "arg", NameKind.local), (Str.ofString "quote", NameKind.globalImplicit)], isGenerator := true, isCoroutine := false })
    (B : Below A₀ base outer h₀) (F : Fr h₀ L s.heap m) (X : (Mine.K w.params).In h₀) (N : News h₀ L s.heap news) (T : Top Mine.vw loose mean mg mb h₀)
    (hm : m (Str.ofString "arg") = some (.str x tx)) (hx : x.length ≤ 500 ∧ ((cl x).all safe = true ∨ (Txt.replace x (Str.ofString "'") (Str.ofString "'\"'\"'")).length ≤ 5000))
    (hd : dp + 40 < recursionLimit) (hu : un + 400 < cLine)
    (hret : CbRet h₀ L m news s Q (fun t => .str (quoteS x) t)) :
    wpAny (model PySem.Challenge.pw_ny0408_02 w) { handled := none, depth := dp, frames := some (envY qn sc L mainGlobals none ccd [] builtinsNs :: outer), guards := gd, units := un }
      (eval (.Call (.Name (Str.ofString "quote") p1) [.Name (Str.ofString "arg") p2] [] p3) (envY qn sc L mainGlobals none ccd [] builtinsNs)) Q E s := by
  subst hsc
  revert X
  refine fill ?_
  k_fill
  intro _ X
  refine Call_ ?_
  have e773 : mg (Str.ofString "quote") = some (.ref 773) := mg_of X T.g (by k_is)
  refine Calls.Name_function_global rfl rfl (Calls.loadGlobal_global (mg := mg) (T.g.keeps F.keep) e773 ?_) (by decide)
  refine callWith_K X (by k_is) (Calls.spliced_cons (wpAny_Name (wpAny_loadName_local rfl rfl F.ns hm ?_) (by decide)))
  refine Calls.spliced_nil ⟨X.keeps F.keep, ?_⟩
  exact quote_c w mean mg mb x tx news dp un gd qn _ _ none ccd [] _ outer A₀ base h₀ L m s Q E B F X N T rfl hx hd hu hret
end
section
set_option maxRecDepth 100000
set_option maxHeartbeats 8000000
noncomputable def tabF : Option Addr → Array Value
  | none => #[]
  | some c => #[rawInt 782, rawInt 20, .ref c]
noncomputable def tabO (tb : Option Addr) : Obj := { cls := .none, data := .fields (tabF tb) }
noncomputable def lisO (vs : List Value) : Obj := { cls := .type "list", data := .seq vs.toArray }
noncomputable def strV (xs : List (Str × Tok)) : List Value := xs.map fun x => .str x.1 x.2
noncomputable def quoteOk (x : Str) : Prop := x.length ≤ 500 ∧ ((cl x).all safe = true ∨ (Txt.replace x (Str.ofString "'") (Str.ofString "'\"'\"'")).length ≤ 5000)
noncomputable def joinS (xs : List Str) : Str := Txt.join (Str.ofString " ") (xs.map quoteS)
noncomputable abbrev jsc : Scope := { kind := ScopeKind.function, names := [(Str.ofString "split_command", NameKind.local)], isGenerator := false, isCoroutine := false }
noncomputable abbrev gsc : Scope := { kind := .function, names := [(Str.ofString ".0", NameKind.local), (Str.ofString "arg", NameKind.local), (Str.ofString "quote", NameKind.globalImplicit)], isGenerator := true, isCoroutine := false }
theorem tab_code {w : World} {h : Heap} {tb : Option Addr} (X : (Mine.K w.params).In h) (e : h.get? 760 = some (tabO tb)) : h.IsCode 764 760 (tabF tb) ∧ h.TableAt 764 760 (tabF tb) := by
  have h1 := X 764 (k764 w.params) rfl
  exact ⟨⟨_, _, _, _, _, _, _, _, _, _, h1, rfl, rfl, rfl, rfl, rfl, rfl, e, rfl, by cases tb <;> simp [TriplesOk, tabF, rawInt], by decide⟩, ⟨_, _, h1, rfl, rfl, rfl⟩, e⟩
noncomputable abbrev envJ (L : Addr) : Env := envOf (Str.ofString "join") jsc L 765 (.ref 764)
theorem code_step {w : World} {M : Model} {A : Around} {s : Shared} {Q : Value → Shared → Prop} {E : Value → Shared → Prop} {tb : Option Addr} {L : Addr} {pos : Pos} {q : Str} {sc : Scope} (X : (Mine.K w.params).In s.heap) (e : s.heap.get? 760 = some (tabO tb)) (hp : pos.line = 782 ∧ pos.col = 20)
    (h : ∀ c h' tk tb', Heap.ExtBut 760 s.heap h' → s.heap.objs.size ≤ h'.objs.size → h'.get? 760 = some (tabO tb') → Q c { s with heap := h', toks := tk }) : wpAny M A (genexprCode (envJ L) pos q sc) Q E s := by
  obtain ⟨h1, h2⟩ := tab_code X e
  cases tb with
  | none =>
    refine wpAny_genexprCodeX (c := 764) rfl h1 h2 rfl fun c' h' tk hx hge hlt _ _ ht _ => h _ h' tk (some c') hx (Nat.le_trans hge (Nat.le_of_lt hlt)) ?_
    rw [ht.2, hp.1, hp.2]; rfl
  | some c =>
    refine wpAny_genexprCode_hit (c := 764) (c' := .ref c) rfl h1 ?_ (h _ s.heap s.toks (some c) (fun b o _ e => e) (Nat.le_refl _) e)
    simp [tabF, codeAmong, rawInt, hp.1, hp.2]
theorem bm_step {p : Program} {lo : List Str} {mean : ExcName → Option Value} {mg mb : Str → Option Value} {g : Heap} {M : Model} {A : Around} {s : Shared} {Q : Addr → Shared → Prop} {E : Value → Shared → Prop} {r : Addr} (T : Top p lo mean mg mb g) (hk : ∀ b o, g.get? b = some o → s.heap.get? b = some o)
    (h : Q builtinsNs s) : wpAny M A (builtinsFor mainGlobals r) Q E s := by
  obtain ⟨bm, ob, M⟩ := bmod_of_top T
  have M := M.keeps hk
  exact wpAny_builtinsFor M.ns M.name M.ne M.obj M.cls M.dict M.data h
theorem elt_c {w : World} {mean : ExcName → Option Value} {mg mb : Str → Option Value} {xs : List (Str × Tok)} {outer : List Env} {A₀ : Around} {base g href : Heap} {C L I : Addr} {code : Value} {D U : Nat} {p1 p2 p3 : Pos}
    (B : Below A₀ base outer g) (X : (Mine.K w.params).In g) (T : Top Mine.vw loose mean mg mb g) (hg : ∀ b o, g.get? b = some o → b < C ∧ b ≠ I ∧ href.get? b = some o) (hx : ∀ x ∈ xs, quoteOk x.1) (hd : D + 40 < recursionLimit) (hu : U + 400 < cLine) :
    EltF PySem.Challenge.pw_ny0408_02 w (genEnv gsc [] C code builtinsNs (envJ L)) (Str.ofString "arg") (.Call (.Name (Str.ofString "quote") p1) [.Name (Str.ofString "arg") p2] [] p3) (List.range C) [I] (fun i v => (strV xs).toArray[i]? = some v)
      (fun i y => ∃ x t, xs[i]? = some x ∧ y = .str (quoteS x.1) t) href (some (genEnv gsc [] C code builtinsNs (envJ L) :: outer)) D U := by
  intro A' E' i v s₂ m₂ hh hf hD hU hP hn hm hk
  obtain ⟨ha, dp, fr, gd, un⟩ := A'
  dsimp only at hh hf hD hU
  subst hh hf
  have hv : ∃ x, xs[i]? = some x ∧ v = .str x.1 x.2 := by
    simp [strV] at hP
    obtain ⟨a, b, h1, h2⟩ := hP
    exact ⟨_, h1, h2.symm⟩
  obtain ⟨x, hxi, rfl⟩ := hv
  have gk : ∀ b o, g.get? b = some o → (cutH s₂.heap C).get? b = some o := fun b o e => by
    obtain ⟨h1, h2, h3⟩ := hg b o e
    rw [cut_get, if_pos h1]
    exact hk b (List.mem_range.mpr h1) (by simpa using h2) o h3
  have cF : Fr (cutH s₂.heap C) C s₂.heap m₂ := cut_fr hn
  refine call_quote w mean mg mb x.1 x.2 (sc := gsc) (A₀ := A₀) (base := base) (h₀ := cutH s₂.heap C) (m := m₂) (news := tailN s₂.heap C) rfl (below_to B gk) cF (X.keeps gk) tail_news (top_to T gk) hm (hx x (List.mem_of_getElem? hxi)) (by lia) (by lia) ?_
  intro t h' tk' F' N'
  exact ⟨⟨x, t, hxi, rfl⟩, h', tk', rfl, cut_kept F' N', m₂, F'.ns⟩
end
section
set_option maxRecDepth 100000
set_option maxHeartbeats 8000000
theorem noLimit_ext {p : Program} {lo : List Str} {mean : ExcName → Option Value} {mg mb : Str → Option Value} {g h : Heap} (T : Top p lo mean mg mb g) (hk : ∀ b o, g.get? b = some o → h.get? b = some o) : h.NoLimit := T.nolimit.keeps hk
theorem pass_all (n : Nat) : passing allT n 0 = List.range n := by
  unfold passing
  rw [List.drop_zero]
  exact List.filter_eq_self.mpr fun _ _ => rfl
theorem join_gen {w : World} {mean : ExcName → Option Value} {mg mb : Str → Option Value} {xs : List (Str × Tok)} {A A₀ : Around} {outer : List Env} {base h₀ : Heap} {L l : Addr} {m : Str → Option Value} {s : Shared} {tb : Option Addr} {news : List (Addr × Obj)}
    {Q E : Value → Shared → Prop} {p1 p2 p3 p4 p5 pos : Pos} {t₀ : Tok}
    (B : Below A₀ base outer h₀) (F : Fr h₀ L s.heap m) (X : (Mine.K w.params).In h₀) (N : News h₀ L s.heap ((760, tabO tb) :: (l, lisO (strV xs)) :: news)) (T : Top Mine.vw loose mean mg mb h₀)
    (hh : A.handled = none) (hA : A.frames = some (envJ L :: outer)) (hm : m (Str.ofString "split_command") = some (.ref l)) (hd : A.depth + 45 < recursionLimit) (hu : A.units + 410 < cLine) (G : AllBare s.gens)
    (hx : ∀ x ∈ xs, quoteOk x.1) (hj : JoinOk (Str.ofString " ") (xs.map fun x => quoteS x.1) = true) (hl : xs.length ≤ 100) (hcl : ∀ p ∈ news, p.1 ≠ 760) (hp : pos.line = 782 ∧ pos.col = 20)
    (hQ : ∀ t h' tk gs tb', AllBare gs → Fr h₀ L h' m → News h₀ L h' ((760, tabO tb') :: (l, lisO (strV xs)) :: news) → Q (.str (joinS (xs.map (·.1))) t) { s with heap := h', gens := gs, toks := tk }) :
    wpAny (model PySem.Challenge.pw_ny0408_02 w) A (eval (.GeneratorExp (.Call (.Name (Str.ofString "quote") p1) [.Name (Str.ofString "arg") p2] [] p3) [⟨.Name (Str.ofString "arg") p4, .Name (Str.ofString "split_command") p5, [], 0⟩] gsc pos) (envJ L))
      (fun v s₁ => wpAny (model PySem.Challenge.pw_ny0408_02 w) A (call (.builtin "str.join") [.str (Str.ofString " ") t₀, v]) Q E s₁) E s := by
  obtain ⟨FG, BG, st, _⟩ := groundX (R := fun _ _ => True) (A := A) (env := envJ L) B F N hA rfl rfl
  generalize hgdef : hideAll s.heap (((760, tabO tb) :: (l, lisO (strV xs)) :: news).map (·.1)) = g at FG BG st
  have g760 : g.get? 760 = none := by rw [← hgdef]; exact hideAll_none _ (by simp)
  have gs : ∀ b o, g.get? b = some o → s.heap.get? b = some o := fun b o e => by rw [← hgdef] at e; exact of_hideAll _ e
  have Xg := X.keeps st
  have Tg := T.keeps st
  have e760 : s.heap.get? 760 = some (tabO tb) := (N (760, tabO tb) (by simp)).1
  have elist : s.heap.IsList l (strV xs).toArray := ⟨_, (N (l, lisO (strV xs)) (by simp)).1, rfl, _, rfl⟩
  have hlt : l < s.heap.objs.size := Heap.lt_size (N (l, lisO (strV xs)) (by simp)).1
  have h760 : (760 : Addr) < s.heap.objs.size := Heap.lt_size e760
  have hl760 : l ≠ 760 := by
    intro e
    have := (N (l, lisO (strV xs)) (by simp)).1
    rw [e, e760] at this
    have := congrArg (fun o : Option Obj => o.map (·.cls)) this
    simp [tabO, lisO] at this
  refine genexpF hh hA rfl rfl (by decide) rfl rfl rfl (by lia) ?_ (fun _ => rfl)
  refine wpAny_Name (wpAny_loadName_local rfl rfl F.ns hm ?_) (by decide)
  refine wpAny_pyIter_list elist ⟨noLimit_ext Tg fun b o e => Heap.get?_push_of_some _ (gs b o e), ?_⟩
  refine code_step (tb := tb) (X.keeps fun b o e => Heap.get?_push_of_some _ (F.keep b o e)) (Heap.get?_push_of_some _ e760) hp ?_
  intro code h₃ tk₃ tb' hx₃ hsz₃ h760'
  rw [Heap.size_push] at hsz₃
  have gk : ∀ b o, g.get? b = some o → h₃.get? b = some o := fun b o e => hx₃ b o (fun q => by rw [q, g760] at e; cases e) (Heap.get?_push_of_some _ (gs b o e))
  have nk : ∀ b o, b ≠ 760 → s.heap.get? b = some o → h₃.get? b = some o := fun b o hb e => hx₃ b o hb (Heap.get?_push_of_some _ e)
  refine bm_step Tg gk ?_
  have hc : cStatics < s.heap.objs.size := let ⟨_, hn, _⟩ := noLimit_ext Tg gs; hn.lt
  refine ⟨s.heap.objs.size, [s.heap.objs.size, l], [s.heap.objs.size], (strV xs).toArray.size, _, _, (fun i y => ∃ x t, xs[i]? = some x ∧ y = .str (quoteS x.1) t), rfl, (fun A' hA => Walks.list hA _ _ (Nat.ne_of_lt hlt) _), ⟨?_, ?_⟩, ?_, noLimit_ext Tg gk, ?_, ?_, ?_⟩
  · exact ⟨_, hx₃ _ _ (Nat.ne_of_gt h760) (Heap.get?_push_size _ rfl), rfl, rfl⟩
  · exact elist.at fun o e => nk _ _ hl760 e
  · intro b hb
    show b < h₃.objs.size
    rcases List.mem_cons.mp hb with rfl | hb
    · exact hsz₃
    · rw [List.mem_singleton.mp hb]
      exact Nat.lt_of_lt_of_le (Nat.lt_succ_of_lt hlt) hsz₃
  · intro hb
    rw [List.mem_singleton.mp hb] at hc
    exact Nat.lt_irrefl _ hc
  · intro href hhref
    exact elt_c (mean := mean) (mg := mg) (mb := mb) (xs := xs) (I := s.heap.objs.size) BG Xg Tg (fun b o e => ⟨Heap.lt_size (gk b o e), Nat.ne_of_lt (Heap.lt_size (gs b o e)), hhref b o (gk b o e)⟩) hx (by lia) (by lia)
  · intro a h₅ tk gs' hgb hag hsz₅ hk₅ W hat
    have W := W.in4_2
    refine SC.joinGen W (fun i s' st => st.1.typeIs) hat ?_ List.mem_cons_self ?_ ?_ ?_
    · intro b hb
      show b < h₅.objs.size
      have hag' : h₃.objs.size < a := hag
      rw [hsz₅]
      rcases List.mem_cons.mp hb with rfl | hb
      · exact Nat.lt_succ_self _
      · rcases List.mem_cons.mp hb with rfl | hb
        · exact Nat.lt_succ_of_lt hag'
        · have := List.mem_range.mp hb
          exact Nat.lt_succ_of_lt (Nat.lt_trans this hag')
    · rintro j v ⟨i, _, x, t, _, rfl⟩
      exact ⟨_, _, rfl⟩
    · intro s' lt hm' hacc
      have hn : (passing allT (strV xs).toArray.size 0).length = xs.length := by simp [pass_all, strV]
      have hls : lt.map (·.1) = xs.map fun x => quoteS x.1 := by
        apply List.ext_getElem?
        intro j
        have hsz : lt.length = xs.length := by rw [← hn]; simpa [strValues] using hacc.1
        by_cases hj : j < xs.length
        · have hj' : j < lt.length := hsz ▸ hj
          obtain ⟨i, hi, x, t, hxi, hv⟩ := hacc.2 j (.str lt[j].1 lt[j].2) (by simp [strValues, List.getElem?_eq_getElem hj'])
          injection hv with h1 _
          rw [pass_all] at hi
          have hij : i = j := by
            have hj2 : j < (strV xs).toArray.size := by simpa [strV] using hj
            rw [List.getElem?_range hj2] at hi
            exact (Option.some.inj hi).symm
          subst hij
          simp [List.getElem?_eq_getElem hj', hxi, h1]
        · rw [List.getElem?_eq_none (by simpa [hsz] using Nat.le_of_not_lt hj), List.getElem?_eq_none (by simpa using Nat.le_of_not_lt hj)]
      rw [hls]
      refine ⟨hj, fun t' k => ?_⟩
      obtain ⟨h9, gs9, dr9, tk9, os9⟩ := s'
      have e1 := hm'.drawn
      have e2 := hm'.os
      dsimp only at e1 e2
      subst e1 e2
      have keep : ∀ b o, b ≠ 760 → s.heap.get? b = some o → h9.get? b = some o := fun b o hb e => hm'.heap b o (by
        intro hmem
        have hb' := Heap.lt_size e
        rcases List.mem_cons.mp hmem with q | hmem
        · rw [q] at hb'
          exact Nat.lt_irrefl _ (Nat.lt_trans hb' hsz₃)
        · rw [List.mem_singleton.mp hmem] at hb'
          exact Nat.lt_irrefl _ hb') (hk₅ _ _ (nk b o hb e))
      have keep760 : h9.get? 760 = some (tabO tb') := hm'.heap _ _ (by
        intro hmem
        rcases List.mem_cons.mp hmem with q | hmem
        · rw [q] at h760
          exact Nat.lt_irrefl _ (Nat.lt_trans h760 hsz₃)
        · rw [List.mem_singleton.mp hmem] at h760
          exact Nat.lt_irrefl _ h760) (hk₅ _ _ h760')
      have hjs : joinS (xs.map (·.1)) = Txt.join (Str.ofString " ") (xs.map fun x => quoteS x.1) := by simp [joinS, Function.comp_def]
      rw [← hjs]
      have hL760 : L ≠ 760 := fun e => (N (760, tabO tb) (by simp)).2.1 e.symm
      refine hQ t' h9 k gs9 tb' ((G.push hgb).movedS hm') ⟨?_, fun b o e => keep b o (fun q => ?_) (F.keep b o e), F.above⟩ ?_
      · exact F.ns.at' fun o e => keep _ o hL760 e
      · rw [q] at e
        have := (N (760, tabO tb) (by simp)).2.2
        rw [e] at this
        cases this
      · intro p hp
        rcases List.mem_cons.mp hp with rfl | hp'
        · exact ⟨keep760, (N (760, tabO tb) (by simp)).2⟩
        · have := N p (List.mem_cons_of_mem _ hp')
          refine ⟨keep p.1 p.2 (fun q => ?_) this.1, this.2⟩
          rcases List.mem_cons.mp hp' with rfl | hp'
          · exact hl760 q
          · exact hcl p hp' q
    · have hn : (passing allT (strV xs).toArray.size 0).length = xs.length := by simp [pass_all, strV]
      rw [hn]
      exact Nat.le_trans hl (by decide)
end
section
set_option maxRecDepth 100000
set_option maxHeartbeats 8000000
noncomputable abbrev JClaim (prog : Program) (w : World) (K : Frag) (p : Program) (loose : List Str) (mean : ExcName → Option Value) (mg mb : Str → Option Value) (f : Addr) (tb : Option Addr) (news : List (Addr × Obj)) (pre : Prop) (vs : List Value) (R : Tok → Value) : Prop :=
  ∀ (dp un : Nat) (gd : Option (List Code)) (cn : Str) (cs : Scope) (a : Addr) (ccd : Value) (cl : List (Str × Addr)) (outer : List Env) (A₀ : Around) (base h₀ : Heap) (L : Addr) (m : Str → Option Value) (s : Shared) (Q E : Value → Shared → Prop),
    Below A₀ base outer h₀ → Fr h₀ L s.heap m → K.In h₀ → News h₀ L s.heap ((760, tabO tb) :: news) → Top p loose mean mg mb h₀ → cs.kind = .function →
    pre → dp + 50 < recursionLimit → un + 450 < cLine → AllBare s.gens →
    (∀ (t : Tok) (h' : Heap) (tk : Nat) (gs' : Array GenState) (tb' : Option Addr), AllBare gs' → Fr h₀ L h' m → News h₀ L h' ((760, tabO tb') :: news) → Q (R t) { s with heap := h', gens := gs', toks := tk }) →
      wpAny (model prog w) (ktrTop dp un gd cn cs L a ccd cl outer) (call (.ref f) vs) Q E s
theorem join_c (w : World) (mean : ExcName → Option Value) (mg mb : Str → Option Value) (xs : List (Str × Tok)) (l : Addr) (tb : Option Addr) (news : List (Addr × Obj)) :
    JClaim PySem.Challenge.pw_ny0408_02 w (Mine.K w.params) Mine.vw loose mean mg mb 765 tb ((l, lisO (strV xs)) :: news) (xs.length ≤ 100 ∧ (∀ x ∈ xs, quoteOk x.1) ∧ JoinOk (Str.ofString " ") (xs.map fun x => quoteS x.1) = true ∧ ∀ p ∈ news, p.1 ≠ 760) [.ref l] (fun t => .str (joinS (xs.map (·.1))) t) := by
  refine fill ?_
  k_fill
  intro _
  dsimp only [JClaim]
  intros
  rename_i hret
  rename_i hpre hdp hun hG
  obtain ⟨hl, hx, hj, hcl⟩ := hpre
  refine wpAny_call ?_
  k_dflt cell_enter
  k_with_none
  k_with "eval GeneratorExp" => refine halt ?_
  k_steps
  unfold Halt
  refine wpAny_mono (join_gen (xs := xs) (tb := tb) (news := news) (l := l) (by assumption) (by assumption) (by assumption) (by assumption) (by assumption) rfl rfl rfl ?_ ?_ hG hx hj hl hcl ⟨rfl, rfl⟩ ?_) (fun v s₁ h => Calls.spliced_nil h) (fun _ _ e => e)
  · simp only [depth_deeper]; lia
  · simp only [units_deeper]; lia
  · intro t h' tk gs tb' hG' F' N'
    exact leaveK_ F' N' fun kF kN => hret t h' tk gs tb' hG' kF kN
end
section
set_option maxRecDepth 100000
set_option maxHeartbeats 8000000
theorem made_611 (P : Params) (S : Setting) : peek (Mine.K P) S (Bind.madeBy (.ref 611)) = some none := by kernel_rfl
theorem made_134 (P : Params) (S : Setting) : peek (Mine.K P) S (Bind.madeBy (.ref 134)) = some none := by kernel_rfl
theorem made_107 (P : Params) (S : Setting) : peek (Mine.K P) S (Bind.madeBy (.ref 107)) = some none := by kernel_rfl
theorem made_obj (P : Params) (S : Setting) : peek (Mine.K P) S (Bind.madeBy (.type "object")) = some (some "object.__new__") := by kernel_rfl
theorem base_611 (P : Params) (S : Setting) : peek (Mine.K P) S (Bind.staticBase (.ref 611)) = some (.type "object") := by kernel_rfl
end
section
set_option maxRecDepth 100000
set_option maxHeartbeats 8000000
section
variable {prog : Program} {w : World} {A : Around} {R : Result → Shared → Prop} {h : Heap} {g : Array GenState} {d : Drawn} {t : Nat} {os : OsState}
theorem type_611 (P : Params) (S : Setting) : peek (Mine.K P) S (isInstance (.ref 611) (.type "type")) = some true := by kernel_rfl
theorem new_S (X : (Mine.K w.params).In h) (hq : R (.ok (.ret (.ref (h.objs.size + 1)))) ⟨(h.push emptyDict).push (instObj 611 h.objs.size), g, d, t, os⟩) :
    codeAny (model prog w) A (.call (.builtin "object.__new__") ⟨[.ref 611], []⟩) R ⟨h, g, d, t, os⟩ := by
  have hC := X 611 (k611 w.params) rfl
  have typ : Looks (model prog w) h (isInstance (.ref 611) (.type "type")) true := Looks.of_peek X (type_611 _ _)
  have made : Looks (model prog w) h (Bind.madeBy (.type "object")) (some "object.__new__") := Looks.of_peek X (made_obj _ _)
  have base : Looks (model prog w) h (Bind.staticBase (.ref 611)) (.type "object") := Looks.of_peek X (base_611 _ _)
  have F := PySem.F.objNew
  refine codeAny_call_builtin_code (Code.quiet_builtin _ F.quiet) ?_
  simp only [checkBuiltinCall, F.kind, F.split, F.row]
  have here : Looks (model prog w) h (Bind.madeHere "object.__new__" (.ref 611)) () := base.andThen (made.andThen (Looks.of_pure (by simp only [Option.map_some, bne_self_eq_false, Bool.false_eq_true, if_false])))
  have args : Bind.checkArgs "object.__new__" ⟨.hand, "object.__new__", "__new__", .cls, []⟩ ⟨[.ref 611], []⟩ = pure () := by kernel_rfl
  rw [args]
  repeat (first | simp only [bne_self_eq_false, Bool.false_eq_true, if_false] | lk)
  refine codeAny_builtin F.entry ?_
  unfold Builtin.«object.__new__»
  have fin : ∀ A', wpAny (model prog w) A' (do
      let d ← if typeHasDict (.ref 611) then some <$> alloc { cls := .type "dict", data := .dict #[] } else pure none
      ret (← newObj (.ref 611) .plain d)) (fun fin s' => match fin with | .done f => R (.ok f) s' | .again c' => c'.quiet = true ∧ codeAny (model prog w) A c' R s') (fun e s' => R (.error e) s') ⟨h, g, d, t, os⟩ := by
    intro A'
    show wpAny _ _ ((alloc emptyDict >>= fun x => pure (some x)) >>= _) _ _ _
    refine wpAny_bind (wpAny_bind (wpAny_alloc (wpAny_pure (wpAny_bind ?_))))
    show wpAny _ _ (newObjAsIs _ _ _) _ _ _
    unfold newObjAsIs classHasDel
    refine wpAny_bind (wpAny_alloc (wpAny_bind (wpAny_bind (wpAny_load (Heap.get?_push_of_some _ (Heap.get?_push_of_some _ hC)) (wpAny_pure ?_)))))
    dsimp only
    refine wpAny_pure (wpAny_pure ?_)
    show R _ _
    rw [Heap.size_push]
    exact hq
  repeat (first | simp only [Bool.false_eq_true, if_false] | exact fin _ | lk)
end
end
section
set_option maxRecDepth 100000
set_option maxHeartbeats 8000000
theorem call_611 (P : Params) (S : Setting) : peek (Mine.K P) S (specialOf (.ref 611) "__call__") = some (some (.builtin "type.__call__")) := by kernel_rfl
theorem sub_611 (P : Params) (S : Setting) : peek (Mine.K P) S (isSubtype (.ref 611) (.ref 611)) = some true := by kernel_rfl
theorem init_611 (P : Params) (S : Setting) : peek (Mine.K P) S (typeLookup (.ref 611) "__init__") = some (some (.ref 381)) := by kernel_rfl
theorem bind_381 (P : Params) (S : Setting) (self : Value) : peek (Mine.K P) S (bindSpecial (.ref 381) self) = some (.ref 381, [self]) := by kernel_rfl
theorem reads_611 (P : Params) : readsIn (Mine.K P) 611 (.type "type") = true := by kernel_rfl
theorem find_611 (P : Params) : findCls (Mine.K P) (.ref 611) (.type "type") "__new__" = some (.get (.builtin "staticmethod.__get__") (.ref 108) .none (.ref 611)) := by kernel_rfl
theorem rec_108 (P : Params) : recIn (Mine.K P) 108 "staticmethod" = some [.ref 104] := by kernel_rfl
theorem get_611 {prog : Program} {w : World} {A : Around} {E : Value → Shared → Prop} {s : Shared} {Q : Value → Shared → Prop} (X : (Mine.K w.params).In s.heap) (h : Q (.ref 104) { s with toks := s.toks + 1 }) :
    wpAny (model prog w) A (getAttr (.ref 611) "__new__") Q E s :=
  cls_bind X (reads_611 _) (find_611 _) (wpAny_call (sm_get (s := { s with toks := s.toks + 1 }) X (rec_108 _) (handed_on rfl h)))
theorem make_S {prog : Program} {w : World} {A : Around} {R : Result → Shared → Prop} {s : Shared} {rest : List Value} {kw : List (Str × Value)} (X : (Mine.K w.params).In s.heap)
    (hq : wpAny (model prog w) (A.under (.builtin "type.__call__" ⟨.ref 611 :: rest, kw⟩)) (call (.ref 104) (.ref 611 :: rest) kw) (fun v s' => ∃ x dx, v = .ref x ∧ s'.heap.get? x = some (instObj 611 dx) ∧ (Mine.K w.params).In s'.heap ∧
      codeAny (model prog w) (A.under (.builtin "type.__call__" ⟨.ref 611 :: rest, kw⟩)) (.call (.ref 381) ⟨.ref x :: rest, kw⟩) (InitBack x R) s') (fun e s' => R (.error e) s') { s with toks := s.toks + 1 }) :
    codeAny (model prog w) A (.call (.ref 611) ⟨rest, kw⟩) R s := by
  obtain ⟨h, g, d, t, os⟩ := s
  have hC := X 611 (k611 w.params) rfl
  dsimp only at hC
  have typ : Looks (model prog w) h (isInstance (.ref 611) (.type "type")) true := Looks.of_peek X (type_611 _ _)
  have made : Looks (model prog w) h (Bind.madeBy (.ref 611)) none := Looks.of_peek X (made_611 _ _)
  have call : Looks (model prog w) h (specialOf (.ref 611) "__call__") (some (.builtin "type.__call__")) := Looks.of_peek X (call_611 _ _)
  refine codeAny_of_tree ?_
  show wpAny _ _ (callAny (.ref 611) _) _ _ _
  refine nd_load hC ?_
  show wpAny _ _ (callAny.viaDunder (.ref 611) _) _ _ _
  unfold callAny.viaDunder
  refine wpAny_bind (call.at ?_)
  dsimp only
  rw [tc_bind]
  refine wpAny_bind (wpAny_pure (wpAny_bind (wpAny_pure ?_)))
  refine wpAny_pure (a := Fin.again (.call (.builtin "type.__call__") ⟨.ref 611 :: rest, kw⟩)) (And.intro rfl ?_)
  refine codeAny_call_builtin_at (Code.quiet_builtin _ (by decide +kernel)) entry_typeCall (check_slot tc_kind tc_split typ (tc_args _ _ _) ?_)
  unfold Builtin.«type.__call__»
  have mr : Looks (model prog w) h (mroOf (.ref 611)) [Value.ref 611, Value.ref 134, Value.ref 107, Value.type "object"] := ((Looks.ld (part := none) hC).andThen .now).andThen .now
  dsimp only at hq
  repeat (first | (with_reducible refine wpAny_mono hq (fun v s' z => ?_) fun _ _ z => z) | (with_reducible refine get_611 (s := ⟨h, g, d, t, os⟩) X ?_) | simp only [List.isEmpty_cons, Bool.false_eq_true, if_false] | lk)
  obtain ⟨x, dx, rfl, hx, X', hz⟩ := z
  obtain ⟨h', g', d', t', os'⟩ := s'
  dsimp only at hx X' hz
  have t1 : Looks (model prog w) h' (typeOf (.ref x)) (.ref 611) := (Looks.ld hx).andThen .now
  have s1 : Looks (model prog w) h' (isSubtype (.ref 611) (.ref 611)) true := Looks.of_peek X' (sub_611 _ _)
  have i1 : Looks (model prog w) h' (typeLookup (.ref 611) "__init__") (some (.ref 381)) := Looks.of_peek X' (init_611 _ _)
  have b1 : Looks (model prog w) h' (bindSpecial (.ref 381) (.ref x)) (.ref 381, [.ref x]) := Looks.of_peek X' (bind_381 _ _ _)
  unfold callSpecial? specialOf
  repeat (first | with_reducible refine wpAny_call ?_ | lk)
  refine codeAny_mono hz fun r s' z => ?_
  rcases r with e | (v | _ | _ | _) <;> first | exact z | exact z.elim | skip
  obtain ⟨rfl, z⟩ := z
  exact wpAny_pure (wpAny_pure z)
end
section
local macro_rules | `(tactic| walk_at "execs cons") => `(tactic| ((with_reducible refine tkGen ?_); intro _; walk_at "execs cons"))
section
set_option maxRecDepth 100000
set_option maxHeartbeats 8000000
theorem allNe_lt {d : Addr} {l : List (Addr × Obj)} (h : ∀ p ∈ l, p.1 < d) : ∀ p ∈ l, p.1 ≠ d := fun p hp => Nat.ne_of_lt (h p hp)
theorem allNe_of {d : Addr} {l : List (Addr × Obj)} (h : AllLt d l) : ∀ p ∈ l, p.1 ≠ d := by
  induction l with
  | nil => intro p hp; cases hp
  | cons q r ih =>
    intro p hp
    rcases List.mem_cons.mp hp with rfl | hp
    · exact Nat.ne_of_lt h.1
    · exact ih h.2 p hp
theorem newS_K {prog : Program} {w : World} {A : Around} {E Q : Value → Shared → Prop} {s : Shared} {h₀ : Heap} {L : Addr} {m : Str → Option Value} {news : List (Addr × Obj)} (X : (Mine.K w.params).In h₀) (F : Fr h₀ L s.heap m) (N : News h₀ L s.heap news)
    (h : ∀ x dx h', Fr h₀ L h' m → News h₀ L h' ((x, instObj 611 dx) :: (dx, PySem.W.dictOf [] 0) :: news) → (∀ p ∈ news, p.1 < dx) → dx < x → Q (.ref x) { s with heap := h' }) :
    wpAny (model prog w) A (call (.builtin "object.__new__") [.ref 611]) Q E s := by
  obtain ⟨hh, g, d, t, os⟩ := s
  have N' := (N.push F emptyDict).push (F.push _) (instObj 611 hh.objs.size)
  rw [Heap.size_push] at N'
  exact wpAny_call (new_S (X.keeps F.keep) (h _ hh.objs.size _ ((F.push _).push _) N' (fun p hp => Heap.lt_size (N p hp).1) (Nat.lt_succ_self _)))
noncomputable abbrev ent (P : Params) (k : Str) (t : Tok) (v : Value) : DictEntry := { hash := PyData.keyHash P k, key := .str k t, val := v }
noncomputable abbrev sioD (P : Params) (x : Str) (tx : Tok) (k : Int) (tk t1 t2 t3 : Tok) : Obj := PySem.W.dictOf [ent P (Str.ofString "_StringIO__newline") t1 (.str (Str.ofString "\n") 792), ent P (Str.ofString "_StringIO__buf") t2 (.str x tx), ent P (Str.ofString "_StringIO__pos") t3 (.int k tk)] 3
theorem sio_c (w : World) (mean : ExcName → Option Value) (mg mb : Str → Option Value) (x : Str) (tx : Tok) (news : List (Addr × Obj)) (dp un : Nat) (gd : Option (List Code)) (cn : Str) (cs : Scope) (a : Addr) (ccd : Value) (cl : List (Str × Addr)) (outer : List Env) (A₀ : Around) (base h₀ : Heap) (L : Addr) (m : Str → Option Value) (s : Shared) (Q E : Value → Shared → Prop)
    (hB : Below A₀ base outer h₀) (hF : Fr h₀ L s.heap m) : (Mine.K w.params).In h₀ → News h₀ L s.heap news → Top Mine.vw loose mean mg mb h₀ → cs.kind = .function → dp + 10 < recursionLimit → un + 100 < cLine →
    (∀ y dy tk t1 t2 t3 h' tk', (∀ p ∈ news, p.1 < dy) → dy < y → Fr h₀ L h' m → News h₀ L h' ((y, instObj 611 dy) :: (dy, sioD w.params x tx 0 tk t1 t2 t3) :: news) → Q (.ref y) { s with heap := h', toks := tk' }) →
    wpAny (model PySem.Challenge.pw_ny0408_02 w) (ktrTop dp un gd cn cs L a ccd cl outer) (call (.ref 611) [.str x tx]) Q E s := by
  refine fill ?_
  k_fill
  intro _ hX hN hT hK hdp hun hret
  refine wpAny_call (make_S (by k_in) ?_)
  refine wpAny_call ?_
  k_dflt (refine' kp_both ?k1 ?k2 ?k3 ?k4 ?k5 ?kA ?kF ?kK ?k6 ?k7 ?k8 ?kV ?kX ?kQ ?kM ?kN ?kD ?kR ?kP ?kS ?kT ?kB ?_ ?c2 ?c3 ?c4 ?c5; (case kA => exact rfl); (case kF => exact rfl); (case kK => assumption); (case k1 => k_asm); (case k2 => k_asm); (case k3 => k_asm); (case k4 => k_asm); (case k5 => k_asm); (case k6 => k_is); (case k7 => k_is); (case k8 => k_room); (case kV => kp_lit); (case kX => kp_lit); (case kQ => exact rfl); (case kM => exact rfl); (case kN => exact rfl); (case kD => kp_flats); (case kR => exact rfl); (case kP => exact rfl); (case kS => exact fun _ => rfl); (case kT => exact fun _ _ => rfl); (case kB => exact fun _ _ => locs rfl); (case c5 => decide); (case c2 => exact rfl); (case c3 => exact rfl); (case c4 => exact rfl); k_whole; intro C' D' o' g' L' h' tk' l1 l2 lo' hs' fs' FG' F' N' B' X' T'; (try k_lt l1); (try k_lt2 l2); (try dsimp only); (try k_lift B'); (try k_fold))
  k_with_none
  k_with "call builtin:object.__new__" => refine halt ?_
  k_steps
  unfold Halt
  refine newS_K (by k_asm) (by k_asm) (by k_asm) ?_
  intro y dy h9 F9 N9 l1 l2
  refine leaveK_ F9 (news' := (y, instObj 611 dy) :: (dy, PySem.W.dictOf [] 0) :: news) (cb_drop N9 (by simp only [List.mem_cons]; rintro p (h | h | h) <;> simp [h])) ?_
  intro kF kN
  refine ⟨y, dy, rfl, (kN (y, instObj 611 dy) (by simp)).1, hX.keeps kF.keep, ?_⟩
  have l1' : ∀ p ∈ news, p.1 < dy := fun p hp => l1 p (by simp [hp])
  clear N9 F9 l1
  k_lt2 l2
  k_dflt (refine' code_def ?k1 ?k2 ?k3 ?k4 ?k5 ?kA ?kF ?kK ?k6 ?k7 ?k8 ?k9 ?kB ?_ ?c2 ?c3 ?c4 ?c5; (case kA => exact rfl); (case kF => exact rfl); (case kK => assumption); (case k1 => k_asm); (case k2 => k_asm); (case k3 => k_asm); (case k4 => k_asm); (case k5 => k_asm); (case k6 => k_is); (case k7 => k_is); (case k8 => k_room); (case k9 => exact binds_K (hX.keeps kF.keep) rfl (by k_is) rfl rfl rfl); (case c5 => decide); (case kB => exact locs rfl); (case c2 => exact rfl); (case c3 => exact rfl); (case c4 => exact rfl); k_whole; intro g' L' h' FG' F' N' B' X' T'; (try dsimp only); (try k_lift B'); (try k_fold))
  k_with_none
  k_steps
  exact hret y dy _ _ _ _ _ _ l1' l2 (by k_asm) (by k_asm)
end
section
local macro_rules | `(tactic| walk_at "ite") => `(tactic| (k_here; k_closed; first | refine ite_pos (by decide +kernel) ?_ | refine ite_neg (by decide +kernel) ?_))
section
set_option maxRecDepth 100000
set_option maxHeartbeats 8000000
noncomputable def chAt (x : Str) (k : Nat) : Str := sOf ((cl x).drop k |>.take 1)
noncomputable def nx (x : Str) (k : Nat) : Nat := if k < x.length then k + 1 else k
theorem slice_kj {x : Str} {k : Nat} {j : Int} (h1 : (k : Int) ≤ j) (h2 : j ≤ x.length) : Txt.slice x (some (k : Int)) (some j) = sOf ((cl x).drop k |>.take (j - k).toNat) := by
  have := eq_of_beq (slice_closesL (x := x) (i := (k : Int)) (j := j) (by lia) h1 h2)
  rw [this]
  simp [sOf]
theorem read_c (w : World) (mean : ExcName → Option Value) (mg mb : Str → Option Value) (x : Str) (tx : Tok) (k : Nat) (ti tk t1 t2 t3 : Tok) (y dy : Addr) (rest : List (Addr × Obj)) (dp un : Nat) (gd : Option (List Code)) (cn : Str) (cs : Scope) (a : Addr) (ccd : Value) (cel : List (Str × Addr)) (outer : List Env) (A₀ : Around) (base h₀ : Heap) (L : Addr) (m : Str → Option Value) (s : Shared) (Q E : Value → Shared → Prop)
    (hB : Below A₀ base outer h₀) (hF : Fr h₀ L s.heap m) : (Mine.K w.params).In h₀ → News h₀ L s.heap ((y, instObj 611 dy) :: (dy, sioD w.params x tx k tk t1 t2 t3) :: rest) → Top Mine.vw loose mean mg mb h₀ → cs.kind = .function → dp + 10 < recursionLimit → un + 100 < cLine →
    k ≤ x.length → x.length ≤ 1000 → @Ne Nat y dy → (∀ p ∈ rest, p.1 ≠ dy) →
    (∀ t tk h' tk', Fr h₀ L h' m → News h₀ L h' ((y, instObj 611 dy) :: (dy, sioD w.params x tx (nx x k : Nat) tk t1 t2 t3) :: rest) → Q (.str (chAt x k) t) { s with heap := h', toks := tk' }) →
    wpAny (model PySem.Challenge.pw_ny0408_02 w) (ktrTop dp un gd cn cs L a ccd cel outer) (call (.ref 557) [.ref y, .int 1 ti]) Q E s := by
  refine fill ?_
  k_fill
  intro _ hX hN hT hK hdp hun hk hx hy hrest hret
  refine wpAny_call ?_
  k_dflt (refine' code_def ?k1 ?k2 ?k3 ?k4 ?k5 ?kA ?kF ?kK ?k6 ?k7 ?k8 ?k9 ?kB ?_ ?c2 ?c3 ?c4 ?c5; (case kA => exact rfl); (case kF => exact rfl); (case kK => assumption); (case k1 => k_asm); (case k2 => k_asm); (case k3 => k_asm); (case k4 => k_asm); (case k5 => k_asm); (case k6 => k_is); (case k7 => k_is); (case k8 => k_room); (case k9 => first | exact BindsTo.of_eq rfl | exact binds_K (hX.keeps hF.keep) rfl (by k_is) rfl rfl rfl); (case c5 => decide); (case kB => exact locs rfl); (case c2 => exact rfl); (case c3 => exact rfl); (case c4 => exact rfl); k_whole; intro g' L' h' FG' F' N' B' X' T'; (try dsimp only); (try k_lift B'); (try k_fold))
  k_with_none
  k_steps
  · have e : chAt x k = Str.ofString "" := by
      have : (cl x).length = x.length := len_cl x
      have : x.length = k := by lia
      simp only [chAt]
      rw [List.drop_of_length_le (by lia)]
      rfl
    have e2 : nx x k = k := if_neg (by lia)
    rw [← e]
    exact hret _ _ _ _ (by k_asm) (by rw [e2]; k_asm)
  · have e : Txt.slice x (some (k : Int)) (some ((k : Int) + 1)) = chAt x k := by
      rw [slice_kj (by lia) (by lia)]
      have : (((k : Int) + 1) - k).toNat = 1 := by lia
      rw [this]
      rfl
    have e2 : ((nx x k : Nat) : Int) = (k : Int) + 1 := by rw [nx, if_pos (by lia)]; rfl
    rw [e]
    exact hret _ _ _ _ (by k_asm) (by rw [e2]; k_asm)
  · have e : Txt.slice x (some (k : Int)) (some (x.length : Int)) = chAt x k := by
      rw [slice_kj (by lia) (by lia)]
      have : ((x.length : Int) - k).toNat = 1 := by lia
      rw [this]
      rfl
    have e2 : ((nx x k : Nat) : Int) = (x.length : Int) := by rw [nx, if_pos (by lia)]; lia
    rw [e]
    exact hret _ _ _ _ (by k_asm) (by rw [e2]; k_asm)
end
section
set_option maxRecDepth 100000
set_option maxHeartbeats 8000000
noncomputable abbrev dqO : Obj := { cls := .type "collections.deque", data := .fields #[.none, .int 0 0] }
theorem dq_sub : isSubtype (.type "collections.deque") (.type "collections.deque") = pure true := by rw [isSubtype_type]; kernel_rfl
theorem dq_notType : (Value.type "collections.deque" == Value.type "type") = false := by decide +kernel
theorem dq_can : ((Manifest.find? "collections.deque").bind fun x => List.findSome? (fun t => (Manifest.find? t).bind fun b =>
    if b.noNew = true then some true else if (b.attrs.any fun x => x.fst == "__new__") = true then some false else none) x.mro).getD false = false := by kernel_rfl
theorem dq_vec (args : Args) : checkTypeCall "collections.deque" args = pure () := by kernel_rfl
theorem dq_mro : ∃ m, mroOf (.type "collections.deque") = pure m ∧ m.isEmpty = false := ⟨[.type "collections.deque", .type "object"], by rw [mroOf_type]; kernel_rfl, rfl⟩
theorem dq_madeBy : Bind.madeBy (.type "collections.deque") = pure (some "collections.deque.__new__") := by kernel_rfl
theorem dq_newOk : checkBuiltinCall "collections.deque.__new__" ⟨[.type "collections.deque"], []⟩ = pure () := by kernel_rfl
theorem dq_entry : entryFor table "collections.deque.__new__" = some Builtin.«collections.deque.__new__» := entryFor_of_tree (by kernel_rfl)
theorem dq_initEntry : entryFor table "collections.deque.__init__" = some Builtin.«collections.deque.__init__» := entryFor_of_tree (by kernel_rfl)
theorem dq_init : Slot "collections.deque" "__init__" "collections.deque.__init__" := .of (owner := "collections.deque") (n := "__init__") (by rw [typeLookup_type, builtinLookup_eq_fast]; kernel_rfl) (by decide +kernel) (by decide +kernel) (by decide +kernel)
    (by first | exact .inl (by decide +kernel) | exact .inr (by decide +kernel)) (by rw [isSubtype_type]; kernel_rfl)
section
variable {prog : Program} {w : World} {A : Around}
theorem dq_new {R : Result → Shared → Prop} {hp : Heap} {g : Array GenState} {d : Drawn} {tk : Nat} {os : OsState}
    (h : R (.ok (.ret (.ref hp.objs.size))) ⟨hp.push dqO, g, d, tk, os⟩) :
    codeAny (model prog w) A (.builtin "collections.deque.__new__" ⟨[.type "collections.deque"], []⟩) R ⟨hp, g, d, tk, os⟩ := by
  have hsub := dq_sub
  refine codeAny_builtin dq_entry ?_
  unfold Builtin.«collections.deque.__new__»
  repeat lk
  exact h
theorem dq_chk {M : Model} {E : Value → Shared → Prop} {Q : Unit → Shared → Prop} {s : Shared} {e : Addr} (he : s.heap.get? e = some dqO) (h : Q () s) : wpAny M A (checkBuiltinCall "collections.deque.__init__" ⟨[.ref e], []⟩) Q E s := by
  refine dq_init.check _ _ _ _ _ _ _ _ ⟨_, he, rfl⟩ (by unfold argsOk; kernel_rfl) h
theorem dq_ini {E : Value → Shared → Prop} {Q : Value → Shared → Prop} {hp : Heap} {g : Array GenState} {d : Drawn} {tk : Nat} {os : OsState} {e : Addr} (he : hp.get? e = some dqO)
    (h : Q .none ⟨hp.update e (Obj.mapFields (·.setIfInBounds 0 .none)), g, d, tk, os⟩) : wpAny (model prog w) A (call (.builtin "collections.deque.__init__") [.ref e]) Q E ⟨hp, g, d, tk, os⟩ := by
  refine wpAny_call (codeAny_call_builtin dq_init.plain dq_initEntry (dq_chk he ?_))
  unfold Builtin.«collections.deque.__init__»
  dsimp only
  repeat lk
  refine wpAny_update he ?_
  have he2 : (hp.update e (Obj.mapFields fun x => x.setIfInBounds 0 Value.none)).get? e = some dqO := by
    rw [Heap.get?_update_self _ he rfl]; rfl
  dsimp only
  repeat lk
  exact h
theorem dq_type {E : Value → Shared → Prop} {Q : Fin → Shared → Prop} {hp : Heap} {g : Array GenState} {d : Drawn} {tk : Nat} {os : OsState}
    (h : Q (.done (.ret (.ref hp.objs.size))) ⟨(hp.push dqO).update hp.objs.size (Obj.mapFields (·.setIfInBounds 0 .none)), g, d, tk, os⟩) :
    wpAny (model prog w) A (Builtin.«type.__call__» ⟨[.type "collections.deque"], []⟩) Q E ⟨hp, g, d, tk, os⟩ := by
  have hnt := dq_notType
  have hcan := dq_can
  have hchk := dq_vec ⟨[], []⟩
  obtain ⟨m, hmro, hne⟩ := dq_mro
  have hmade := dq_madeBy
  wp_walk
  refine codeAny_call_builtin_code (Code.quiet_builtin _ (by decide +kernel)) (wpAny_of_eq dq_newOk ?_)
  refine dq_new ?_
  show wpAny _ _ _ _ _ _
  have hget : (hp.push dqO).get? hp.objs.size = some dqO := Heap.get?_push_size _ rfl
  refine wpAny_bind (wpAny_isInstance ⟨_, hget, rfl⟩ dq_sub ?_)
  wp_step
  refine wpAny_bind (wpAny_holding (wpAny_callSpecial?_slot ⟨_, hget, rfl⟩ dq_init (dq_ini hget ?_)))
  wp_walk
  exact h
theorem dq_call {E : Value → Shared → Prop} {s : Shared} {Q : Value → Shared → Prop} {h₀ : Heap} {L : Addr} {mp : Str → Option Value} {news : List (Addr × Obj)} (F : Fr h₀ L s.heap mp) (N : News h₀ L s.heap news)
    (h : ∀ a h', (∀ p ∈ news, p.1 < a) → Fr h₀ L h' mp → News h₀ L h' ((a, dqO) :: news) → Q (.ref a) { s with heap := h' }) : wpAny (model prog w) A (call (.type "collections.deque") []) Q E s := by
  obtain ⟨hp, g, d, tk, os⟩ := s
  refine wpAny_call (codeAny_of_tree ?_)
  show wpAny _ _ (callAny (.type "collections.deque") ⟨[], []⟩) _ _ _
  simp only [callAny]
  refine wpAny_pure ⟨Code.quiet_builtin _ (by decide +kernel), codeAny_builtin entry_type_call (dq_type ?_)⟩
  have lt : ∀ p ∈ news, p.1 < hp.objs.size := fun p hp => Heap.lt_size (N p hp).1
  have N1 := N.push F dqO
  have F1 := F.push dqO
  obtain ⟨F2, N2⟩ := news_upd (pre := []) (post := news) (d := hp.objs.size) (o := dqO) (o' := dqO) (f := Obj.mapFields (·.setIfInBounds 0 .none)) F1 N1 (fun _ h => nomatch h) (fun p h => Nat.ne_of_lt (lt p h)) rfl rfl
  exact h _ _ lt F2 N2
end
end
section
set_option maxRecDepth 100000
set_option maxHeartbeats 8000000
theorem dq_noBool : typeLookup (.type "collections.deque") "__bool__" = pure none := by rw [typeLookup_type, builtinLookup_eq_fast]; kernel_rfl
theorem dq_len : Slot "collections.deque" "__len__" "collections.deque.__len__" := .of (owner := "collections.deque") (n := "__len__") (by rw [typeLookup_type, builtinLookup_eq_fast]; kernel_rfl) (by decide +kernel) (by decide +kernel) (by decide +kernel)
    (by first | exact .inl (by decide +kernel) | exact .inr (by decide +kernel)) (by rw [isSubtype_type]; kernel_rfl)
theorem dq_lenEntry : entryFor table "collections.deque.__len__" = some Builtin.«collections.deque.__len__» := entryFor_of_tree (by kernel_rfl)
section
variable {prog : Program} {w : World} {A : Around} {E : Value → Shared → Prop} {s : Shared}
theorem dq_lenBody {l : Addr} {Q : Value → Shared → Prop} (hl : s.heap.get? l = some dqO) (h : Q (.int 0 (s.toks + 1)) { s with toks := s.toks + 1 + 1 }) :
    wpAny (model prog w) A (Builtin.«len» ⟨[.ref l], []⟩) (fun fin s' => ∃ r, fin = .done (.ret r) ∧ Q r s') E s := by
  have hT : s.TypeIs (.ref l) "collections.deque" := (show ∃ o, s.heap.get? l = some o ∧ o.cls = .type "collections.deque" from ⟨_, hl, rfl⟩)
  unfold Builtin.«len»
  refine wpAny_bind (m := oneArg "len" _) (wpAny_pure ?_)
  refine wpAny_bind (m := callSpecial? (.ref l) (Str.ofString "__len__")) (wpAny_callSpecial?_slot (name := Str.ofString "__len__") hT dq_len
    (wpAny_call_entry dq_len hT dq_lenEntry ?_ (by unfold argsOk; kernel_rfl)))
  obtain ⟨hp, g, d, tk, os⟩ := s
  dsimp only at hl h
  unfold Builtin.«collections.deque.__len__»
  repeat lk
  refine ⟨_, rfl, ?_⟩
  dsimp only
  refine wpAny_bind (wpAny_holding (wpAny_pure ?_))
  refine wpAny_bind (wpAny_letGo ?_)
  show wpAny _ _ (if ((0 : Nat) : Int) < 0 then _ else _) _ _ _
  rw [if_neg (by lia)]
  show wpAny _ _ (if ((0 : Nat) : Int) ≥ 2 ^ 63 then _ else _) _ _ _
  rw [if_neg (by lia)]
  exact wpAny_bind (wpAny_mkInt (wpAny_pure ⟨_, rfl, h⟩))
theorem dq_truthy {l : Addr} {Q : Bool → Shared → Prop} (hl : s.heap.get? l = some dqO) (h : Q false { s with toks := s.toks + 1 + 1 }) : wpAny (model prog w) A (truthy (.ref l)) Q E s := by
  have hT : s.TypeIs (.ref l) "collections.deque" := (show ∃ o, s.heap.get? l = some o ∧ o.cls = .type "collections.deque" from ⟨_, hl, rfl⟩)
  have key : wpAny (model prog w) A (runValue (.builtin "len" ⟨[.ref l], []⟩)) (fun r s' => r = .int 0 (s.toks + 1) ∧ Q false s') E s := by
    refine wpAny_runValue (codeAny_builtin entry_len ?_)
    rw [Around.under_plainId plain_len _]
    exact wpAny_mono (dq_lenBody (Q := fun r s' => r = .int 0 (s.toks + 1) ∧ Q false s') hl ⟨rfl, h⟩)
      (fun fin s' h' => by obtain ⟨r, rfl, hq⟩ := h'; exact hq) fun _ _ e => e
  unfold truthy
  first
    | refine wpAny_bind (wpAny_callSpecial?_none (name := Str.ofString "__bool__") hT dq_noBool ?_)
    | refine wpAny_bind (wpAny_pure (wpAny_bind (wpAny_callSpecial?_none (name := Str.ofString "__bool__") hT dq_noBool ?_)))
  first
    | refine wpAny_bind (wpAny_specialOf (name := Str.ofString "__len__") hT dq_len.lookup ?_)
    | refine wpAny_bind (wpAny_pure (wpAny_bind (wpAny_specialOf (name := Str.ofString "__len__") hT dq_len.lookup ?_)))
  refine wpAny_bind (wpAny_mono key (fun r s' hr => ?_) fun _ _ e => e)
  obtain ⟨rfl, hq⟩ := hr
  exact wpAny_pure hq
end
end
section
set_option maxRecDepth 100000
set_option maxHeartbeats 8000000
noncomputable abbrev lexD (P : Params) (y pb fs : Addr) (st tok : Value) (t0 t1 t2 t3 t4 t5 t6 t7 t8 t9 t10 t11 t12 t13 t14 t15 t16 t17 t18 t19 t20 t21 t22 t23 t24 t25 t26 t27 : Tok) : Obj := PySem.W.dictOf [ent P (Str.ofString "instream") t0 (.ref y), ent P (Str.ofString "infile") t1 .none, ent P (Str.ofString "posix") t2 (.bool true), ent P (Str.ofString "eof") t3 .none, ent P (Str.ofString "commenters") t4 (.str (Str.ofString "") t5), ent P (Str.ofString "wordchars") t6 (.str (Str.ofString "abcdfeghijklmnopqrstuvwxyzABCDEFGHIJKLMNOPQRSTUVWXYZ0123456789_ßàáâãäåæçèéêëìíîïðñòóôõöøùúûüýþÿÀÁÂÃÄÅÆÇÈÉÊËÌÍÎÏÐÑÒÓÔÕÖØÙÚÛÜÝÞ") t7), ent P (Str.ofString "whitespace") t8 (.str (Str.ofString " \t\x0d\n") t9), ent P (Str.ofString "whitespace_split") t10 (.bool true), ent P (Str.ofString "quotes") t11 (.str (Str.ofString "'\"") t12), ent P (Str.ofString "escape") t13 (.str (Str.ofString "\\") t14), ent P (Str.ofString "escapedquotes") t15 (.str (Str.ofString "\"") t16), ent P (Str.ofString "state") t17 st, ent P (Str.ofString "pushback") t18 (.ref pb), ent P (Str.ofString "lineno") t19 (.int 1 t20), ent P (Str.ofString "debug") t21 (.int 0 t22), ent P (Str.ofString "token") t23 tok, ent P (Str.ofString "filestack") t24 (.ref fs), ent P (Str.ofString "source") t25 .none, ent P (Str.ofString "_punctuation_chars") t26 (.str (Str.ofString "") t27)] 19
end
section
local macro_rules | `(tactic| walk_at "ite") => `(tactic| (k_here; k_openite; first | (refine ite_pos (by with_reducible assumption) ?_) | (refine ite_neg (by with_reducible assumption) ?_) | (k_spoken; first | (refine ite_pos (by lia) ?_) | (refine ite_neg (by lia) ?_))))
local macro_rules | `(tactic| kst_allIn) => `(tactic| ((fail_if_success with_reducible apply of_cons); intro p9 h9; kst_mem))
section
set_option maxRecDepth 100000
set_option maxHeartbeats 8000000
noncomputable def Same (a b : List Nat) (k : Int) : Prop := a.take k.toNat = b.take k.toNat
theorem same_zero (a b : List Nat) : Same a b 0 := rfl
theorem loop1_exit {x y : Str} {k : Int} (h3 : Same (cl x) (cl y) k) (h0 : 0 ≤ k) (h1 : k ≤ (x.length : Int)) (h2 : k ≤ (y.length : Int))
    (e : (x.length : Int) ≤ k ∨ (y.length : Int) ≤ k ∨ ((Txt.item x k == Txt.item y k) = false ∧ k < x.length ∧ k < y.length)) : k = (preLen (cl x) (cl y) : Int) := by
  have lx := len_cl x
  have ly := len_cl y
  have : preLen (cl x) (cl y) = k.toNat := by
    refine preLen_exit _ _ _ (lx ▸ Int.toNat_le.mpr h1) (ly ▸ Int.toNat_le.mpr h2) h3 ?_
    rcases e with e | e | ⟨e, e1, e2⟩
    · exact .inl (by lia)
    · exact .inr (.inl (by lia))
    · refine .inr (.inr fun q => ?_)
      rw [item_at h0 e1, item_at h0 e2, q] at e
      simp at e
  lia
theorem loop1_turn {x y : Str} {k : Int} (h3 : Same (cl x) (cl y) k) (h0 : 0 ≤ k)
    (e : (Txt.item x k == Txt.item y k) = true) (e1 : k < x.length) (e2 : k < y.length) : Same (cl x) (cl y) (k + 1) := by
  have lx := len_cl x
  have ly := len_cl y
  unfold Same
  rw [up_nat h0]
  refine take_step (lx ▸ (Int.toNat_lt h0).mpr e1) (ly ▸ (Int.toNat_lt h0).mpr e2) h3 ?_
  rw [item_at h0 e1, item_at h0 e2] at e
  have e' := sOf_inj (eq_of_beq e)
  simpa using e'
theorem neg_len {x : Str} {k : Int} (h0 : k < 0) (h1 : 0 ≤ (x.length : Int) + k) : ((Txt.slice x none (some k)).length : Int) = x.length + k := by
  rw [slice_neg h0 h1, len_sOf, List.length_take, len_cl, Nat.min_eq_left (Int.toNat_le.mpr (Int.le_of_lt (add_neg_lt _ h0))), Int.toNat_of_nonneg h1]
theorem neg_room {x : Str} {k : Int} {A B : List Nat} (_ : Same A B (-k)) (h0 : k < 0) (h1 : 0 ≤ (x.length : Int) + k) (h : ((Txt.slice x none (some k)).length : Int) ≠ 0) : -k < x.length := by
  have := neg_len h0 h1
  lia
theorem neg_full {x : Str} {k : Int} {A B : List Nat} (_ : Same A B (-k)) (h0 : k < 0) (h1 : 0 ≤ (x.length : Int) + k) (h : ((Txt.slice x none (some k)).length : Int) = 0) : (x.length : Int) ≤ -k := by
  have := neg_len h0 h1
  lia
theorem cut_neg {A : List Nat} {q : Nat} (h0 : -(q : Int) ≠ 0) (h1 : q ≤ A.length) : Txt.slice (sOf A) none (some (-(q : Int))) = sOf (A.take (A.length - q)) := by
  have la := len_sOf A
  rw [slice_neg (Int.lt_iff_le_and_ne.mpr ⟨Int.neg_nonpos_of_nonneg (Int.natCast_nonneg q), h0⟩) (by rw [la]; exact Int.sub_nonneg_of_le (Int.ofNat_le.mpr h1)), cl_sOf, la]
  congr 2
  exact Int.toNat_sub _ _
theorem cut_zero {A : List Nat} {q : Nat} (h0 : -(q : Int) = 0) : sOf A = sOf (A.take (A.length - q)) := by
  have : q = 0 := by lia
  subst this
  simp
theorem np_of {k : Int} (h0 : k ≤ 0) : ∃ m : Nat, k = -(m : Int) := ⟨(-k).toNat, by rw [Int.toNat_of_nonneg (Int.neg_nonneg_of_nonpos h0), Int.neg_neg]⟩
theorem pre_neg (n m : Nat) : (n : Int) + (-(m : Int) - 1) = (n : Int) - ((m + 1 : Nat) : Int) := by
  rw [Int.natCast_add, Int.sub_eq_add_neg, Int.sub_eq_add_neg, Int.neg_add]; rfl
theorem neg_pre {k : Int} (h0 : k ≤ 0) : (-(k - 1)).toNat = (-k).toNat + 1 := by
  obtain ⟨m, rfl⟩ := np_of h0
  rw [Int.neg_sub, Int.sub_neg, Int.neg_neg, Int.add_comm]; rfl
theorem rev_idx {n : Nat} {k : Int} (h0 : k ≤ 0) (h : -k < n) : n - 1 - (-k).toNat = ((n : Int) + (k - 1)).toNat := by
  obtain ⟨m, rfl⟩ := np_of h0
  rw [Int.neg_neg, Int.toNat_natCast, pre_neg, Int.toNat_sub, Nat.sub_sub, Nat.add_comm]
theorem neg_in {n : Nat} {k : Int} (h0 : k ≤ 0) (h : -k < n) : k - 1 < 0 ∧ 0 ≤ (n : Int) + (k - 1) ∧ (-k).toNat < n := by
  refine ⟨Int.lt_of_lt_of_le (Int.sub_lt_self k (by decide)) h0, ?_, (Int.toNat_lt (Int.neg_nonneg_of_nonpos h0)).mpr h⟩
  obtain ⟨m, rfl⟩ := np_of h0
  rw [Int.neg_neg] at h
  rw [pre_neg]
  exact Int.sub_nonneg_of_le (Int.ofNat_le.mpr (Int.ofNat_lt.mp h))
theorem same_rev_step {A B : List Nat} {k : Int} (h3 : Same A.reverse B.reverse (-k)) (h0 : k ≤ 0) (e1 : -k < A.length) (e2 : -k < B.length)
    (e : (Txt.item (sOf A) (k - 1) == Txt.item (sOf B) (k - 1)) = true) : Same A.reverse B.reverse (-(k - 1)) := by
  have la := len_sOf A
  have lb := len_sOf B
  rw [item_neg (neg_in h0 e1).1 (by rw [la]; exact (neg_in h0 e1).2.1), item_neg (neg_in h0 e2).1 (by rw [lb]; exact (neg_in h0 e2).2.1), cl_sOf, cl_sOf, la, lb] at e
  have e' := sOf_inj (eq_of_beq e)
  simp only [List.cons.injEq, and_true] at e'
  unfold Same
  rw [neg_pre h0]
  refine take_step (by rw [List.length_reverse]; exact (neg_in h0 e1).2.2) (by rw [List.length_reverse]; exact (neg_in h0 e2).2.2) h3 ?_
  rw [rev_getD (neg_in h0 e1).2.2, rev_getD (neg_in h0 e2).2.2]
  rw [rev_idx h0 e1, rev_idx h0 e2, e']
theorem same_rev_exit {A B : List Nat} {k : Int} (h3 : Same A.reverse B.reverse (-k)) (h0 : k ≤ 0) (h1 : -k ≤ A.length) (h2 : -k ≤ B.length)
    (e : (A.length : Int) ≤ -k ∨ (B.length : Int) ≤ -k ∨ ((Txt.item (sOf A) (k - 1) == Txt.item (sOf B) (k - 1)) = false ∧ -k < A.length ∧ -k < B.length)) : k = -(preLen A.reverse B.reverse : Int) := by
  have la := len_sOf A
  have lb := len_sOf B
  have : preLen A.reverse B.reverse = (-k).toNat := by
    refine preLen_exit _ _ _ (by rw [List.length_reverse]; exact Int.toNat_le.mpr h1) (by rw [List.length_reverse]; exact Int.toNat_le.mpr h2) h3 ?_
    rw [List.length_reverse, List.length_reverse]
    rcases e with e | e | ⟨e, e1, e2⟩
    · exact .inl (by lia)
    · exact .inr (.inl (by lia))
    · refine .inr (.inr fun q => ?_)
      rw [rev_getD (neg_in h0 e1).2.2, rev_getD (neg_in h0 e2).2.2] at q
      rw [rev_idx h0 e1, rev_idx h0 e2] at q
      rw [item_neg (neg_in h0 e1).1 (by rw [la]; exact (neg_in h0 e1).2.1), item_neg (neg_in h0 e2).1 (by rw [lb]; exact (neg_in h0 e2).2.1), cl_sOf, cl_sOf, la, lb, q] at e
      simp at e
  lia
theorem ints_row0 : ∀ (vs : List Value) (a : Int) (n : Nat), vs.length = n → (∀ (j : Nat) (v : Value), vs[j]? = some v → ∃ t, v = .int (a + j * 2) t) → IntsAre vs ((List.range n).map fun (i : Nat) => a + 2 * (i : Int))
  | [], a, n, e, _ => by subst e; exact IntsAre.nil
  | v :: r, a, n, e, h => by
    subst e
    rw [List.length_cons, List.range_succ_eq_map, List.map_cons, List.map_map]
    obtain ⟨t, ht⟩ := h 0 v rfl
    have hv : v = .int (a + 2 * ((0 : Nat) : Int)) t := by rw [ht]; simp
    subst hv
    have ih := ints_row0 r (a + 2) r.length rfl fun j v hj => by
      obtain ⟨t', ht'⟩ := h (j + 1) v hj
      refine ⟨t', ht'.trans ?_⟩
      congr 1
      lia
    refine IntsAre.cons _ _ ?_
    have e : (List.range r.length).map ((fun (i : Nat) => a + 2 * (i : Int)) ∘ Nat.succ) = (List.range r.length).map fun (i : Nat) => a + 2 + 2 * (i : Int) := by
      apply List.map_congr_left
      intro i _
      simp only [Function.comp]
      lia
    rw [e]
    exact ih
theorem row0_eq (n : Nat) : ((List.range n).map fun (i : Nat) => (2 : Int) + 2 * (i : Int)) = row0 n := by
  unfold row0
  apply List.map_congr_left
  intro i _
  lia
theorem small2 {k : Nat} (h : k ≤ 40) : Builtin.Range.small 2 (2 * ((k : Int) + 1)) 2 = true := by
  have hn : Builtin.Range.rangeSize 2 (2 * ((k : Int) + 1)) 2 = (k : Int) := by
    unfold Builtin.Range.rangeSize
    rw [if_pos (by decide)]
    split <;> lia
  unfold Builtin.Range.small
  rw [hn]
  simp [Builtin.Range.rangeFitsLong]
  lia
section
variable {prog : Program} {w : World} {A : Around} {E : Value → Shared → Prop} {s : Shared} {h₀ : Heap} {L r : Addr} {m : Str → Option Value} {news : List (Addr × Obj)} {t₀ u₀ v₀ : Tok} {n k : Nat} {Q : Value → Shared → Prop}
theorem list_range2 (hh : A.handled = none) (F : Fr h₀ L s.heap m) (N : News h₀ L s.heap news) (hr : IsRange s.heap r 2 (2 * ((k : Int) + 1)) 2 t₀ u₀ v₀) (hk : k = n) (hz : n ≤ 40)
    (h : ∀ D us c h' tk, Fr h₀ L h' m → News h₀ L h' ((D, listOf (List.toArray us) c) :: news) → (∀ p ∈ news, p.1 < D) → IntsAre us (row0 n) → Q (.ref D) { s with heap := h', toks := tk }) :
    wpAny (model prog w) A (call (.type "list") [.ref r]) Q E s := by
  subst hk
  have hn : Builtin.Range.rangeSize 2 (2 * ((k : Int) + 1)) 2 = (k : Int) := by
    unfold Builtin.Range.rangeSize
    rw [if_pos (by decide)]
    split <;> lia
  have hs : Builtin.Range.small 2 (2 * ((k : Int) + 1)) 2 = true := by
    exact small2 (by lia)
  refine call_list_range hh hr hs hn (by lia) fun h' tk acc c hk hD hI => ?_
  have hD' : h'.get? s.heap.objs.size = some (listOf (List.toArray acc.toList) c) := by
    rw [Array.toArray_toList]
    exact hD
  refine h _ acc.toList c h' tk (F.keeps hk) (news_pushed F N hk hD' rfl) (fun p hp => Heap.lt_size (N p hp).1) ?_
  rw [← row0_eq]
  exact ints_row0 _ _ _ (by rw [Array.length_toList]; exact hI.1) fun j v hj => hI.2 j v (by rw [← hj, Array.getElem?_toList])
end
theorem levD_far {A B : List Nat} {mc : Int} (h : mc < ((((sOf B).length : Int) - (sOf A).length) * 2)) : mc + 1 = levD A B mc := by
  unfold levD
  rw [len_sOf, len_sOf] at h
  rw [if_pos (by lia)]
noncomputable def OInv (A B : List Nat) (mc : Int) (k : Nat) (row : List Int) (res : Int) : Prop := orun A B mc k (row0 A.length) = some (row, res)
noncomputable def IInv (c : Nat) (A : List Nat) (k : Nat) (s : Int × Int × Int × List Int) (d res mn : Int) (row : List Int) : Prop := (d, res, mn, row) = iters c A k s
theorem oinv_zero (A B : List Nat) (mc : Int) : OInv A B mc 0 (row0 A.length) 0 := rfl
theorem iinv_zero (c : Nat) (A : List Nat) (s : Int × Int × Int × List Int) : IInv c A 0 s s.1 s.2.1 s.2.2.1 s.2.2.2 := rfl
theorem iters_succ (c : Nat) (A : List Nat) (n : Nat) (s : Int × Int × Int × List Int) : iters c A (n + 1) s = istep c A n (iters c A n s) := rfl
theorem iinv_step {c : Nat} {A : List Nat} {kPre : List Int} {kN : Int} {s : Int × Int × Int × List Int} {d res mn sc : Int} {row : List Int} (h : IInv c A kPre.length s d res mn row) (e : kN = 0 + (kPre.length : Int)) (hx : sc = scN c (A.getD kN.toNat 0)) {r : Int}
    (hr : r = if d + sc < (if row.getD kN.toNat 0 < res then row.getD kN.toNat 0 else res) + 2 then d + sc else (if row.getD kN.toNat 0 < res then row.getD kN.toNat 0 else res) + 2) :
    IInv c A (kPre ++ [kN]).length s (row.getD kN.toNat 0) r (if r < mn then r else mn) (row.set kN.toNat r) := by
  have ek : kN.toNat = kPre.length := by lia
  rw [ek] at hx hr ⊢
  unfold IInv at h ⊢
  rw [List.length_append, List.length_singleton, iters_succ, ← h]
  subst hx
  subst hr
  rfl
theorem iinv_lt {c : Nat} {A : List Nat} {kPre : List Int} {kN : Int} {s : Int × Int × Int × List Int} {d res mn sc : Int} {row : List Int} (h : IInv c A kPre.length s d res mn row) (e : kN = 0 + (kPre.length : Int)) (hx : sc = scN c (A.getD kN.toNat 0))
    (hl : (if d + sc < (if row.getD kN.toNat 0 < res then row.getD kN.toNat 0 else res) + 2 then d + sc else (if row.getD kN.toNat 0 < res then row.getD kN.toNat 0 else res) + 2) < mn) :
    IInv c A (kPre ++ [kN]).length s (row.getD kN.toNat 0) (if d + sc < (if row.getD kN.toNat 0 < res then row.getD kN.toNat 0 else res) + 2 then d + sc else (if row.getD kN.toNat 0 < res then row.getD kN.toNat 0 else res) + 2) (if d + sc < (if row.getD kN.toNat 0 < res then row.getD kN.toNat 0 else res) + 2 then d + sc else (if row.getD kN.toNat 0 < res then row.getD kN.toNat 0 else res) + 2) (row.set kN.toNat (if d + sc < (if row.getD kN.toNat 0 < res then row.getD kN.toNat 0 else res) + 2 then d + sc else (if row.getD kN.toNat 0 < res then row.getD kN.toNat 0 else res) + 2)) := by
  have := iinv_step h e hx rfl
  rwa [if_pos hl] at this
theorem iinv_ge {c : Nat} {A : List Nat} {kPre : List Int} {kN : Int} {s : Int × Int × Int × List Int} {d res mn sc : Int} {row : List Int} (h : IInv c A kPre.length s d res mn row) (e : kN = 0 + (kPre.length : Int)) (hx : sc = scN c (A.getD kN.toNat 0))
    (hl : ¬ (if d + sc < (if row.getD kN.toNat 0 < res then row.getD kN.toNat 0 else res) + 2 then d + sc else (if row.getD kN.toNat 0 < res then row.getD kN.toNat 0 else res) + 2) < mn) :
    IInv c A (kPre ++ [kN]).length s (row.getD kN.toNat 0) (if d + sc < (if row.getD kN.toNat 0 < res then row.getD kN.toNat 0 else res) + 2 then d + sc else (if row.getD kN.toNat 0 < res then row.getD kN.toNat 0 else res) + 2) mn (row.set kN.toNat (if d + sc < (if row.getD kN.toNat 0 < res then row.getD kN.toNat 0 else res) + 2 then d + sc else (if row.getD kN.toNat 0 < res then row.getD kN.toNat 0 else res) + 2)) := by
  have := iinv_step h e hx rfl
  rwa [if_neg hl] at this
theorem sc_eq {A B : List Nat} {j k : Int} (h1 : 0 ≤ j) (h2 : j < ((sOf B).length : Int)) (h3 : 0 ≤ k) (h4 : k < ((sOf A).length : Int)) : scost (Txt.item (sOf B) j) (Txt.item (sOf A) k) = scN (B.getD j.toNat 0) (A.getD k.toNat 0) := by
  rw [item_at h1 h2, item_at h3 h4, cl_sOf, cl_sOf]
  rfl
theorem to0 (n : Nat) : ((n : Int) - 0).toNat = n := by lia
theorem oinv_some {A B : List Nat} {mc kN d res res0 mn : Int} {kPre : List Int} {n : Nat} {r0 row : List Int} (h : OInv A B mc kPre.length r0 res0) (i : IInv (B.getD kN.toNat 0) A n (kN * 2, kN * 2, 9223372036854775807, r0) d res mn row)
    (e : kN = 0 + (kPre.length : Int)) (hn : n = (((sOf A).length : Int) - 0).toNat) (hm : ¬ mn > mc) : OInv A B mc (kPre ++ [kN]).length row res := by
  rw [to0, len_sOf] at hn
  have ek : kN = (kPre.length : Int) := by lia
  subst ek
  subst hn
  unfold OInv at h ⊢
  unfold IInv at i
  rw [List.length_append, List.length_singleton]
  simp only [orun]
  rw [h]
  simp only [Int.toNat_natCast] at i
  simp only [← i]
  rw [if_neg hm]
theorem orun_none {A B : List Nat} {mc : Int} {k : Nat} {r0 : List Int} (h : orun A B mc k r0 = none) : ∀ n, k ≤ n → orun A B mc n r0 = none
  | 0, hk => by
    have : k = 0 := by lia
    subst this
    exact h
  | n + 1, hk => by
    by_cases e : k = n + 1
    · subst e; exact h
    · simp only [orun]
      rw [orun_none h n (by lia)]
theorem lev_early {A B : List Nat} {mc kN d res res0 mn : Int} {kPre : List Int} {n : Nat} {r0 row : List Int} (h : OInv A B mc kPre.length r0 res0) (i : IInv (B.getD kN.toNat 0) A n (kN * 2, kN * 2, 9223372036854775807, r0) d res mn row)
    (e : kN = 0 + (kPre.length : Int)) (hn : n = (((sOf A).length : Int) - 0).toNat) (hm : mn > mc) (hl : kN < ((sOf B).length : Int)) : mc + 1 = levD A B mc := by
  rw [to0, len_sOf] at hn
  rw [len_sOf] at hl
  have ek : kN = (kPre.length : Int) := by lia
  subst ek
  subst hn
  unfold OInv at h
  unfold IInv at i
  have z : orun A B mc (kPre.length + 1) (row0 A.length) = none := by
    simp only [orun]
    rw [h]
    simp only [Int.toNat_natCast] at i
    simp only [← i]
    rw [if_pos hm]
  have y := orun_none z B.length (by lia)
  unfold levD
  rw [y]
  split <;> rfl
theorem lev_done {A B : List Nat} {mc res : Int} {n : Nat} {row : List Int} (h : OInv A B mc n row res) (hn : n = (((sOf B).length : Int) - 0).toNat) (hf : ¬ mc < (((sOf B).length : Int) - (sOf A).length) * 2) : res = levD A B mc := by
  rw [to0, len_sOf] at hn
  rw [len_sOf, len_sOf] at hf
  have hf : ¬ 2 * ((B.length : Int) - A.length) > mc := by lia
  subst hn
  unfold OInv at h
  unfold levD
  rw [if_neg hf, h]
theorem levR_nil {A B : List Nat} {mc : Int} (h : A.length = 0 ∨ B.length = 0) : 2 * (((sOf A).length : Int) + (sOf B).length) = levR A B mc := by
  have : A = [] ∨ B = [] := h.imp List.length_eq_zero_iff.mp List.length_eq_zero_iff.mp
  unfold levR
  rw [if_pos this, len_sOf, len_sOf]
theorem levR_cons {A B : List Nat} {mc : Int} (h1 : A.length ≠ 0) (h2 : B.length ≠ 0) : levR A B mc = levD (if B.length < A.length then B else A) (if B.length < A.length then A else B) mc := by
  have : ¬ (A = [] ∨ B = []) := by
    rintro (h | h)
    · rw [h] at h1; exact h1 rfl
    · rw [h] at h2; exact h2 rfl
  unfold levR
  rw [if_neg this]
  split <;> rfl
theorem meas_up {n : Nat} {k : Int} (h0 : 0 ≤ k) (h : k < n) : n - (k + 1).toNat < n - k.toNat := by
  rw [up_nat h0]
  exact Nat.sub_succ_lt_self _ _ ((Int.toNat_lt h0).mpr h)
theorem meas_dn {n : Nat} {k : Int} (h0 : k ≤ 0) (h : -k < n) : n - (-(k - 1)).toNat < n - (-k).toNat := by
  rw [neg_pre h0]
  exact Nat.sub_succ_lt_self _ _ (neg_in h0 h).2.2
theorem ix0 {k : Int} {n : Nat} (e : k = 0 + (n : Int)) : 0 ≤ k := by lia
theorem ix1 {k : Int} {n m : Nat} (e : k = 0 + (n : Int)) (h : n < ((m : Int) - 0).toNat) : k < m := by
  rw [Int.sub_zero, Int.toNat_natCast] at h
  rw [e, Int.zero_add]
  exact Int.ofNat_lt.mpr h
theorem ix_fits {k : Int} {n : Nat} (h0 : 0 ≤ k) (h : k < n) (z : n ≤ 40) : fitsSsize k = true := fitsSsize_of (N := 9223372036854775808) (by lia) (by lia) (Int.le_refl _)
theorem ix_neg {k : Int} {n : Nat} (h0 : 0 ≤ k) : -(n : Int) ≤ k := by lia
noncomputable def SameLen (l : List Int) (x : Str) : Prop := l.length = x.length
theorem SameLen.set {l : List Int} {x : Str} (h : SameLen l x) (i : Nat) (v : Int) : SameLen (l.set i v) x := (List.length_set).trans h
theorem from_room {x : Str} {k : Int} (h0 : 0 ≤ k) (h1 : k ≤ x.length) (z : x.length ≤ 40) (h : ((Txt.slice x (some k) none).length : Int) ≠ 0) : k < x.length := by
  rw [slice_from h0 h1, len_sOf, List.length_drop, len_cl] at h
  exact Int.lt_iff_le_and_ne.mpr ⟨h1, fun e => h (by rw [e, Int.toNat_natCast, Nat.sub_self]; rfl)⟩
theorem lev_c (w : World) (mean : ExcName → Option Value) (mg mb : Str → Option Value) (x y : Str) (mc : Int) (tx ty tm : Tok) (news : List (Addr × Obj)) :
    MClaim PySem.Challenge.pw_ny0408_02 w (Mine.K w.params) Mine.vw loose mean mg mb 58 news (x.length ≤ 40 ∧ y.length ≤ 40 ∧ 0 ≤ mc ∧ mc ≤ 1000) [.str x tx, .str y ty, .int mc tm] (fun t => .int (levL (cl x) (cl y) mc) t) := by
  refine fill ?_
  k_fill
  intro _
  dsimp only [MClaim, CbRet]
  intros
  rename_i s Q E hB hF hI hN hT hc hxy hdp hun hret
  obtain ⟨sH, sG, sD, sT, sO⟩ := s
  dsimp only at hF hN hret
  refine wpAny_call ?_
  k_dflt cell_enter
  rename_i gX LX hX FGX FX NX BX XX TX
  k_with_none
  k_with "exec While BoolOp cons nil" => refine halt ?_
  k_steps
  · refine cb_retI (s := ⟨sH, sG, sD, sT, sO⟩) hret ?_ (by k_asm) (by k_asm)
    rename (x == y) = true => e
    rw [eq_of_beq e]; simp [levL]
  · unfold Halt
    refine cutS (σ := Tok) (by k_asm) (fun _ => news) (fun t => [(Str.ofString "a", .str x tx), (Str.ofString "b", .str y ty), (Str.ofString "max_cost", .int mc tm), (Str.ofString "pre", .int (preLen (cl x) (cl y)) t)]) (fun _ => True) ?_ ?_
    · intro Q' hq
      k_with "exec While BoolOp cons nil" => k_while_given ["a", "b"] (fun a b script pre => 0 ≤ pre ∧ pre ≤ (a.length : Int) ∧ pre ≤ (b.length : Int) ∧ Same (cl a) (cl b) pre) (fun a b script pre => a.length - pre.toNat) "pre"
      have hx4 := hxy.1
      have hy4 := hxy.2.1
      k_with "subscriptTail Name Name str int" => ((try (have q8 := from_room (x := x) (by assumption) (by assumption) hx4 (by assumption))); (try (have q7 := from_room (x := y) (by assumption) (by assumption) hy4 (by assumption))); (refine item_str (ix_fits (by assumption) (by assumption) (by assumption)) (ix_neg (by assumption)) (by assumption) ?_); intro _)
      k_with "measure" => exact meas_up (by assumption) (by first | assumption | lia)
      k_with "state" => first | (refine ⟨by lia, by lia, by lia, loop1_turn (by assumption) (by assumption) (by assumption) (by lia) (by lia)⟩) | (exact ⟨by lia, by lia, by lia, same_zero _ _⟩)
      k_steps
      all_goals (have e := loop1_exit (x := x) (y := y) (by assumption) (by assumption) (by assumption) (by assumption) (by first | exact .inl (by lia) | exact .inr (.inl (by lia)) | exact .inr (.inr ⟨by assumption, by lia, by lia⟩)))
      all_goals (subst e)
      all_goals (refine hq _ _ _ _ trivial (toB _ (by k_asm) (by kst_all)) (by k_asm))
    · intro t u h tk _ F N
      simp only [kstB] at F
      k_with_none
      k_with "exec While BoolOp cons nil" => refine halt ?_
      k_steps
      unfold Halt
      have hp1 := (preLen_le (cl x) (cl y)).1
      have hp2 := (preLen_le (cl x) (cl y)).2
      have lx := len_cl x
      have ly := len_cl y
      (rename Fr _ _ _ _ => F1)
      rw [slice_from (x := x) (by lia) (by lia), slice_from (x := y) (by lia) (by lia)] at F1
      simp only [Int.toNat_natCast] at F1
      have lA : ((cl x).drop (preLen (cl x) (cl y))).length ≤ 40 := Nat.le_trans (by rw [List.length_drop]; exact Nat.sub_le _ _) (Nat.le_trans (Nat.le_of_eq lx) hxy.1)
      have lB : ((cl y).drop (preLen (cl x) (cl y))).length ≤ 40 := Nat.le_trans (by rw [List.length_drop]; exact Nat.sub_le _ _) (Nat.le_trans (Nat.le_of_eq ly) hxy.2.1)
      have hne : levL (cl x) (cl y) mc = levS ((cl x).drop (preLen (cl x) (cl y))) ((cl y).drop (preLen (cl x) (cl y))) mc := by
        unfold levL
        rw [if_neg]
        intro q
        rename (x == y) = false => e
        have : x = y := by rw [← sOf_cl x, q, sOf_cl]
        simp [this] at e
      rw [hne] at hret
      clear hne hp1 hp2 lx ly
      generalize (cl x).drop (preLen (cl x) (cl y)) = A1 at *
      generalize (cl y).drop (preLen (cl x) (cl y)) = B1 at *
      have la := len_sOf A1
      have lb := len_sOf B1
      refine cutS (σ := Tok × Tok × Tok) F1 (fun _ => news) (fun t => [(Str.ofString "a", .str (sOf A1) t.1), (Str.ofString "b", .str (sOf B1) t.2.1), (Str.ofString "max_cost", .int mc tm), (Str.ofString "post", .int (-(preLen A1.reverse B1.reverse : Int)) t.2.2)]) (fun _ => True) ?_ ?_
      · intro Q' hq
        k_with "exec While BoolOp cons nil" => k_while (fun script post => post ≤ 0 ∧ -post ≤ (A1.length : Int) ∧ -post ≤ (B1.length : Int) ∧ Same A1.reverse B1.reverse (-post)) (fun script post => A1.length - (-post).toNat) "post"
        k_with "measure" => exact meas_dn (by assumption) (by first | assumption | lia)
        k_with "state" => first | (refine ⟨by lia, by lia, by lia, same_rev_step (by assumption) (by lia) (by lia) (by lia) (by assumption)⟩) | (exact ⟨by lia, by lia, by lia, same_zero _ _⟩)
        k_with "subscriptTail Name Slice str ref" => ((with_reducible rename Fr _ _ _ _ => F9); (with_reducible rename News _ _ _ _ => N9); (refine slice_strN_nn (hsz := ?hsz9) (s := ⟨_, _, _, _, _⟩) F9 N9 ?_); (case hsz9 => size_fits); intro _ _ _ _ _; (simp only [slice_all]))
        k_with "subscriptTail Name BinOp str int" => ((try (have q8 := neg_room (x := sOf A1) (by assumption) (by lia) (by lia) (by assumption))); (try (have q7 := neg_room (x := sOf B1) (by assumption) (by lia) (by lia) (by assumption))); (refine item_str (fitsSsize_of (N := 9223372036854775808) (by lia) (by lia) (Int.le_refl _)) (by lia) (by lia) ?_); intro _)
        k_steps
        all_goals (first | (exfalso; lia) | skip)
        all_goals (try (have q8 := neg_room (x := sOf A1) (by assumption) (by lia) (by lia) (by assumption)))
        all_goals (try (have q7 := neg_room (x := sOf B1) (by assumption) (by lia) (by lia) (by assumption)))
        all_goals (try (have q8 := neg_full (x := sOf A1) (by assumption) (by lia) (by lia) (by assumption)))
        all_goals (try (have q7 := neg_full (x := sOf B1) (by assumption) (by lia) (by lia) (by assumption)))
        all_goals (have e := same_rev_exit (A := A1) (B := B1) (by assumption) (by assumption) (by assumption) (by assumption) (by first | exact .inl (by lia) | exact .inr (.inl (by lia)) | exact .inr (.inr ⟨by assumption, by lia, by lia⟩)))
        all_goals (subst e)
        all_goals (refine hq (_, _, _) _ _ _ trivial (toB _ (by k_asm) (by kst_all)) (by k_asm))
      · intro t u h tk _ F N
        obtain ⟨t1, t2, t3⟩ := t
        simp only [kstB] at F
        k_with_none
        k_with "exec Assign cons" => refine halt ?_
        k_steps
        unfold Halt
        have hq1 := (preLen_le A1.reverse B1.reverse).1
        have hq2 := (preLen_le A1.reverse B1.reverse).2
        rw [List.length_reverse] at hq1 hq2
        have hne : levS A1 B1 mc = levR (A1.take (A1.length - preLen A1.reverse B1.reverse)) (B1.take (B1.length - preLen A1.reverse B1.reverse)) mc := rfl
        rw [hne] at hret
        clear hne
        have hA2 : (A1.take (A1.length - preLen A1.reverse B1.reverse)).length ≤ 40 := Nat.le_trans (List.length_take_le _ _) (Nat.le_trans (Nat.sub_le _ _) lA)
        have hB2 : (B1.take (B1.length - preLen A1.reverse B1.reverse)).length ≤ 40 := Nat.le_trans (List.length_take_le _ _) (Nat.le_trans (Nat.sub_le _ _) lB)
        refine cutS (σ := Tok) F (fun _ => news) (fun t => [(Str.ofString "a", .str (sOf (A1.take (A1.length - preLen A1.reverse B1.reverse))) t), (Str.ofString "b", .str (sOf B1) t2), (Str.ofString "max_cost", .int mc tm), (Str.ofString "post", .int (-(preLen A1.reverse B1.reverse : Int)) t3)]) (fun _ => True) ?_ ?_
        · intro Q' hq
          k_with_none
          k_with "subscriptTail Name Slice str ref" => ((with_reducible rename Fr _ _ _ _ => F9); (with_reducible rename News _ _ _ _ => N9); (refine slice_strN_nn (hsz := ?hsz9) (s := ⟨_, _, _, _, _⟩) F9 N9 ?_); (case hsz9 => size_fits); intro _ _ _ _ _; (simp only [slice_all]))
          k_steps
          · (rename Fr _ _ _ _ => F9)
            rw [cut_neg (by lia) (by lia)] at F9
            refine hq _ _ _ _ trivial (toB _ F9 (by kst_all)) (by k_asm)
          · (rename Fr _ _ _ _ => F9)
            rw [cut_zero (A := A1) (q := preLen A1.reverse B1.reverse) (by lia)] at F9
            refine hq _ _ _ _ trivial (toB _ F9 (by kst_all)) (by k_asm)
        · intro t u h tk _ F N
          simp only [kstB] at F
          k_with_none
          k_with "exec Assign cons" => refine halt ?_
          k_steps
          unfold Halt
          refine cutS (σ := Tok) F (fun _ => news) (fun t' => [(Str.ofString "a", .str (sOf (A1.take (A1.length - preLen A1.reverse B1.reverse))) t), (Str.ofString "b", .str (sOf (B1.take (B1.length - preLen A1.reverse B1.reverse))) t'), (Str.ofString "max_cost", .int mc tm)]) (fun _ => True) ?_ ?_
          · intro Q' hq
            k_with_none
            k_with "subscriptTail Name Slice str ref" => ((with_reducible rename Fr _ _ _ _ => F9); (with_reducible rename News _ _ _ _ => N9); (refine slice_strN_nn (hsz := ?hsz9) (s := ⟨_, _, _, _, _⟩) F9 N9 ?_); (case hsz9 => size_fits); intro _ _ _ _ _; (simp only [slice_all]))
            k_steps
            · (rename Fr _ _ _ _ => F9)
              rw [cut_neg (by lia) (by lia)] at F9
              refine hq _ _ _ _ trivial (toB _ F9 (by kst_all)) (by k_asm)
            · (rename Fr _ _ _ _ => F9)
              rw [cut_zero (A := B1) (q := preLen A1.reverse B1.reverse) (by lia)] at F9
              refine hq _ _ _ _ trivial (toB _ F9 (by kst_all)) (by k_asm)
          · intro t' u' h' tk' _ F N
            simp only [kstB] at F
            clear hq1 hq2 la lb
            generalize A1.take (A1.length - preLen A1.reverse B1.reverse) = A2 at *
            generalize B1.take (B1.length - preLen A1.reverse B1.reverse) = B2 at *
            have la := len_sOf A2
            have lb := len_sOf B2
            k_with_none
            k_with "exec If Compare" => refine halt ?_
            k_steps
            rotate_left
            · refine cb_retI (s := ⟨sH, sG, sD, sT, sO⟩) hret ?_ (by k_asm) (by k_asm)
              exact levR_nil (by lia)
            · refine cb_retI (s := ⟨sH, sG, sD, sT, sO⟩) hret ?_ (by k_asm) (by k_asm)
              exact levR_nil (by lia)
            · unfold Halt
              have hne : levR A2 B2 mc = levD (if B2.length < A2.length then B2 else A2) (if B2.length < A2.length then A2 else B2) mc := levR_cons (by lia) (by lia)
              rw [hne] at hret
              refine cutS (σ := Tok × Tok) F (fun _ => news) (fun t => [(Str.ofString "a", .str (sOf (if B2.length < A2.length then B2 else A2)) t.1), (Str.ofString "b", .str (sOf (if B2.length < A2.length then A2 else B2)) t.2), (Str.ofString "max_cost", .int mc tm)]) (fun _ => True) ?_ ?_
              · intro Q' hq
                k_with_none
                k_steps
                · (rename Fr _ _ _ _ => F9)
                  have e1 : (if B2.length < A2.length then B2 else A2) = B2 := if_pos (by lia)
                  have e2 : (if B2.length < A2.length then A2 else B2) = A2 := if_pos (by lia)
                  rw [e1, e2] at hq
                  refine hq (_, _) _ _ _ trivial (toB _ F9 (by kst_all)) (by first | k_asm | (refine' cb_drop ?cbN ?cbS; (case cbN => assumption); (case cbS => first | (with_reducible exact fun _ h => List.mem_cons_of_mem _ (by with_reducible first | exact h | exact List.mem_append_left _ h | exact List.mem_append_left _ (List.mem_append_left _ h))) | kcj_all)))
                · (rename Fr _ _ _ _ => F9)
                  have e1 : (if B2.length < A2.length then B2 else A2) = A2 := if_neg (by lia)
                  have e2 : (if B2.length < A2.length then A2 else B2) = B2 := if_neg (by lia)
                  rw [e1, e2] at hq
                  refine hq (_, _) _ _ _ trivial (toB _ F9 (by kst_all)) (by first | k_asm | (refine' cb_drop ?cbN ?cbS; (case cbN => assumption); (case cbS => first | (with_reducible exact fun _ h => List.mem_cons_of_mem _ (by with_reducible first | exact h | exact List.mem_append_left _ h | exact List.mem_append_left _ (List.mem_append_left _ h))) | kcj_all)))
              · intro t u h tk _ F N
                obtain ⟨t1, t2⟩ := t
                simp only [kstB] at F
                have hA3 : (if B2.length < A2.length then B2 else A2).length ≤ 40 := by split <;> lia
                have hB3 : (if B2.length < A2.length then A2 else B2).length ≤ 40 := by split <;> lia
                have hAB : (if B2.length < A2.length then B2 else A2).length ≤ (if B2.length < A2.length then A2 else B2).length := by split <;> lia
                have hA1 : 0 < (if B2.length < A2.length then B2 else A2).length := by split <;> lia
                clear hne la lb hA2 hB2 lA lB hxy
                repeat ((rename ((_ : Nat) : Int) ≠ 0 => qa); clear qa)
                generalize (if B2.length < A2.length then B2 else A2) = A3 at *
                generalize (if B2.length < A2.length then A2 else B2) = B3 at *
                have la := len_sOf A3
                have lb := len_sOf B3
                k_with_none
                k_with "exec For Name Call cons nil" => refine halt ?_
                k_with "call type:list" => ((rename IsRange _ _ _ _ _ _ _ _ => rgX); (with_unfolding_all refine' list_range2 ?k0 ?k1 ?k2 rgX ?k3 ?k4 ?_; (case k0 => rfl); (case k1 => k_asm); (case k2 => k_asm); (case k3 => exact la); (case k4 => lia); k_whole); intro D' vs' c' h' tk' F' N' l1 hI'; (try k_lt l1); (try k_sweep))
                k_steps
                · refine cb_retI (s := ⟨sH, sG, sD, sT, sO⟩) hret ?_ (by k_asm) (by k_asm)
                  exact levD_far (by assumption)
                · unfold Halt
                  have Cs : CbC 51 0 (∀ (cbNews : List (Addr × Obj)) (V0 : Str) (T0 : Tok) (V1 : Str) (T1 : Tok), CbClaim PySem.Challenge.pw_ny0408_02 w (Mine.K w.params) Mine.vw loose mean mg mb 51 cbNews [] (V0.length ≤ 1 ∧ V1.length ≤ 1) [.str V0 T0, .str V1 T1] (fun t => .int (scost V0 V1) t)) := fun n a b c d => subst_c w mean mg mb a c b d n
                  have hr0 : (row0 A3.length).length = (sOf A3).length := by simp [row0, la]
                  have zA : (sOf A3).length ≤ 40 := by rw [la]; exact hA3
                  have zB : (sOf B3).length ≤ 40 := by rw [lb]; exact hB3
                  clear la lb hA3 hB3 hA1 hAB
                  k_with_none
                  k_with "pyIter ref" => (k_of "bindex" => refine halt ?_)
                  k_with "call ref" => k_call_by "_substitution_cost" scost (fun x y => x.length ≤ 1 ∧ y.length ≤ 1)
                  k_steps
                  unfold Halt
                  k_with "state" => exact ⟨oinv_zero _ _ _, hr0⟩
                  k_state (fun pre row result => OInv A3 B3 mc pre.length row result ∧ SameLen row (sOf A3)) "row" "result"
                  · rename_i s1 s2 s3 s4 s5 oi rl kl0
                    have j0 := ix0 kEq
                    have j1 := ix1 kEq kLt
                    clear kLt kl0 hr0 kLen
                    (rename ¬ mc < _ => hfar; clear hfar)
                    change Fr gX LX _ _ at kFr
                    change News gX LX _ _ at kNews
                    dsimp only
                    k_with_none
                    k_with "pyIter ref" => (k_of "index" => refine halt ?_)
                    k_with "subscriptTail Name Name str int" => ((refine item_str (ix_fits (by assumption) (by assumption) (by assumption)) (ix_neg (by assumption)) (by assumption) ?_); intro _)
                    k_steps
                    unfold Halt
                    k_with "state" => exact ⟨iinv_zero _ _ _, by assumption⟩
                    k_state_given ["row!", "bindex"] (fun r0 j pre distance result minimum row => IInv (B3.getD j.toNat 0) A3 pre.length (j * 2, j * 2, 9223372036854775807, r0) distance result minimum row ∧ SameLen row (sOf A3)) "distance" "result" "minimum" "row"
                    · rename_i d1 d2 d3 d4 d5 d6 d7 d8 d9 ii ir il0 il1
                      have i0 := ix0 kEq
                      have i1 := ix1 kEq kLt
                      have i2 : kN < (d7.length : Int) := by rw [kLen.trans ir]; exact i1
                      have i3 : kN < (d8.length : Int) := by rw [ir]; exact i1
                      clear kLt il0 il1 kLen
                      change Fr gX LX _ _ at kFr
                      change News gX LX _ _ at kNews
                      dsimp only
                      k_with_none
                      k_with "call ref" => refine halt ?_
                      k_with "subscriptTail Name Name str int" => ((refine item_str (ix_fits (by assumption) (by assumption) (by assumption)) (ix_neg (by assumption)) (by assumption) ?_); intro _)
                      k_steps
                      unfold Halt
                      k_call_by "_substitution_cost" scost (fun x y => x.length ≤ 1 ∧ y.length ≤ 1)
                      k_with_none
                      k_with "state" => first | exact ⟨iinv_lt (by assumption) (by assumption) (sc_eq (by assumption) (by assumption) (by assumption) (by assumption)) (by assumption), SameLen.set (by assumption) _ _⟩ | exact ⟨iinv_ge (by assumption) (by assumption) (sc_eq (by assumption) (by assumption) (by assumption) (by assumption)) (by assumption), SameLen.set (by assumption) _ _⟩
                      k_steps
                    · k_with_none
                      k_with "state" => exact ⟨oinv_some (by assumption) (by assumption) (by assumption) (by rw [rangeKs_length]) (by first | assumption | lia), by assumption⟩
                      k_steps
                      refine cb_retI (s := ⟨sH, sG, sD, sT, sO⟩) hret (lev_early (by assumption) (by assumption) (by assumption) (by rw [rangeKs_length]) (by first | assumption | lia) (by assumption)) (by k_asm) (by first | k_asm | (refine' cb_drop ?cbN ?cbS; (case cbN => assumption); (case cbS => first | (with_reducible exact fun _ h => List.mem_cons_of_mem _ (by with_reducible first | exact h | exact List.mem_append_left _ h | exact List.mem_append_left _ (List.mem_append_left _ h))) | kcj_all)))
                  · k_with_none
                    k_steps
                    refine cb_retI (s := ⟨sH, sG, sD, sT, sO⟩) hret (lev_done (by assumption) (by rw [rangeKs_length]) (by assumption)) (by k_asm) (by first | k_asm | (refine' cb_drop ?cbN ?cbS; (case cbN => assumption); (case cbS => first | (with_reducible exact fun _ h => List.mem_cons_of_mem _ (by with_reducible first | exact h | exact List.mem_append_left _ h | exact List.mem_append_left _ (List.mem_append_left _ h))) | kcj_all)))
end
section
local macro_rules | `(tactic| walk_at "execs cons") => `(tactic| (k_fold; walk_at "execs cons"))
section
set_option maxRecDepth 100000
set_option maxHeartbeats 8000000
inductive Ls where
  | sp
  | wd
  | qt (d : Nat)
noncomputable def lsS : Ls → Str
  | .sp => Str.ofString " "
  | .wd => Str.ofString "a"
  | .qt d => sOf [d]
noncomputable def isWs (c : Nat) : Bool := c == 32 || c == 9 || c == 13 || c == 10
noncomputable def isQc (c : Nat) : Bool := c == 39 || c == 34
noncomputable def lexR : List Nat → Ls → List Nat → Bool → Option (List Nat × Bool × Option Ls × List Nat)
  | [], .qt _, _, _ => none
  | [], _, tok, q => some (tok, q, none, [])
  | c :: r, .qt d, tok, q => if c = d then lexR r .wd tok true else lexR r (.qt d) (tok ++ [c]) true
  | c :: r, .sp, tok, q => if isWs c then (if tok ≠ [] ∨ q = true then some (tok, q, some .sp, r) else lexR r .sp tok q) else if isQc c then lexR r (.qt c) tok q else lexR r .wd [c] q
  | c :: r, .wd, tok, q => if isWs c then (if tok ≠ [] ∨ q = true then some (tok, q, some .sp, r) else lexR r .sp tok q) else if isQc c then lexR r (.qt c) tok q else lexR r .wd (tok ++ [c]) q
noncomputable def stV : Option Ls → Tok → Value
  | none, _ => .none
  | some st, t => .str (lsS st) t
noncomputable def okC (c : Nat) : Prop := c ≠ 10 ∧ c ≠ 92
noncomputable def okS : Ls → Prop
  | .qt d => d = 39 ∨ d = 34
  | _ => True
structure Rs where
  stv : Value
  tkv : Value
  k : Nat
  tk : Tok
  q : Bool
noncomputable abbrev ldg (w : World) (x : Str) (tx : Tok) (s1 s2 s3 : Tok) (y dy lx dl pb fs : Addr) (t0 t1 t2 t3 t4 t5 t6 t7 t8 t9 t10 t11 t12 t13 t14 t15 t16 t17 t18 t19 t20 t21 t22 t23 t24 t25 t26 t27 : Tok) (rest : List (Addr × Obj)) (c : Rs) : List (Addr × Obj) :=
  (lx, instObj 746 dl) :: (dl, lexD w.params y pb fs c.stv c.tkv t0 t1 t2 t3 t4 t5 t6 t7 t8 t9 t10 t11 t12 t13 t14 t15 t16 t17 t18 t19 t20 t21 t22 t23 t24 t25 t26 t27) :: (y, instObj 611 dy) :: (dy, sioD w.params x tx c.k c.tk s1 s2 s3) :: rest
noncomputable def rtP (x : Str) (R : List Nat × Bool × Option Ls × List Nat) (c : Rs) : Prop := ∃ t t', c.tkv = .str (sOf R.1) t ∧ c.q = R.2.1 ∧ c.stv = stV R.2.2.1 t' ∧ R.2.2.2 = (cl x).drop c.k ∧ c.k ≤ x.length
noncomputable def rtV (R : List Nat × Bool × Option Ls × List Nat) (t : Tok) : Value := if R.1 = [] ∧ R.2.1 = false then .none else .str (sOf R.1) t
theorem one_ne {c d : Nat} (h : c ≠ d) : (sOf [c] == sOf [d]) = false := by
  rw [beq_eq_false_iff_ne]
  intro e
  have := sOf_inj e
  simp at this
  exact h this
theorem occ_ws (c : Nat) : (Builtin.Str.occurrences (Str.ofString " \t\x0d\n") (sOf [c]) 0 (Str.ofString " \t\x0d\n").length 1).isEmpty = !isWs c := by
  refine (empty_one _ c).trans ?_
  congr 1
  show decide (c ∈ [32, 9, 13, 10]) = _
  simp only [isWs, List.mem_cons, List.not_mem_nil, or_false, Bool.decide_or, Bool.or_assoc]
  rfl
theorem occ_qc (c : Nat) : (Builtin.Str.occurrences (Str.ofString "'\"") (sOf [c]) 0 (Str.ofString "'\"").length 1).isEmpty = !isQc c := by
  refine (empty_one _ c).trans ?_
  congr 1
  show decide (c ∈ [39, 34]) = _
  simp only [isQc, List.mem_cons, List.not_mem_nil, or_false, Bool.decide_or]
  rfl
theorem occ_cm (c : Nat) : (Builtin.Str.occurrences (Str.ofString "") (sOf [c]) 0 (Str.ofString "").length 1).isEmpty = true := by
  refine (empty_one _ c).trans ?_
  show (!decide (c ∈ ([] : List Nat))) = _
  simp
theorem occ_es (c : Nat) (h : c ≠ 92) : (Builtin.Str.occurrences (Str.ofString "\\") (sOf [c]) 0 (Str.ofString "\\").length 1).isEmpty = true := by
  refine (empty_one _ c).trans ?_
  show (!decide (c ∈ [92])) = _
  simp [h]
theorem occ_wl {c : Nat} (h : c = 39 ∨ c = 34) : (Builtin.Str.occurrences (Str.ofString "abcdfeghijklmnopqrstuvwxyzABCDEFGHIJKLMNOPQRSTUVWXYZ0123456789_ßàáâãäåæçèéêëìíîïðñòóôõöøùúûüýþÿÀÁÂÃÄÅÆÇÈÉÊËÌÍÎÏÐÑÒÓÔÕÖØÙÚÛÜÝÞ") (sOf [c]) 0 (Str.ofString "abcdfeghijklmnopqrstuvwxyzABCDEFGHIJKLMNOPQRSTUVWXYZ0123456789_ßàáâãäåæçèéêëìíîïðñòóôõöøùúûüýþÿÀÁÂÃÄÅÆÇÈÉÊËÌÍÎÏÐÑÒÓÔÕÖØÙÚÛÜÝÞ").length 1).isEmpty = true := by
  refine (empty_one _ c).trans ?_
  rcases h with rfl | rfl <;> decide +kernel
theorem drop1 {h₀ h : Heap} {L : Addr} {a : Addr × Obj} {r : List (Addr × Obj)} (N : News h₀ L h (a :: r)) : News h₀ L h r := fun p hp => N p (List.mem_cons_of_mem _ hp)
theorem sOf_app (a b : List Nat) : sOf a ++ sOf b = sOf (a ++ b) := by
  simp only [sOf, ← List.append_toArray]
  rfl
theorem swap22 {h₀ h : Heap} {L : Addr} {a b c d : Addr × Obj} {r : List (Addr × Obj)} (N : News h₀ L h (a :: b :: c :: d :: r)) : News h₀ L h (c :: d :: a :: b :: r) :=
  cb_drop N (by
    intro p hp
    simp only [List.mem_cons] at hp ⊢
    rcases hp with h | h | h | h | h <;> simp [h])
theorem wsF {e b : Bool} (o : e = !b) (h : e = true) : b = false := by cases b <;> simp_all
theorem wsT {e b : Bool} (o : e = !b) (h : e = false) : b = true := by cases b <;> simp_all
theorem rt_c (w : World) (mean : ExcName → Option Value) (mg mb : Str → Option Value) (x : Str) (tx : Tok) (k : Nat) (tk s1 s2 s3 : Tok) (y dy lx dl pb fs : Addr) (u1 u2 : Tok) (t0 t1 t2 t3 t4 t5 t6 t7 t8 t9 t10 t11 t12 t13 t14 t15 t16 t17 t18 t19 t20 t21 t22 t23 t24 t25 t26 t27 : Tok) (rest : List (Addr × Obj)) (R : List Nat × Bool × Option Ls × List Nat) (dp un : Nat) (gd : Option (List Code)) (cn : Str) (cs : Scope) (a : Addr) (ccd : Value) (cel : List (Str × Addr)) (outer : List Env) (A₀ : Around) (base h₀ : Heap) (L : Addr) (m : Str → Option Value) (s : Shared) (Q E : Value → Shared → Prop)
    (hB : Below A₀ base outer h₀) (hF : Fr h₀ L s.heap m) : (Mine.K w.params).In h₀ → News h₀ L s.heap (ldg w x tx s1 s2 s3 y dy lx dl pb fs t0 t1 t2 t3 t4 t5 t6 t7 t8 t9 t10 t11 t12 t13 t14 t15 t16 t17 t18 t19 t20 t21 t22 t23 t24 t25 t26 t27 rest ⟨.str (Str.ofString " ") u1, .str (Str.ofString "") u2, k, tk, false⟩) → Top Mine.vw loose mean mg mb h₀ → cs.kind = .function → dp + 20 < recursionLimit → un + 200 < cLine →
    k ≤ x.length → x.length ≤ 1000 → (∀ c ∈ cl x, okC c) → lexR ((cl x).drop k) .sp [] false = some R → @Ne Nat lx dl → @Ne Nat y dl → @Ne Nat dy dl → @Ne Nat y dy → @Ne Nat lx dy → (∀ p ∈ rest, p.1 ≠ dl) → (∀ p ∈ rest, p.1 ≠ dy) →
    (∀ t t' t'' kk tk h' tk', kk ≤ x.length → R.2.2.2 = (cl x).drop kk → Fr h₀ L h' m → News h₀ L h' (ldg w x tx s1 s2 s3 y dy lx dl pb fs t0 t1 t2 t3 t4 t5 t6 t7 t8 t9 t10 t11 t12 t13 t14 t15 t16 t17 t18 t19 t20 t21 t22 t23 t24 t25 t26 t27 rest ⟨stV R.2.2.1 t', .str (Str.ofString "") t'', kk, tk, false⟩) → Q (rtV R t) { s with heap := h', toks := tk' }) →
    wpAny (model PySem.Challenge.pw_ny0408_02 w) (ktrTop dp un gd cn cs L a ccd cel outer) (call (.ref 714) [.ref lx]) Q E s := by
  refine fill ?_
  k_fill
  intro _ hX hN hT hK hdp hun hk hx hc hR d1 d2 d3 d4 d5 hr1 hr2 hret
  refine wpAny_call ?_
  k_dflt cell_enter
  k_with_none
  k_with "exec While Constant cons nil" => refine halt ?_
  k_steps
  unfold Halt
  rename Fr _ _ _ _ => F'
  rename News _ _ _ _ => N'
  refine cutS (σ := Rs) F' (ldg w x tx s1 s2 s3 y dy lx dl pb fs t0 t1 t2 t3 t4 t5 t6 t7 t8 t9 t10 t11 t12 t13 t14 t15 t16 t17 t18 t19 t20 t21 t22 t23 t24 t25 t26 t27 rest) (fun c => [(Str.ofString "self", .ref lx), (Str.ofString "quoted", .bool c.q)]) (rtP x R) ?_ ?_
  · intro Q' hQ'
    refine While_inv2 (fun n mm nw => ∃ st tok q kk tk' u1' u2' te, n = x.length - kk ∧ nw = ldg w x tx s1 s2 s3 y dy lx dl pb fs t0 t1 t2 t3 t4 t5 t6 t7 t8 t9 t10 t11 t12 t13 t14 t15 t16 t17 t18 t19 t20 t21 t22 t23 t24 t25 t26 t27 rest ⟨.str (lsS st) u1', .str (sOf tok) u2', kk, tk', q⟩ ∧
      (∀ p ∈ [(Str.ofString "self", Value.ref lx), (Str.ofString "quoted", .bool q), (Str.ofString "escapedstate", .str (Str.ofString " ") te)], mm p.1 = some p.2) ∧ kk ≤ x.length ∧ tok.length ≤ kk ∧ okS st ∧ lexR ((cl x).drop kk) st tok q = some R) (n₀ := x.length - k) F' N' ?_ ?_
    · refine' ⟨.sp, [], false, k, _, u1, u2, ?te, rfl, rfl, ?hm, hk, Nat.zero_le _, trivial, hR⟩
      case' hm =>
        intro p hp
        simp only [List.mem_cons, List.not_mem_nil, or_false] at hp
        rcases hp with rfl | rfl | rfl <;> rfl
    · rintro n m₁ nw h₁ tk₁ F₁ N₁ ⟨st, tok, q, kk, tk', u1', u2', te, rfl, rfl, hm, hkk, htl, hst, hR'⟩
      have F₂ := toB _ F₁ hm
      simp only [kstB] at F₂
      clear F₁ F' N'
      k_with_none
      k_with "call ref" => refine halt ?_
      k_steps
      unfold Halt
      rename Fr _ _ _ _ => F₃
      rename News _ _ _ _ => N₃
      refine read_c w mean mg mb x tx kk _ _ _ _ _ y dy _ _ _ _ _ _ _ _ _ _ _ _ _ _ _ _ _ _ (by k_asm) F₃ (by k_asm) (swap22 N₃) (by k_asm) rfl ?_ ?_ hkk hx d4 ?_ ?_
      · simp only [depth_mark, depth_under_make, depth_under_kw, depth_in1, depth_deeper, depth_caller]; lia
      · simp only [units_deeper]; lia
      · intro p hp
        rcases List.mem_cons.mp hp with rfl | hp
        · exact d5
        · rcases List.mem_cons.mp hp with rfl | hp
          · exact Ne.symm d3
          · exact hr2 p hp
      · intro t tk h₄ tk₄ F₄ N₄
        have N₅ := swap22 N₄
        clear N₄ N₃ F₃ N₁
        try dsimp only
        have hlen : (cl x).length = x.length := len_cl x
        have hch : chAt x kk = sOf (((cl x).drop kk).take 1) := rfl
        rw [hch]
        clear hch
        have hto : (sOf tok).length ≤ 1000 := by
          rw [len_sOf]; lia
        generalize hd : (cl x).drop kk = D at hR' ⊢
        generalize htk : sOf tok = tks at *
        cases D with
        | nil =>
          have hke : kk = x.length := by
            have := congrArg List.length hd
            rw [List.length_drop, List.length_nil, hlen] at this
            lia
          have hnx : nx x kk = kk := if_neg (by lia)
          rw [hnx] at N₅
          show wpAny _ _ (storeName _ _ (Value.str (Str.ofString "") t)) _ _ _
          cases st with
          | sp =>
            k_with_none
            k_steps
            all_goals (first | (exfalso; lia) | skip)
            all_goals (rename Fr _ _ _ _ => Fn; rename News _ _ _ _ => Nn; subst htk)
            all_goals (
              have hRe := Option.some.inj hR'
              subst hRe
              first | exact hQ' ⟨_, _, kk, _, q⟩ _ _ _ ⟨_, 0, rfl, rfl, rfl, hd.symm, hkk⟩ (toB _ Fn (by intro p hp; simp only [List.mem_cons, List.not_mem_nil, or_false] at hp; rcases hp with rfl | rfl <;> rfl)) Nn | exact hQ' ⟨_, _, kk, _, q⟩ _ _ _ ⟨_, 0, rfl, rfl, rfl, hd.symm, hkk⟩ (toB _ Fn (by intro p hp; simp only [List.mem_cons, List.not_mem_nil, or_false] at hp; rcases hp with rfl | rfl <;> rfl)) (drop1 Nn))
          | wd =>
            simp only [lsS] at N₅
            k_with_none
            k_steps
            all_goals (first | (exfalso; lia) | skip)
            all_goals (rename Fr _ _ _ _ => Fn; rename News _ _ _ _ => Nn; subst htk)
            all_goals (
              have hRe := Option.some.inj hR'
              subst hRe
              first | exact hQ' ⟨_, _, kk, _, q⟩ _ _ _ ⟨_, 0, rfl, rfl, rfl, hd.symm, hkk⟩ (toB _ Fn (by intro p hp; simp only [List.mem_cons, List.not_mem_nil, or_false] at hp; rcases hp with rfl | rfl <;> rfl)) Nn | exact hQ' ⟨_, _, kk, _, q⟩ _ _ _ ⟨_, 0, rfl, rfl, rfl, hd.symm, hkk⟩ (toB _ Fn (by intro p hp; simp only [List.mem_cons, List.not_mem_nil, or_false] at hp; rcases hp with rfl | rfl <;> rfl)) (drop1 Nn))
          | qt d => cases hR'
        | cons c r =>
          have hklt : kk < x.length := by
            have := congrArg List.length hd
            rw [List.length_drop, List.length_cons, hlen] at this
            lia
          have hnx : nx x kk = kk + 1 := if_pos hklt
          rw [hnx] at N₅
          have hr : (cl x).drop (kk + 1) = r := by
            rw [← List.drop_drop, hd]; rfl
          have hcx : okC c := hc c (List.mem_of_mem_drop (hd ▸ List.mem_cons_self))
          obtain ⟨hc10, hc92⟩ := hcx
          show wpAny _ _ (storeName _ _ (Value.str (sOf [c]) t)) _ _ _
          have n10 : (sOf [c] == Str.ofString "\n") = false := one_ne hc10
          have nl : (sOf [c]).length = 1 := rfl
          have oW := occ_ws c
          have oQ := occ_qc c
          have oC := occ_cm c
          have oE := occ_es c hc92
          cases st with
          | sp =>
            generalize hch : sOf [c] = ch at *
            k_with_none
            k_steps
            all_goals (first | (exfalso; lia) | skip)
            · have hw : isWs c = false := wsF oW (by assumption)
              have hq : isQc c = false := wsF oQ (by assumption)
              (rename Fr _ _ _ _ => Fn; rename News _ _ _ _ => Nn; subst hch; subst htk)
              all_goals (first | (refine ⟨_, _, _, _, x.length - (kk + 1), rfl, Fn, Nn, by lia, .wd, [c], q, kk + 1, _, _, _, te, rfl, rfl, ?_, by lia, by (try simp only [List.length_append, List.length_cons, List.length_nil]); lia, trivial, ?_⟩) | (refine ⟨_, _, _, _, x.length - (kk + 1), rfl, Fn, (drop1 Nn), by lia, .wd, [c], q, kk + 1, _, _, _, te, rfl, rfl, ?_, by lia, by (try simp only [List.length_append, List.length_cons, List.length_nil]); lia, trivial, ?_⟩))
              all_goals (first | (rw [hr]; simpa [lexR, hw, hq] using hR') | (intro p hp; simp only [List.mem_cons, List.not_mem_nil, or_false] at hp; rcases hp with rfl | rfl | rfl <;> rfl))
            · have hw : isWs c = false := wsF oW (by assumption)
              have hq : isQc c = true := wsT oQ (by assumption)
              have hqd : c = 39 ∨ c = 34 := by simpa [isQc] using hq
              (rename Fr _ _ _ _ => Fn; rename News _ _ _ _ => Nn; subst hch; subst htk)
              all_goals (first | (refine ⟨_, _, _, _, x.length - (kk + 1), rfl, Fn, Nn, by lia, (.qt c), tok, q, kk + 1, _, _, _, te, rfl, rfl, ?_, by lia, by (try simp only [List.length_append, List.length_cons, List.length_nil]); lia, hqd, ?_⟩) | (refine ⟨_, _, _, _, x.length - (kk + 1), rfl, Fn, (drop1 Nn), by lia, (.qt c), tok, q, kk + 1, _, _, _, te, rfl, rfl, ?_, by lia, by (try simp only [List.length_append, List.length_cons, List.length_nil]); lia, hqd, ?_⟩))
              all_goals (first | (rw [hr]; simpa [lexR, hw, hq] using hR') | (intro p hp; simp only [List.mem_cons, List.not_mem_nil, or_false] at hp; rcases hp with rfl | rfl | rfl <;> rfl))
            · have hw : isWs c = false := wsF oW (by assumption)
              have hq : isQc c = false := by
                cases hq : isQc c
                · rfl
                · have hqd : c = 39 ∨ c = 34 := by simpa [isQc] using hq
                  have oL := occ_wl hqd
                  rw [hch] at oL
                  exact absurd (oL.symm.trans (show _ = false by assumption)) (by decide)
              (rename Fr _ _ _ _ => Fn; rename News _ _ _ _ => Nn; subst hch; subst htk)
              all_goals (first | (refine ⟨_, _, _, _, x.length - (kk + 1), rfl, Fn, Nn, by lia, .wd, [c], q, kk + 1, _, _, _, te, rfl, rfl, ?_, by lia, by (try simp only [List.length_append, List.length_cons, List.length_nil]); lia, trivial, ?_⟩) | (refine ⟨_, _, _, _, x.length - (kk + 1), rfl, Fn, (drop1 Nn), by lia, .wd, [c], q, kk + 1, _, _, _, te, rfl, rfl, ?_, by lia, by (try simp only [List.length_append, List.length_cons, List.length_nil]); lia, trivial, ?_⟩))
              all_goals (first | (rw [hr]; simpa [lexR, hw, hq] using hR') | (intro p hp; simp only [List.mem_cons, List.not_mem_nil, or_false] at hp; rcases hp with rfl | rfl | rfl <;> rfl))
            · have hw : isWs c = true := wsT oW (by assumption)
              (rename Fr _ _ _ _ => Fn; rename News _ _ _ _ => Nn; subst hch; subst htk)
              have hne : tok ≠ [] ∨ q = true := by
                refine Or.inl fun h => ?_
                have h9 : (sOf tok).length = 0 := by rw [h]; rfl
                lia
              simp only [lexR, hw, if_true, if_pos hne] at hR'
              have hRe := Option.some.inj hR'
              subst hRe
              first | exact hQ' ⟨_, _, kk + 1, _, q⟩ _ _ _ ⟨_, _, rfl, rfl, rfl, hr.symm, hklt⟩ (toB _ Fn (by intro p hp; simp only [List.mem_cons, List.not_mem_nil, or_false] at hp; rcases hp with rfl | rfl <;> rfl)) Nn | exact hQ' ⟨_, _, kk + 1, _, q⟩ _ _ _ ⟨_, _, rfl, rfl, rfl, hr.symm, hklt⟩ (toB _ Fn (by intro p hp; simp only [List.mem_cons, List.not_mem_nil, or_false] at hp; rcases hp with rfl | rfl <;> rfl)) (drop1 Nn)
            · have hw : isWs c = true := wsT oW (by assumption)
              (rename Fr _ _ _ _ => Fn; rename News _ _ _ _ => Nn; subst hch; subst htk)
              have hne : tok ≠ [] ∨ q = true := Or.inr (by assumption)
              simp only [lexR, hw, if_true, if_pos hne] at hR'
              have hRe := Option.some.inj hR'
              subst hRe
              first | exact hQ' ⟨_, _, kk + 1, _, q⟩ _ _ _ ⟨_, _, rfl, rfl, rfl, hr.symm, hklt⟩ (toB _ Fn (by intro p hp; simp only [List.mem_cons, List.not_mem_nil, or_false] at hp; rcases hp with rfl | rfl <;> rfl)) Nn | exact hQ' ⟨_, _, kk + 1, _, q⟩ _ _ _ ⟨_, _, rfl, rfl, rfl, hr.symm, hklt⟩ (toB _ Fn (by intro p hp; simp only [List.mem_cons, List.not_mem_nil, or_false] at hp; rcases hp with rfl | rfl <;> rfl)) (drop1 Nn)
            · have hw : isWs c = true := wsT oW (by assumption)
              (rename Fr _ _ _ _ => Fn; rename News _ _ _ _ => Nn; subst hch; subst htk)
              have hno : ¬ (tok ≠ [] ∨ q = true) := by
                rintro (h | h)
                · apply h
                  apply List.eq_nil_of_length_eq_zero
                  rw [← len_sOf tok]
                  lia
                · simp_all
              simp only [lexR, hw, if_true, if_neg hno] at hR'
              first | (refine ⟨_, _, _, _, x.length - (kk + 1), rfl, Fn, Nn, by lia, .sp, tok, q, kk + 1, _, _, _, te, rfl, rfl, ?_, by lia, by lia, trivial, ?_⟩) | (refine ⟨_, _, _, _, x.length - (kk + 1), rfl, Fn, (drop1 Nn), by lia, .sp, tok, q, kk + 1, _, _, _, te, rfl, rfl, ?_, by lia, by lia, trivial, ?_⟩)
              all_goals (first | (rw [hr]; exact hR') | (intro p hp; simp only [List.mem_cons, List.not_mem_nil, or_false] at hp; rcases hp with rfl | rfl | rfl <;> rfl))
          | wd =>
            generalize hch : sOf [c] = ch at *
            simp only [lsS] at N₅
            k_with_none
            k_steps
            all_goals (first | (exfalso; lia) | skip)
            · have hw : isWs c = false := wsF oW (by assumption)
              have hq : isQc c = false := wsF oQ (by assumption)
              (rename Fr _ _ _ _ => Fn; rename News _ _ _ _ => Nn; subst hch; subst htk)
              rw [sOf_app] at Nn
              all_goals (first | (refine ⟨_, _, _, _, x.length - (kk + 1), rfl, Fn, Nn, by lia, .wd, (tok ++ [c]), q, kk + 1, _, _, _, te, rfl, rfl, ?_, by lia, by (try simp only [List.length_append, List.length_cons, List.length_nil]); lia, trivial, ?_⟩) | (refine ⟨_, _, _, _, x.length - (kk + 1), rfl, Fn, (drop1 Nn), by lia, .wd, (tok ++ [c]), q, kk + 1, _, _, _, te, rfl, rfl, ?_, by lia, by (try simp only [List.length_append, List.length_cons, List.length_nil]); lia, trivial, ?_⟩))
              all_goals (first | (rw [hr]; simpa [lexR, hw, hq] using hR') | (intro p hp; simp only [List.mem_cons, List.not_mem_nil, or_false] at hp; rcases hp with rfl | rfl | rfl <;> rfl))
            · have hw : isWs c = false := wsF oW (by assumption)
              have hq : isQc c = false := wsF oQ (by assumption)
              (rename Fr _ _ _ _ => Fn; rename News _ _ _ _ => Nn; subst hch; subst htk)
              rw [sOf_app] at Nn
              all_goals (first | (refine ⟨_, _, _, _, x.length - (kk + 1), rfl, Fn, Nn, by lia, .wd, (tok ++ [c]), q, kk + 1, _, _, _, te, rfl, rfl, ?_, by lia, by (try simp only [List.length_append, List.length_cons, List.length_nil]); lia, trivial, ?_⟩) | (refine ⟨_, _, _, _, x.length - (kk + 1), rfl, Fn, (drop1 Nn), by lia, .wd, (tok ++ [c]), q, kk + 1, _, _, _, te, rfl, rfl, ?_, by lia, by (try simp only [List.length_append, List.length_cons, List.length_nil]); lia, trivial, ?_⟩))
              all_goals (first | (rw [hr]; simpa [lexR, hw, hq] using hR') | (intro p hp; simp only [List.mem_cons, List.not_mem_nil, or_false] at hp; rcases hp with rfl | rfl | rfl <;> rfl))
            · have hw : isWs c = false := wsF oW (by assumption)
              have hq : isQc c = true := wsT oQ (by assumption)
              have hqd : c = 39 ∨ c = 34 := by simpa [isQc] using hq
              (rename Fr _ _ _ _ => Fn; rename News _ _ _ _ => Nn; subst hch; subst htk)
              all_goals (first | (refine ⟨_, _, _, _, x.length - (kk + 1), rfl, Fn, Nn, by lia, (.qt c), tok, q, kk + 1, _, _, _, te, rfl, rfl, ?_, by lia, by (try simp only [List.length_append, List.length_cons, List.length_nil]); lia, hqd, ?_⟩) | (refine ⟨_, _, _, _, x.length - (kk + 1), rfl, Fn, (drop1 Nn), by lia, (.qt c), tok, q, kk + 1, _, _, _, te, rfl, rfl, ?_, by lia, by (try simp only [List.length_append, List.length_cons, List.length_nil]); lia, hqd, ?_⟩))
              all_goals (first | (rw [hr]; simpa [lexR, hw, hq] using hR') | (intro p hp; simp only [List.mem_cons, List.not_mem_nil, or_false] at hp; rcases hp with rfl | rfl | rfl <;> rfl))
            · have hw : isWs c = true := wsT oW (by assumption)
              (rename Fr _ _ _ _ => Fn; rename News _ _ _ _ => Nn; subst hch; subst htk)
              have hne : tok ≠ [] ∨ q = true := by
                refine Or.inl fun h => ?_
                have h9 : (sOf tok).length = 0 := by rw [h]; rfl
                lia
              simp only [lexR, hw, if_true, if_pos hne] at hR'
              have hRe := Option.some.inj hR'
              subst hRe
              first | exact hQ' ⟨_, _, kk + 1, _, q⟩ _ _ _ ⟨_, _, rfl, rfl, rfl, hr.symm, hklt⟩ (toB _ Fn (by intro p hp; simp only [List.mem_cons, List.not_mem_nil, or_false] at hp; rcases hp with rfl | rfl <;> rfl)) Nn | exact hQ' ⟨_, _, kk + 1, _, q⟩ _ _ _ ⟨_, _, rfl, rfl, rfl, hr.symm, hklt⟩ (toB _ Fn (by intro p hp; simp only [List.mem_cons, List.not_mem_nil, or_false] at hp; rcases hp with rfl | rfl <;> rfl)) (drop1 Nn)
            · have hw : isWs c = true := wsT oW (by assumption)
              (rename Fr _ _ _ _ => Fn; rename News _ _ _ _ => Nn; subst hch; subst htk)
              have hne : tok ≠ [] ∨ q = true := Or.inr (by assumption)
              simp only [lexR, hw, if_true, if_pos hne] at hR'
              have hRe := Option.some.inj hR'
              subst hRe
              first | exact hQ' ⟨_, _, kk + 1, _, q⟩ _ _ _ ⟨_, _, rfl, rfl, rfl, hr.symm, hklt⟩ (toB _ Fn (by intro p hp; simp only [List.mem_cons, List.not_mem_nil, or_false] at hp; rcases hp with rfl | rfl <;> rfl)) Nn | exact hQ' ⟨_, _, kk + 1, _, q⟩ _ _ _ ⟨_, _, rfl, rfl, rfl, hr.symm, hklt⟩ (toB _ Fn (by intro p hp; simp only [List.mem_cons, List.not_mem_nil, or_false] at hp; rcases hp with rfl | rfl <;> rfl)) (drop1 Nn)
            · have hw : isWs c = true := wsT oW (by assumption)
              (rename Fr _ _ _ _ => Fn; rename News _ _ _ _ => Nn; subst hch; subst htk)
              have hno : ¬ (tok ≠ [] ∨ q = true) := by
                rintro (h | h)
                · apply h
                  apply List.eq_nil_of_length_eq_zero
                  rw [← len_sOf tok]
                  lia
                · simp_all
              simp only [lexR, hw, if_true, if_neg hno] at hR'
              first | (refine ⟨_, _, _, _, x.length - (kk + 1), rfl, Fn, Nn, by lia, .sp, tok, q, kk + 1, _, _, _, te, rfl, rfl, ?_, by lia, by lia, trivial, ?_⟩) | (refine ⟨_, _, _, _, x.length - (kk + 1), rfl, Fn, (drop1 Nn), by lia, .sp, tok, q, kk + 1, _, _, _, te, rfl, rfl, ?_, by lia, by lia, trivial, ?_⟩)
              all_goals (first | (rw [hr]; exact hR') | (intro p hp; simp only [List.mem_cons, List.not_mem_nil, or_false] at hp; rcases hp with rfl | rfl | rfl <;> rfl))
          | qt d =>
            have dQ := occ_qc d
            have hdq : isQc d = true := by rcases hst with rfl | rfl <;> rfl
            rw [hdq] at dQ
            have d1n : (sOf [d] == Str.ofString " ") = false := one_ne (by rcases hst with rfl | rfl <;> decide)
            have ncd : (sOf [c] == sOf [d]) = decide (c = d) := by
              by_cases h : c = d
              · subst h; simp
              · rw [decide_eq_false h]; exact one_ne h
            simp only [lsS] at N₅
            generalize hch : sOf [c] = ch at *
            generalize hdh : sOf [d] = dh at *
            k_with_none
            k_steps
            all_goals (first | (exfalso; lia) | skip)
            · have hcd : c = d := of_decide_eq_true (ncd.symm.trans (by assumption))
              (rename Fr _ _ _ _ => Fn; rename News _ _ _ _ => Nn; subst hch; subst hdh; subst htk)
              all_goals (first | (refine ⟨_, _, _, _, x.length - (kk + 1), rfl, Fn, Nn, by lia, .wd, tok, true, kk + 1, _, _, _, te, rfl, rfl, ?_, by lia, by (try simp only [List.length_append, List.length_cons, List.length_nil]); lia, trivial, ?_⟩) | (refine ⟨_, _, _, _, x.length - (kk + 1), rfl, Fn, (drop1 Nn), by lia, .wd, tok, true, kk + 1, _, _, _, te, rfl, rfl, ?_, by lia, by (try simp only [List.length_append, List.length_cons, List.length_nil]); lia, trivial, ?_⟩))
              all_goals (first | (rw [hr]; simpa [lexR, hcd] using hR') | (intro p hp; simp only [List.mem_cons, List.not_mem_nil, or_false] at hp; rcases hp with rfl | rfl | rfl <;> rfl))
            · have hcd : c ≠ d := of_decide_eq_false (ncd.symm.trans (by assumption))
              (rename Fr _ _ _ _ => Fn; rename News _ _ _ _ => Nn; subst hch; subst hdh; subst htk)
              rw [sOf_app] at Nn
              all_goals (first | (refine ⟨_, _, _, _, x.length - (kk + 1), rfl, Fn, Nn, by lia, (.qt d), (tok ++ [c]), true, kk + 1, _, _, _, te, rfl, rfl, ?_, by lia, by (try simp only [List.length_append, List.length_cons, List.length_nil]); lia, hst, ?_⟩) | (refine ⟨_, _, _, _, x.length - (kk + 1), rfl, Fn, (drop1 Nn), by lia, (.qt d), (tok ++ [c]), true, kk + 1, _, _, _, te, rfl, rfl, ?_, by lia, by (try simp only [List.length_append, List.length_cons, List.length_nil]); lia, hst, ?_⟩))
              all_goals (first | (rw [hr]; simpa [lexR, hcd] using hR') | (intro p hp; simp only [List.mem_cons, List.not_mem_nil, or_false] at hp; rcases hp with rfl | rfl | rfl <;> rfl))
  · rintro ⟨stv, tkv, kk, tk', q⟩ u h₉ tk₉ ⟨v1, v2, e1, e2, e3, e4, e5⟩ F₉ N₉
    dsimp only at e1 e2 e3 e4 e5 F₉ N₉
    obtain ⟨rt, rq, rs, rr⟩ := R
    dsimp only at e1 e2 e3 e4
    subst e1 e2 e3
    simp only [kstB] at F₉
    have hrl : (sOf rt).length = rt.length := len_sOf rt
    clear F' N'
    generalize hrt : sOf rt = rts at *
    generalize hst : stV rs v2 = stv at *
    k_with_none
    k_steps
    all_goals (rename Fr _ _ _ _ => Fn; rename News _ _ _ _ => Nn; subst hrt; subst hst)
    · have e : rtV (rt, q, rs, rr) v1 = .str (sOf rt) v1 := if_neg (by
        rintro ⟨h1, h2⟩
        have h3 : q = true := by assumption
        have h4 : q = false := h2
        rw [h3] at h4
        cases h4)
      rw [← e]
      exact hret v1 v2 _ kk tk' _ _ e5 e4 Fn Nn
    · have e : rtV (rt, q, rs, rr) 0 = .none := if_pos ⟨by
        have h1 : (sOf rt == Str.ofString "") = true := by assumption
        exact sOf_inj (eq_of_beq h1), by
        show q = false
        assumption⟩
      rw [← e]
      exact hret 0 v2 _ kk tk' _ _ e5 e4 Fn Nn
    · have e : rtV (rt, q, rs, rr) v1 = .str (sOf rt) v1 := if_neg (by
        rintro ⟨h1, h2⟩
        have h3 : (sOf rt == Str.ofString "") = false := by assumption
        have h4 : rt = [] := h1
        rw [h4] at h3
        cases h3)
      rw [← e]
      exact hret v1 v2 _ kk tk' _ _ e5 e4 Fn Nn
end
end
end
section
set_option maxRecDepth 100000
set_option maxHeartbeats 8000000
theorem rn_c (w : World) (mean : ExcName → Option Value) (mg mb : Str → Option Value) (x : Str) (tx : Tok) (tk s1 s2 s3 : Tok) (y dy lx dl pb fs : Addr) (u2 : Tok) (t0 t1 t2 t3 t4 t5 t6 t7 t8 t9 t10 t11 t12 t13 t14 t15 t16 t17 t18 t19 t20 t21 t22 t23 t24 t25 t26 t27 : Tok) (rest : List (Addr × Obj)) (dp un : Nat) (gd : Option (List Code)) (cn : Str) (cs : Scope) (a : Addr) (ccd : Value) (cel : List (Str × Addr)) (outer : List Env) (A₀ : Around) (base h₀ : Heap) (L : Addr) (m : Str → Option Value) (s : Shared) (Q E : Value → Shared → Prop)
    (hB : Below A₀ base outer h₀) (hF : Fr h₀ L s.heap m) : (Mine.K w.params).In h₀ → News h₀ L s.heap (ldg w x tx s1 s2 s3 y dy lx dl pb fs t0 t1 t2 t3 t4 t5 t6 t7 t8 t9 t10 t11 t12 t13 t14 t15 t16 t17 t18 t19 t20 t21 t22 t23 t24 t25 t26 t27 rest ⟨.none, .str (Str.ofString "") u2, x.length, tk, false⟩) → Top Mine.vw loose mean mg mb h₀ → cs.kind = .function → dp + 20 < recursionLimit → un + 200 < cLine →
    x.length ≤ 1000 → @Ne Nat lx dl → @Ne Nat y dl → @Ne Nat dy dl → @Ne Nat y dy → @Ne Nat lx dy → (∀ p ∈ rest, p.1 ≠ dl) → (∀ p ∈ rest, p.1 ≠ dy) →
    (∀ t'' tk h' tk', Fr h₀ L h' m → News h₀ L h' (ldg w x tx s1 s2 s3 y dy lx dl pb fs t0 t1 t2 t3 t4 t5 t6 t7 t8 t9 t10 t11 t12 t13 t14 t15 t16 t17 t18 t19 t20 t21 t22 t23 t24 t25 t26 t27 rest ⟨.none, .str (Str.ofString "") t'', x.length, tk, false⟩) → Q .none { s with heap := h', toks := tk' }) →
    wpAny (model PySem.Challenge.pw_ny0408_02 w) (ktrTop dp un gd cn cs L a ccd cel outer) (call (.ref 714) [.ref lx]) Q E s := by
  refine fill ?_
  k_fill
  intro _ hX hN hT hK hdp hun hx d1 d2 d3 d4 d5 hr1 hr2 hret
  refine wpAny_call ?_
  k_dflt cell_enter
  k_with_none
  k_with "call ref" => refine halt ?_
  k_steps
  unfold Halt
  rename Fr _ _ _ _ => F₃
  rename News _ _ _ _ => N₃
  refine read_c w mean mg mb x tx x.length _ _ _ _ _ y dy _ _ _ _ _ _ _ _ _ _ _ _ _ _ _ _ _ _ (by k_asm) F₃ (by k_asm) (swap22 N₃) (by k_asm) rfl ?_ ?_ (Nat.le_refl _) hx d4 ?_ ?_
  · simp only [depth_mark, depth_under_make, depth_under_kw, depth_in1, depth_deeper, depth_caller]; lia
  · simp only [units_deeper]; lia
  · intro p hp
    rcases List.mem_cons.mp hp with rfl | hp
    · exact d5
    · rcases List.mem_cons.mp hp with rfl | hp
      · exact Ne.symm d3
      · exact hr2 p hp
  · intro t tkR h₄ tk₄ F₄ N₄
    have N₅ := swap22 N₄
    clear N₄ N₃ F₃
    try dsimp only
    have hnx : nx x x.length = x.length := if_neg (by lia)
    rw [hnx] at N₅
    have hch : chAt x x.length = Str.ofString "" := by
      unfold chAt
      rw [List.drop_of_length_le (by rw [len_cl]; lia)]
      rfl
    rw [hch]
    k_with_none
    k_steps
    rename Fr _ _ _ _ => Fn
    rename News _ _ _ _ => Nn
    exact hret _ tkR _ _ Fn Nn
end
section
set_option maxRecDepth 100000
theorem owit_stopS {M : Model} {A A₀ : Around} {E : Value → Shared → Prop} {s : Shared} {Q : Option Value → Shared → Prop} {base g G : Heap} {outer : List Env} {L a e t : Addr} {m : Str → Option Value} {name : Str} {scope : Scope} {cd : Value} {vs : List Value} {news : List (Addr × Obj)} {KF : Frag} {X : String}
    {p : Program} {loose : List Str} {mean : ExcName → Option Value} {mg mb : Str → Option Value}
    (R : RaisedS base G (envOf name scope L a cd :: outer) e (.type X) t vs news s.heap) (F : Fr g L G m) (K : Below A₀ base outer g) (hsm : G.UpToSlots s.heap) (XB : KF.In base) (TB : Top p loose mean mg mb base)
    (D : KtsDicts (outer.filterMap (·.frame)) g) (hsub : isSubtype (.type X) (.type "StopIteration") = pure true)
    (k : ∀ g', KtsTurn (outer.filterMap (·.frame)) g g' → Fr g' L s.heap m → News g' L s.heap news → Below A₀ base outer g' → KF.In g' → Top p loose mean mg mb g' → KtsDicts (outer.filterMap (·.frame)) g' → Q none s) : OwitStop M A Q E (.ref e) s := by
  obtain ⟨⟨B, hB, hBG, hl, hfl, hnew⟩, htup⟩ := R
  have hL : B.get? L = none := by
    obtain ⟨_, ⟨L', _, hf, hn', _⟩, _⟩ := hfl.2.2.1
    obtain rfl : L = L' := Option.some.inj hf
    exact hn'
  obtain ⟨g', T, F', K'⟩ := kts_ground K F hBG hfl.1 hsm
  obtain ⟨ob, hob, hobc⟩ := hfl.there
  have hT : s.TypeIs (.ref e) X := (show ∃ o, s.heap.get? e = some o ∧ o.cls = .type X from ⟨ob, hob, hobc⟩)
  have N' : News g' L s.heap news := fun q hq => ⟨hfl.1 _ _ (hl q hq).1, (fun z => by have := (hl q hq).1; rw [z, hL] at this; cases this), T.none_ _ (kts_none F.keep (hl q hq).2.1)⟩
  unfold OwitStop
  refine wpAny_isInstance hT hsub ?_
  show (if true = true then Q none s else E (.ref e) s)
  rw [if_pos rfl]
  exact k g' T F' N' K' (XB.keeps K'.stays) (TB.keeps K'.stays) (D.turn T)
end
section
local macro_rules | `(tactic| walk_at "truthy ref") => `(tactic| (k_here; k_dflt (refine dq_truthy (News.get (by k_asm) (by k_mem)) ?_)))
local macro_rules | `(tactic| walk_at "call ref") => `(tactic| ((with_reducible show wpAny _ _ (call (Value.ref 714) _) _ _ _); refine halt ?_))
section
set_option maxRecDepth 100000
set_option maxHeartbeats 8000000
theorem nt_c (w : World) (mean : ExcName → Option Value) (mg mb : Str → Option Value) (x : Str) (tx : Tok) (k : Nat) (tk s1 s2 s3 : Tok) (y dy lx dl pb fs : Addr) (u1 u2 : Tok) (t0 t1 t2 t3 t4 t5 t6 t7 t8 t9 t10 t11 t12 t13 t14 t15 t16 t17 t18 t19 t20 t21 t22 t23 t24 t25 t26 t27 : Tok) (rest : List (Addr × Obj)) (R : List Nat × Bool × Option Ls × List Nat) (dp un : Nat) (gd : Option (List Code)) (cn : Str) (cs : Scope) (a : Addr) (ccd : Value) (cel : List (Str × Addr)) (outer : List Env) (A₀ : Around) (base h₀ : Heap) (L : Addr) (m : Str → Option Value) (s : Shared) (Q E : Value → Shared → Prop)
    (hB : Below A₀ base outer h₀) (hF : Fr h₀ L s.heap m) : (Mine.K w.params).In h₀ → News h₀ L s.heap (ldg w x tx s1 s2 s3 y dy lx dl pb fs t0 t1 t2 t3 t4 t5 t6 t7 t8 t9 t10 t11 t12 t13 t14 t15 t16 t17 t18 t19 t20 t21 t22 t23 t24 t25 t26 t27 ((pb, dqO) :: (fs, dqO) :: rest) ⟨.str (Str.ofString " ") u1, .str (Str.ofString "") u2, k, tk, false⟩) → Top Mine.vw loose mean mg mb h₀ → cs.kind = .function → dp + 30 < recursionLimit → un + 300 < cLine →
    k ≤ x.length → x.length ≤ 1000 → (∀ c ∈ cl x, okC c) → lexR ((cl x).drop k) .sp [] false = some R → ¬ (R.1 = [] ∧ R.2.1 = false) → @Ne Nat lx dl → @Ne Nat y dl → @Ne Nat dy dl → @Ne Nat y dy → @Ne Nat lx dy → (∀ p ∈ (pb, dqO) :: (fs, dqO) :: rest, p.1 ≠ dl) → (∀ p ∈ (pb, dqO) :: (fs, dqO) :: rest, p.1 ≠ dy) →
    (∀ t t' t'' kk tk h' tk', kk ≤ x.length → R.2.2.2 = (cl x).drop kk → Fr h₀ L h' m → News h₀ L h' (ldg w x tx s1 s2 s3 y dy lx dl pb fs t0 t1 t2 t3 t4 t5 t6 t7 t8 t9 t10 t11 t12 t13 t14 t15 t16 t17 t18 t19 t20 t21 t22 t23 t24 t25 t26 t27 ((pb, dqO) :: (fs, dqO) :: rest) ⟨stV R.2.2.1 t', .str (Str.ofString "") t'', kk, tk, false⟩) → Q (.str (sOf R.1) t) { s with heap := h', toks := tk' }) →
    wpAny (model PySem.Challenge.pw_ny0408_02 w) (ktrTop dp un gd cn cs L a ccd cel outer) (call (.ref 743) [.ref lx]) Q E s := by
  refine fill ?_
  k_fill
  intro _ hX hN hT hK hdp hun hk hx hc hR hRn d1 d2 d3 d4 d5 hr1 hr2 hret
  refine wpAny_call ?_
  k_dflt cell_enter
  k_with_none
  k_steps
  unfold Halt
  rename Fr _ _ _ _ => F₃
  rename News _ _ _ _ => N₃
  refine rt_c w mean mg mb x tx k _ s1 s2 s3 y dy lx dl pb fs _ _ t0 t1 t2 t3 t4 t5 t6 t7 t8 t9 t10 t11 t12 t13 t14 t15 t16 t17 t18 t19 t20 t21 t22 t23 t24 t25 t26 t27 _ R _ _ _ _ _ _ _ _ _ _ _ _ _ _ _ _ _ (by k_asm) F₃ (by k_asm) N₃ (by k_asm) rfl ?_ ?_ hk hx hc hR d1 d2 d3 d4 d5 hr1 hr2 ?_
  · simp only [depth_mark, depth_under_make, depth_under_kw, depth_in1, depth_deeper, depth_caller]; lia
  · simp only [units_deeper]; lia
  · intro t t' t'' kk tkR h₄ tk₄ hkk hdr F₄ N₄
    have e : rtV R t = .str (sOf R.1) t := if_neg hRn
    rw [e]
    clear N₃ F₃
    try dsimp only
    k_with_none
    k_steps
    rename Fr _ _ _ _ => Fn
    rename News _ _ _ _ => Nn
    exact hret t t' t'' kk tkR _ _ hkk hdr Fn Nn
end
section
set_option maxRecDepth 100000
set_option maxHeartbeats 8000000
theorem ne_c (w : World) (mean : ExcName → Option Value) (mg mb : Str → Option Value) (x : Str) (tx : Tok) (tk s1 s2 s3 : Tok) (y dy lx dl pb fs : Addr) (u2 : Tok) (t0 t1 t2 t3 t4 t5 t6 t7 t8 t9 t10 t11 t12 t13 t14 t15 t16 t17 t18 t19 t20 t21 t22 t23 t24 t25 t26 t27 : Tok) (rest : List (Addr × Obj)) (dp un : Nat) (gd : Option (List Code)) (cn : Str) (cs : Scope) (a : Addr) (ccd : Value) (outer : List Env) (A₀ : Around) (base h₀ : Heap) (L : Addr) (m : Str → Option Value) (s : Shared) (Q : Option Value → Shared → Prop) (E : Value → Shared → Prop)
    (hB : Below A₀ base outer h₀) (hF : Fr h₀ L s.heap m) : (Mine.K w.params).In h₀ → News h₀ L s.heap (ldg w x tx s1 s2 s3 y dy lx dl pb fs t0 t1 t2 t3 t4 t5 t6 t7 t8 t9 t10 t11 t12 t13 t14 t15 t16 t17 t18 t19 t20 t21 t22 t23 t24 t25 t26 t27 ((pb, dqO) :: (fs, dqO) :: rest) ⟨.none, .str (Str.ofString "") u2, x.length, tk, false⟩) → Top Mine.vw loose mean mg mb h₀ → cs.kind = .function → dp + 30 < recursionLimit → un + 300 < cLine →
    x.length ≤ 1000 → @Ne Nat lx dl → @Ne Nat y dl → @Ne Nat dy dl → @Ne Nat y dy → @Ne Nat lx dy → (∀ p ∈ (pb, dqO) :: (fs, dqO) :: rest, p.1 ≠ dl) → (∀ p ∈ (pb, dqO) :: (fs, dqO) :: rest, p.1 ≠ dy) →
    (Mine.K w.params).In base → Top Mine.vw loose mean mg mb base → KtsDicts (outer.filterMap (·.frame)) h₀ →
    (∀ g' h' tk', KtsTurn (outer.filterMap (·.frame)) h₀ g' → Fr g' L h' m → News g' L h' rest → Below A₀ base outer g' → (Mine.K w.params).In g' → Top Mine.vw loose mean mg mb g' → KtsDicts (outer.filterMap (·.frame)) g' → Q none { s with heap := h', toks := tk' }) →
    wpAny (model PySem.Challenge.pw_ny0408_02 w) { handled := none, depth := dp, frames := some (envOf cn cs L a ccd :: outer), guards := gd, units := un } (pyNext (.ref lx)) Q E s := by
  refine fill ?_
  k_fill
  intro _ hX hN hT hK hdp hun hx d1 d2 d3 d4 d5 hr1 hr2 hXB hTB hD hret
  k_dflt (refine' owit_next ?F ?X ?I ?hs ?hf ?_; (case F => k_asm); (case X => k_asm); (case I => k_inst); (case hs => k_is); (case hf => k_is); k_whole)
  refine wpAny_call ?_
  k_dflt cell_enter
  k_with_none
  k_steps
  unfold Halt
  rename Fr _ _ _ _ => F₃
  rename News _ _ _ _ => N₃
  refine rn_c w mean mg mb x tx _ s1 s2 s3 y dy lx dl pb fs _ t0 t1 t2 t3 t4 t5 t6 t7 t8 t9 t10 t11 t12 t13 t14 t15 t16 t17 t18 t19 t20 t21 t22 t23 t24 t25 t26 t27 _ _ _ _ _ _ _ _ _ _ _ _ _ _ _ _ _ _ (by k_asm) F₃ (by k_asm) N₃ (by k_asm) rfl ?_ ?_ hx d1 d2 d3 d4 d5 hr1 hr2 ?_
  · simp only [depth_mark, depth_under_make, depth_under_kw, depth_in1, depth_deeper, depth_caller]; lia
  · simp only [units_deeper]; lia
  · intro t'' tkR h₄ tk₄ F₄ N₄
    clear N₃ F₃
    try dsimp only
    k_with_none
    k_steps
    rename RaisedS _ _ _ _ _ _ _ _ _ => S'
    refine owit_stopS (KF := Mine.K w.params) S' (by assumption) hB (by assumption) hXB hTB (by assumption) (by rw [isSubtype_type]; kernel_rfl) ?_
    intro g₉ T₉ F₉ N₉ B₉ X₉ P₉ D₉
    refine hret g₉ _ _ T₉ F₉ (cb_drop N₉ ?_) B₉ X₉ P₉ D₉
    intro p hp
    simp only [List.mem_cons]
    simp [hp]
end
end
section
set_option maxRecDepth 100000
section
variable {prog : Program} {w : World} {A : Around} {R : Result → Shared → Prop} {s : Shared}
theorem ext_step {D I : Addr} {res : Value}
    (h : wpAny (model prog w) A.in1 (pyNext (.ref I)) (fun r s₁ => match r with
      | none => R (.ok (.ret res)) s₁
      | some x => ∃ items c, s₁.heap.get? D = some { cls := .type "list", data := .seq items c } ∧ items.size < 1000 ∧
          codeAny (model prog w) A (.builtin "list.extend.loop" ⟨[.ref D, .ref I, res], []⟩) R { s₁ with heap := s₁.heap.update D (Obj.mapSeq (·.push x)) }) (fun e s' => R (.error e) s') s) :
    codeAny (model prog w) A (.builtin "list.extend.loop" ⟨[.ref D, .ref I, res], []⟩) R s := by
  refine codeAny_builtin PySem.F.entry_extend_loop ?_
  rw [Around.under_plainId PySem.F.plain_extend_loop _]
  show wpAny _ A.in1 (pyNext (.ref I) >>= _) _ _ s
  refine wpAny_bind (wpAny_mono h (fun r s₁ hr => ?_) fun _ _ e => e)
  cases r with
  | none => exact wpAny_pure hr
  | some x =>
    obtain ⟨items, c, hD, hsz, hc⟩ := hr
    show wpAny _ A.in1 (updateSeq D (·.push x) >>= fun _ => again (.builtin "list.extend.loop" ⟨[.ref D, .ref I, res], []⟩)) _ _ _
    exact wpAny_bind (wpAny_updateSeq hD rfl (wpAny_pure ⟨plainId_quiet PySem.F.plain_extend_loop _, hc⟩) (Nat.le_trans (Nat.le_of_lt hsz) (by decide)) (by show (items.push x).size ≤ sizeLine + 1; rw [Array.size_push]; exact Nat.le_trans hsz (by decide)))
end
end
section
set_option maxRecDepth 100000
set_option maxHeartbeats 8000000
theorem len_746 (P : Params) (S : Setting) : peek (Mine.K P) S (typeLookup (.ref 746) "__len__") = some none := by kernel_rfl
theorem hint_746 (P : Params) (S : Setting) : peek (Mine.K P) S (typeLookup (.ref 746) "__length_hint__") = some none := by kernel_rfl
section
variable {prog : Program} {w : World} {A : Around} {E Q : Value → Shared → Prop} {s : Shared} {h₀ : Heap} {L I dl : Addr} {m : Str → Option Value} {news : List (Addr × Obj)}
theorem upd_list {h : Heap} {D : Addr} {items items' : Array Value} {c c' : Nat} {f : Obj → Obj} (F : Fr h₀ L h m) (N : News h₀ L h ((D, listOf items c) :: news)) (hD : ∀ p ∈ news, p.1 ≠ D) (e : f (listOf items c) = listOf items' c') :
    Fr h₀ L (h.update D f) m ∧ News h₀ L (h.update D f) ((D, listOf items' c') :: news) :=
  news_upd (pre := []) (post := news) F N (fun _ h => nomatch h) hD e rfl
theorem list_own (X : (Mine.K w.params).In h₀) (F : Fr h₀ L s.heap m) (N : News h₀ L s.heap news) (hI : (I, instObj 746 dl) ∈ news)
    (h : ∀ D c h₂, (∀ p ∈ news, p.1 < D) → Fr h₀ L h₂ m → News h₀ L h₂ ((D, listOf #[] c) :: news) →
      wpAny (model prog w) A.in1.in1 (pyIter (.ref I)) (fun it s₁ => it = .ref I ∧ ∃ c, Fr h₀ L s₁.heap m ∧ News h₀ L s₁.heap ((D, listOf #[] c) :: news) ∧
        (∀ c' h₃, Fr h₀ L h₃ m → News h₀ L h₃ ((D, listOf #[] c') :: news) → codeAny (model prog w) A.in1 (.builtin "list.extend.loop" ⟨[.ref D, .ref I, .none], []⟩) (wants (fun r s₂ => r = .none ∧ Q (.ref D) s₂) E) { s₁ with heap := h₃ })) E { s with heap := h₂ }) :
    wpAny (model prog w) A (call (.type "list") [.ref I]) Q E s := by
  refine callType_codes (Q₁ := fun obj s₁ => obj = .ref s.heap.objs.size ∧ s₁ = { s with heap := s.heap.push { cls := .type "list", data := .seq #[] } }) PySem.F.called_list (PySem.F.typeCall_list_1 _) PySem.F.entry_list_init
    (code_list_new _ ⟨rfl, rfl⟩) fun obj s₁ h₁ => ?_
  obtain ⟨rfl, rfl⟩ := h₁
  have lt : ∀ p ∈ news, p.1 < s.heap.objs.size := fun p hp => Heap.lt_size (N p hp).1
  have hD : ∀ p ∈ news, p.1 ≠ s.heap.objs.size := fun p hp => Nat.ne_of_lt (lt p hp)
  have N1 : News h₀ L (s.heap.push { cls := .type "list", data := .seq #[] }) ((s.heap.objs.size, listOf #[] 0) :: news) := N.push F _
  have F1 := F.push { cls := .type "list", data := .seq #[] }
  have hS : (s.heap.push { cls := .type "list", data := .seq #[] }).get? s.heap.objs.size = some { cls := .type "list", data := .seq #[] } := Heap.get?_push_size _ rfl
  refine ⟨⟨_, hS, rfl⟩, PySem.F.args_list_init_2 _ _, ?_⟩
  show wpAny _ A.in1.in1 (do let old ← Builtin.List.listItems (.ref s.heap.objs.size); Builtin.List.listUpdate (.ref s.heap.objs.size) (fun _ => #[]); letGo old.toList.reverse; Builtin.List.listExtendWith (.ref s.heap.objs.size) (.ref I) .none) _ _ _
  refine wpAny_bind ?_
  unfold Builtin.List.listItems
  refine wpAny_bind (wpAny_seqItems hS rfl (wpAny_pure ?_))
  show wpAny _ A.in1.in1 (updateSeq s.heap.objs.size (fun _ => #[]) >>= fun _ => letGo (#[] : Array Value).toList.reverse >>= fun _ => Builtin.List.listExtendWith (.ref s.heap.objs.size) (.ref I) .none) _ _ _
  refine wpAny_bind (wpAny_updateSeq hS rfl ?_)
  obtain ⟨F2, N2⟩ := upd_list (f := Obj.mapSeq (fun _ => (#[] : Array Value))) F1 N1 hD rfl
  refine wpAny_bind (wpAny_letGo ?_)
  unfold Builtin.List.listExtendWith
  have tI : ∀ h', News h₀ L h' ((s.heap.objs.size, listOf #[] 0) :: news) → Looks (model prog w) h' (typeOf (.ref I)) (.ref 746) := fun h' N' => (Looks.ld (N' (I, instObj 746 dl) (List.mem_cons_of_mem _ hI)).1).andThen .now
  refine wpAny_bind ((tI _ N2).here ?_)
  have hne : s.heap.objs.size ≠ I := Ne.symm (hD _ hI)
  have h1 : Builtin.List.listSameRef (.ref s.heap.objs.size) (.ref I) = false := by simp [Builtin.List.listSameRef, hne]
  have h2 : (Value.ref 746 == Value.type "list") = false := by decide
  have h3 : (Value.ref 746 == Value.type "tuple") = false := by decide
  simp only [h1, h2, h3, Bool.or_false, Bool.false_eq_true, if_false]
  refine wpAny_bind (wpAny_mono (h _ _ _ lt F2 N2) (fun it s₁ hit => ?_) fun _ _ e => e)
  obtain ⟨rfl, c, F3, N3, hgo⟩ := hit
  have t3 : Looks (model prog w) s₁.heap (typeOf (.ref I)) (.ref 746) := (Looks.ld (N3 (I, instObj 746 dl) (List.mem_cons_of_mem _ hI)).1).andThen .now
  have X3 := X.keeps F3.keep
  have l1 : Looks (model prog w) s₁.heap (specialOf (.ref I) "__len__") none := t3.andThen (Looks.of_peek X3 (len_746 _ _))
  have l2 : Looks (model prog w) s₁.heap (specialOf (.ref I) "__length_hint__") none := t3.andThen (Looks.of_peek X3 (hint_746 _ _))
  refine wpAny_bind (wpAny_holding ?_)
  unfold Builtin.List.listLengthHint
  refine wpAny_bind (l1.here ?_)
  show wpAny _ A.in1.in1 (specialOf (Value.ref I) (Str.ofString "__length_hint__") >>= _) _ _ _
  refine wpAny_bind (l2.here ?_)
  refine wpAny_pure ?_
  show wpAny _ A.in1.in1 (rule "list.extend.makes-room" >>= fun _ => Builtin.List.listTouch (.ref s.heap.objs.size) >>= fun _ =>
    again (.builtin "list.extend.loop" ⟨[.ref s.heap.objs.size, .ref I, .none], []⟩)) _ _ _
  refine wpAny_bind (wpAny_rule ?_)
  refine wpAny_bind ?_
  show wpAny _ A.in1.in1 (updateSeq s.heap.objs.size (·.push .none) >>= fun _ => updateSeq s.heap.objs.size (·.pop)) _ _ _
  have hS3 := (N3 (s.heap.objs.size, listOf #[] c) List.mem_cons_self).1
  refine wpAny_bind (wpAny_updateSeq hS3 rfl ?_)
  obtain ⟨F4, N4⟩ := upd_list (f := Obj.mapSeq (·.push Value.none)) F3 N3 hD rfl
  have hS4 := (N4 _ List.mem_cons_self).1
  refine wpAny_updateSeq (hz := by seq_fits) hS4 rfl ?_
  obtain ⟨F5, N5⟩ := upd_list (f := Obj.mapSeq (·.pop)) F4 N4 hD rfl
  exact wpAny_pure ⟨plainId_quiet PySem.F.plain_extend_loop _, hgo _ _ F5 N5⟩
end
end
section
set_option maxRecDepth 100000
set_option maxHeartbeats 8000000
inductive LexTo : List Nat → List (List Nat) → Prop where
  | last {rem tok : List Nat} {q : Bool} : lexR rem .sp [] false = some (tok, q, none, []) → ¬ (tok = [] ∧ q = false) → LexTo rem [tok]
  | more {rem rem' tok : List Nat} {q : Bool} {ts : List (List Nat)} : lexR rem .sp [] false = some (tok, q, some .sp, rem') → ¬ (tok = [] ∧ q = false) → LexTo rem' ts → LexTo rem (tok :: ts)
theorem it_c (w : World) (mean : ExcName → Option Value) (mg mb : Str → Option Value) (lx : Addr) (news : List (Addr × Obj)) :
    MClaim PySem.Challenge.pw_ny0408_02 w (Mine.K w.params) Mine.vw loose mean mg mb 736 news True [.ref lx] (fun _ => .ref lx) := by
  refine fill ?_
  k_fill
  intro _
  dsimp only [MClaim, CbRet]
  intros
  rename_i hret
  refine wpAny_call ?_
  k_dflt cell_enter
  k_with_none
  k_steps
  exact hret 0 _ _ (by k_asm) (by k_asm)
end
section
set_option maxRecDepth 100000
set_option maxHeartbeats 8000000
theorem push_list (us : List Value) (v : Value) (c : Nat) : ∃ c', Obj.mapSeq (·.push v) (listOf us.toArray c) = listOf (us ++ [v]).toArray c' := by
  have e : ∃ c', Obj.mapSeq (·.push v) (listOf us.toArray c) = listOf (us.toArray.push v) c' := ⟨_, rfl⟩
  obtain ⟨c', e⟩ := e
  refine ⟨c', ?_⟩
  rw [e, List.push_toArray]
theorem loop_c (w : World) (mean : ExcName → Option Value) (mg mb : Str → Option Value) (x : Str) (tx : Tok) (s1 s2 s3 : Tok) (y dy lx dl pb fs D : Addr) (t0 t1 t2 t3 t4 t5 t6 t7 t8 t9 t10 t11 t12 t13 t14 t15 t16 t17 t18 t19 t20 t21 t22 t23 t24 t25 t26 t27 : Tok) (rest : List (Addr × Obj)) (dp un : Nat) (gd : Option (List Code)) (cn : Str) (cs : Scope) (a : Addr) (ccd : Value) (outer : List Env) (A₀ : Around) (base h₀ : Heap) (L : Addr) (m : Str → Option Value) (R : Result → Shared → Prop)
    (hB : Below A₀ base outer h₀) (hX : (Mine.K w.params).In h₀) (hT : Top Mine.vw loose mean mg mb h₀) (hK : cs.kind = .function) (hdp : dp + 40 < recursionLimit) (hun : un + 400 < cLine) (hx : x.length ≤ 1000) (hc : ∀ c ∈ cl x, okC c)
    (d1 : @Ne Nat lx dl) (d2 : @Ne Nat y dl) (d3 : @Ne Nat dy dl) (d4 : @Ne Nat y dy) (d5 : @Ne Nat lx dy) (p1 : @Ne Nat pb dl) (p2 : @Ne Nat fs dl) (p3 : @Ne Nat pb dy) (p4 : @Ne Nat fs dy) (hr1 : ∀ p ∈ rest, p.1 ≠ dl) (hr2 : ∀ p ∈ rest, p.1 ≠ dy)
    (e1 : lx ≠ D) (e2 : dl ≠ D) (e3 : y ≠ D) (e4 : dy ≠ D) (e5 : pb ≠ D) (e6 : fs ≠ D) (hr3 : ∀ p ∈ rest, p.1 ≠ D)
    (hXB : (Mine.K w.params).In base) (hTB : Top Mine.vw loose mean mg mb base) (hDc : KtsDicts (outer.filterMap (·.frame)) h₀) {rem : List Nat} {ts : List (List Nat)} (hl : LexTo rem ts) :
    ∀ (k : Nat) (us : List Value) (c : Nat) (tk u1 u2 : Tok) (s : Shared), k ≤ x.length → rem = (cl x).drop k → us.length + ts.length ≤ 900 → Fr h₀ L s.heap m →
      News h₀ L s.heap (ldg w x tx s1 s2 s3 y dy lx dl pb fs t0 t1 t2 t3 t4 t5 t6 t7 t8 t9 t10 t11 t12 t13 t14 t15 t16 t17 t18 t19 t20 t21 t22 t23 t24 t25 t26 t27 ((pb, dqO) :: (fs, dqO) :: (D, listOf us.toArray c) :: rest) ⟨.str (Str.ofString " ") u1, .str (Str.ofString "") u2, k, tk, false⟩) →
      (∀ (vs : List Value) c' g' h' tk', StrsAre vs (ts.map sOf) → KtsTurn (outer.filterMap (·.frame)) h₀ g' → Fr g' L h' m → News g' L h' ((D, listOf (us ++ vs).toArray c') :: rest) → Below A₀ base outer g' → (Mine.K w.params).In g' → Top Mine.vw loose mean mg mb g' → KtsDicts (outer.filterMap (·.frame)) g' →
        R (.ok (.ret .none)) { s with heap := h', toks := tk' }) →
      codeAny (model PySem.Challenge.pw_ny0408_02 w) { handled := none, depth := dp, frames := some (envOf cn cs L a ccd :: outer), guards := gd, units := un } (.builtin "list.extend.loop" ⟨[.ref D, .ref lx, .none], []⟩) R s := by
  have nxt : findIn (Mine.K w.params) (.ref 746) "__next__" = some (some (.ref 743)) := by kernel_rfl
  have nfn : isFn (Mine.K w.params) (.ref 743) = true := by kernel_rfl
  have q1 : ∀ us c, ∀ p ∈ (pb, dqO) :: (fs, dqO) :: (D, listOf us c) :: rest, p.1 ≠ dl := by
    intro us c p hp
    simp only [List.mem_cons] at hp
    rcases hp with rfl | rfl | rfl | hp
    · exact p1
    · exact p2
    · exact Ne.symm e2
    · exact hr1 p hp
  have q2 : ∀ us c, ∀ p ∈ (pb, dqO) :: (fs, dqO) :: (D, listOf us c) :: rest, p.1 ≠ dy := by
    intro us c p hp
    simp only [List.mem_cons] at hp
    rcases hp with rfl | rfl | rfl | hp
    · exact p3
    · exact p4
    · exact Ne.symm e4
    · exact hr2 p hp
  have tokstep : ∀ (Rr : List Nat × Bool × Option Ls × List Nat) (k : Nat) (us : List Value) (c : Nat) (tk u1 u2 : Tok) (s : Shared), k ≤ x.length → us.length ≤ 900 → lexR ((cl x).drop k) .sp [] false = some Rr → ¬ (Rr.1 = [] ∧ Rr.2.1 = false) → Fr h₀ L s.heap m →
      News h₀ L s.heap (ldg w x tx s1 s2 s3 y dy lx dl pb fs t0 t1 t2 t3 t4 t5 t6 t7 t8 t9 t10 t11 t12 t13 t14 t15 t16 t17 t18 t19 t20 t21 t22 t23 t24 t25 t26 t27 ((pb, dqO) :: (fs, dqO) :: (D, listOf us.toArray c) :: rest) ⟨.str (Str.ofString " ") u1, .str (Str.ofString "") u2, k, tk, false⟩) →
      (∀ t t' t'' kk tkR h' tk' c', kk ≤ x.length → Rr.2.2.2 = (cl x).drop kk → Fr h₀ L h' m → News h₀ L h' (ldg w x tx s1 s2 s3 y dy lx dl pb fs t0 t1 t2 t3 t4 t5 t6 t7 t8 t9 t10 t11 t12 t13 t14 t15 t16 t17 t18 t19 t20 t21 t22 t23 t24 t25 t26 t27 ((pb, dqO) :: (fs, dqO) :: (D, listOf (us ++ [Value.str (sOf Rr.1) t]).toArray c') :: rest) ⟨stV Rr.2.2.1 t', .str (Str.ofString "") t'', kk, tkR, false⟩) →
        codeAny (model PySem.Challenge.pw_ny0408_02 w) { handled := none, depth := dp, frames := some (envOf cn cs L a ccd :: outer), guards := gd, units := un } (.builtin "list.extend.loop" ⟨[.ref D, .ref lx, .none], []⟩) R { s with heap := h', toks := tk' }) →
      codeAny (model PySem.Challenge.pw_ny0408_02 w) { handled := none, depth := dp, frames := some (envOf cn cs L a ccd :: outer), guards := gd, units := un } (.builtin "list.extend.loop" ⟨[.ref D, .ref lx, .none], []⟩) R s := by
    intro Rr k us c tk u1 u2 s hk hus hR hRn F N hgo
    refine ext_step (owit_next F hX (InstAt.of_news N (List.Mem.head _) (List.Mem.tail _ (List.Mem.head _))) nxt nfn ?_)
    refine nt_c w mean mg mb x tx k tk s1 s2 s3 y dy lx dl pb fs u1 u2 t0 t1 t2 t3 t4 t5 t6 t7 t8 t9 t10 t11 t12 t13 t14 t15 t16 t17 t18 t19 t20 t21 t22 t23 t24 t25 t26 t27 _ Rr dp (un + 1) gd cn cs a ccd [] outer A₀ base h₀ L m s _ _ hB F hX N hT hK (by lia) (by lia) hk hx hc hR hRn d1 d2 d3 d4 d5 (q1 _ _) (q2 _ _) ?_
    intro t t' t'' kk tkR h' tk' hkk hdr F' N'
    refine ⟨us.toArray, c, (N' (D, listOf us.toArray c) (by simp)).1, by simp; lia, ?_⟩
    obtain ⟨c', ec⟩ := push_list us (.str (sOf Rr.1) t) c
    obtain ⟨F2, N2⟩ := news_upd (pre := [_, _, _, _, _, _]) (post := rest) (d := D) (o := listOf us.toArray c) (o' := listOf (us ++ [Value.str (sOf Rr.1) t]).toArray c') (f := Obj.mapSeq (·.push (Value.str (sOf Rr.1) t))) F' N' (by
      intro p hp
      simp only [List.mem_cons, List.not_mem_nil, or_false] at hp
      rcases hp with rfl | rfl | rfl | rfl | rfl | rfl <;> assumption) hr3 ec rfl
    exact hgo t t' t'' kk tkR _ _ c' hkk hdr F2 N2
  induction hl with
  | last h1 h2 =>
    intro k us c tk u1 u2 s hk hrem hlen F N hfin
    subst hrem
    refine tokstep _ k us c tk u1 u2 s hk (by simp at hlen; lia) h1 h2 F N ?_
    intro t t' t'' kk tkR h' tk' c' hkk hdr F' N'
    have hke : kk = x.length := by
      have := congrArg List.length hdr
      rw [List.length_drop, len_cl] at this
      simp at this
      lia
    subst hke
    refine ext_step ?_
    refine ne_c w mean mg mb x tx tkR s1 s2 s3 y dy lx dl pb fs t'' t0 t1 t2 t3 t4 t5 t6 t7 t8 t9 t10 t11 t12 t13 t14 t15 t16 t17 t18 t19 t20 t21 t22 t23 t24 t25 t26 t27 _ dp (un + 1) gd cn cs a ccd outer A₀ base h₀ L m _ _ _ hB F' hX N' hT hK (by lia) (by lia) hx d1 d2 d3 d4 d5 (q1 _ _) (q2 _ _) hXB hTB hDc ?_
    intro g' h'' tk'' T9 F9 N9 B9 X9 P9 D9
    exact hfin _ c' g' h'' tk'' (.cons _ _ .nil) T9 F9 N9 B9 X9 P9 D9
  | more h1 h2 h3 ih =>
    intro k us c tk u1 u2 s hk hrem hlen F N hfin
    subst hrem
    refine tokstep _ k us c tk u1 u2 s hk (by simp at hlen; lia) h1 h2 F N ?_
    intro t t' t'' kk tkR h' tk' c' hkk hdr F' N'
    refine ih kk _ c' tkR t' t'' _ hkk hdr (by simp at hlen ⊢; lia) F' N' ?_
    intro vs c'' g' h'' tk'' hvs T9 F9 N9 B9 X9 P9 D9
    rw [List.append_assoc] at N9
    exact hfin _ c'' g' h'' tk'' (.cons _ _ hvs) T9 F9 N9 B9 X9 P9 D9
end
section
open PySem PySem.W PyProof.Rows PySem.Calls
set_option maxRecDepth 100000
noncomputable abbrev frs (l : List Env) : List Addr := l.filterMap (·.frame)

noncomputable def EndS (A₀ : Around) (base : Heap) (outer : List Env) (env : Env) (K : Frag) (p : Program) (loose : List Str) (mean : ExcName → Option Value) (mg mb : Str → Option Value) (h₀ : Heap) (L : Addr) (m : Str → Option Value) (g : Heap) (R : Result → Shared → Prop) (v : Value) (s' : Shared) : Prop :=
  ∃ g' L' m' news', KtsTurn (frs (env :: outer)) g g' ∧ Fr g' L' s'.heap m' ∧ News g' L' s'.heap news' ∧
    ∀ h₀', KtsTurn (frs outer) h₀ h₀' → Fr h₀' L s'.heap m → News h₀' L s'.heap news' → Below A₀ base outer h₀' → K.In h₀' → Top p loose mean mg mb h₀' → KtsDicts (frs outer) h₀' → R (.ok (.ret v)) s'
section
variable {A₀ A : Around} {base h₀ g : Heap} {outer : List Env} {env : Env} {K : Frag} {p : Program} {loose : List Str} {mean : ExcName → Option Value} {mg mb : Str → Option Value} {L : Addr} {m : Str → Option Value} {R : Result → Shared → Prop} {v : Value} {s' : Shared}
theorem frs_mem {b : Addr} (hf : env.frame = some L) (hm : b ∈ frs (env :: outer)) : b = L ∨ b ∈ frs outer := by
  obtain ⟨e, he, hb⟩ := List.mem_filterMap.mp hm
  rcases List.mem_cons.mp he with rfl | he
  · exact .inl (Option.some.inj (hb.symm.trans hf))
  · exact .inr (List.mem_filterMap.mpr ⟨e, he, hb⟩)
theorem endS_out (B : Below A₀ base outer h₀) (FG : Fr h₀ L g m) (XB : K.In base) (TB : Top p loose mean mg mb base) (D : KtsDicts (frs outer) h₀) (hf : env.frame = some L) (h : EndS A₀ base outer env K p loose mean mg mb h₀ L m g R v s') : R (.ok (.ret v)) s' := by
  obtain ⟨g', L', m', news', T, F', N', k⟩ := h
  have nL : h₀.get? L = none := kts_self FG
  have other : ∀ b o, h₀.get? b = some o → b ∉ frs outer → s'.heap.get? b = some o := fun b o e nb => F'.keep b o (T.other b o (FG.keep b o e) fun hm => by
    rcases frs_mem hf hm with z | z
    · rw [z, nL] at e; cases e
    · exact nb z)
  have frame : ∀ b o, h₀.get? b = some o → b ∈ frs outer → ∃ sl, s'.heap.get? b = some { o with slots := sl } := fun b o e _ => by
    obtain ⟨sl, hs⟩ := T.up (FG.keep b o e)
    exact ⟨sl, F'.keep _ _ hs⟩
  obtain ⟨T0, S⟩ := kts_turn_at (h := s'.heap) (fs := frs outer) (g := h₀) (fun b hb => by
    obtain ⟨o, _, _, ho, _⟩ := D b hb
    exact ⟨o, ho⟩) other frame
  have B0 : Below A₀ base outer (ktsHeap s'.heap (frs outer) h₀) := ⟨B.stack, fun b o e => T0.other b o (B.stays b o e) (fun hm => by
    rw [(B.frames.mem hm).1] at e; cases e), B.frames.of_keeps fun b o e _ => by
      obtain ⟨sl, hs⟩ := T0.up e
      exact ⟨_, hs, rfl⟩⟩
  have ns : s'.heap.Ns L m := by
    obtain ⟨oL, es, ep, hL, hLd, hLk, hLf⟩ := FG.ns
    obtain ⟨sl, hs⟩ := T.up hL
    exact ⟨_, es, ep, F'.keep _ _ hs, hLd, hLk, hLf⟩
  refine k _ T0 ⟨ns, S, by rw [T0.size]; exact FG.above⟩ (fun q hq => ⟨(N' q hq).1, fun z => ?_, ?_⟩) B0 (XB.keeps B0.stays) (TB.keeps B0.stays) (D.turn T0)
  · obtain ⟨oL, es, ep, hL, _⟩ := FG.ns
    obtain ⟨sl, hs⟩ := T.up hL
    have := (N' q hq).2.2
    rw [z, hs] at this; cases this
  · refine T0.none_ _ ?_
    cases e : h₀.get? q.1 with
    | none => rfl
    | some o =>
      obtain ⟨sl, hs⟩ := T.up (FG.keep _ _ e)
      have := (N' q hq).2.2
      rw [hs] at this; cases this
end
section
variable {prog : Program} {w : World} {A₀ A : Around} {s : Shared} {base h₀ : Heap} {outer : List Env} {env : Env} {L : Addr} {m : Str → Option Value} {news : List (Addr × Obj)} {K : Frag} {p : Program} {loose : List Str} {mean : ExcName → Option Value} {mg mb : Str → Option Value}
  {R : Result → Shared → Prop} {name qual : Str} {params : Arguments} {body : List Stmt} {scope : Scope} {dV kV doc pm cdv ct oc : Value} {an od : Option Addr} {osl : Array (Option Value)} {f : Addr} {args : Args} {binds : List (Str × Value)}
theorem dicts_push (D : KtsDicts (frs outer) h₀) {g : Heap} (FG : Fr h₀ L g m) (hf : env.frame = some L) : KtsDicts (frs (env :: outer)) g := by
  intro b hb
  rcases frs_mem hf hb with rfl | hb
  · obtain ⟨oL, es, ep, hL, hLd, _⟩ := FG.ns
    exact ⟨oL, es, ep, hL, hLd⟩
  · obtain ⟨o, es, n, ho, hd⟩ := D b hb
    exact ⟨o, es, n, FG.keep _ _ ho, hd⟩
theorem code_plainS (B : Below A₀ base outer h₀) (F : Fr h₀ L s.heap m) (X₀ : K.In h₀) (N : News h₀ L s.heap news) (T : Top p loose mean mg mb h₀) (XB : K.In base) (TB : Top p loose mean mg mb base) (D : KtsDicts (frs outer) h₀)
    (hA : A.frames = some (env :: outer)) (hf : env.frame = some L) (hke : env.scope.kind = .function)
    (ho : K.lookup f = some ⟨oc, od, .func (fnOf name qual params body scope dV kV doc pm an cdv ct), osl⟩) (hcd : codeIn K cdv qual = true) (hroom : A.depth < recursionLimit)
    (hbind : BindsTo s (fnOf name qual params body scope dV kV doc pm an cdv ct) args binds) (hloc : ∀ y ∈ binds, scope.names.lookup y.1 = some .local)
    (h : ∀ g L' h₁, Fr h₀ L g m → Fr g L' h₁ (fun y => binds.reverse.lookup y) → News g L' h₁ news → Below A base (env :: outer) g → K.In g → Top p loose mean mg mb g → KtsDicts (frs (env :: outer)) g →
      wpAny (model prog w) (A.deeper (envOf qual scope L' f cdv)) (execs body (envOf qual scope L' f cdv))
        (fun fl s' => EndS A₀ base outer env K p loose mean mg mb h₀ L m g R (match fl with | .ret v => v | _ => .none) s')
        (fun e s' => wpAny (model prog w) (A.deeper (envOf qual scope L' f cdv)) (leaving (envOf qual scope L' f cdv) e) (fun _ s'' => R (.error e) s'') (fun e' s'' => R (.error e') s'') s')
        { s with heap := h₁, toks := s.toks + binds.length })
    (hco : scope.isCoroutine = false) (hgen : scope.isGenerator = false) (hk : scope.kind = .function) (hcell : ∀ x ∈ scope.names, x.2 ≠ .cell) : codeAny (model prog w) A (.call (.ref f) args) R s := by
  have X := X₀.keeps F.keep
  obtain ⟨FG, BG, st, _⟩ := groundX (R := R) B F N hA hf hke
  refine codeAny_call_def (fd := fnOf name qual params body scope dV kV doc pm an cdv ct) (body := body) (binds := binds) hroom (X _ _ ho) rfl (T.nolimit.keeps F.keep) (codeRec_of X hcd) rfl hbind hcell hloc (fun h₁ hns hk₁ => ?_) hco hgen hk
  exact wpAny_mono (h _ s.heap.objs.size h₁ FG ⟨hns, fun b o e => hk₁ b o (of_hideAll _ e), Nat.le_of_eq (hideAll_size _ _)⟩
    (fun q hq => ⟨hk₁ _ _ (N q hq).1, Nat.ne_of_lt (Heap.lt_size (N q hq).1), hideAll_none _ (List.mem_map_of_mem hq)⟩) BG (X₀.keeps st) (T.keeps st) (dicts_push D FG hf)) (fun fl s' hl => endS_out B FG XB TB D hf hl) fun _ _ y => y
theorem code_cellsS (B : Below A₀ base outer h₀) (F : Fr h₀ L s.heap m) (X₀ : K.In h₀) (N : News h₀ L s.heap news) (T : Top p loose mean mg mb h₀) (XB : K.In base) (TB : Top p loose mean mg mb base) (D : KtsDicts (frs outer) h₀)
    (hA : A.frames = some (env :: outer)) (hf : env.frame = some L) (hke : env.scope.kind = .function)
    (ho : K.lookup f = some ⟨oc, od, .func (fnOf name qual params body scope dV kV doc pm an cdv ct), osl⟩) (hcd : codeIn K cdv qual = true) (hroom : A.depth < recursionLimit)
    (hbind : BindsTo s (fnOf name qual params body scope dV kV doc pm an cdv ct) args binds) (hkind : (binds.all fun y => scope.names.lookup y.1 == some .local || scope.names.lookup y.1 == some .cell) = true)
    (hnd : ((cellsFrom 0 scope.names []).map (·.1)).Nodup)
    (h : ∀ g L' h₁ tk cells, Fr h₀ L g m → Fr g L' h₁ (bindL (envOfC qual scope L' f cdv).kindOf binds fun _ => none) → News g L' h₁ (cells ++ news) →
      CellsAre (bindC (envOfC qual scope L' f cdv).kindOf binds fun _ => none) (cellsFrom (L' + 1) scope.names []) cells → Below A base (env :: outer) g → K.In g → Top p loose mean mg mb g → KtsDicts (frs (env :: outer)) g → (∀ p ∈ news, p.1 < L') →
      wpAny (model prog w) (A.deeper (envOfC qual scope L' f cdv)) (execs body (envOfC qual scope L' f cdv))
        (fun fl s' => EndS A₀ base outer env K p loose mean mg mb h₀ L m g R (match fl with | .ret v => v | _ => .none) s')
        (fun e s' => wpAny (model prog w) (A.deeper (envOfC qual scope L' f cdv)) (leaving (envOfC qual scope L' f cdv) e) (fun _ s'' => R (.error e) s'') (fun e' s'' => R (.error e') s'') s')
        { s with heap := h₁, toks := tk })
    (hco : scope.isCoroutine = false) (hgen : scope.isGenerator = false) (hk : scope.kind = .function) : codeAny (model prog w) A (.call (.ref f) args) R s := by
  have X := X₀.keeps F.keep
  obtain ⟨FG, BG, st, _⟩ := groundX (R := R) B F N hA hf hke
  refine codeAny_call_function (fd := fnOf name qual params body scope dV kV doc pm an cdv ct) hroom (X _ _ ho) rfl hco hgen rfl (codeRec_of X hcd) (hbind _ _ _ _ ?_)
  refine wpAny_newFunctionEnv_cells hk (kindsX hkind _) fun env' he s' x => ?_
  subst he
  refine ⟨(T.nolimit.keeps F.keep).keeps x.toInCall.keep, codeAny_func ?_⟩
  obtain ⟨h₁, tk, rfl, _⟩ := x.done
  have kp := x.toInCall.keep
  obtain ⟨cells, NC, Y⟩ := Cl.news (h₀ := s.heap) (Nat.le_refl _) fun n c hm => ⟨x.cell n c (lookup_of_mem_nodup (cellsFrom_names scope.names 0 (s.heap.objs.size + 1) [] [] rfl ▸ hnd) hm), x.above n c hm⟩
  have NN : News (hideAll s.heap (news.map (·.1))) s.heap.objs.size h₁ (cells ++ news) := by
    intro q hq
    rcases List.mem_append.mp hq with hq | hq
    · refine ⟨(NC q hq).1, (NC q hq).2.1, ?_⟩
      cases z : (hideAll s.heap (news.map (·.1))).get? q.1 with
      | none => rfl
      | some o => have := of_hideAll _ z; rw [(NC q hq).2.2] at this; cases this
    · exact ⟨kp _ _ (N q hq).1, Nat.ne_of_lt (Heap.lt_size (N q hq).1), hideAll_none _ (List.mem_map_of_mem hq)⟩
  exact wpAny_mono (h _ s.heap.objs.size h₁ tk cells FG ⟨x.toInCall.ns, fun b o e => kp b o (of_hideAll _ e), Nat.le_of_eq (hideAll_size _ _)⟩ NN Y BG (X₀.keeps st) (T.keeps st) (dicts_push D FG hf) (fun q hq => Heap.lt_size (N q hq).1))
    (fun fl s' hl => endS_out B FG XB TB D hf hl) fun _ _ y => y
end
end
section
set_option maxRecDepth 100000
set_option maxHeartbeats 8000000
theorem order6 {h₀ h : Heap} {L : Addr} {a b c d e f : Addr × Obj} {r : List (Addr × Obj)} (N : News h₀ L h (f :: e :: c :: d :: a :: b :: r)) : News h₀ L h (a :: b :: c :: d :: e :: f :: r) :=
  cb_drop N (by
    intro p hp
    simp only [List.mem_cons] at hp ⊢
    rcases hp with h | h | h | h | h | h | h <;> simp [h])
theorem rot7 {h₀ h : Heap} {L : Addr} {a b c d e f g : Addr × Obj} {r : List (Addr × Obj)} (N : News h₀ L h (g :: a :: b :: c :: d :: e :: f :: r)) : News h₀ L h (a :: b :: c :: d :: e :: f :: g :: r) :=
  cb_drop N (by
    intro p hp
    simp only [List.mem_cons] at hp ⊢
    rcases hp with h | h | h | h | h | h | h | h <;> simp [h])
theorem find_iter (P : Params) : findIn (Mine.K P) (.ref 746) "__iter__" = some (some (.ref 736)) := by kernel_rfl
theorem find_next (P : Params) : findIn (Mine.K P) (.ref 746) "__next__" = some (some (.ref 743)) := by kernel_rfl
theorem fn_736 (P : Params) : isFn (Mine.K P) (.ref 736) = true := by kernel_rfl
theorem split_c (w : World) (mean : ExcName → Option Value) (mg mb : Str → Option Value) (x : Str) (tx : Tok) (ts : List (List Nat)) (news : List (Addr × Obj)) (dp un : Nat) (gd : Option (List Code)) (cn : Str) (cs : Scope) (a : Addr) (ccd : Value) (cel : List (Str × Addr)) (outer : List Env) (A₀ : Around) (base h₀ : Heap) (L : Addr) (m : Str → Option Value) (s : Shared) (Q E : Value → Shared → Prop)
    (hB : Below A₀ base outer h₀) (hF : Fr h₀ L s.heap m) : (Mine.K w.params).In h₀ → News h₀ L s.heap news → Top Mine.vw loose mean mg mb h₀ → cs.kind = .function → dp + 60 < recursionLimit → un + 500 < cLine → x.length ≤ 1000 → (∀ c ∈ cl x, okC c) → LexTo (cl x) ts → ts.length ≤ 900 →
    (Mine.K w.params).In base → Top Mine.vw loose mean mg mb base → KtsDicts (outer.filterMap (·.frame)) h₀ →
    (∀ (D : Addr) (vs : List Value) c g' h' tk', StrsAre vs (ts.map sOf) → KtsTurn (outer.filterMap (·.frame)) h₀ g' → Fr g' L h' m → News g' L h' ((D, listOf vs.toArray c) :: news) → (∀ p ∈ news, p.1 < D) → Below A₀ base outer g' → (Mine.K w.params).In g' → Top Mine.vw loose mean mg mb g' → KtsDicts (outer.filterMap (·.frame)) g' → Q (.ref D) { s with heap := h', toks := tk' }) →
    wpAny (model PySem.Challenge.pw_ny0408_02 w) { handled := none, depth := dp, frames := some (envX cn cs L a ccd cel :: outer), guards := gd, units := un } (call (.ref 758) [.str x tx]) Q E s := by
  refine fill ?_
  k_fill
  intro _ hX hN hT hK hdp hun hx hc hl hts hXB hTB hDc hret
  refine wpAny_call ?_
  k_dflt (refine' code_plainS ?k1 ?k2 ?k3 ?k4 ?k5 ?XB ?TB ?D ?kA ?kF ?cK ?k6 ?k7 ?k8 ?k9 ?kB ?_ ?c2 ?c3 ?c4 ?c5; (case kA => exact rfl); (case kF => exact rfl); (case k2 => k_asm); (case k1 => k_asm); (case XB => assumption); (case TB => assumption); (case D => assumption); (case k3 => k_asm); (case k4 => k_asm); (case k5 => k_asm); (case k6 => k_is); (case k7 => k_is); (case k8 => k_room); (case k9 => exact binds_K (hX.keeps hF.keep) rfl (by k_is) rfl rfl rfl); (case kB => exact locs rfl); (case cK => assumption); (case c2 => exact rfl); (case c3 => exact rfl); (case c4 => exact rfl); (case c5 => decide); k_whole; intro g' L' h' FG' F' N' B' X' T' D'; (try dsimp only); (try k_lift B'); (try k_fold))
  k_with_none
  k_with "call type:collections.deque" => (k_dflt (refine' dq_call ?k1 ?k2 ?_; (case k1 => k_asm); (case k2 => k_asm); k_whole); intro a9 h9 l9 F9 N9; k_lt l9; (try dsimp only); (try k_sweep))
  k_steps
  refine sio_c w mean mg mb x tx _ _ _ _ _ _ _ _ _ _ _ _ _ _ _ _ _ _ (by k_asm) (by k_asm) (by k_asm) (by k_asm) (by k_asm) rfl ?_ ?_ ?_
  · simp only [depth_mark, depth_under_make, depth_under_kw, depth_in1, depth_deeper, depth_caller]; lia
  · show un + 3 + 1 + 3 + 100 < cLine; lia
  intro y dy tk t1 t2 t3 h9 tk' l1 l2 F9 N9
  k_lt l1
  k_lt2 l2
  try dsimp only
  k_steps
  rename Fr _ _ _ _ => F5
  rename News _ _ _ _ => N5
  have A1 := (‹_ ∧ _ ∧ AllLt dy news›).2.2
  refine list_own X' F5 (order6 N5) (List.Mem.head _) ?_
  intro D c h₂ lt F2 N2
  refine owit_iter F2 X' (InstAt.of_news N2 (List.Mem.tail _ (List.Mem.head _)) (List.Mem.tail _ (List.Mem.tail _ (List.Mem.head _)))) (find_iter _) (fn_736 _) ?_
  refine it_c w mean mg mb _ _ _ _ _ _ _ _ _ [] _ _ _ _ _ _ _ _ _ B' F2 X' N2 T' rfl trivial ?_ ?_ ?_
  · simp only [depth_in1, depth_deeper]; lia
  · simp only [units_in1, units_deeper]; lia
  intro t h₃ tk₃ F3 N3
  refine owit_it F3 X' (InstAt.of_news N3 (List.Mem.tail _ (List.Mem.head _)) (List.Mem.tail _ (List.Mem.tail _ (List.Mem.head _)))) (find_next _) ⟨rfl, c, F3, N3, ?_⟩
  intro c' h₄ F4 N4
  refine loop_c w mean mg mb x tx _ _ _ y dy _ _ _ _ D _ _ _ _ _ _ _ _ _ _ _ _ _ _ _ _ _ _ _ _ _ _ _ _ _ _ _ _ _ _ _ _ _ _ _ _ _ _ _ _ _ _ _ B' X' T' rfl ?_ ?_ hx hc ?_ ?_ ?_ ?_ ?_ ?_ ?_ ?_ ?_ ?_ ?_ ?_ ?_ ?_ ?_ ?_ ?_ ?_ hXB hTB D' hl 0 [] c' _ _ _ _ (Nat.zero_le _) (List.drop_zero).symm ?_ F4 (rot7 N4) ?_
  · simp only [depth_in1, depth_deeper]; lia
  · simp only [units_in1, units_deeper]; lia
  · lia
  · lia
  · lia
  · lia
  · lia
  · lia
  · lia
  · lia
  · lia
  · exact allNe_lt (by assumption)
  · exact allNe_of A1
  · exact Nat.ne_of_lt (lt _ (List.Mem.head _))
  · exact Nat.ne_of_lt (lt _ (List.Mem.tail _ (List.Mem.head _)))
  · exact Nat.ne_of_lt (lt _ (List.Mem.tail _ (List.Mem.tail _ (List.Mem.head _))))
  · exact Nat.ne_of_lt (lt _ (List.Mem.tail _ (List.Mem.tail _ (List.Mem.tail _ (List.Mem.head _)))))
  · exact Nat.ne_of_lt (lt _ (List.Mem.tail _ (List.Mem.tail _ (List.Mem.tail _ (List.Mem.tail _ (List.Mem.head _))))))
  · exact Nat.ne_of_lt (lt _ (List.Mem.tail _ (List.Mem.tail _ (List.Mem.tail _ (List.Mem.tail _ (List.Mem.tail _ (List.Mem.head _)))))))
  · exact fun p hp => Nat.ne_of_lt (lt p (by simp [hp]))
  · simp; lia
  · intro vs c'' g9 h9 tk9 hvs T9 F9 N9 B9 X9 P9 D9
    refine ⟨rfl, ?_⟩
    refine ⟨g9, _, _, _, T9, F9, N9, ?_⟩
    intro h₀' T' F' N' B' X' P' D'
    exact hret D vs c'' h₀' _ _ hvs T' F' N' (fun p hp => lt p (by simp [hp])) B' X' P' D'
end
end
section
set_option maxRecDepth 100000
section
variable {prog : Program} {w : World} {A : Around} {E : Value → Shared → Prop} {s : Shared} {env : Env} {h₀ : Heap} {x : Str} {px : Pos} {body : List Stmt} {Q : Flow → Shared → Prop}

noncomputable def TurnG (h₀ : Heap) (L : Addr) (s₁ : Shared) (I : Addr) (oI : Obj) (J : Array GenState → (Str → Option Value) → List (Addr × Obj) → Prop) (Q : Flow → Shared → Prop) (f : Flow) (s₂ : Shared) : Prop :=
  match f with
  | .ret v => Q (.ret v) s₂
  | .brk => Q .next s₂
  | _ => ∃ h' tk gs m' news', s₂ = { s₁ with heap := h', gens := gs, toks := tk } ∧ Fr h₀ L h' m' ∧ News h₀ L h' ((I, oI) :: news') ∧ (∀ p ∈ news', p.1 ≠ I) ∧ J gs m' news'
theorem forG {l : Addr} {vs : List Value} {c : Nat} {m₀ : Str → Option Value} {news : List (Addr × Obj)} (J : Nat → Array GenState → (Str → Option Value) → List (Addr × Obj) → Prop)
    (hh : A.handled = none) (F : Fr h₀ env.locals s.heap m₀) (N : News h₀ env.locals s.heap news) (hl : (l, listOf vs.toArray c) ∈ news) (hJ : ∀ i gs m n, J i gs m n → (l, listOf vs.toArray c) ∈ n) (h0 : J 0 s.gens m₀ news) (hE : PassesOwn (model prog w) A env E)
    (step : ∀ I oI i v m₁ news₁ h₁ tk₁ gs₁, vs[i]? = some v → J i gs₁ m₁ news₁ → (∀ p ∈ news₁, p.1 ≠ I) → Fr h₀ env.locals h₁ m₁ → News h₀ env.locals h₁ ((I, oI) :: news₁) →
      wpAny (model prog w) A (assign (.Name x px) env v) (fun _ s₂ => wpAny (model prog w) A (execs body env) (TurnG h₀ env.locals s I oI (J (i + 1)) Q) E s₂) E { s with heap := h₁, gens := gs₁, toks := tk₁ })
    (done : ∀ h' tk gs m' news', Fr h₀ env.locals h' m' → News h₀ env.locals h' news' → J vs.length gs m' news' → Q .next { s with heap := h', gens := gs, toks := tk }) :
    wpAny (model prog w) A (pyIter (.ref l)) (fun it s₂ => codeAny (model prog w) A (.forLoop (.Name x px) it body [] env) (fun r s' => match r with | .ok f => Q f s' | .error e => cameBackBy (model prog w) A env E e s') s₂) E s := by
  have hls : s.heap.IsList l vs.toArray := ⟨_, (N _ hl).1, rfl, _, rfl⟩
  have hlt : l < s.heap.objs.size := Heap.lt_size (N _ hl).1
  have hne : l ≠ s.heap.objs.size := Nat.ne_of_lt hlt
  have W := Walks.list (prog := prog) (w := w) hh s.heap.objs.size l hne vs.toArray
  have hsz : vs.toArray.size = vs.length := List.size_toArray ..
  rw [hsz] at W
  have hIL : s.heap.objs.size ≠ env.locals := Nat.ne_of_gt F.ns.lt
  have hI0 : h₀.get? s.heap.objs.size = none := next_is_new F
  refine wpAny_pyIter_list hls ?_
  refine codeAny_forLoop_any
    (fun k s' => ∃ h' tk gs m' news' i, s' = { s with heap := h', gens := gs, toks := tk } ∧ (h'.IsListIter s.heap.objs.size l i ∧ h'.IsList l vs.toArray) ∧ Fr h₀ env.locals h' m' ∧ News h₀ env.locals h' news' ∧ (∀ p ∈ news', p.1 ≠ s.heap.objs.size) ∧ J i gs m' news' ∧ i ≤ vs.length ∧ k = vs.length + 1 - i) ?_ (vs.length + 1)
    ⟨_, s.toks, s.gens, m₀, news, 0, rfl, ⟨⟨_, Heap.get?_push_size _ rfl, rfl, rfl⟩, hls.push _⟩, F.push _, (fun p hp => ⟨Heap.get?_push_of_some _ (N p hp).1, (N p hp).2⟩), (fun p hp => Nat.ne_of_lt (Heap.lt_size (N p hp).1)), h0, Nat.zero_le _, rfl⟩
  rintro k s' ⟨h', tk, gs, m', news', i, rfl, hst', F', N', hnw', hJi, hi, rfl⟩
  have next : ∀ h₁ : Heap, (∀ b o, b ∉ [s.heap.objs.size] → h'.get? b = some o → h₁.get? b = some o) → Fr h₀ env.locals h₁ m' ∧ News h₀ env.locals h₁ news' := fun h₁ hk₁ =>
    ⟨⟨F'.ns.at' fun o e => hk₁ _ o (by simpa using Ne.symm hIL) e, fun b o e => hk₁ b o (fun hb => by rw [List.mem_singleton.mp hb, hI0] at e; cases e) (F'.keep b o e), F'.above⟩, fun p hp => ⟨hk₁ _ _ (by simpa using hnw' p hp) (N' p hp).1, (N' p hp).2⟩⟩
  by_cases hlt' : i < vs.length
  · refine W.item i _ _ _ hlt' hst' fun v h₁ tk₁ hP hst₁ hk₁ => ?_
    refine wpAny_of_eq (rfl : letOwnedTupleGo (.Name x px) (.ref s.heap.objs.size) v = pure ()) ?_
    obtain ⟨F₁, N₁⟩ := next h₁ hk₁
    obtain ⟨oI, hoI, hoc, hod⟩ := id hst₁.1
    have NI : News h₀ env.locals h₁ ((s.heap.objs.size, oI) :: news') := fun p hp => by
      rcases List.mem_cons.mp hp with rfl | hp
      · exact ⟨hoI, hIL, hI0⟩
      · exact N₁ p hp
    have hP' : vs[i]? = some v := by simpa using hP
    refine wpAny_mono (step _ oI i v m' news' h₁ tk₁ gs hP' hJi hnw' F₁ NI) (fun _ s₂ h₂ => wpAny_mono h₂ (fun f s₃ h₃ => ?_) fun e s' y => hE e s' y) fun e s' y => hE e s' y
    have fin : (∃ h' tk gs m' news', s₃ = { s with heap := h', gens := gs, toks := tk } ∧ Fr h₀ env.locals h' m' ∧ News h₀ env.locals h' ((s.heap.objs.size, oI) :: news') ∧ (∀ p ∈ news', p.1 ≠ s.heap.objs.size) ∧ J (i + 1) gs m' news') →
        ∃ m₁, m₁ < vs.length + 1 - i ∧ ∃ h' tk gs m' news' j, s₃ = { s with heap := h', gens := gs, toks := tk } ∧ (h'.IsListIter s.heap.objs.size l j ∧ h'.IsList l vs.toArray) ∧ Fr h₀ env.locals h' m' ∧ News h₀ env.locals h' news' ∧ (∀ p ∈ news', p.1 ≠ s.heap.objs.size) ∧ J j gs m' news' ∧ j ≤ vs.length ∧ m₁ = vs.length + 1 - j := by
      rintro ⟨h₃', tk₃, gs₃, m₂, news₂, rfl, F₃, N₃, ha₃, hJ₃⟩
      exact ⟨vs.length + 1 - (i + 1), by lia, h₃', tk₃, gs₃, m₂, news₂, i + 1, rfl, ⟨⟨oI, (N₃ (s.heap.objs.size, oI) List.mem_cons_self).1, hoc, hod⟩, ⟨_, (N₃ _ (List.mem_cons_of_mem _ (hJ _ _ _ _ hJ₃))).1, rfl, _, rfl⟩⟩, F₃, fun p hp => N₃ p (List.mem_cons_of_mem _ hp), ha₃, hJ₃, hlt', rfl⟩
    cases f with
    | ret v => exact h₃
    | brk => exact h₃
    | cont => exact fin h₃
    | next => exact fin h₃
  · have hin : i = vs.length := by lia
    subst hin
    refine W.done _ _ _ hst' fun h₁ tk₁ hk₁ => ?_
    obtain ⟨F₁, N₁⟩ := next h₁ hk₁
    exact wpAny_execs_nil (done h₁ tk₁ gs m' news' F₁ N₁ hJi)
end
end
section
set_option maxRecDepth 100000
set_option maxHeartbeats 8000000
noncomputable abbrev LRet (h₀ : Heap) (L : Addr) (m : Str → Option Value) (news : List (Addr × Obj)) (s : Shared) (Q : Value → Shared → Prop) (ss : List Str) : Prop :=
  ∀ (D : Addr) (us : List Value) (c : Nat) (h' : Heap) (tk' : Nat), StrsAre us ss → Fr h₀ L h' m → News h₀ L h' ((D, listOf us.toArray c) :: news) → (∀ p ∈ news, p.1 < D) → Q (.ref D) { s with heap := h', toks := tk' }
noncomputable def signsOf (b0 b1 b2 b3 b4 b5 b6 b7 b8 b9 b10 b11 : Int) : List Str :=
  [Txt.item (Str.ofString "-r") b8, Txt.item (Str.ofString "-w") b7, Txt.item ([Str.ofString "-x", Str.ofString "Ss"].getD b11.toNat Str.empty) b6,
   Txt.item (Str.ofString "-r") b5, Txt.item (Str.ofString "-w") b4, Txt.item ([Str.ofString "-x", Str.ofString "Ss"].getD b10.toNat Str.empty) b3,
   Txt.item (Str.ofString "-r") b2, Txt.item (Str.ofString "-w") b1, Txt.item ([Str.ofString "-x", Str.ofString "Tt"].getD b9.toNat Str.empty) b0]
noncomputable def signsK (b : List Int) (k : Nat) : List Str := [Txt.item (Str.ofString "-r") (b.getD (8 - 3 * k) 0), Txt.item (Str.ofString "-w") (b.getD (7 - 3 * k) 0), Txt.item ([Str.ofString "-x", [Str.ofString "Ss", Str.ofString "Ss", Str.ofString "Tt"].getD k Str.empty].getD (b.getD (11 - k) 0).toNat Str.empty) (b.getD (6 - 3 * k) 0)]
noncomputable def signsT (b : List Int) (n : Nat) : List Str := (List.range n).flatMap (signsK b)
theorem bit_at {prog : Program} {w : World} {A : Around} {E Q : Value → Shared → Prop} {s : Shared} {value slice : Expr} {h₀ : Heap} {L l : Addr} {led : List (Addr × Obj)} {vs : List Value} {ns : List Int} {c : Nat} {k : Int} {u : Tok} (N : News h₀ L s.heap led) (hm : (l, listOf (List.toArray vs) c) ∈ led) (hv : IntsAre vs ns) (h12 : ns.length = 12) (hb : ∀ x ∈ ns, 0 ≤ x ∧ x ≤ 1) (h0 : 0 ≤ k) (h1 : k < 12)
    (h : ∀ v t, v = ns.getD k.toNat 0 → 0 ≤ v → v ≤ 1 → Q (.int v t) s) (hs : subscripted slice false (.ref l) (.int k u) = operate [.ref l, .int k u] (getItem (.ref l) (.int k u))) :
    wpAny (model prog w) A (subscriptTail value slice (.ref l) (.int k u)) Q E s := by
  have hl : s.heap.IsList l vs.toArray := ⟨_, (N _ hm).1, rfl, _, rfl⟩
  have hk : k.toNat < ns.length := by lia
  obtain ⟨t, e⟩ : ∃ t, vs[k.toNat]? = some (.int (ns.getD k.toNat 0) t) := by
    have : ∀ {vs : List Value} {ns : List Int} {i : Nat}, IntsAre vs ns → i < ns.length → ∃ t, vs[i]? = some (.int (ns.getD i 0) t) := by
      intro vs ns i hv
      induction hv generalizing i with
      | nil => intro h; simp at h
      | cons n t _ ih =>
        intro h
        cases i with
        | zero => exact ⟨t, rfl⟩
        | succ i => simpa using ih (i := i) (by simpa using h)
    exact this hv hk
  have hb' : ns.getD k.toNat 0 ∈ ns := by
    rw [List.getD_eq_getElem?_getD, List.getElem?_eq_getElem hk]
    exact List.getElem_mem hk
  exact tail_any hl.typeIs slot_list_getitem.lookup (wpAny_getItem_list hl h0 (by lia) (by simpa using e) (h _ t rfl (hb _ hb').1 (hb _ hb').2)) hs
theorem two_at {prog : Program} {w : World} {A : Around} {E Q : Value → Shared → Prop} {s : Shared} {value slice : Expr} {l : Addr} {vs : List Value} {ws : List Str} {i : Int} {u : Tok} (hl : s.heap.IsList l vs.toArray) (hw : StrsAre vs ws) (h2 : ∀ x ∈ ws, x.length = 2) (h0 : 0 ≤ i) (h1 : i < (ws.length : Int)) (hfit : i < 3)
    (h : ∀ x t, x = ws.getD i.toNat Str.empty → x.length = 2 → Q (.str x t) s) (hs : subscripted slice false (.ref l) (.int i u) = operate [.ref l, .int i u] (getItem (.ref l) (.int i u))) :
    wpAny (model prog w) A (subscriptTail value slice (.ref l) (.int i u)) Q E s := by
  refine KTb.item_list hl hw h0 h1 (by lia) (fun t hlt => h _ t rfl ?_) hs
  refine h2 _ ?_
  rw [List.getD_eq_getElem?_getD, List.getElem?_eq_getElem hlt]
  exact List.getElem_mem hlt
theorem chr_at {prog : Program} {w : World} {A : Around} {E Q : Value → Shared → Prop} {s : Shared} {value slice : Expr} {x : Str} {t u : Tok} {i : Int} (hx : x.length = 2) (h0 : 0 ≤ i) (h1 : i ≤ 1) (h : Q (.str (Txt.item x i) s.toks) { s with toks := s.toks + 1 })
    (hs : subscripted slice false (.str x t) (.int i u) = operate [.str x t, .int i u] (getItem (.str x t) (.int i u)))
    (ht : ∀ r, letTemporaryGo value (.str x t) r = pure ()) :
    wpAny (model prog w) A (subscriptTail value slice (.str x t) (.int i u)) Q E s :=
  item_str (fitsSsize_of (N := 5) (by lia) (by lia) (by decide)) (by lia) (by lia) (fun _ => h) hs ht
theorem signs_step {pre : List Int} {kN v1 v2 v3 v4 : Int} {b : List Int} {ss : List Str} {x y : Str} (hs : ss = signsT b pre.length) (e : kN = 0 + (pre.length : Int)) (hk : kN < 3) (e1 : v1 = b.getD (8 - 3 * kN).toNat 0) (e2 : v2 = b.getD (7 - 3 * kN).toNat 0)
    (ex : x = [Str.ofString "Ss", Str.ofString "Ss", Str.ofString "Tt"].getD kN.toNat Str.empty) (e4 : v4 = b.getD (11 - kN).toNat 0) (ey : y = [Str.ofString "-x", x].getD v4.toNat Str.empty) (e3 : v3 = b.getD (6 - 3 * kN).toNat 0) :
    ss ++ [Txt.item (Str.ofString "-r") v1, Txt.item (Str.ofString "-w") v2, Txt.item y v3] = signsT b (pre ++ [kN]).length := by
  have ek : kN = (pre.length : Int) := by lia
  have q1 : (8 - 3 * kN).toNat = 8 - 3 * pre.length := by lia
  have q2 : (7 - 3 * kN).toNat = 7 - 3 * pre.length := by lia
  have q3 : (6 - 3 * kN).toNat = 6 - 3 * pre.length := by lia
  have q4 : (11 - kN).toNat = 11 - pre.length := by lia
  have q5 : kN.toNat = pre.length := by lia
  rw [q1] at e1
  rw [q2] at e2
  rw [q3] at e3
  rw [q4] at e4
  rw [q5] at ex
  subst hs e1 e2 ex e4 ey e3
  rw [List.length_append, List.length_singleton]
  unfold signsT
  rw [List.range_succ, List.flatMap_append]
  simp only [List.flatMap_cons, List.flatMap_nil, List.append_nil]
  rfl
theorem len_r : (Str.ofString "-r").length = 2 := by decide
theorem len_w : (Str.ofString "-w").length = 2 := by decide
theorem two3 : ∀ x ∈ [Str.ofString "Ss", Str.ofString "Ss", Str.ofString "Tt"], x.length = 2 := by
  intro x hx
  simp only [List.mem_cons, List.not_mem_nil, or_false] at hx
  rcases hx with rfl | rfl | rfl <;> decide
theorem two2 {y : Str} (h : y.length = 2) : ∀ x ∈ [Str.ofString "-x", y], x.length = 2 := by
  intro x hx
  simp only [List.mem_cons, List.not_mem_nil, or_false] at hx
  rcases hx with rfl | rfl
  · decide
  · exact h
theorem signsT_len (b : List Int) (n : Nat) : (signsT b n).length = 3 * n := by
  unfold signsT
  induction n with
  | zero => rfl
  | succ n ih =>
    rw [List.range_succ, List.flatMap_append, List.length_append, ih]
    simp only [List.flatMap_cons, List.flatMap_nil, List.append_nil, signsK, List.length_cons, List.length_nil]
    lia
theorem us_len {us : List Value} {ss : List Str} {b : List Int} {n : Nat} (h : StrsAre us ss) (e : ss = signsT b n) (hn : n < (((3 : Int) - 0).toNat)) : us.length ≤ 9 := by
  rw [h.length, e, signsT_len]
  have : n < 3 := hn
  lia
theorem ext3 {prog : Program} {w : World} {A : Around} {E Q : Value → Shared → Prop} {s : Shared} {h₀ : Heap} {L D b : Addr} {m : Str → Option Value} {news news' : List (Addr × Obj)} {us vs : List Value} {n n2 : Nat} (F : Fr h₀ L s.heap m) (N : News h₀ L s.heap news) (hb : (b, listOf vs.toArray n2) ∈ news) (hn : us.length ≤ 9) (hv : vs.length = 3) {ss ws : List Str} (hs : StrsAre us ss) (hw : StrsAre vs ws)
    (U : Upd D (listOf us.toArray n) (listOf (us ++ vs).toArray (n + 1)) news news') (h : ∀ h', StrsAre (us ++ vs) (ss ++ ws) → Fr h₀ L h' m → News h₀ L h' news' → Q .none { s with heap := h' }) : wpAny (model prog w) A (call (.builtin "list.extend") [.ref D, .ref b]) Q E s := by
  refine kl_extend (its := us.toArray) (its2 := vs.toArray) F N hb rfl (by simp only [List.toList_toArray]; lia) U ?_ ?_ ?_ (fun h' => h h' (hs.append' hw))
  · rw [List.size_toArray, List.size_toArray, hv]
    simp only [Builtin.List.listTooLong]
    have h12 : ¬ (us.length + 3 > sizeLine) := Nat.not_lt.mpr (Nat.le_trans (by lia : us.length + 3 ≤ 12) (by decide))
    rw [decide_eq_false h12, Bool.and_false]
    exact Bool.false_ne_true
  · simp only [List.toList_toArray]
    exact Nat.le_trans hn (by decide)
  · rw [List.size_toArray, List.size_toArray, hv]
    exact Nat.le_trans (by lia : us.length + 3 ≤ 12) (by decide)
theorem signs_c (w : World) (mean : ExcName → Option Value) (mg mb : Str → Option Value) (l : Addr) (bs : List Value) (c : Nat) (b : List Int) (news : List (Addr × Obj)) (dp un : Nat) (gd : Option (List Code)) (cn : Str) (cs : Scope) (a : Addr) (ccd : Value) (cel : List (Str × Addr)) (outer : List Env) (A₀ : Around) (base h₀ : Heap) (L : Addr) (m : Str → Option Value) (s : Shared) (Q E : Value → Shared → Prop) :
    Below A₀ base outer h₀ → Fr h₀ L s.heap m → (Mine.K w.params).In h₀ → News h₀ L s.heap ((l, listOf bs.toArray c) :: news) → Top Mine.vw loose mean mg mb h₀ → cs.kind = .function → IntsAre bs b → b.length = 12 → (∀ x ∈ b, 0 ≤ x ∧ x ≤ 1) → dp + 40 < recursionLimit → un + 400 < cLine →
    LRet h₀ L m ((l, listOf bs.toArray c) :: news) s Q (signsT b 3) →
    wpAny (model PySem.Challenge.pw_ny0408_02 w) (ktrTop dp un gd cn cs L a ccd cel outer) (call (.ref 832) [.ref l]) Q E s := by
  refine fill ?_
  k_fill
  intro _
  dsimp only [LRet]
  intro hB hF hX hN hT hK hI h12 hb hdp hun hret
  refine wpAny_call ?_
  k_dflt cell_enter
  k_with_none
  k_with "pyIter ref" => refine halt ?_
  k_steps
  unfold Halt
  k_with_none
  k_with "state" => exact rfl
  k_state_short (fun pre signs => signs = signsT b pre.length) "signs$"
  · k_with_none
    k_with "subscriptTail Name BinOp ref int" => refine halt ?_
    k_with "subscriptTail Name Name ref int" => ((refine' two_at ?hl ?hw two3 ?h0 ?h1 ?hf ?_ ?hs); (case hs => with_unfolding_all rfl); (case hl => is_list); (case hw => exact .cons _ _ (.cons _ _ (.cons _ _ .nil))); (case h0 => lia); (case h1 => (show _ < ((3 : Nat) : Int); lia)); (case hf => lia); intro _ _ _ _)
    k_with "subscriptTail Name Subscript ref int" => ((refine' two_at ?hl ?hw (two2 ?hy) ?h0 ?h1 ?hf ?_ ?hs); (case hs => with_unfolding_all rfl); (case hl => is_list); (case hw => exact .cons _ _ (.cons _ _ .nil)); (case hy => assumption); (case h0 => assumption); (case h1 => (show _ < ((2 : Nat) : Int); lia)); (case hf => lia); intro _ _ _ _)
    k_with "subscriptTail Name Subscript str int" => ((refine' chr_at ?hx ?h0 ?h1 ?_ ?hs ?ht); (case hs => with_unfolding_all rfl); (case ht => (intro _; with_unfolding_all rfl)); (case hx => first | assumption | exact len_r | exact len_w); (case h0 => assumption); (case h1 => assumption))
    k_with "state" => exact signs_step (by assumption) (by assumption) (by lia) (by assumption) (by assumption) (by assumption) (by assumption) (by assumption) (by assumption)
    k_steps
    unfold Halt
    ((with_reducible rename News _ _ _ _ => N9); (refine' bit_at N9 ?ha hI h12 hb ?hb ?hc ?_ ?hs); (case hs => with_unfolding_all rfl); (case ha => k_mem); (case hb => lia); (case hc => lia); intro _ _ _ _ _)
    k_steps
    unfold Halt
    ((with_reducible rename News _ _ _ _ => N9); (refine' bit_at N9 ?ha hI h12 hb ?hb ?hc ?_ ?hs); (case hs => with_unfolding_all rfl); (case ha => k_mem); (case hb => lia); (case hc => lia); intro _ _ _ _ _)
    k_steps
    unfold Halt
    ((with_reducible rename News _ _ _ _ => N9); (refine' bit_at N9 ?ha hI h12 hb ?hb ?hc ?_ ?hs); (case hs => with_unfolding_all rfl); (case ha => k_mem); (case hb => lia); (case hc => lia); intro _ _ _ _ _)
    k_steps
    unfold Halt
    ((with_reducible rename News _ _ _ _ => N9); (refine' bit_at N9 ?ha hI h12 hb ?hb ?hc ?_ ?hs); (case hs => with_unfolding_all rfl); (case ha => k_mem); (case hb => lia); (case hc => lia); intro _ _ _ _ _)
    k_steps
    with_reducible rename News _ _ _ _ => N9
    refine' ext3 ?F N9 ?b ?hn ?hv ?hs ?hw ?U ?_
    case F => k_asm
    case b => k_mem
    case hn => exact us_len (by assumption) (by assumption) (by assumption)
    case hv => rfl
    case hs => assumption
    case hw => exact .cons _ _ (.cons _ _ (.cons _ _ .nil))
    case U => k_upd
    intro h' S' F' N'
    dsimp only
    k_steps
  · k_with_none
    k_steps
    rename StrsAre _ _ => hs9
    have e9 : _ = signsT b 3 := ‹_ = signsT b (rangeKs 0 ((3 : Int) - 0).toNat).length›
    rw [e9] at hs9
    rename News _ _ _ _ => N9
    exact hret _ _ _ _ _ hs9 (by k_asm) N9 (lt_all (l := (l, _) :: news) (‹l < _ ∧ AllLt _ news›))
end
section
set_option maxRecDepth 100000
noncomputable def BitsOk (bits : List Int) : Prop := bits.length = 12 ∧ ∀ b ∈ bits, 0 ≤ b ∧ b ≤ 1
noncomputable def signsB : List Int → List Str
  | [b0, b1, b2, b3, b4, b5, b6, b7, b8, b9, b10, b11] => signsOf b0 b1 b2 b3 b4 b5 b6 b7 b8 b9 b10 b11
  | _ => []
theorem signs_b (w : World) (mean : ExcName → Option Value) (mg mb : Str → Option Value) (l : Addr) (bs : List Value) (c : Nat) (bits : List Int) (news : List (Addr × Obj)) (dp un : Nat) (gd : Option (List Code)) (cn : Str) (cs : Scope) (a : Addr) (ccd : Value) (cel : List (Str × Addr)) (outer : List Env) (A₀ : Around) (base h₀ : Heap) (L : Addr) (m : Str → Option Value) (s : Shared) (Q E : Value → Shared → Prop)
    (hB : Below A₀ base outer h₀) (hF : Fr h₀ L s.heap m) (hX : (Mine.K w.params).In h₀) (hN : News h₀ L s.heap ((l, listOf bs.toArray c) :: news)) (hT : Top Mine.vw loose mean mg mb h₀) (hK : cs.kind = .function) (hI : IntsAre bs bits) (hb : BitsOk bits)
    (hd : dp + 40 < recursionLimit) (hu : un + 400 < cLine) (hret : LRet h₀ L m ((l, listOf bs.toArray c) :: news) s Q (signsB bits)) :
    wpAny (model PySem.Challenge.pw_ny0408_02 w) (ktrTop dp un gd cn cs L a ccd cel outer) (call (.ref 832) [.ref l]) Q E s := by
  obtain ⟨hl, hb⟩ := hb
  have e : signsT bits 3 = signsB bits := by
    match bits, hl with
    | [b0, b1, b2, b3, b4, b5, b6, b7, b8, b9, b10, b11], _ => rfl
  exact signs_c w mean mg mb l bs c bits news dp un gd cn cs a ccd cel outer A₀ base h₀ L m s Q E hB hF hX hN hT hK hI hl hb hd hu (by rw [e]; exact hret)
theorem signsB_len {bits : List Int} (h : bits.length = 12) : (signsB bits).length = 9 := by
  match bits, h with
  | [b0, b1, b2, b3, b4, b5, b6, b7, b8, b9, b10, b11], _ => rfl
end
section
set_option maxRecDepth 100000
set_option maxHeartbeats 8000000
noncomputable def apC (x y : Str) : Int := if x = y then 0 else if (x ++ y) ∈ [Str.ofString "sS", Str.ofString "Ss", Str.ofString "tT", Str.ofString "Tt"] then 1 else 2
noncomputable def apS (x y : List Str) : Nat → Int
  | 0 => 0
  | n + 1 => apS x y n + apC (x.getD n Str.empty) (y.getD n Str.empty)
theorem ap_tot {x y : List Str} {kPre : List Int} {kN tot d : Int} (h : tot = apS x y kPre.length) (e : kN = 0 + (kPre.length : Int)) (q : apC (x.getD kN.toNat Str.empty) (y.getD kN.toNat Str.empty) = d) : tot + d = apS x y (kPre ++ [kN]).length := by
  have e2 : kN.toNat = kPre.length := by lia
  rw [e2] at q
  rw [List.length_append, List.length_singleton, apS, q, h]
theorem ap_eq {x y : List Str} {kPre : List Int} {kN tot : Int} (h : tot = apS x y kPre.length) (e : kN = 0 + (kPre.length : Int)) (q : (x.getD kN.toNat Str.empty != y.getD kN.toNat Str.empty) = false) : tot = apS x y (kPre ++ [kN]).length := by
  have := ap_tot (d := 0) h e (by simp at q; simp [apC, q])
  simpa using this
theorem ap_one {x y : List Str} {kPre : List Int} {kN tot : Int} (h : tot = apS x y kPre.length) (e : kN = 0 + (kPre.length : Int)) (q : (x.getD kN.toNat Str.empty != y.getD kN.toNat Str.empty) = true)
    (z : ([Str.ofString "sS", Str.ofString "Ss", Str.ofString "tT", Str.ofString "Tt"].any fun z => z == x.getD kN.toNat Str.empty ++ y.getD kN.toNat Str.empty) = true) : tot + 1 = apS x y (kPre ++ [kN]).length := by
  refine ap_tot h e ?_
  have q' : x.getD kN.toNat Str.empty ≠ y.getD kN.toNat Str.empty := by simpa using q
  unfold apC
  rw [if_neg q', if_pos]
  rw [List.any_eq_true] at z
  obtain ⟨a, ha, hb⟩ := z
  rw [← eq_of_beq hb]; exact ha
theorem ap_two {x y : List Str} {kPre : List Int} {kN tot : Int} (h : tot = apS x y kPre.length) (e : kN = 0 + (kPre.length : Int)) (q : (x.getD kN.toNat Str.empty != y.getD kN.toNat Str.empty) = true)
    (z : ([Str.ofString "sS", Str.ofString "Ss", Str.ofString "tT", Str.ofString "Tt"].any fun z => z == x.getD kN.toNat Str.empty ++ y.getD kN.toNat Str.empty) = false) : tot + 2 = apS x y (kPre ++ [kN]).length := by
  refine ap_tot h e ?_
  have q' : x.getD kN.toNat Str.empty ≠ y.getD kN.toNat Str.empty := by simpa using q
  unfold apC
  rw [if_neg q', if_neg]
  intro hm
  rw [List.any_eq_false] at z
  exact z _ hm (beq_self_eq_true _)
noncomputable def one (z : Str) : Prop := z.length = 1
theorem one_at {x : List Str} {k : Nat} (h : ∀ z ∈ x, one z) (hk : k < x.length) : one (x.getD k Str.empty) := by
  rw [List.getD_eq_getElem?_getD, List.getElem?_eq_getElem hk]
  exact h _ (List.getElem_mem hk)
theorem one_fit {x y : Str} (hx : one x) (hy : one y) : x.length + y.length ≤ sizeLine := by
  rw [show x.length = 1 from hx, show y.length = 1 from hy]; decide
theorem apart_c (w : World) (mean : ExcName → Option Value) (mg mb : Str → Option Value) (l1 l2 : Addr) (us1 us2 : List Value) (c1 c2 : Nat) (x y : List Str) (news : List (Addr × Obj)) :
    MClaim PySem.Challenge.pw_ny0408_02 w (Mine.K w.params) Mine.vw loose mean mg mb 839 news ((l1, listOf us1.toArray c1) ∈ news ∧ (l2, listOf us2.toArray c2) ∈ news ∧ StrsAre us1 x ∧ StrsAre us2 y ∧ x.length = 9 ∧ y.length = 9 ∧ (∀ z ∈ x, one z) ∧ (∀ z ∈ y, one z)) [.ref l1, .ref l2] (fun t => .int (apS x y 9) t) := by
  refine fill ?_
  k_fill
  intro _
  dsimp only [MClaim, CbRet]
  intros
  rename_i hret
  rename_i hpre hdp hun
  obtain ⟨hl1, hl2, hx, hy, hlx, hly, hox, hoy⟩ := hpre
  refine wpAny_call ?_
  k_dflt cell_enter
  k_with_none
  k_with "pyIter ref" => refine halt ?_
  k_steps
  unfold Halt
  k_with_none
  k_with "state" => first | exact rfl | exact ap_eq (by assumption) (by assumption) (by assumption) | exact ap_one (by assumption) (by assumption) (by assumption) (by assumption) | exact ap_two (by assumption) (by assumption) (by assumption) (by assumption)
  k_with "subscriptTail Name Name ref int" => ((with_reducible rename News _ _ _ _ => N9); first | (refine' KTb.item_list (l := l1) (ws := x) ?hl hx ?h0 ?h1 ?hfit ?_; (case hl => exact list_in N9 hl1 (by intro p hp; simp [hp])); (case h0 => lia); (case h1 => lia); (case hfit => lia); intro _ _) | (refine' KTb.item_list (l := l2) (ws := y) ?hl hy ?h0 ?h1 ?hfit ?_; (case hl => exact list_in N9 hl2 (by intro p hp; simp [hp])); (case h0 => lia); (case h1 => lia); (case hfit => lia); intro _ _))
  k_with "binaryOp Add str str" => ((refine PyProof.Rows.add_str (hsz := one_fit (one_at hox (by lia)) (one_at hoy (by lia))) ?_); intro _ _)
  k_state (fun pre total => total = apS x y pre.length) "total"
  k_steps
  refine cb_retI hret ?_ (by k_asm) (by k_asm)
  rename _ = apS x y (rangeKs 0 (9 - 0 : Int).toNat).length => e
  rw [e, rangeKs_length]; rfl
end
section
open PySem PySem.W PyProof.Rows PySem.Calls PyProof.Rows.LCg
set_option maxRecDepth 100000
section
variable {prog : Program} {w : World} {A : Around} {s : Shared} {h₀ : Heap} {L : Addr} {m : Str → Option Value} {env : Env} {elt : Expr} {x : Str} {scope : Scope} {cl : List (Str × Addr)} {S : List (Addr × Obj) → Prop} {P : Nat → Value → Prop} {Fin : List Value → List (Addr × Obj) → Prop}

theorem compJ {n : Nat} {news : List (Addr × Obj)} (J : Nat → List Value → List (Addr × Obj) → Prop) (h0 : J 0 [] news)
    (turn : ∀ i ys news₁ v I oI C oC D m₂ h tk (E' : Value → Shared → Prop), i < n → J i ys news₁ → P i v → NsObj oC m₂ → m₂ x = some v → Fr h₀ L h m → News h₀ L h ((I, oI) :: (C, oC) :: (D, lst ys) :: news₁) → Off3 I C D news₁ → ((@Ne Nat I C) ∧ (@Ne Nat I D) ∧ (@Ne Nat C D)) →
      wpAny (model prog w) A (eval elt (compEnvC scope cl C env)) (CompEnd h₀ L m { s with heap := h, toks := tk } I oI C oC D (lst ys) S (fun y news' => J (i + 1) (ys ++ [y]) news')) E' { s with heap := h, toks := tk })
    (fin : ∀ ys news', J n ys news' → Fin ys news') : CompRest prog w A h₀ L m env elt x scope cl s S P Fin n 0 [] news := by
  have go : ∀ k i ys news₁, i + k = n → J i ys news₁ → CompRest prog w A h₀ L m env elt x scope cl s S P Fin k i ys news₁ := by
    intro k
    induction k with
    | zero => intro i ys news₁ hi hJ; exact fin _ _ (by rw [Nat.add_zero] at hi; exact hi ▸ hJ)
    | succ k ih =>
      intro i ys news₁ hi hJ
      refine CompRest.succ fun v I oI C oC D m₂ h tk E' hP hC hx F N off ne => ?_
      refine wpAny_mono (turn i ys news₁ v I oI C oC D m₂ h tk E' (by lia) hJ hP hC hx F N off ne) (fun y s₂ h₂ => ?_) fun _ _ e => e
      obtain ⟨h', tk', news', e, F', N', off', hS, hJ'⟩ := h₂
      exact ⟨h', tk', news', e, F', N', off', hS, ih (i + 1) _ _ (by lia) hJ'⟩
  exact go n 0 [] news (Nat.zero_add n) h0
end
end
section
local macro_rules | `(tactic| walk_at "execs cons") => `(tactic| (k_fold; walk_at "execs cons"))
local macro_rules | `(tactic| walk_at "eval ListComp") => `(tactic| (refine halt ?_))
local macro_rules | `(tactic| walk_at "CompSrc") => `(tactic| (refine halt ?_))
section
set_option maxRecDepth 100000
set_option maxHeartbeats 8000000
local macro_rules | `(tactic| walk_at "exec Assign cons ListComp") => `(tactic| (show wpAny _ _ (exec (Stmt.Assign [Expr.Name (Str.ofString "near") _] _ _) _) _ _ _; refine halt ?_))
noncomputable def flipB (bits : List Int) (n : Int) : List Int := (List.range 12).map fun (k : Nat) => if (k : Int) = n % 12 then 1 - bits.getD k 0 else bits.getD k 0
noncomputable def bitsAt (ns : List Int) : Nat → List Int
  | 0 => [1, 0, 1, 1, 0, 1, 1, 1, 1, 0, 0, 1]
  | i + 1 => flipB (bitsAt ns i) (ns.getD i 0)
noncomputable def bookAt (ns : List Int) (i : Nat) : List Dat := (List.range (i + 1)).map fun j => Dat.list ((signsB (bitsAt ns j)).map Dat.str)
theorem fmod12 (n : Int) : 0 ≤ n.fmod 12 ∧ n.fmod 12 < 12 := by
  rw [Int.fmod_eq_emod_of_nonneg _ (by decide)]
  lia
theorem bitsAt_len (ns : List Int) : ∀ i, (bitsAt ns i).length = 12
  | 0 => rfl
  | i + 1 => by simp [bitsAt, flipB]
theorem int_at {prog : Program} {w : World} {A : Around} {E Q : Value → Shared → Prop} {s : Shared} {value slice : Expr} {h₀ : Heap} {L l : Addr} {led : List (Addr × Obj)} {vs : List Value} {ns : List Int} {c : Nat} {k : Int} {u : Tok} (N : News h₀ L s.heap led) (hm : (l, listOf (List.toArray vs) c) ∈ led) (hv : IntsAre vs ns) (h0 : 0 ≤ k) (h1 : k < 12 ∧ ns.length = 12)
    (h : ∀ t, Q (.int (ns.getD k.toNat 0) t) s) (hs : subscripted slice false (.ref l) (.int k u) = operate [.ref l, .int k u] (getItem (.ref l) (.int k u)) := by with_unfolding_all rfl) :
    wpAny (model prog w) A (subscriptTail value slice (.ref l) (.int k u)) Q E s := by
  have hl : s.heap.IsList l vs.toArray := ⟨_, (N _ hm).1, rfl, _, rfl⟩
  have hk : k.toNat < ns.length := by lia
  obtain ⟨t, e⟩ : ∃ t, vs[k.toNat]? = some (.int (ns.getD k.toNat 0) t) := by
    have : ∀ {vs : List Value} {ns : List Int} {i : Nat}, IntsAre vs ns → i < ns.length → ∃ t, vs[i]? = some (.int (ns.getD i 0) t) := by
      intro vs ns i hv
      induction hv generalizing i with
      | nil => intro h; simp at h
      | cons n t _ ih =>
        intro h
        cases i with
        | zero => exact ⟨t, rfl⟩
        | succ i => simpa using ih (i := i) (by simpa using h)
    exact this hv hk
  exact tail_any hl.typeIs slot_list_getitem.lookup (wpAny_getItem_list hl h0 (by lia) (by simpa using e) (h t)) hs
theorem flip_len (b : List Int) (n : Int) : (flipB b n).length = 12 := by simp [flipB]
theorem ints_snoc {x : Int} {t : Tok} : ∀ {vs : List Value} {ns : List Int}, IntsAre vs ns → IntsAre (vs ++ [.int x t]) (ns ++ [x])
  | _, _, .nil => .cons x t .nil
  | _, _, .cons y u h => .cons y u (ints_snoc h)
theorem flip_snoc {b : List Int} {n r : Int} {k : Nat} {t : Tok} {ys : List Value} (hk : k < 12) (hr : r = if (k : Int) = n % 12 then 1 - b.getD k 0 else b.getD k 0) (hys : IntsAre ys ((flipB b n).take k)) : IntsAre (ys ++ [.int r t]) ((flipB b n).take (k + 1)) := by
  have e : (flipB b n).take (k + 1) = (flipB b n).take k ++ [r] := by
    rw [List.take_add_one]
    congr 1
    have : (flipB b n)[k]? = some r := by
      unfold flipB
      rw [List.getElem?_map, List.getElem?_range hk, hr]
      rfl
    rw [this]; rfl
  rw [e]
  exact ints_snoc hys
theorem flip_yes {b : List Int} {n : Int} {k : Nat} {t : Tok} {ys : List Value} (hk : k < 12) (h : 0 + (k : Int) = n.fmod 12) (hys : IntsAre ys ((flipB b n).take k)) : IntsAre (ys ++ [.int (1 - b.getD (0 + (k : Int)).toNat 0) t]) ((flipB b n).take (k + 1)) := by
  refine flip_snoc hk ?_ hys
  rw [Int.fmod_eq_emod_of_nonneg _ (by decide)] at h
  rw [Int.zero_add] at h ⊢
  rw [if_pos h, Int.toNat_natCast]
theorem flip_no {b : List Int} {n : Int} {k : Nat} {t : Tok} {ys : List Value} (hk : k < 12) (h : 0 + (k : Int) ≠ n.fmod 12) (hys : IntsAre ys ((flipB b n).take k)) : IntsAre (ys ++ [.int (b.getD (0 + (k : Int)).toNat 0) t]) ((flipB b n).take (k + 1)) := by
  refine flip_snoc hk ?_ hys
  rw [Int.fmod_eq_emod_of_nonneg _ (by decide)] at h
  rw [Int.zero_add] at h ⊢
  rw [if_neg h, Int.toNat_natCast]
theorem flip_all {b : List Int} {n : Int} {ys : List Value} (h : IntsAre ys ((flipB b n).take 12)) : IntsAre ys (flipB b n) := by
  rwa [List.take_of_length_le (by rw [flip_len]; exact Nat.le_refl _)] at h
theorem off1_all {D : Addr} {l : List (Addr × Obj)} (h : LCg.Off1 D l) : ∀ p ∈ l, p.1 ≠ D := by
  induction l with
  | nil => intro p hp; cases hp
  | cons q r ih =>
    intro p hp
    rcases List.mem_cons.mp hp with rfl | hp
    · exact h.1
    · exact ih h.2 p hp
theorem bits_ok (ns : List Int) : ∀ i, BitsOk (bitsAt ns i)
  | 0 => ⟨rfl, by simp [bitsAt]⟩
  | i + 1 => by
    have ih := (bits_ok ns i).2
    refine ⟨bitsAt_len ns (i + 1), fun b hb => ?_⟩
    have hg : ∀ k, 0 ≤ (bitsAt ns i).getD k 0 ∧ (bitsAt ns i).getD k 0 ≤ 1 := fun k => by
      rw [List.getD_eq_getElem?_getD]
      cases e : (bitsAt ns i)[k]? with
      | none => simp
      | some v => exact ih v (List.mem_of_getElem? e)
    simp only [bitsAt, flipB, List.mem_map] at hb
    obtain ⟨k, _, rfl⟩ := hb
    have := hg k
    split <;> lia
theorem dat_len {led : List (Addr × Obj)} {ks : List Value} {ns : List Int} {i : Nat} (h : DatAll led ks (bookAt ns i)) : ks.length = i + 1 := by
  rw [h.length]; simp [bookAt]
theorem ks_fit {ks : List Value} {i n : Nat} (h : ks.length = i + 1) (hi : i < n) (hn : n ≤ 20) : ks.toArray.size ≤ sizeLine := by
  rw [List.size_toArray, h]
  exact Nat.le_trans (by lia : i + 1 ≤ 21) (by decide)
noncomputable def DueJ (L' : Addr) (ns : List Int) (own : List (Addr × Obj)) (i : Nat) (led : List (Addr × Obj)) : Prop :=
  ∃ oB oK oN B K bs ks c1 c2 rest v0, led = (L' + 1, oB) :: (L' + 1 + 1, oK) :: (L' + 1 + 1 + 1, oN) :: (B, listOf (List.toArray bs) c1) :: (K, listOf (List.toArray ks) c2) :: rest ∧
    oB.data = .cell (some (.ref B)) ∧ oK.data = .cell (some (.ref K)) ∧ oN.data = .cell v0 ∧ IntsAre bs (bitsAt ns i) ∧ DatAll rest ks (bookAt ns i) ∧ (∀ p ∈ own, p ∈ rest) ∧
    (∀ p ∈ rest, p.1 ≠ L' + 1) ∧ (∀ p ∈ rest, p.1 ≠ L' + 1 + 1) ∧ (∀ p ∈ rest, p.1 ≠ L' + 1 + 1 + 1) ∧ (∀ p ∈ rest, p.1 ≠ B) ∧ (∀ p ∈ rest, p.1 ≠ K) ∧
    (@Ne Nat (L' + 1) B ∧ @Ne Nat (L' + 1 + 1) B ∧ @Ne Nat (L' + 1 + 1 + 1) B) ∧ (@Ne Nat (L' + 1) K ∧ @Ne Nat (L' + 1 + 1) K ∧ @Ne Nat (L' + 1 + 1 + 1) K) ∧ (@Ne Nat B K)
theorem dat_strs {led : List (Addr × Obj)} : ∀ {us : List Value} {ss : List Str}, StrsAre us ss → DatAll led us (ss.map Dat.str)
  | _, _, .nil => .nil
  | _, _, .cons x t h => .cons (.str x t) (dat_strs h)
theorem due_start {g h : Heap} {Lf L' K S B : Addr} {us bs : List Value} {c0 c1 c2 : Nat} {oN oK oB : Obj} {own : List (Addr × Obj)} {ns : List Int} {v0 : Option Value}
    (N : News g Lf h ((K, listOf (List.toArray [.ref S]) c2) :: (S, listOf us.toArray c0) :: (B, listOf (List.toArray bs) c1) :: (L' + 1 + 1 + 1, oN) :: (L' + 1 + 1, oK) :: (L' + 1, oB) :: own))
    (hS : StrsAre us (signsB (bitsAt ns 0))) (hb : IntsAre bs (bitsAt ns 0)) (dB : oB.data = .cell (some (.ref B))) (dK : oK.data = .cell (some (.ref K))) (dN : oN.data = .cell v0)
    (ltB : @LT.lt Nat _ (L' + 1 + 1 + 1) B ∧ @LT.lt Nat _ (L' + 1 + 1) B ∧ @LT.lt Nat _ (L' + 1) B ∧ AllLt B own)
    (ltS : @LT.lt Nat _ B S ∧ @LT.lt Nat _ (L' + 1 + 1 + 1) S ∧ @LT.lt Nat _ (L' + 1 + 1) S ∧ @LT.lt Nat _ (L' + 1) S ∧ AllLt S own)
    (ltK : @LT.lt Nat _ S K ∧ @LT.lt Nat _ B K ∧ @LT.lt Nat _ (L' + 1 + 1 + 1) K ∧ @LT.lt Nat _ (L' + 1 + 1) K ∧ @LT.lt Nat _ (L' + 1) K ∧ AllLt K own)
    (hl : AllLt L' own) : ∃ led, News g Lf h led ∧ DueJ L' ns own 0 led := by
  refine ⟨(L' + 1, oB) :: (L' + 1 + 1, oK) :: (L' + 1 + 1 + 1, oN) :: (B, listOf (List.toArray bs) c1) :: (K, listOf (List.toArray [.ref S]) c2) :: (S, listOf us.toArray c0) :: own, ?_, oB, oK, oN, B, K, bs, [.ref S], c1, c2, (S, listOf us.toArray c0) :: own, v0, rfl, dB, dK, dN, hb, ?_, fun p hp => List.mem_cons_of_mem _ hp, ?_, ?_, ?_, ?_, ?_, ⟨Nat.ne_of_lt ltB.2.2.1, Nat.ne_of_lt ltB.2.1, Nat.ne_of_lt ltB.1⟩, ⟨Nat.ne_of_lt ltK.2.2.2.2.1, Nat.ne_of_lt ltK.2.2.2.1, Nat.ne_of_lt ltK.2.2.1⟩, Nat.ne_of_lt ltK.2.1⟩
  · exact cb_drop N (fun p hp => by simp only [List.mem_cons] at hp ⊢; rcases hp with h | h | h | h | h | h | h <;> simp [h])
  · exact .cons (.list (List.mem_cons_self ..) (dat_strs hS)) .nil
  all_goals (intro p hp; rcases List.mem_cons.mp hp with rfl | hp)
  · exact (Nat.ne_of_lt ltS.2.2.2.1).symm
  · exact fun e => by have := lt_all hl p hp; rw [e] at this; exact absurd this (Nat.not_lt_of_le (Nat.le_add_right L' 1))
  · exact (Nat.ne_of_lt ltS.2.2.1).symm
  · exact fun e => by have := lt_all hl p hp; rw [e] at this; exact absurd this (Nat.not_lt_of_le (Nat.le_add_right L' 2))
  · exact (Nat.ne_of_lt ltS.2.1).symm
  · exact fun e => by have := lt_all hl p hp; rw [e] at this; exact absurd this (Nat.not_lt_of_le (Nat.le_add_right L' 3))
  · exact (Nat.ne_of_lt ltS.1).symm
  · exact ne_all ltB.2.2.2 p hp
  · exact Nat.ne_of_lt ltK.1
  · exact ne_all ltK.2.2.2.2.2 p hp
theorem due_turn {g h : Heap} {Lf L' I B K S D : Addr} {us bs ys ks : List Value} {c0 cD c1 c2 i : Nat} {oI oN oK oB : Obj} {rest own : List (Addr × Obj)} {ns : List Int} {v0 : Option Value}
    (N : News g Lf h ((S, listOf us.toArray c0) :: (D, listOf ys.toArray cD) :: (I, oI) :: (L' + 1, oB) :: (L' + 1 + 1, oK) :: (L' + 1 + 1 + 1, oN) :: (B, listOf bs.toArray c1) :: (K, listOf (ks.toArray.push (.ref S)) c2) :: rest))
    (hS : StrsAre us (signsB (bitsAt ns (i + 1)))) (hy : IntsAre ys (bitsAt ns (i + 1))) (hk : DatAll rest ks (bookAt ns i)) (dB : oB.data = .cell (some (.ref D))) (dK : oK.data = .cell (some (.ref K))) (dN : oN.data = .cell v0)
    (lt : @LT.lt Nat _ D S ∧ @LT.lt Nat _ I S ∧ @LT.lt Nat _ (L' + 1) S ∧ @LT.lt Nat _ (L' + 1 + 1) S ∧ @LT.lt Nat _ (L' + 1 + 1 + 1) S ∧ @LT.lt Nat _ B S ∧ @LT.lt Nat _ K S ∧ AllLt S rest)
    (hown : ∀ p ∈ own, p ∈ rest) (r1 : ∀ p ∈ rest, p.1 ≠ L' + 1) (r2 : ∀ p ∈ rest, p.1 ≠ L' + 1 + 1) (r3 : ∀ p ∈ rest, p.1 ≠ L' + 1 + 1 + 1) (rB : ∀ p ∈ rest, p.1 ≠ B) (rK : ∀ p ∈ rest, p.1 ≠ K) (rI : ∀ p ∈ rest, p.1 ≠ I)
    (nB1 : @Ne Nat (L' + 1) B) (nB2 : @Ne Nat (L' + 1 + 1) B) (nB3 : @Ne Nat (L' + 1 + 1 + 1) B) (nK1 : @Ne Nat (L' + 1) K) (nK2 : @Ne Nat (L' + 1 + 1) K) (nK3 : @Ne Nat (L' + 1 + 1 + 1) K) (hBK : @Ne Nat B K)
    (d1 : @Ne Nat I D) (d2 : @Ne Nat (L' + 1) D) (d3 : @Ne Nat (L' + 1 + 1) D) (d4 : @Ne Nat (L' + 1 + 1 + 1) D) (d5 : @Ne Nat B D) (d6 : @Ne Nat K D) (d7 : ∀ p ∈ rest, p.1 ≠ D)
    (i1 : @Ne Nat (L' + 1) I) (i2 : @Ne Nat (L' + 1 + 1) I) (i3 : @Ne Nat (L' + 1 + 1 + 1) I) (i4 : @Ne Nat B I) (i5 : @Ne Nat K I) :
    ∃ led, News g Lf h ((I, oI) :: led) ∧ (∀ p ∈ led, p.1 ≠ I) ∧ DueJ L' ns own (i + 1) led := by
  refine ⟨(L' + 1, oB) :: (L' + 1 + 1, oK) :: (L' + 1 + 1 + 1, oN) :: (D, listOf (List.toArray ys) cD) :: (K, listOf (List.toArray (ks ++ [.ref S])) c2) :: (S, listOf us.toArray c0) :: (B, listOf bs.toArray c1) :: rest, ?_, ?_, oB, oK, oN, D, K, ys, ks ++ [.ref S], cD, c2, (S, listOf us.toArray c0) :: (B, listOf bs.toArray c1) :: rest, v0, rfl, dB, dK, dN, hy, ?_, fun p hp => List.mem_cons_of_mem _ (List.mem_cons_of_mem _ (hown p hp)), ?_, ?_, ?_, ?_, ?_, ⟨d2, d3, d4⟩, ⟨nK1, nK2, nK3⟩, d6.symm⟩
  · rw [List.push_toArray] at N
    exact cb_drop N (fun p hp => by simp only [List.mem_cons] at hp ⊢; rcases hp with h | h | h | h | h | h | h | h | h <;> simp [h])
  · intro p hp
    simp only [List.mem_cons] at hp
    rcases hp with rfl | rfl | rfl | rfl | rfl | rfl | rfl | hp
    · exact i1
    · exact i2
    · exact i3
    · exact d1.symm
    · exact i5
    · exact (Nat.ne_of_lt lt.2.1).symm
    · exact i4
    · exact rI p hp
  · have e : bookAt ns (i + 1) = bookAt ns i ++ [Dat.list ((signsB (bitsAt ns (i + 1))).map Dat.str)] := by
      unfold bookAt
      rw [List.range_succ (n := i + 1), List.map_append]; rfl
    rw [e]
    exact (hk.mono fun p hp => List.mem_cons_of_mem _ (List.mem_cons_of_mem _ hp)).append (DatAll.one (.list (List.mem_cons_self ..) (dat_strs hS)))
  all_goals (intro p hp; rcases List.mem_cons.mp hp with rfl | hp; rotate_left; rcases List.mem_cons.mp hp with rfl | hp)
  · exact nB1.symm
  · exact r1 p hp
  · exact (Nat.ne_of_lt lt.2.2.1).symm
  · exact nB2.symm
  · exact r2 p hp
  · exact (Nat.ne_of_lt lt.2.2.2.1).symm
  · exact nB3.symm
  · exact r3 p hp
  · exact (Nat.ne_of_lt lt.2.2.2.2.1).symm
  · exact d5
  · exact d7 p hp
  · exact (Nat.ne_of_lt lt.1).symm
  · exact hBK
  · exact rK p hp
  · exact (Nat.ne_of_lt lt.2.2.2.2.2.2.1).symm
theorem ints_get : ∀ {vs : List Value} {ns : List Int} {i : Nat} {v : Value}, IntsAre vs ns → vs[i]? = some v → ∃ n t, v = .int n t ∧ ns[i]? = some n
  | _, _, 0, _, .cons n t _, h => ⟨n, t, (Option.some.inj h).symm, rfl⟩
  | _, _, i + 1, _, .cons _ _ h', h => ints_get (i := i) h' h
noncomputable def sgAt (ns : List Int) (j : Nat) : List Str := signsB (bitsAt ns j)
theorem strs_of {led : List (Addr × Obj)} : ∀ {us : List Value} {ss : List Str}, DatAll led us (ss.map Dat.str) → StrsAre us ss
  | _, [], .nil => .nil
  | _, _ :: _, .cons (.str x t) h => .cons x t (strs_of h)
theorem book_at {prog : Program} {w : World} {A : Around} {E Q : Value → Shared → Prop} {s : Shared} {value slice : Expr} {h₀ : Heap} {L K : Addr} {led rest : List (Addr × Obj)} {ks : List Value} {ns : List Int} {c i : Nat} {k : Int} {u : Tok} (N : News h₀ L s.heap led) (hm : (K, listOf (List.toArray ks) c) ∈ led) (hk : DatAll rest ks (bookAt ns i)) (h0 : 0 ≤ k) (h1 : k ≤ i ∧ i ≤ 20)
    (h : ∀ S us c', (S, listOf (List.toArray us) c') ∈ rest → StrsAre us (sgAt ns k.toNat) → Q (.ref S) s) (hs : subscripted slice false (.ref K) (.int k u) = operate [.ref K, .int k u] (getItem (.ref K) (.int k u)) := by with_unfolding_all rfl) :
    wpAny (model prog w) A (subscriptTail value slice (.ref K) (.int k u)) Q E s := by
  have hl : s.heap.IsList K ks.toArray := ⟨_, (N _ hm).1, rfl, _, rfl⟩
  have hlt : k.toNat < (bookAt ns i).length := by simp [bookAt]; lia
  obtain ⟨v, e, d⟩ := hk.get hlt
  have ed : (bookAt ns i)[k.toNat] = Dat.list ((sgAt ns k.toNat).map Dat.str) := by simp [bookAt, sgAt]
  rw [ed] at d
  cases d with
  | list hmem hall => exact tail_any hl.typeIs slot_list_getitem.lookup (wpAny_getItem_list hl h0 (by lia) (by simpa using e) (h _ _ _ hmem (strs_of hall))) hs
noncomputable def nearAt (ns : List Int) (k : Nat) : List Dat := (List.range k).map fun j => Dat.tuple [.int (apS (sgAt ns j) (sgAt ns (j + 1)) 9), .int 1]
noncomputable def secAt (ns : List Int) (k : Nat) : List Dat := (List.range k).map fun j => Dat.int (apS (sgAt ns (j + 2)) (sgAt ns j) 9)
theorem sg_len (ns : List Int) (j : Nat) : (sgAt ns j).length = 9 := signsB_len (bitsAt_len ns j)
theorem sg_one (ns : List Int) (j : Nat) : ∀ z ∈ sgAt ns j, one z := by
  have h : ∀ bits : List Int, ∀ z ∈ signsB bits, one z := by
    intro bits z hz
    unfold signsB at hz
    split at hz
    · simp only [signsOf, List.mem_cons, List.not_mem_nil, or_false] at hz
      rcases hz with rfl | rfl | rfl | rfl | rfl | rfl | rfl | rfl | rfl <;> exact len_item _ _
    · cases hz
  exact h _
theorem mem6 {p a b c d e f : Addr × Obj} {r : List (Addr × Obj)} (h : p ∈ r) : p ∈ a :: b :: c :: d :: e :: f :: r := by simp [h]
theorem book_last {prog : Program} {w : World} {A : Around} {E Q : Value → Shared → Prop} {s : Shared} {value slice : Expr} {h₀ : Heap} {L K : Addr} {led rest : List (Addr × Obj)} {ks : List Value} {ns : List Int} {c i : Nat} {u : Tok} (N : News h₀ L s.heap led) (hm : (K, listOf (List.toArray ks) c) ∈ led) (hk : DatAll rest ks (bookAt ns i)) (h1 : i ≤ 20)
    (h : ∀ S us c', (S, listOf (List.toArray us) c') ∈ rest → StrsAre us (sgAt ns i) → Q (.ref S) s) (hs : subscripted slice false (.ref K) (.int (-1) u) = operate [.ref K, .int (-1) u] (getItem (.ref K) (.int (-1) u)) := by with_unfolding_all rfl) :
    wpAny (model prog w) A (subscriptTail value slice (.ref K) (.int (-1) u)) Q E s := by
  have hl : s.heap.IsList K ks.toArray := ⟨_, (N _ hm).1, rfl, _, rfl⟩
  have hlt : i < (bookAt ns i).length := by simp [bookAt]
  obtain ⟨v, e, d⟩ := hk.get hlt
  have ed : (bookAt ns i)[i] = Dat.list ((sgAt ns i).map Dat.str) := by simp [bookAt, sgAt]
  have el := dat_len hk
  rw [ed] at d
  have e2 : (-1 + ((ks.toArray.size : Nat) : Int)).toNat = i := by rw [List.size_toArray, el]; lia
  cases d with
  | list hmem hall => exact tail_any hl.typeIs slot_list_getitem.lookup (wpAny_getItem_list_neg hl (by decide) (by rw [List.size_toArray, el]; lia) (by decide) (by rw [e2]; simpa using e) (h _ _ _ hmem (strs_of hall))) hs
theorem sg_sum (ns : List Int) (j : Nat) : ((sgAt ns j).map (·.length)).sum = 9 := by
  have h : ∀ ss : List Str, (∀ z ∈ ss, one z) → (ss.map (·.length)).sum = ss.length := by
    intro ss
    induction ss with
    | nil => intro _; rfl
    | cons a r ih =>
      intro h
      rw [List.map_cons, List.sum_cons, ih fun z hz => h z (List.mem_cons_of_mem _ hz), show a.length = 1 from h a (List.mem_cons_self ..), List.length_cons, Nat.add_comm]
  rw [h _ (sg_one ns j), sg_len]
theorem pair_end {I C D T : Addr} {oT : Obj} {a b c : Addr × Obj} {rest : List (Addr × Obj)} {P : Prop} (lt : @LT.lt Nat _ I T ∧ @LT.lt Nat _ C T ∧ @LT.lt Nat _ D T ∧ P) (off : LCg.Off3 I C D (a :: b :: c :: rest)) : LCg.Off3 I C D (a :: b :: c :: (T, oT) :: rest) :=
  ⟨off.1, off.2.1, off.2.2.1, ⟨(Nat.ne_of_lt lt.1).symm, (Nat.ne_of_lt lt.2.1).symm, (Nat.ne_of_lt lt.2.2.1).symm⟩, off.2.2.2⟩
theorem near_sub {I C D T a b c : Addr × Obj} {rest : List (Addr × Obj)} : ∀ p ∈ I :: C :: D :: a :: b :: c :: T :: rest, p ∈ T :: I :: C :: D :: a :: b :: c :: rest := by
  intro p hp; simp only [List.mem_cons] at hp ⊢
  rcases hp with h | h | h | h | h | h | h | h <;> simp [h]
theorem near_snoc {ns : List Int} {k n1 : Nat} {T : Addr} {t u : Tok} {ys : List Value} {rest : List (Addr × Obj)} (h : DatAll rest ys (nearAt ns k)) :
    DatAll ((T, ({ cls := .type "tuple", data := .seq #[.int (apS (sgAt ns (0 + (k : Int)).toNat) (sgAt ns (0 + (k : Int) + 1).toNat) 9) t, .int 1 u] n1 } : Obj)) :: rest) (ys ++ [.ref T]) (nearAt ns (k + 1)) := by
  have e : nearAt ns (k + 1) = nearAt ns k ++ [Dat.tuple [.int (apS (sgAt ns (0 + (k : Int)).toNat) (sgAt ns (0 + (k : Int) + 1).toNat) 9), .int 1]] := by
    unfold nearAt
    rw [List.range_succ, List.map_append, show (0 + (k : Int)).toNat = k by lia, show (0 + (k : Int) + 1).toNat = k + 1 by lia]; rfl
  rw [e]
  exact (h.mono fun p hp => List.mem_cons_of_mem _ hp).append (DatAll.one (.tuple (vs := [_, _]) (List.mem_cons_self ..) (.cons (.int _ _) (.cons (.int _ _) .nil))))
theorem sec_snoc {ns : List Int} {k : Nat} {t : Tok} {ys : List Value} {rest : List (Addr × Obj)} (h : DatAll rest ys (secAt ns k)) :
    DatAll rest (ys ++ [.int (apS (sgAt ns (0 + (k : Int) + 2).toNat) (sgAt ns (0 + (k : Int)).toNat) 9) t]) (secAt ns (k + 1)) := by
  have e : secAt ns (k + 1) = secAt ns k ++ [Dat.int (apS (sgAt ns (0 + (k : Int) + 2).toNat) (sgAt ns (0 + (k : Int)).toNat) 9)] := by
    unfold secAt
    rw [List.range_succ, List.map_append, show (0 + (k : Int)).toNat = k by lia, show (0 + (k : Int) + 2).toNat = k + 2 by lia]; rfl
  rw [e]
  exact h.append (DatAll.one (.int _ _))
noncomputable abbrev DRet (h₀ : Heap) (L : Addr) (m : Str → Option Value) (news : List (Addr × Obj)) (s : Shared) (Q : Value → Shared → Prop) (ds : List Dat) : Prop :=
  ∀ (D : Addr) (us : List Value) (c : Nat) (rest' : List (Addr × Obj)) (h' : Heap) (tk' : Nat), DatAll rest' us ds → Fr h₀ L h' m → News h₀ L h' ((D, listOf us.toArray c) :: rest') → (∀ p ∈ news, p ∈ rest') → Q (.ref D) { s with heap := h', toks := tk' }
noncomputable def dueD (ns : List Int) : List Dat := [.list (nearAt ns ns.length), .list (secAt ns (ns.length - 1)), .list [.str (Str.ofString "-" ++ Txt.join (Str.ofString "") (sgAt ns ns.length)), .str (Str.ofString "it's a")]]
theorem mem5 {p a b c d e : Addr × Obj} {r : List (Addr × Obj)} (h : p ∈ r) : p ∈ a :: b :: c :: d :: e :: r := by simp [h]
theorem mem7 {p a b c d e f g : Addr × Obj} {r : List (Addr × Obj)} (h : p ∈ r) : p ∈ a :: b :: c :: d :: e :: f :: g :: r := by simp [h]
theorem one_sOf {z : Str} (h : one z) : z = sOf [(cl z).getD 0 0] := by
  have hl : (cl z).length = 1 := by rw [len_cl]; exact h
  match hc : cl z, hl with
  | [c], _ => rw [← sOf_cl z, hc]; rfl
noncomputable def signC (ss : List Str) : List Nat := ss.map fun z => (cl z).getD 0 0
theorem ones_sOf : ∀ {ss : List Str}, (∀ z ∈ ss, one z) → ss = (signC ss).map fun c => sOf [c]
  | [], _ => rfl
  | z :: r, h => by
    have ih := ones_sOf (ss := r) fun y hy => h y (List.mem_cons_of_mem _ hy)
    have e := one_sOf (h z (List.mem_cons_self ..))
    simp only [signC, List.map_cons] at ih ⊢
    rw [← e, ← ih]
theorem join_sg (ns : List Int) (j : Nat) : Txt.join (Str.ofString "") (sgAt ns j) = sOf (signC (sgAt ns j)) := by
  have e := ones_sOf (sg_one ns j)
  have hl : (signC (sgAt ns j)).length = 9 := by simp [signC, sg_len]
  have q := join_signs (signC (sgAt ns j)) (n := 9) hl
  rw [List.take_of_length_le (by lia), ← e] at q
  exact q
theorem join_len (ns : List Int) (j : Nat) : (Txt.join (Str.ofString "") (sgAt ns j)).length = 9 := by
  rw [join_sg, len_sOf]; simp [signC, sg_len]
theorem due_near {g h : Heap} {Lf : Addr} {a b d e f q : Addr × Obj} {rest : List (Addr × Obj)} (N : News g Lf h (a :: b :: d :: e :: f :: rest)) (hq : q ∈ rest) : News g Lf h (b :: f :: q :: rest) :=
  cb_drop N (fun p hp => by simp only [List.mem_cons] at hp ⊢; rcases hp with h | h | h | h <;> simp [h, hq])
theorem due_c (w : World) (mean : ExcName → Option Value) (mg mb : Str → Option Value) (l : Addr) (vs : List Value) (ns : List Int) (c : Nat) (news : List (Addr × Obj)) (dp un : Nat) (gd : Option (List Code)) (cn : Str) (cs : Scope) (a : Addr) (ccd : Value) (cel : List (Str × Addr)) (outer : List Env) (A₀ : Around) (base h₀ : Heap) (L : Addr) (m : Str → Option Value) (s : Shared) (Q E : Value → Shared → Prop)
    (hB : Below A₀ base outer h₀) (hF : Fr h₀ L s.heap m) : (Mine.K w.params).In h₀ → News h₀ L s.heap ((l, listOf vs.toArray c) :: news) → Top Mine.vw loose mean mg mb h₀ → cs.kind = .function → dp + 100 < recursionLimit → un + 900 < cLine → IntsAre vs ns → 1 ≤ ns.length → ns.length ≤ 20 → DRet h₀ L m ((l, listOf vs.toArray c) :: news) s Q (dueD ns) →
    wpAny (model PySem.Challenge.pw_ny0408_02 w) { handled := none, depth := dp, frames := some (envX cn cs L a ccd cel :: outer), guards := gd, units := un } (call (.ref 844) [.ref l]) Q E s := by
  refine fill ?_
  k_fill
  intro _ hX hN hT hK hdp hun hvs hn1 hn2 hret
  refine wpAny_call ?_
  k_dflt (refine' code_defC ?k1 ?k2 ?k3 ?k4 ?k5 ?kA ?kF ?kK ?k6 ?k7 ?k8 ?k9 ?kB ?kD ?_ ?c2 ?c3 ?c4; (case kA => exact rfl); (case kF => exact rfl); (case kK => assumption); (case k1 => k_asm); (case k2 => k_asm); (case k3 => k_asm); (case k4 => k_asm); (case k5 => k_asm); (case k6 => k_is); (case k7 => k_is); (case k8 => k_room); (case k9 => exact BindsTo.of_eq rfl); (case kB => exact rfl); (case kD => decide +kernel); (case c2 => exact rfl); (case c3 => exact rfl); (case c4 => exact rfl); k_whole; intro g' L' h' tk' cells' FG' F' N' Y' B' X' T' l1; (try k_lt l1); k_cells Y'; (try simp only [List.cons_append, List.nil_append] at N'); (try dsimp only); (try k_lift B'); (try k_fold))
  have hlt := lt_all l1.2
  have hne0 : ∀ p ∈ news, p.1 ≠ L' := fun p hp e => absurd (hlt p hp) (by rw [e]; exact Nat.lt_irrefl _)
  have hne1 : ∀ p ∈ news, p.1 ≠ L' + 1 := fun p hp e => by have := hlt p hp; rw [e] at this; exact absurd this (Nat.not_lt_of_le (Nat.le_add_right L' 1))
  have hne2 : ∀ p ∈ news, p.1 ≠ L' + 1 + 1 := fun p hp e => by have := hlt p hp; rw [e] at this; exact absurd this (Nat.not_lt_of_le (Nat.le_add_right L' 2))
  have hne3 : ∀ p ∈ news, p.1 ≠ L' + 1 + 1 + 1 := fun p hp e => by have := hlt p hp; rw [e] at this; exact absurd this (Nat.not_lt_of_le (Nat.le_add_right L' 3))
  k_with_none
  k_with "call ref" => refine halt ?_
  k_steps
  unfold Halt
  rename News _ _ _ _ => N9
  refine signs_b w mean mg mb _ _ _ [1, 0, 1, 1, 0, 1, 1, 1, 1, 0, 0, 1] _ _ _ _ _ _ _ _ _ _ _ _ _ _ _ _ _ _ B' (by k_asm) X' N9 T' rfl ?_ ?_ ?_ ?_ ?_
  · exact .cons _ _ (.cons _ _ (.cons _ _ (.cons _ _ (.cons _ _ (.cons _ _ (.cons _ _ (.cons _ _ (.cons _ _ (.cons _ _ (.cons _ _ (.cons _ _ .nil)))))))))))
  · exact ⟨rfl, by decide⟩
  · simp only [depth_deeper]; lia
  · simp only [units_deeper]; lia
  intro S0 us0 c0 h9 tk9 hS0 F9 N9 lt9
  k_lt lt9
  try dsimp only
  k_with_none
  k_steps
  refine wpAny_For ?_
  k_with "pyIter ref" => refine halt ?_
  k_steps
  unfold Halt
  rename Fr _ _ _ _ => F1
  rename News _ _ _ _ => N1
  have F2 := toB [(Str.ofString "steps", .ref l)] F1 (by kst_all)
  obtain ⟨led0, N2, J0⟩ := due_start (own := (l, listOf vs.toArray c) :: news) (ns := ns) N1 hS0 (.cons _ _ (.cons _ _ (.cons _ _ (.cons _ _ (.cons _ _ (.cons _ _ (.cons _ _ (.cons _ _ (.cons _ _ (.cons _ _ (.cons _ _ (.cons _ _ .nil)))))))))))) (by assumption) (by assumption) (by assumption) (by assumption) lt9 (by assumption) l1
  have hm : ∀ i led, DueJ L' ns ((l, listOf vs.toArray c) :: news) i led → (l, listOf vs.toArray c) ∈ led := by
    rintro i n ⟨oB, oK, oN, B, K, bs, ks, c1, c2, rest, v0, rfl, h⟩
    have := h.2.2.2.2.2.1 _ (List.mem_cons_self ..)
    simp [this]
  refine forG (fun i gs m' led => gs = s.gens ∧ m' = _ ∧ DueJ L' ns ((l, listOf vs.toArray c) :: news) i led) rfl F2 N2 (hm _ _ J0) (fun i gs m' n h => hm _ _ h.2.2) ⟨rfl, rfl, J0⟩ ?_ ?_ ?_
  · k_steps
  · rintro I oI i v m₁ led h₁ tk₁ gs₁ hv ⟨rfl, rfl, oB, oK, oN, B, K, bs, ks, c1, c2, rest, v0, rfl, dB, dK, dN, hbs, hks, hown, r1, r2, r3, rB, rK, ⟨nB1, nB2, nB3⟩, ⟨nK1, nK2, nK3⟩, hBK⟩ hI F₁ N₁
    obtain ⟨n, t, rfl, hn⟩ := ints_get hvs hv
    clear F1 F2 N1 N2 J0 hm
    have i1 : @Ne Nat (L' + 1) I := hI (L' + 1, oB) (by simp)
    have i2 : @Ne Nat (L' + 1 + 1) I := hI (L' + 1 + 1, oK) (by simp)
    have i3 : @Ne Nat (L' + 1 + 1 + 1) I := hI (L' + 1 + 1 + 1, oN) (by simp)
    have i4 : @Ne Nat B I := hI (B, listOf (List.toArray bs) c1) (by simp)
    have i5 : @Ne Nat K I := hI (K, listOf (List.toArray ks) c2) (by simp)
    have rI : ∀ p ∈ rest, p.1 ≠ I := fun p hp => hI p (by simp [hp])
    clear hI
    simp only [kstB] at F₁
    k_with_none
    k_steps
    unfold Halt
    refine LCg.ListComp_U (F₀ := by k_asm) (by with_unfolding_all rfl) (by decide) (by rfl) (by decide) (by rfl) ?_
    k_steps
    unfold Halt
    rename Fr _ _ _ _ => F3
    rename News _ _ _ _ => N3
    refine LCg.CompSrc.range (by rfl) F3 N3 (by assumption) (by decide) (n := 12) (by rfl) (by decide) ?_
    intro gg
    refine compJ (fun k ys led => led = _ ∧ IntsAre ys ((flipB (bitsAt ns i) n).take k)) ⟨rfl, .nil⟩ ?_ ?_
    · rintro k ys _ v I2 oI2 C oC D m₂ hh tkk E' hk ⟨rfl, hys⟩ ⟨tv, rfl⟩ hC hx F4 N4 off ne
      clear F3 N3 F₁ N₁
      dsimp only
      k_with_none
      have hlb := bitsAt_len ns i
      have hn12 := fmod12 n
      k_with "subscriptTail Name Name ref int" => ((with_reducible rename News _ _ _ _ => N9); (refine' int_at N9 ?ha hbs ?hb ?hc ?_); (case ha => k_mem); (case hb => lia); (case hc => lia); intro _)
      k_steps
      · exact LCg.CompEnd.intro (by k_asm) N4 _ (fun p hp => hp) off trivial ⟨rfl, flip_yes hk (by assumption) hys⟩
      · exact LCg.CompEnd.intro (by k_asm) N4 _ (fun p hp => hp) off trivial ⟨rfl, flip_no hk (by assumption) hys⟩
    · rintro ys _ ⟨rfl, hys⟩ D hh tkk F4 N4 off
      have hys := flip_all hys
      have hil : i < ns.length := (List.getElem?_eq_some_iff.mp hn).1
      have hkl := dat_len hks
      have eb : flipB (bitsAt ns i) n = bitsAt ns (i + 1) := by rw [bitsAt, List.getD_eq_getElem?_getD, hn]; rfl
      rw [eb] at hys
      obtain ⟨d1, d2, d3, d4, d5, d6, d7⟩ := off
      replace d7 := off1_all d7
      clear F3 N3 F₁ N₁
      dsimp only
      k_with_none
      k_with "call ref" => refine halt ?_
      k_steps
      unfold Halt
      rename News _ _ _ _ => N5
      refine signs_b w mean mg mb D ys ys.length (bitsAt ns (i + 1)) _ _ _ _ _ _ _ _ _ _ _ _ _ _ _ _ _ _ B' (by k_asm) X' N5 T' rfl hys (bits_ok ns (i + 1)) ?_ ?_ ?_
      · simp only [depth_deeper]; lia
      · simp only [units_deeper]; lia
      intro S1 us1 cS h6 tk6 hS1 F6 N6 lt6
      k_lt lt6
      try dsimp only
      k_with_none
      k_with "call builtin:list.append" => (k_dflt (refine' append_K ?k1 ?k2 ?k3 ?_ ?z; (case k1 => k_asm); (case k2 => k_asm); (case k3 => k_upd); (case z => exact ks_fit hkl hil hn2); k_whole); intro h' F' N'; (try k_sweep))
      k_steps
      obtain ⟨led', N7, off7, J7⟩ := due_turn N' hS1 hys hks (by assumption) (by assumption) (by assumption) lt6 hown r1 r2 r3 rB rK rI nB1 nB2 nB3 nK1 nK2 nK3 hBK d1 d2 d3 d4 d5 d6 d7 i1 i2 i3 i4 i5
      (with_reducible rename Fr _ _ _ _ => F9)
      exact ⟨_, _, _, _, led', rfl, F9, N7, off7, rfl, rfl, J7⟩
  · rintro h9 tk9 gs9 m9 led9 F8 N8 ⟨rfl, rfl, oB, oK, oN, B, K, bs, ks, c1, c2, rest, v0, rfl, dB, dK, dN, hbs, hks, hown, r1, r2, r3, rB, rK, ⟨nB1, nB2, nB3⟩, ⟨nK1, nK2, nK3⟩, hBK⟩
    clear F1 F2 N1 N2 J0 hm
    rw [hvs.length] at hbs hks
    simp only [kstB] at F8
    dsimp only
    k_with_none
    k_steps
    unfold Halt
    replace N8 := due_near N8 (hown _ (List.mem_cons_self ..))
    have hvl := hvs.length
    refine LCg.Assign_ListComp_U (F₀ := by k_asm) (by rfl) (by with_unfolding_all rfl) (by with_unfolding_all rfl) (by decide) (by rfl) (by decide) (by rfl) (by rfl) (by rfl) ?_
    k_steps
    unfold Halt
    (with_reducible rename Fr _ _ _ _ => F3)
    (with_reducible rename News _ _ _ _ => N3)
    refine LCg.CompSrc.range (by rfl) F3 N3 (by assumption) (small_one (by decide) (by decide) (by lia) (by lia)) (n := ns.length) (rangeSize_nat _ _) (by rw [PySem.sizeLine_eq]; lia) ?_
    intro gg
    refine compJ (fun k ys led => ∃ rest', led = (L' + 1 + 1, oK) :: (K, listOf (List.toArray ks) c2) :: (l, listOf vs.toArray c) :: rest' ∧ (∀ p ∈ rest, p ∈ rest') ∧ DatAll rest' ys (nearAt ns k)) ⟨_, rfl, fun p hp => hp, .nil⟩ ?_ ?_
    · rintro k ys _ v I2 oI2 C oC D m₂ hh tkk E' hk ⟨rest', rfl, hsub, hys⟩ ⟨tv, rfl⟩ hC hx F4 N4 off ne
      clear F3 N3
      dsimp only
      k_with_none
      k_with "subscriptTail Name Name ref int" => ((with_reducible rename News _ _ _ _ => N9); (refine' book_at N9 ?ha hks ?hb ?hc ?_); (case ha => k_mem); (case hb => lia); (case hc => lia); intro _ _ _ _ _)
      k_with "subscriptTail Name BinOp ref int" => ((with_reducible rename News _ _ _ _ => N9); (refine' book_at N9 ?ha hks ?hb ?hc ?_); (case ha => k_mem); (case hb => lia); (case hc => lia); intro _ _ _ _ _)
      k_with "call ref" => refine halt ?_
      k_steps
      unfold Halt
      (with_reducible rename News _ _ _ _ => N9)
      refine apart_c w mean mg mb _ _ _ _ _ _ (sgAt ns (0 + (k : Int)).toNat) (sgAt ns (0 + (k : Int) + 1).toNat) _ _ _ _ _ _ _ _ _ _ _ _ _ _ _ _ _ _ B' (by k_asm) X' N9 T' rfl ⟨mem6 (hsub _ (by assumption)), mem6 (hsub _ (by assumption)), by assumption, by assumption, sg_len _ _, sg_len _ _, sg_one _ _, sg_one _ _⟩ ?_ ?_ ?_
      · simp only [depth_deeper]; lia
      · simp only [units_deeper]; lia
      intro t6 h6 tk6 F6 N6
      try dsimp only
      k_with_none
      k_steps
      (with_reducible rename News _ _ _ _ => N7)
      exact LCg.CompEnd.intro (by k_asm) N7 _ near_sub (pair_end (by assumption) off) trivial ⟨_, rfl, fun p hp => List.mem_cons_of_mem _ (hsub p hp), near_snoc hys⟩
    · rintro ys _ ⟨rest', rfl, hsub, hys⟩ D hh tkk F4 N4 off
      clear F3 N3
      dsimp only
      k_with_none
      k_steps
      unfold Halt
      refine LCg.ListComp_U (F₀ := by k_asm) (by with_unfolding_all rfl) (by decide) (by rfl) (by decide) (by rfl) ?_
      k_steps
      unfold Halt
      (with_reducible rename Fr _ _ _ _ => F3)
      (with_reducible rename News _ _ _ _ => N3)
      refine LCg.CompSrc.range (by rfl) F3 N3 (by assumption) (small_one (by decide) (by decide) (by lia) (by lia)) (n := ns.length - 1) ((rangeSize_nat _ _).trans (by lia)) (by rw [PySem.sizeLine_eq]; lia) ?_
      intro gg2
      refine compJ (fun k zs led => led = _ ∧ DatAll [] zs (secAt ns k)) ⟨rfl, .nil⟩ ?_ ?_
      · rintro k zs _ v I2 oI2 C oC D2 m₂ hh tkk E' hk ⟨rfl, hzs⟩ ⟨tv, rfl⟩ hC hx F4 N4 off ne
        clear F3 N3
        dsimp only
        k_with_none
        k_with "subscriptTail Name Name ref int" => ((with_reducible rename News _ _ _ _ => N9); (refine' book_at N9 ?ha hks ?hb ?hc ?_); (case ha => k_mem); (case hb => lia); (case hc => lia); intro _ _ _ _ _)
        k_with "subscriptTail Name BinOp ref int" => ((with_reducible rename News _ _ _ _ => N9); (refine' book_at N9 ?ha hks ?hb ?hc ?_); (case ha => k_mem); (case hb => lia); (case hc => lia); intro _ _ _ _ _)
        k_with "call ref" => refine halt ?_
        k_steps
        unfold Halt
        (with_reducible rename News _ _ _ _ => N9)
        refine apart_c w mean mg mb _ _ _ _ _ _ (sgAt ns (0 + (k : Int) + 2).toNat) (sgAt ns (0 + (k : Int)).toNat) _ _ _ _ _ _ _ _ _ _ _ _ _ _ _ _ _ _ B' (by k_asm) X' N9 T' rfl ⟨mem7 (hsub _ (by assumption)), mem7 (hsub _ (by assumption)), by assumption, by assumption, sg_len _ _, sg_len _ _, sg_one _ _, sg_one _ _⟩ ?_ ?_ ?_
        · simp only [depth_deeper]; lia
        · simp only [units_deeper]; lia
        intro t6 h6 tk6 F6 N6
        exact LCg.CompEnd.intro F6 N6 _ (fun p hp => hp) off trivial ⟨rfl, sec_snoc hzs⟩
      · rintro zs _ ⟨rfl, hzs⟩ D2 hh tkk F4 N4 off2
        clear F3 N3
        dsimp only
        k_with_none
        k_with "subscriptTail Name UnaryOp ref int" => ((with_reducible rename News _ _ _ _ => N9); (refine' book_last N9 ?ha hks ?hc ?_); (case ha => k_mem); (case hc => lia); intro S9 us9 c9 hm9 hS9)
        k_steps
        refine join_list (ys := sgAt ns ns.length) ⟨_, (N9 _ (mem5 (hsub _ hm9))).1, rfl, _, rfl⟩ (show StrsAre (List.toArray us9).toList _ from hS9) (by rw [sg_sum, sg_len]; decide) ?_
        intro t7 k7
        try dsimp only
        k_with_none
        k_with "binaryOp Add str str" => ((refine PyProof.Rows.add_str (hsz := by rw [join_len]; decide) ?_); intro _ _)
        k_steps
        (with_reducible rename News _ _ _ _ => NZ)
        refine hret _ [.ref D, .ref D2, .ref _] _ _ _ _ (.cons (.list (.tail _ (.tail _ (.head _))) (hys.mono fun p hp => mem6 hp)) (.cons (.list (.tail _ (.head _)) (hzs.mono fun p hp => absurd hp List.not_mem_nil)) (.cons (.list (vs := [_, _]) (.head _) (.cons (.str _ _) (.cons (.str _ _) .nil))) .nil))) (by k_asm) NZ (fun p hp => mem6 (hsub p (hown p hp)))
end
section
set_option maxRecDepth 100000
set_option maxHeartbeats 4000000
noncomputable def modeAt (ns : List Int) : Nat → Int
  | 0 => 2541
  | i + 1 => Builtin.bitXor (modeAt ns i) (2 ^ ((ns.getD i 0).fmod 12).toNat)
noncomputable def fmL (m : Int) : List Nat := fmChars (32768 + m)
noncomputable def fmS (m : Int) : Str := sOf (fmL m)
noncomputable def FmOk (m : Int) : Prop := 0 ≤ m ∧ m < 4096 ∧ ∀ c ∈ fmL m, c ∈ [45, 114, 119, 120, 83, 115, 84, 116]
noncomputable def tailL : List Nat := [39, 105, 116, 39, 34, 39, 34, 39, 115, 32, 97, 39]
noncomputable def rowL (m : Int) : List Nat := fmL m ++ 32 :: tailL
noncomputable def rowS (m : Int) : Str := sOf (rowL m)
noncomputable def nameS : Str := Str.ofString "it's a"
noncomputable def rowsAt (ns : List Int) (i : Nat) : List Str := (List.range (i + 1)).map fun j => rowS (modeAt ns j)
theorem fm_len (m : Int) : (fmL m).length = 10 := by simp [fmL, fmChars]
theorem fm_safe {m : Int} (h : FmOk m) : (cl (fmS m)).all safe = true := by
  rw [fmS, cl_sOf, List.all_eq_true]
  intro c hc
  have := h.2.2 c hc
  have key : ∀ c ∈ [45, 114, 119, 120, 83, 115, 84, 116], safe c = true := by decide +kernel
  exact key c this
theorem quote_fm {m : Int} (h : FmOk m) : quoteS (fmS m) = fmS m := by
  have hl : (fmS m).length = 10 := by rw [fmS, len_sOf, fm_len]
  unfold quoteS
  rw [if_neg (by lia), if_pos (fm_safe h)]
theorem quote_name : quoteS nameS = sOf tailL := by decide +kernel
theorem name_ok : quoteOk nameS := ⟨by decide +kernel, .inr (by decide +kernel)⟩
theorem fm_ok {m : Int} (h : FmOk m) : quoteOk (fmS m) := ⟨by rw [fmS, len_sOf, fm_len]; decide, .inl (fm_safe h)⟩
theorem pre_row {m : Int} {t1 t2 : Tok} {news : List (Addr × Obj)} (h : FmOk m) (hn : ∀ p ∈ news, p.1 ≠ 760) :
    [(fmS m, t1), (nameS, t2)].length ≤ 100 ∧ (∀ x ∈ [(fmS m, t1), (nameS, t2)], quoteOk x.1) ∧ JoinOk (Str.ofString " ") ([(fmS m, t1), (nameS, t2)].map fun x => quoteS x.1) = true ∧ ∀ p ∈ news, p.1 ≠ 760 := by
  refine ⟨by simp, fun x hx => ?_, ?_, hn⟩
  · simp only [List.mem_cons, List.not_mem_nil, or_false] at hx
    rcases hx with rfl | rfl
    · exact fm_ok h
    · exact name_ok
  · refine joinOk_of ?_
    simp only [List.map_cons, List.map_nil, quote_fm h, quote_name]
    have e1 : (Str.ofString " ").length = 1 := by decide +kernel
    simp only [List.sum_cons, List.sum_nil, List.length_cons, List.length_nil, e1, fmS, len_sOf, fm_len, tailL]
    lia
theorem row_eq {m : Int} (h : FmOk m) : joinS [fmS m, nameS] = rowS m := by
  unfold joinS
  rw [List.map_cons, List.map_cons, List.map_nil, quote_fm h, quote_name]
  have hg : (Str.ofString " ").cps = #[32] := by decide +kernel
  unfold Txt.join Builtin.Str.glued
  simp [hg, fmS, rowS, rowL, sOf]
theorem row_len (m : Int) : (rowS m).length = 23 := by rw [rowS, len_sOf, rowL, List.length_append, fm_len]; rfl
theorem row_ok {m : Int} (h : FmOk m) : ∀ c ∈ cl (rowS m), okC c := by
  rw [rowS, cl_sOf, rowL]
  intro c hc
  rcases List.mem_append.mp hc with hc | hc
  · have key : ∀ c ∈ [45, 114, 119, 120, 83, 115, 84, 116], c ≠ 10 ∧ c ≠ 92 := by decide
    exact key c (h.2.2 c hc)
  · have key : ∀ c ∈ 32 :: tailL, c ≠ 10 ∧ c ≠ 92 := by decide
    exact key c hc
theorem lex_word : ∀ (w tok : List Nat) (r : List Nat) (q : Bool), (∀ c ∈ w, c ∈ [45, 114, 119, 120, 83, 115, 84, 116]) → lexR (w ++ r) .wd tok q = lexR r .wd (tok ++ w) q
  | [], tok, r, q, _ => by simp
  | c :: w, tok, r, q, h => by
    have key : ∀ c ∈ [45, 114, 119, 120, 83, 115, 84, 116], isWs c = false ∧ isQc c = false := by decide
    have k := key c (h c (List.mem_cons_self ..))
    rw [List.cons_append, lexR, k.1, k.2]
    simp only [Bool.false_eq_true, if_false]
    rw [lex_word w _ r q fun d hd => h d (List.mem_cons_of_mem _ hd), List.append_assoc]
    rfl
theorem lex_row {m : Int} (h : FmOk m) : LexTo (cl (rowS m)) [fmL m, cl nameS] := by
  rw [rowS, cl_sOf, rowL]
  have hl := fm_len m
  have hc := h.2.2
  generalize fmL m = w at hl hc
  cases w with
  | nil => simp at hl
  | cons c w =>
    have key : ∀ c ∈ [45, 114, 119, 120, 83, 115, 84, 116], isWs c = false ∧ isQc c = false := by decide
    have k := key c (hc c (List.mem_cons_self ..))
    refine .more (rem' := tailL) (q := false) ?_ (by simp) (.last (q := true) (by kernel_rfl) (by simp))
    rw [List.cons_append, lexR, k.1, k.2]
    simp only [Bool.false_eq_true, if_false]
    rw [lex_word w [c] _ _ fun d hd => hc d (List.mem_cons_of_mem _ hd)]
    rfl
end
section
set_option maxRecDepth 100000
theorem join_row {w : World} {mean : ExcName → Option Value} {mg mb : Str → Option Value} {v : Int} {t1 t2 : Tok} {l : Addr} {tb : Option Addr} {news : List (Addr × Obj)} (hv : FmOk v) (hn : ∀ p ∈ news, p.1 ≠ 760)
    {dp un : Nat} {gd : Option (List Code)} {cn : Str} {cs : Scope} {a : Addr} {ccd : Value} {cel : List (Str × Addr)} {outer : List Env} {A₀ : Around} {base h₀ : Heap} {L : Addr} {m : Str → Option Value} {s : Shared} {Q E : Value → Shared → Prop}
    (B : Below A₀ base outer h₀) (F : Fr h₀ L s.heap m) (X : (Mine.K w.params).In h₀) (N : News h₀ L s.heap ((760, tabO tb) :: (l, listOf (List.toArray [.str (fmS v) t1, .str nameS t2]) 0) :: news)) (T : Top Mine.vw loose mean mg mb h₀) (hk : cs.kind = .function) (hd : dp + 50 < recursionLimit) (hu : un + 450 < cLine) (G : AllBare s.gens)
    (h : ∀ (t : Tok) (h' : Heap) (tk : Nat) (gs' : Array GenState) (tb' : Option Addr), AllBare gs' → Fr h₀ L h' m → News h₀ L h' ((760, tabO tb') :: (l, listOf (List.toArray [.str (fmS v) t1, .str nameS t2]) 0) :: news) → Q (.str (rowS v) t) { s with heap := h', gens := gs', toks := tk }) :
    wpAny (model PySem.Challenge.pw_ny0408_02 w) (ktrTop dp un gd cn cs L a ccd cel outer) (call (.ref 765) [.ref l]) Q E s := by
  refine join_c w mean mg mb [(fmS v, t1), (nameS, t2)] l tb news _ _ _ _ _ _ _ _ _ _ _ _ _ _ _ _ _ B F X N T hk (pre_row hv hn) hd hu G ?_
  intro t h' tk gs tb' G' F' N'
  have e : joinS ([(fmS v, t1), (nameS, t2)].map (·.1)) = rowS v := row_eq hv
  rw [e]
  exact h t h' tk gs tb' G' F' N'
theorem join_ord {g h : Heap} {L : Addr} {A B C : Addr × Obj} {r : List (Addr × Obj)} (N : News g L h (A :: B :: C :: r)) : News g L h (C :: A :: B :: r) :=
  cb_drop N (fun p hp => by simp only [List.mem_cons] at hp ⊢; rcases hp with h | h | h | h <;> simp [h])
end
section
set_option maxRecDepth 100000
set_option maxHeartbeats 8000000
local macro_rules | `(tactic| walk_at "exec Assign cons ListComp") => `(tactic| (refine halt ?_))
local macro_rules | `(tactic| walk_at "pyIter ref") => `(tactic| (refine halt ?_))
local macro_rules | `(tactic| walk_at "exec For Name Name cons nil") => `(tactic| (refine halt ?_))
theorem ints_getT : ∀ {vs : List Value} {ns : List Int} {i : Nat} {v : Value}, IntsAre vs ns → vs[i]? = some v → ∃ n t, v = .int n t ∧ ns[i]? = some n
  | _, _, 0, _, .cons n t _, h => ⟨n, t, (Option.some.inj h).symm, rfl⟩
  | _, _, i + 1, _, .cons _ _ h', h => ints_getT (i := i) h' h
theorem rows_fit {ks : List Value} {ns : List Int} {i n : Nat} (h : StrsAre ks (rowsAt ns i)) (hi : i < n) (hn : n ≤ 20) : ks.toArray.size ≤ sizeLine := by
  rw [List.size_toArray, h.length, rowsAt, List.length_map, List.length_range]
  exact Nat.le_trans (by lia : i + 1 ≤ 21) (by decide)
noncomputable def ToldJ (L' l : Addr) (ns : List Int) (own : List (Addr × Obj)) (i : Nat) (gs : Array GenState) (m' : Str → Option Value) (led : List (Addr × Obj)) : Prop :=
  ∃ u t tb oR R rs c1 rest, m' = kstB u [(Str.ofString "mode", .int (modeAt ns i) t), (Str.ofString "steps", .ref l)] ∧ AllBare gs ∧ led = (L' + 1, oR) :: (760, tabO tb) :: (R, listOf (List.toArray rs) c1) :: rest ∧
    oR.data = .cell (some (.ref R)) ∧ StrsAre rs (rowsAt ns i) ∧ (∀ p ∈ own, p ∈ rest) ∧ (∀ p ∈ rest, p.1 ≠ L' + 1) ∧ (∀ p ∈ rest, p.1 ≠ 760) ∧ (∀ p ∈ rest, p.1 ≠ R) ∧ (@Ne Nat (L' + 1) 760) ∧ (@Ne Nat (L' + 1) R) ∧ (@Ne Nat 760 R)
theorem strs_snocT {x : Str} {t : Tok} : ∀ {us : List Value} {ps : List Str}, StrsAre us ps → StrsAre (us ++ [.str x t]) (ps ++ [x])
  | _, _, .nil => .cons x t .nil
  | _, _, .cons y u h => .cons y u (strs_snocT h)
theorem told_turn {g h : Heap} {Lf L' l I R M : Addr} {vM rs : List Value} {c1 cM i : Nat} {t2 : Tok} {tb : Option Addr} {oR oI : Obj} {rest own : List (Addr × Obj)} {ns : List Int}
    (N : News g Lf h ((760, tabO tb) :: (M, listOf vM.toArray cM) :: (I, oI) :: (L' + 1, oR) :: (R, listOf (rs.toArray.push (.str (rowS (modeAt ns (i + 1))) t2)) c1) :: rest)) (dR : oR.data = .cell (some (.ref R)))
    (hrs : StrsAre rs (rowsAt ns i)) (hown : ∀ p ∈ own, p ∈ rest) (r1 : ∀ p ∈ rest, p.1 ≠ L' + 1) (r2 : ∀ p ∈ rest, p.1 ≠ 760) (r3 : ∀ p ∈ rest, p.1 ≠ R) (rI : ∀ p ∈ rest, p.1 ≠ I)
    (nA : @Ne Nat (L' + 1) 760) (nB : @Ne Nat (L' + 1) R) (nC : @Ne Nat 760 R) (i1 : @Ne Nat (L' + 1) I) (i2 : @Ne Nat 760 I) (i3 : @Ne Nat R I) :
    ∃ led, News g Lf h ((I, oI) :: led) ∧ (∀ p ∈ led, p.1 ≠ I) ∧ ∀ (u : Str → Option Value) t gs, AllBare gs → ToldJ L' l ns own (i + 1) gs (kstB u [(Str.ofString "mode", .int (modeAt ns (i + 1)) t), (Str.ofString "steps", .ref l)]) led := by
  refine ⟨(L' + 1, oR) :: (760, tabO tb) :: (R, listOf (List.toArray (rs ++ [.str (rowS (modeAt ns (i + 1))) t2])) c1) :: rest, ?_, ?_, fun u t gs G => ⟨u, t, tb, oR, R, _, c1, rest, rfl, G, rfl, dR, ?_, hown, r1, r2, r3, nA, nB, nC⟩⟩
  · rw [List.push_toArray] at N
    exact cb_drop N (fun p hp => by simp only [List.mem_cons] at hp ⊢; rcases hp with h | h | h | h | h <;> simp [h])
  · intro p hp
    simp only [List.mem_cons] at hp
    rcases hp with rfl | rfl | rfl | hp
    · exact i1
    · exact i2
    · exact i3
    · exact rI p hp
  · have e : rowsAt ns (i + 1) = rowsAt ns i ++ [rowS (modeAt ns (i + 1))] := by
      unfold rowsAt
      rw [List.range_succ (n := i + 1), List.map_append]; rfl
    rw [e]
    exact strs_snocT hrs
theorem told_ord {g h : Heap} {L : Addr} {A B C D E : Addr × Obj} {r : List (Addr × Obj)} (N : News g L h (A :: B :: C :: D :: E :: r)) : News g L h (D :: A :: B :: C :: E :: r) :=
  cb_drop N (fun p hp => by simp only [List.mem_cons] at hp ⊢; rcases hp with h | h | h | h | h | h <;> simp [h])
theorem row_at {prog : Program} {w : World} {A : Around} {E Q : Value → Shared → Prop} {s : Shared} {value slice : Expr} {h₀ : Heap} {L R : Addr} {led : List (Addr × Obj)} {rs : List Value} {ns : List Int} {c i : Nat} {k : Int} {u : Tok} (N : News h₀ L s.heap led) (hm : (R, listOf (List.toArray rs) c) ∈ led) (hr : StrsAre rs (rowsAt ns i)) (h0 : 0 ≤ k) (h1 : k ≤ i ∧ i ≤ 20)
    (h : ∀ t, Q (.str (rowS (modeAt ns k.toNat)) t) s) (hs : subscripted slice false (.ref R) (.int k u) = operate [.ref R, .int k u] (getItem (.ref R) (.int k u)) := by with_unfolding_all rfl) :
    wpAny (model prog w) A (subscriptTail value slice (.ref R) (.int k u)) Q E s := by
  have hl : s.heap.IsList R rs.toArray := ⟨_, (N _ hm).1, rfl, _, rfl⟩
  have hlt : k.toNat < i + 1 := by lia
  obtain ⟨t, e⟩ := hr.get k.toNat (rowS (modeAt ns k.toNat)) (by simp [rowsAt, hlt])
  exact tail_any hl.typeIs slot_list_getitem.lookup (wpAny_getItem_list hl h0 (by lia) (by simpa using e) (h t)) hs
theorem row_last {prog : Program} {w : World} {A : Around} {E Q : Value → Shared → Prop} {s : Shared} {value slice : Expr} {h₀ : Heap} {L R : Addr} {led : List (Addr × Obj)} {rs : List Value} {ns : List Int} {c i : Nat} {u : Tok} (N : News h₀ L s.heap led) (hm : (R, listOf (List.toArray rs) c) ∈ led) (hr : StrsAre rs (rowsAt ns i)) (h1 : i ≤ 20)
    (h : ∀ t, Q (.str (rowS (modeAt ns i)) t) s) (hs : subscripted slice false (.ref R) (.int (-1) u) = operate [.ref R, .int (-1) u] (getItem (.ref R) (.int (-1) u)) := by with_unfolding_all rfl) :
    wpAny (model prog w) A (subscriptTail value slice (.ref R) (.int (-1) u)) Q E s := by
  have hl : s.heap.IsList R rs.toArray := ⟨_, (N _ hm).1, rfl, _, rfl⟩
  obtain ⟨t, e⟩ := hr.get i (rowS (modeAt ns i)) (by simp [rowsAt])
  have el : rs.length = i + 1 := by rw [hr.length]; simp [rowsAt]
  have e2 : (-1 + ((rs.toArray.size : Nat) : Int)).toNat = i := by rw [List.size_toArray, el]; lia
  exact tail_any hl.typeIs slot_list_getitem.lookup (wpAny_getItem_list_neg hl (by decide) (by rw [List.size_toArray, el]; lia) (by decide) (by rw [e2]; simpa using e) (h t)) hs
noncomputable def lvA (ns : List Int) (i j : Nat) (mc : Int) : Int := levL (cl (rowS (modeAt ns i))) (cl (rowS (modeAt ns j))) mc
noncomputable def nearT (ns : List Int) (k : Nat) : List Dat := (List.range k).map fun j => Dat.tuple [.int (lvA ns j (j + 1) 100), .int (lvA ns j (j + 1) 0)]
noncomputable def secT (ns : List Int) (k : Nat) : List Dat := (List.range k).map fun j => Dat.int (lvA ns (j + 2) j 100)
theorem nearT_snoc {ns : List Int} {k n1 : Nat} {T : Addr} {t u : Tok} {ys : List Value} {rest : List (Addr × Obj)} (h : DatAll rest ys (nearT ns k)) :
    DatAll ((T, ({ cls := .type "tuple", data := .seq #[.int (lvA ns (0 + (k : Int)).toNat (0 + (k : Int) + 1).toNat 100) t, .int (lvA ns (0 + (k : Int)).toNat (0 + (k : Int) + 1).toNat 0) u] n1 } : Obj)) :: rest) (ys ++ [.ref T]) (nearT ns (k + 1)) := by
  have e : nearT ns (k + 1) = nearT ns k ++ [Dat.tuple [.int (lvA ns (0 + (k : Int)).toNat (0 + (k : Int) + 1).toNat 100), .int (lvA ns (0 + (k : Int)).toNat (0 + (k : Int) + 1).toNat 0)]] := by
    unfold nearT
    rw [List.range_succ, List.map_append, show (0 + (k : Int)).toNat = k by lia, show (0 + (k : Int) + 1).toNat = k + 1 by lia]; rfl
  rw [e]
  exact (h.mono fun p hp => List.mem_cons_of_mem _ hp).append (DatAll.one (.tuple (vs := [_, _]) (List.mem_cons_self ..) (.cons (.int _ _) (.cons (.int _ _) .nil))))
theorem secT_snoc {ns : List Int} {k : Nat} {t : Tok} {ys : List Value} {rest : List (Addr × Obj)} (h : DatAll rest ys (secT ns k)) :
    DatAll rest (ys ++ [.int (lvA ns (0 + (k : Int) + 2).toNat (0 + (k : Int)).toNat 100) t]) (secT ns (k + 1)) := by
  have e : secT ns (k + 1) = secT ns k ++ [Dat.int (lvA ns (0 + (k : Int) + 2).toNat (0 + (k : Int)).toNat 100)] := by
    unfold secT
    rw [List.range_succ, List.map_append, show (0 + (k : Int)).toNat = k by lia, show (0 + (k : Int) + 2).toNat = k + 2 by lia]; rfl
  rw [e]
  exact h.append (DatAll.one (.int _ _))
noncomputable def toldD (ns : List Int) : List Dat := [.list (nearT ns ns.length), .list (secT ns (ns.length - 1)), .list [.str (fmS (modeAt ns ns.length)), .str (sOf (cl nameS))]]
theorem pair_endT {I C D T : Addr} {oT : Obj} {a b c : Addr × Obj} {rest : List (Addr × Obj)} {P : Prop} (lt : @LT.lt Nat _ I T ∧ @LT.lt Nat _ C T ∧ @LT.lt Nat _ D T ∧ P) (off : LCg.Off3 I C D (a :: b :: c :: rest)) : LCg.Off3 I C D (a :: b :: c :: (T, oT) :: rest) :=
  ⟨off.1, off.2.1, off.2.2.1, ⟨(Nat.ne_of_lt lt.1).symm, (Nat.ne_of_lt lt.2.1).symm, (Nat.ne_of_lt lt.2.2.1).symm⟩, off.2.2.2⟩
theorem near_subT {I C D T a b c : Addr × Obj} {rest : List (Addr × Obj)} : ∀ p ∈ I :: C :: D :: a :: b :: c :: T :: rest, p ∈ T :: I :: C :: D :: a :: b :: c :: rest := by
  intro p hp; simp only [List.mem_cons] at hp ⊢
  rcases hp with h | h | h | h | h | h | h | h <;> simp [h]
theorem told_near {g h : Heap} {Lf : Addr} {a b d q : Addr × Obj} {rest : List (Addr × Obj)} (N : News g Lf h (a :: b :: d :: rest)) (hq : q ∈ rest) : News g Lf h (a :: d :: q :: b :: rest) :=
  cb_drop N (fun p hp => by simp only [List.mem_cons] at hp ⊢; rcases hp with h | h | h | h | h <;> simp [h, hq])
theorem mem6T {p a b c d e f : Addr × Obj} {r : List (Addr × Obj)} (h : p ∈ r) : p ∈ a :: b :: c :: d :: e :: f :: r := by simp [h]
theorem dat_strsT {led : List (Addr × Obj)} : ∀ {us : List Value} {ss : List Str}, StrsAre us ss → DatAll led us (ss.map Dat.str)
  | _, _, .nil => .nil
  | _, _, .cons x t h => .cons (.str x t) (dat_strsT h)
noncomputable abbrev TRet (A₀ : Around) (base : Heap) (outer : List Env) (K : Frag) (mean : ExcName → Option Value) (mg mb : Str → Option Value) (h₀ : Heap) (L : Addr) (m : Str → Option Value) (news : List (Addr × Obj)) (s : Shared) (Q : Value → Shared → Prop) (ds : List Dat) : Prop :=
  ∀ (D : Addr) (us : List Value) (c : Nat) (rest' : List (Addr × Obj)) (g' h' : Heap) (gs' : Array GenState) (tk' : Nat), DatAll rest' us ds → KtsTurn (frs outer) h₀ g' → Fr g' L h' m → News g' L h' ((D, listOf us.toArray c) :: rest') → (∀ p ∈ news, p ∈ rest') → (∃ tb, (760, tabO tb) ∈ rest') →
    Below A₀ base outer g' → K.In g' → Top Mine.vw loose mean mg mb g' → KtsDicts (frs outer) g' → AllBare gs' → Q (.ref D) { s with heap := h', gens := gs', toks := tk' }
theorem told_start {g h : Heap} {Lf L' R M : Addr} {vM : List Value} {c1 cM : Nat} {t2 : Tok} {tb : Option Addr} {oR : Obj} {own : List (Addr × Obj)} {ns : List Int}
    (N : News g Lf h ((R, listOf (List.toArray [.str (rowS 2541) t2]) c1) :: (760, tabO tb) :: (M, listOf vM.toArray cM) :: (L' + 1, oR) :: own)) (dR : oR.data = .cell (some (.ref R)))
    (ltR : @LT.lt Nat _ 760 R ∧ @LT.lt Nat _ M R ∧ @LT.lt Nat _ (L' + 1) R ∧ AllLt R own) (hl : @LT.lt Nat _ 760 L' ∧ AllLt L' own) (h7 : ∀ p ∈ own, p.1 ≠ 760) :
    ∃ led, News g Lf h led ∧ (∀ p ∈ own, p ∈ led) ∧ ∀ (u : Str → Option Value) l t gs, AllBare gs → ToldJ L' l ns own 0 gs (kstB u [(Str.ofString "mode", .int (modeAt ns 0) t), (Str.ofString "steps", .ref l)]) led := by
  refine ⟨(L' + 1, oR) :: (760, tabO tb) :: (R, listOf (List.toArray [.str (rowS 2541) t2]) c1) :: own, ?_, fun p hp => List.mem_cons_of_mem _ (List.mem_cons_of_mem _ (List.mem_cons_of_mem _ hp)), fun u l t gs G => ⟨u, t, tb, oR, R, _, c1, own, rfl, G, rfl, dR, .cons _ _ .nil, fun p hp => hp, ?_, h7, ?_, ?_, ?_, ?_⟩⟩
  · exact cb_drop N (fun p hp => by simp only [List.mem_cons] at hp ⊢; rcases hp with h | h | h | h <;> simp [h])
  · exact fun p hp e => by have := lt_all hl.2 p hp; rw [e] at this; exact absurd this (Nat.not_lt_of_le (Nat.le_add_right L' 1))
  · exact ne_all ltR.2.2.2
  · exact fun e => absurd hl.1 (by rw [← e]; exact Nat.not_lt_of_le (Nat.le_add_right L' 1))
  · exact Nat.ne_of_lt ltR.2.2.1
  · exact Nat.ne_of_lt ltR.1
theorem told_c (w : World) (mean : ExcName → Option Value) (mg mb : Str → Option Value) (tb : Option Addr) (l : Addr) (vs : List Value) (ns : List Int) (c : Nat) (news : List (Addr × Obj)) (dp un : Nat) (gd : Option (List Code)) (cn : Str) (cs : Scope) (a : Addr) (ccd : Value) (cel : List (Str × Addr)) (outer : List Env) (A₀ : Around) (base h₀ : Heap) (L : Addr) (m : Str → Option Value) (s : Shared) (Q E : Value → Shared → Prop)
    (hB : Below A₀ base outer h₀) (hF : Fr h₀ L s.heap m) : (Mine.K w.params).In h₀ → News h₀ L s.heap ((760, tabO tb) :: (l, listOf vs.toArray c) :: news) → Top Mine.vw loose mean mg mb h₀ → cs.kind = .function → dp + 100 < recursionLimit → un + 900 < cLine → IntsAre vs ns → 1 ≤ ns.length → ns.length ≤ 20 → AllBare s.gens → (∀ p ∈ news, p.1 ≠ 760) → (@Ne Nat l 760) →
    (Mine.K w.params).In base → Top Mine.vw loose mean mg mb base → KtsDicts (outer.filterMap (·.frame)) h₀ → (∀ i, i ≤ ns.length → FmOk (modeAt ns i)) → TRet A₀ base outer (Mine.K w.params) mean mg mb h₀ L m ((l, listOf vs.toArray c) :: news) s Q (toldD ns) →
    wpAny (model PySem.Challenge.pw_ny0408_02 w) { handled := none, depth := dp, frames := some (envX cn cs L a ccd cel :: outer), guards := gd, units := un } (call (.ref 825) [.ref l]) Q E s := by
  refine fill ?_
  k_fill
  intro _ hX hN hT hK hdp hun hvs hn1 hn2 hG hn760 hl760 hXB hTB hDc hfm hret
  refine wpAny_call ?_
  k_dflt (refine' code_cellsS ?k1 ?k2 ?k3 ?k4 ?k5 ?XB ?TB ?D ?kA ?kF ?cK ?k6 ?k7 ?k8 ?k9 ?kB ?kN ?_ ?c2 ?c3 ?c4; (case kA => exact rfl); (case kF => exact rfl); (case k2 => k_asm); (case k1 => k_asm); (case XB => assumption); (case TB => assumption); (case D => assumption); (case k3 => k_asm); (case k4 => k_asm); (case k5 => k_asm); (case k6 => k_is); (case k7 => k_is); (case k8 => k_room); (case k9 => exact BindsTo.of_eq rfl); (case kB => exact rfl); (case kN => decide +kernel); (case cK => assumption); (case c2 => exact rfl); (case c3 => exact rfl); (case c4 => exact rfl); k_whole; intro g' L' h' tk' cells' FG' F' N' Y' B' X' T' D' l1; (try k_lt l1); k_cells Y'; (try simp only [List.cons_append, List.nil_append] at N'); (try dsimp only); (try k_lift B'); (try k_fold))
  have hlt := lt_all l1.2.2
  have hne1 : ∀ p ∈ news, p.1 ≠ L' + 1 := fun p hp e => by have := hlt p hp; rw [e] at this; exact absurd this (Nat.not_lt_of_le (Nat.le_add_right L' 1))
  k_with_none
  k_with "call ref" => refine halt ?_
  k_steps
  unfold Halt
  refine fm_c w mean mg mb _ _ _ _ _ _ _ _ _ _ _ _ _ _ _ _ _ _ _ _ B' (by k_asm) X' (by k_asm) T' rfl trivial ?_ ?_ ?_
  · simp only [depth_deeper]; lia
  · simp only [units_deeper]; lia
  intro t1 h9 tk9 F9 N9
  try dsimp only
  k_steps
  unfold Halt
  (with_reducible rename News _ _ _ _ => N8)
  have N7 := join_ord N8
  clear N8
  have hfm0 : FmOk 2541 := hfm 0 (Nat.zero_le _)
  have nA : @Ne Nat (L' + 1) 760 := by have := l1.1; exact fun e => absurd this (by rw [← e]; exact Nat.not_lt_of_le (Nat.le_add_right L' 1))
  refine join_row (v := 2541) hfm0 ?_ B' (by k_asm) X' N7 T' rfl ?_ ?_ hG ?_
  · intro p hp
    simp only [List.mem_cons] at hp
    rcases hp with rfl | rfl | hp
    · exact nA
    · exact hl760
    · exact hn760 p hp
  · simp only [depth_deeper]; lia
  · simp only [units_deeper]; lia
  intro t2 h8 tk8 gs8 tb8 hG8 F8 N8
  clear N7
  try dsimp only
  k_with_none
  k_steps
  unfold Halt
  refine wpAny_For ?_
  k_steps
  unfold Halt
  (with_reducible rename Fr _ _ _ _ => F1)
  (with_reducible rename News _ _ _ _ => N1)
  have F2 := toB [(Str.ofString "mode", .int 2541 _), (Str.ofString "steps", .ref l)] F1 (by kst_all)
  have h7 : ∀ p ∈ (l, listOf vs.toArray c) :: news, p.1 ≠ 760 := by
    intro p hp
    rcases List.mem_cons.mp hp with rfl | hp
    · exact hl760
    · exact hn760 p hp
  obtain ⟨led0, N2, M0, J0⟩ := told_start (own := (l, listOf vs.toArray c) :: news) (ns := ns) N1 (by assumption) (by assumption) l1 h7
  have hm : ∀ i gs m' led, ToldJ L' l ns ((l, listOf vs.toArray c) :: news) i gs m' led → (l, listOf vs.toArray c) ∈ led := by
    rintro i gs m' led ⟨u, t, tb, oR, R, rs, c1, rest, rfl, _, rfl, _, _, h, _⟩
    have := h _ (List.mem_cons_self ..)
    simp [this]
  refine forG (fun i gs m' led => ToldJ L' l ns ((l, listOf vs.toArray c) :: news) i gs m' led) rfl F2 N2 (M0 _ (List.mem_cons_self ..)) (fun i gs m' n h => hm _ _ _ _ h) (J0 _ _ _ _ hG8) ?_ ?_ ?_
  · k_steps
  · rintro I oI i v m₁ led h₁ tk₁ gs₁ hv ⟨u, t, tb, oR, R, rs, c1, rest, rfl, hG1, rfl, dR, hrs, hown, r1, r2, r3, nA, nB, nC⟩ hI F₁ N₁
    obtain ⟨n, tn, rfl, hn⟩ := ints_getT hvs hv
    clear F1 F2 N1 N2 J0 hm M0
    have i1 : @Ne Nat (L' + 1) I := hI (L' + 1, oR) (by simp)
    have i2 : @Ne Nat 760 I := hI (760, tabO tb) (by simp)
    have i3 : @Ne Nat R I := hI (R, listOf (List.toArray rs) c1) (by simp)
    have rI : ∀ p ∈ rest, p.1 ≠ I := fun p hp => hI p (by simp [hp])
    have hil : i < ns.length := (List.getElem?_eq_some_iff.mp hn).1
    have hm1 := hfm i (by lia)
    have hmb := hm1.2.1
    have hma := hm1.1
    clear hI
    simp only [kstB] at F₁
    k_with_none
    k_with "call ref" => refine halt ?_
    dsimp only
    k_steps
    unfold Halt
    have em : Builtin.bitXor (modeAt ns i) (2 ^ (n.fmod 12).toNat) = modeAt ns (i + 1) := by rw [modeAt, List.getD_eq_getElem?_getD, hn]; rfl
    (with_reducible rename Fr _ _ _ _ => F3)
    rw [em] at F3 ⊢
    refine fm_c w mean mg mb _ _ _ _ _ _ _ _ _ _ _ _ _ _ _ _ _ _ _ _ B' F3 X' (by k_asm) T' rfl trivial ?_ ?_ ?_
    · simp only [depth_deeper]; lia
    · simp only [units_deeper]; lia
    intro t1 h9 tk9 F9 N9
    clear F3
    dsimp only
    k_steps
    unfold Halt
    (with_reducible rename News _ _ _ _ => N8)
    (with_reducible rename Fr _ _ _ _ => F8)
    have N7 := told_ord N8
    clear N8
    refine join_row (v := modeAt ns (i + 1)) (hfm (i + 1) hil) ?_ B' F8 X' N7 T' rfl ?_ ?_ hG1 ?_
    · intro p hp
      simp only [List.mem_cons] at hp
      rcases hp with rfl | rfl | rfl | hp
      · exact i2.symm
      · exact nA
      · exact nC.symm
      · exact r2 p hp
    · simp only [depth_deeper]; lia
    · simp only [units_deeper]; lia
    intro t3 h8 tk8 gs9 tb9 hG9 F7 N8
    clear N7 F8
    dsimp only
    k_with_none
    k_with "call builtin:list.append" => (k_dflt (refine' append_K ?k1 ?k2 ?k3 ?_ ?z; (case k1 => k_asm); (case k2 => k_asm); (case k3 => k_upd); (case z => exact rows_fit hrs hil hn2); k_whole); intro h' F' N'; (try k_sweep))
    k_steps
    (with_reducible rename Fr _ _ _ _ => F8)
    obtain ⟨led', N9, off9, J9⟩ := told_turn (l := l) (own := (l, listOf vs.toArray c) :: news) N' dR hrs hown r1 r2 r3 rI nA nB nC i1 i2 i3
    exact ⟨_, _, _, _, led', rfl, toB [(Str.ofString "mode", .int (modeAt ns (i + 1)) _), (Str.ofString "steps", .ref l)] F8 (by kst_all), N9, off9, J9 _ _ _ hG9⟩
  · rintro h9 tk9 gs9 m9 led9 F8 N8 ⟨u, t, tb9, oR, R, rs, c1, rest, rfl, hG2, rfl, dR, hrs, hown, r1, r2, r3, nA, nB, nC⟩
    clear F1 F2 N1 N2 J0 hm M0
    simp only [kstB] at F8
    rw [hvs.length] at hrs F8
    replace N8 := told_near N8 (hown _ (List.mem_cons_self ..))
    dsimp only
    have hvl := hvs.length
    k_with_none
    k_steps
    unfold Halt
    refine LCg.Assign_ListComp_U (F₀ := by k_asm) (by rfl) (by with_unfolding_all rfl) (by with_unfolding_all rfl) (by decide) (by rfl) (by decide) (by rfl) (by rfl) (by rfl) ?_
    k_steps
    unfold Halt
    (with_reducible rename Fr _ _ _ _ => F3)
    (with_reducible rename News _ _ _ _ => N3)
    refine LCg.CompSrc.range (by rfl) F3 N3 (by assumption) (small_one (by decide) (by decide) (by lia) (by lia)) (n := ns.length) (rangeSize_nat _ _) (by rw [PySem.sizeLine_eq]; lia) ?_
    intro gg
    refine compJ (fun k ys led => ∃ rest', led = (L' + 1, oR) :: (R, listOf (List.toArray rs) c1) :: (l, listOf vs.toArray c) :: rest' ∧ (∀ p ∈ (760, tabO tb9) :: rest, p ∈ rest') ∧ DatAll rest' ys (nearT ns k)) ⟨_, rfl, fun p hp => hp, .nil⟩ ?_ ?_
    · rintro k ys _ v I2 oI2 C oC D m₂ hh tkk E' hk ⟨rest', rfl, hsub, hys⟩ ⟨tv, rfl⟩ hC hx F4 N4 off ne
      clear F3 N3
      dsimp only
      k_with_none
      k_with "subscriptTail Name Name ref int" => ((with_reducible rename News _ _ _ _ => N9); (refine' row_at N9 ?ha hrs ?hb ?hc ?_); (case ha => k_mem); (case hb => lia); (case hc => lia); intro _)
      k_with "subscriptTail Name BinOp ref int" => ((with_reducible rename News _ _ _ _ => N9); (refine' row_at N9 ?ha hrs ?hb ?hc ?_); (case ha => k_mem); (case hb => lia); (case hc => lia); intro _)
      k_with "call ref" => refine halt ?_
      k_steps
      unfold Halt
      (with_reducible rename News _ _ _ _ => N9)
      refine lev_c w mean mg mb _ _ _ _ _ _ _ _ _ _ _ _ _ _ _ _ _ _ _ _ _ _ _ _ B' (by k_asm) X' N9 T' rfl ⟨by rw [row_len]; decide, by rw [row_len]; decide, by decide, by decide⟩ ?_ ?_ ?_
      · simp only [depth_deeper]; lia
      · simp only [units_deeper]; lia
      intro t6 h6 tk6 F6 N6
      try dsimp only
      k_steps
      unfold Halt
      (with_reducible rename News _ _ _ _ => N9)
      refine lev_c w mean mg mb _ _ _ _ _ _ _ _ _ _ _ _ _ _ _ _ _ _ _ _ _ _ _ _ B' F6 X' N9 T' rfl ⟨by rw [row_len]; decide, by rw [row_len]; decide, by decide, by decide⟩ ?_ ?_ ?_
      · simp only [depth_deeper]; lia
      · simp only [units_deeper]; lia
      intro t7 h7 tk7 F7 N7
      clear F6 N9
      try dsimp only
      k_with_none
      k_steps
      (with_reducible rename News _ _ _ _ => N8)
      exact LCg.CompEnd.intro (by k_asm) N8 _ near_subT (pair_endT (by assumption) off) trivial ⟨_, rfl, fun p hp => List.mem_cons_of_mem _ (hsub p hp), nearT_snoc hys⟩
    · rintro ys _ ⟨rest', rfl, hsub, hys⟩ D hh tkk F4 N4 off
      clear F3 N3
      dsimp only
      k_with_none
      k_steps
      unfold Halt
      refine LCg.ListComp_U (F₀ := by k_asm) (by with_unfolding_all rfl) (by decide) (by rfl) (by decide) (by rfl) ?_
      k_steps
      unfold Halt
      (with_reducible rename Fr _ _ _ _ => F3)
      (with_reducible rename News _ _ _ _ => N3)
      refine LCg.CompSrc.range (by rfl) F3 N3 (by assumption) (small_one (by decide) (by decide) (by lia) (by lia)) (n := ns.length - 1) ((rangeSize_nat _ _).trans (by lia)) (by rw [PySem.sizeLine_eq]; lia) ?_
      intro gg2
      refine compJ (fun k zs led => led = _ ∧ DatAll [] zs (secT ns k)) ⟨rfl, .nil⟩ ?_ ?_
      · rintro k zs _ v I2 oI2 C oC D2 m₂ hh tkk E' hk ⟨rfl, hzs⟩ ⟨tv, rfl⟩ hC hx F4 N4 off ne
        clear F3 N3
        dsimp only
        k_with_none
        k_with "subscriptTail Name Name ref int" => ((with_reducible rename News _ _ _ _ => N9); (refine' row_at N9 ?ha hrs ?hb ?hc ?_); (case ha => k_mem); (case hb => lia); (case hc => lia); intro _)
        k_with "subscriptTail Name BinOp ref int" => ((with_reducible rename News _ _ _ _ => N9); (refine' row_at N9 ?ha hrs ?hb ?hc ?_); (case ha => k_mem); (case hb => lia); (case hc => lia); intro _)
        k_with "call ref" => refine halt ?_
        k_steps
        unfold Halt
        (with_reducible rename News _ _ _ _ => N9)
        refine lev_c w mean mg mb _ _ _ _ _ _ _ _ _ _ _ _ _ _ _ _ _ _ _ _ _ _ _ _ B' (by k_asm) X' N9 T' rfl ⟨by rw [row_len]; decide, by rw [row_len]; decide, by decide, by decide⟩ ?_ ?_ ?_
        · simp only [depth_deeper]; lia
        · simp only [units_deeper]; lia
        intro t6 h6 tk6 F6 N6
        exact LCg.CompEnd.intro F6 N6 _ (fun p hp => hp) off trivial ⟨rfl, secT_snoc hzs⟩
      · rintro zs _ ⟨rfl, hzs⟩ D2 hh tkk F4 N4 off2
        clear F3 N3
        dsimp only
        k_with_none
        k_with "subscriptTail Name UnaryOp ref int" => ((with_reducible rename News _ _ _ _ => N9); (refine' row_last N9 ?ha hrs ?hc ?_); (case ha => k_mem); (case hc => lia); intro _)
        k_with "call ref" => refine halt ?_
        k_steps
        unfold Halt
        (with_reducible rename Fr _ _ _ _ => F3)
        (with_reducible rename News _ _ _ _ => N3)
        refine split_c w mean mg mb _ _ [fmL (modeAt ns ns.length), cl nameS] _ _ _ _ _ _ _ _ _ _ _ _ _ _ _ _ _ _ B' F3 X' N3 T' rfl ?_ ?_ ?_ (row_ok (hfm _ (Nat.le_refl _))) (lex_row (hfm _ (Nat.le_refl _))) (by simp) hXB hTB D' ?_
        · simp only [depth_deeper]; lia
        · simp only [units_deeper]; lia
        · rw [row_len]; decide
        intro DS vsS cS gS hS tkS hvS TS FS NS ltS BS XS PS DS'
        k_lt ltS
        clear F3 N3
        dsimp only
        k_with_none
        k_steps
        (with_reducible rename Fr _ _ _ _ => FZ)
        (with_reducible rename News _ _ _ _ => NZ)
        refine ⟨gS, L', _, _, TS, FZ, NZ, ?_⟩
        intro h₀' T2 F2 N2 B2 X2 P2 D2'
        exact hret _ [.ref D, .ref D2, .ref DS] _ _ _ _ _ _ (.cons (.list (.tail _ (.tail _ (.head _))) (hys.mono fun p hp => mem6T hp)) (.cons (.list (.tail _ (.head _)) (hzs.mono fun p hp => absurd hp List.not_mem_nil)) (.cons (.list (.head _) (dat_strsT hvS)) .nil))) T2 F2 N2 (fun p hp => mem6T (hsub p (List.mem_cons_of_mem _ (hown p hp)))) ⟨tb9, mem6T (hsub _ (List.mem_cons_self ..))⟩ B2 X2 P2 D2' hG2
end
end
section
set_option maxRecDepth 100000
set_option maxHeartbeats 4000000
theorem vw_own : ownsOf Mine.vw = [] := by kernel_rfl
theorem vw_rec : (recsOf Mine.vw).map (·.name) = [Str.ofString "law"] := by kernel_rfl
theorem law_at (P : Params) : nsIn (Mine.K P) mainGlobals (Str.ofString "law") = some (some (.ref 851)) := by kernel_rfl
theorem k_851 (P : Params) : (Mine.K P).lookup 851 = some k851 := by kernel_rfl
theorem k_850 (P : Params) : (Mine.K P).lookup 850 = some (k850 P) := by kernel_rfl
theorem k_764 (P : Params) : (Mine.K P).lookup 764 = some (k764 P) := by kernel_rfl
theorem lookup_ne {a : Addr} {H : Heap} {o : Obj} (e : H.get? 760 = some (tabO none)) (ho : H.get? a = some o) (h : o.data ≠ .fields #[]) : a ≠ 760 := by
  intro q
  subst q
  rw [e] at ho
  exact h (by rw [← Option.some.inj ho]; rfl)
theorem top_hide {w : World} {mean : ExcName → Option Value} {mg mb : Str → Option Value} {H : Heap} (X : (Mine.K w.params).In H) (T : Top Mine.vw loose mean mg mb H) (e : H.get? 760 = some (tabO none)) : Top Mine.vw loose mean mg mb (hideAll H [760]) := by
  have kp : ∀ {b : Addr} {o : Obj}, b ≠ 760 → H.get? b = some o → (hideAll H [760]).get? b = some o := fun hb ho => hideAll_get _ ho (by simpa using hb)
  have kd : ∀ {b : Addr} {o : Obj}, H.get? b = some o → o.data ≠ .fields #[] → (hideAll H [760]).get? b = some o := fun ho hd => kp (lookup_ne e ho hd) ho
  have ns : ∀ {a : Addr} {m : Str → Option Value}, H.Ns a m → (hideAll H [760]).Ns a m := fun ⟨o, es, ep, ho, hd, r⟩ => ⟨o, es, ep, kd ho (by rw [hd]; nofun), hd, r⟩
  have cr : ∀ {cd : Value} {q : Str}, H.CodeRec cd q → (hideAll H [760]).CodeRec cd q := fun ⟨c, o, vs, t, h1, h2, h3, h4⟩ => ⟨c, o, vs, t, h1, kd h2 (by rw [h3]; intro q; injection q with q; rw [q] at h4; simp at h4), h3, h4⟩
  refine { g := ns T.g, b := ns T.b, nolimit := ?_, nodigits := ?_, fn := ?_, own := ?_, const := T.const, free := T.free, builtins := T.builtins, tab := ?_, bmain := ?_, seer := ?_ }
  · obtain ⟨mc, h1, h2⟩ := T.nolimit
    exact ⟨mc, ns h1, h2⟩
  · obtain ⟨mc, h1, h2⟩ := T.nodigits
    exact ⟨mc, ns h1, h2⟩
  · intro d hd
    obtain ⟨a, o, pm, code, doc, h1, h2, h3, h4⟩ := T.fn d hd
    exact ⟨a, o, pm, code, doc, h1, kd h2 (by rw [h3]; nofun), h3, cr h4⟩
  · intro o ho
    rw [vw_own] at ho
    cases ho
  · intro d hd
    obtain ⟨a, o, fd, c, P, h1, h2, h3, h4, h5, h6⟩ := T.tab d hd
    have hn : d.name = Str.ofString "law" := by
      have : d.name ∈ (recsOf Mine.vw).map (·.name) := List.mem_map_of_mem hd
      rw [vw_rec] at this
      simpa using this
    have q1 := mg_of X T.g (law_at w.params)
    rw [hn, q1] at h1
    cases h1
    have q2 := X _ _ (k_851 w.params)
    rw [h2] at q2
    cases Option.some.inj q2
    have q3 := X _ _ (k_850 w.params)
    have hc : c = 850 := by
      have : fd = fd := rfl
      injection h3 with h3
      rw [← h3] at h4
      injection h4 with h4
      exact h4.symm
    subst hc
    have hP : P ≠ 760 := by
      obtain ⟨⟨o, vs, a1, a2, a3, a4⟩, _⟩ := h6
      rw [a1] at q3
      have q4 := Option.some.inj q3
      rw [q4] at a3
      injection a3 with a3
      rw [← a3] at a4
      have a5 : some (Value.ref 846) = some (Value.ref P) := a4
      injection a5 with a5
      injection a5 with a5
      rw [← a5]
      decide
    have k850' : (hideAll H [760]).get? 850 = some (k850 w.params) := kp (by decide) q3
    refine ⟨851, _, fd, 850, P, by rw [hn]; exact q1, kd h2 (by rw [h3]; nofun), h3, h4, ?_, ?_⟩
    · obtain ⟨o, vs, file, tf, flags, tg, inF, text, tt, op, a1, r1, r2, r3, r4, r5, r6, b1, r⟩ := h5
      exact ⟨o, vs, file, tf, flags, tg, inF, text, tt, op, kp (by decide) a1, r1, r2, r3, r4, r5, r6, kp hP b1, r⟩
    · obtain ⟨⟨o, vs, a1, r⟩, t⟩ := h6
      exact ⟨⟨o, vs, kp (by decide) a1, r⟩, kp hP t⟩
  · obtain ⟨bm, ob, h1, h2, h3, h4, h5, h6⟩ := T.bmain
    exact ⟨bm, ob, h1, h2, kd h3 (by rw [h6]; nofun), h4, h5, h6⟩
  · intro hi
    have x := T.seer hi
    refine ⟨?_, ?_, ?_, ?_⟩
    · obtain ⟨mc, a, b⟩ := x.statics
      exact ⟨mc, ns a, b⟩
    · obtain ⟨mc, a, b⟩ := x.mods
      exact ⟨mc, ns a, b⟩
    · obtain ⟨mc, a, b⟩ := x.imp
      exact ⟨mc, ns a, b⟩
    · obtain ⟨mg', bm, ob, a, b, c, d, f⟩ := x.main
      refine ⟨mg', bm, ob, ns a, b, kp ?_ c, d, f⟩
      intro q
      subst q
      rw [e] at c
      cases Option.some.inj c
      cases d
theorem code_top {prog : Program} {w : World} {s : Shared} {K : Frag} {p : Program} {loose : List Str} {mean : ExcName → Option Value} {mg mb : Str → Option Value} {R : Result → Shared → Prop} {name qual : Str} {params : Arguments} {body : List Stmt} {scope : Scope} {dV kV doc pm cdv ct oc : Value} {an od : Option Addr} {osl : Array (Option Value)} {f : Addr} {args : Args} {binds : List (Str × Value)}
    (X : K.In s.heap) (T : Top p loose mean mg mb s.heap)
    (ho : K.lookup f = some ⟨oc, od, .func (fnOf name qual params body scope dV kV doc pm an cdv ct), osl⟩) (hcd : codeIn K cdv qual = true)
    (hbind : BindsTo s (fnOf name qual params body scope dV kV doc pm an cdv ct) args binds) (hloc : ∀ y ∈ binds, scope.names.lookup y.1 = some .local)
    (h : ∀ h₁, h₁.Ns s.heap.objs.size (fun y => binds.reverse.lookup y) → (∀ b o, s.heap.get? b = some o → h₁.get? b = some o) →
      wpAny (model prog w) (callerA.deeper (envOf qual scope s.heap.objs.size f cdv)) (execs body (envOf qual scope s.heap.objs.size f cdv))
        (fun fl s' => R (.ok (.ret (match fl with | .ret v => v | _ => .none))) s')
        (fun e s' => wpAny (model prog w) (callerA.deeper (envOf qual scope s.heap.objs.size f cdv)) (leaving (envOf qual scope s.heap.objs.size f cdv) e) (fun _ s'' => R (.error e) s'') (fun e' s'' => R (.error e') s'') s')
        { s with heap := h₁, toks := s.toks + binds.length })
    (hco : scope.isCoroutine = false) (hgen : scope.isGenerator = false) (hk : scope.kind = .function) (hcell : ∀ x ∈ scope.names, x.2 ≠ .cell) : codeAny (model prog w) callerA (.call (.ref f) args) R s :=
  codeAny_call_def (fd := fnOf name qual params body scope dV kV doc pm an cdv ct) (body := body) (binds := binds) (by decide +kernel) (X _ _ ho) rfl T.nolimit (codeRec_of X hcd) rfl hbind hcell hloc (fun h₁ hns hk₁ => h h₁ hns hk₁) hco hgen hk
theorem k_hide {w : World} {H : Heap} (X : (Mine.K w.params).In H) : (Mine.K w.params).In (hideAll H [760]) := by
  intro a o ho
  refine hideAll_get _ (X a o ho) ?_
  intro hm
  have : a = 760 := by simpa using hm
  subst this
  have : (Mine.K w.params).lookup 760 = none := by kernel_rfl
  rw [this] at ho
  cases ho
end
end
section
set_option maxRecDepth 100000
set_option maxHeartbeats 8000000
noncomputable def drawn (ns : List Int) : List Int := [6, 11, 0, 0, 9] ++ ns.take 4
theorem law_ord {g h : Heap} {L : Addr} {A B C D : Addr × Obj} (N : News g L h [A, B, C, D]) : News g L h [D, A, B, C] :=
  cb_drop N (fun p hp => by simp only [List.mem_cons, List.not_mem_nil, or_false] at hp ⊢; rcases hp with h | h | h | h <;> simp [h])
open Classical in
theorem law_dec {a b : List Dat} (h : a = b) : decide (a = b) = true := decide_eq_true h
theorem law_ne {a b : Addr} {oa ob : Obj} (h1 : @LT.lt Nat _ 760 a) (h2 : @LT.lt Nat _ 760 b) : ∀ p ∈ [(a, oa), (b, ob)], p.1 ≠ 760 := by
  intro p hp
  simp only [List.mem_cons, List.not_mem_nil, or_false] at hp
  rcases hp with rfl | rfl
  · exact (Nat.ne_of_lt h1).symm
  · exact (Nat.ne_of_lt h2).symm
theorem law_put {g h : Heap} {L : Addr} {A B : Addr × Obj} {r : List (Addr × Obj)} (N : News g L h (A :: r)) (hb : B ∈ r) : News g L h (B :: A :: r) :=
  cb_drop N (fun p hp => by simp only [List.mem_cons] at hp ⊢; rcases hp with h | h | h <;> simp [h, hb])
theorem law_c (w : World) (mean : ExcName → Option Value) (mg mb : Str → Option Value) (s : Shared) (e760 : s.heap.get? 760 = some (tabO none)) (hgen : s.gens = #[]) (l : Addr) (vs : List Value) (ns : List Int) (hl : s.heap.IsList l vs.toArray) (hI : IntsAre vs ns) (hlen : ns.length ≤ 63) (hfm : ∀ i, FmOk (modeAt (drawn ns) i)) (heq : toldD (drawn ns) = dueD (drawn ns)) (hko : ∀ d ∈ dueD (drawn ns), kqdOk 8 d = true) (Q E : Value → Shared → Prop)
    (hret : ∀ h' gs' tk', OldK s.heap h' → AllBare gs' → Q (.bool true) { s with heap := h', gens := gs', toks := tk' }) :
    PySem.Challenge.rw_ny0408_02.prog = PySem.Challenge.rw_ny0408_02.prog → (Mine.K w.params).In s.heap → Top Mine.vw loose mean mg mb s.heap → wpAny (model PySem.Challenge.pw_ny0408_02 w) callerA (call (.ref 851) [.ref l]) Q E s := by
  k_fill
  intro _ X T
  have XH := k_hide X
  have TH := top_hide X T e760
  have hl' : (hideAll s.heap [760]).IsList l vs.toArray := by
    obtain ⟨o, ho, hc, n, hd⟩ := hl
    exact ⟨o, hideAll_get _ ho (by simpa using lookup_ne e760 ho (by rw [hd]; nofun)), hc, n, hd⟩
  have B := below_caller (hideAll s.heap [760])
  refine wpAny_call ?_
  refine' code_top X T ?k6 ?k7 ?k9 ?kB ?_ ?c2 ?c3 ?c4 ?c5
  case k6 => k_is
  case k7 => k_is
  case k9 => exact BindsTo.of_eq rfl
  case kB => exact locs rfl
  case c2 => exact rfl
  case c3 => exact rfl
  case c4 => exact rfl
  case c5 => decide
  intro h₁ hns hk₁
  have F : Fr (hideAll s.heap [760]) s.heap.objs.size h₁ _ := ⟨hns, fun b o e => hk₁ b o (of_hideAll _ e), Nat.le_of_eq (hideAll_size _ _)⟩
  have N : News (hideAll s.heap [760]) s.heap.objs.size h₁ [(760, tabO none)] := fun p hp => by
    rw [List.mem_singleton.mp hp]
    exact ⟨hk₁ _ _ e760, Nat.ne_of_lt (Heap.lt_size e760), hideAll_none _ (by simp)⟩
  have hct : isCodeTable s.heap 760 := ⟨764, _, _, X _ _ (k_764 w.params), rfl, rfl, rfl⟩
  have hkeep : ∀ b o, b ≠ 760 → s.heap.get? b = some o → (hideAll s.heap [760]).get? b = some o := fun b o hb e => hideAll_get _ e (by simpa using hb)
  have hL7 : @LT.lt Nat _ 760 s.heap.objs.size := Heap.lt_size e760
  clear X T hl hns
  generalize hideAll s.heap [760] = H at *
  generalize s.heap.objs.size = L at *
  k_with_none
  k_with "call ref" => refine halt ?_
  dsimp only
  k_steps
  unfold Halt
  (with_reducible rename Fr _ _ _ _ => F1)
  (with_reducible rename News _ _ _ _ => N1)
  have N2 := law_ord N1
  have hdl : (drawn ns).length ≤ 20 := by simp [drawn]; lia
  have hdl1 : 1 ≤ (drawn ns).length := by simp [drawn]
  rename_i D1 v1 h1 hI1 lt1 h0
  refine told_c w mean mg mb none _ _ (drawn ns) _ _ _ _ _ _ _ _ _ _ [] callerA H H L _ _ _ _ B F1 XH N2 TH rfl (by decide +kernel) (by decide +kernel) hI1 hdl1 hdl ?_ ?_ ?_ XH TH ?_ (fun i _ => hfm i) ?_
  · exact .of_eq hgen
  · exact law_ne (And.right (by assumption)) (by assumption)
  · exact (Nat.ne_of_lt lt1.2.2).symm
  · intro b hb; cases hb
  intro DT usT cT restT gT hT gsT tkT dT TT FT NT subT h7T BT XT PT DT' GT
  obtain ⟨tbT, hbT⟩ := h7T
  clear F1 N1 N2
  dsimp only
  k_with_none
  k_with "call ref" => refine halt ?_
  k_steps
  unfold Halt
  (with_reducible rename Fr _ _ _ _ => F1)
  (with_reducible rename News _ _ _ _ => N1)
  have N2 := law_put N1 (subT _ (List.mem_cons_self ..))
  refine due_c w mean mg mb D1 v1 (drawn ns) 0 _ _ _ _ _ _ _ _ _ _ callerA H gT L _ _ _ _ BT F1 XT N2 PT rfl (by decide +kernel) (by decide +kernel) hI1 hdl1 hdl ?_
  intro DD usD cD restD hD tkD dD FD ND subD
  dsimp only
  k_with_none
  k_with "compareOp Eq ref ref" => refine halt ?_
  k_steps
  unfold Halt
  refine kqd_eq (oa := listOf (List.toArray usT) cT) (xs := usT) (ka := cT) (ob := listOf (List.toArray usD) cD) (ys := usD) (kb := cD) ND (List.mem_cons_of_mem _ (subD _ (.tail _ (.head _)))) rfl rfl dT (fun p hp => List.mem_cons_of_mem _ (subD _ (.tail _ (.tail _ hp)))) (.head _) rfl rfl dD (fun p hp => List.mem_cons_of_mem _ hp) (fun d hd => hko d (heq ▸ hd)) hko (by simp only [units_deeper]; decide +kernel) ?_
  rw [law_dec heq]
  have h7 : (760, tabO tbT) ∈ (DD, listOf (List.toArray usD) cD) :: restD := List.mem_cons_of_mem _ (subD _ (.tail _ (.tail _ hbT)))
  refine hret _ _ _ ⟨fun b o e => ?_, fun b o e => ?_⟩ GT
  · by_cases hb : b = 760
    · subst hb
      rw [e760] at e
      cases Option.some.inj e
      exact .inr (.inl ⟨hct, rfl, _, tabF tbT, rfl, by rw [(ND _ h7).1]; simp [tabO, tabF]⟩)
    · exact .inl (FD.keep _ _ (TT.other b o (hkeep b o hb e) (by intro hm; cases hm)))
  · by_cases hb : b = 760
    · subst hb
      exact ⟨_, (ND _ h7).1⟩
    · exact ⟨o, FD.keep _ _ (TT.other b o (hkeep b o hb e) (by intro hm; cases hm))⟩
end
end
section
set_option maxRecDepth 100000
noncomputable def sumC : List Nat → List Nat → Int
  | a :: x, b :: y => scN b a + sumC x y
  | _, _ => 0
theorem scN_self (c : Nat) : scN c c = 0 := by simp [scN, scost]
theorem scN_nn (c d : Nat) : 0 ≤ scN c d ∧ scN c d ≤ 2 := by
  unfold scN scost
  split
  · lia
  · split <;> lia
theorem scN_pos {c d : Nat} (h : c ≠ d) : 1 ≤ scN c d := by
  unfold scN scost
  rw [if_neg (fun q => h (by have := sOf_inj q; simpa using this))]
  split <;> lia
theorem sumC_nn : ∀ (x y : List Nat), 0 ≤ sumC x y
  | [], _ => by simp [sumC]
  | _ :: _, [] => by simp [sumC]
  | a :: x, b :: y => by have := sumC_nn x y; have := (scN_nn b a).1; simp only [sumC]; lia
theorem sumC_self : ∀ x : List Nat, sumC x x = 0
  | [] => rfl
  | a :: x => by rw [sumC, scN_self, sumC_self x]; rfl
theorem sumC_app : ∀ (a b u v : List Nat), a.length = b.length → sumC (a ++ u) (b ++ v) = sumC a b + sumC u v
  | [], [], u, v, _ => by simp [sumC]
  | x :: a, y :: b, u, v, h => by
    have ih := sumC_app a b u v (by simpa using h)
    simp only [List.cons_append, sumC, ih]; lia
  | [], _ :: _, _, _, h => by simp at h
  | _ :: _, [], _, _, h => by simp at h
theorem pre_take : ∀ (x y : List Nat), x.take (preLen x y) = y.take (preLen x y)
  | [], _ => by simp [preLen]
  | _ :: _, [] => by simp [preLen]
  | a :: x, b :: y => by
    have ih := pre_take x y
    unfold preLen
    split
    · rename_i h
      rw [List.take_succ_cons, List.take_succ_cons, h, ih]
    · simp
theorem sumC_drop {x y : List Nat} {p : Nat} (hl : x.length = y.length) (h : x.take p = y.take p) : sumC (x.drop p) (y.drop p) = sumC x y := by
  have e := sumC_app (x.take p) (y.take p) (x.drop p) (y.drop p) (by rw [h])
  rw [List.take_append_drop, List.take_append_drop, h, sumC_self] at e
  lia
theorem sumC_take {x y : List Nat} {p : Nat} (hl : x.length = y.length) (h : x.drop p = y.drop p) : sumC (x.take p) (y.take p) = sumC x y := by
  have e := sumC_app (x.take p) (y.take p) (x.drop p) (y.drop p) (by rw [List.length_take, List.length_take, hl])
  rw [List.take_append_drop, List.take_append_drop, h, sumC_self] at e
  lia
theorem rev_drop {x y : List Nat} {q : Nat} (hl : x.length = y.length) (hq : q ≤ x.length) (h : x.reverse.take q = y.reverse.take q) : x.drop (x.length - q) = y.drop (y.length - q) := by
  have := congrArg List.reverse h
  rw [List.reverse_take, List.reverse_take] at this
  simpa [hl] using this

structure RInv (A : List Nat) (c b : Nat) (R : List Int) (sb : Int) (i : Nat) (s : Int × Int × Int × List Int) : Prop where
  len : s.2.2.2.length = A.length
  old : ∀ j, i ≤ j → s.2.2.2.getD j 0 = R.getD j 0
  dist : s.1 = if i = 0 then 2 * (b : Int) else R.getD (i - 1) 0
  res : s.2.1 = if i = 0 then 2 * (b : Int) else s.2.2.2.getD (i - 1) 0
  lo : ∀ j < i, 2 * ((j : Int) - b) ≤ s.2.2.2.getD j 0 ∧ 2 * ((b : Int) - j) ≤ s.2.2.2.getD j 0
  dia : b < i → s.2.2.2.getD b 0 = sb + scN c (A.getD b 0) ∧ s.2.2.1 ≤ sb + scN c (A.getD b 0)
  one : b = 0 → scN c (A.getD 0 0) ≠ 0 → 1 ≤ s.2.2.1
theorem getD_set {l : List Int} {k j : Nat} {v : Int} (h : k < l.length) : (l.set k v).getD j 0 = if j = k then v else l.getD j 0 := by
  simp only [List.getD_eq_getElem?_getD, List.getElem?_set]
  by_cases e : k = j
  · subst e; simp [h]
  · rw [if_neg e, if_neg (Ne.symm e)]
theorem rinv_step {A : List Nat} {c b : Nat} {R : List Int} {sb : Int} {i : Nat} {s : Int × Int × Int × List Int} (hR : ∀ j, j < A.length → 2 * ((j : Int) + 1 - b) ≤ R.getD j 0 ∧ 2 * ((b : Int) - (j + 1)) ≤ R.getD j 0)
    (hd : 1 ≤ b → R.getD (b - 1) 0 = sb) (h0 : b = 0 → sb = 0) (hs : sb + scN c (A.getD b 0) ≤ 4) (hi : i < A.length) (h : RInv A c b R sb i s) : RInv A c b R sb (i + 1) (istep c A i s) := by
  obtain ⟨d, r, mn, row⟩ := s
  obtain ⟨len, old, dist, res, lo, dia, one⟩ := h
  dsimp only at len old dist res lo dia one
  have o1 := old i (Nat.le_refl _)
  have sc := scN_nn c (A.getD i 0)
  have hRi := hR i hi
  generalize hr : (istep c A i (d, r, mn, row)).2.1 = r'
  have e : istep c A i (d, r, mn, row) = (row.getD i 0, r', if r' < mn then r' else mn, row.set i r') := by
    rw [← hr]; rfl
  have hr2 : r' = if d + scN c (A.getD i 0) < (if row.getD i 0 < r then row.getD i 0 else r) + 2 then d + scN c (A.getD i 0) else (if row.getD i 0 < r then row.getD i 0 else r) + 2 := by
    rw [← hr]; rfl
  have hlo : 2 * ((i : Int) - b) ≤ r' ∧ 2 * ((b : Int) - i) ≤ r' := by
    rw [hr2, o1]
    by_cases hi0 : i = 0
    · subst hi0
      rw [if_pos rfl] at dist res
      split <;> (try split) <;> lia
    · rw [if_neg hi0] at dist res
      have l1 := lo (i - 1) (by lia)
      have l2 := hR (i - 1) (by lia)
      split <;> (try split) <;> lia
  have hdia : i = b → r' = sb + scN c (A.getD b 0) := by
    intro hib
    subst hib
    rw [hr2, o1]
    by_cases hi0 : i = 0
    · subst hi0
      rw [if_pos rfl] at dist res
      have := h0 rfl
      split <;> (try split) <;> lia
    · rw [if_neg hi0] at dist res
      have l1 := lo (i - 1) (by lia)
      have l2 := hd (by lia)
      split <;> (try split) <;> lia
  have hone : b = 0 → scN c (A.getD 0 0) ≠ 0 → 1 ≤ r' := by
    intro hb hn
    by_cases hi0 : i = 0
    · have := hdia (by lia)
      have := h0 hb
      have := (scN_nn c (A.getD 0 0)).1
      subst hb
      lia
    · lia
  rw [e]
  refine ⟨by simpa using len, fun j hj => ?_, ?_, ?_, fun j hj => ?_, fun hb => ?_, fun hb hn => ?_⟩
  · dsimp only
    rw [getD_set (by lia), if_neg (by lia)]
    exact old j (by lia)
  · dsimp only
    rw [if_neg (by lia), o1]; rfl
  · dsimp only
    rw [if_neg (by lia), getD_set (by lia), if_pos (by lia)]
  · dsimp only
    rw [getD_set (by lia)]
    split
    · rename_i hji; subst hji; exact hlo
    · exact lo j (by lia)
  · dsimp only
    rw [getD_set (by lia)]
    by_cases hbi : b = i
    · have := hdia hbi.symm
      rw [if_pos hbi, this]
      refine ⟨rfl, ?_⟩
      split <;> lia
    · rw [if_neg hbi]
      have l := dia (by lia)
      refine ⟨l.1, ?_⟩
      split <;> lia
  · dsimp only
    have l1 := one hb hn
    have l2 := hone hb hn
    split <;> lia
theorem rinv_all {A : List Nat} {c b : Nat} {R : List Int} {sb : Int} (hRl : R.length = A.length) (hR : ∀ j, j < A.length → 2 * ((j : Int) + 1 - b) ≤ R.getD j 0 ∧ 2 * ((b : Int) - (j + 1)) ≤ R.getD j 0)
    (hd : 1 ≤ b → R.getD (b - 1) 0 = sb) (h0 : b = 0 → sb = 0) (hs : sb + scN c (A.getD b 0) ≤ 4) : ∀ i, i ≤ A.length → RInv A c b R sb i (iters c A i ((b : Int) * 2, (b : Int) * 2, 9223372036854775807, R))
  | 0, _ => ⟨hRl, fun _ _ => rfl, by rw [if_pos rfl]; show (b : Int) * 2 = _; lia, by rw [if_pos rfl]; show (b : Int) * 2 = _; lia, fun _ h => absurd h (Nat.not_lt_zero _), fun h => absurd h (Nat.not_lt_zero _), fun _ _ => by show (1 : Int) ≤ 9223372036854775807; lia⟩
  | i + 1, h => rinv_step hR hd h0 hs (by lia) (rinv_all hRl hR hd h0 hs i (by lia))
theorem take_snoc {x : List Nat} {k : Nat} (h : k < x.length) : x.take (k + 1) = x.take k ++ [x.getD k 0] := by
  rw [List.take_add_one, List.getD_eq_getElem?_getD, List.getElem?_eq_getElem h]; rfl
theorem sum_snoc {A B : List Nat} {k : Nat} (hl : A.length = B.length) (h : k < A.length) : sumC (A.take (k + 1)) (B.take (k + 1)) = sumC (A.take k) (B.take k) + scN (B.getD k 0) (A.getD k 0) := by
  rw [take_snoc h, take_snoc (hl ▸ h), sumC_app _ _ _ _ (by rw [List.length_take, List.length_take, hl])]
  simp [sumC]
theorem sum_le {A B : List Nat} (k : Nat) (hl : A.length = B.length) : sumC (A.take k) (B.take k) ≤ sumC A B := by
  have e := sumC_app (A.take k) (B.take k) (A.drop k) (B.drop k) (by rw [List.length_take, List.length_take, hl])
  rw [List.take_append_drop, List.take_append_drop] at e
  have := sumC_nn (A.drop k) (B.drop k)
  lia
theorem row0_get {n j : Nat} (h : j < n) : (row0 n).getD j 0 = 2 * ((j : Int) + 1) := by
  simp [row0, h]
theorem row0_len (n : Nat) : (row0 n).length = n := by simp [row0]
theorem orun_inv {A B : List Nat} (hl : A.length = B.length) (hs : sumC A B ≤ 4) : ∀ k, k ≤ A.length → ∃ R res, orun A B 100 k (row0 A.length) = some (R, res) ∧ R.length = A.length ∧ (∀ j, j < A.length → 2 * ((j : Int) + 1 - k) ≤ R.getD j 0 ∧ 2 * ((k : Int) - (j + 1)) ≤ R.getD j 0) ∧
    (1 ≤ k → R.getD (k - 1) 0 = sumC (A.take k) (B.take k)) ∧ (1 ≤ k → res = R.getD (A.length - 1) 0)
  | 0, _ => ⟨_, _, rfl, row0_len _, fun j hj => by rw [row0_get hj]; lia, fun h => absurd h (by lia), fun h => absurd h (by lia)⟩
  | k + 1, h => by
    obtain ⟨R, res, e, rl, lo, hd, _⟩ := orun_inv hl hs k (by lia)
    have hsn := sum_snoc hl (k := k) (by lia)
    have hle := sum_le (A := A) (B := B) (k + 1) hl
    have I := rinv_all (A := A) (c := B.getD k 0) (b := k) (R := R) (sb := sumC (A.take k) (B.take k)) rl lo hd (fun h0 => by subst h0; simp [sumC]) (by lia) A.length (Nat.le_refl _)
    unfold orun
    rw [e]
    dsimp only
    generalize iters (B.getD k 0) A A.length ((k : Int) * 2, (k : Int) * 2, 9223372036854775807, R) = t at I ⊢
    have dk := I.dia (by lia)
    have nn := sumC_nn (A.take (k + 1)) (B.take (k + 1))
    rw [if_neg (by lia)]
    refine ⟨_, _, rfl, I.len, fun j hj => ?_, fun _ => ?_, fun _ => ?_⟩
    · have := I.lo j hj
      lia
    · rw [Nat.add_sub_cancel, dk.1, hsn]
    · rw [I.res, if_neg (by lia)]
theorem levD_eq {A B : List Nat} (hl : A.length = B.length) (hs : sumC A B ≤ 4) : levD A B 100 = sumC A B := by
  unfold levD
  rw [if_neg (by lia)]
  obtain ⟨R, res, e, _, _, hd, hr⟩ := orun_inv hl hs A.length (Nat.le_refl _)
  rw [← hl, e]
  dsimp only
  by_cases h0 : A.length = 0
  · have hA : A = [] := List.eq_nil_of_length_eq_zero h0
    have hB : B = [] := List.eq_nil_of_length_eq_zero (hl ▸ h0)
    subst hA; subst hB
    have e' : orun [] [] 100 0 (row0 0) = some (R, res) := e
    simp only [orun, Option.some.injEq, Prod.mk.injEq] at e'
    rw [← e'.2]; rfl
  · rw [hr (by lia), hd (by lia), List.take_length]
    rw [hl, List.take_length]
theorem levR_eq {A B : List Nat} (hl : A.length = B.length) (hs : sumC A B ≤ 4) : levR A B 100 = sumC A B := by
  unfold levR
  split
  · rename_i h
    have h0 : A.length = 0 := by rcases h with rfl | rfl <;> simp_all
    have hA : A = [] := List.eq_nil_of_length_eq_zero h0
    have hB : B = [] := List.eq_nil_of_length_eq_zero (hl ▸ h0)
    subst hA; subst hB; rfl
  · rw [if_neg (by lia)]
    exact levD_eq hl hs
theorem trim_len {x y : List Nat} (hl : x.length = y.length) (n : Nat) : (x.drop n).length = (y.drop n).length := by rw [List.length_drop, List.length_drop, hl]
theorem trim_suf {x y : List Nat} (hl : x.length = y.length) : let q := preLen x.reverse y.reverse; q ≤ x.length ∧ x.drop (x.length - q) = y.drop (y.length - q) := by
  intro q
  have hq : q ≤ x.length := by have := (preLen_le x.reverse y.reverse).1; simpa using this
  exact ⟨hq, rev_drop hl hq (pre_take _ _)⟩
theorem lev_sum {x y : List Nat} (hl : x.length = y.length) (hs : sumC x y ≤ 4) : levL x y 100 = sumC x y := by
  unfold levL
  split
  · rename_i h
    rw [h, sumC_self]
  · have e1 := sumC_drop hl (pre_take x y)
    have l1 := trim_len hl (preLen x y)
    dsimp only
    unfold levS
    generalize x.drop (preLen x y) = x1 at *
    generalize y.drop (preLen x y) = y1 at *
    obtain ⟨hq, e2⟩ := trim_suf l1
    dsimp only
    generalize preLen x1.reverse y1.reverse = q at *
    rw [← l1] at e2 ⊢
    have e3 := sumC_take l1 e2
    rw [levR_eq (by rw [List.length_take, List.length_take, l1]) (by lia)]
    lia

theorem levD_zero {A B : List Nat} (hl : A.length = B.length) (hn : 0 < A.length) (hne : A.getD 0 0 ≠ B.getD 0 0) : levD A B 0 = 1 := by
  unfold levD
  rw [if_neg (by lia)]
  have hsc := scN_pos (Ne.symm hne)
  have hsc2 := (scN_nn (B.getD 0 0) (A.getD 0 0)).2
  have I := rinv_all (A := A) (c := B.getD 0 0) (b := 0) (R := row0 A.length) (sb := 0) (row0_len _) (fun j hj => by rw [row0_get hj]; lia) (fun h => absurd h (by lia)) (fun _ => rfl) (by lia) A.length (Nat.le_refl _)
  have m := I.one rfl (by lia)
  have e1 : orun A B 0 1 (row0 A.length) = none := by
    unfold orun orun
    dsimp only
    rw [if_pos (by exact Int.lt_of_lt_of_le (by lia) m)]
  have en : ∀ n, 1 ≤ n → orun A B 0 n (row0 A.length) = none := by
    intro n hn
    induction n with
    | zero => lia
    | succ n ih =>
      by_cases h : n = 0
      · subst h; exact e1
      · unfold orun
        rw [ih (by lia)]
  rw [en _ (by lia)]
  rfl
theorem head_ne : ∀ {x y : List Nat}, x.length = y.length → x ≠ y → 0 < (x.drop (preLen x y)).length ∧ (x.drop (preLen x y)).getD 0 0 ≠ (y.drop (preLen x y)).getD 0 0
  | [], [], _, h => absurd rfl h
  | [], _ :: _, hl, _ => by simp at hl
  | _ :: _, [], hl, _ => by simp at hl
  | a :: x, b :: y, hl, h => by
    unfold preLen
    by_cases e : a = b
    · subst e
      rw [if_pos rfl]
      have := head_ne (x := x) (y := y) (by simpa using hl) (fun q => h (by rw [q]))
      simpa using this
    · rw [if_neg e]
      simpa using e
theorem lev_zero {x y : List Nat} (hl : x.length = y.length) (hne : x ≠ y) : levL x y 0 = 1 := by
  unfold levL
  rw [if_neg hne]
  obtain ⟨h1, h2⟩ := head_ne hl hne
  have l1 := trim_len hl (preLen x y)
  dsimp only
  unfold levS
  generalize x.drop (preLen x y) = x1 at *
  generalize y.drop (preLen x y) = y1 at *
  obtain ⟨hq, e2⟩ := trim_suf l1
  dsimp only
  generalize preLen x1.reverse y1.reverse = q at *
  rw [← l1] at e2 ⊢
  have hq1 : q < x1.length := by
    rcases Nat.lt_or_ge q x1.length with h | h
    · exact h
    · have : x1.length - q = 0 := by lia
      rw [this, List.drop_zero, List.drop_zero] at e2
      exact absurd (by rw [e2]) h2
  have g : ∀ z : List Nat, z.length = x1.length → (z.take (x1.length - q)).getD 0 0 = z.getD 0 0 := fun z hz => by
    simp only [List.getD_eq_getElem?_getD, List.getElem?_take]
    rw [if_pos (by lia)]
  unfold levR
  have la : (x1.take (x1.length - q)).length = x1.length - q := by rw [List.length_take]; lia
  have lb : (y1.take (x1.length - q)).length = x1.length - q := by rw [List.length_take]; lia
  have n1 : x1.take (x1.length - q) ≠ [] := fun h => by rw [h, List.length_nil] at la; lia
  have n2 : y1.take (x1.length - q) ≠ [] := fun h => by rw [h, List.length_nil] at lb; lia
  rw [if_neg (fun h => h.elim n1 n2), if_neg (by lia)]
  exact levD_zero (by lia) (by lia) (by rw [g _ rfl, g _ l1.symm]; exact h2)
end
section
set_option maxRecDepth 100000
set_option maxHeartbeats 4000000
noncomputable def valB : List Int → Int
  | [] => 0
  | b :: r => b + 2 * valB r
noncomputable def Bits (l : List Int) : Prop := ∀ b ∈ l, 0 ≤ b ∧ b ≤ 1
theorem bits_tl {b : Int} {r : List Int} (h : Bits (b :: r)) : Bits r := fun c hc => h c (List.mem_cons_of_mem _ hc)
theorem val_nn : ∀ {l : List Int}, Bits l → 0 ≤ valB l ∧ valB l < 2 ^ l.length
  | [], _ => by simp [valB]
  | b :: r, h => by
    have ih := val_nn (bits_tl h)
    have hb := h b (List.mem_cons_self ..)
    rw [valB, List.length_cons, Int.pow_succ]
    lia
theorem val_bit : ∀ {l : List Int} (k : Nat), Bits l → k < l.length → valB l / 2 ^ k % 2 = l.getD k 0
  | [], _, _, h => by simp at h
  | b :: r, 0, h, _ => by
    have hb := h b (List.mem_cons_self ..)
    rw [valB]
    simp
    lia
  | b :: r, k + 1, h, hk => by
    have hb := h b (List.mem_cons_self ..)
    have ih := val_bit (l := r) k (bits_tl h) (by simpa using hk)
    rw [valB, show (2 : Int) ^ (k + 1) = 2 * 2 ^ k by rw [Int.pow_succ, Int.mul_comm], ← Int.ediv_ediv_of_nonneg (by decide), show (b + 2 * valB r) / 2 = valB r by lia, ih]
    rfl
theorem val_set : ∀ {l : List Int} (k : Nat), k < l.length → valB (l.set k (1 - l.getD k 0)) = valB l + 2 ^ k - 2 * (l.getD k 0 * 2 ^ k)
  | [], _, h => by simp at h
  | b :: r, 0, _ => by
    show (1 - b) + 2 * valB r = b + 2 * valB r + 2 ^ 0 - 2 * (b * 2 ^ 0)
    lia
  | b :: r, k + 1, h => by
    have ih := val_set (l := r) k (by simpa using h)
    show b + 2 * valB (r.set k (1 - r.getD k 0)) = b + 2 * valB r + 2 ^ (k + 1) - 2 * (r.getD k 0 * 2 ^ (k + 1))
    rw [ih, Int.pow_succ, show r.getD k 0 * (2 ^ k * 2) = r.getD k 0 * 2 ^ k * 2 from (Int.mul_assoc ..).symm]
    generalize r.getD k 0 * 2 ^ k = z
    lia
theorem xor_pow (x : Int) (k : Nat) : Builtin.bitXor x ((2 : Int) ^ k) = x + 2 ^ k - 2 * ((x / 2 ^ k % 2) * 2 ^ k) := by
  rw [bitXor_and, kbt_bit]
theorem flip_at (b0 b1 b2 b3 b4 b5 b6 b7 b8 b9 b10 b11 n : Int) : flipB [b0, b1, b2, b3, b4, b5, b6, b7, b8, b9, b10, b11] n =
    [if 0 = n % 12 then 1 - b0 else b0, if 1 = n % 12 then 1 - b1 else b1, if 2 = n % 12 then 1 - b2 else b2, if 3 = n % 12 then 1 - b3 else b3, if 4 = n % 12 then 1 - b4 else b4, if 5 = n % 12 then 1 - b5 else b5, if 6 = n % 12 then 1 - b6 else b6, if 7 = n % 12 then 1 - b7 else b7, if 8 = n % 12 then 1 - b8 else b8, if 9 = n % 12 then 1 - b9 else b9, if 10 = n % 12 then 1 - b10 else b10, if 11 = n % 12 then 1 - b11 else b11] := rfl
theorem flip_set {bits : List Int} (hl : bits.length = 12) {n : Int} {k : Nat} (hk : k < 12) (hn : n % 12 = k) : flipB bits n = bits.set k (1 - bits.getD k 0) := by
  match bits, hl with
  | [b0, b1, b2, b3, b4, b5, b6, b7, b8, b9, b10, b11], _ =>
    rw [flip_at, hn]
    match k, hk with
    | 0, _ => rfl
    | 1, _ => rfl
    | 2, _ => rfl
    | 3, _ => rfl
    | 4, _ => rfl
    | 5, _ => rfl
    | 6, _ => rfl
    | 7, _ => rfl
    | 8, _ => rfl
    | 9, _ => rfl
    | 10, _ => rfl
    | 11, _ => rfl
theorem flip_val {bits : List Int} (h : BitsOk bits) (n : Int) : Builtin.bitXor (valB bits) (2 ^ (n.fmod 12).toNat) = valB (flipB bits n) := by
  have hn : n.fmod 12 = n % 12 := Int.fmod_eq_emod_of_nonneg _ (by decide)
  have hm : 0 ≤ n % 12 ∧ n % 12 < 12 := by lia
  obtain ⟨k, e⟩ := Int.eq_ofNat_of_zero_le hm.1
  have hk : k < 12 := by lia
  rw [hn, e, Int.toNat_natCast, xor_pow, val_bit k h.2 (by rw [h.1]; exact hk), flip_set h.1 hk e, val_set k (by rw [h.1]; exact hk)]
theorem mode_val (ns : List Int) : ∀ i, modeAt ns i = valB (bitsAt ns i)
  | 0 => rfl
  | i + 1 => by rw [modeAt, bitsAt, mode_val ns i, flip_val (bits_ok ns i)]
theorem nat_bit {x : Int} (hx : 0 ≤ x) {k p : Nat} (hp : p = 2 ^ k) {b : Int} (hb : x / 2 ^ k % 2 = b) (hb1 : 0 ≤ b ∧ b ≤ 1) : x.toNat &&& p = b.toNat * p := by
  subst hp
  have h := kbt_bit x k
  have e : ((2 : Int) ^ k) = ((2 ^ k : Nat) : Int) := by simp
  rw [hb, e, bitAnd_pp hx (by exact Int.natCast_nonneg _), Int.toNat_natCast] at h
  have hb2 : b = (b.toNat : Int) := by lia
  rw [hb2] at h
  exact_mod_cast h
theorem bit01 {b : Int} (h : 0 ≤ b ∧ b ≤ 1) : b = 0 ∨ b = 1 := by lia
theorem sel_one {x : Int} (hx : 0 ≤ x) {i k p ch : Nat} (hi : i ≠ 0) (hp : p = 2 ^ k) {b : Int} (hb : x / 2 ^ k % 2 = b) (hb1 : 0 ≤ b ∧ b ≤ 1) (hp0 : p ≠ 0) : sel x i [((p : Int), ch)] = if b = 1 then ch else 45 := by
  have h := nat_bit hx hp hb hb1
  simp only [sel, hit, if_neg hi]
  rw [bitAnd_pp hx (by lia), Int.toNat_natCast, h]
  rcases bit01 hb1 with rfl | rfl
  · simp; lia
  · simp
theorem sel_three {x : Int} (hx : 0 ≤ x) {i ka kc p q c1 c2 c3 : Nat} (hi : i ≠ 0) (hp : p = 2 ^ ka) (hq : q = 2 ^ kc) {a c : Int} (ha : x / 2 ^ ka % 2 = a) (hc : x / 2 ^ kc % 2 = c) (ha1 : 0 ≤ a ∧ a ≤ 1) (hc1 : 0 ≤ c ∧ c ≤ 1) (hp0 : p ≠ 0) (hq0 : q ≠ 0) (hpq : (p ||| q) ≠ p) (hpq2 : (p ||| q) ≠ q) (hpq3 : (p ||| q) ≠ 0) :
    sel x i [(((p ||| q : Nat) : Int), c1), ((p : Int), c2), ((q : Int), c3)] = if a = 1 ∧ c = 1 then c1 else if a = 1 then c2 else if c = 1 then c3 else 45 := by
  have h1 := nat_bit hx hp ha ha1
  have h2 := nat_bit hx hq hc hc1
  simp only [sel, hit, if_neg hi]
  rw [bitAnd_pp hx (by lia), bitAnd_pp hx (by lia), bitAnd_pp hx (by lia), Int.toNat_natCast, Int.toNat_natCast, Int.toNat_natCast, Nat.and_or_distrib_left, h1, h2]
  have k1 : ¬ (0 : Int) = ((p ||| q : Nat) : Int) := by lia
  have k2 : ¬ (0 : Int) = (p : Int) := by lia
  have k3 : ¬ (0 : Int) = (q : Int) := by lia
  have k4 : ¬ (p : Int) = ((p ||| q : Nat) : Int) := by lia
  have k5 : ¬ (q : Int) = ((p ||| q : Nat) : Int) := by lia
  rcases bit01 ha1 with rfl | rfl <;> rcases bit01 hc1 with rfl | rfl
  · simp [k1, k2, k3]
  · simp [k5, k2]
  · simp [k4]
  · simp
theorem sel_zero {x : Int} (hx : 0 ≤ x) (h12 : x / 2 ^ 12 % 2 = 0) (h13 : x / 2 ^ 13 % 2 = 0) (h14 : x / 2 ^ 14 % 2 = 0) (h15 : x / 2 ^ 15 % 2 = 1) : sel x 0 [(40960, 108), (49152, 115), (32768, 45), (24576, 98), (16384, 100), (8192, 99), (4096, 112)] = 45 := by
  have a := nat_bit hx (p := 4096) (by decide) h12 (by decide)
  have b := nat_bit hx (p := 8192) (by decide) h13 (by decide)
  have c := nat_bit hx (p := 16384) (by decide) h14 (by decide)
  have d := nat_bit hx (p := 32768) (by decide) h15 (by decide)
  have e : x.toNat &&& 61440 = 32768 := by
    rw [show (61440 : Nat) = 4096 ||| (8192 ||| (16384 ||| 32768)) by decide, Nat.and_or_distrib_left, Nat.and_or_distrib_left, Nat.and_or_distrib_left, a, b, c, d]
    decide
  have e2 : Builtin.bitAnd x 61440 = 32768 := by
    rw [bitAnd_pp hx (by decide)]
    show ((x.toNat &&& 61440 : Nat) : Int) = 32768
    rw [e]; rfl
  simp [sel, hit, e2]
theorem ch_r {b : Int} (h : 0 ≤ b ∧ b ≤ 1) : (cl (Txt.item (Str.ofString "-r") b)).getD 0 0 = if b = 1 then 114 else 45 := by
  rcases bit01 h with rfl | rfl <;> decide +kernel
theorem ch_w {b : Int} (h : 0 ≤ b ∧ b ≤ 1) : (cl (Txt.item (Str.ofString "-w") b)).getD 0 0 = if b = 1 then 119 else 45 := by
  rcases bit01 h with rfl | rfl <;> decide +kernel
theorem ch_s {a c : Int} (ha : 0 ≤ a ∧ a ≤ 1) (hc : 0 ≤ c ∧ c ≤ 1) : (cl (Txt.item ([Str.ofString "-x", Str.ofString "Ss"].getD a.toNat Str.empty) c)).getD 0 0 = if a = 1 ∧ c = 1 then 115 else if a = 1 then 83 else if c = 1 then 120 else 45 := by
  rcases bit01 ha with rfl | rfl <;> rcases bit01 hc with rfl | rfl <;> decide +kernel
theorem ch_t {a c : Int} (ha : 0 ≤ a ∧ a ≤ 1) (hc : 0 ≤ c ∧ c ≤ 1) : (cl (Txt.item ([Str.ofString "-x", Str.ofString "Tt"].getD a.toNat Str.empty) c)).getD 0 0 = if a = 1 ∧ c = 1 then 116 else if a = 1 then 84 else if c = 1 then 120 else 45 := by
  rcases bit01 ha with rfl | rfl <;> rcases bit01 hc with rfl | rfl <;> decide +kernel
theorem fm_signs {b0 b1 b2 b3 b4 b5 b6 b7 b8 b9 b10 b11 : Int} (h0 : 0 ≤ b0 ∧ b0 ≤ 1) (h1 : 0 ≤ b1 ∧ b1 ≤ 1) (h2 : 0 ≤ b2 ∧ b2 ≤ 1) (h3 : 0 ≤ b3 ∧ b3 ≤ 1) (h4 : 0 ≤ b4 ∧ b4 ≤ 1) (h5 : 0 ≤ b5 ∧ b5 ≤ 1) (h6 : 0 ≤ b6 ∧ b6 ≤ 1) (h7 : 0 ≤ b7 ∧ b7 ≤ 1) (h8 : 0 ≤ b8 ∧ b8 ≤ 1) (h9 : 0 ≤ b9 ∧ b9 ≤ 1) (h10 : 0 ≤ b10 ∧ b10 ≤ 1) (h11 : 0 ≤ b11 ∧ b11 ≤ 1) :
    fmL (valB [b0, b1, b2, b3, b4, b5, b6, b7, b8, b9, b10, b11]) = 45 :: signC (signsB [b0, b1, b2, b3, b4, b5, b6, b7, b8, b9, b10, b11]) := by
  simp only [fmL, valB, signsB, signsOf, signC, List.map_cons, List.map_nil]
  have hB : Bits [b0, b1, b2, b3, b4, b5, b6, b7, b8, b9, b10, b11, 0, 0, 0, 1] := by
    intro b hb
    simp only [List.mem_cons, List.not_mem_nil, or_false] at hb
    rcases hb with rfl | rfl | rfl | rfl | rfl | rfl | rfl | rfl | rfl | rfl | rfl | rfl | rfl | rfl | rfl | rfl
    · exact h0
    · exact h1
    · exact h2
    · exact h3
    · exact h4
    · exact h5
    · exact h6
    · exact h7
    · exact h8
    · exact h9
    · exact h10
    · exact h11
    all_goals decide
  have ex : 32768 + (b0 + 2 * (b1 + 2 * (b2 + 2 * (b3 + 2 * (b4 + 2 * (b5 + 2 * (b6 + 2 * (b7 + 2 * (b8 + 2 * (b9 + 2 * (b10 + 2 * (b11 + 2 * 0)))))))))))) = valB [b0, b1, b2, b3, b4, b5, b6, b7, b8, b9, b10, b11, 0, 0, 0, 1] := by
    simp only [valB]; lia
  rw [ex]
  have x0 := (val_nn hB).1
  have e0 : valB [b0, b1, b2, b3, b4, b5, b6, b7, b8, b9, b10, b11, 0, 0, 0, 1] / 2 ^ 0 % 2 = b0 := val_bit 0 hB (show 0 < 16 by decide)
  have e1 : valB [b0, b1, b2, b3, b4, b5, b6, b7, b8, b9, b10, b11, 0, 0, 0, 1] / 2 ^ 1 % 2 = b1 := val_bit 1 hB (show 1 < 16 by decide)
  have e2 : valB [b0, b1, b2, b3, b4, b5, b6, b7, b8, b9, b10, b11, 0, 0, 0, 1] / 2 ^ 2 % 2 = b2 := val_bit 2 hB (show 2 < 16 by decide)
  have e3 : valB [b0, b1, b2, b3, b4, b5, b6, b7, b8, b9, b10, b11, 0, 0, 0, 1] / 2 ^ 3 % 2 = b3 := val_bit 3 hB (show 3 < 16 by decide)
  have e4 : valB [b0, b1, b2, b3, b4, b5, b6, b7, b8, b9, b10, b11, 0, 0, 0, 1] / 2 ^ 4 % 2 = b4 := val_bit 4 hB (show 4 < 16 by decide)
  have e5 : valB [b0, b1, b2, b3, b4, b5, b6, b7, b8, b9, b10, b11, 0, 0, 0, 1] / 2 ^ 5 % 2 = b5 := val_bit 5 hB (show 5 < 16 by decide)
  have e6 : valB [b0, b1, b2, b3, b4, b5, b6, b7, b8, b9, b10, b11, 0, 0, 0, 1] / 2 ^ 6 % 2 = b6 := val_bit 6 hB (show 6 < 16 by decide)
  have e7 : valB [b0, b1, b2, b3, b4, b5, b6, b7, b8, b9, b10, b11, 0, 0, 0, 1] / 2 ^ 7 % 2 = b7 := val_bit 7 hB (show 7 < 16 by decide)
  have e8 : valB [b0, b1, b2, b3, b4, b5, b6, b7, b8, b9, b10, b11, 0, 0, 0, 1] / 2 ^ 8 % 2 = b8 := val_bit 8 hB (show 8 < 16 by decide)
  have e9 : valB [b0, b1, b2, b3, b4, b5, b6, b7, b8, b9, b10, b11, 0, 0, 0, 1] / 2 ^ 9 % 2 = b9 := val_bit 9 hB (show 9 < 16 by decide)
  have e10 : valB [b0, b1, b2, b3, b4, b5, b6, b7, b8, b9, b10, b11, 0, 0, 0, 1] / 2 ^ 10 % 2 = b10 := val_bit 10 hB (show 10 < 16 by decide)
  have e11 : valB [b0, b1, b2, b3, b4, b5, b6, b7, b8, b9, b10, b11, 0, 0, 0, 1] / 2 ^ 11 % 2 = b11 := val_bit 11 hB (show 11 < 16 by decide)
  have e12 : valB [b0, b1, b2, b3, b4, b5, b6, b7, b8, b9, b10, b11, 0, 0, 0, 1] / 2 ^ 12 % 2 = 0 := val_bit 12 hB (show 12 < 16 by decide)
  have e13 : valB [b0, b1, b2, b3, b4, b5, b6, b7, b8, b9, b10, b11, 0, 0, 0, 1] / 2 ^ 13 % 2 = 0 := val_bit 13 hB (show 13 < 16 by decide)
  have e14 : valB [b0, b1, b2, b3, b4, b5, b6, b7, b8, b9, b10, b11, 0, 0, 0, 1] / 2 ^ 14 % 2 = 0 := val_bit 14 hB (show 14 < 16 by decide)
  have e15 : valB [b0, b1, b2, b3, b4, b5, b6, b7, b8, b9, b10, b11, 0, 0, 0, 1] / 2 ^ 15 % 2 = 1 := val_bit 15 hB (show 15 < 16 by decide)
  generalize valB [b0, b1, b2, b3, b4, b5, b6, b7, b8, b9, b10, b11, 0, 0, 0, 1] = x at *
  rw [ch_r h8, ch_w h7, ch_s h11 h6, ch_r h5, ch_w h4, ch_s h10 h3, ch_r h2, ch_w h1, ch_t h9 h0]
  have s0 := sel_zero x0 e12 e13 e14 e15
  have s1 := sel_one x0 (i := 1) (p := 256) (k := 8) (ch := 114) (by decide) (by decide) e8 h8 (by decide)
  rw [show ((256 : Nat) : Int) = 256 from rfl] at s1
  have s2 := sel_one x0 (i := 2) (p := 128) (k := 7) (ch := 119) (by decide) (by decide) e7 h7 (by decide)
  rw [show ((128 : Nat) : Int) = 128 from rfl] at s2
  have s3 := sel_three x0 (i := 3) (p := 2048) (q := 64) (ka := 11) (kc := 6) (c1 := 115) (c2 := 83) (c3 := 120) (by decide) (by decide) (by decide) e11 e6 h11 h6 (by decide) (by decide) (by decide) (by decide) (by decide)
  rw [show ((2048 ||| 64 : Nat) : Int) = 2112 by decide, show ((2048 : Nat) : Int) = 2048 from rfl, show ((64 : Nat) : Int) = 64 from rfl] at s3
  have s4 := sel_one x0 (i := 4) (p := 32) (k := 5) (ch := 114) (by decide) (by decide) e5 h5 (by decide)
  rw [show ((32 : Nat) : Int) = 32 from rfl] at s4
  have s5 := sel_one x0 (i := 5) (p := 16) (k := 4) (ch := 119) (by decide) (by decide) e4 h4 (by decide)
  rw [show ((16 : Nat) : Int) = 16 from rfl] at s5
  have s6 := sel_three x0 (i := 6) (p := 1024) (q := 8) (ka := 10) (kc := 3) (c1 := 115) (c2 := 83) (c3 := 120) (by decide) (by decide) (by decide) e10 e3 h10 h3 (by decide) (by decide) (by decide) (by decide) (by decide)
  rw [show ((1024 ||| 8 : Nat) : Int) = 1032 by decide, show ((1024 : Nat) : Int) = 1024 from rfl, show ((8 : Nat) : Int) = 8 from rfl] at s6
  have s7 := sel_one x0 (i := 7) (p := 4) (k := 2) (ch := 114) (by decide) (by decide) e2 h2 (by decide)
  rw [show ((4 : Nat) : Int) = 4 from rfl] at s7
  have s8 := sel_one x0 (i := 8) (p := 2) (k := 1) (ch := 119) (by decide) (by decide) e1 h1 (by decide)
  rw [show ((2 : Nat) : Int) = 2 from rfl] at s8
  have s9 := sel_three x0 (i := 9) (p := 512) (q := 1) (ka := 9) (kc := 0) (c1 := 116) (c2 := 84) (c3 := 120) (by decide) (by decide) (by decide) e9 e0 h9 h0 (by decide) (by decide) (by decide) (by decide) (by decide)
  rw [show ((512 ||| 1 : Nat) : Int) = 513 by decide, show ((512 : Nat) : Int) = 512 from rfl, show ((1 : Nat) : Int) = 1 from rfl] at s9
  have hf : fmChars x = [sel x 0 [(40960, 108), (49152, 115), (32768, 45), (24576, 98), (16384, 100), (8192, 99), (4096, 112)], sel x 1 [(256, 114)], sel x 2 [(128, 119)], sel x 3 [(2112, 115), (2048, 83), (64, 120)], sel x 4 [(32, 114)], sel x 5 [(16, 119)], sel x 6 [(1032, 115), (1024, 83), (8, 120)], sel x 7 [(4, 114)], sel x 8 [(2, 119)], sel x 9 [(513, 116), (512, 84), (1, 120)]] := rfl
  rw [hf, s0, s1, s2, s3, s4, s5, s6, s7, s8, s9]
end
section
set_option maxRecDepth 100000
set_option maxHeartbeats 4000000
noncomputable def alph : List Nat := [45, 114, 119, 120, 83, 115, 84, 116]
theorem row_form (ns : List Int) (i : Nat) : fmL (modeAt ns i) = 45 :: signC (sgAt ns i) := by
  rw [mode_val, sgAt]
  obtain ⟨hl, hb⟩ := bits_ok ns i
  generalize bitsAt ns i = bits at hl hb
  match bits, hl with
  | [b0, b1, b2, b3, b4, b5, b6, b7, b8, b9, b10, b11], _ =>
    exact fm_signs (hb b0 (by simp)) (hb b1 (by simp)) (hb b2 (by simp)) (hb b3 (by simp)) (hb b4 (by simp)) (hb b5 (by simp)) (hb b6 (by simp)) (hb b7 (by simp)) (hb b8 (by simp)) (hb b9 (by simp)) (hb b10 (by simp)) (hb b11 (by simp))
theorem val_bound {bits : List Int} (h : BitsOk bits) : 0 ≤ valB bits ∧ valB bits < 4096 := by
  have := val_nn h.2
  rw [h.1] at this
  exact this
theorem ite_in {p : Prop} [Decidable p] {a b : Nat} {l : List Nat} (ha : a ∈ l) (hb : b ∈ l) : (if p then a else b) ∈ l := by split <;> assumption
theorem sign_in (ns : List Int) (i : Nat) : ∀ c ∈ signC (sgAt ns i), c ∈ alph := by
  rw [sgAt]
  obtain ⟨hl, hb⟩ := bits_ok ns i
  generalize bitsAt ns i = bits at hl hb
  match bits, hl with
  | [b0, b1, b2, b3, b4, b5, b6, b7, b8, b9, b10, b11], _ =>
    have h0 := hb b0 (by simp)
    have h1 := hb b1 (by simp)
    have h2 := hb b2 (by simp)
    have h3 := hb b3 (by simp)
    have h4 := hb b4 (by simp)
    have h5 := hb b5 (by simp)
    have h6 := hb b6 (by simp)
    have h7 := hb b7 (by simp)
    have h8 := hb b8 (by simp)
    have h9 := hb b9 (by simp)
    have h10 := hb b10 (by simp)
    have h11 := hb b11 (by simp)
    intro c hc
    simp only [signC, signsB, signsOf, List.map_cons, List.map_nil, List.mem_cons, List.not_mem_nil, or_false] at hc
    rw [ch_r h8, ch_w h7, ch_s h11 h6, ch_r h5, ch_w h4, ch_s h10 h3, ch_r h2, ch_w h1, ch_t h9 h0] at hc
    rcases hc with rfl | rfl | rfl | rfl | rfl | rfl | rfl | rfl | rfl
    · exact ite_in (by decide) (by decide)
    · exact ite_in (by decide) (by decide)
    · exact ite_in (by decide) (ite_in (by decide) (ite_in (by decide) (by decide)))
    · exact ite_in (by decide) (by decide)
    · exact ite_in (by decide) (by decide)
    · exact ite_in (by decide) (ite_in (by decide) (ite_in (by decide) (by decide)))
    · exact ite_in (by decide) (by decide)
    · exact ite_in (by decide) (by decide)
    · exact ite_in (by decide) (ite_in (by decide) (ite_in (by decide) (by decide)))
theorem fm_ok_all (ns : List Int) (i : Nat) : FmOk (modeAt ns i) := by
  have hb := val_bound (bits_ok ns i)
  rw [← mode_val] at hb
  refine ⟨hb.1, hb.2, ?_⟩
  rw [row_form]
  intro c hc
  rcases List.mem_cons.mp hc with rfl | hc
  · decide
  · exact sign_in ns i c hc
theorem apC_eq : ∀ c ∈ alph, ∀ d ∈ alph, apC (sOf [c]) (sOf [d]) = scN d c := by decide +kernel
theorem aps_sum : ∀ (x y : List Nat), x.length = y.length → (∀ c ∈ x, c ∈ alph) → (∀ c ∈ y, c ∈ alph) → apS (x.map fun c => sOf [c]) (y.map fun c => sOf [c]) x.length = sumC x y := by
  intro x y hl hx hy
  have key : ∀ n, n ≤ x.length → apS (x.map fun c => sOf [c]) (y.map fun c => sOf [c]) n = sumC (x.take n) (y.take n) := by
    intro n
    induction n with
    | zero => intro _; simp [apS, sumC]
    | succ n ih =>
      intro h
      rw [apS, ih (by lia), sum_snoc hl (by lia)]
      congr 1
      have hx1 : n < x.length := by lia
      have hy1 : n < y.length := by lia
      have g : ∀ (z : List Nat), n < z.length → (z.map fun c => sOf [c]).getD n Str.empty = sOf [z.getD n 0] := fun z hz => by
        simp [hz]
      rw [g x hx1, g y hy1]
      have m : ∀ (z : List Nat), n < z.length → z.getD n 0 ∈ z := fun z hz => by
        rw [List.getD_eq_getElem?_getD, List.getElem?_eq_getElem hz]; exact List.getElem_mem hz
      exact apC_eq _ (hx _ (m x hx1)) _ (hy _ (m y hy1))
  rw [key _ (Nat.le_refl _), List.take_length, hl, List.take_length]
theorem sg_map (ns : List Int) (i : Nat) : sgAt ns i = (signC (sgAt ns i)).map fun c => sOf [c] := ones_sOf (sg_one ns i)
theorem sc_len (ns : List Int) (i : Nat) : (signC (sgAt ns i)).length = 9 := by simp [signC, sg_len]
theorem aps_sg (ns : List Int) (i j : Nat) : apS (sgAt ns i) (sgAt ns j) 9 = sumC (signC (sgAt ns i)) (signC (sgAt ns j)) := by
  have h := aps_sum (signC (sgAt ns i)) (signC (sgAt ns j)) (by rw [sc_len, sc_len]) (sign_in ns i) (sign_in ns j)
  rw [sc_len, ← sg_map, ← sg_map] at h
  exact h
theorem row_sum (ns : List Int) (i j : Nat) : sumC (cl (rowS (modeAt ns i))) (cl (rowS (modeAt ns j))) = sumC (signC (sgAt ns i)) (signC (sgAt ns j)) := by
  rw [rowS, rowS, cl_sOf, cl_sOf, rowL, rowL, sumC_app _ _ _ _ (by rw [fm_len, fm_len]), sumC_self, row_form, row_form, sumC, scN_self]
  lia
theorem row_cl_len (ns : List Int) (i : Nat) : (cl (rowS (modeAt ns i))).length = 23 := by rw [len_cl, row_len]
end
section
set_option maxRecDepth 100000
set_option maxHeartbeats 4000000
theorem cost_r {b : Int} (h : 0 ≤ b ∧ b ≤ 1) : 1 ≤ scN ((cl (Txt.item (Str.ofString "-r") (1 - b))).getD 0 0) ((cl (Txt.item (Str.ofString "-r") b)).getD 0 0) ∧ scN ((cl (Txt.item (Str.ofString "-r") (1 - b))).getD 0 0) ((cl (Txt.item (Str.ofString "-r") b)).getD 0 0) ≤ 2 := by
  rcases bit01 h with rfl | rfl <;> decide +kernel
theorem cost_w {b : Int} (h : 0 ≤ b ∧ b ≤ 1) : 1 ≤ scN ((cl (Txt.item (Str.ofString "-w") (1 - b))).getD 0 0) ((cl (Txt.item (Str.ofString "-w") b)).getD 0 0) ∧ scN ((cl (Txt.item (Str.ofString "-w") (1 - b))).getD 0 0) ((cl (Txt.item (Str.ofString "-w") b)).getD 0 0) ≤ 2 := by
  rcases bit01 h with rfl | rfl <;> decide +kernel
theorem cost_sa {a c : Int} (ha : 0 ≤ a ∧ a ≤ 1) (hc : 0 ≤ c ∧ c ≤ 1) : 1 ≤ scN ((cl (Txt.item ([Str.ofString "-x", Str.ofString "Ss"].getD (1 - a).toNat Str.empty) (c))).getD 0 0) ((cl (Txt.item ([Str.ofString "-x", Str.ofString "Ss"].getD (a).toNat Str.empty) (c))).getD 0 0) ∧ scN ((cl (Txt.item ([Str.ofString "-x", Str.ofString "Ss"].getD (1 - a).toNat Str.empty) (c))).getD 0 0) ((cl (Txt.item ([Str.ofString "-x", Str.ofString "Ss"].getD (a).toNat Str.empty) (c))).getD 0 0) ≤ 2 := by
  rcases bit01 ha with rfl | rfl <;> rcases bit01 hc with rfl | rfl <;> decide +kernel
theorem cost_sc {a c : Int} (ha : 0 ≤ a ∧ a ≤ 1) (hc : 0 ≤ c ∧ c ≤ 1) : 1 ≤ scN ((cl (Txt.item ([Str.ofString "-x", Str.ofString "Ss"].getD (a).toNat Str.empty) (1 - c))).getD 0 0) ((cl (Txt.item ([Str.ofString "-x", Str.ofString "Ss"].getD (a).toNat Str.empty) (c))).getD 0 0) ∧ scN ((cl (Txt.item ([Str.ofString "-x", Str.ofString "Ss"].getD (a).toNat Str.empty) (1 - c))).getD 0 0) ((cl (Txt.item ([Str.ofString "-x", Str.ofString "Ss"].getD (a).toNat Str.empty) (c))).getD 0 0) ≤ 2 := by
  rcases bit01 ha with rfl | rfl <;> rcases bit01 hc with rfl | rfl <;> decide +kernel
theorem cost_ta {a c : Int} (ha : 0 ≤ a ∧ a ≤ 1) (hc : 0 ≤ c ∧ c ≤ 1) : 1 ≤ scN ((cl (Txt.item ([Str.ofString "-x", Str.ofString "Tt"].getD (1 - a).toNat Str.empty) (c))).getD 0 0) ((cl (Txt.item ([Str.ofString "-x", Str.ofString "Tt"].getD (a).toNat Str.empty) (c))).getD 0 0) ∧ scN ((cl (Txt.item ([Str.ofString "-x", Str.ofString "Tt"].getD (1 - a).toNat Str.empty) (c))).getD 0 0) ((cl (Txt.item ([Str.ofString "-x", Str.ofString "Tt"].getD (a).toNat Str.empty) (c))).getD 0 0) ≤ 2 := by
  rcases bit01 ha with rfl | rfl <;> rcases bit01 hc with rfl | rfl <;> decide +kernel
theorem cost_tc {a c : Int} (ha : 0 ≤ a ∧ a ≤ 1) (hc : 0 ≤ c ∧ c ≤ 1) : 1 ≤ scN ((cl (Txt.item ([Str.ofString "-x", Str.ofString "Tt"].getD (a).toNat Str.empty) (1 - c))).getD 0 0) ((cl (Txt.item ([Str.ofString "-x", Str.ofString "Tt"].getD (a).toNat Str.empty) (c))).getD 0 0) ∧ scN ((cl (Txt.item ([Str.ofString "-x", Str.ofString "Tt"].getD (a).toNat Str.empty) (1 - c))).getD 0 0) ((cl (Txt.item ([Str.ofString "-x", Str.ofString "Tt"].getD (a).toNat Str.empty) (c))).getD 0 0) ≤ 2 := by
  rcases bit01 ha with rfl | rfl <;> rcases bit01 hc with rfl | rfl <;> decide +kernel
theorem fc_0 {b0 b1 b2 b3 b4 b5 b6 b7 b8 b9 b10 b11 : Int} (h0 : 0 ≤ b0 ∧ b0 ≤ 1) (h1 : 0 ≤ b1 ∧ b1 ≤ 1) (h2 : 0 ≤ b2 ∧ b2 ≤ 1) (h3 : 0 ≤ b3 ∧ b3 ≤ 1) (h4 : 0 ≤ b4 ∧ b4 ≤ 1) (h5 : 0 ≤ b5 ∧ b5 ≤ 1) (h6 : 0 ≤ b6 ∧ b6 ≤ 1) (h7 : 0 ≤ b7 ∧ b7 ≤ 1) (h8 : 0 ≤ b8 ∧ b8 ≤ 1) (h9 : 0 ≤ b9 ∧ b9 ≤ 1) (h10 : 0 ≤ b10 ∧ b10 ≤ 1) (h11 : 0 ≤ b11 ∧ b11 ≤ 1) : 1 ≤ sumC (signC (signsB [b0, b1, b2, b3, b4, b5, b6, b7, b8, b9, b10, b11])) (signC (signsB [1 - b0, b1, b2, b3, b4, b5, b6, b7, b8, b9, b10, b11])) ∧ sumC (signC (signsB [b0, b1, b2, b3, b4, b5, b6, b7, b8, b9, b10, b11])) (signC (signsB [1 - b0, b1, b2, b3, b4, b5, b6, b7, b8, b9, b10, b11])) ≤ 2 := by
  have c := cost_tc h9 h0
  simp only [signC, signsB, signsOf, List.map_cons, List.map_nil, sumC, scN_self]
  lia
theorem fc_1 {b0 b1 b2 b3 b4 b5 b6 b7 b8 b9 b10 b11 : Int} (h0 : 0 ≤ b0 ∧ b0 ≤ 1) (h1 : 0 ≤ b1 ∧ b1 ≤ 1) (h2 : 0 ≤ b2 ∧ b2 ≤ 1) (h3 : 0 ≤ b3 ∧ b3 ≤ 1) (h4 : 0 ≤ b4 ∧ b4 ≤ 1) (h5 : 0 ≤ b5 ∧ b5 ≤ 1) (h6 : 0 ≤ b6 ∧ b6 ≤ 1) (h7 : 0 ≤ b7 ∧ b7 ≤ 1) (h8 : 0 ≤ b8 ∧ b8 ≤ 1) (h9 : 0 ≤ b9 ∧ b9 ≤ 1) (h10 : 0 ≤ b10 ∧ b10 ≤ 1) (h11 : 0 ≤ b11 ∧ b11 ≤ 1) : 1 ≤ sumC (signC (signsB [b0, b1, b2, b3, b4, b5, b6, b7, b8, b9, b10, b11])) (signC (signsB [b0, 1 - b1, b2, b3, b4, b5, b6, b7, b8, b9, b10, b11])) ∧ sumC (signC (signsB [b0, b1, b2, b3, b4, b5, b6, b7, b8, b9, b10, b11])) (signC (signsB [b0, 1 - b1, b2, b3, b4, b5, b6, b7, b8, b9, b10, b11])) ≤ 2 := by
  have c := cost_w h1
  simp only [signC, signsB, signsOf, List.map_cons, List.map_nil, sumC, scN_self]
  lia
theorem fc_2 {b0 b1 b2 b3 b4 b5 b6 b7 b8 b9 b10 b11 : Int} (h0 : 0 ≤ b0 ∧ b0 ≤ 1) (h1 : 0 ≤ b1 ∧ b1 ≤ 1) (h2 : 0 ≤ b2 ∧ b2 ≤ 1) (h3 : 0 ≤ b3 ∧ b3 ≤ 1) (h4 : 0 ≤ b4 ∧ b4 ≤ 1) (h5 : 0 ≤ b5 ∧ b5 ≤ 1) (h6 : 0 ≤ b6 ∧ b6 ≤ 1) (h7 : 0 ≤ b7 ∧ b7 ≤ 1) (h8 : 0 ≤ b8 ∧ b8 ≤ 1) (h9 : 0 ≤ b9 ∧ b9 ≤ 1) (h10 : 0 ≤ b10 ∧ b10 ≤ 1) (h11 : 0 ≤ b11 ∧ b11 ≤ 1) : 1 ≤ sumC (signC (signsB [b0, b1, b2, b3, b4, b5, b6, b7, b8, b9, b10, b11])) (signC (signsB [b0, b1, 1 - b2, b3, b4, b5, b6, b7, b8, b9, b10, b11])) ∧ sumC (signC (signsB [b0, b1, b2, b3, b4, b5, b6, b7, b8, b9, b10, b11])) (signC (signsB [b0, b1, 1 - b2, b3, b4, b5, b6, b7, b8, b9, b10, b11])) ≤ 2 := by
  have c := cost_r h2
  simp only [signC, signsB, signsOf, List.map_cons, List.map_nil, sumC, scN_self]
  lia
theorem fc_3 {b0 b1 b2 b3 b4 b5 b6 b7 b8 b9 b10 b11 : Int} (h0 : 0 ≤ b0 ∧ b0 ≤ 1) (h1 : 0 ≤ b1 ∧ b1 ≤ 1) (h2 : 0 ≤ b2 ∧ b2 ≤ 1) (h3 : 0 ≤ b3 ∧ b3 ≤ 1) (h4 : 0 ≤ b4 ∧ b4 ≤ 1) (h5 : 0 ≤ b5 ∧ b5 ≤ 1) (h6 : 0 ≤ b6 ∧ b6 ≤ 1) (h7 : 0 ≤ b7 ∧ b7 ≤ 1) (h8 : 0 ≤ b8 ∧ b8 ≤ 1) (h9 : 0 ≤ b9 ∧ b9 ≤ 1) (h10 : 0 ≤ b10 ∧ b10 ≤ 1) (h11 : 0 ≤ b11 ∧ b11 ≤ 1) : 1 ≤ sumC (signC (signsB [b0, b1, b2, b3, b4, b5, b6, b7, b8, b9, b10, b11])) (signC (signsB [b0, b1, b2, 1 - b3, b4, b5, b6, b7, b8, b9, b10, b11])) ∧ sumC (signC (signsB [b0, b1, b2, b3, b4, b5, b6, b7, b8, b9, b10, b11])) (signC (signsB [b0, b1, b2, 1 - b3, b4, b5, b6, b7, b8, b9, b10, b11])) ≤ 2 := by
  have c := cost_sc h10 h3
  simp only [signC, signsB, signsOf, List.map_cons, List.map_nil, sumC, scN_self]
  lia
theorem fc_4 {b0 b1 b2 b3 b4 b5 b6 b7 b8 b9 b10 b11 : Int} (h0 : 0 ≤ b0 ∧ b0 ≤ 1) (h1 : 0 ≤ b1 ∧ b1 ≤ 1) (h2 : 0 ≤ b2 ∧ b2 ≤ 1) (h3 : 0 ≤ b3 ∧ b3 ≤ 1) (h4 : 0 ≤ b4 ∧ b4 ≤ 1) (h5 : 0 ≤ b5 ∧ b5 ≤ 1) (h6 : 0 ≤ b6 ∧ b6 ≤ 1) (h7 : 0 ≤ b7 ∧ b7 ≤ 1) (h8 : 0 ≤ b8 ∧ b8 ≤ 1) (h9 : 0 ≤ b9 ∧ b9 ≤ 1) (h10 : 0 ≤ b10 ∧ b10 ≤ 1) (h11 : 0 ≤ b11 ∧ b11 ≤ 1) : 1 ≤ sumC (signC (signsB [b0, b1, b2, b3, b4, b5, b6, b7, b8, b9, b10, b11])) (signC (signsB [b0, b1, b2, b3, 1 - b4, b5, b6, b7, b8, b9, b10, b11])) ∧ sumC (signC (signsB [b0, b1, b2, b3, b4, b5, b6, b7, b8, b9, b10, b11])) (signC (signsB [b0, b1, b2, b3, 1 - b4, b5, b6, b7, b8, b9, b10, b11])) ≤ 2 := by
  have c := cost_w h4
  simp only [signC, signsB, signsOf, List.map_cons, List.map_nil, sumC, scN_self]
  lia
theorem fc_5 {b0 b1 b2 b3 b4 b5 b6 b7 b8 b9 b10 b11 : Int} (h0 : 0 ≤ b0 ∧ b0 ≤ 1) (h1 : 0 ≤ b1 ∧ b1 ≤ 1) (h2 : 0 ≤ b2 ∧ b2 ≤ 1) (h3 : 0 ≤ b3 ∧ b3 ≤ 1) (h4 : 0 ≤ b4 ∧ b4 ≤ 1) (h5 : 0 ≤ b5 ∧ b5 ≤ 1) (h6 : 0 ≤ b6 ∧ b6 ≤ 1) (h7 : 0 ≤ b7 ∧ b7 ≤ 1) (h8 : 0 ≤ b8 ∧ b8 ≤ 1) (h9 : 0 ≤ b9 ∧ b9 ≤ 1) (h10 : 0 ≤ b10 ∧ b10 ≤ 1) (h11 : 0 ≤ b11 ∧ b11 ≤ 1) : 1 ≤ sumC (signC (signsB [b0, b1, b2, b3, b4, b5, b6, b7, b8, b9, b10, b11])) (signC (signsB [b0, b1, b2, b3, b4, 1 - b5, b6, b7, b8, b9, b10, b11])) ∧ sumC (signC (signsB [b0, b1, b2, b3, b4, b5, b6, b7, b8, b9, b10, b11])) (signC (signsB [b0, b1, b2, b3, b4, 1 - b5, b6, b7, b8, b9, b10, b11])) ≤ 2 := by
  have c := cost_r h5
  simp only [signC, signsB, signsOf, List.map_cons, List.map_nil, sumC, scN_self]
  lia
theorem fc_6 {b0 b1 b2 b3 b4 b5 b6 b7 b8 b9 b10 b11 : Int} (h0 : 0 ≤ b0 ∧ b0 ≤ 1) (h1 : 0 ≤ b1 ∧ b1 ≤ 1) (h2 : 0 ≤ b2 ∧ b2 ≤ 1) (h3 : 0 ≤ b3 ∧ b3 ≤ 1) (h4 : 0 ≤ b4 ∧ b4 ≤ 1) (h5 : 0 ≤ b5 ∧ b5 ≤ 1) (h6 : 0 ≤ b6 ∧ b6 ≤ 1) (h7 : 0 ≤ b7 ∧ b7 ≤ 1) (h8 : 0 ≤ b8 ∧ b8 ≤ 1) (h9 : 0 ≤ b9 ∧ b9 ≤ 1) (h10 : 0 ≤ b10 ∧ b10 ≤ 1) (h11 : 0 ≤ b11 ∧ b11 ≤ 1) : 1 ≤ sumC (signC (signsB [b0, b1, b2, b3, b4, b5, b6, b7, b8, b9, b10, b11])) (signC (signsB [b0, b1, b2, b3, b4, b5, 1 - b6, b7, b8, b9, b10, b11])) ∧ sumC (signC (signsB [b0, b1, b2, b3, b4, b5, b6, b7, b8, b9, b10, b11])) (signC (signsB [b0, b1, b2, b3, b4, b5, 1 - b6, b7, b8, b9, b10, b11])) ≤ 2 := by
  have c := cost_sc h11 h6
  simp only [signC, signsB, signsOf, List.map_cons, List.map_nil, sumC, scN_self]
  lia
theorem fc_7 {b0 b1 b2 b3 b4 b5 b6 b7 b8 b9 b10 b11 : Int} (h0 : 0 ≤ b0 ∧ b0 ≤ 1) (h1 : 0 ≤ b1 ∧ b1 ≤ 1) (h2 : 0 ≤ b2 ∧ b2 ≤ 1) (h3 : 0 ≤ b3 ∧ b3 ≤ 1) (h4 : 0 ≤ b4 ∧ b4 ≤ 1) (h5 : 0 ≤ b5 ∧ b5 ≤ 1) (h6 : 0 ≤ b6 ∧ b6 ≤ 1) (h7 : 0 ≤ b7 ∧ b7 ≤ 1) (h8 : 0 ≤ b8 ∧ b8 ≤ 1) (h9 : 0 ≤ b9 ∧ b9 ≤ 1) (h10 : 0 ≤ b10 ∧ b10 ≤ 1) (h11 : 0 ≤ b11 ∧ b11 ≤ 1) : 1 ≤ sumC (signC (signsB [b0, b1, b2, b3, b4, b5, b6, b7, b8, b9, b10, b11])) (signC (signsB [b0, b1, b2, b3, b4, b5, b6, 1 - b7, b8, b9, b10, b11])) ∧ sumC (signC (signsB [b0, b1, b2, b3, b4, b5, b6, b7, b8, b9, b10, b11])) (signC (signsB [b0, b1, b2, b3, b4, b5, b6, 1 - b7, b8, b9, b10, b11])) ≤ 2 := by
  have c := cost_w h7
  simp only [signC, signsB, signsOf, List.map_cons, List.map_nil, sumC, scN_self]
  lia
theorem fc_8 {b0 b1 b2 b3 b4 b5 b6 b7 b8 b9 b10 b11 : Int} (h0 : 0 ≤ b0 ∧ b0 ≤ 1) (h1 : 0 ≤ b1 ∧ b1 ≤ 1) (h2 : 0 ≤ b2 ∧ b2 ≤ 1) (h3 : 0 ≤ b3 ∧ b3 ≤ 1) (h4 : 0 ≤ b4 ∧ b4 ≤ 1) (h5 : 0 ≤ b5 ∧ b5 ≤ 1) (h6 : 0 ≤ b6 ∧ b6 ≤ 1) (h7 : 0 ≤ b7 ∧ b7 ≤ 1) (h8 : 0 ≤ b8 ∧ b8 ≤ 1) (h9 : 0 ≤ b9 ∧ b9 ≤ 1) (h10 : 0 ≤ b10 ∧ b10 ≤ 1) (h11 : 0 ≤ b11 ∧ b11 ≤ 1) : 1 ≤ sumC (signC (signsB [b0, b1, b2, b3, b4, b5, b6, b7, b8, b9, b10, b11])) (signC (signsB [b0, b1, b2, b3, b4, b5, b6, b7, 1 - b8, b9, b10, b11])) ∧ sumC (signC (signsB [b0, b1, b2, b3, b4, b5, b6, b7, b8, b9, b10, b11])) (signC (signsB [b0, b1, b2, b3, b4, b5, b6, b7, 1 - b8, b9, b10, b11])) ≤ 2 := by
  have c := cost_r h8
  simp only [signC, signsB, signsOf, List.map_cons, List.map_nil, sumC, scN_self]
  lia
theorem fc_9 {b0 b1 b2 b3 b4 b5 b6 b7 b8 b9 b10 b11 : Int} (h0 : 0 ≤ b0 ∧ b0 ≤ 1) (h1 : 0 ≤ b1 ∧ b1 ≤ 1) (h2 : 0 ≤ b2 ∧ b2 ≤ 1) (h3 : 0 ≤ b3 ∧ b3 ≤ 1) (h4 : 0 ≤ b4 ∧ b4 ≤ 1) (h5 : 0 ≤ b5 ∧ b5 ≤ 1) (h6 : 0 ≤ b6 ∧ b6 ≤ 1) (h7 : 0 ≤ b7 ∧ b7 ≤ 1) (h8 : 0 ≤ b8 ∧ b8 ≤ 1) (h9 : 0 ≤ b9 ∧ b9 ≤ 1) (h10 : 0 ≤ b10 ∧ b10 ≤ 1) (h11 : 0 ≤ b11 ∧ b11 ≤ 1) : 1 ≤ sumC (signC (signsB [b0, b1, b2, b3, b4, b5, b6, b7, b8, b9, b10, b11])) (signC (signsB [b0, b1, b2, b3, b4, b5, b6, b7, b8, 1 - b9, b10, b11])) ∧ sumC (signC (signsB [b0, b1, b2, b3, b4, b5, b6, b7, b8, b9, b10, b11])) (signC (signsB [b0, b1, b2, b3, b4, b5, b6, b7, b8, 1 - b9, b10, b11])) ≤ 2 := by
  have c := cost_ta h9 h0
  simp only [signC, signsB, signsOf, List.map_cons, List.map_nil, sumC, scN_self]
  lia
theorem fc_10 {b0 b1 b2 b3 b4 b5 b6 b7 b8 b9 b10 b11 : Int} (h0 : 0 ≤ b0 ∧ b0 ≤ 1) (h1 : 0 ≤ b1 ∧ b1 ≤ 1) (h2 : 0 ≤ b2 ∧ b2 ≤ 1) (h3 : 0 ≤ b3 ∧ b3 ≤ 1) (h4 : 0 ≤ b4 ∧ b4 ≤ 1) (h5 : 0 ≤ b5 ∧ b5 ≤ 1) (h6 : 0 ≤ b6 ∧ b6 ≤ 1) (h7 : 0 ≤ b7 ∧ b7 ≤ 1) (h8 : 0 ≤ b8 ∧ b8 ≤ 1) (h9 : 0 ≤ b9 ∧ b9 ≤ 1) (h10 : 0 ≤ b10 ∧ b10 ≤ 1) (h11 : 0 ≤ b11 ∧ b11 ≤ 1) : 1 ≤ sumC (signC (signsB [b0, b1, b2, b3, b4, b5, b6, b7, b8, b9, b10, b11])) (signC (signsB [b0, b1, b2, b3, b4, b5, b6, b7, b8, b9, 1 - b10, b11])) ∧ sumC (signC (signsB [b0, b1, b2, b3, b4, b5, b6, b7, b8, b9, b10, b11])) (signC (signsB [b0, b1, b2, b3, b4, b5, b6, b7, b8, b9, 1 - b10, b11])) ≤ 2 := by
  have c := cost_sa h10 h3
  simp only [signC, signsB, signsOf, List.map_cons, List.map_nil, sumC, scN_self]
  lia
theorem fc_11 {b0 b1 b2 b3 b4 b5 b6 b7 b8 b9 b10 b11 : Int} (h0 : 0 ≤ b0 ∧ b0 ≤ 1) (h1 : 0 ≤ b1 ∧ b1 ≤ 1) (h2 : 0 ≤ b2 ∧ b2 ≤ 1) (h3 : 0 ≤ b3 ∧ b3 ≤ 1) (h4 : 0 ≤ b4 ∧ b4 ≤ 1) (h5 : 0 ≤ b5 ∧ b5 ≤ 1) (h6 : 0 ≤ b6 ∧ b6 ≤ 1) (h7 : 0 ≤ b7 ∧ b7 ≤ 1) (h8 : 0 ≤ b8 ∧ b8 ≤ 1) (h9 : 0 ≤ b9 ∧ b9 ≤ 1) (h10 : 0 ≤ b10 ∧ b10 ≤ 1) (h11 : 0 ≤ b11 ∧ b11 ≤ 1) : 1 ≤ sumC (signC (signsB [b0, b1, b2, b3, b4, b5, b6, b7, b8, b9, b10, b11])) (signC (signsB [b0, b1, b2, b3, b4, b5, b6, b7, b8, b9, b10, 1 - b11])) ∧ sumC (signC (signsB [b0, b1, b2, b3, b4, b5, b6, b7, b8, b9, b10, b11])) (signC (signsB [b0, b1, b2, b3, b4, b5, b6, b7, b8, b9, b10, 1 - b11])) ≤ 2 := by
  have c := cost_sa h11 h6
  simp only [signC, signsB, signsOf, List.map_cons, List.map_nil, sumC, scN_self]
  lia
theorem flip_cost {bits : List Int} (h : BitsOk bits) (n : Int) : 1 ≤ sumC (signC (signsB bits)) (signC (signsB (flipB bits n))) ∧ sumC (signC (signsB bits)) (signC (signsB (flipB bits n))) ≤ 2 := by
  obtain ⟨hl, hb⟩ := h
  match bits, hl with
  | [b0, b1, b2, b3, b4, b5, b6, b7, b8, b9, b10, b11], _ =>
    have h0 := hb b0 (by simp)
    have h1 := hb b1 (by simp)
    have h2 := hb b2 (by simp)
    have h3 := hb b3 (by simp)
    have h4 := hb b4 (by simp)
    have h5 := hb b5 (by simp)
    have h6 := hb b6 (by simp)
    have h7 := hb b7 (by simp)
    have h8 := hb b8 (by simp)
    have h9 := hb b9 (by simp)
    have h10 := hb b10 (by simp)
    have h11 := hb b11 (by simp)
    clear hb
    have hm : 0 ≤ n % 12 ∧ n % 12 < 12 := by lia
    rw [flip_at]
    generalize n % 12 = k at hm
    obtain ⟨k, rfl⟩ := Int.eq_ofNat_of_zero_le hm.1
    have hk : k < 12 := by lia
    clear hm
    match k, hk with
    | 0, _ => exact fc_0 h0 h1 h2 h3 h4 h5 h6 h7 h8 h9 h10 h11
    | 1, _ => exact fc_1 h0 h1 h2 h3 h4 h5 h6 h7 h8 h9 h10 h11
    | 2, _ => exact fc_2 h0 h1 h2 h3 h4 h5 h6 h7 h8 h9 h10 h11
    | 3, _ => exact fc_3 h0 h1 h2 h3 h4 h5 h6 h7 h8 h9 h10 h11
    | 4, _ => exact fc_4 h0 h1 h2 h3 h4 h5 h6 h7 h8 h9 h10 h11
    | 5, _ => exact fc_5 h0 h1 h2 h3 h4 h5 h6 h7 h8 h9 h10 h11
    | 6, _ => exact fc_6 h0 h1 h2 h3 h4 h5 h6 h7 h8 h9 h10 h11
    | 7, _ => exact fc_7 h0 h1 h2 h3 h4 h5 h6 h7 h8 h9 h10 h11
    | 8, _ => exact fc_8 h0 h1 h2 h3 h4 h5 h6 h7 h8 h9 h10 h11
    | 9, _ => exact fc_9 h0 h1 h2 h3 h4 h5 h6 h7 h8 h9 h10 h11
    | 10, _ => exact fc_10 h0 h1 h2 h3 h4 h5 h6 h7 h8 h9 h10 h11
    | 11, _ => exact fc_11 h0 h1 h2 h3 h4 h5 h6 h7 h8 h9 h10 h11
theorem scN_comm (c d : Nat) : scN c d = scN d c := by
  unfold scN scost
  by_cases h : sOf [c] = sOf [d]
  · rw [if_pos h, if_pos h.symm]
  · rw [if_neg h, if_neg (Ne.symm h)]
    by_cases g : Txt.lower (sOf [c]) = Txt.lower (sOf [d])
    · rw [if_pos g, if_pos g.symm]
    · rw [if_neg g, if_neg (Ne.symm g)]
theorem sumC_comm : ∀ x y : List Nat, sumC x y = sumC y x
  | [], [] => rfl
  | [], _ :: _ => rfl
  | _ :: _, [] => rfl
  | a :: x, b :: y => by rw [sumC, sumC, sumC_comm x y, scN_comm]
theorem scN_tri (a b c : Nat) : scN c a ≤ scN b a + scN c b := by
  by_cases h1 : b = a
  · subst h1; rw [scN_self]; lia
  · by_cases h2 : c = b
    · subst h2; rw [scN_self]; lia
    · have := scN_pos h1
      have := scN_pos h2
      have := (scN_nn c a).2
      lia
theorem sumC_tri : ∀ x y z : List Nat, x.length = y.length → y.length = z.length → sumC x z ≤ sumC x y + sumC y z
  | [], [], [], _, _ => by simp [sumC]
  | a :: x, b :: y, c :: z, h1, h2 => by
    have ih := sumC_tri x y z (by simpa using h1) (by simpa using h2)
    have := scN_tri a b c
    simp only [sumC]; lia
  | [], _ :: _, _, h, _ => by simp at h
  | _ :: _, [], _, h, _ => by simp at h
  | _, [], _ :: _, _, h => by simp at h
  | _, _ :: _, [], _, h => by simp at h
noncomputable abbrev sg (ns : List Int) (i : Nat) : List Nat := signC (sgAt ns i)
theorem step_cost (ns : List Int) (i : Nat) : 1 ≤ sumC (sg ns i) (sg ns (i + 1)) ∧ sumC (sg ns i) (sg ns (i + 1)) ≤ 2 := flip_cost (bits_ok ns i) (ns.getD i 0)
theorem two_cost (ns : List Int) (i : Nat) : sumC (sg ns (i + 2)) (sg ns i) ≤ 4 := by
  have a := (step_cost ns i).2
  have b := (step_cost ns (i + 1)).2
  have t := sumC_tri (sg ns i) (sg ns (i + 1)) (sg ns (i + 2)) (by rw [sc_len, sc_len]) (by rw [sc_len, sc_len])
  have c := sumC_comm (sg ns (i + 2)) (sg ns i)
  have b' : sumC (sg ns (i + 1)) (sg ns (i + 2)) ≤ 2 := b
  lia
theorem lv_eq (ns : List Int) (i j : Nat) (h : sumC (sg ns i) (sg ns j) ≤ 4) : lvA ns i j 100 = apS (sgAt ns i) (sgAt ns j) 9 := by
  have e := row_sum ns i j
  rw [aps_sg, ← e]
  exact lev_sum (by rw [row_cl_len, row_cl_len]) (by rw [e]; exact h)
theorem lv_one (ns : List Int) (i : Nat) : lvA ns i (i + 1) 0 = 1 := by
  refine lev_zero (by rw [row_cl_len, row_cl_len]) fun q => ?_
  have e : sumC (sg ns i) (sg ns (i + 1)) = 0 := (row_sum ns i (i + 1)).symm.trans (by rw [q, sumC_self])
  have := (step_cost ns i).1
  lia
theorem near_eq (ns : List Int) (k : Nat) : nearT ns k = nearAt ns k := by
  unfold nearT nearAt
  refine List.map_congr_left fun j _ => ?_
  have := (step_cost ns j).2
  rw [lv_eq ns j (j + 1) (by lia), lv_one]
theorem sec_eq (ns : List Int) (k : Nat) : secT ns k = secAt ns k := by
  unfold secT secAt
  refine List.map_congr_left fun j _ => ?_
  rw [lv_eq ns (j + 2) j (two_cost ns j)]
theorem name_eq : sOf (cl nameS) = Str.ofString "it's a" := sOf_cl _
theorem fm_str (ns : List Int) (i : Nat) : fmS (modeAt ns i) = Str.ofString "-" ++ Txt.join (Str.ofString "") (sgAt ns i) := by
  rw [fmS, row_form, join_sg]
  have e : Str.ofString "-" = sOf [45] := by decide +kernel
  rw [e]
  show sOf (45 :: _) = ⟨(sOf [45]).cps ++ (sOf _).cps⟩
  simp [sOf]
theorem told_due (ns : List Int) : toldD ns = dueD ns := by
  unfold toldD dueD
  rw [near_eq, sec_eq, fm_str, name_eq]
theorem due_ok (ns : List Int) : ∀ d ∈ dueD ns, kqdOk 8 d = true := by
  intro d hd
  simp only [dueD, List.mem_cons, List.not_mem_nil, or_false] at hd
  rcases hd with rfl | rfl | rfl
  · simp only [kqdOk, List.all_eq_true, nearAt, List.mem_map]
    rintro _ ⟨j, _, rfl⟩
    simp [kqdOk]
  · simp only [kqdOk, List.all_eq_true, secAt, List.mem_map]
    rintro _ ⟨j, _, rfl⟩
    simp [kqdOk]
  · have e := fm_str ns ns.length
    rw [← e]
    have h1 : PyData.strOk (fmS (modeAt ns ns.length)) = true := by
      unfold PyData.strOk fmS
      show (fmL _).toArray.all _ = true
      rw [List.all_toArray, List.all_eq_true, row_form]
      intro c hc
      have hc2 : c ∈ alph := by
        rcases List.mem_cons.mp hc with rfl | hc
        · decide
        · exact sign_in ns _ c hc
      have key : ∀ c ∈ alph, decide (c < 0x110000) = true := by decide
      exact key c hc2
    have h2 : PyData.strOk (Str.ofString "it's a") = true := by decide +kernel
    simp [kqdOk, h1, h2]
end
section
set_option maxRecDepth 100000
set_option maxHeartbeats 8000000
theorem k_760 (P : Params) : (Kp P).lookup 760 = some (tabO none) := by kernel_rfl
theorem k_no760 (P : Params) : (Mine.K P).lookup 760 = none := by kernel_rfl
theorem k_of_p {P : Params} {h : Heap} (X : (Kp P).In h) : (Mine.K P).In h := by
  intro a o ho
  refine X a o ?_
  have hne : a ≠ 760 := fun q => by
    subst q
    rw [k_no760] at ho
    cases ho
  show List.lookup a ((760, _) :: Mine.K P) = some o
  rw [List.lookup_cons]
  have : (a == 760) = false := by simpa using hne
  rw [this]
  exact ho
theorem whole : PySem.Challenge.rw_ny0408_02.Holds := by
  refine hd (by rfl) (by rfl) (by rfl) ?_
  intro w s₀ s₁ mg mb G Y fa o pm cd doc dV kV ho hd' hcd hD hmg hg args vals as hpre hlay hrd hwl hlo
  have KX := kIn_of Y
  refine Ground.open G ?_
  intro T B D TE TW
  wrow_args hpre hlay hrd hwl hlo
  rename_i ns hs hlay0 hL1 hr1 hl2 as1 as2 l vs as3 hL ra w1 r0 hI hr hc1 hc2
  have KX' := k_of_p KX
  have e760 : s₁.heap.get? 760 = some (tabO none) := KX 760 _ (k_760 w.params)
  have q := mg_of KX' T.g (law_at w.params)
  have hfa : fa = 851 := by
    have := hmg.symm.trans q
    injection this with this
    injection this
  subst hfa
  refine law_c w (ExcName.means s₀.heap) mg mb s₁ e760 hg l vs ns hL hI (by lia) (fm_ok_all _) (told_due _) (due_ok _) _ _ ?_ rfl KX' T
  intro h' gs' tk' hO hG
  exact ⟨.inl ⟨_, _, [], rfl, fun _ => rfl, .bool true, by first | (with_unfolding_all rfl) | kernel_rfl, fun _ => ⟨.nil, fun _ ha => nomatch ha⟩⟩, hO, rfl, hG⟩
end
end Mine
theorem PySem.Challenge.cw_ny0408_02_holds : PySem.Challenge.rw_ny0408_02.Holds := by
  exact Mine.whole
