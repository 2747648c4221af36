import PyProof.Rows.All
import Wide.All
import OpenK.AllK
import Wide.FinOn
import PySem.Challenge.RW_ny0408_01
set_option Elab.async false
set_option linter.all false
open PySem PySem.W PyProof.Rows
namespace Mine
section
theorem sub_cons {α : Type} {a : α} {r l : List α} (h : a ∈ l) (hr : ∀ p ∈ r, p ∈ l) : ∀ p ∈ a :: r, p ∈ l := fun p hp => (List.mem_cons.mp hp).elim (fun e => e ▸ h) (hr p)
theorem sub_drop {α : Type} {a : α} {r l : List α} (hr : ∀ p ∈ r, p ∈ l) : ∀ p ∈ r, p ∈ a :: l := fun p hp => .tail _ (hr p hp)
theorem ne_cons {d : Addr} {q : Addr × Obj} {r : List (Addr × Obj)} (h : q.1 ≠ d) (hr : ∀ p ∈ r, p.1 ≠ d) : ∀ p ∈ q :: r, p.1 ≠ d := fun p hp => (List.mem_cons.mp hp).elim (fun e => e ▸ h) (hr p)
theorem al_cons {x d : Addr} {r : List Addr} (h : x ≠ d) (hr : ∀ z ∈ r, x ≠ z) : ∀ z ∈ d :: r, x ≠ z := fun z hz => (List.mem_cons.mp hz).elim (fun e => e ▸ h) (hr z)
theorem of_cons {α : Type} {P : α → Prop} {a : α} {r : List α} (h : P a) (hr : ∀ p ∈ r, P p) : ∀ p ∈ a :: r, P p := fun p hp => (List.mem_cons.mp hp).elim (fun e => e ▸ h) (hr p)
theorem of_nil {α : Type} {P : α → Prop} : ∀ p ∈ ([] : List α), P p := fun _ h => absurd h List.not_mem_nil
theorem al_nil {x : Addr} : ∀ z ∈ ([] : List Addr), x ≠ z := fun _ hz => absurd hz List.not_mem_nil
theorem nin1 {b I : Addr} (h : b ≠ I) : b ∉ [I] := fun hm => h (List.mem_singleton.mp hm)
end
section
set_option maxRecDepth 100000
set_option maxHeartbeats 8000000
set_option linter.unusedVariables false
noncomputable def nth : List Stmt → Nat → Stmt
  | [], _ => .Pass default
  | a :: _, 0 => a
  | _ :: r, n + 1 => nth r n
noncomputable def inClass : Stmt → List Stmt
  | .ClassDef (body := b) .. => b
  | _ => []
noncomputable abbrev body : List Stmt := PySem.Challenge.pw_ny0408_01.main.body
noncomputable abbrev fnO {st : Stmt} (n : Str) (ps : Arguments) (b : List Stmt) (dl : List Expr) {rt} {tp} (sc : Scope) {dc} (ql : Str) (po : Pos) (qn : Str) (dV pm : Value) (cd : Addr) (_ : st = Stmt.FunctionDef n ps b dl rt tp sc dc ql po) : Obj :=
  { cls := .type "function", data := .func { name := n, qualname := qn, params := ps, body := .stmts b, scope := sc, globals := 3, closure := [], defaults := dV, kwdefaults := .none, pyModule := pm, code := .ref cd } }
noncomputable def laidKey (s : String) : Str := ⟨PySem.Builtin.chainKey.cps.extract 0 7 ++ (Str.ofString s).cps⟩
noncomputable def watchKey : Str := ⟨(Str.ofString "watched.").cps ++ PySem.Builtin.chainKey.cps.extract 0 6⟩
noncomputable abbrev k2 (PPP : Params) : Obj := { cls := Value.none, data := Data.dict #[{ hash := PyData.keyHash PPP (laidKey "loaded._sre"), key := Value.str (laidKey "loaded._sre") 183, val := Value.bool true }, { hash := PyData.keyHash PPP (Str.ofString "class._frozen_importlib.BuiltinImporter"), key := Value.str (Str.ofString "class._frozen_importlib.BuiltinImporter") 185, val := Value.ref 14 }, { hash := PyData.keyHash PPP (watchKey), key := Value.str (watchKey) 206, val := Value.ref 18 }, { hash := PyData.keyHash PPP (Str.ofString "class._frozen_importlib.ModuleSpec"), key := Value.str (Str.ofString "class._frozen_importlib.ModuleSpec") 216, val := Value.ref 22 }, { hash := PyData.keyHash PPP (Str.ofString "sys.modules.booked-epoch"), key := Value.str (Str.ofString "sys.modules.booked-epoch") 245, val := Value.int 4 0 }, { hash := PyData.keyHash PPP (laidKey "later-laid._sre"), key := Value.str (laidKey "later-laid._sre") 270, val := Value.bool true }, { hash := PyData.keyHash PPP (Str.ofString "watched.library"), key := Value.str (Str.ofString "watched.library") 272, val := Value.ref 27 }, { hash := PyData.keyHash PPP (Str.ofString "watched.library-objects"), key := Value.str (Str.ofString "watched.library-objects") 0, val := Value.str (Str.ofString "\x0c\x1e") 0 }, { hash := PyData.keyHash PPP (Str.ofString "watched.library-deep._sre"), key := Value.str (Str.ofString "watched.library-deep._sre") 273, val := Value.str (Str.ofString "\x04\x00\x00\x0b\x04\x00\x00\x0b\x04\x00\x00\x03\x04\x00\x00\x0b\x08\x04dict\x02") 0 }, { hash := PyData.keyHash PPP (laidKey "loaded._collections"), key := Value.str (laidKey "loaded._collections") 280, val := Value.bool true }, { hash := PyData.keyHash PPP (Str.ofString "sys.modules.landed._collections"), key := Value.str (Str.ofString "sys.modules.landed._collections") 294, val := Value.bool true }, { hash := PyData.keyHash PPP (laidKey "later-laid._collections"), key := Value.str (laidKey "later-laid._collections") 309, val := Value.bool true }, { hash := PyData.keyHash PPP (Str.ofString "watched.library-deep._collections"), key := Value.str (Str.ofString "watched.library-deep._collections") 311, val := Value.str (Str.ofString "\x04\x00\x00\x1d\x04\x00\x00\x1d\x04\x00\x00\x03\x04\x00\x00\x1d\x08\x04dict\x02") 0 }, { hash := PyData.keyHash PPP (Str.ofString "type.__subclasses__.OSError.0"), key := Value.str (Str.ofString "type.__subclasses__.OSError.0") 443, val := Value.int 87 0 }, { hash := PyData.keyHash PPP (Str.ofString "type.__subclasses__.OSError.n"), key := Value.str (Str.ofString "type.__subclasses__.OSError.n") 444, val := Value.int 1 0 }] 15 }
noncomputable abbrev k3 (PPP : Params) : Obj := { cls := Value.type "dict", data := Data.dict #[{ hash := PyData.keyHash PPP (Str.ofString "__name__"), key := Value.str (Str.ofString "__name__") 165, val := Value.str (Str.ofString "law_ny0408_01") 1376 }, { hash := PyData.keyHash PPP (Str.ofString "__doc__"), key := Value.str (Str.ofString "__doc__") 166, val := Value.none }, { hash := PyData.keyHash PPP (Str.ofString "__package__"), key := Value.str (Str.ofString "__package__") 167, val := Value.none }, { hash := PyData.keyHash PPP (Str.ofString "__loader__"), key := Value.str (Str.ofString "__loader__") 168, val := Value.builtin "__main__.__loader__#opaque" }, { hash := PyData.keyHash PPP (Str.ofString "__spec__"), key := Value.str (Str.ofString "__spec__") 169, val := Value.none }, { hash := PyData.keyHash PPP (Str.ofString "__annotations__"), key := Value.str (Str.ofString "__annotations__") 170, val := Value.ref 6 }, { hash := PyData.keyHash PPP (Str.ofString "__builtins__"), key := Value.str (Str.ofString "__builtins__") 171, val := Value.ref 4 }, { hash := PyData.keyHash PPP (Str.ofString "__file__"), key := Value.str (Str.ofString "__file__") 173, val := Value.str (Str.ofString "/claim/cut.py") 172 }, { hash := PyData.keyHash PPP (Str.ofString "__cached__"), key := Value.str (Str.ofString "__cached__") 174, val := Value.none }, { hash := PyData.keyHash PPP (Str.ofString "_sre"), key := Value.str (Str.ofString "_sre") 275, val := Value.ref 12 }, { hash := PyData.keyHash PPP (Str.ofString "deque"), key := Value.str (Str.ofString "deque") 317, val := Value.type "collections.deque" }, { hash := PyData.keyHash PPP (Str.ofString "_wall"), key := Value.str (Str.ofString "_wall") 330, val := Value.ref 44 }, { hash := PyData.keyHash PPP (Str.ofString "_MAX_STRING_SIZE"), key := Value.str (Str.ofString "_MAX_STRING_SIZE") 334, val := Value.int 40 333 }, { hash := PyData.keyHash PPP (Str.ofString "_MOVE_COST"), key := Value.str (Str.ofString "_MOVE_COST") 336, val := Value.int 2 335 }, { hash := PyData.keyHash PPP (Str.ofString "_CASE_COST"), key := Value.str (Str.ofString "_CASE_COST") 338, val := Value.int 1 337 }, { hash := PyData.keyHash PPP (Str.ofString "_substitution_cost"), key := Value.str (Str.ofString "_substitution_cost") 346, val := Value.ref 51 }, { hash := PyData.keyHash PPP (Str.ofString "_levenshtein_distance"), key := Value.str (Str.ofString "_levenshtein_distance") 366, val := Value.ref 58 }, { hash := PyData.keyHash PPP (Str.ofString "_twin_re_1"), key := Value.str (Str.ofString "_twin_re_1") 406, val := Value.ref 63 }, { hash := PyData.keyHash PPP (Str.ofString "_whence"), key := Value.str (Str.ofString "_whence") 416, val := Value.ref 70 }, { hash := PyData.keyHash PPP (Str.ofString "_index"), key := Value.str (Str.ofString "_index") 424, val := Value.ref 77 }, { hash := PyData.keyHash PPP (Str.ofString "UnsupportedOperation"), key := Value.str (Str.ofString "UnsupportedOperation") 446, val := Value.ref 87 }, { hash := PyData.keyHash PPP (Str.ofString "IOBase"), key := Value.str (Str.ofString "IOBase") 478, val := Value.ref 107 }, { hash := PyData.keyHash PPP (Str.ofString "BufferedIOBase"), key := Value.str (Str.ofString "BufferedIOBase") 496, val := Value.ref 122 }, { hash := PyData.keyHash PPP (Str.ofString "TextIOBase"), key := Value.str (Str.ofString "TextIOBase") 514, val := Value.ref 134 }, { hash := PyData.keyHash PPP (Str.ofString "BytesIO"), key := Value.str (Str.ofString "BytesIO") 776, val := Value.ref 364 }, { hash := PyData.keyHash PPP (Str.ofString "StringIO"), key := Value.str (Str.ofString "StringIO") 1063, val := Value.ref 611 }, { hash := PyData.keyHash PPP (Str.ofString "_kind"), key := Value.str (Str.ofString "_kind") 1074, val := Value.ref 620 }, { hash := PyData.keyHash PPP (Str.ofString "_fspath"), key := Value.str (Str.ofString "_fspath") 1083, val := Value.ref 627 }, { hash := PyData.keyHash PPP (Str.ofString "_check_arg_types"), key := Value.str (Str.ofString "_check_arg_types") 1093, val := Value.ref 634 }, { hash := PyData.keyHash PPP (Str.ofString "isabs"), key := Value.str (Str.ofString "isabs") 1100, val := Value.ref 641 }, { hash := PyData.keyHash PPP (Str.ofString "join"), key := Value.str (Str.ofString "join") 1111, val := Value.ref 765 }, { hash := PyData.keyHash PPP (Str.ofString "join_path"), key := Value.str (Str.ofString "join_path") 1112, val := Value.ref 648 }, { hash := PyData.keyHash PPP (Str.ofString "dirname"), key := Value.str (Str.ofString "dirname") 1122, val := Value.ref 655 }, { hash := PyData.keyHash PPP (Str.ofString "shlex"), key := Value.str (Str.ofString "shlex") 1263, val := Value.ref 746 }, { hash := PyData.keyHash PPP (Str.ofString "split"), key := Value.str (Str.ofString "split") 1273, val := Value.ref 758 }, { hash := PyData.keyHash PPP (Str.ofString "join_shlex"), key := Value.str (Str.ofString "join_shlex") 1281, val := Value.ref 765 }, { hash := PyData.keyHash PPP (Str.ofString "_find_unsafe"), key := Value.str (Str.ofString "_find_unsafe") 1283, val := Value.ref 766 }, { hash := PyData.keyHash PPP (Str.ofString "quote"), key := Value.str (Str.ofString "quote") 1290, val := Value.ref 773 }, { hash := PyData.keyHash PPP (Str.ofString "S_IFMT"), key := Value.str (Str.ofString "S_IFMT") 1299, val := Value.ref 780 }, { hash := PyData.keyHash PPP (Str.ofString "S_IFDIR"), key := Value.str (Str.ofString "S_IFDIR") 1301, val := Value.int 16384 1300 }, { hash := PyData.keyHash PPP (Str.ofString "S_IFCHR"), key := Value.str (Str.ofString "S_IFCHR") 1303, val := Value.int 8192 1302 }, { hash := PyData.keyHash PPP (Str.ofString "S_IFBLK"), key := Value.str (Str.ofString "S_IFBLK") 1305, val := Value.int 24576 1304 }, { hash := PyData.keyHash PPP (Str.ofString "S_IFREG"), key := Value.str (Str.ofString "S_IFREG") 1307, val := Value.int 32768 1306 }, { hash := PyData.keyHash PPP (Str.ofString "S_IFIFO"), key := Value.str (Str.ofString "S_IFIFO") 1309, val := Value.int 4096 1308 }, { hash := PyData.keyHash PPP (Str.ofString "S_IFLNK"), key := Value.str (Str.ofString "S_IFLNK") 1311, val := Value.int 40960 1310 }, { hash := PyData.keyHash PPP (Str.ofString "S_IFSOCK"), key := Value.str (Str.ofString "S_IFSOCK") 1313, val := Value.int 49152 1312 }, { hash := PyData.keyHash PPP (Str.ofString "S_ISUID"), key := Value.str (Str.ofString "S_ISUID") 1315, val := Value.int 2048 1314 }, { hash := PyData.keyHash PPP (Str.ofString "S_ISGID"), key := Value.str (Str.ofString "S_ISGID") 1317, val := Value.int 1024 1316 }, { hash := PyData.keyHash PPP (Str.ofString "S_ISVTX"), key := Value.str (Str.ofString "S_ISVTX") 1319, val := Value.int 512 1318 }, { hash := PyData.keyHash PPP (Str.ofString "S_IRUSR"), key := Value.str (Str.ofString "S_IRUSR") 1321, val := Value.int 256 1320 }, { hash := PyData.keyHash PPP (Str.ofString "S_IWUSR"), key := Value.str (Str.ofString "S_IWUSR") 1323, val := Value.int 128 1322 }, { hash := PyData.keyHash PPP (Str.ofString "S_IXUSR"), key := Value.str (Str.ofString "S_IXUSR") 1325, val := Value.int 64 1324 }, { hash := PyData.keyHash PPP (Str.ofString "S_IRGRP"), key := Value.str (Str.ofString "S_IRGRP") 1327, val := Value.int 32 1326 }, { hash := PyData.keyHash PPP (Str.ofString "S_IWGRP"), key := Value.str (Str.ofString "S_IWGRP") 1329, val := Value.int 16 1328 }, { hash := PyData.keyHash PPP (Str.ofString "S_IXGRP"), key := Value.str (Str.ofString "S_IXGRP") 1331, val := Value.int 8 1330 }, { hash := PyData.keyHash PPP (Str.ofString "S_IROTH"), key := Value.str (Str.ofString "S_IROTH") 1333, val := Value.int 4 1332 }, { hash := PyData.keyHash PPP (Str.ofString "S_IWOTH"), key := Value.str (Str.ofString "S_IWOTH") 1335, val := Value.int 2 1334 }, { hash := PyData.keyHash PPP (Str.ofString "S_IXOTH"), key := Value.str (Str.ofString "S_IXOTH") 1337, val := Value.int 1 1336 }, { hash := PyData.keyHash PPP (Str.ofString "_filemode_table"), key := Value.str (Str.ofString "_filemode_table") 1363, val := Value.ref 813 }, { hash := PyData.keyHash PPP (Str.ofString "filemode"), key := Value.str (Str.ofString "filemode") 1375, val := Value.ref 820 }, { hash := PyData.keyHash PPP (Str.ofString "_law_misspelt"), key := Value.str (Str.ofString "_law_misspelt") 1388, val := Value.ref 827 }, { hash := PyData.keyHash PPP (Str.ofString "_law_meant"), key := Value.str (Str.ofString "_law_meant") 1395, val := Value.ref 834 }, { hash := PyData.keyHash PPP (Str.ofString "_law_row"), key := Value.str (Str.ofString "_law_row") 1401, val := Value.ref 839 }, { hash := PyData.keyHash PPP (Str.ofString "_law_told"), key := Value.str (Str.ofString "_law_told") 1407, val := Value.ref 844 }, { hash := PyData.keyHash PPP (Str.ofString "_law_due"), key := Value.str (Str.ofString "_law_due") 1413, val := Value.ref 849 }, { hash := PyData.keyHash PPP (Str.ofString "law"), key := Value.str (Str.ofString "law") 1419, val := Value.ref 854 }] 66 }
noncomputable abbrev k50 (PPP : Params) : Obj := { cls := Value.type "code", data := Data.fields #[Value.str (Str.ofString "_substitution_cost") 339, Value.str (Str.ofString "_substitution_cost") 340, Value.str (Str.ofString "/claim/cut.py") 341, Value.int 10 0, Value.int 2 0, Value.int 0 0, Value.int 0 0, Value.int 3 0, Value.ref 45, Value.bool true, Value.int 318 0, Value.ref 46, Value.none, Value.ref 47, Value.ref 48, Value.ref 49, Value.int 344 0, Value.int 10 0, Value.str (Str.ofString "/claim/cut.py") 345] }
noncomputable abbrev k51 : Obj := fnO (st := nth body 7) _ _ _ _ _ _ _ (Str.ofString "_substitution_cost") (Value.none) (Value.str (Str.ofString "cpy313.traceback") 331) 50 rfl
noncomputable abbrev k57 (PPP : Params) : Obj := { cls := Value.type "code", data := Data.fields #[Value.str (Str.ofString "_levenshtein_distance") 347, Value.str (Str.ofString "_levenshtein_distance") 348, Value.str (Str.ofString "/claim/cut.py") 349, Value.int 16 0, Value.int 3 0, Value.int 0 0, Value.int 0 0, Value.int 3 0, Value.ref 52, Value.bool true, Value.int 318 0, Value.ref 53, Value.none, Value.ref 54, Value.ref 55, Value.ref 56, Value.int 364 0, Value.int 16 0, Value.str (Str.ofString "/claim/cut.py") 365] }
noncomputable abbrev k58 : Obj := fnO (st := nth body 8) _ _ _ _ _ _ _ (Str.ofString "_levenshtein_distance") (Value.none) (Value.str (Str.ofString "cpy313.traceback") 331) 57 rfl
noncomputable abbrev k62 (PPP : Params) : Obj := { cls := Value.type "tuple", data := Data.seq #[Value.int 14 0, Value.int 17 0, Value.int 4 0, Value.int 1 0, Value.int 1 0, Value.int 21 0, Value.int 9 0, Value.int 0 0, Value.int 604043296 0, Value.int 1 0, Value.int 0 0, Value.int 0 0, Value.int 0 0, Value.int 0 0, Value.int 0 0, Value.int 8 0, Value.int 4 0, Value.int 0 0, Value.int 13 0, Value.int 14 0, Value.int 21 0, Value.int 9 0, Value.int 0 0, Value.int 604043296 0, Value.int 1 0, Value.int 0 0, Value.int 0 0, Value.int 0 0, Value.int 0 0, Value.int 0 0, Value.int 8 0, Value.int 4 0, Value.int 0 0, Value.int 1 0] }
noncomputable abbrev k63 (PPP : Params) : Obj := { cls := Value.type "re.Pattern", data := Data.fields #[Value.str (Str.ofString "[^\\w@%+=:,./-]") 368, Value.int 256 405, Value.int 0 0, Value.none, Value.none, Value.ref 62, Value.int 0 0] }
noncomputable abbrev k69 (PPP : Params) : Obj := { cls := Value.type "code", data := Data.fields #[Value.str (Str.ofString "_whence") 409, Value.str (Str.ofString "_whence") 410, Value.str (Str.ofString "/claim/cut.py") 411, Value.int 56 0, Value.int 2 0, Value.int 0 0, Value.int 0 0, Value.int 3 0, Value.ref 64, Value.bool true, Value.int 318 0, Value.ref 65, Value.none, Value.ref 66, Value.ref 67, Value.ref 68, Value.int 414 0, Value.int 56 0, Value.str (Str.ofString "/claim/cut.py") 415] }
noncomputable abbrev k70 : Obj := fnO (st := nth body 11) _ _ _ _ _ _ _ (Str.ofString "_whence") (Value.none) (Value.str (Str.ofString "io") 407) 69 rfl
noncomputable abbrev k76 (PPP : Params) : Obj := { cls := Value.type "code", data := Data.fields #[Value.str (Str.ofString "_index") 417, Value.str (Str.ofString "_index") 418, Value.str (Str.ofString "/claim/cut.py") 419, Value.int 61 0, Value.int 2 0, Value.int 0 0, Value.int 0 0, Value.int 3 0, Value.ref 71, Value.bool true, Value.int 318 0, Value.ref 72, Value.none, Value.ref 73, Value.ref 74, Value.ref 75, Value.int 422 0, Value.int 61 0, Value.str (Str.ofString "/claim/cut.py") 423] }
noncomputable abbrev k77 : Obj := fnO (st := nth body 12) _ _ _ _ _ _ _ (Str.ofString "_index") (Value.none) (Value.str (Str.ofString "io") 407) 76 rfl
noncomputable abbrev k86 (PPP : Params) : Obj := { cls := Value.type "dict", data := Data.dict #[{ hash := PyData.keyHash PPP (Str.ofString "__module__"), key := Value.str (Str.ofString "__module__") 432, val := Value.str (Str.ofString "io") 437 }, { hash := PyData.keyHash PPP (Str.ofString "__firstlineno__"), key := Value.str (Str.ofString "__firstlineno__") 436, val := Value.int 68 435 }, { hash := PyData.keyHash PPP (Str.ofString "__static_attributes__"), key := Value.str (Str.ofString "__static_attributes__") 439, val := Value.ref 85 }, { hash := PyData.keyHash PPP (Str.ofString "__weakref__"), key := Value.str (Str.ofString "__weakref__") 441, val := Value.ref 88 }, { hash := PyData.keyHash PPP (Str.ofString "__doc__"), key := Value.str (Str.ofString "__doc__") 442, val := Value.none }] 3 }
noncomputable abbrev k87 (PPP : Params) : Obj := { cls := Value.type "type", data := Data.cls { name := Str.ofString "UnsupportedOperation", bases := [Value.type "OSError", Value.type "ValueError"], mro := [Value.ref 87, Value.type "OSError", Value.type "ValueError", Value.type "Exception", Value.type "BaseException", Value.type "object"], ns := 86, qualname := Str.ofString "UnsupportedOperation" }, slots := #[some (Value.ref 78), none, some (Value.str (Str.ofString "UnsupportedOperation") 425), some (Value.str (Str.ofString "UnsupportedOperation") 433), some (Value.builtin "OSError.__new__"), some (Value.bool true)] }
noncomputable abbrev k88 (PPP : Params) : Obj := { cls := Value.type "getset_descriptor", data := Data.fields #[Value.str (Str.ofString "__weakref__") 440, Value.ref 87, Value.builtin "ExceptionGroup.__weakref__", Value.none] }
noncomputable abbrev k103 (PPP : Params) : Obj := { cls := Value.type "code", data := Data.fields #[Value.str (Str.ofString "__new__") 461, Value.str (Str.ofString "IOBase.__new__") 462, Value.str (Str.ofString "/claim/cut.py") 463, Value.int 73 0, Value.int 1 0, Value.int 1 0, Value.int 0 0, Value.int 15 0, Value.ref 98, Value.bool true, Value.int 318 0, Value.ref 99, Value.none, Value.ref 100, Value.ref 101, Value.ref 102, Value.int 467 0, Value.int 73 0, Value.str (Str.ofString "/claim/cut.py") 468] }
noncomputable abbrev k104 : Obj := fnO (st := nth (inClass (nth body 14)) 1) _ _ _ _ _ _ _ (Str.ofString "IOBase.__new__") (Value.none) (Value.str (Str.ofString "io") 407) 103 rfl
noncomputable abbrev k106 (PPP : Params) : Obj := { cls := Value.type "dict", data := Data.dict #[{ hash := PyData.keyHash PPP (Str.ofString "__module__"), key := Value.str (Str.ofString "__module__") 454, val := Value.str (Str.ofString "io") 459 }, { hash := PyData.keyHash PPP (Str.ofString "__firstlineno__"), key := Value.str (Str.ofString "__firstlineno__") 458, val := Value.int 70 457 }, { hash := PyData.keyHash PPP (Str.ofString "__new__"), key := Value.str (Str.ofString "__new__") 469, val := Value.ref 108 }, { hash := PyData.keyHash PPP (Str.ofString "__static_attributes__"), key := Value.str (Str.ofString "__static_attributes__") 470, val := Value.ref 105 }, { hash := PyData.keyHash PPP (Str.ofString "__dict__"), key := Value.str (Str.ofString "__dict__") 473, val := Value.ref 109 }, { hash := PyData.keyHash PPP (Str.ofString "__weakref__"), key := Value.str (Str.ofString "__weakref__") 475, val := Value.ref 110 }, { hash := PyData.keyHash PPP (Str.ofString "__doc__"), key := Value.str (Str.ofString "__doc__") 476, val := Value.none }] 4 }
noncomputable abbrev k107 (PPP : Params) : Obj := { cls := Value.type "type", data := Data.cls { name := Str.ofString "IOBase", bases := [Value.type "object"], mro := [Value.ref 107, Value.type "object"], ns := 106, qualname := Str.ofString "IOBase", subclasses := [Value.ref 122, Value.ref 134] }, slots := #[none, none, some (Value.str (Str.ofString "IOBase") 447), some (Value.str (Str.ofString "IOBase") 455), some Value.none, some (Value.bool true)] }
noncomputable abbrev k108 (PPP : Params) : Obj := { cls := Value.type "staticmethod", data := Data.fields #[Value.ref 104] }
noncomputable abbrev k109 (PPP : Params) : Obj := { cls := Value.type "getset_descriptor", data := Data.fields #[Value.str (Str.ofString "__dict__") 472, Value.ref 107, Value.builtin "function.__dict__", Value.builtin "function.__dict__#set"] }
noncomputable abbrev k110 (PPP : Params) : Obj := { cls := Value.type "getset_descriptor", data := Data.fields #[Value.str (Str.ofString "__weakref__") 474, Value.ref 107, Value.builtin "ExceptionGroup.__weakref__", Value.none] }
noncomputable abbrev k121 (PPP : Params) : Obj := { cls := Value.type "dict", data := Data.dict #[{ hash := PyData.keyHash PPP (Str.ofString "__module__"), key := Value.str (Str.ofString "__module__") 486, val := Value.str (Str.ofString "io") 491 }, { hash := PyData.keyHash PPP (Str.ofString "__firstlineno__"), key := Value.str (Str.ofString "__firstlineno__") 490, val := Value.int 77 489 }, { hash := PyData.keyHash PPP (Str.ofString "__static_attributes__"), key := Value.str (Str.ofString "__static_attributes__") 493, val := Value.ref 120 }, { hash := PyData.keyHash PPP (Str.ofString "__doc__"), key := Value.str (Str.ofString "__doc__") 494, val := Value.none }] 2 }
noncomputable abbrev k122 (PPP : Params) : Obj := { cls := Value.type "type", data := Data.cls { name := Str.ofString "BufferedIOBase", bases := [Value.ref 107], mro := [Value.ref 122, Value.ref 107, Value.type "object"], ns := 121, qualname := Str.ofString "BufferedIOBase", subclasses := [Value.ref 364] }, slots := #[some (Value.ref 113), none, some (Value.str (Str.ofString "BufferedIOBase") 479), some (Value.str (Str.ofString "BufferedIOBase") 487), some Value.none, some (Value.bool true)] }
noncomputable abbrev k133 (PPP : Params) : Obj := { cls := Value.type "dict", data := Data.dict #[{ hash := PyData.keyHash PPP (Str.ofString "__module__"), key := Value.str (Str.ofString "__module__") 504, val := Value.str (Str.ofString "io") 509 }, { hash := PyData.keyHash PPP (Str.ofString "__firstlineno__"), key := Value.str (Str.ofString "__firstlineno__") 508, val := Value.int 79 507 }, { hash := PyData.keyHash PPP (Str.ofString "__static_attributes__"), key := Value.str (Str.ofString "__static_attributes__") 511, val := Value.ref 132 }, { hash := PyData.keyHash PPP (Str.ofString "__doc__"), key := Value.str (Str.ofString "__doc__") 512, val := Value.none }] 2 }
noncomputable abbrev k134 (PPP : Params) : Obj := { cls := Value.type "type", data := Data.cls { name := Str.ofString "TextIOBase", bases := [Value.ref 107], mro := [Value.ref 134, Value.ref 107, Value.type "object"], ns := 133, qualname := Str.ofString "TextIOBase", subclasses := [Value.ref 611] }, slots := #[some (Value.ref 125), none, some (Value.str (Str.ofString "TextIOBase") 497), some (Value.str (Str.ofString "TextIOBase") 505), some Value.none, some (Value.bool true)] }
noncomputable abbrev k173 (PPP : Params) : Obj := { cls := Value.type "property", data := Data.fields #[Value.ref 172, Value.none, Value.none, Value.none, Value.str (Str.ofString "closed") 562, Value.bool false] }
noncomputable abbrev k363 (PPP : Params) : Obj := { cls := Value.type "dict", data := Data.dict #[{ hash := PyData.keyHash PPP (Str.ofString "__module__"), key := Value.str (Str.ofString "__module__") 522, val := Value.str (Str.ofString "_io") 527 }, { hash := PyData.keyHash PPP (Str.ofString "__firstlineno__"), key := Value.str (Str.ofString "__firstlineno__") 526, val := Value.int 81 525 }, { hash := PyData.keyHash PPP (Str.ofString "__init__"), key := Value.str (Str.ofString "__init__") 536, val := Value.ref 151 }, { hash := PyData.keyHash PPP (Str.ofString "_BytesIO__check"), key := Value.str (Str.ofString "_BytesIO__check") 543, val := Value.ref 158 }, { hash := PyData.keyHash PPP (Str.ofString "_BytesIO__line"), key := Value.str (Str.ofString "_BytesIO__line") 554, val := Value.ref 165 }, { hash := PyData.keyHash PPP (Str.ofString "closed"), key := Value.str (Str.ofString "closed") 562, val := Value.ref 173 }, { hash := PyData.keyHash PPP (Str.ofString "close"), key := Value.str (Str.ofString "close") 569, val := Value.ref 180 }, { hash := PyData.keyHash PPP (Str.ofString "__enter__"), key := Value.str (Str.ofString "__enter__") 576, val := Value.ref 187 }, { hash := PyData.keyHash PPP (Str.ofString "__exit__"), key := Value.str (Str.ofString "__exit__") 584, val := Value.ref 194 }, { hash := PyData.keyHash PPP (Str.ofString "readable"), key := Value.str (Str.ofString "readable") 591, val := Value.ref 201 }, { hash := PyData.keyHash PPP (Str.ofString "writable"), key := Value.str (Str.ofString "writable") 598, val := Value.ref 208 }, { hash := PyData.keyHash PPP (Str.ofString "seekable"), key := Value.str (Str.ofString "seekable") 605, val := Value.ref 215 }, { hash := PyData.keyHash PPP (Str.ofString "isatty"), key := Value.str (Str.ofString "isatty") 612, val := Value.ref 222 }, { hash := PyData.keyHash PPP (Str.ofString "flush"), key := Value.str (Str.ofString "flush") 619, val := Value.ref 229 }, { hash := PyData.keyHash PPP (Str.ofString "fileno"), key := Value.str (Str.ofString "fileno") 626, val := Value.ref 236 }, { hash := PyData.keyHash PPP (Str.ofString "detach"), key := Value.str (Str.ofString "detach") 633, val := Value.ref 243 }, { hash := PyData.keyHash PPP (Str.ofString "getvalue"), key := Value.str (Str.ofString "getvalue") 640, val := Value.ref 250 }, { hash := PyData.keyHash PPP (Str.ofString "getbuffer"), key := Value.str (Str.ofString "getbuffer") 647, val := Value.ref 257 }, { hash := PyData.keyHash PPP (Str.ofString "tell"), key := Value.str (Str.ofString "tell") 654, val := Value.ref 264 }, { hash := PyData.keyHash PPP (Str.ofString "seek"), key := Value.str (Str.ofString "seek") 664, val := Value.ref 272 }, { hash := PyData.keyHash PPP (Str.ofString "truncate"), key := Value.str (Str.ofString "truncate") 672, val := Value.ref 280 }, { hash := PyData.keyHash PPP (Str.ofString "read"), key := Value.str (Str.ofString "read") 684, val := Value.ref 288 }, { hash := PyData.keyHash PPP (Str.ofString "read1"), key := Value.str (Str.ofString "read1") 694, val := Value.ref 296 }, { hash := PyData.keyHash PPP (Str.ofString "readinto"), key := Value.str (Str.ofString "readinto") 704, val := Value.ref 303 }, { hash := PyData.keyHash PPP (Str.ofString "readinto1"), key := Value.str (Str.ofString "readinto1") 712, val := Value.ref 310 }, { hash := PyData.keyHash PPP (Str.ofString "readline"), key := Value.str (Str.ofString "readline") 722, val := Value.ref 318 }, { hash := PyData.keyHash PPP (Str.ofString "readlines"), key := Value.str (Str.ofString "readlines") 730, val := Value.ref 326 }, { hash := PyData.keyHash PPP (Str.ofString "__iter__"), key := Value.str (Str.ofString "__iter__") 737, val := Value.ref 333 }, { hash := PyData.keyHash PPP (Str.ofString "__next__"), key := Value.str (Str.ofString "__next__") 745, val := Value.ref 340 }, { hash := PyData.keyHash PPP (Str.ofString "write"), key := Value.str (Str.ofString "write") 755, val := Value.ref 347 }, { hash := PyData.keyHash PPP (Str.ofString "writelines"), key := Value.str (Str.ofString "writelines") 763, val := Value.ref 354 }, { hash := PyData.keyHash PPP (Str.ofString "__repr__"), key := Value.str (Str.ofString "__repr__") 770, val := Value.ref 361 }, { hash := PyData.keyHash PPP (Str.ofString "__static_attributes__"), key := Value.str (Str.ofString "__static_attributes__") 773, val := Value.ref 362 }, { hash := PyData.keyHash PPP (Str.ofString "__doc__"), key := Value.str (Str.ofString "__doc__") 774, val := Value.none }] 2 }
noncomputable abbrev k364 (PPP : Params) : Obj := { cls := Value.type "type", data := Data.cls { name := Str.ofString "BytesIO", bases := [Value.ref 122], mro := [Value.ref 364, Value.ref 122, Value.ref 107, Value.type "object"], ns := 363, qualname := Str.ofString "BytesIO" }, slots := #[some (Value.ref 137), none, some (Value.str (Str.ofString "BytesIO") 515), some (Value.str (Str.ofString "BytesIO") 523), some Value.none, some (Value.bool true)] }
noncomputable abbrev k374 (PPP : Params) : Obj := { cls := Value.type "tuple", data := Data.seq #[Value.str (Str.ofString "") 791, Value.str (Str.ofString "\n") 792] }
noncomputable abbrev k380 (PPP : Params) : Obj := { cls := Value.type "code", data := Data.fields #[Value.str (Str.ofString "__init__") 793, Value.str (Str.ofString "StringIO.__init__") 794, Value.str (Str.ofString "/claim/cut.py") 795, Value.int 254 0, Value.int 3 0, Value.int 0 0, Value.int 0 0, Value.int 3 0, Value.ref 375, Value.bool true, Value.int 318 0, Value.ref 376, Value.none, Value.ref 377, Value.ref 378, Value.ref 379, Value.int 799 0, Value.int 254 0, Value.str (Str.ofString "/claim/cut.py") 800] }
noncomputable abbrev k381 : Obj := fnO (st := nth (inClass (nth body 18)) 1) _ _ _ _ _ _ _ (Str.ofString "StringIO.__init__") (Value.ref 374) (Value.str (Str.ofString "io") 407) 380 rfl
noncomputable abbrev k387 (PPP : Params) : Obj := { cls := Value.type "code", data := Data.fields #[Value.str (Str.ofString "__translated") 802, Value.str (Str.ofString "StringIO.__translated") 803, Value.str (Str.ofString "/claim/cut.py") 804, Value.int 267 0, Value.int 2 0, Value.int 0 0, Value.int 0 0, Value.int 3 0, Value.ref 382, Value.bool true, Value.int 318 0, Value.ref 383, Value.none, Value.ref 384, Value.ref 385, Value.ref 386, Value.int 808 0, Value.int 267 0, Value.str (Str.ofString "/claim/cut.py") 809] }
noncomputable abbrev k388 : Obj := fnO (st := nth (inClass (nth body 18)) 2) _ _ _ _ _ _ _ (Str.ofString "StringIO.__translated") (Value.none) (Value.str (Str.ofString "io") 407) 387 rfl
noncomputable abbrev k394 (PPP : Params) : Obj := { cls := Value.type "code", data := Data.fields #[Value.str (Str.ofString "__check") 811, Value.str (Str.ofString "StringIO.__check") 812, Value.str (Str.ofString "/claim/cut.py") 813, Value.int 275 0, Value.int 1 0, Value.int 0 0, Value.int 0 0, Value.int 3 0, Value.ref 389, Value.bool true, Value.int 318 0, Value.ref 390, Value.none, Value.ref 391, Value.ref 392, Value.ref 393, Value.int 815 0, Value.int 275 0, Value.str (Str.ofString "/claim/cut.py") 816] }
noncomputable abbrev k395 : Obj := fnO (st := nth (inClass (nth body 18)) 3) _ _ _ _ _ _ _ (Str.ofString "StringIO.__check") (Value.none) (Value.str (Str.ofString "io") 407) 394 rfl
noncomputable abbrev k417 (PPP : Params) : Obj := { cls := Value.type "property", data := Data.fields #[Value.ref 416, Value.none, Value.none, Value.none, Value.str (Str.ofString "closed") 847, Value.bool false] }
noncomputable abbrev k425 (PPP : Params) : Obj := { cls := Value.type "property", data := Data.fields #[Value.ref 424, Value.none, Value.none, Value.none, Value.str (Str.ofString "line_buffering") 855, Value.bool false] }
noncomputable abbrev k433 (PPP : Params) : Obj := { cls := Value.type "property", data := Data.fields #[Value.ref 432, Value.none, Value.none, Value.none, Value.str (Str.ofString "newlines") 863, Value.bool false] }
noncomputable abbrev k441 (PPP : Params) : Obj := { cls := Value.type "property", data := Data.fields #[Value.ref 440, Value.none, Value.none, Value.none, Value.str (Str.ofString "encoding") 871, Value.bool false] }
noncomputable abbrev k449 (PPP : Params) : Obj := { cls := Value.type "property", data := Data.fields #[Value.ref 448, Value.none, Value.none, Value.none, Value.str (Str.ofString "errors") 879, Value.bool false] }
noncomputable abbrev k550 (PPP : Params) : Obj := { cls := Value.type "tuple", data := Data.seq #[Value.int (-1) 984] }
noncomputable abbrev k556 (PPP : Params) : Obj := { cls := Value.type "code", data := Data.fields #[Value.str (Str.ofString "read") 985, Value.str (Str.ofString "StringIO.read") 986, Value.str (Str.ofString "/claim/cut.py") 987, Value.int 397 0, Value.int 2 0, Value.int 2 0, Value.int 0 0, Value.int 3 0, Value.ref 551, Value.bool true, Value.int 318 0, Value.ref 552, Value.none, Value.ref 553, Value.ref 554, Value.ref 555, Value.int 992 0, Value.int 397 0, Value.str (Str.ofString "/claim/cut.py") 993] }
noncomputable abbrev k557 : Obj := fnO (st := nth (inClass (nth body 18)) 25) _ _ _ _ _ _ _ (Str.ofString "StringIO.read") (Value.ref 550) (Value.str (Str.ofString "io") 407) 556 rfl
noncomputable abbrev k610 (PPP : Params) : Obj := { cls := Value.type "dict", data := Data.dict #[{ hash := PyData.keyHash PPP (Str.ofString "__module__"), key := Value.str (Str.ofString "__module__") 784, val := Value.str (Str.ofString "_io") 789 }, { hash := PyData.keyHash PPP (Str.ofString "__firstlineno__"), key := Value.str (Str.ofString "__firstlineno__") 788, val := Value.int 251 787 }, { hash := PyData.keyHash PPP (Str.ofString "__init__"), key := Value.str (Str.ofString "__init__") 801, val := Value.ref 381 }, { hash := PyData.keyHash PPP (Str.ofString "_StringIO__translated"), key := Value.str (Str.ofString "_StringIO__translated") 810, val := Value.ref 388 }, { hash := PyData.keyHash PPP (Str.ofString "_StringIO__check"), key := Value.str (Str.ofString "_StringIO__check") 817, val := Value.ref 395 }, { hash := PyData.keyHash PPP (Str.ofString "_StringIO__check_dot"), key := Value.str (Str.ofString "_StringIO__check_dot") 824, val := Value.ref 402 }, { hash := PyData.keyHash PPP (Str.ofString "_StringIO__line"), key := Value.str (Str.ofString "_StringIO__line") 839, val := Value.ref 409 }, { hash := PyData.keyHash PPP (Str.ofString "closed"), key := Value.str (Str.ofString "closed") 847, val := Value.ref 417 }, { hash := PyData.keyHash PPP (Str.ofString "line_buffering"), key := Value.str (Str.ofString "line_buffering") 855, val := Value.ref 425 }, { hash := PyData.keyHash PPP (Str.ofString "newlines"), key := Value.str (Str.ofString "newlines") 863, val := Value.ref 433 }, { hash := PyData.keyHash PPP (Str.ofString "encoding"), key := Value.str (Str.ofString "encoding") 871, val := Value.ref 441 }, { hash := PyData.keyHash PPP (Str.ofString "errors"), key := Value.str (Str.ofString "errors") 879, val := Value.ref 449 }, { hash := PyData.keyHash PPP (Str.ofString "close"), key := Value.str (Str.ofString "close") 886, val := Value.ref 456 }, { hash := PyData.keyHash PPP (Str.ofString "__enter__"), key := Value.str (Str.ofString "__enter__") 893, val := Value.ref 463 }, { hash := PyData.keyHash PPP (Str.ofString "__exit__"), key := Value.str (Str.ofString "__exit__") 901, val := Value.ref 470 }, { hash := PyData.keyHash PPP (Str.ofString "readable"), key := Value.str (Str.ofString "readable") 908, val := Value.ref 477 }, { hash := PyData.keyHash PPP (Str.ofString "writable"), key := Value.str (Str.ofString "writable") 915, val := Value.ref 484 }, { hash := PyData.keyHash PPP (Str.ofString "seekable"), key := Value.str (Str.ofString "seekable") 922, val := Value.ref 491 }, { hash := PyData.keyHash PPP (Str.ofString "isatty"), key := Value.str (Str.ofString "isatty") 929, val := Value.ref 498 }, { hash := PyData.keyHash PPP (Str.ofString "flush"), key := Value.str (Str.ofString "flush") 936, val := Value.ref 505 }, { hash := PyData.keyHash PPP (Str.ofString "fileno"), key := Value.str (Str.ofString "fileno") 943, val := Value.ref 512 }, { hash := PyData.keyHash PPP (Str.ofString "detach"), key := Value.str (Str.ofString "detach") 950, val := Value.ref 519 }, { hash := PyData.keyHash PPP (Str.ofString "getvalue"), key := Value.str (Str.ofString "getvalue") 957, val := Value.ref 526 }, { hash := PyData.keyHash PPP (Str.ofString "tell"), key := Value.str (Str.ofString "tell") 964, val := Value.ref 533 }, { hash := PyData.keyHash PPP (Str.ofString "seek"), key := Value.str (Str.ofString "seek") 974, val := Value.ref 541 }, { hash := PyData.keyHash PPP (Str.ofString "truncate"), key := Value.str (Str.ofString "truncate") 982, val := Value.ref 549 }, { hash := PyData.keyHash PPP (Str.ofString "read"), key := Value.str (Str.ofString "read") 994, val := Value.ref 557 }, { hash := PyData.keyHash PPP (Str.ofString "readline"), key := Value.str (Str.ofString "readline") 1004, val := Value.ref 565 }, { hash := PyData.keyHash PPP (Str.ofString "readlines"), key := Value.str (Str.ofString "readlines") 1014, val := Value.ref 573 }, { hash := PyData.keyHash PPP (Str.ofString "__iter__"), key := Value.str (Str.ofString "__iter__") 1021, val := Value.ref 580 }, { hash := PyData.keyHash PPP (Str.ofString "__next__"), key := Value.str (Str.ofString "__next__") 1029, val := Value.ref 587 }, { hash := PyData.keyHash PPP (Str.ofString "write"), key := Value.str (Str.ofString "write") 1041, val := Value.ref 594 }, { hash := PyData.keyHash PPP (Str.ofString "writelines"), key := Value.str (Str.ofString "writelines") 1049, val := Value.ref 601 }, { hash := PyData.keyHash PPP (Str.ofString "__repr__"), key := Value.str (Str.ofString "__repr__") 1056, val := Value.ref 608 }, { hash := PyData.keyHash PPP (Str.ofString "__static_attributes__"), key := Value.str (Str.ofString "__static_attributes__") 1060, val := Value.ref 609 }, { hash := PyData.keyHash PPP (Str.ofString "__doc__"), key := Value.str (Str.ofString "__doc__") 1061, val := Value.none }] 2 }
noncomputable abbrev k611 (PPP : Params) : Obj := { cls := Value.type "type", data := Data.cls { name := Str.ofString "StringIO", bases := [Value.ref 134], mro := [Value.ref 611, Value.ref 134, Value.ref 107, Value.type "object"], ns := 610, qualname := Str.ofString "StringIO" }, slots := #[some (Value.ref 367), none, some (Value.str (Str.ofString "StringIO") 777), some (Value.str (Str.ofString "StringIO") 785), some Value.none, some (Value.bool true)] }
noncomputable abbrev k663 (PPP : Params) : Obj := { cls := Value.type "tuple", data := Data.seq #[Value.none, Value.none, Value.bool false, Value.bool false] }
noncomputable abbrev k669 (PPP : Params) : Obj := { cls := Value.type "code", data := Data.fields #[Value.str (Str.ofString "__init__") 1137, Value.str (Str.ofString "shlex.__init__") 1138, Value.str (Str.ofString "/claim/cut.py") 1139, Value.int 523 0, Value.int 5 0, Value.int 0 0, Value.int 0 0, Value.int 3 0, Value.ref 664, Value.bool true, Value.int 318 0, Value.ref 665, Value.none, Value.ref 666, Value.ref 667, Value.ref 668, Value.int 1146 0, Value.int 523 0, Value.str (Str.ofString "/claim/cut.py") 1147] }
noncomputable abbrev k670 : Obj := fnO (st := nth (inClass (nth body 28)) 0) _ _ _ _ _ _ _ (Str.ofString "shlex.__init__") (Value.ref 663) (Value.str (Str.ofString "cpy313.shlex") 1123) 669 rfl
noncomputable abbrev k676 (PPP : Params) : Obj := { cls := Value.type "code", data := Data.fields #[Value.str (Str.ofString "punctuation_chars") 1149, Value.str (Str.ofString "shlex.punctuation_chars") 1150, Value.str (Str.ofString "/claim/cut.py") 1151, Value.int 564 0, Value.int 1 0, Value.int 0 0, Value.int 0 0, Value.int 3 0, Value.ref 671, Value.bool true, Value.int 318 0, Value.ref 672, Value.none, Value.ref 673, Value.ref 674, Value.ref 675, Value.int 1153 0, Value.int 564 0, Value.str (Str.ofString "/claim/cut.py") 1154] }
noncomputable abbrev k677 : Obj := fnO (st := nth (inClass (nth body 28)) 1) _ _ _ _ _ _ _ (Str.ofString "shlex.punctuation_chars") (Value.none) (Value.str (Str.ofString "cpy313.shlex") 1123) 676 rfl
noncomputable abbrev k678 (PPP : Params) : Obj := { cls := Value.type "property", data := Data.fields #[Value.ref 677, Value.none, Value.none, Value.none, Value.str (Str.ofString "punctuation_chars") 1156, Value.bool false] }
noncomputable abbrev k706 (PPP : Params) : Obj := { cls := Value.type "code", data := Data.fields #[Value.str (Str.ofString "get_token") 1181, Value.str (Str.ofString "shlex.get_token") 1182, Value.str (Str.ofString "/claim/cut.py") 1183, Value.int 591 0, Value.int 1 0, Value.int 0 0, Value.int 0 0, Value.int 3 0, Value.ref 701, Value.bool true, Value.int 318 0, Value.ref 702, Value.none, Value.ref 703, Value.ref 704, Value.ref 705, Value.int 1190 0, Value.int 591 0, Value.str (Str.ofString "/claim/cut.py") 1191] }
noncomputable abbrev k707 : Obj := fnO (st := nth (inClass (nth body 28)) 5) _ _ _ _ _ _ _ (Str.ofString "shlex.get_token") (Value.none) (Value.str (Str.ofString "cpy313.shlex") 1123) 706 rfl
noncomputable abbrev k713 (PPP : Params) : Obj := { cls := Value.type "code", data := Data.fields #[Value.str (Str.ofString "read_token") 1193, Value.str (Str.ofString "shlex.read_token") 1194, Value.str (Str.ofString "/claim/cut.py") 1195, Value.int 618 0, Value.int 1 0, Value.int 0 0, Value.int 0 0, Value.int 3 0, Value.ref 708, Value.bool true, Value.int 318 0, Value.ref 709, Value.none, Value.ref 710, Value.ref 711, Value.ref 712, Value.int 1201 0, Value.int 618 0, Value.str (Str.ofString "/claim/cut.py") 1202] }
noncomputable abbrev k714 : Obj := fnO (st := nth (inClass (nth body 28)) 6) _ _ _ _ _ _ _ (Str.ofString "shlex.read_token") (Value.none) (Value.str (Str.ofString "cpy313.shlex") 1123) 713 rfl
noncomputable abbrev k735 (PPP : Params) : Obj := { cls := Value.type "code", data := Data.fields #[Value.str (Str.ofString "__iter__") 1221, Value.str (Str.ofString "shlex.__iter__") 1222, Value.str (Str.ofString "/claim/cut.py") 1223, Value.int 765 0, Value.int 1 0, Value.int 0 0, Value.int 0 0, Value.int 3 0, Value.ref 730, Value.bool true, Value.int 318 0, Value.ref 731, Value.none, Value.ref 732, Value.ref 733, Value.ref 734, Value.int 1225 0, Value.int 765 0, Value.str (Str.ofString "/claim/cut.py") 1226] }
noncomputable abbrev k736 : Obj := fnO (st := nth (inClass (nth body 28)) 9) _ _ _ _ _ _ _ (Str.ofString "shlex.__iter__") (Value.none) (Value.str (Str.ofString "cpy313.shlex") 1123) 735 rfl
noncomputable abbrev k742 (PPP : Params) : Obj := { cls := Value.type "code", data := Data.fields #[Value.str (Str.ofString "__next__") 1228, Value.str (Str.ofString "shlex.__next__") 1229, Value.str (Str.ofString "/claim/cut.py") 1230, Value.int 768 0, Value.int 1 0, Value.int 0 0, Value.int 0 0, Value.int 3 0, Value.ref 737, Value.bool true, Value.int 318 0, Value.ref 738, Value.none, Value.ref 739, Value.ref 740, Value.ref 741, Value.int 1233 0, Value.int 768 0, Value.str (Str.ofString "/claim/cut.py") 1234] }
noncomputable abbrev k743 : Obj := fnO (st := nth (inClass (nth body 28)) 10) _ _ _ _ _ _ _ (Str.ofString "shlex.__next__") (Value.none) (Value.str (Str.ofString "cpy313.shlex") 1123) 742 rfl
noncomputable abbrev k745 (PPP : Params) : Obj := { cls := Value.type "dict", data := Data.dict #[{ hash := PyData.keyHash PPP (Str.ofString "__module__"), key := Value.str (Str.ofString "__module__") 1132, val := Value.str (Str.ofString "cpy313.shlex") 1123 }, { hash := PyData.keyHash PPP (Str.ofString "__firstlineno__"), key := Value.str (Str.ofString "__firstlineno__") 1136, val := Value.int 521 1135 }, { hash := PyData.keyHash PPP (Str.ofString "__init__"), key := Value.str (Str.ofString "__init__") 1148, val := Value.ref 670 }, { hash := PyData.keyHash PPP (Str.ofString "punctuation_chars"), key := Value.str (Str.ofString "punctuation_chars") 1156, val := Value.ref 678 }, { hash := PyData.keyHash PPP (Str.ofString "push_token"), key := Value.str (Str.ofString "push_token") 1164, val := Value.ref 685 }, { hash := PyData.keyHash PPP (Str.ofString "push_source"), key := Value.str (Str.ofString "push_source") 1173, val := Value.ref 693 }, { hash := PyData.keyHash PPP (Str.ofString "pop_source"), key := Value.str (Str.ofString "pop_source") 1180, val := Value.ref 700 }, { hash := PyData.keyHash PPP (Str.ofString "get_token"), key := Value.str (Str.ofString "get_token") 1192, val := Value.ref 707 }, { hash := PyData.keyHash PPP (Str.ofString "read_token"), key := Value.str (Str.ofString "read_token") 1203, val := Value.ref 714 }, { hash := PyData.keyHash PPP (Str.ofString "sourcehook"), key := Value.str (Str.ofString "sourcehook") 1211, val := Value.ref 721 }, { hash := PyData.keyHash PPP (Str.ofString "error_leader"), key := Value.str (Str.ofString "error_leader") 1220, val := Value.ref 729 }, { hash := PyData.keyHash PPP (Str.ofString "__iter__"), key := Value.str (Str.ofString "__iter__") 1227, val := Value.ref 736 }, { hash := PyData.keyHash PPP (Str.ofString "__next__"), key := Value.str (Str.ofString "__next__") 1235, val := Value.ref 743 }, { hash := PyData.keyHash PPP (Str.ofString "__static_attributes__"), key := Value.str (Str.ofString "__static_attributes__") 1256, val := Value.ref 744 }, { hash := PyData.keyHash PPP (Str.ofString "__dict__"), key := Value.str (Str.ofString "__dict__") 1258, val := Value.ref 747 }, { hash := PyData.keyHash PPP (Str.ofString "__weakref__"), key := Value.str (Str.ofString "__weakref__") 1260, val := Value.ref 748 }, { hash := PyData.keyHash PPP (Str.ofString "__doc__"), key := Value.str (Str.ofString "__doc__") 1261, val := Value.none }] 4 }
noncomputable abbrev k746 (PPP : Params) : Obj := { cls := Value.type "type", data := Data.cls { name := Str.ofString "shlex", bases := [Value.type "object"], mro := [Value.ref 746, Value.type "object"], ns := 745, qualname := Str.ofString "shlex" }, slots := #[none, none, some (Value.str (Str.ofString "shlex") 1125), some (Value.str (Str.ofString "shlex") 1133), some (Value.builtin "object.__new__"), some (Value.bool true)] }
noncomputable abbrev k747 (PPP : Params) : Obj := { cls := Value.type "getset_descriptor", data := Data.fields #[Value.str (Str.ofString "__dict__") 1257, Value.ref 746, Value.builtin "function.__dict__", Value.builtin "function.__dict__#set"] }
noncomputable abbrev k748 (PPP : Params) : Obj := { cls := Value.type "getset_descriptor", data := Data.fields #[Value.str (Str.ofString "__weakref__") 1259, Value.ref 746, Value.builtin "ExceptionGroup.__weakref__", Value.none] }
noncomputable abbrev k751 (PPP : Params) : Obj := { cls := Value.type "tuple", data := Data.seq #[Value.bool false, Value.bool true] }
noncomputable abbrev k757 (PPP : Params) : Obj := { cls := Value.type "code", data := Data.fields #[Value.str (Str.ofString "split") 1264, Value.str (Str.ofString "split") 1265, Value.str (Str.ofString "/claim/cut.py") 1266, Value.int 773 0, Value.int 3 0, Value.int 0 0, Value.int 0 0, Value.int 3 0, Value.ref 752, Value.bool true, Value.int 318 0, Value.ref 753, Value.none, Value.ref 754, Value.ref 755, Value.ref 756, Value.int 1271 0, Value.int 773 0, Value.str (Str.ofString "/claim/cut.py") 1272] }
noncomputable abbrev k758 : Obj := fnO (st := nth body 29) _ _ _ _ _ _ _ (Str.ofString "split") (Value.ref 751) (Value.str (Str.ofString "cpy313.shlex") 1123) 757 rfl
noncomputable abbrev k764 (PPP : Params) : Obj := { cls := Value.type "code", data := Data.fields #[Value.str (Str.ofString "join") 1274, Value.str (Str.ofString "join") 1275, Value.str (Str.ofString "/claim/cut.py") 1276, Value.int 781 0, Value.int 1 0, Value.int 0 0, Value.int 0 0, Value.int 3 0, Value.ref 759, Value.bool true, Value.int 318 0, Value.ref 760, Value.none, Value.ref 761, Value.ref 762, Value.ref 763, Value.int 1278 0, Value.int 781 0, Value.str (Str.ofString "/claim/cut.py") 1279] }
noncomputable abbrev k765 : Obj := fnO (st := nth body 30) _ _ _ _ _ _ _ (Str.ofString "join") (Value.none) (Value.str (Str.ofString "cpy313.shlex") 1123) 764 rfl
noncomputable abbrev k766 (PPP : Params) : Obj := { cls := Value.type "builtin_function_or_method", data := Data.fields #[Value.builtin "re.Pattern.search", Value.ref 63] }
noncomputable abbrev k772 (PPP : Params) : Obj := { cls := Value.type "code", data := Data.fields #[Value.str (Str.ofString "quote") 1284, Value.str (Str.ofString "quote") 1285, Value.str (Str.ofString "/claim/cut.py") 1286, Value.int 785 0, Value.int 1 0, Value.int 0 0, Value.int 0 0, Value.int 3 0, Value.ref 767, Value.bool true, Value.int 318 0, Value.ref 768, Value.none, Value.ref 769, Value.ref 770, Value.ref 771, Value.int 1288 0, Value.int 785 0, Value.str (Str.ofString "/claim/cut.py") 1289] }
noncomputable abbrev k773 : Obj := fnO (st := nth body 33) _ _ _ _ _ _ _ (Str.ofString "quote") (Value.none) (Value.str (Str.ofString "cpy313.shlex") 1123) 772 rfl
noncomputable abbrev k779 (PPP : Params) : Obj := { cls := Value.type "code", data := Data.fields #[Value.str (Str.ofString "S_IFMT") 1293, Value.str (Str.ofString "S_IFMT") 1294, Value.str (Str.ofString "/claim/cut.py") 1295, Value.int 792 0, Value.int 1 0, Value.int 0 0, Value.int 0 0, Value.int 3 0, Value.ref 774, Value.bool true, Value.int 318 0, Value.ref 775, Value.none, Value.ref 776, Value.ref 777, Value.ref 778, Value.int 1297 0, Value.int 792 0, Value.str (Str.ofString "/claim/cut.py") 1298] }
noncomputable abbrev k780 : Obj := fnO (st := nth body 35) _ _ _ _ _ _ _ (Str.ofString "S_IFMT") (Value.none) (Value.str (Str.ofString "cpy313.stat") 1291) 779 rfl
noncomputable abbrev k781 (PPP : Params) : Obj := { cls := Value.type "tuple", data := Data.seq #[Value.int 40960 1310, Value.str (Str.ofString "l") 1338] }
noncomputable abbrev k782 (PPP : Params) : Obj := { cls := Value.type "tuple", data := Data.seq #[Value.int 49152 1312, Value.str (Str.ofString "s") 1339] }
noncomputable abbrev k783 (PPP : Params) : Obj := { cls := Value.type "tuple", data := Data.seq #[Value.int 32768 1306, Value.str (Str.ofString "-") 1340] }
noncomputable abbrev k784 (PPP : Params) : Obj := { cls := Value.type "tuple", data := Data.seq #[Value.int 24576 1304, Value.str (Str.ofString "b") 1341] }
noncomputable abbrev k785 (PPP : Params) : Obj := { cls := Value.type "tuple", data := Data.seq #[Value.int 16384 1300, Value.str (Str.ofString "d") 1342] }
noncomputable abbrev k786 (PPP : Params) : Obj := { cls := Value.type "tuple", data := Data.seq #[Value.int 8192 1302, Value.str (Str.ofString "c") 1343] }
noncomputable abbrev k787 (PPP : Params) : Obj := { cls := Value.type "tuple", data := Data.seq #[Value.int 4096 1308, Value.str (Str.ofString "p") 1344] }
noncomputable abbrev k788 (PPP : Params) : Obj := { cls := Value.type "tuple", data := Data.seq #[Value.ref 781, Value.ref 782, Value.ref 783, Value.ref 784, Value.ref 785, Value.ref 786, Value.ref 787] }
noncomputable abbrev k789 (PPP : Params) : Obj := { cls := Value.type "tuple", data := Data.seq #[Value.int 256 1320, Value.str (Str.ofString "r") 1345] }
noncomputable abbrev k790 (PPP : Params) : Obj := { cls := Value.type "tuple", data := Data.seq #[Value.ref 789] }
noncomputable abbrev k791 (PPP : Params) : Obj := { cls := Value.type "tuple", data := Data.seq #[Value.int 128 1322, Value.str (Str.ofString "w") 1346] }
noncomputable abbrev k792 (PPP : Params) : Obj := { cls := Value.type "tuple", data := Data.seq #[Value.ref 791] }
noncomputable abbrev k793 (PPP : Params) : Obj := { cls := Value.type "tuple", data := Data.seq #[Value.int 2112 1347, Value.str (Str.ofString "s") 1348] }
noncomputable abbrev k794 (PPP : Params) : Obj := { cls := Value.type "tuple", data := Data.seq #[Value.int 2048 1314, Value.str (Str.ofString "S") 1349] }
noncomputable abbrev k795 (PPP : Params) : Obj := { cls := Value.type "tuple", data := Data.seq #[Value.int 64 1324, Value.str (Str.ofString "x") 1350] }
noncomputable abbrev k796 (PPP : Params) : Obj := { cls := Value.type "tuple", data := Data.seq #[Value.ref 793, Value.ref 794, Value.ref 795] }
noncomputable abbrev k797 (PPP : Params) : Obj := { cls := Value.type "tuple", data := Data.seq #[Value.int 32 1326, Value.str (Str.ofString "r") 1351] }
noncomputable abbrev k798 (PPP : Params) : Obj := { cls := Value.type "tuple", data := Data.seq #[Value.ref 797] }
noncomputable abbrev k799 (PPP : Params) : Obj := { cls := Value.type "tuple", data := Data.seq #[Value.int 16 1328, Value.str (Str.ofString "w") 1352] }
noncomputable abbrev k800 (PPP : Params) : Obj := { cls := Value.type "tuple", data := Data.seq #[Value.ref 799] }
noncomputable abbrev k801 (PPP : Params) : Obj := { cls := Value.type "tuple", data := Data.seq #[Value.int 1032 1353, Value.str (Str.ofString "s") 1354] }
noncomputable abbrev k802 (PPP : Params) : Obj := { cls := Value.type "tuple", data := Data.seq #[Value.int 1024 1316, Value.str (Str.ofString "S") 1355] }
noncomputable abbrev k803 (PPP : Params) : Obj := { cls := Value.type "tuple", data := Data.seq #[Value.int 8 1330, Value.str (Str.ofString "x") 1356] }
noncomputable abbrev k804 (PPP : Params) : Obj := { cls := Value.type "tuple", data := Data.seq #[Value.ref 801, Value.ref 802, Value.ref 803] }
noncomputable abbrev k805 (PPP : Params) : Obj := { cls := Value.type "tuple", data := Data.seq #[Value.int 4 1332, Value.str (Str.ofString "r") 1357] }
noncomputable abbrev k806 (PPP : Params) : Obj := { cls := Value.type "tuple", data := Data.seq #[Value.ref 805] }
noncomputable abbrev k807 (PPP : Params) : Obj := { cls := Value.type "tuple", data := Data.seq #[Value.int 2 1334, Value.str (Str.ofString "w") 1358] }
noncomputable abbrev k808 (PPP : Params) : Obj := { cls := Value.type "tuple", data := Data.seq #[Value.ref 807] }
noncomputable abbrev k809 (PPP : Params) : Obj := { cls := Value.type "tuple", data := Data.seq #[Value.int 513 1359, Value.str (Str.ofString "t") 1360] }
noncomputable abbrev k810 (PPP : Params) : Obj := { cls := Value.type "tuple", data := Data.seq #[Value.int 512 1318, Value.str (Str.ofString "T") 1361] }
noncomputable abbrev k811 (PPP : Params) : Obj := { cls := Value.type "tuple", data := Data.seq #[Value.int 1 1336, Value.str (Str.ofString "x") 1362] }
noncomputable abbrev k812 (PPP : Params) : Obj := { cls := Value.type "tuple", data := Data.seq #[Value.ref 809, Value.ref 810, Value.ref 811] }
noncomputable abbrev k813 (PPP : Params) : Obj := { cls := Value.type "tuple", data := Data.seq #[Value.ref 788, Value.ref 790, Value.ref 792, Value.ref 796, Value.ref 798, Value.ref 800, Value.ref 804, Value.ref 806, Value.ref 808, Value.ref 812] }
noncomputable abbrev k819 (PPP : Params) : Obj := { cls := Value.type "code", data := Data.fields #[Value.str (Str.ofString "filemode") 1364, Value.str (Str.ofString "filemode") 1365, Value.str (Str.ofString "/claim/cut.py") 1366, Value.int 814 0, Value.int 1 0, Value.int 0 0, Value.int 0 0, Value.int 3 0, Value.ref 814, Value.bool true, Value.int 318 0, Value.ref 815, Value.none, Value.ref 816, Value.ref 817, Value.ref 818, Value.int 1373 0, Value.int 814 0, Value.str (Str.ofString "/claim/cut.py") 1374] }
noncomputable abbrev k820 : Obj := fnO (st := nth body 56) _ _ _ _ _ _ _ (Str.ofString "filemode") (Value.none) (Value.str (Str.ofString "cpy313.stat") 1291) 819 rfl
noncomputable abbrev k826 (PPP : Params) : Obj := { cls := Value.type "code", data := Data.fields #[Value.str (Str.ofString "_law_misspelt") 1378, Value.str (Str.ofString "_law_misspelt") 1379, Value.str (Str.ofString "/claim/cut.py") 1380, Value.int 832 0, Value.int 3 0, Value.int 0 0, Value.int 0 0, Value.int 3 0, Value.ref 821, Value.bool true, Value.int 318 0, Value.ref 822, Value.none, Value.ref 823, Value.ref 824, Value.ref 825, Value.int 1386 0, Value.int 832 0, Value.str (Str.ofString "/claim/cut.py") 1387] }
noncomputable abbrev k827 : Obj := fnO (st := nth body 58) _ _ _ _ _ _ _ (Str.ofString "_law_misspelt") (Value.none) (Value.str (Str.ofString "law_ny0408_01") 1376) 826 rfl
noncomputable abbrev k833 (PPP : Params) : Obj := { cls := Value.type "code", data := Data.fields #[Value.str (Str.ofString "_law_meant") 1389, Value.str (Str.ofString "_law_meant") 1390, Value.str (Str.ofString "/claim/cut.py") 1391, Value.int 836 0, Value.int 1 0, Value.int 0 0, Value.int 0 0, Value.int 3 0, Value.ref 828, Value.bool true, Value.int 318 0, Value.ref 829, Value.none, Value.ref 830, Value.ref 831, Value.ref 832, Value.int 1393 0, Value.int 836 0, Value.str (Str.ofString "/claim/cut.py") 1394] }
noncomputable abbrev k834 : Obj := fnO (st := nth body 59) _ _ _ _ _ _ _ (Str.ofString "_law_meant") (Value.none) (Value.str (Str.ofString "law_ny0408_01") 1376) 833 rfl
noncomputable abbrev k838 (PPP : Params) : Obj := { cls := Value.type "code", data := Data.fields #[Value.str (Str.ofString "_law_row") 1396, Value.str (Str.ofString "_law_row") 1397, Value.str (Str.ofString "/claim/cut.py") 1398, Value.int 838 0, Value.int 1 0, Value.int 0 0, Value.int 0 0, Value.int 3 0, Value.ref 835, Value.bool true, Value.int 318 0, Value.ref 836, Value.none, Value.none, Value.none, Value.ref 837, Value.int 1399 0, Value.int 838 0, Value.str (Str.ofString "/claim/cut.py") 1400] }
noncomputable abbrev k839 : Obj := fnO (st := nth body 60) _ _ _ _ _ _ _ (Str.ofString "_law_row") (Value.none) (Value.str (Str.ofString "law_ny0408_01") 1376) 838 rfl
noncomputable abbrev k843 (PPP : Params) : Obj := { cls := Value.type "code", data := Data.fields #[Value.str (Str.ofString "_law_told") 1402, Value.str (Str.ofString "_law_told") 1403, Value.str (Str.ofString "/claim/cut.py") 1404, Value.int 841 0, Value.int 1 0, Value.int 0 0, Value.int 0 0, Value.int 3 0, Value.ref 840, Value.bool true, Value.int 318 0, Value.ref 841, Value.none, Value.none, Value.none, Value.ref 842, Value.int 1405 0, Value.int 841 0, Value.str (Str.ofString "/claim/cut.py") 1406] }
noncomputable abbrev k844 : Obj := fnO (st := nth body 61) _ _ _ _ _ _ _ (Str.ofString "_law_told") (Value.none) (Value.str (Str.ofString "law_ny0408_01") 1376) 843 rfl
noncomputable abbrev k848 (PPP : Params) : Obj := { cls := Value.type "code", data := Data.fields #[Value.str (Str.ofString "_law_due") 1408, Value.str (Str.ofString "_law_due") 1409, Value.str (Str.ofString "/claim/cut.py") 1410, Value.int 852 0, Value.int 1 0, Value.int 0 0, Value.int 0 0, Value.int 3 0, Value.ref 845, Value.bool true, Value.int 318 0, Value.ref 846, Value.none, Value.none, Value.none, Value.ref 847, Value.int 1411 0, Value.int 852 0, Value.str (Str.ofString "/claim/cut.py") 1412] }
noncomputable abbrev k849 : Obj := fnO (st := nth body 62) _ _ _ _ _ _ _ (Str.ofString "_law_due") (Value.none) (Value.str (Str.ofString "law_ny0408_01") 1376) 848 rfl
noncomputable abbrev k853 (PPP : Params) : Obj := { cls := Value.type "code", data := Data.fields #[Value.str (Str.ofString "law") 1414, Value.str (Str.ofString "law") 1415, Value.str (Str.ofString "/claim/cut.py") 1416, Value.int 861 0, Value.int 1 0, Value.int 0 0, Value.int 0 0, Value.int 3 0, Value.ref 850, Value.bool true, Value.int 318 0, Value.ref 851, Value.none, Value.none, Value.none, Value.ref 852, Value.int 1417 0, Value.int 861 0, Value.str (Str.ofString "/claim/cut.py") 1418] }
noncomputable abbrev k854 : Obj := fnO (st := nth body 63) _ _ _ _ _ _ _ (Str.ofString "law") (Value.none) (Value.str (Str.ofString "law_ny0408_01") 1376) 853 rfl
noncomputable def K (P : Params) : Frag := (nat_lit 2, k2 P) :: (nat_lit 3, k3 P) :: (nat_lit 50, k50 P) :: (nat_lit 51, k51) :: (nat_lit 57, k57 P) :: (nat_lit 58, k58) :: (nat_lit 62, k62 P) :: (nat_lit 63, k63 P) :: (nat_lit 69, k69 P) :: (nat_lit 70, k70) :: (nat_lit 76, k76 P) :: (nat_lit 77, k77) :: (nat_lit 86, k86 P) :: (nat_lit 87, k87 P) :: (nat_lit 88, k88 P) :: (nat_lit 103, k103 P) :: (nat_lit 104, k104) :: (nat_lit 106, k106 P) :: (nat_lit 107, k107 P) :: (nat_lit 108, k108 P) :: (nat_lit 109, k109 P) :: (nat_lit 110, k110 P) :: (nat_lit 121, k121 P) :: (nat_lit 122, k122 P) :: (nat_lit 133, k133 P) :: (nat_lit 134, k134 P) :: (nat_lit 173, k173 P) :: (nat_lit 363, k363 P) :: (nat_lit 364, k364 P) :: (nat_lit 374, k374 P) :: (nat_lit 380, k380 P) :: (nat_lit 381, k381) :: (nat_lit 387, k387 P) :: (nat_lit 388, k388) :: (nat_lit 394, k394 P) :: (nat_lit 395, k395) :: (nat_lit 417, k417 P) :: (nat_lit 425, k425 P) :: (nat_lit 433, k433 P) :: (nat_lit 441, k441 P) :: (nat_lit 449, k449 P) :: (nat_lit 550, k550 P) :: (nat_lit 556, k556 P) :: (nat_lit 557, k557) :: (nat_lit 610, k610 P) :: (nat_lit 611, k611 P) :: (nat_lit 663, k663 P) :: (nat_lit 669, k669 P) :: (nat_lit 670, k670) :: (nat_lit 676, k676 P) :: (nat_lit 677, k677) :: (nat_lit 678, k678 P) :: (nat_lit 706, k706 P) :: (nat_lit 707, k707) :: (nat_lit 713, k713 P) :: (nat_lit 714, k714) :: (nat_lit 735, k735 P) :: (nat_lit 736, k736) :: (nat_lit 742, k742 P) :: (nat_lit 743, k743) :: (nat_lit 745, k745 P) :: (nat_lit 746, k746 P) :: (nat_lit 747, k747 P) :: (nat_lit 748, k748 P) :: (nat_lit 751, k751 P) :: (nat_lit 757, k757 P) :: (nat_lit 758, k758) :: (nat_lit 764, k764 P) :: (nat_lit 765, k765) :: (nat_lit 766, k766 P) :: (nat_lit 772, k772 P) :: (nat_lit 773, k773) :: (nat_lit 779, k779 P) :: (nat_lit 780, k780) :: (nat_lit 781, k781 P) :: (nat_lit 782, k782 P) :: (nat_lit 783, k783 P) :: (nat_lit 784, k784 P) :: (nat_lit 785, k785 P) :: (nat_lit 786, k786 P) :: (nat_lit 787, k787 P) :: (nat_lit 788, k788 P) :: (nat_lit 789, k789 P) :: (nat_lit 790, k790 P) :: (nat_lit 791, k791 P) :: (nat_lit 792, k792 P) :: (nat_lit 793, k793 P) :: (nat_lit 794, k794 P) :: (nat_lit 795, k795 P) :: (nat_lit 796, k796 P) :: (nat_lit 797, k797 P) :: (nat_lit 798, k798 P) :: (nat_lit 799, k799 P) :: (nat_lit 800, k800 P) :: (nat_lit 801, k801 P) :: (nat_lit 802, k802 P) :: (nat_lit 803, k803 P) :: (nat_lit 804, k804 P) :: (nat_lit 805, k805 P) :: (nat_lit 806, k806 P) :: (nat_lit 807, k807 P) :: (nat_lit 808, k808 P) :: (nat_lit 809, k809 P) :: (nat_lit 810, k810 P) :: (nat_lit 811, k811 P) :: (nat_lit 812, k812 P) :: (nat_lit 813, k813 P) :: (nat_lit 819, k819 P) :: (nat_lit 820, k820) :: (nat_lit 826, k826 P) :: (nat_lit 827, k827) :: (nat_lit 833, k833 P) :: (nat_lit 834, k834) :: (nat_lit 838, k838 P) :: (nat_lit 839, k839) :: (nat_lit 843, k843 P) :: (nat_lit 844, k844) :: (nat_lit 848, k848 P) :: (nat_lit 849, k849) :: (nat_lit 853, k853 P) :: (nat_lit 854, k854) :: []
noncomputable abbrev kAs : List Addr := nat_lit 2 :: nat_lit 3 :: nat_lit 50 :: nat_lit 51 :: nat_lit 57 :: nat_lit 58 :: nat_lit 62 :: nat_lit 63 :: nat_lit 69 :: nat_lit 70 :: nat_lit 76 :: nat_lit 77 :: nat_lit 86 :: nat_lit 87 :: nat_lit 88 :: nat_lit 103 :: nat_lit 104 :: nat_lit 106 :: nat_lit 107 :: nat_lit 108 :: nat_lit 109 :: nat_lit 110 :: nat_lit 121 :: nat_lit 122 :: nat_lit 133 :: nat_lit 134 :: nat_lit 173 :: nat_lit 363 :: nat_lit 364 :: nat_lit 374 :: nat_lit 380 :: nat_lit 381 :: nat_lit 387 :: nat_lit 388 :: nat_lit 394 :: nat_lit 395 :: nat_lit 417 :: nat_lit 425 :: nat_lit 433 :: nat_lit 441 :: nat_lit 449 :: nat_lit 550 :: nat_lit 556 :: nat_lit 557 :: nat_lit 610 :: nat_lit 611 :: nat_lit 663 :: nat_lit 669 :: nat_lit 670 :: nat_lit 676 :: nat_lit 677 :: nat_lit 678 :: nat_lit 706 :: nat_lit 707 :: nat_lit 713 :: nat_lit 714 :: nat_lit 735 :: nat_lit 736 :: nat_lit 742 :: nat_lit 743 :: nat_lit 745 :: nat_lit 746 :: nat_lit 747 :: nat_lit 748 :: nat_lit 751 :: nat_lit 757 :: nat_lit 758 :: nat_lit 764 :: nat_lit 765 :: nat_lit 766 :: nat_lit 772 :: nat_lit 773 :: nat_lit 779 :: nat_lit 780 :: nat_lit 781 :: nat_lit 782 :: nat_lit 783 :: nat_lit 784 :: nat_lit 785 :: nat_lit 786 :: nat_lit 787 :: nat_lit 788 :: nat_lit 789 :: nat_lit 790 :: nat_lit 791 :: nat_lit 792 :: nat_lit 793 :: nat_lit 794 :: nat_lit 795 :: nat_lit 796 :: nat_lit 797 :: nat_lit 798 :: nat_lit 799 :: nat_lit 800 :: nat_lit 801 :: nat_lit 802 :: nat_lit 803 :: nat_lit 804 :: nat_lit 805 :: nat_lit 806 :: nat_lit 807 :: nat_lit 808 :: nat_lit 809 :: nat_lit 810 :: nat_lit 811 :: nat_lit 812 :: nat_lit 813 :: nat_lit 819 :: nat_lit 820 :: nat_lit 826 :: nat_lit 827 :: nat_lit 833 :: nat_lit 834 :: nat_lit 838 :: nat_lit 839 :: nat_lit 843 :: nat_lit 844 :: nat_lit 848 :: nat_lit 849 :: nat_lit 853 :: nat_lit 854 :: []
noncomputable def vw : Program := { PySem.Challenge.pw_ny0408_01 with main := { PySem.Challenge.pw_ny0408_01.main with body := [nth body 0, nth body 1, nth body 63] } }
noncomputable abbrev loose0 : List Str := [Str.ofString "_wall", Str.ofString "_MAX_STRING_SIZE", Str.ofString "_MOVE_COST", Str.ofString "_CASE_COST", Str.ofString "_substitution_cost", Str.ofString "_levenshtein_distance", Str.ofString "_twin_re_1", Str.ofString "_whence", Str.ofString "_index", Str.ofString "UnsupportedOperation", Str.ofString "IOBase", Str.ofString "BufferedIOBase", Str.ofString "TextIOBase", Str.ofString "BytesIO", Str.ofString "StringIO", Str.ofString "_kind", Str.ofString "_fspath", Str.ofString "_check_arg_types", Str.ofString "isabs", Str.ofString "join", Str.ofString "join_path", Str.ofString "dirname", Str.ofString "shlex", Str.ofString "split", Str.ofString "join_shlex", Str.ofString "_find_unsafe", Str.ofString "quote", Str.ofString "S_IFMT", Str.ofString "S_IFDIR", Str.ofString "S_IFCHR", Str.ofString "S_IFBLK", Str.ofString "S_IFREG", Str.ofString "S_IFIFO", Str.ofString "S_IFLNK", Str.ofString "S_IFSOCK", Str.ofString "S_ISUID", Str.ofString "S_ISGID", Str.ofString "S_ISVTX", Str.ofString "S_IRUSR", Str.ofString "S_IWUSR", Str.ofString "S_IXUSR", Str.ofString "S_IRGRP", Str.ofString "S_IWGRP", Str.ofString "S_IXGRP", Str.ofString "S_IROTH", Str.ofString "S_IWOTH", Str.ofString "S_IXOTH", Str.ofString "_filemode_table", Str.ofString "filemode", Str.ofString "_law_misspelt", Str.ofString "_law_meant", Str.ofString "_law_row", Str.ofString "_law_told", Str.ofString "_law_due"]
noncomputable def loose : List Str := looseW vw loose0
end
section
set_option maxRecDepth 100000
noncomputable def topQ (p : Program) (w : World) (n₀ : Nat) (ann : Option Value) : Nat → SharedT → Thread → Option SharedT
  | 0, _, _ => none
  | n + 1, s, t => match through t with
    | true => some s
    | false => match PySem.W.Fast.tw6613529449190102663 n₀ ann t with
      | false => none
      | true => match PySem.W.Fast.tw10156331382660048174 (PySem.W.Fast.tw11892475500146522536 PySem.W.Fast.tw14364793385576792824) p w s t with
        | some (s', t') => topQ p w n₀ ann n s' t'
        | none => none
theorem topQ_of {p : Program} {w : World} {n₀ : Nat} {ann : Option Value} : ∀ {n : Nat} {s s' : SharedT} {t : Thread}, topQ p w n₀ ann n s t = some s' → topRun treeTable p w n₀ ann n s.abs t = some s'.abs
  | 0, s, s', t, h => by cases h
  | n + 1, s, s', t, h => by
    unfold topQ at h
    unfold topRun
    cases he : through t with
    | true => rw [he] at h; cases h; rfl
    | false =>
      rw [he] at h
      dsimp only at h ⊢
      rw [← PySem.W.Fast.te6613529449190102663] at h
      cases hk : stepOk n₀ ann t with
      | false => rw [hk] at h; cases h
      | true =>
        rw [hk] at h
        dsimp only at h ⊢
        rw [← PySem.W.Fast.te10156331382660048174, ← PySem.W.Fast.te11892475500146522536, ← PySem.W.Fast.te14364793385576792824] at h
        cases hs : stepT (denote treeTable) p w s t with
        | none => rw [hs] at h; cases h
        | some r => obtain ⟨s₂, t₂⟩ := r; rw [hs] at h; dsimp only at h; rw [stepT_spec hs]; exact topQ_of h
noncomputable def impQ (p : Program) (w : World) : Nat → SharedT → Thread → Option SharedT
  | 0, _, _ => none
  | n + 1, s, t => match PySem.W.Fast.tw3805553451399329143 t with
    | some [] => some s
    | some (_ :: _) => none
    | none => match PySem.W.Fast.tw10156331382660048174 (PySem.W.Fast.tw11892475500146522536 PySem.W.Fast.tw14364793385576792824) p w s t with
      | some (s', t') => impQ p w n s' t'
      | none => none
theorem impQ_of {p : Program} {w : World} : ∀ {n : Nat} {s s' : SharedT} {t : Thread}, impQ p w n s t = some s' → importEnds treeTable p w n s.abs t = some s'.abs
  | 0, s, s', t, h => by cases h
  | n + 1, s, s', t, h => by
    unfold impQ at h
    unfold importEnds
    rw [← PySem.W.Fast.te3805553451399329143] at h
    cases he : t.atExitBegin with
    | some l =>
      rw [he] at h
      cases l with
      | nil => cases h; rfl
      | cons a b => cases h
    | none =>
      rw [he] at h
      dsimp only at h ⊢
      rw [← PySem.W.Fast.te10156331382660048174, ← PySem.W.Fast.te11892475500146522536, ← PySem.W.Fast.te14364793385576792824] at h
      cases hs : stepT (denote treeTable) p w s t with
      | none => rw [hs] at h; cases h
      | some r => obtain ⟨s₂, t₂⟩ := r; rw [hs] at h; dsimp only at h; rw [stepT_spec hs]; exact impQ_of h
noncomputable def ofL : List Obj → Nat → BT → Option BT
  | [], _, t => some t
  | o :: r, n, t => match ((t.ins n o).get n).isSome with
    | true => ofL r (n + 1) (t.ins n o)
    | false => none
theorem ofL_of {life : Life} : ∀ {l : List Obj} {n : Nat} {t t' : BT}, ofL l n t = some t' → (absHeap t' (n + l.length) life).objs.toList = (absHeap t n life).objs.toList ++ l
  | [], n, t, t', h => by cases h; simp
  | o :: r, n, t, t', h => by
    unfold ofL at h
    cases hs : ((t.ins n o).get n).isSome with
    | false => rw [hs] at h; cases h
    | true =>
      rw [hs] at h
      have e := ofL_of (life := life) h
      rw [absHeap_ins hs] at e
      rw [List.length_cons, show n + (r.length + 1) = n + 1 + r.length by lia, e]
      simp [Heap.push]
theorem ofL_heap {h : Heap} {t : BT} (e : ofL h.objs.toList 0 .nil = some t) : absHeap t h.objs.size h.life = h := by
  have := ofL_of (life := h.life) e
  rw [Nat.zero_add, Array.length_toList] at this
  have z : (absHeap BT.nil 0 h.life).objs.toList = [] := rfl
  rw [z, List.nil_append] at this
  cases h with
  | mk objs life =>
    have q : (absHeap t objs.size life).objs = objs := Array.toList_inj.mp this
    show absHeap t objs.size life = ⟨objs, life⟩
    cases hh : absHeap t objs.size life with
    | mk o l =>
      rw [hh] at q
      have : l = life := by have := congrArg Heap.life hh; exact this.symm
      subst this
      cases q
      rfl
noncomputable def startT (p : Program) : SharedT := ⟨.nil, 0, (PySem.W.Fast.tw1435165496053646825 p).1.heap.life, (PySem.W.Fast.tw1435165496053646825 p).1.gens, (PySem.W.Fast.tw1435165496053646825 p).1.drawn, (PySem.W.Fast.tw1435165496053646825 p).1.toks, (PySem.W.Fast.tw1435165496053646825 p).1.os⟩
noncomputable def opened (p : Program) (w : World) (N : Nat) : Option Shared := (impQ (opening p) w N (startT (opening p)) (PySem.W.Fast.tw1435165496053646825 (opening p)).2).bind fun s => PySem.W.Fast.tw14289696077712309145 p s.abs
noncomputable def isAt (a : Addr) : Option Value → Bool
  | some (.ref b) => Nat.beq b a
  | _ => false
theorem isAt_of {a : Addr} : ∀ {v : Option Value}, isAt a v = true → v = some (.ref a)
  | some (.ref b), h => by rw [Nat.eq_of_beq_eq_true (n := b) (m := a) h]
noncomputable def endsQ (p : Program) (w : World) (N m₀ : Nat) (an : Addr) : Option Shared :=
  (opened p w N).bind fun s₀ => match s₀.heap.isNs mainGlobals && s₀.gens.size == 0 && Nat.beq s₀.heap.objs.size m₀ && isAt an (PySem.W.Fast.tw8920871248978507458 s₀.heap mainGlobals "__annotations__") with
    | false => none
    | true => (ofL s₀.heap.objs.toList 0 .nil).bind fun t =>
      (topQ p w m₀ (some (.ref an)) N ⟨t, m₀, s₀.heap.life, s₀.gens, s₀.drawn, s₀.toks, s₀.os⟩ (topStub p)).bind fun s₁ =>
        match staticsOk (importedModules p.main.body) s₀.heap s₁.abs.heap && namesBound p s₁.abs.heap && gensDone s₁.abs && laidKept s₀.heap s₁.abs.heap with
        | true => some s₁.abs
        | false => none
theorem endsQ_of {p : Program} {w : World} {N m₀ : Nat} {an : Addr} {s : Shared} (h : endsQ p w N m₀ an = some s) : openEnds treeTable p w N = some s := by
  unfold endsQ at h
  obtain ⟨s₀, h0, h1⟩ := Option.bind_eq_some_iff.mp h
  unfold opened at h0
  obtain ⟨s', h2, h3⟩ := Option.bind_eq_some_iff.mp h0
  have a := impQ_of h2
  rw [← PySem.W.Fast.te14289696077712309145] at h3
  have e0 : (startT (opening p)).abs = (start (opening p)).1 := by
    rw [startT, ← PySem.W.Fast.te1435165496053646825]
    rfl
  rw [e0, ← PySem.W.Fast.te1435165496053646825] at a
  have f : fencedOpening treeTable p w N = some s₀ := by
    unfold fencedOpening
    rw [a]
    exact h3
  unfold openEnds
  rw [f]
  show topFrom treeTable p w N s₀ = some s
  rw [← PySem.W.Fast.te8920871248978507458] at h1
  cases hc : (s₀.heap.isNs mainGlobals && s₀.gens.size == 0 && Nat.beq s₀.heap.objs.size m₀ && isAt an (s₀.heap.nsMap mainGlobals "__annotations__")) with
  | false => rw [hc] at h1; cases h1
  | true =>
    rw [hc] at h1
    dsimp only at h1
    obtain ⟨t, h4, h5⟩ := Option.bind_eq_some_iff.mp h1
    obtain ⟨s₁, h6, h7⟩ := Option.bind_eq_some_iff.mp h5
    simp only [Bool.and_eq_true] at hc
    obtain ⟨⟨⟨c1, c2⟩, c3⟩, c4⟩ := hc
    have c3' := Nat.eq_of_beq_eq_true c3
    have c4' := isAt_of c4
    subst c3'
    have b := topQ_of h6
    have e1 : (SharedT.mk t s₀.heap.objs.size s₀.heap.life s₀.gens s₀.drawn s₀.toks s₀.os).abs = s₀ := by
      show Shared.mk (absHeap t s₀.heap.objs.size s₀.heap.life) _ _ _ _ = s₀
      rw [ofL_heap h4]
    rw [e1] at b
    unfold topFrom
    rw [c1, c2, c4']
    show (topRun treeTable p w s₀.heap.objs.size (some (.ref an)) N s₀ (topStub p)).bind _ = _
    rw [b]
    exact h7
noncomputable abbrev rr : OpenRow := PySem.Challenge.rw_ny0408_01.row
noncomputable abbrev Xq (s : Shared) : Bool := xlAt vw [] s && recOk (RowW.records (OpenRow.toRowW rr)) s
noncomputable abbrev Kp (P : Params) : Frag := (nat_lit 760, { cls := Value.none, data := Data.fields #[] }) :: K P
noncomputable abbrev kAp : List Addr := nat_lit 760 :: kAs
noncomputable abbrev Hk : Hook := kHook Kp kAp (fun _ => by kernel_rfl)
theorem left : LeftO rr.toRowW.prog vw loose0 Xq (Hook.obs Hk) (Hook.val Hk) 6000 := fun w => by
  have c : (endsQ PySem.Challenge.pw_ny0408_01 w 6000 34 6).map (fun s => (PySem.W.Fast.tw4187177175401517315 vw loose0 (importedModules PySem.Challenge.pw_ny0408_01.main.body) Xq true s, Hook.obs Hk s)) = some (openGood vw loose0, Hook.val Hk w) := by kernel_rfl
  rw [← PySem.W.Fast.te4187177175401517315] at c
  obtain ⟨s, h, e⟩ := Option.map_eq_some_iff.mp c
  show (openEnds treeTable PySem.Challenge.pw_ny0408_01 w 6000).map (fun s => (openSeen vw loose0 (importedModules PySem.Challenge.pw_ny0408_01.main.body) Xq true s, Hook.obs Hk s)) = some (openGood vw loose0, Hook.val Hk w)
  rw [endsQ_of h]
  exact congrArg some e
end
section
set_option maxRecDepth 100000
set_option maxHeartbeats 8000000
theorem look1 : PySem.W.Fast.tw11788848310118352699 PySem.Challenge.pw_ny0408_01.main = true := by kernel_rfl
theorem look2 : ((PySem.W.Fast.tw9807087744658564304 PySem.Challenge.pw_ny0408_01.main.body).isEmpty || PySem.W.Fast.tw12862048085361865435 (PySem.W.Fast.tw9807087744658564304 PySem.Challenge.pw_ny0408_01.main.body) PySem.Challenge.pw_ny0408_01.main.body) = true := by kernel_rfl
theorem look3 : PySem.W.Fast.tw8377067652309620493 PySem.Challenge.pw_ny0408_01 = true := by kernel_rfl
theorem look4 : (R.allR (PySem.W.Fast.tw18344453789297297638 PySem.Challenge.pw_ny0408_01) fun n => !PySem.W.Fast.tw3471404346716756564 PySem.W.Fast.tw14412699480532031325 n) = true := by kernel_rfl
noncomputable abbrev lookAt (p : Program) : Look := { strict := !R.allR (PySem.W.Fast.tw5923862056798008813 p.main.body) (PySem.W.Fast.tw3471404346716756564 PySem.W.Fast.tw17691160309236699985), foot := none, bare := R.filterR (PySem.W.Fast.tw13343964577679436407 p p.main.body) [{ cps := { toList := [118, 97, 114, 115] } }, { cps := { toList := [100, 105, 114] } }, { cps := { toList := [108, 111, 99, 97, 108, 115] } }] }
theorem look5 : PySem.W.Fast.tw8326940854005059898 (lookAt PySem.Challenge.pw_ny0408_01) PySem.Challenge.pw_ny0408_01.main.body = true := by kernel_rfl
theorem look6 : (PySem.W.Fast.tw17119622794617984870 PySem.Challenge.pw_ny0408_01 PySem.Challenge.pw_ny0408_01.main.body fun _ n => PySem.W.Fast.tw17868728402115742887 n) = true := by kernel_rfl
theorem looks : PySem.W.Fast.tw12908688711261696721 PySem.Challenge.pw_ny0408_01 = true := by
  delta PySem.W.Fast.tw12908688711261696721
  exact look_both (look_both (look_both (look_both (look_both look1 look2) look3) look4) look5) look6
theorem said : OpenLaw.wellSaid PySem.Challenge.rw_ny0408_01 = true := by
  rw [PySem.W.Fast.te9446332074065402090]
  delta PySem.W.Fast.tw9446332074065402090
  repeat' (with_reducible refine look_both ?_ ?_)
  delta PySem.W.Fast.tw17960256430627541270
  repeat' (with_reducible refine look_both ?_ ?_)
  delta PySem.W.Fast.tw2436336058641802641
  repeat' (with_reducible refine look_both ?_ ?_)
  exact looks
  all_goals kernel_rfl
theorem hd : ∀ {d : DefRec} {kwd : List (Str × Expr)}, defOf vw rr.name = some (d, kwd) → rr.prog.theDef rr.name = some (d.params, d.body, d.scope) → kwWritten? d.params.kwonlyargs d.params.kw_defaults = some kwd →
    WalkO vw loose0 (XL vw []) (Hook.says Hk) rr.toRowW d kwd (fun f vs => PySem.call f vs) → PySem.Challenge.rw_ny0408_01.Holds := by
  intro d kwd h1 h2 h3 walk
  refine holds_law said fun sd => ?_
  refine holds_open (q := vw) (loose := loose0) (Xt := Xq) (XP := XL vw []) (Yf := Hook.obs Hk) (Ya := Hook.val Hk) (YP := Hook.says Hk) (N := 6000) left (Hook.of Hk) (Hook.keeps Hk) (fun s e => xl_of s (Bool.and_eq_true_iff.mp e).1) XL.keeps h1 h2 h3 (fun s e => recFacts_of (Bool.and_eq_true_iff.mp e).2) (by rfl) sd (by decide +kernel) ⟨rfl, rfl, rfl, rfl, rfl, by decide +kernel⟩ ?hw walk
  case hw => w_witness2
end
section
theorem tkGen {α : Type} {mo : Model} {A : Around} {x : Sem α} {Q : α → Shared → Prop} {E : Value → Shared → Prop} {h : Heap} {g : Array GenState} {d : Drawn} {t n : Nat} {o : OsState} (k : ∀ tk, wpAny mo A x Q E ⟨h, g, d, tk, o⟩) : wpAny mo A x Q E ⟨h, g, d, t + n, o⟩ := k _
theorem toBE {h₀ h : Heap} {L : Addr} {m : Str → Option Value} (ps : List (Str × Value)) (F : Fr h₀ L h m) (hp : ∀ p ∈ ps, m p.1 = some p.2) : ∃ u, Fr h₀ L h (kstB u ps) :=
  ⟨m, by have e : kstB m ps = m := funext fun z => kstB_eq hp fun _ => rfl
         rw [e]; exact F⟩
end
section
noncomputable abbrev cl (x : Str) : List Nat := x.cps.toList
noncomputable def sOf (l : List Nat) : Str := ⟨l.toArray⟩
theorem cl_sOf (l : List Nat) : cl (sOf l) = l := by simp [cl, sOf]
theorem sOf_cl (x : Str) : sOf (cl x) = x := by simp [cl, sOf]
theorem len_cl (x : Str) : (cl x).length = x.length := by simp [cl, Str.length]
theorem len_sOf (l : List Nat) : (sOf l).length = l.length := by simp [sOf, Str.length]
theorem sOf_inj {l l' : List Nat} (h : sOf l = sOf l') : l = l' := by
  have := congrArg cl h
  rwa [cl_sOf, cl_sOf] at this
theorem add_neg_lt (z : Int) {k : Int} (h : k < 0) : z + k < z := by
  have := Int.add_lt_add_left h z
  rwa [Int.add_zero] at this
theorem up_nat {k : Int} (h0 : 0 ≤ k) : (k + 1).toNat = k.toNat + 1 := by
  obtain ⟨m, rfl⟩ := Int.eq_ofNat_of_zero_le h0
  rfl
theorem slice_from {x : Str} {i : Int} (h0 : 0 ≤ i) (h : i ≤ x.length) : Txt.slice x (some i) none = sOf ((cl x).drop i.toNat) := by
  rw [slice_from_eq h0 h rfl]
  unfold sOf
  rw [List.take_of_length_le]
  rw [List.length_drop]
  obtain ⟨m, rfl⟩ := Int.eq_ofNat_of_zero_le h0
  show (cl x).length - m ≤ _
  rw [len_cl]
  exact Nat.le_of_eq (Int.toNat_sub _ _).symm
theorem slice_to {x : Str} {j : Int} (h0 : 0 ≤ j) (h : j ≤ x.length) : Txt.slice x none (some j) = sOf ((cl x).take j.toNat) := by
  have e := eq_of_beq (slice_closes_toL h0 h)
  rw [e]
  simp [sOf]
theorem idx_neg (n : Nat) {j : Int} (h : j < 0) (h' : 0 ≤ (n : Int) + j) : Builtin.Str.strSliceIndices none (some j) 1 n = Builtin.Str.strSliceIndices none (some ((n : Int) + j)) 1 n := by
  have a2 : ¬ ((n : Int) + j < 0) := Int.not_lt.mpr h'
  simp only [Builtin.Str.strSliceIndices, h, a2, if_true, if_false]
  rw [Int.add_comm j]
theorem slice_neg {x : Str} {j : Int} (h : j < 0) (h' : 0 ≤ (x.length : Int) + j) : Txt.slice x none (some j) = sOf ((cl x).take ((x.length : Int) + j).toNat) := by
  rw [← slice_to h' (Int.le_of_lt (add_neg_lt _ h))]
  unfold Txt.slice
  rw [idx_neg _ h h']
theorem slice_all (x : Str) : Txt.slice x none none = x := by
  have e : Builtin.Str.strSliceIndices none none 1 x.length = Builtin.Str.strSliceIndices none (some (x.length : Int)) 1 x.length := by
    have a2 : ¬ ((x.length : Int) < 0) := by lia
    simp [Builtin.Str.strSliceIndices, a2]
  have e2 : Txt.slice x none none = Txt.slice x none (some (x.length : Int)) := by
    unfold Txt.slice
    rw [e]
  rw [e2, slice_to (by lia) (by lia)]
  have := len_cl x
  rw [List.take_of_length_le (by lia), sOf_cl]
theorem item_at {x : Str} {k : Int} (h0 : 0 ≤ k) (h : k < x.length) : Txt.item x k = sOf [(cl x).getD k.toNat 0] := by
  unfold Txt.item Txt.charAt
  have a : seqIndex? k x.length = some k.toNat := by
    simp [seqIndex?]
    lia
  rw [a]
  have hl : k.toNat < x.cps.size := (Int.toNat_lt h0).mpr h
  simp [sOf, cl, hl]
theorem item_neg {x : Str} {k : Int} (h0 : k < 0) (h : 0 ≤ (x.length : Int) + k) : Txt.item x k = sOf [(cl x).getD ((x.length : Int) + k).toNat 0] := by
  unfold Txt.item Txt.charAt
  have a : seqIndex? k x.length = some ((x.length : Int) + k).toNat := by
    have b : ¬ 0 ≤ k := Int.not_le.mpr h0
    simp [seqIndex?]
    lia
  rw [a]
  have hl : ((x.length : Int) + k).toNat < x.cps.size := (Int.toNat_lt h).mpr (add_neg_lt _ h0)
  simp [sOf, cl, hl]
noncomputable def preLen : List Nat → List Nat → Nat
  | x :: xs, y :: ys => if x = y then preLen xs ys + 1 else 0
  | _, _ => 0
theorem preLen_le : ∀ (a b : List Nat), preLen a b ≤ a.length ∧ preLen a b ≤ b.length
  | [], b => by simp [preLen]
  | x :: xs, [] => by simp [preLen]
  | x :: xs, y :: ys => by
    have ih := preLen_le xs ys
    unfold preLen
    split
    · simp only [List.length_cons]; lia
    · simp
theorem preLen_exit : ∀ (a b : List Nat) (p : Nat), p ≤ a.length → p ≤ b.length → a.take p = b.take p → (p = a.length ∨ p = b.length ∨ a.getD p 0 ≠ b.getD p 0) → preLen a b = p
  | [], b, p, h1, _, _, _ => by simp at h1; subst h1; simp [preLen]
  | x :: xs, [], p, _, h2, _, _ => by simp at h2; subst h2; simp [preLen]
  | x :: xs, y :: ys, 0, _, _, _, h => by
    simp at h
    unfold preLen
    rw [if_neg h]
  | x :: xs, y :: ys, p + 1, h1, h2, h3, h => by
    simp only [List.take_succ_cons, List.cons.injEq] at h3
    have ih := preLen_exit xs ys p (by simpa using h1) (by simpa using h2) h3.2 (by simpa using h)
    unfold preLen
    rw [if_pos h3.1, ih]
theorem take_step {a b : List Nat} {p : Nat} (h1 : p < a.length) (h2 : p < b.length) (h : a.take p = b.take p) (e : a.getD p 0 = b.getD p 0) : a.take (p + 1) = b.take (p + 1) := by
  have e1 : a[p]? = some (a.getD p 0) := by simp [h1]
  have e2 : b[p]? = some (b.getD p 0) := by simp [h2]
  rw [List.take_add_one, List.take_add_one, h, e1, e2, e]
theorem rev_getD {a : List Nat} {k : Nat} (h : k < a.length) : a.reverse.getD k 0 = a.getD (a.length - 1 - k) 0 := by
  have h' : a.length - 1 - k < a.length := Nat.lt_of_le_of_lt (Nat.sub_le _ _) (Nat.sub_lt (Nat.zero_lt_of_lt h) Nat.one_pos)
  simp [List.getD_eq_getElem?_getD, List.getElem?_reverse h]
end
section
set_option maxRecDepth 100000
set_option maxHeartbeats 8000000
noncomputable def Halt (P : Prop) : Prop := P
theorem halt {P : Prop} (h : Halt P) : P := h
theorem fill {P : Prop} (h : PySem.Challenge.rw_ny0408_01.prog = PySem.Challenge.rw_ny0408_01.prog → P) : P := h rfl
section
variable {prog : Program} {w : World} {A : Around} {E : Value → Shared → Prop} {Q : Flow → Shared → Prop} {s : Shared} {env : Env} {h₀ : Heap} {L : Addr} {st : Stmt}
theorem cutS {σ : Type} {m : Str → Option Value} (F : Fr h₀ L s.heap m) (Led : σ → List (Addr × Obj)) (ps : σ → List (Str × Value)) (P : σ → Prop)
    (h1 : ∀ Q' : Flow → Shared → Prop, (∀ (c : σ) (u : Str → Option Value) h tk, P c → Fr h₀ L h (kstB u (ps c)) → News h₀ L h (Led c) → Q' .next { s with heap := h, toks := tk }) → wpAny (model prog w) A (exec st env) Q' E s)
    (h2 : ∀ (c : σ) (u : Str → Option Value) h tk, P c → Fr h₀ L h (kstB u (ps c)) → News h₀ L h (Led c) → Q .next { s with heap := h, toks := tk }) :
    wpAny (model prog w) A (exec st env) Q E s := h1 Q h2
theorem toB {h : Heap} {m : Str → Option Value} (ps : List (Str × Value)) (F : Fr h₀ L h m) (hp : ∀ p ∈ ps, m p.1 = some p.2) : Fr h₀ L h (kstB m ps) := by
  have e : kstB m ps = m := funext fun z => kstB_eq hp fun _ => rfl
  rw [e]; exact F
end
noncomputable abbrev MClaim (prog : Program) (w : World) (K : Frag) (p : Program) (loose : List Str) (mean : ExcName → Option Value) (mg mb : Str → Option Value) (f : Addr) (news : List (Addr × Obj)) (pre : Prop) (vs : List Value) (R : Tok → Value) : Prop :=
  ∀ (dp un : Nat) (gd : Option (List Code)) (cn : Str) (cs : Scope) (a : Addr) (ccd : Value) (cl : List (Str × Addr)) (outer : List Env) (A₀ : Around) (base h₀ : Heap) (L : Addr) (m : Str → Option Value) (s : Shared) (Q E : Value → Shared → Prop),
    Below A₀ base outer h₀ → Fr h₀ L s.heap m → K.In h₀ → News h₀ L s.heap news → Top p loose mean mg mb h₀ → cs.kind = .function →
    pre → dp + 40 < recursionLimit → un + 400 < cLine → CbRet h₀ L m news s Q R →
      wpAny (model prog w) (ktrTop dp un gd cn cs L a ccd cl outer) (call (.ref f) vs) Q E s
noncomputable def scost (x y : Str) : Int := if x = y then 0 else if Txt.lower x = Txt.lower y then 1 else 2
noncomputable def scN (c d : Nat) : Int := scost (sOf [c]) (sOf [d])
noncomputable def istep (c : Nat) (A : List Nat) (k : Nat) (s : Int × Int × Int × List Int) : Int × Int × Int × List Int :=
  let r := if s.1 + scN c (A.getD k 0) < (if s.2.2.2.getD k 0 < s.2.1 then s.2.2.2.getD k 0 else s.2.1) + 2 then s.1 + scN c (A.getD k 0) else (if s.2.2.2.getD k 0 < s.2.1 then s.2.2.2.getD k 0 else s.2.1) + 2
  (s.2.2.2.getD k 0, r, if r < s.2.2.1 then r else s.2.2.1, s.2.2.2.set k r)
noncomputable def iters (c : Nat) (A : List Nat) : Nat → Int × Int × Int × List Int → Int × Int × Int × List Int
  | 0, s => s
  | n + 1, s => istep c A n (iters c A n s)
noncomputable def orun (A B : List Nat) (mc : Int) : Nat → List Int → Option (List Int × Int)
  | 0, row => some (row, 0)
  | k + 1, row0 => match orun A B mc k row0 with
    | none => none
    | some (row, _) =>
      let t := iters (B.getD k 0) A A.length ((k : Int) * 2, (k : Int) * 2, 9223372036854775807, row)
      if t.2.2.1 > mc then none else some (t.2.2.2, t.2.1)
noncomputable def row0 (n : Nat) : List Int := (List.range n).map fun (i : Nat) => 2 * ((i : Int) + 1)
noncomputable def levD (A B : List Nat) (mc : Int) : Int :=
  if 2 * ((B.length : Int) - A.length) > mc then mc + 1 else match orun A B mc B.length (row0 A.length) with
    | none => mc + 1
    | some (_, r) => r
noncomputable def levR (A B : List Nat) (mc : Int) : Int :=
  if A = [] ∨ B = [] then 2 * ((A.length : Int) + B.length)
  else if B.length < A.length then levD B A mc else levD A B mc
noncomputable def levS (A B : List Nat) (mc : Int) : Int :=
  let q := preLen A.reverse B.reverse
  levR (A.take (A.length - q)) (B.take (B.length - q)) mc
noncomputable def levL (x y : List Nat) (mc : Int) : Int :=
  if x = y then 0 else
  let p := preLen x y
  levS (x.drop p) (y.drop p) mc
theorem subst_c (w : World) (mean : ExcName → Option Value) (mg mb : Str → Option Value) (x y : Str) (tx ty : Tok) (news : List (Addr × Obj)) :
    CbClaim PySem.Challenge.pw_ny0408_01 w (Mine.K w.params) Mine.vw loose mean mg mb 51 news [] (x.length ≤ 1 ∧ y.length ≤ 1) [.str x tx, .str y ty] (fun t => .int (scost x y) t) := by
  refine fill ?_
  k_fill
  intro _
  dsimp only [CbClaim, CbLists, CbRet]
  intros
  rename_i hret
  refine wpAny_call ?_
  k_dflt cell_enter
  k_steps
  all_goals (refine cb_retI hret ?_ (by k_asm) (by k_asm))
  all_goals (clear hret)
  all_goals (simp_all [scost]; done)
end
section
theorem ltc0 {a d : Addr} {R : Prop} (h : @LT.lt Nat _ a d ∧ R) : a ≠ d := Nat.ne_of_lt h.1
theorem ltc1 {a d : Addr} {P0 : Prop} {R : Prop} (h : P0 ∧ @LT.lt Nat _ a d ∧ R) : a ≠ d := Nat.ne_of_lt h.2.1
theorem ltc2 {a d : Addr} {P0 P1 : Prop} {R : Prop} (h : P0 ∧ P1 ∧ @LT.lt Nat _ a d ∧ R) : a ≠ d := Nat.ne_of_lt h.2.2.1
theorem ltc3 {a d : Addr} {P0 P1 P2 : Prop} {R : Prop} (h : P0 ∧ P1 ∧ P2 ∧ @LT.lt Nat _ a d ∧ R) : a ≠ d := Nat.ne_of_lt h.2.2.2.1
theorem ltc4 {a d : Addr} {P0 P1 P2 P3 : Prop} {R : Prop} (h : P0 ∧ P1 ∧ P2 ∧ P3 ∧ @LT.lt Nat _ a d ∧ R) : a ≠ d := Nat.ne_of_lt h.2.2.2.2.1
theorem ltc5 {a d : Addr} {P0 P1 P2 P3 P4 : Prop} {R : Prop} (h : P0 ∧ P1 ∧ P2 ∧ P3 ∧ P4 ∧ @LT.lt Nat _ a d ∧ R) : a ≠ d := Nat.ne_of_lt h.2.2.2.2.2.1
theorem ltc6 {a d : Addr} {P0 P1 P2 P3 P4 P5 : Prop} {R : Prop} (h : P0 ∧ P1 ∧ P2 ∧ P3 ∧ P4 ∧ P5 ∧ @LT.lt Nat _ a d ∧ R) : a ≠ d := Nat.ne_of_lt h.2.2.2.2.2.2.1
theorem ltc7 {a d : Addr} {P0 P1 P2 P3 P4 P5 P6 : Prop} {R : Prop} (h : P0 ∧ P1 ∧ P2 ∧ P3 ∧ P4 ∧ P5 ∧ P6 ∧ @LT.lt Nat _ a d ∧ R) : a ≠ d := Nat.ne_of_lt h.2.2.2.2.2.2.2.1
theorem ltc8 {a d : Addr} {P0 P1 P2 P3 P4 P5 P6 P7 : Prop} {R : Prop} (h : P0 ∧ P1 ∧ P2 ∧ P3 ∧ P4 ∧ P5 ∧ P6 ∧ P7 ∧ @LT.lt Nat _ a d ∧ R) : a ≠ d := Nat.ne_of_lt h.2.2.2.2.2.2.2.2.1
theorem adn1 (a : Addr) : @Ne Nat (a + 1) (a + 1 + 1) := Nat.ne_of_lt (Nat.lt_succ_self _)
theorem adn2 (a : Addr) : @Ne Nat (a + 1) (a + 1 + 1 + 1) := Nat.ne_of_lt (Nat.lt_succ_of_lt (Nat.lt_succ_self _))
theorem adn3 (a : Addr) : @Ne Nat (a + 1 + 1) (a + 1 + 1 + 1) := Nat.ne_of_lt (Nat.lt_succ_self _)
theorem ne_all {d : Addr} {l : List (Addr × Obj)} (h : AllLt d l) : ∀ p ∈ l, p.1 ≠ d := by
  induction l with
  | nil => intro p hp; cases hp
  | cons q r ih =>
    intro p hp
    rcases List.mem_cons.mp hp with rfl | hp
    · exact Nat.ne_of_lt h.1
    · exact ih h.2 p hp
theorem lt_all {d : Addr} {l : List (Addr × Obj)} (h : AllLt d l) : ∀ p ∈ l, p.1 < d := by
  induction l with
  | nil => intro p hp; cases hp
  | cons q r ih =>
    intro p hp
    rcases List.mem_cons.mp hp with rfl | hp
    · exact h.1
    · exact ih h.2 p hp
theorem ne_lt {d : Addr} {l : List (Addr × Obj)} (h : ∀ p ∈ l, p.1 < d) : ∀ p ∈ l, p.1 ≠ d := fun p hp => Nat.ne_of_lt (h p hp)
theorem ne_all1 {d : Addr} {l : List (Addr × Obj)} {P1 : Prop} (h : P1 ∧ AllLt d l) : ∀ p ∈ l, p.1 ≠ d := ne_all h.2
theorem ne_all2 {d : Addr} {l : List (Addr × Obj)} {P1 P2 : Prop} (h : P1 ∧ P2 ∧ AllLt d l) : ∀ p ∈ l, p.1 ≠ d := ne_all h.2.2
theorem ne_all3 {d : Addr} {l : List (Addr × Obj)} {P1 P2 P3 : Prop} (h : P1 ∧ P2 ∧ P3 ∧ AllLt d l) : ∀ p ∈ l, p.1 ≠ d := ne_all h.2.2.2
theorem ne_all4 {d : Addr} {l : List (Addr × Obj)} {P1 P2 P3 P4 : Prop} (h : P1 ∧ P2 ∧ P3 ∧ P4 ∧ AllLt d l) : ∀ p ∈ l, p.1 ≠ d := ne_all h.2.2.2.2
theorem ne_all5 {d : Addr} {l : List (Addr × Obj)} {P1 P2 P3 P4 P5 : Prop} (h : P1 ∧ P2 ∧ P3 ∧ P4 ∧ P5 ∧ AllLt d l) : ∀ p ∈ l, p.1 ≠ d := ne_all h.2.2.2.2.2
theorem ne_all6 {d : Addr} {l : List (Addr × Obj)} {P1 P2 P3 P4 P5 P6 : Prop} (h : P1 ∧ P2 ∧ P3 ∧ P4 ∧ P5 ∧ P6 ∧ AllLt d l) : ∀ p ∈ l, p.1 ≠ d := ne_all h.2.2.2.2.2.2
theorem ne_all7 {d : Addr} {l : List (Addr × Obj)} {P1 P2 P3 P4 P5 P6 P7 : Prop} (h : P1 ∧ P2 ∧ P3 ∧ P4 ∧ P5 ∧ P6 ∧ P7 ∧ AllLt d l) : ∀ p ∈ l, p.1 ≠ d := ne_all h.2.2.2.2.2.2.2
theorem ne_all8 {d : Addr} {l : List (Addr × Obj)} {P1 P2 P3 P4 P5 P6 P7 P8 : Prop} (h : P1 ∧ P2 ∧ P3 ∧ P4 ∧ P5 ∧ P6 ∧ P7 ∧ P8 ∧ AllLt d l) : ∀ p ∈ l, p.1 ≠ d := ne_all h.2.2.2.2.2.2.2.2
theorem list_in {h₀ h : Heap} {L l : Addr} {all news : List (Addr × Obj)} {us : List Value} {c : Nat} (N : News h₀ L h all) (hm : (l, listOf us.toArray c) ∈ news) (hs : ∀ p ∈ news, p ∈ all) : h.IsList l us.toArray := ⟨_, (N _ (hs _ hm)).1, rfl, _, rfl⟩
end
section
set_option maxRecDepth 100000
set_option maxHeartbeats 8000000
noncomputable def missW (sg : Str) (j : Int) : Str := [sg, Txt.upper sg, Str.ofString "", sg ++ sg, Str.ofString "#", Str.ofString " "].getD j.toNat Str.empty
noncomputable def missp (x : Str) (p j : Int) : Str := Txt.slice x none (some p) ++ missW (Txt.item x p) j ++ Txt.slice x (some (p + 1)) none
theorem six_at {prog : Program} {w : World} {A : Around} {E Q : Value → Shared → Prop} {s : Shared} {value slice : Expr} {l : Addr} {vs : List Value} {ws : List Str} {i : Int} {u : Tok} (hl : s.heap.IsList l vs.toArray) (hw : StrsAre vs ws) (h2 : ∀ x ∈ ws, x.length ≤ 10) (h0 : 0 ≤ i) (h1 : i < (ws.length : Int)) (hfit : i < 6)
    (h : ∀ x t, x = ws.getD i.toNat Str.empty → x.length ≤ 10 → Q (.str x t) s) (hs : subscripted slice false (.ref l) (.int i u) = operate [.ref l, .int i u] (getItem (.ref l) (.int i u))) :
    wpAny (model prog w) A (subscriptTail value slice (.ref l) (.int i u)) Q E s := by
  refine KTb.item_list hl hw h0 h1 (by lia) (fun t hlt => h _ t rfl ?_) hs
  refine h2 _ ?_
  rw [List.getD_eq_getElem?_getD, List.getElem?_eq_getElem hlt]
  exact List.getElem_mem hlt
theorem miss_len {sg : Str} (h : 1 ≤ sg.length ∧ sg.length ≤ 1) : ∀ x ∈ [sg, Txt.upper sg, Str.ofString "", sg ++ sg, Str.ofString "#", Str.ofString " "], x.length ≤ 10 := by
  intro x hx
  simp only [List.mem_cons, List.not_mem_nil, or_false] at hx
  have hu := PyProof.Rows.len_upper sg
  rcases hx with rfl | rfl | rfl | rfl | rfl | rfl
  · lia
  · lia
  · decide
  · have := Str.length_append sg sg
    lia
  · decide
  · decide
theorem missp_c (w : World) (mean : ExcName → Option Value) (mg mb : Str → Option Value) (x : Str) (p j : Int) (tx tp tj : Tok) (news : List (Addr × Obj)) :
    MClaim PySem.Challenge.pw_ny0408_01 w (Mine.K w.params) Mine.vw loose mean mg mb 827 news (x.length ≤ 20 ∧ 0 ≤ p ∧ p < x.length ∧ 0 ≤ j ∧ j < 6 ∧ Txt.islower (Txt.item x p) = true) [.str x tx, .int p tp, .int j tj] (fun t => .str (missp x p j) t) := by
  refine fill ?_
  k_fill
  intro _
  dsimp only [MClaim, CbRet]
  intro dp un gd cn cs a ccd cl outer A₀ base h₀ L m s Q E hB hF hX hN hT hK ⟨hx, hp0, hp1, hj0, hj1, hlow⟩ hdp hun hret
  refine wpAny_call ?_
  k_dflt cell_enter
  k_with_none
  k_with "call builtin:str.islower" => refine KXw.islower hlow ?_
  k_with "call builtin:str.upper" => ((refine SCL.upper ?hfit ?_); (case hfit => lia); intro _)
  k_with "subscriptTail Name Name ref int" => ((refine' six_at (ws := [_, _, _, _, _, _]) ?hl ?hw (miss_len ?hm) ?h0 ?h1 ?hf ?_ ?hs); (case hs => with_unfolding_all rfl); (case hl => is_list); (case hw => exact .cons _ _ (.cons _ _ (.cons _ _ (.cons _ _ (.cons _ _ (.cons _ _ .nil)))))); (case hm => assumption); (case h0 => lia); (case h1 => (show _ < ((6 : Nat) : Int); lia)); (case hf => lia); intro _ _ _ _)
  have hs1 := PyProof.Txt.length_slice_le x none (some p)
  have hs2 := PyProof.Txt.length_slice_le x (some (p + 1)) none
  k_steps
  rename _ = List.getD _ _ _ => e9
  refine cb_retS hret ?_ (by k_asm) (by first | k_asm | (refine' cb_drop ?cbN ?cbS; (case cbN => assumption); (case cbS => kcj_all)))
  rw [e9]
  rfl
end
section
set_option maxRecDepth 100000
set_option maxHeartbeats 8000000
noncomputable def meant (n : Int) : List Str := [[Str.ofString "grant", Str.ofString "deny"].getD (n.fmod 2).toNat Str.empty, [Str.ofString "owner", Str.ofString "group", Str.ofString "public"].getD ((n.fdiv 2).fmod 3).toNat Str.empty, [Str.ofString "read", Str.ofString "write", Str.ofString "execute"].getD ((n.fdiv 6).fmod 3).toNat Str.empty]
noncomputable abbrev LRet (h₀ : Heap) (L : Addr) (m : Str → Option Value) (news : List (Addr × Obj)) (s : Shared) (Q : Value → Shared → Prop) (ss : List Str) : Prop :=
  ∀ (D : Addr) (us : List Value) (c : Nat) (h' : Heap) (tk' : Nat), StrsAre us ss → Fr h₀ L h' m → News h₀ L h' ((D, listOf us.toArray c) :: news) → (∀ p ∈ news, p.1 < D) → Q (.ref D) { s with heap := h', toks := tk' }
theorem fmod2 (n : Int) : 0 ≤ n.fmod 2 ∧ n.fmod 2 < 2 := by
  rw [Int.fmod_eq_emod_of_nonneg _ (by decide)]
  lia
theorem fmod3 (n : Int) : 0 ≤ n.fmod 3 ∧ n.fmod 3 < 3 := by
  rw [Int.fmod_eq_emod_of_nonneg _ (by decide)]
  lia
theorem drop_mid {h₀ h : Heap} {L : Addr} {a : Addr × Obj} {pre news : List (Addr × Obj)} (N : News h₀ L h (a :: (pre ++ news))) : News h₀ L h (a :: news) :=
  cb_drop N fun p hp => (List.mem_cons.mp hp).elim (fun e => e ▸ List.mem_cons_self) fun hp => List.mem_cons_of_mem _ (List.mem_append.mpr (.inr hp))
theorem lt_all3 {d : Addr} {l : List (Addr × Obj)} {P1 P2 P3 : Prop} (h : P1 ∧ P2 ∧ P3 ∧ AllLt d l) : ∀ p ∈ l, p.1 < d := lt_all h.2.2.2
theorem meant_c (w : World) (mean : ExcName → Option Value) (mg mb : Str → Option Value) (n : Int) (tn : Tok) (news : List (Addr × Obj)) (dp un : Nat) (gd : Option (List Code)) (cn : Str) (cs : Scope) (a : Addr) (ccd : Value) (cel : List (Str × Addr)) (outer : List Env) (A₀ : Around) (base h₀ : Heap) (L : Addr) (m : Str → Option Value) (s : Shared) (Q E : Value → Shared → Prop) :
    Below A₀ base outer h₀ → Fr h₀ L s.heap m → (Mine.K w.params).In h₀ → News h₀ L s.heap news → Top Mine.vw loose mean mg mb h₀ → cs.kind = .function → dp + 40 < recursionLimit → un + 400 < cLine →
    LRet h₀ L m news s Q (meant n) →
    wpAny (model PySem.Challenge.pw_ny0408_01 w) (ktrTop dp un gd cn cs L a ccd cel outer) (call (.ref 834) [.int n tn]) Q E s := by
  refine fill ?_
  k_fill
  intro _
  dsimp only [LRet]
  intro hB hF hX hN hT hK hdp hun hret
  refine wpAny_call ?_
  k_dflt cell_enter
  k_with_none
  have f2 := fmod2 n
  have f3 := fmod3 (n.fdiv 2)
  have f6 := fmod3 (n.fdiv 6)
  k_with "subscriptTail Name BinOp ref int" => (first | ((refine' KTb.item_list (ws := [_, _]) ?hl ?hw ?h0 ?h1 ?hf ?_ ?hs); (case hs => with_unfolding_all rfl); (case hl => is_list); (case hw => exact .cons _ _ (.cons _ _ .nil)); (case h0 => lia); (case h1 => (show _ < ((2 : Nat) : Int); lia)); (case hf => lia); intro _ _) | ((refine' KTb.item_list (ws := [_, _, _]) ?hl ?hw ?h0 ?h1 ?hf ?_ ?hs); (case hs => with_unfolding_all rfl); (case hl => is_list); (case hw => exact .cons _ _ (.cons _ _ (.cons _ _ .nil))); (case h0 => lia); (case h1 => (show _ < ((3 : Nat) : Int); lia)); (case hf => lia); intro _ _))
  k_steps
  rename News _ _ _ _ => N9
  exact hret _ _ _ _ _ (.cons _ _ (.cons _ _ (.cons _ _ .nil))) (by k_asm) (drop_mid (pre := [_, _, _]) N9) (lt_all3 (by assumption))
end
section
local macro_rules | `(tactic| k_room) => `(tactic| ((try simp only [depth_mark, depth_under_make, depth_under_kw, depth_in1, depth_deeper, depth_caller]); lia))
local macro_rules | `(tactic| k_ne) => `(tactic| first | assumption | apply adn1 | (apply Ne.symm; first | assumption | apply adn1))
local macro_rules | `(tactic| k_all) => `(tactic| first | assumption | exact ne_lt (by assumption) | (apply ne_all; iterate 9 (first | done | assumption | apply And.right); done))
section
set_option maxRecDepth 100000
section
variable {prog : Program} {w : World} {A : Around} {E : Value → Shared → Prop} {s : Shared} {env : Env} {h₀ : Heap} {target : Expr} {body orelse : List Stmt} {Q : Flow → Shared → Prop}

noncomputable def TurnE (h₀ : Heap) (L : Addr) (s₁ : Shared) (wr : List Addr) (own : List (Addr × Obj)) (J : (Str → Option Value) → List (Addr × Obj) → Prop) (Q : Flow → Shared → Prop) (f : Flow) (s₂ : Shared) : Prop :=
  match f with
  | .ret v => Q (.ret v) s₂
  | .brk => Q .next s₂
  | _ => ∃ h' tk m' news', s₂ = { s₁ with heap := h', toks := tk } ∧ Fr h₀ L h' m' ∧ News h₀ L h' (own ++ news') ∧ (∀ p ∈ news', p.1 ∉ wr) ∧ J m' news'
theorem loopE {I : Addr} {fp wr : List Addr} {n : Nat} {P Md : Nat → Value → Heap → Prop} {St : Nat → Heap → Prop} {m : Str → Option Value} {news : List (Addr × Obj)} (W : KTurns prog w A target I fp wr n P Md St)
    (hLf : env.locals ∉ fp) (hwr : ∀ b ∈ wr, h₀.get? b = none) (hnw : ∀ p ∈ news, p.1 ∉ wr) (hst : St 0 s.heap) (F : Fr h₀ env.locals s.heap m) (N : News h₀ env.locals s.heap news)
    (J : Nat → (Str → Option Value) → List (Addr × Obj) → Prop) (h0 : J 0 m news) (hE : PassesOwn (model prog w) A env E)
    (step : ∀ i v m₁ news₁ h₁ tk₁ own, i < n → P i v h₁ → J i m₁ news₁ → (∀ p ∈ news₁, p.1 ∉ wr) → (∀ p ∈ own, p.1 ∈ fp) →
      Fr h₀ env.locals h₁ m₁ → News h₀ env.locals h₁ (own ++ news₁) →
      wpAny (model prog w) A (assign target env v) (fun _ s₂ => wpAny (model prog w) A (execs body env) (TurnE h₀ env.locals { s with heap := h₁, toks := tk₁ } wr own (J (i + 1)) Q) E s₂) E { s with heap := h₁, toks := tk₁ })
    (done : ∀ h' tk m' news', Fr h₀ env.locals h' m' → News h₀ env.locals h' news' → (∀ p ∈ news', p.1 ∉ wr) → J n m' news' → wpAny (model prog w) A (execs orelse env) Q E { s with heap := h', toks := tk }) :
    codeAny (model prog w) A (.forLoop target (.ref I) body orelse env) (fun r s' => match r with | .ok f => Q f s' | .error e => cameBackBy (model prog w) A env E e s') s := by
  have hLw : env.locals ∉ wr := fun h => hLf (W.sub _ h)
  have old : ∀ b o, h₀.get? b = some o → b ∉ wr := fun b o e hb => by rw [hwr b hb] at e; cases e
  refine codeAny_forLoop_any
    (fun k s' => ∃ h' tk m' news' i, s' = { s with heap := h', toks := tk } ∧ St i h' ∧ Fr h₀ env.locals h' m' ∧ News h₀ env.locals h' news' ∧ (∀ p ∈ news', p.1 ∉ wr) ∧ J i m' news' ∧ i ≤ n ∧ k = n + 1 - i) ?_ (n + 1)
    ⟨s.heap, s.toks, m, news, 0, rfl, hst, F, N, hnw, h0, Nat.zero_le _, rfl⟩
  rintro k s' ⟨h', tk, m', news', i, rfl, hst', F', N', hnw', hJ, hi, rfl⟩
  have next : ∀ h₁ : Heap, (∀ b o, b ∉ wr → h'.get? b = some o → h₁.get? b = some o) → Fr h₀ env.locals h₁ m' ∧ News h₀ env.locals h₁ news' := fun h₁ hk₁ =>
    ⟨⟨F'.ns.at' fun o e => hk₁ _ o hLw e, fun b o e => hk₁ b o (old b o e) (F'.keep b o e), F'.above⟩, fun p hp => ⟨hk₁ _ _ (hnw' p hp) (N' p hp).1, (N' p hp).2⟩⟩
  by_cases hlt : i < n
  · refine W.item i _ _ _ hlt hst' fun v h₁ tk₁ hMd hk₁ => ?_
    refine W.go i v _ _ _ hMd fun h₂ hP hst₂ hk₂ => ?_
    obtain ⟨F₂, N₂⟩ := next h₂ fun b o hb x => hk₂ b o hb (hk₁ b o hb x)
    have Nown : News h₀ env.locals h₂ (PyProof.Rows.ownOf h₀ fp h₂) := news_ownOf hLf
    refine wpAny_mono (step i v m' news' h₂ tk₁ (PyProof.Rows.ownOf h₀ fp h₂) hlt hP hJ hnw' ownOf_sub F₂ (Nown.append N₂)) (fun _ s₂ h₂' => wpAny_mono h₂' (fun f s₃ h₃ => ?_) fun e s' x => hE e s' x) fun e s' x => hE e s' x
    have fin : (∃ h'' tk'' m'' news'', s₃ = { s with heap := h'', toks := tk'' } ∧ Fr h₀ env.locals h'' m'' ∧ News h₀ env.locals h'' (PyProof.Rows.ownOf h₀ fp h₂ ++ news'') ∧ (∀ p ∈ news'', p.1 ∉ wr) ∧ J (i + 1) m'' news'') →
        ∃ m₁, m₁ < n + 1 - i ∧ ∃ h'' tk'' m'' news'' j, s₃ = { s with heap := h'', toks := tk'' } ∧ St j h'' ∧ Fr h₀ env.locals h'' m'' ∧ News h₀ env.locals h'' news'' ∧ (∀ p ∈ news'', p.1 ∉ wr) ∧ J j m'' news'' ∧ j ≤ n ∧ m₁ = n + 1 - j := by
      rintro ⟨h₃', tk₃, m₂, news₂, rfl, F₃, N₃, ha₃, hJ₃⟩
      refine ⟨n + 1 - (i + 1), Nat.sub_succ_lt_self _ _ (Nat.lt_succ_of_lt hlt), h₃', tk₃, m₂, news₂, i + 1, rfl, ?_, F₃, N₃.right, ha₃, hJ₃, hlt, rfl⟩
      refine W.frame _ _ _ hst₂ fun b hb o e => ?_
      cases hn : h₀.get? b with
      | some o₀ =>
        have : o₀ = o := by have q := F₂.keep b o₀ hn; rw [e] at q; exact (Option.some.inj q).symm
        exact this ▸ F₃.keep b o₀ hn
      | none => exact (N₃ _ (List.mem_append_left _ (mem_ownOf hb hn e))).1
    cases f with
    | ret v => exact h₃
    | brk => exact h₃
    | cont => exact fin h₃
    | next => exact fin h₃
  · have hin : i = n := Nat.le_antisymm hi (Nat.not_lt.mp hlt)
    subst hin
    refine W.done _ _ _ hst' fun h₁ tk₁ hk₁ => ?_
    obtain ⟨F₁, N₁⟩ := next h₁ hk₁
    exact wpAny_mono (done h₁ tk₁ m' news' F₁ N₁ hnw' hJ) (fun _ _ x => x) fun e s' x => hE e s' x


theorem iter_tupE {ax : Addr} {vs : List Value} {m₀ : Str → Option Value} {news : List (Addr × Obj)} (J : Nat → (Str → Option Value) → List (Addr × Obj) → Prop)
    (hh : A.handled = none) (hl : h₀.IsTuple ax vs.toArray) (F : Fr h₀ env.locals s.heap m₀) (N : News h₀ env.locals s.heap news) (h0 : J 0 m₀ news) (hE : PassesOwn (model prog w) A env E)
    (step : ∀ I i v m₁ news₁ h₁ tk₁ own, vs[i]? = some v → J i m₁ news₁ → (∀ p ∈ news₁, p.1 ≠ I) → (∀ p ∈ own, p.1 = I) →
      Fr h₀ env.locals h₁ m₁ → News h₀ env.locals h₁ (own ++ news₁) →
      wpAny (model prog w) A (assign target env v) (fun _ s₂ => wpAny (model prog w) A (execs body env) (TurnE h₀ env.locals { s with heap := h₁, toks := tk₁ } [I] own (J (i + 1)) Q) E s₂) E { s with heap := h₁, toks := tk₁ })
    (done : ∀ h' tk m' news', Fr h₀ env.locals h' m' → News h₀ env.locals h' news' → J vs.length m' news' → wpAny (model prog w) A (execs orelse env) Q E { s with heap := h', toks := tk }) :
    wpAny (model prog w) A (pyIter (.ref ax)) (fun it s₂ => codeAny (model prog w) A (.forLoop target it body orelse env) (fun r s' => match r with | .ok f => Q f s' | .error e => cameBackBy (model prog w) A env E e s') s₂) E s := by
  obtain ⟨lo, hlo, hc, nn, hd⟩ := id hl
  have hax : s.heap.get? ax = some lo := F.keep _ _ hlo
  have hls : s.heap.IsTuple ax vs.toArray := ⟨lo, hax, hc, nn, hd⟩
  have hlt : ax < s.heap.objs.size := Heap.lt_size hax
  have hne : ax ≠ s.heap.objs.size := Nat.ne_of_lt hlt
  refine wpAny_pyIter_tuple hls ?_
  refine loopE (P := fun i v _ => vs.toArray[i]? = some v) (KTurns.ofWalks (Walks.tuple hh s.heap.objs.size ax hne vs.toArray) fun i v s Q E st q => letGo_tupleiter st.1 q) ?_ ?_ ?_ ?_ (F.push _) (fun p hp => ⟨Heap.get?_push_of_some _ (N p hp).1, (N p hp).2⟩) J h0 hE ?_ ?_
  · intro hI
    rcases List.mem_cons.mp hI with e | hI
    · exact absurd F.ns.lt (e ▸ Nat.lt_irrefl _)
    · have e := List.mem_singleton.mp hI
      have a1 := Heap.lt_size hlo
      have a2 := F.above
      rw [e] at a2
      exact absurd a1 (Nat.not_lt.mpr a2)
  · intro b hb
    rw [List.mem_singleton.mp hb]
    exact next_is_new F
  · intro p hp hI
    exact absurd (Heap.lt_size (N p hp).1) ((List.mem_singleton.mp hI) ▸ Nat.lt_irrefl _)
  · exact ⟨⟨_, Heap.get?_push_size _ rfl, rfl, rfl⟩, hls.at fun o e => Heap.get?_push_of_some _ e⟩
  · intro i v m₁ news₁ h₁ tk₁ own hi hP hJ hoff hown F₁ N₁
    refine step s.heap.objs.size i v m₁ news₁ h₁ tk₁ own (by simpa using hP) hJ (fun p hp e => hoff p hp (by simp [e])) (fun p hp => ?_) F₁ N₁
    have h1 := hown p hp
    rcases List.mem_cons.mp h1 with e | h2
    · exact e
    · have e := List.mem_singleton.mp h2
      have h3 := (N₁ p (List.mem_append_left _ hp)).2.2
      rw [e, hlo] at h3
      cases h3
  · intro h' tk m' news' F' N' _ hJ
    exact done h' tk m' news' F' N' (by simpa using hJ)

theorem nextOf_tup_item {it t : Addr} {i : Nat} {items : Array Value} {x : Value} {Q : Value → Shared → Prop} (hit : s.heap.IsTupleIter it t i) (ht : s.heap.IsTuple t items) (hx : items[i]? = some x)
    (hQ : ∀ h', h'.IsTupleIter it t (i + 1) → Heap.SameBut it s.heap h' → Q x { s with heap := h' }) :
    wpAny (model prog w) A (Builtin.SmallTypes.nextOf (.ref it)) Q E s := by
  obtain ⟨o, ho, hc, hd⟩ := id hit
  obtain ⟨ol, hol, _, nl, hdl⟩ := ht
  unfold Builtin.SmallTypes.nextOf
  refine wpAny_bind (wpAny_callSpecial?_slot (name := Str.ofString "__next__") hit.typeIs F.slot_tuple_iterator_next
    (wpAny_call_entry F.slot_tuple_iterator_next hit.typeIs F.entry_tuple_iterator_next ?_ (F.args_tuple_iterator_next_1 _)))
  show wpAny _ _ (field (.ref it) 0 >>= _) _ _ s
  refine wpAny_bind (wpAny_field ho hd (x := .ref t) rfl ?_)
  show wpAny _ _ (if (Value.ref t == Value.none) = true then _ else _) _ _ s
  rw [if_neg (show ¬ ((Value.ref t == Value.none) = true) from Bool.false_ne_true)]
  show wpAny _ _ (field (.ref it) 1 >>= _) _ _ s
  refine wpAny_bind (wpAny_field ho hd (x := .int i 0) rfl ?_)
  show wpAny _ _ (seqItems? (.ref t) >>= _) _ _ s
  refine wpAny_bind (wpAny_seqItems hol hdl ?_)
  simp only [Int.toNat_natCast, hx]
  refine wpAny_bind (wpAny_setField ho hd (by simp) (wpAny_pure ⟨x, rfl, wpAny_pure (hQ _ ?_ (Heap.SameBut.update ..))⟩))
  exact ⟨_, Heap.get?_update_self _ ho (Obj.isFreed_of_fields (Obj.data_mapFields hd _)), (Obj.cls_mapFields ..).trans hc, by
    rw [Obj.data_mapFields hd]; simp [rawInt]⟩
theorem nextOf_tup_end {it t : Addr} {i : Nat} {items : Array Value} {Q : Value → Shared → Prop} (hh : A.handled = none) (hit : s.heap.IsTupleIter it t i) (ht : s.heap.IsTuple t items) (hx : items[i]? = none)
    (hE : ∀ h' e, Heap.ExtBut it s.heap h' → (∃ o, h'.get? e = some o ∧ o.cls = .type "StopIteration") → E (.ref e) { s with heap := h' }) :
    wpAny (model prog w) A (Builtin.SmallTypes.nextOf (.ref it)) Q E s := by
  obtain ⟨o, ho, hc, hd⟩ := id hit
  obtain ⟨ol, hol, _, nl, hdl⟩ := ht
  unfold Builtin.SmallTypes.nextOf
  refine wpAny_bind (wpAny_callSpecial?_slot (name := Str.ofString "__next__") hit.typeIs F.slot_tuple_iterator_next
    (wpAny_call_entry F.slot_tuple_iterator_next hit.typeIs F.entry_tuple_iterator_next ?_ (F.args_tuple_iterator_next_1 _)))
  show wpAny _ _ (field (.ref it) 0 >>= _) _ _ s
  refine wpAny_bind (wpAny_field ho hd (x := .ref t) rfl ?_)
  show wpAny _ _ (if (Value.ref t == Value.none) = true then _ else _) _ _ s
  rw [if_neg (show ¬ ((Value.ref t == Value.none) = true) from Bool.false_ne_true)]
  show wpAny _ _ (field (.ref it) 1 >>= _) _ _ s
  refine wpAny_bind (wpAny_field ho hd (x := .int i 0) rfl ?_)
  show wpAny _ _ (seqItems? (.ref t) >>= _) _ _ s
  refine wpAny_bind (wpAny_seqItems hol hdl ?_)
  simp only [Int.toNat_natCast, hx]
  refine wpAny_bind (wpAny_rule (wpAny_bind (wpAny_setField ho hd (by simp) ?_)))
  show wpAny _ _ (newExc (.type "StopIteration") [] >>= _) _ _ _
  refine wpAny_bind ?_
  simp only [newExc, newTuple]
  refine wpAny_bind (wpAny_newObj_type ?_ (by size_fits))
  refine wpAny_bind (m := firstArgMember _ _) (wpAny_of_eq (a := Value.none) (by first | rfl | (simp only [firstArgMember]; rfl)) ?_)
  refine wpAny_newObj_type ?_ (by size_fits)
  simp only [raiseNew]
  refine wpAny_bind (wpAny_handled ?_)
  first | rw [show A.in1.handled = none from hh] | rw [hh]
  refine wpAny_bind (wpAny_pure (wpAny_throw ?_))
  exact hE _ _ (((Heap.SameBut.update ..).extBut.push _).push _) ⟨_, Heap.get?_push_size _ rfl, rfl⟩
theorem draws_tup (hh : A.handled = none) (it t : Addr) (hne : t ≠ it) (items : Array Value) :
    Draws prog w A it [it, t] items.size (fun i v => items[i]? = some v) (fun i h => h.IsTupleIter it t i ∧ h.IsTuple t items) where
  live := fun _ _ st => let ⟨o, ho, _⟩ := st.1; ⟨o, ho⟩
  frame := fun _ _ _ st hk => ⟨st.1.at fun o e => hk it (by simp) o e, st.2.at fun o e => hk t (by simp) o e⟩
  item := fun i s Q E hi st hQ => by
    refine nextOf_tup_item st.1 st.2 (x := items[i]) (by simp [hi]) fun h' hit' hs' => ?_
    exact hQ _ h' s.toks (by simp [hi]) ⟨hit', st.2.extBut hs'.extBut hne⟩ hs'
  done := fun s Q E st hE => nextOf_tup_end hh st.1 st.2 (by simp) hE
open AutoSeq1 (wpAny_loadPart') in
theorem meets_enum_tup (l : Addr) (items : Array Value) (n : Nat) (dct : Option Addr) (sl : Array (Option Value)) :
    Meets (Builtin.«enumerate.__new__» ⟨[.type "enumerate", .ref l], []⟩) (fun _ R s => s.heap.get? l = some { cls := .type "tuple", dict := dct, data := .seq items n, slots := sl } ∧
      R (.ok (.ret (.ref (s.heap.push { cls := .type "tuple_iterator", data := .fields #[.ref l, .int 0 0] }).objs.size)))
        { s with heap := (s.heap.push { cls := .type "tuple_iterator", data := .fields #[.ref l, .int 0 0] }).push { cls := .type "enumerate", data := .fields #[.none, .bool false, .ref s.heap.objs.size, rawInt 0, .none, .none] } }) :=
  .of_wp fun prog w A R s h => by
    obtain ⟨hp, g, d, tk, os⟩ := s; obtain ⟨hl, h⟩ := h
    have hsub := sub_enumerate
    have hL : Heap.IsTuple (Shared.heap ⟨hp, g, d, tk, os⟩) l items := ⟨_, hl, rfl, n, rfl⟩
    wp_walk using wpAny_loadPart' hl
    refine wpAny_stack_any fun st => wpAny_pure ?_
    split
    · rename_i c _ _ _ _ _
      cases (c == Value.type "enumerate")
      · wp_walk using wpAny_loadPart' hl, wpAny_pyIter_tuple hL
        exact ⟨_, rfl, h⟩
      · wp_walk using wpAny_loadPart' hl, wpAny_pyIter_tuple hL
        exact ⟨_, rfl, h⟩
    · wp_walk using wpAny_loadPart' hl, wpAny_pyIter_tuple hL
      exact ⟨_, rfl, h⟩
theorem call_enum_tup {l : Addr} {items : Array Value} {Q : Value → Shared → Prop} (hL : s.heap.IsTuple l items)
    (h : ∀ h', IsEnum h' (s.heap.objs.size + 1) s.heap.objs.size 0 .none → h'.IsTupleIter s.heap.objs.size l 0 →
      (∀ b o, s.heap.get? b = some o → h'.get? b = some o) → Q (.ref (s.heap.objs.size + 1)) { s with heap := h' }) :
    wpAny (model prog w) A (call (.type "enumerate") [.ref l]) Q E s := by
  obtain ⟨⟨c, dct, dt, sl⟩, hl, hc, n, hd⟩ := hL
  replace hc : c = .type "tuple" := hc
  replace hd : dt = .seq items n := hd
  subst hc hd
  refine callType_new F.called_enumerate (by decide) (F.typeCall_enumerate_1 _) (F.newCall_enumerate_1 _) (fun obj => F.args_object_init_2 obj _) F.entry_enumerate_new
    (meets_enum_tup l items n dct sl) ⟨hl, ?_⟩
  have hz : (s.heap.push { cls := .type "tuple_iterator", data := .fields #[.ref l, .int 0 0] }).objs.size = s.heap.objs.size + 1 := Heap.size_push ..
  show _ ∧ _
  rw [hz]
  have he : IsEnum ((s.heap.push { cls := .type "tuple_iterator", data := .fields #[.ref l, .int 0 0] }).push
      { cls := .type "enumerate", data := .fields #[.none, .bool false, .ref s.heap.objs.size, rawInt 0, .none, .none] }) (s.heap.objs.size + 1) s.heap.objs.size 0 .none := by
    have := Heap.get?_push_size (s.heap.push { cls := .type "tuple_iterator", data := .fields #[.ref l, .int 0 0] })
      (o := { cls := .type "enumerate", data := .fields #[.none, .bool false, .ref s.heap.objs.size, rawInt 0, .none, .none] }) rfl
    rw [hz] at this; exact this
  exact ⟨⟨_, he, rfl⟩, h _ he ⟨_, Heap.get?_push_of_some _ (Heap.get?_push_size _ rfl), rfl, rfl⟩ fun b o x => Heap.get?_push_of_some _ (Heap.get?_push_of_some _ x)⟩

theorem iter_enumE {elts : List Expr} {kk : Nat} {pos : Pos} {ax : Addr} {vs : List Value} {m₀ : Str → Option Value} {news : List (Addr × Obj)} (J : Nat → (Str → Option Value) → List (Addr × Obj) → Prop)
    (hh : A.handled = none) (hl : h₀.IsTuple ax vs.toArray) (F : Fr h₀ env.locals s.heap m₀) (N : News h₀ env.locals s.heap news) (h0 : J 0 m₀ news) (hE : PassesOwn (model prog w) A env E)
    (step : ∀ I i v T t m₁ news₁ h₁ tk₁ own, vs[i]? = some v → h₁.IsTuple T #[.int (i : Int) t, v] → J i m₁ news₁ → (∀ p ∈ news₁, p.1 ≠ I ∧ p.1 ≠ I + 1) → (∀ p ∈ own, p.1 = I ∨ p.1 = I + 1) →
      Fr h₀ env.locals h₁ m₁ → News h₀ env.locals h₁ (own ++ news₁) →
      wpAny (model prog w) A (assign (.Tuple elts kk pos) env (.ref T)) (fun _ s₂ => wpAny (model prog w) A (execs body env) (TurnE h₀ env.locals { s with heap := h₁, toks := tk₁ } [I + 1, I] own (J (i + 1)) Q) E s₂) E { s with heap := h₁, toks := tk₁ })
    (done : ∀ h' tk m' news', Fr h₀ env.locals h' m' → News h₀ env.locals h' news' → J vs.length m' news' → wpAny (model prog w) A (execs orelse env) Q E { s with heap := h', toks := tk }) :
    wpAny (model prog w) A (call (.type "enumerate") [.ref ax]) (fun xv s₁ => wpAny (model prog w) A (pyIter xv) (fun it s₂ => codeAny (model prog w) A (.forLoop (.Tuple elts kk pos) it body orelse env) (fun r s' => match r with | .ok f => Q f s' | .error e => cameBackBy (model prog w) A env E e s') s₂) E s₁) E s := by
  obtain ⟨lo, hlo, hc, nn, hd⟩ := id hl
  have hax : s.heap.get? ax = some lo := F.keep _ _ hlo
  have hls : s.heap.IsTuple ax vs.toArray := ⟨lo, hax, hc, nn, hd⟩
  have hlt : ax < s.heap.objs.size := Heap.lt_size hax
  have hne : ax ≠ s.heap.objs.size := Nat.ne_of_lt hlt
  have hLs : env.locals < s.heap.objs.size := F.ns.lt
  refine call_enum_tup hls fun h' hE' hI hk => ?_
  refine wpAny_pyIter_enum hE' ?_
  refine loopE (KTurns.ofWalksU (WalksT.enumerateD (draws_tup (A := A.in1) hh s.heap.objs.size ax hne vs.toArray) (s.heap.objs.size + 1) (Nat.succ_ne_self _) ?_ (by simp)).toU) ?_ ?_ ?_ ?_ (F.keeps hk) (N.grown hk) J h0 hE ?_ ?_
  · intro hm
    rcases List.mem_cons.mp hm with e | hm
    · exact Nat.succ_ne_self _ e
    · exact ktu_ne 1 hlt (List.mem_singleton.mp hm).symm
  · intro hm
    have hb' : env.locals = s.heap.objs.size + 1 ∨ env.locals = s.heap.objs.size ∨ env.locals = ax := by simpa using hm
    rcases hb' with e | e | e
    · exact ktu_ne 1 hLs e
    · exact Nat.ne_of_lt hLs e
    · have a1 := Heap.lt_size hlo
      have a2 := F.above
      rw [e] at a2
      exact absurd a1 (Nat.not_lt.mpr a2)
  · intro b hb
    have hb' : b = s.heap.objs.size + 1 ∨ b = s.heap.objs.size := by simpa using hb
    rcases hb' with rfl | rfl
    · exact ktu_new F (Nat.le_add_right _ _)
    · exact ktu_new F (Nat.le_refl _)
  · intro p hp hm
    have hb' : p.1 = s.heap.objs.size + 1 ∨ p.1 = s.heap.objs.size := by simpa using hm
    have hlp := Heap.lt_size (N p hp).1
    rcases hb' with e | e
    · exact ktu_ne 1 hlp e
    · exact Nat.ne_of_lt hlp e
  · exact ⟨⟨.none, hE'⟩, hI, hls.at fun o e => hk ax o e⟩
  · rintro i v m₁ news₁ h₁ tk₁ own hi ⟨T, vals, rfl, ⟨t, x, hx, rfl⟩, hT⟩ hJ hoff hown F₁ N₁
    refine step s.heap.objs.size i x T t m₁ news₁ h₁ tk₁ own (by simpa using hx) hT hJ (fun p hp => ⟨fun e => hoff p hp (by simp [e]), fun e => hoff p hp (by simp [e])⟩) (fun p hp => ?_) F₁ N₁
    have hb' : p.1 = s.heap.objs.size + 1 ∨ p.1 = s.heap.objs.size ∨ p.1 = ax := by simpa using hown p hp
    rcases hb' with e | e | e
    · exact .inr e
    · exact .inl e
    · have h3 := (N₁ p (List.mem_append_left _ hp)).2.2
      rw [e, hlo] at h3
      cases h3
  · intro h' tk m' news' F' N' _ hJ
    exact done h' tk m' news' F' N' (by simpa using hJ)
end
end
section
set_option maxRecDepth 100000
set_option maxHeartbeats 8000000
noncomputable def rowsT : List (List (Int × Nat)) := [[(40960, 108), (49152, 115), (32768, 45), (24576, 98), (16384, 100), (8192, 99), (4096, 112)], [(256, 114)], [(128, 119)], [(2112, 115), (2048, 83), (64, 120)], [(32, 114)], [(16, 119)], [(1032, 115), (1024, 83), (8, 120)], [(4, 114)], [(2, 119)], [(513, 116), (512, 84), (1, 120)]]
noncomputable def hit (mode : Int) (i : Nat) (b : Int) : Bool := if i = 0 then Builtin.bitAnd mode 61440 == b else Builtin.bitAnd mode b == b
noncomputable def sel (mode : Int) (i : Nat) : List (Int × Nat) → Nat
  | [] => if i = 0 then 63 else 45
  | p :: r => if hit mode i p.1 then p.2 else sel mode i r
noncomputable def fmChars (mode : Int) : List Nat := (List.range 10).map fun i => sel mode i (rowsT.getD i [])

noncomputable def PairsAt (h : Heap) : List Value → List (Int × Nat) → Prop
  | [], [] => True
  | v :: vs, p :: ps => (∃ a t t', v = .ref a ∧ h.IsTuple a #[.int p.1 t, .str (sOf [p.2]) t']) ∧ PairsAt h vs ps
  | _, _ => False
noncomputable def tabVs : List Value := [.ref 788, .ref 790, .ref 792, .ref 796, .ref 798, .ref 800, .ref 804, .ref 806, .ref 808, .ref 812]
theorem sOf1 (c : Nat) : sOf [c] = Str.mk #[c] := rfl
theorem tab_at {w : World} {h : Heap} (X : (Mine.K w.params).In h) : h.IsTuple 813 tabVs.toArray := tupK (l := tabVs) X rfl
theorem pairs_at {w : World} {h : Heap} (X : (Mine.K w.params).In h) : ∀ {i : Nat} {v : Value}, tabVs[i]? = some v → ∃ ax as, v = .ref ax ∧ h.IsTuple ax (List.toArray as) ∧ PairsAt h as (rowsT.getD i [])
  | 0, v, e => by cases e; exact ⟨788, [.ref 781, .ref 782, .ref 783, .ref 784, .ref 785, .ref 786, .ref 787], rfl, tupK X rfl, ⟨_, _, _, rfl, tupK (l := [_, _]) X rfl⟩, ⟨_, _, _, rfl, tupK (l := [_, _]) X rfl⟩, ⟨_, _, _, rfl, tupK (l := [_, _]) X rfl⟩, ⟨_, _, _, rfl, tupK (l := [_, _]) X rfl⟩, ⟨_, _, _, rfl, tupK (l := [_, _]) X rfl⟩, ⟨_, _, _, rfl, tupK (l := [_, _]) X rfl⟩, ⟨_, _, _, rfl, tupK (l := [_, _]) X rfl⟩, trivial⟩
  | 1, v, e => by cases e; exact ⟨790, [.ref 789], rfl, tupK X rfl, ⟨_, _, _, rfl, tupK (l := [_, _]) X rfl⟩, trivial⟩
  | 2, v, e => by cases e; exact ⟨792, [.ref 791], rfl, tupK X rfl, ⟨_, _, _, rfl, tupK (l := [_, _]) X rfl⟩, trivial⟩
  | 3, v, e => by cases e; exact ⟨796, [.ref 793, .ref 794, .ref 795], rfl, tupK X rfl, ⟨_, _, _, rfl, tupK (l := [_, _]) X rfl⟩, ⟨_, _, _, rfl, tupK (l := [_, _]) X rfl⟩, ⟨_, _, _, rfl, tupK (l := [_, _]) X rfl⟩, trivial⟩
  | 4, v, e => by cases e; exact ⟨798, [.ref 797], rfl, tupK X rfl, ⟨_, _, _, rfl, tupK (l := [_, _]) X rfl⟩, trivial⟩
  | 5, v, e => by cases e; exact ⟨800, [.ref 799], rfl, tupK X rfl, ⟨_, _, _, rfl, tupK (l := [_, _]) X rfl⟩, trivial⟩
  | 6, v, e => by cases e; exact ⟨804, [.ref 801, .ref 802, .ref 803], rfl, tupK X rfl, ⟨_, _, _, rfl, tupK (l := [_, _]) X rfl⟩, ⟨_, _, _, rfl, tupK (l := [_, _]) X rfl⟩, ⟨_, _, _, rfl, tupK (l := [_, _]) X rfl⟩, trivial⟩
  | 7, v, e => by cases e; exact ⟨806, [.ref 805], rfl, tupK X rfl, ⟨_, _, _, rfl, tupK (l := [_, _]) X rfl⟩, trivial⟩
  | 8, v, e => by cases e; exact ⟨808, [.ref 807], rfl, tupK X rfl, ⟨_, _, _, rfl, tupK (l := [_, _]) X rfl⟩, trivial⟩
  | 9, v, e => by cases e; exact ⟨812, [.ref 809, .ref 810, .ref 811], rfl, tupK X rfl, ⟨_, _, _, rfl, tupK (l := [_, _]) X rfl⟩, ⟨_, _, _, rfl, tupK (l := [_, _]) X rfl⟩, ⟨_, _, _, rfl, tupK (l := [_, _]) X rfl⟩, trivial⟩
  | _ + 10, v, e => by simp [tabVs] at e
noncomputable def FmInv (mode : Int) (D : Addr) (tm : Tok) (news : List (Addr × Obj)) (i : Nat) (m' : Str → Option Value) (news' : List (Addr × Obj)) : Prop :=
  ∃ u us c, m' = kstB u [(Str.ofString "perm", .ref D), (Str.ofString "mode", .int mode tm)] ∧ news' = (D, listOf (List.toArray us) c) :: news ∧ StrsAre us (((fmChars mode).take i).map fun c => sOf [c])
noncomputable def FmIn (mode : Int) (D : Addr) (tm : Tok) (i : Nat) (t : Tok) (us : List Value) (c : Nat) (news : List (Addr × Obj)) (rows : List (Int × Nat)) (j : Nat) (m' : Str → Option Value) (news' : List (Addr × Obj)) : Prop :=
  ∃ u, m' = kstB u [(Str.ofString "perm", .ref D), (Str.ofString "mode", .int mode tm), (Str.ofString "index", .int (i : Int) t)] ∧ news' = (D, listOf (List.toArray us) c) :: news ∧ ∀ j' < j, ∀ p, rows[j']? = some p → hit mode i p.1 = false
theorem pair_of {h : Heap} : ∀ {as : List Value} {rows : List (Int × Nat)} {j : Nat} {v : Value}, PairsAt h as rows → as[j]? = some v → ∃ (p : Int × Nat) (a : Addr) (t t' : Tok), rows[j]? = some p ∧ v = .ref a ∧ h.IsTuple a #[.int p.1 t, .str (sOf [p.2]) t']
  | [], _, _, _, _, e => by simp at e
  | _ :: _, [], _, _, h, _ => h.elim
  | x :: as, p :: rows, 0, v, h, e => by
    obtain ⟨⟨a, t, t', rfl, hT⟩, _⟩ := h
    have : Value.ref a = v := by simpa using e
    subst this
    exact ⟨p, a, t, t', rfl, rfl, hT⟩
  | x :: as, p :: rows, j + 1, v, h, e => by
    simpa using pair_of h.2 (by simpa using e)
theorem sum_signs : ∀ cs : List Nat, ((cs.map fun c => sOf [c]).map (·.length)).sum = cs.length
  | [] => rfl
  | c :: cs => by
    have ih := sum_signs cs
    simp only [List.map_cons, List.sum_cons, List.length_cons]
    rw [ih, len_sOf]
    simp
    lia
theorem signs_fit (cs : List Nat) {n : Nat} (h : cs.length = n ∧ n ≤ 20) : (((cs.take n).map fun c => sOf [c]).map (·.length)).sum + ((cs.take n).map fun c => sOf [c]).length * (Str.ofString "").length ≤ 16777216 := by
  rw [List.take_of_length_le (by lia), sum_signs]
  have : (Str.ofString "").length = 0 := by decide +kernel
  rw [this]
  lia
theorem glue_fold {g : Str} (hg : g.cps = #[]) : ∀ (cs : List Nat) (acc : Array Nat), (cs.map fun c => sOf [c]).foldl (fun acc p => acc ++ g.cps ++ p.cps) acc = acc ++ cs.toArray
  | [], acc => by simp
  | c :: cs, acc => by
    rw [List.map_cons, List.foldl_cons, glue_fold hg cs, hg]
    simp [sOf]
theorem join_signs (cs : List Nat) {n : Nat} (h : cs.length = n) : Txt.join (Str.ofString "") ((cs.take n).map fun c => sOf [c]) = sOf cs := by
  rw [List.take_of_length_le (by lia)]
  have hg : (Str.ofString "").cps = #[] := by decide +kernel
  unfold Txt.join Builtin.Str.glued
  cases cs with
  | nil => rfl
  | cons c cs =>
    rw [List.map_cons, List.drop_succ_cons, List.drop_zero, glue_fold hg]
    simp [sOf]
theorem upd_mid {D : Addr} {o o' : Obj} : ∀ {pre rest : List (Addr × Obj)}, (∀ p ∈ pre, p.1 ≠ D) → (∀ p ∈ rest, p.1 ≠ D) → Upd D o o' (pre ++ (D, o) :: rest) (pre ++ (D, o') :: rest)
  | [], _, _, h => .head h
  | _ :: _, _, h1, h2 => .tail (h1 _ (List.mem_cons_self ..)) (upd_mid (fun p hp => h1 p (List.mem_cons_of_mem _ hp)) h2)
theorem strs_len : ∀ {us : List Value} {ps : List Str}, StrsAre us ps → us.length = ps.length
  | _, _, .nil => rfl
  | _, _, .cons _ _ h => congrArg (· + 1) (strs_len h)
theorem strs_snoc {x : Str} {t : Tok} : ∀ {us : List Value} {ps : List Str}, StrsAre us ps → StrsAre (us ++ [.str x t]) (ps ++ [x])
  | _, _, .nil => .cons _ _ .nil
  | _, _, .cons _ _ h => .cons _ _ (strs_snoc h)
theorem sel_hit {mode : Int} {i : Nat} : ∀ {rows : List (Int × Nat)} {j : Nat} {b : Int} {ch : Nat}, (∀ j' < j, ∀ p, rows[j']? = some p → hit mode i p.1 = false) → rows[j]? = some (b, ch) → hit mode i b = true → sel mode i rows = ch
  | [], _, _, _, _, e, _ => by simp at e
  | p :: rows, 0, b, ch, _, e, h => by
    have : p = (b, ch) := by simpa using e
    subst this
    simp [sel, h]
  | p :: rows, j + 1, b, ch, hno, e, h => by
    have h0 := hno 0 (Nat.succ_pos _) p rfl
    have ih := sel_hit (rows := rows) (j := j) (b := b) (ch := ch) (fun j' hj q hq => hno (j' + 1) (Nat.succ_lt_succ hj) q (by simpa using hq)) (by simpa using e) h
    simp [sel, h0, ih]
theorem sel_none {mode : Int} {i : Nat} : ∀ {rows : List (Int × Nat)}, (∀ j' < rows.length, ∀ p, rows[j']? = some p → hit mode i p.1 = false) → sel mode i rows = if i = 0 then 63 else 45
  | [], _ => rfl
  | p :: rows, hno => by
    have h0 := hno 0 (Nat.succ_pos _) p rfl
    have ih := sel_none (rows := rows) (fun j' hj q hq => hno (j' + 1) (Nat.succ_lt_succ hj) q (by simpa using hq))
    simp [sel, h0, ih]
theorem fm_take {mode : Int} {i : Nat} (h : i < 10) : (fmChars mode).take (i + 1) = (fmChars mode).take i ++ [sel mode i (rowsT.getD i [])] := by
  have e : (fmChars mode)[i]? = some (sel mode i (rowsT.getD i [])) := by simp [fmChars, h]
  rw [List.take_add_one, e]
  rfl
theorem pairs_len {h : Heap} : ∀ {as : List Value} {rows : List (Int × Nat)}, PairsAt h as rows → as.length = rows.length
  | [], [], _ => rfl
  | [], _ :: _, h => h.elim
  | _ :: _, [], h => h.elim
  | _ :: _, _ :: _, h => congrArg (· + 1) (pairs_len h.2)
theorem ifmt_c (w : World) (mean : ExcName → Option Value) (mg mb : Str → Option Value) (x : Int) (tx : Tok) (news : List (Addr × Obj)) :
    CbClaim PySem.Challenge.pw_ny0408_01 w (Mine.K w.params) Mine.vw loose mean mg mb 780 news [] True [.int x tx] (fun t => .int (Builtin.bitAnd x 61440) t) := by
  refine fill ?_
  k_fill
  intro _
  dsimp only [CbClaim, CbLists, CbRet]
  intros
  rename_i hret
  refine wpAny_call ?_
  k_dflt cell_enter
  k_steps
  refine cb_retI hret rfl (by k_asm) (by k_asm)
theorem us_fit {us : List Value} {i : Nat} (h : us.length = i) (hi : i < 10) : us.toArray.size ≤ sizeLine := by
  rw [List.size_toArray, h]
  exact Nat.le_trans (Nat.le_of_lt hi) (Nat.le_of_ble_eq_true rfl)
theorem hit_zero {mode b : Int} {i : Nat} (h : i = 0) (e : Builtin.bitAnd mode 61440 = b) : hit mode i b = true := by simp [hit, h, e]
theorem hit_zero_not {mode b : Int} {i : Nat} (h : i = 0) (e : Builtin.bitAnd mode 61440 ≠ b) : hit mode i b = false := by simp [hit, h, e]
theorem hit_pos {mode b : Int} {i : Nat} (h : i ≠ 0) (e : Builtin.bitAnd mode b = b) : hit mode i b = true := by simp [hit, h, e]
theorem hit_pos_not {mode b : Int} {i : Nat} (h : i ≠ 0) (e : Builtin.bitAnd mode b ≠ b) : hit mode i b = false := by simp [hit, h, e]
theorem hno_succ {mode : Int} {i j : Nat} {rows : List (Int × Nat)} {b : Int} {ch : Nat} (hno : ∀ j' < j, ∀ p, rows[j']? = some p → hit mode i p.1 = false) (hrow : rows[j]? = some (b, ch)) (hh : hit mode i b = false) : ∀ j' < j + 1, ∀ p, rows[j']? = some p → hit mode i p.1 = false := by
  intro j' hj p hp
  rcases Nat.lt_or_ge j' j with h | h
  · exact hno j' h p hp
  · have : j' = j := by lia
    subst this
    rw [hrow] at hp
    cases hp
    exact hh
theorem fm_strs {mode : Int} {i ch : Nat} {us : List Value} {t : Tok} (hi : i < 10) (hS : StrsAre us (((fmChars mode).take i).map fun c => sOf [c])) (e : sel mode i (rowsT.getD i []) = ch) : StrsAre (us ++ [.str (sOf [ch]) t]) (((fmChars mode).take (i + 1)).map fun c => sOf [c]) := by
  rw [fm_take hi, e, List.map_append]
  exact strs_snoc hS
theorem toB_eq {m : Str → Option Value} {ps : List (Str × Value)} (hp : ∀ p ∈ ps, m p.1 = some p.2) : m = kstB m ps := (funext fun z => kstB_eq hp fun _ => rfl).symm
theorem news_snoc {h₀ h : Heap} {L D : Addr} {pre rest : List (Addr × Obj)} {us : List Value} {v : Value} {c : Nat} (N : News h₀ L h (pre ++ (D, listOf (us.toArray.push v) (c + 1)) :: rest)) : News h₀ L h ((D, listOf (List.toArray (us ++ [v])) (c + 1)) :: rest) := by
  rw [List.push_toArray] at N
  exact fun p hp => N p (List.mem_append_right _ hp)
theorem news_snoc0 {h₀ h : Heap} {L D : Addr} {rest : List (Addr × Obj)} {us : List Value} {v : Value} {c : Nat} (N : News h₀ L h ((D, listOf (us.toArray.push v) (c + 1)) :: rest)) : News h₀ L h ((D, listOf (List.toArray (us ++ [v])) (c + 1)) :: rest) := by
  rw [List.push_toArray] at N
  exact N
theorem fm_off {I D : Addr} {us us' : List Value} {c c' : Nat} {news own : List (Addr × Obj)} (hoff : ∀ p ∈ (D, listOf (List.toArray us) c) :: news, p.1 ≠ I ∧ p.1 ≠ I + 1) (_ : ∀ p ∈ own, p.1 = I ∨ p.1 = I + 1) {p : Addr × Obj} (hp : p = (D, listOf (List.toArray us') c') ∨ p ∈ news) (e : p.1 = I + 1 ∨ p.1 = I) : False := by
  have q : p.1 ≠ I ∧ p.1 ≠ I + 1 := by
    rcases hp with rfl | h
    · exact hoff (D, listOf (List.toArray us) c) (List.mem_cons_self ..)
    · exact hoff p (List.mem_cons_of_mem _ h)
  rcases e with e | e
  · exact q.2 e
  · exact q.1 e
theorem fm_c (w : World) (mean : ExcName → Option Value) (mg mb : Str → Option Value) (mode : Int) (tm : Tok) (news : List (Addr × Obj)) :
    MClaim PySem.Challenge.pw_ny0408_01 w (Mine.K w.params) Mine.vw loose mean mg mb 820 news True [.int mode tm] (fun t => .str (sOf (fmChars mode)) t) := by
  refine fill ?_
  k_fill
  intro _
  dsimp only [MClaim, CbRet]
  intros
  rename_i hret
  refine wpAny_call ?_
  k_dflt cell_enter
  k_with_none
  k_with "exec For Tuple Call cons nil" => refine halt ?_
  k_steps
  unfold Halt
  refine wpAny_For ?_
  k_with "call type:enumerate" => refine halt ?_
  k_steps
  unfold Halt
  (rename Fr _ _ _ _ => F1)
  (rename News _ _ _ _ => N1)
  rename_i D hA lA hB
  have F2 := toB [(Str.ofString "perm", .ref D), (Str.ofString "mode", .int mode tm)] F1 (by kst_all)
  (rename Frag.In _ _ => X0)
  refine iter_enumE (fun i m' news' => FmInv mode D tm news i m' news') rfl (tab_at X0) F2 N1 ⟨_, [], _, rfl, rfl, StrsAre.nil⟩ ?_ ?_ ?_
  · k_steps
  · rintro I i v T t m₁ news₁ h₁ tk₁ own hv hT ⟨u, us, c, rfl, rfl, hS⟩ hoff hown F₁ N₁
    obtain ⟨ax, as, rfl, hax, hP⟩ := pairs_at X0 hv
    clear F1 F2 N1
    simp only [kstB] at F₁
    have hi : i < 10 := by
      rcases Nat.lt_or_ge i 10 with h | h
      · exact h
      · rw [List.getElem?_eq_none (by simpa [tabVs] using h)] at hv; cases hv
    have hD4 : ∀ p ∈ own ++ news, p.1 ≠ D := fun p hp e => by
      rcases List.mem_append.mp hp with h | h
      · have q := hoff _ (List.mem_cons_self ..)
        rcases hown p h with z | z
        · exact q.1 (e.symm.trans z)
        · exact q.2 (e.symm.trans z)
      · exact absurd (lA p h) (e ▸ Nat.lt_irrefl _)
    have hus : us.length = i := by
      rw [strs_len hS, List.length_map, List.length_take]
      simp only [fmChars, List.length_map, List.length_range]
      lia
    have Ci : CbC 780 0 (∀ (cbNews : List (Addr × Obj)) (V0 : Int) (T0 : Tok), CbClaim PySem.Challenge.pw_ny0408_01 w (Mine.K w.params) Mine.vw loose mean mg mb 780 cbNews [] True [.int V0 T0] (fun t => .int (Builtin.bitAnd V0 61440) t)) := fun n a b => ifmt_c w mean mg mb a b n
    k_with_none
    k_with "exec For Tuple Name cons cons" => refine halt ?_
    k_steps
    unfold Halt
    refine cutS (σ := List Value × Nat) (by k_asm) (fun q => (D, listOf (List.toArray q.1) q.2) :: (own ++ news)) (fun _ => [(Str.ofString "perm", .ref D), (Str.ofString "mode", .int mode tm)]) (fun q => StrsAre q.1 (((fmChars mode).take (i + 1)).map fun c => sOf [c])) ?_ ?_
    · intro Q' hq
      refine wpAny_For ?_
      k_with_none
      k_with "pyIter ref" => refine halt ?_
      k_steps
      unfold Halt
      (rename Fr _ _ _ _ => F3)
      (rename News _ _ _ _ => N3)
      have F4 := toB [(Str.ofString "perm", .ref D), (Str.ofString "mode", .int mode tm), (Str.ofString "index", .int (i : Int) t)] F3 (by kst_all)
      have N4 := cb_drop (news := (D, listOf (List.toArray us) c) :: (own ++ news)) N3 (fun p hp => by simp only [List.mem_append, List.mem_cons] at hp ⊢; rcases hp with h | h | h <;> simp [h])
      refine iter_tupE (fun j m' news' => FmIn mode D tm i t us c (own ++ news) (rowsT.getD i []) j m' news') rfl hax F4 N4 ⟨_, rfl, rfl, fun j' hj => absurd hj (Nat.not_lt_zero _)⟩ ?_ ?_ ?_
      · k_steps
      · rintro I2 j v m₂ news₂ h₂ tk₂ own₂ hv2 ⟨u2, rfl, rfl, hno⟩ hoff2 hown2 F5 N5
        obtain ⟨⟨bt, ch⟩, a, t4, t5, hrow, rfl, hTa⟩ := pair_of hP hv2
        replace hTa := hTa.at (h' := h₂) fun o e => F5.keep _ o e
        clear F3 F4 N3 N4
        simp only [kstB] at F5
        have hD3 : ∀ p ∈ own₂, p.1 ≠ D := fun p hp e => hoff2 _ (List.mem_cons_self ..) (e.symm.trans (hown2 p hp))
        k_with_none
        k_with "call ref" => k_call_by "S_IFMT" (fun m : Int => Builtin.bitAnd m 61440)
        k_with "call builtin:list.append" => (k_dflt (refine' append_K ?k1 ?k2 ?k3 ?_ ?z; (case k1 => k_asm); (case k2 => k_asm); (case k3 => exact upd_mid hD3 hD4); (case z => exact us_fit hus hi); k_whole); intro h' F' N'; (try k_sweep))
        k_steps
        · have hh : hit mode i bt = true := hit_zero (by lia) (by assumption)
          exact hq (us ++ [.str (sOf [ch]) t5], c + 1) _ _ _ (fm_strs hi hS (sel_hit hno hrow hh)) (toB _ (by k_asm) (by kst_all)) (news_snoc (by k_asm))
        · have hh : hit mode i bt = false := hit_zero_not (by lia) (by assumption)
          exact ⟨_, _, _, _, rfl, by k_asm, by k_asm, fun p hp e => hoff2 p hp (by simpa using e), _, (toB_eq (by kst_all)), rfl, hno_succ hno hrow hh⟩
        · have hh : hit mode i bt = true := hit_pos (by lia) (by assumption)
          exact hq (us ++ [.str (sOf [ch]) t5], c + 1) _ _ _ (fm_strs hi hS (sel_hit hno hrow hh)) (toB _ (by k_asm) (by kst_all)) (news_snoc (by k_asm))
        · have hh : hit mode i bt = false := hit_pos_not (by lia) (by assumption)
          exact ⟨_, _, _, _, rfl, by k_asm, by k_asm, fun p hp e => hoff2 p hp (by simpa using e), _, (toB_eq (by kst_all)), rfl, hno_succ hno hrow hh⟩
      · rintro h' tk m' news' F' N' ⟨u2, rfl, rfl, hno⟩
        simp only [kstB] at F'
        k_with_none
        k_with "call builtin:list.append" => (k_dflt (refine' append_K ?k1 ?k2 ?k3 ?_ ?z; (case k1 => k_asm); (case k2 => k_asm); (case k3 => exact Upd.head hD4); (case z => exact us_fit hus hi); k_whole); intro h' F' N'; (try k_sweep))
        k_steps
        · exact hq (us ++ [.str (sOf [63]) _], c + 1) _ _ _ (fm_strs hi hS ((sel_none (fun j hj => hno j (by rw [pairs_len hP]; exact hj))).trans (if_pos (by lia)))) (toB _ (by k_asm) (by kst_all)) (news_snoc0 (by k_asm))
        · exact hq (us ++ [.str (sOf [45]) _], c + 1) _ _ _ (fm_strs hi hS ((sel_none (fun j hj => hno j (by rw [pairs_len hP]; exact hj))).trans (if_neg (by lia)))) (toB _ (by k_asm) (by kst_all)) (news_snoc0 (by k_asm))
    · rintro ⟨us', c'⟩ u' h' tk' hS' F' N'
      k_with_none
      k_steps
      exact ⟨_, _, _, (D, listOf (List.toArray us') c') :: news, rfl, F', cb_drop N' (fun p hp => by simp only [List.mem_append, List.mem_cons] at hp ⊢; rcases hp with h | h | h <;> simp [h]), fun p hp e => fm_off hoff hown (by simpa using hp) (by simpa using e), _, us', c', rfl, rfl, hS'⟩
  · rintro h' tk m' news' F' N' ⟨u, us, c, rfl, rfl, hS⟩
    clear F1 F2 N1
    simp only [kstB] at F'
    k_with_none
    k_with "call builtin:str.join" => refine halt ?_
    k_steps
    unfold Halt
    refine join_list (News.isList (by k_asm) (.head _)) (by simpa using hS) ?_ ?_
    · exact signs_fit (fmChars mode) (n := tabVs.length) ⟨by simp [fmChars, tabVs], by decide⟩
    · intro t' k
      k_with_none
      k_steps
      refine cb_retS hret ?_ (by k_asm) (by first | k_asm | (refine' cb_drop ?cbN ?cbS; (case cbN => assumption); (case cbS => kcj_all)))
      exact join_signs (fmChars mode) (n := tabVs.length) (by simp [fmChars, tabVs])
end
section
set_option maxRecDepth 100000
noncomputable def patObj : Obj := { cls := .type "re.Pattern", data := .fields #[.str ⟨#[91, 94, 92, 119, 64, 37, 43, 61, 58, 44, 46, 47, 45, 93]⟩ 368, .int 256 405, .int 0 0, .none, .none, .ref 62, .int 0 0] }
noncomputable def codeL : List Nat := [14, 17, 4, 1, 1, 21, 9, 0, 604043296, 1, 0, 0, 0, 0, 0, 8, 4, 0, 13, 14, 21, 9, 0, 604043296, 1, 0, 0, 0, 0, 0, 8, 4, 0, 1]
noncomputable def codeObj : Obj := { cls := .type "tuple", data := .seq (codeL.map fun (n : Nat) => Value.int (n : Int) 0).toArray }
section
variable {prog : Program} {w : World} {A : Around} {E : Value → Shared → Prop} {s : Shared} {x : Str} {t : Tok}
theorem ifF {α : Type} {c : Bool} {a b : Sem α} {Q : α → Shared → Prop} (hc : c = false) (h : wpAny (model prog w) A b Q E s) : wpAny (model prog w) A (if c = true then a else b) Q E s := by
  subst hc
  exact h
theorem named_search : Builtin.Re.reNamed "re.Pattern.search" "search" ["string", "pos", "endpos"] 1 [.str x t] [] = pure [some (.str x t), none, none] := by first | kernel_rfl | rfl
theorem target_search {Q : Builtin.Re.ReTarget → Shared → Prop} (h63 : s.heap.get? 63 = some patObj) (h62 : s.heap.get? 62 = some codeObj)
    (h : Q { pattern := .ref 63, string := .str x t, code := codeL.toArray, text := x.cps, kind := 0, groups := 0, pos := 0, lim := x.cps.size } s) (hx : x.length ≤ 1000) :
    wpAny (model prog w) A (Builtin.Re.reTarget "re.Pattern.search" "search" ⟨[.ref 63, .str x t], []⟩) Q E s := by
  unfold Builtin.Re.reTarget
  dsimp only
  refine wpAny_bind (wpAny_of_eq (a := [some (.str x t), none, none]) named_search ?_)
  dsimp only
  refine wpAny_bind (wpAny_pure ?_)
  refine wpAny_bind (wpAny_pure ?_)
  refine wpAny_bind (wpAny_fieldsOf h63 rfl ?_)
  refine wpAny_bind (wpAny_of_eq (a := (x.cps, 0)) (by first | rfl | kernel_rfl) ?_)
  refine ifF rfl ?_
  refine ifF rfl ?_
  refine wpAny_bind (wpAny_of_eq (a := ()) (by first | rfl | kernel_rfl) ?_)
  refine wpAny_bind ?_
  unfold Builtin.Re.reRawItems
  refine wpAny_bind (wpAny_seqItems h62 rfl ?_)
  refine wpAny_pure (wpAny_pure ?_)
  have e : ∀ {a b : Builtin.Re.ReTarget}, a = b → Q b s → Q a s := fun e q => e ▸ q
  refine e ?_ h
  have hm : min ((2 : Int) ^ 63 - 1).toNat x.cps.size = x.cps.size := by
    have : x.cps.size ≤ 1000 := hx
    lia
  show Builtin.Re.ReTarget.mk _ _ _ _ _ _ _ (min ((2 : Int) ^ 63 - 1).toNat x.cps.size) = _
  rw [hm]
  have hcd : Array.map (fun (x : Int) => x.toNat) (Array.map Builtin.Re.reRawOf ((some (List.map (fun (n : Nat) => Value.int (n : Int) 0) codeL).toArray).getD #[])) = codeL.toArray := by decide +kernel
  rw [hcd]
  show Builtin.Re.ReTarget.mk _ _ _ _ _ _ (min 0 x.cps.size) _ = _
  rw [Nat.zero_min]
  rfl

noncomputable def safe (c : Nat) : Bool := (decide (c < 256) && (codeL.toArray.getD (6 + (1 + c / 32)) 0).testBit (c % 32)) || Sre.isWord c
theorem inSet5 (c : Nat) (seen : Sre.Seen) : ∃ seen', Sre.inSet codeL.toArray c codeL.toArray.size 5 true seen = .ok (!safe c, seen') := by
  have e1 : Sre.inSet codeL.toArray c codeL.toArray.size 5 true seen = Sre.inSet codeL.toArray c 33 6 false (seen.add 21) := rfl
  have e2 : ∀ sn, Sre.inSet codeL.toArray c 33 6 false sn = if (decide (c < 256) && (codeL.toArray.getD (6 + (1 + c / 32)) 0).testBit (c % 32)) = true then .ok (false, sn.add 9) else Sre.inSet codeL.toArray c 32 15 false (sn.add 9) := fun _ => rfl
  have e3 : ∀ sn, Sre.inSet codeL.toArray c 32 15 false sn = if (Sre.isWord c != false) = true then .ok (false, (sn.add 8).add 59) else Sre.inSet codeL.toArray c 31 17 false ((sn.add 8).add 59) := fun _ => rfl
  have e4 : ∀ sn, Sre.inSet codeL.toArray c 31 17 false sn = .ok (true, sn.add 0) := fun _ => rfl
  rw [e1, e2]
  unfold safe
  cases h1 : (decide (c < 256) && (codeL.toArray.getD (6 + (1 + c / 32)) 0).testBit (c % 32)) with
  | true => exact ⟨_, rfl⟩
  | false =>
    simp only [Bool.false_eq_true, if_false]
    rw [e3]
    cases h2 : Sre.isWord c with
    | true => exact ⟨_, rfl⟩
    | false => simp only [bne_self_eq_false, Bool.false_eq_true, if_false]; rw [e4]; exact ⟨_, rfl⟩
theorem admit_none {m : Sre.M} (hc : m.code = codeL.toArray) : ∀ (fuel st : Nat) (seen : Sre.Seen), (∀ k, st ≤ k → k < m.lim → safe (m.text.getD k 0) = true) → ∃ seen', m.admitted fuel st seen = .ok (none, seen')
  | 0, _, seen, _ => ⟨seen, rfl⟩
  | fuel + 1, st, seen, h => by
    unfold Sre.M.admitted
    by_cases hs : st ≥ m.lim
    · rw [if_pos hs]; exact ⟨_, rfl⟩
    · rw [if_neg hs, hc]
      obtain ⟨s1, e⟩ := inSet5 (m.text.getD st 0) seen
      rw [e, h st (Nat.le_refl _) (by lia)]
      exact admit_none hc fuel (st + 1) s1 fun k hk hl => h k (by lia) hl
theorem attempt_none {m : Sre.M} (hc : m.code = codeL.toArray) (hf : m.frames = []) (ho : m.outcome = none) (h : ∀ k, k < m.lim → safe (m.text.getD k 0) = true) : ((m.attemptFrom 0 true).runFor 4).outcome = some .failed := by
  have hh : m.hasFirstSet = true := by
    unfold Sre.M.hasFirstSet
    rw [hc]
    rfl
  obtain ⟨sn, e⟩ := admit_none hc (m.lim + 1 - 0) 0 m.seen fun k _ hk => h k hk
  unfold Sre.M.attemptFrom
  rw [hh, e]
  simp only [Bool.not_true, Bool.false_eq_true, if_false]
  have e1 : (Sre.M.say { m with seen := sn } false).step = { (Sre.M.say { m with seen := sn } false) with outcome := some .failed } := by
    unfold Sre.M.step
    simp [Sre.M.say, ho, hf]
  have e0 : (Sre.M.say { m with seen := sn } false).outcome.isSome = false := by simp [Sre.M.say, ho]
  rw [Sre.M.runFor, if_neg (by rw [e0]; exact Bool.false_ne_true), e1]
  rfl
theorem search_none (h : ∀ c ∈ cl x, safe c = true) : ((Sre.forSearch codeL.toArray x.cps 0 0 x.cps.size false).runFor 4).outcome = some .failed := by
  unfold Sre.forSearch
  dsimp only
  split
  · rfl
  · exact attempt_none rfl rfl rfl fun k hk => h _ (by
      have hk' : k < x.cps.size := hk
      show x.cps.getD k 0 ∈ _
      simp [cl, hk'])
theorem wp_rules (f : Nat → Bool) (g : Nat → String) {Q : PUnit → Shared → Prop} (h : Q ⟨⟩ s) : ∀ (l : List Nat), wpAny (model prog w) A (forIn l PUnit.unit fun i (_ : PUnit) => if f i = true then do rule (g i); pure (ForInStep.yield PUnit.unit) else pure (ForInStep.yield PUnit.unit)) Q E s
  | [] => by
    rw [List.forIn_nil]
    exact wpAny_pure h
  | i :: l => by
    rw [List.forIn_cons]
    refine wpAny_bind ?_
    cases f i with
    | true => exact wpAny_bind (wpAny_rule (wpAny_pure (wp_rules f g h l)))
    | false => exact wpAny_pure (wp_rules f g h l)
theorem drive {m : Sre.M} {o : Sre.Outcome} (h : (m.runFor 4).outcome = some o) : Builtin.Re.reDrive (2 ^ 64) m = pure (m.runFor 4) := by
  show Builtin.Re.reDrive (18446744073709551615 + 1) m = _
  unfold Builtin.Re.reDrive
  show (if (m.runFor 4).outcome.isSome = true then pure (m.runFor 4) else _) = _
  rw [h]
  rfl
theorem run_none {m : Sre.M} {Q : Option Sre.M → Shared → Prop} (h : (m.runFor 4).outcome = some .failed) (hQ : Q none s) : wpAny (model prog w) A (Builtin.Re.reRunToEnd m) Q E s := by
  unfold Builtin.Re.reRunToEnd
  refine wpAny_bind (wpAny_of_eq (drive h) ?_)
  refine wpAny_bind (wp_rules (fun i => (m.runFor 4).seen.has i) (fun i => Sre.names.getD i "") ?_ _)
  rw [h]
  exact wpAny_pure hQ
theorem run_some {m : Sre.M} {Q : Option Sre.M → Shared → Prop} (h : (m.runFor 4).outcome = some .matched) (hQ : Q (some (m.runFor 4)) s) : wpAny (model prog w) A (Builtin.Re.reRunToEnd m) Q E s := by
  unfold Builtin.Re.reRunToEnd
  refine wpAny_bind (wpAny_of_eq (drive h) ?_)
  refine wpAny_bind (wp_rules (fun i => (m.runFor 4).seen.has i) (fun i => Sre.names.getD i "") ?_ _)
  rw [h]
  exact wpAny_pure hQ
theorem inSet20 (c : Nat) (seen : Sre.Seen) : ∃ seen', Sre.inSet codeL.toArray c codeL.toArray.size 20 true seen = .ok (!safe c, seen') := by
  have e1 : Sre.inSet codeL.toArray c codeL.toArray.size 20 true seen = Sre.inSet codeL.toArray c 33 21 false (seen.add 21) := rfl
  have e2 : ∀ sn, Sre.inSet codeL.toArray c 33 21 false sn = if (decide (c < 256) && (codeL.toArray.getD (21 + (1 + c / 32)) 0).testBit (c % 32)) = true then .ok (false, sn.add 9) else Sre.inSet codeL.toArray c 32 30 false (sn.add 9) := fun _ => rfl
  have e3 : ∀ sn, Sre.inSet codeL.toArray c 32 30 false sn = if (Sre.isWord c != false) = true then .ok (false, (sn.add 8).add 59) else Sre.inSet codeL.toArray c 31 32 false ((sn.add 8).add 59) := fun _ => rfl
  have e4 : ∀ sn, Sre.inSet codeL.toArray c 31 32 false sn = .ok (true, sn.add 0) := fun _ => rfl
  have e5 : (decide (c < 256) && (codeL.toArray.getD (21 + (1 + c / 32)) 0).testBit (c % 32)) = (decide (c < 256) && (codeL.toArray.getD (6 + (1 + c / 32)) 0).testBit (c % 32)) := by
    by_cases hc : c < 256
    · have key : ∀ q : Fin 8, codeL.toArray.getD (21 + (1 + q.1)) 0 = codeL.toArray.getD (6 + (1 + q.1)) 0 := by decide
      rw [key ⟨c / 32, by lia⟩]
    · simp [hc]
  rw [e1, e2, e5]
  unfold safe
  cases h1 : (decide (c < 256) && (codeL.toArray.getD (6 + (1 + c / 32)) 0).testBit (c % 32)) with
  | true => exact ⟨_, rfl⟩
  | false =>
    simp only [Bool.false_eq_true, if_false]
    rw [e3]
    cases h2 : Sre.isWord c with
    | true => exact ⟨_, rfl⟩
    | false => simp only [bne_self_eq_false, Bool.false_eq_true, if_false]; rw [e4]; exact ⟨_, rfl⟩
theorem admit_some {m : Sre.M} (hc : m.code = codeL.toArray) : ∀ (fuel st : Nat) (seen : Sre.Seen), m.lim < fuel + st → (∃ k, st ≤ k ∧ k < m.lim ∧ safe (m.text.getD k 0) = false) → ∃ k seen', k < m.lim ∧ safe (m.text.getD k 0) = false ∧ m.admitted fuel st seen = .ok (some k, seen')
  | 0, st, seen, hl, ⟨k, h1, h2, _⟩ => by lia
  | fuel + 1, st, seen, hl, ⟨k, h1, h2, h3⟩ => by
    unfold Sre.M.admitted
    rw [if_neg (by lia), hc]
    obtain ⟨s1, e⟩ := inSet5 (m.text.getD st 0) seen
    rw [e]
    cases hs : safe (m.text.getD st 0) with
    | false => exact ⟨st, s1, by lia, hs, rfl⟩
    | true =>
      have hne : st ≠ k := fun e => by rw [e, h3] at hs; cases hs
      exact admit_some hc fuel (st + 1) s1 (by lia) ⟨k, by lia, h2, h3⟩
theorem attempt_some {m : Sre.M} (hc : m.code = codeL.toArray) (hpc : m.pc = 18) (hf : m.frames = []) (ho : m.outcome = none) (ha : m.answer = none) (hw : m.weight = 0) (hwt : m.wholeText = false) (h : ∃ k, k < m.lim ∧ safe (m.text.getD k 0) = false) : ((m.attemptFrom 0 true).runFor 4).outcome = some .matched := by
  have hh : m.hasFirstSet = true := by
    unfold Sre.M.hasFirstSet
    rw [hc]
    rfl
  obtain ⟨k0, h1, h2⟩ := h
  obtain ⟨k, sn, hk, hs, e⟩ := admit_some hc (m.lim + 1 - 0) 0 m.seen (by lia) ⟨k0, Nat.zero_le _, h1, h2⟩
  unfold Sre.M.attemptFrom
  rw [hh, e]
  clear e hh
  obtain ⟨code, text, lim, start, lastStart, wholeText, mustAdvance, pc, pos, handed, outermost, marks, lastmark, lastindex, loops, inner, frames, weight, answer, seen, outcome⟩ := m
  dsimp only at hc hpc hf ho ha hw hwt h1 h2 hk hs
  subst hc hpc hf ho ha hw hwt
  obtain ⟨s2, e2⟩ := inSet20 (text.getD k 0) (sn.add 13)
  rw [hs] at e2
  have acc : Sre.accepts codeL.toArray 18 (text.getD k 0) (sn.add 13) = .ok (true, s2) := e2
  let F0 : Sre.Frame := { wait := .nextStart, pc := 18, pos := k, outermost := true }
  let M0 : Sre.M := { code := codeL.toArray, text := text, lim := lim, start := k, lastStart := lastStart, wholeText := false, mustAdvance := false, pc := 18, pos := k, handed := k, outermost := true, marks := marks, lastmark := -1, lastindex := -1, loops := loops, inner := inner, frames := [F0], weight := 1, answer := none, seen := sn, outcome := none }
  show (Sre.M.runFor 4 M0).outcome = _
  have st1 : M0.step = (if k ≥ lim then Sre.M.say { M0 with seen := sn.add 13 } false else match Sre.accepts codeL.toArray 18 (text.getD k 0) (sn.add 13) with
      | .error why => Sre.M.stick { M0 with seen := sn.add 13 } why
      | .ok (false, seen) => Sre.M.say { M0 with seen := seen } false
      | .ok (true, seen) => { M0 with seen := seen, pc := 33, pos := k + 1 }) := rfl
  rw [if_neg (by lia), acc] at st1
  show (Sre.M.runFor 3 M0.step).outcome = _
  rw [st1]
  rfl
theorem search_some (h : ∃ c ∈ cl x, safe c = false) (hx : 0 < x.cps.size) : ((Sre.forSearch codeL.toArray x.cps 0 0 x.cps.size false).runFor 4).outcome = some .matched := by
  unfold Sre.forSearch
  dsimp only
  rw [if_neg (by
    intro q
    have q' : x.cps.size < (Sre.header codeL.toArray).fst := by simpa using q
    have hd : (Sre.header codeL.toArray).fst = 1 := rfl
    rw [hd] at q'
    lia)]
  refine attempt_some rfl rfl rfl rfl rfl rfl rfl ?_
  obtain ⟨c, hc, hs⟩ := h
  obtain ⟨k, hk, e⟩ := List.getElem_of_mem hc
  refine ⟨k, show k < x.cps.size from by simpa [cl] using hk, ?_⟩
  show safe (x.cps.getD k 0) = false
  have hk' : k < x.cps.size := by simpa [cl] using hk
  have e' : x.cps.getD k 0 = c := by rw [← e]; simp [cl, hk']
  rw [e']
  exact hs
theorem tree_search_none {P : Fin → Shared → Prop} (h63 : s.heap.get? 63 = some patObj) (h62 : s.heap.get? 62 = some codeObj) (hx : x.length ≤ 1000) (hs : ∀ c ∈ cl x, safe c = true)
    (h : P (.done (.ret .none)) s) : wpAny (model prog w) A (Builtin.«re.Pattern.search» ⟨[.ref 63, .str x t], []⟩) P E s := by
  unfold Builtin.«re.Pattern.search»
  refine wpAny_bind (target_search h63 h62 ?_ hx)
  unfold Builtin.Re.reAnswer
  refine wpAny_bind (run_none (search_none hs) ?_)
  exact wpAny_pure h
theorem tree_search_some {P : Fin → Shared → Prop} (h63 : s.heap.get? 63 = some patObj) (h62 : s.heap.get? 62 = some codeObj) (hx : x.length ≤ 1000) (hs : ∃ c ∈ cl x, safe c = false)
    (h : ∀ a h', (∀ b o, s.heap.get? b = some o → h'.get? b = some o) → P (.done (.ret (.ref a))) { s with heap := h' }) : wpAny (model prog w) A (Builtin.«re.Pattern.search» ⟨[.ref 63, .str x t], []⟩) P E s := by
  have hx0 : 0 < x.cps.size := by
    obtain ⟨c, hc, _⟩ := hs
    have := List.length_pos_of_mem hc
    simpa [cl] using this
  unfold Builtin.«re.Pattern.search»
  refine wpAny_bind (target_search h63 h62 ?_ hx)
  unfold Builtin.Re.reAnswer
  refine wpAny_bind (run_some (search_some hs hx0) ?_)
  dsimp only
  unfold Builtin.Re.reNewMatch
  generalize (Sre.M.runFor 4 (Sre.forSearch codeL.toArray x.cps 0 0 x.cps.size false)) = m
  refine wpAny_bind ?_
  dsimp only
  refine ifF rfl ?_
  refine wpAny_bind ?_
  simp only [newTuple, newFields]
  refine wpAny_newObj_type ?_ (Nat.le_of_ble_eq_true rfl)
  refine wpAny_newObj_type ?_ (Nat.le_of_ble_eq_true rfl)
  exact wpAny_pure (h _ _ fun b o e => Heap.get?_push_of_some _ (Heap.get?_push_of_some _ e))
noncomputable def boundS : Obj := { cls := .type "builtin_function_or_method", data := .fields #[.builtin "re.Pattern.search", .ref 63] }
theorem callWith_S {pos : Pos} {u : Addr} {first : List Value} {args : List (Bool × Sem Value)} {Q : Value → Shared → Prop} (hplain : args.any (·.1) = false)
    (h : wpAny (model prog w) A (evalArgs (.ref u) true args []) (fun x s₁ => s₁.heap.get? u = some boundS ∧ wpAny (model prog w) A (call (.ref u) (first ++ x.pos) x.kw) Q E s₁) E s) : wpAny (model prog w) A (callWith pos (.ref u) first args []) Q E s := by
  unfold callWith
  refine wpAny_bind (wpAny_holding (wpAny_mono h (fun x s₁ h₁ => wpAny_bind (wpAny_standAt ?_)) fun _ _ x => x))
  obtain ⟨ho, hcall⟩ := h₁
  simp only [hplain, List.any_nil, Bool.or_false]
  refine wpAny_bind (m := keeperOf (.ref u)) ?_
  unfold keeperOf
  refine wpAny_bind (wpAny_load ho ?_)
  simp only [boundS, show (Value.type "builtin_function_or_method" != Value.type "method") = true by decide, show (Value.type "builtin_function_or_method" == Value.type "builtin_function_or_method" || Value.type "builtin_function_or_method" == Value.type "method-wrapper") = true by decide, if_true]
  refine wpAny_pure ?_
  exact wpAny_bind (wpAny_mono hcall (fun r s₂ hr => wpAny_bind (wpAny_holding (wpAny_point (wpAny_pure hr)))) fun _ _ x => x)
end
end
section
set_option maxRecDepth 100000
section
variable {prog : Program} {w : World} {A : Around} {E : Value → Shared → Prop} {s : Shared} {x : Str} {t : Tok}
noncomputable def sigS : Manifest.Signature := (Manifest.signature? "re.Pattern.search").get (by decide +kernel)
theorem sig_S : Manifest.signature? "re.Pattern.search" = some sigS := by kernel_rfl
theorem kind_S : builtinKind "re.Pattern.search" = some .method := by decide +kernel
theorem var_S : Manifest.varargsMethods.contains "re.Pattern.search" = false := by decide +kernel
theorem args_S : Bind.checkArgs "re.Pattern.search" { sigS with full := s!"{Bind.lastOf "re.Pattern"}.{Bind.lastOf "re.Pattern.search"}" } ⟨[.ref 63, .str x t], []⟩ = pure () := by kernel_rfl
theorem check_S {Q : Unit → Shared → Prop} (h63 : s.heap.get? 63 = some patObj) (h : Q () s) : wpAny (model prog w) A (checkBoundCall "re.Pattern.search" ⟨[.ref 63, .str x t], []⟩) Q E s := by
  have hT : s.TypeIs (.ref 63) "re.Pattern" := ⟨_, h63, rfl⟩
  unfold checkBoundCall
  rw [sig_S, kind_S]
  simp only [var_S, Bool.false_or]
  refine ifF (by decide) ?_
  refine wpAny_bind (wpAny_isInstance hT (b := false) (by rw [isSubtype_type]; kernel_rfl) ?_)
  refine ifF rfl ?_
  refine wpAny_bind ?_
  refine wpAny_mono (Q := fun b s' => b = false ∧ s' = s) (E := E) ?_ (fun b s' hb => ?_) (fun _ _ z => z)
  · unfold isType
    exact wpAny_bind (wpAny_loadPart h63 (wpAny_pure ⟨rfl, rfl⟩))
  · obtain ⟨rfl, rfl⟩ := hb
    refine ifF rfl ?_
    refine wpAny_bind (wpAny_typeOf hT ?_)
    exact wpAny_of_eq args_S h
theorem entry_S : entryFor table "re.Pattern.search" = some Builtin.«re.Pattern.search» := entryFor_of_tree (by kernel_rfl)
theorem quiet_S {as : Args} : (Code.builtin "re.Pattern.search" as).quiet = true := Code.quiet_builtin _ (by decide +kernel)
theorem call_S {u : Addr} {Q : Value → Shared → Prop} (ho : s.heap.get? u = some boundS) (h63 : s.heap.get? 63 = some patObj)
    (h : ∀ (A' : Around) (P : Fin → Shared → Prop) (E' : Value → Shared → Prop), (∀ v s', Q v s' → P (.done (.ret v)) s') → wpAny (model prog w) A' (Builtin.«re.Pattern.search» ⟨[.ref 63, .str x t], []⟩) P E' s) : wpAny (model prog w) A (call (.ref u) [.str x t]) Q E s := by
  refine wpAny_call (codeAny_of_tree ?_)
  show wpAny _ A.in1 (callAny (.ref u) ⟨[.str x t], []⟩) _ _ s
  simp only [callAny]
  refine wpAny_bind (wpAny_load ho ?_)
  simp only [boundS, show (Value.type "builtin_function_or_method" == Value.type "method" || Value.type "builtin_function_or_method" == Value.type "builtin_function_or_method" || Value.type "builtin_function_or_method" == Value.type "method-wrapper") = true by decide, if_true]
  refine W.KFB.if_so (by decide) ?_
  refine wpAny_bind (check_S h63 ?_)
  refine wpAny_bind (wpAny_pure (wpAny_pure ?_))
  exact ⟨quiet_S, codeAny_builtin entry_S (h _ _ _ fun v s' q => q)⟩
theorem call_none {u : Addr} {Q : Value → Shared → Prop} (ho : s.heap.get? u = some boundS) (h63 : s.heap.get? 63 = some patObj) (h62 : s.heap.get? 62 = some codeObj) (hx : x.length ≤ 1000) (hs : ∀ c ∈ cl x, safe c = true)
    (h : Q .none s) : wpAny (model prog w) A (call (.ref u) [.str x t]) Q E s :=
  call_S ho h63 fun _ _ _ k => tree_search_none h63 h62 hx hs (k _ _ h)
theorem call_some {u : Addr} {Q : Value → Shared → Prop} (ho : s.heap.get? u = some boundS) (h63 : s.heap.get? 63 = some patObj) (h62 : s.heap.get? 62 = some codeObj) (hx : x.length ≤ 1000) (hs : ∃ c ∈ cl x, safe c = false)
    (h : ∀ a h', (∀ b o, s.heap.get? b = some o → h'.get? b = some o) → Q (.ref a) { s with heap := h' }) : wpAny (model prog w) A (call (.ref u) [.str x t]) Q E s :=
  call_S ho h63 fun _ _ _ k => tree_search_some h63 h62 hx hs fun a h' hk => k _ _ (h a h' hk)
end
end
section
set_option maxRecDepth 100000
set_option maxHeartbeats 8000000
noncomputable def quoteS (x : Str) : Str := if x.length = 0 then Str.ofString "''" else if (cl x).all safe then x else Str.ofString "'" ++ Txt.replace x (Str.ofString "'") (Str.ofString "'\"'\"'") ++ Str.ofString "'"
theorem find_at {w : World} {h : Heap} (X : (Mine.K w.params).In h) : h.get? 766 = some boundS ∧ h.get? 63 = some patObj ∧ h.get? 62 = some codeObj := ⟨X _ _ rfl, X _ _ rfl, X _ _ rfl⟩
theorem find_K {prog : Program} {w : World} {A : Around} {E : Value → Shared → Prop} {s : Shared} {x : Str} {t : Tok} {h₀ : Heap} {L : Addr} {m : Str → Option Value} {news : List (Addr × Obj)} {pos : Pos} {e : Expr} {env : Env} {Q : Value → Shared → Prop}
    (X : (Mine.K w.params).In h₀) (F : Fr h₀ L s.heap m) (N : News h₀ L s.heap news) (hx : x.length ≤ 500)
    (he : ∀ Q' : Value → Shared → Prop, Q' (.str x t) s → wpAny (model prog w) A (eval e env) Q' E s)
    (h1 : (cl x).all safe = true → Q .none s)
    (h2 : (cl x).all safe = false → ∀ a h', Fr h₀ L h' m → News h₀ L h' news → Q (.ref a) { s with heap := h' })
    (hs : starEach [e] env = [(false, eval e env)] := by rfl) :
    wpAny (model prog w) A (callWith pos (.ref 766) [] (backTo pos (starEach [e] env)) []) Q E s := by
  rw [hs]
  obtain ⟨a1, a2, a3⟩ := find_at X
  have b1 := F.keep _ _ a1
  have b2 := F.keep _ _ a2
  have b3 := F.keep _ _ a3
  refine callWith_S rfl (Calls.evalArgs_plain (Calls.spliced_cons ?_))
  refine he _ ?_
  refine Calls.spliced_nil ⟨b1, ?_⟩
  cases hc : (cl x).all safe
  · refine call_some b1 b2 b3 (by lia) (by obtain ⟨c, h1, h2⟩ := List.all_eq_false.1 hc; exact ⟨c, h1, by simpa using h2⟩) fun a h' hk => h2 hc a h' (F.keeps hk) (N.grown hk)
  · exact call_none b1 b2 b3 (by lia) (List.all_eq_true.1 hc) (h1 hc)
noncomputable abbrev envY (qn : Str) (cs : Scope) (L gl : Addr) (fn : Option Addr) (ccd : Value) (cl : List (Str × Addr)) (bi : Addr) : Env := { scope := cs, locals := L, globals := gl, cells := cl, qual := qn, func := fn, code := ccd, frame := some L, builtins := bi }
noncomputable abbrev GClaim (prog : Program) (w : World) (K : Frag) (p : Program) (loose : List Str) (mean : ExcName → Option Value) (mg mb : Str → Option Value) (f : Addr) (news : List (Addr × Obj)) (pre : Prop) (vs : List Value) (R : Tok → Value) : Prop :=
  ∀ (dp un : Nat) (gd : Option (List Code)) (qn : Str) (cs : Scope) (gl : Addr) (fn : Option Addr) (ccd : Value) (cl : List (Str × Addr)) (bi : Addr) (outer : List Env) (A₀ : Around) (base h₀ : Heap) (L : Addr) (m : Str → Option Value) (s : Shared) (Q E : Value → Shared → Prop),
    Below A₀ base outer h₀ → Fr h₀ L s.heap m → K.In h₀ → News h₀ L s.heap news → Top p loose mean mg mb h₀ → cs.kind = .function →
    pre → dp + 40 < recursionLimit → un + 400 < cLine → CbRet h₀ L m news s Q R →
      wpAny (model prog w) { handled := none, depth := dp, frames := some (envY qn cs L gl fn ccd cl bi :: outer), guards := gd, units := un } (call (.ref f) vs) Q E s
theorem quote_c (w : World) (mean : ExcName → Option Value) (mg mb : Str → Option Value) (x : Str) (tx : Tok) (news : List (Addr × Obj)) :
    GClaim PySem.Challenge.pw_ny0408_01 w (Mine.K w.params) Mine.vw loose mean mg mb 773 news (x.length ≤ 500 ∧ ((cl x).all safe = true ∨ (Txt.replace x (Str.ofString "'") (Str.ofString "'\"'\"'")).length ≤ 5000)) [.str x tx] (fun t => .str (quoteS x) t) := by
  refine fill ?_
  k_fill
  intro _
  dsimp only [GClaim, CbRet]
  intros
  rename_i hret
  rename_i hpre _ _
  obtain ⟨hx, hy⟩ := hpre
  refine wpAny_call ?_
  k_dflt cell_enter
  k_with_none
  k_with "callWith ref" => refine halt ?_
  k_steps
  rotate_left
  · refine cb_retS hret (by have : x.length = 0 := by lia
                            simp [quoteS, this]) (by k_asm) (by first | k_asm | (refine' cb_drop ?cbN ?cbS; (case cbN => assumption); (case cbS => kcj_all)))
  unfold Halt
  refine' find_K (x := x) (t := tx) ?X ?F ?N ?hx ?he ?h1 ?h2
  case X => assumption
  case F => assumption
  case N => assumption
  case hx => assumption
  case he => 
    intro Q' hQ'
    k_steps
    exact hQ'
  case h1 =>
    intro hs
    k_steps
    refine cb_retS hret (by have : ¬ x.length = 0 := by lia
                            simp only [quoteS, this, hs, if_false, if_true]) (by k_asm) (by first | k_asm | (refine' cb_drop ?cbN ?cbS; (case cbN => assumption); (case cbS => kcj_all)))
  case h2 =>
    intro hs a h' F N
    have hz : (Txt.replace x (Str.ofString "'") (Str.ofString "'\"'\"'")).length ≤ 5000 := by
      rcases hy with h | h
      · rw [hs] at h; exact absurd h (by decide)
      · exact h
    clear hy
    k_steps
    refine cb_retS hret (by have : ¬ x.length = 0 := by lia
                            simp only [quoteS, this, hs, if_false, Bool.false_eq_true]) (by k_asm) (by first | k_asm | (refine' cb_drop ?cbN ?cbS; (case cbN => assumption); (case cbS => kcj_all)))
end
section
set_option maxRecDepth 100000
section
variable {prog : Program} {w : World} {A : Around}
noncomputable abbrev allT : Nat → Bool := fun _ => true
noncomputable def KB (C : Addr) (s s' : Shared) : Prop := ∃ h tk, s' = { s with heap := h, toks := tk } ∧ (∀ b o, b ≠ C → s.heap.get? b = some o → h.get? b = some o) ∧ ∃ m, h.Ns C m
noncomputable def EltF (prog : Program) (w : World) (cenv : Env) (x : Str) (elt : Expr) (fp wr : List Addr) (P : Nat → Value → Prop) (F : Nat → Value → Prop) (href : Heap) (fr : Option (List Env)) (D U : Nat) : Prop :=
  ∀ (A' : Around) E' i v (s₂ : Shared) m₂, A'.handled = none → A'.frames = fr → A'.depth ≤ D → A'.units ≤ U → P i v → s₂.heap.Ns cenv.locals m₂ → m₂ x = some v → (∀ b ∈ fp, b ∉ wr → ∀ o, href.get? b = some o → s₂.heap.get? b = some o) →
    wpAny (model prog w) A' (eval elt cenv) (fun y s₃ => F i y ∧ KB cenv.locals s₂ s₃) E' s₂
theorem loopF {elt iter : Expr} {x : Str} {px : Pos} {scope : Scope} {pos : Pos} {I : Addr} {fp wr : List Addr} {n₀ : Nat} {P : Nat → Value → Prop} {St₀ : Nat → Heap → Prop} {cenv : Env} {fr : List Env}
    (hh : A.handled = none) (hf : A.frames = some fr) (W₀ : ∀ A' : Around, A'.handled = none → Walks prog w A' I fp wr n₀ P St₀) (F : Nat → Value → Prop) (href : Heap)
    (hx : cenv.kindOf x = some .local) (hp : (cenv.scope.kind == .class || (cenv.scope.kind == .module && cenv.locals != cenv.globals)) = false)
    (hco : cenv.scope.isCoroutine = false) (hCf : cenv.locals ∉ fp) (hq : EltF prog w cenv x elt fp wr P F href (some (cenv :: fr)) (A.depth + 1) (A.units + 3)) :
    ∀ (k i : Nat) (s₀ s : Shared) (m : Str → Option Value), n₀ - i = k → i ≤ n₀ → St₀ i s.heap → s.heap.Ns cenv.locals m → GenSince cenv.locals wr s₀ s →
      (∀ b ∈ fp, b ∉ wr → ∀ o, href.get? b = some o → s.heap.get? b = some o) →
      Seg (model prog w) A (fun n s₀ r s₁ => r = .ok .next ∧ (n = 0 ∧ GenSince cenv.locals wr s₀ s₁)) (genProto cenv.locals fp wr allT n₀ F) (passing allT n₀ i).length s₀
        (.compLoop (.GeneratorExp elt [⟨.Name x px, iter, [], 0⟩] scope pos) 0 (.ref I) .none cenv)
        ((model prog w).den (.compLoop (.GeneratorExp elt [⟨.Name x px, iter, [], 0⟩] scope pos) 0 (.ref I) .none cenv)) [] s := by
  have hh' : (A.over (.compLoop (.GeneratorExp elt [⟨.Name x px, iter, [], 0⟩] scope pos) 0 (.ref I) .none cenv) []).handled = none := hh
  have hf' : (A.over (.compLoop (.GeneratorExp elt [⟨.Name x px, iter, [], 0⟩] scope pos) 0 (.ref I) .none cenv) []).frames = some (cenv :: fr) := by
    show pushEnvs [cenv] (pushEnvs [] A.frames) = _
    rw [hf]; rfl
  have hCw : cenv.locals ∉ wr := fun h => hCf ((W₀ A hh).sub _ h)
  intro k
  induction k with
  | zero =>
    intro i s₀ s m hk hi hst hn hs hkp
    have hin : i = n₀ := Nat.le_antisymm hi (Nat.sub_eq_zero_iff_le.mp hk)
    subst hin
    show Seg _ A _ _ _ s₀ _ ((compTurn (.GeneratorExp elt [⟨.Name x px, iter, [], 0⟩] scope pos) 0 (.ref I) .none cenv).onRaise (leaving cenv)) [] s
    rw [compTurn_gen, Sem.onRaise_eq_wrap]
    refine seg_bind_wrap (wpAny_standAt ?_)
    refine seg_bind_wrap ((W₀ _ hh').done s _ _ hst fun h' tk hk' => ?_)
    exact seg_end (.ok .next) ⟨rfl, by rw [passing_end]; rfl, hs.step fun b o _ hw e => hk' b o hw e⟩
  | succ k ih =>
    intro i s₀ s m hk hi hst hn hs hkp
    have hlt : i < n₀ := Nat.lt_of_sub_eq_succ hk
    show Seg _ A _ _ _ s₀ _ ((compTurn (.GeneratorExp elt [⟨.Name x px, iter, [], 0⟩] scope pos) 0 (.ref I) .none cenv).onRaise (leaving cenv)) [] s
    rw [compTurn_gen, Sem.onRaise_eq_wrap]
    refine seg_bind_wrap (wpAny_standAt ?_)
    refine seg_bind_wrap ((W₀ _ hh').item i s _ _ hlt hst fun v h₁ tk₁ hPv hst₁ hk₁ => ?_)
    refine seg_bind_wrap (wpAny_of_eq (rfl : letOwnedTupleGo (.Name x px) (.ref I) v = pure ()) ?_)
    refine seg_bind_wrap (wpAny_assign_Name (wpAny_storeName_local hx (hn.at' fun o e => hk₁ _ o hCw e) (fun h₂ hn₂ hs₂ => ?_) hp))
    have up : ∀ b o, b ≠ cenv.locals → b ∉ wr → s.heap.get? b = some o → h₂.get? b = some o := fun b o hbC hbw e => hs₂.extBut b o hbC (hk₁ b o hbw e)
    have hst₂ : St₀ (i + 1) h₂ := (W₀ A hh).frame _ _ _ hst₁ fun b hb o e => hs₂.extBut b o (fun h => hCf (h ▸ hb)) e
    have hkp₂ : ∀ b ∈ fp, b ∉ wr → ∀ o, href.get? b = some o → h₂.get? b = some o := fun b hb hbw o e => up b o (fun h => hCf (h ▸ hb)) hbw (hkp b hb hbw o e)
    have hs₂' : GenSince cenv.locals wr s₀ { s with heap := h₂, toks := tk₁ } := hs.step fun b o hbC hbw e => up b o hbC hbw e
    refine seg_bind_wrap (wpAny_pure ?_)
    rw [passing_true hlt rfl, List.length_cons]
    simp only [if_true]
    have hy : ∀ v, yieldOut cenv v = yieldValue v := fun v => by simp only [yieldOut, hco, Bool.false_eq_true, if_false]
    simp only [hy]
    rw [Sem.bind_eq_wrap', Sem.bind_eq_wrap', Sem.wrap_wrap, Sem.wrap_wrap]
    refine seg_wrap (wpAny_mono (hq _ _ i v _ _ hh' hf' (Nat.le_of_eq rfl) (Nat.le_of_eq rfl) hPv hn₂ (by simp) hkp₂) (fun y s₄ h₄ => ?_) fun _ _ e => e)
    obtain ⟨hFy, h₄, tk₄, rfl, hk₄, m₄, hn₄⟩ := h₄
    have hst₄ : St₀ (i + 1) h₄ := (W₀ A hh).frame _ _ _ hst₂ fun b hb o e => hk₄ b o (fun h => hCf (h ▸ hb)) e
    refine seg_at (seg_yield rfl rfl rfl ⟨⟨i, passing_here hlt rfl, hFy⟩, hs₂'.step fun b o hbC _ e => hk₄ b o hbC e, fun s'' hal => ?_⟩)
    refine seg_again rfl (ih (i + 1) s'' s'' _ (by rw [← Nat.sub_sub n₀ i 1, hk]; rfl) hlt ((W₀ A hh).frame _ _ _ hst₄ fun b hb o e => hal b (List.mem_cons_of_mem _ hb) o e)
      (hn₄.at' fun o e => hal _ (List.mem_cons_self ..) o e) (GenSince.refl _ _ _) fun b hb hbw o e => hal b (List.mem_cons_of_mem _ hb) o (hk₄ b o (fun h => hCf (h ▸ hb)) (hkp₂ b hb hbw o e)))
theorem startF {elt iter : Expr} {x : Str} {px : Pos} {scope : Scope} {pos : Pos} {I : Addr} {fp wr : List Addr} {n₀ : Nat} {P : Nat → Value → Prop} {St₀ : Nat → Heap → Prop} {cenv : Env} {fr : List Env}
    (hh : A.handled = none) (hf : A.frames = some fr) (W₀ : ∀ A' : Around, A'.handled = none → Walks prog w A' I fp wr n₀ P St₀) (F : Nat → Value → Prop) (href : Heap)
    (hx : cenv.kindOf x = some .local) (hp : (cenv.scope.kind == .class || (cenv.scope.kind == .module && cenv.locals != cenv.globals)) = false)
    (hco : cenv.scope.isCoroutine = false) (hCf : cenv.locals ∉ fp) (hq : EltF prog w cenv x elt fp wr P F href (some (cenv :: fr)) (A.depth + 1) (A.units + 3))
    (s₀ s : Shared) (m : Str → Option Value) (hst : St₀ 0 s.heap) (hn : s.heap.Ns cenv.locals m) (hs : GenSince cenv.locals wr s₀ s)
    (hkp : ∀ b ∈ fp, b ∉ wr → ∀ o, href.get? b = some o → s.heap.get? b = some o) :
    Seg (model prog w) A (fun n s₀ r s₁ => r = .ok .next ∧ (n = 0 ∧ GenSince cenv.locals wr s₀ s₁)) (genProto cenv.locals fp wr allT n₀ F) (passing allT n₀ 0).length s₀
      (.compStart (.GeneratorExp elt [⟨.Name x px, iter, [], 0⟩] scope pos) 0 (.ref I) .none cenv)
      ((model prog w).den (.compStart (.GeneratorExp elt [⟨.Name x px, iter, [], 0⟩] scope pos) 0 (.ref I) .none cenv)) [] s := by
  have hh' : (A.over (.compStart (.GeneratorExp elt [⟨.Name x px, iter, [], 0⟩] scope pos) 0 (.ref I) .none cenv) []).handled = none := hh
  have loop := loopF (iter := iter) (px := px) (scope := scope) (pos := pos) hh hf W₀ F href hx hp hco hCf hq n₀ 0 s₀ s m (Nat.sub_zero _) (Nat.zero_le _) hst hn hs hkp
  show Seg _ A _ _ _ s₀ _ ((compStart (.GeneratorExp elt [⟨.Name x px, iter, [], 0⟩] scope pos) 0 (.ref I) .none cenv).onRaise (leaving cenv)) [] s
  unfold compStart
  rw [Sem.onRaise_eq_wrap]
  show Seg _ A _ _ _ s₀ _ ((ask >>= _).wrap _ _ _ _) [] s
  refine seg_bind_wrap (wpAny_askSetting ?_)
  split
  · exact seg_again rfl loop
  · first
      | exact seg_bind_wrap (wpAny_rule (seg_bind_wrap (wpAny_standAt (seg_bind_wrap ((W₀ _ hh').self 0 s _ _ hst (seg_again rfl loop))))))
      | (refine seg_bind_wrap (wpAny_rule ?_); show Seg _ A _ _ _ s₀ _ ((standAt iter.pos >>= _).wrap _ _ _ _) [] s; exact seg_bind_wrap (wpAny_standAt (seg_bind_wrap ((W₀ _ hh').self 0 s _ _ hst (seg_again rfl loop)))))
theorem freshF {elt iter : Expr} {x : Str} {px : Pos} {scope : Scope} {pos : Pos} {I a : Addr} {g : Nat} {fp wr : List Addr} {n₀ : Nat} {P : Nat → Value → Prop} {St₀ : Nat → Heap → Prop} {cenv : Env} {fr : List Env}
    (hh : A.handled = none) (hf : A.frames = some fr) (W₀ : ∀ A' : Around, A'.handled = none → Walks prog w A' I fp wr n₀ P St₀) (F : Nat → Value → Prop)
    (hx : cenv.kindOf x = some .local) (hp : (cenv.scope.kind == .class || (cenv.scope.kind == .module && cenv.locals != cenv.globals)) = false)
    (hco : cenv.scope.isCoroutine = false) (hCf : cenv.locals ∉ fp) {s : Shared} {m : Str → Option Value} (hq : EltF prog w cenv x elt fp wr P F s.heap (some (cenv :: fr)) (A.depth + 1) (A.units + 4))
    (hg : s.heap.IsGen a g) (hgs : s.gens[g]? = some (.fresh (.compStart (.GeneratorExp elt [⟨.Name x px, iter, [], 0⟩] scope pos) 0 (.ref I) .none cenv)))
    (hst : St₀ 0 s.heap) (hn : s.heap.Ns cenv.locals m) (hl : s.heap.NoLimit) : GenAt prog w A a g cenv.locals fp wr allT n₀ F 0 s :=
  ⟨hg, hl, _, hgs, fun s'' hal => ⟨rfl, startF (A := A.in1) hh hf W₀ F s.heap hx hp hco hCf hq s'' s'' m ((W₀ A hh).frame _ _ _ hst fun b hb o e => hal b (List.mem_cons_of_mem _ hb) o e)
    (hn.at' fun o e => hal _ (List.mem_cons_self ..) o e) (GenSince.refl _ _ _) fun b hb _ o e => hal b (List.mem_cons_of_mem _ hb) o e⟩⟩
theorem genexpF {E : Value → Shared → Prop} {s : Shared} {env : Env} {elt iter : Expr} {x : Str} {px : Pos} {scope : Scope} {cl : List (Str × Addr)} {pos : Pos} {Q : Value → Shared → Prop} {fr : List Env}
    (hh : A.handled = none) (hf : A.frames = some fr) (hco : scope.isCoroutine = false) (hclos : closureFor scope env = pure cl) (hcell : ∀ y ∈ scope.names, y.2 ≠ .cell) (h0 : scope.names.lookup (".0" : Str) = some NameKind.local)
    (hx : scope.names.lookup x = some .local) (hkind : scope.kind = .function) (hroom : A.depth < recursionLimit)
    (h : wpAny (model prog w) A (eval iter env) (fun xv s₁ => wpAny (model prog w) A (pyIter xv) (fun it s₂ => s₂.heap.NoLimit ∧
      wpAny (model prog w) A (genexprCode env pos (env.qual ++ "<genexpr>") scope) (fun code s₃ => wpAny (model prog w) A (builtinsFor env.globals env.builtins) (fun bi s₄ =>
        ∃ I fp wr n₀ P St₀ F, it = .ref I ∧ (∀ A' : Around, A'.handled = none → Walks prog w A' I fp wr n₀ P St₀) ∧ St₀ 0 s₄.heap ∧ (∀ b ∈ fp, b < s₄.heap.objs.size) ∧ s₄.heap.NoLimit ∧ cStatics ∉ wr ∧
          (∀ href : Heap, (∀ b o, s₄.heap.get? b = some o → href.get? b = some o) →
            EltF prog w (genEnv scope cl s₄.heap.objs.size code bi env) x elt (List.range s₄.heap.objs.size) wr P F href (some (genEnv scope cl s₄.heap.objs.size code bi env :: fr)) (A.depth + 1) (A.units + 8)) ∧
          (∀ a h₅ tk gs, gs.bare = true → s₄.heap.objs.size < a → h₅.objs.size = a + 1 → (∀ b o, s₄.heap.get? b = some o → h₅.get? b = some o) →
            WalksS prog w A.in4 a (a :: s₄.heap.objs.size :: List.range s₄.heap.objs.size) (s₄.heap.objs.size :: wr) (GenOnlyQ s₄.gens.size) (passing allT n₀ 0).length
              (fun j y => ∃ i, (passing allT n₀ 0)[j]? = some i ∧ F i y) (GenAt prog w A.in4 a s₄.gens.size s₄.heap.objs.size (List.range s₄.heap.objs.size) wr allT n₀ F) →
            GenAt prog w A.in4 a s₄.gens.size s₄.heap.objs.size (List.range s₄.heap.objs.size) wr allT n₀ F 0 { s₄ with gens := s₄.gens.push gs, toks := tk, heap := h₅ } →
            Q (.ref a) { s₄ with gens := s₄.gens.push gs, toks := tk, heap := h₅ })) E s₃) E s₂) E s₁) E s)
    (hs : ∀ x, genFold iter env x = pure x) :
    wpAny (model prog w) A (eval (.GeneratorExp elt [⟨.Name x px, iter, [], 0⟩] scope pos) env) Q E s := by
  refine wpAny_GeneratorExp_make hco hclos hcell h0 hkind hroom (wpAny_mono h (fun xv s₁ h₁ => wpAny_mono h₁ (fun it s₂ h₂ => ⟨h₂.1, wpAny_mono h₂.2 (fun code s₃ h₃ => wpAny_mono h₃ (fun bi s₄ h₄ => ?_)
    fun _ _ e => e) fun _ _ e => e⟩) fun _ _ e => e) fun _ _ e => e) hs
  obtain ⟨I, fp, wr, n₀, P, St₀, F, rfl, W₀, hst, hfp, hl₄, hcw, hq, hQ⟩ := h₄
  have hclt : cStatics < s₄.heap.objs.size := let ⟨_, hn, _⟩ := hl₄; hn.lt
  intro h' hn' hs'
  have hsz : h'.objs.size = s₄.heap.objs.size + 1 := by rw [hs'.1, Heap.size_push]
  have keep' : ∀ b o, s₄.heap.get? b = some o → h'.get? b = some o := fun b o e => hs'.extBut b o (Nat.ne_of_lt (Heap.lt_size e)) (Heap.get?_push_of_some _ e)
  have hsub : ∀ b ∈ wr, b ∈ List.range s₄.heap.objs.size := fun b hb => List.mem_range.mpr (hfp b ((W₀ A hh).sub b hb))
  have haC : h'.objs.size ≠ s₄.heap.objs.size := by rw [hsz]; exact Nat.succ_ne_self _
  have haf : h'.objs.size ∉ List.range s₄.heap.objs.size := fun hm => by have := List.mem_range.mp hm; lia
  have keep₅ : ∀ b o, s₄.heap.get? b = some o → (h'.push { cls := .type "generator", data := .fields #[.int s₄.gens.size 0, .str "<genexpr>" (s₄.toks + 1), .str (env.qual ++ "<genexpr>") (s₄.toks + 1 + 1)] }).get? b = some o :=
    fun b o e => Heap.get?_push_of_some _ (keep' b o e)
  refine hQ _ _ _ _ rfl (by lia) (by rw [Heap.size_push]) keep₅ (WalksS.genexpQ (A := A.in4) hh _ _ _ _ wr allT n₀ F haC haf hsub hroom (List.mem_range.mpr hclt) (Nat.ne_of_lt hclt) hcw) ?_
  refine freshF (A := A.in4) (cenv := genEnv scope cl s₄.heap.objs.size code bi env) (m := fun y => if y = ".0" then some (.ref I) else none) hh hf
    (fun A' hA => (W₀ A' hA).mono_fp fun b hb => List.mem_range.mpr (hfp b hb)) F hx (by simp [genEnv, hkind]) hco
    (fun hm => Nat.lt_irrefl _ (List.mem_range.mp hm)) (hq _ keep₅) ⟨_, _, _, Heap.get?_push_size _ rfl, rfl, rfl, rfl⟩ (Array.getElem?_push_size ..) ((W₀ A hh).frame _ _ _ hst fun b _ o e => keep₅ b o e) (hn'.push _) (hl₄.keeps keep₅)
end
end
section
noncomputable def cutH (h : Heap) (C : Nat) : Heap := ⟨h.objs.extract 0 C, h.life⟩
theorem cut_get {h : Heap} {C b : Nat} : (cutH h C).get? b = if b < C then h.get? b else none := by
  unfold Heap.get? cutH
  rw [Array.getElem?_extract]
  simp only [Nat.sub_zero, Nat.zero_add]
  by_cases hb : b < C
  · by_cases hs : b < h.objs.size
    · have : b < min C h.objs.size := by lia
      rw [if_pos this, if_pos hb]
    · have : ¬ b < min C h.objs.size := by lia
      rw [if_neg this, if_pos hb, Array.getElem?_eq_none (by lia)]
  · have : ¬ b < min C h.objs.size := by lia
    rw [if_neg this, if_neg hb]
theorem cut_size {h : Heap} {C : Nat} : (cutH h C).objs.size ≤ C := by
  unfold cutH
  simp
  lia
theorem cut_keep {h : Heap} {C : Nat} : ∀ b o, (cutH h C).get? b = some o → h.get? b = some o := by
  intro b o e
  rw [cut_get] at e
  split at e
  · exact e
  · cases e
theorem cut_fr {h : Heap} {C : Nat} {m : Str → Option Value} (hn : h.Ns C m) : Fr (cutH h C) C h m := ⟨hn, cut_keep, cut_size⟩
noncomputable def tailN (h : Heap) (C : Nat) : List (Addr × Obj) := (List.range h.objs.size).filterMap fun b => if C < b then (h.get? b).map fun o => (b, o) else none
theorem tail_mem {h : Heap} {C : Nat} {b : Addr} {o : Obj} : (b, o) ∈ tailN h C ↔ C < b ∧ h.get? b = some o := by
  unfold tailN
  rw [List.mem_filterMap]
  constructor
  · rintro ⟨a, _, h2⟩
    split at h2
    · rename_i hc
      cases hg : h.get? a with
      | none => rw [hg] at h2; cases h2
      | some x => rw [hg] at h2; simp at h2; obtain ⟨rfl, rfl⟩ := h2; exact ⟨hc, hg⟩
    · cases h2
  · rintro ⟨h1, h2⟩
    exact ⟨b, List.mem_range.mpr (Heap.lt_size h2), by rw [if_pos h1, h2]; rfl⟩
theorem tail_news {h : Heap} {C : Nat} : News (cutH h C) C h (tailN h C) := by
  rintro ⟨b, o⟩ hp
  obtain ⟨h1, h2⟩ := tail_mem.mp hp
  exact ⟨h2, Nat.ne_of_gt h1, by rw [cut_get, if_neg (Nat.not_lt.mpr (Nat.le_of_lt h1))]⟩
theorem cut_kept {h h' : Heap} {C : Nat} {m : Str → Option Value} (F : Fr (cutH h C) C h' m) (N : News (cutH h C) C h' (tailN h C)) : ∀ b o, b ≠ C → h.get? b = some o → h'.get? b = some o := by
  intro b o hb e
  rcases Nat.lt_or_ge b C with hc | hc
  · exact F.keep b o (by rw [cut_get, if_pos hc]; exact e)
  · exact N.get (tail_mem.mpr ⟨Nat.lt_of_le_of_ne hc (Ne.symm hb), e⟩)
end
section
set_option maxRecDepth 100000
set_option maxHeartbeats 8000000
theorem below_to {A₀ : Around} {base h h' : Heap} {outer : List Env} (B : Below A₀ base outer h) (k : ∀ b o, h.get? b = some o → h'.get? b = some o) : Below A₀ base outer h' :=
  ⟨B.stack, fun b o e => k b o (B.stays b o e), B.frames.of_keeps fun b o e _ => ⟨o, k b o e, rfl⟩⟩
theorem top_to {p : Program} {lo : List Str} {mean : ExcName → Option Value} {mg mb : Str → Option Value} {h h' : Heap} (T : Top p lo mean mg mb h) (k : ∀ b o, h.get? b = some o → h'.get? b = some o) : Top p lo mean mg mb h' := T.keeps k
theorem call_quote (w : World) (mean : ExcName → Option Value) (mg mb : Str → Option Value) (x : Str) (tx : Tok) {dp un : Nat} {gd : Option (List Code)} {qn : Str} {ccd : Value} {p1 p2 p3 : Pos} {sc : Scope}
    {outer : List Env} {A₀ : Around} {base h₀ : Heap} {L : Addr} {m : Str → Option Value} {news : List (Addr × Obj)} {s : Shared} {Q E : Value → Shared → Prop}
    (hsc : sc = { kind := .function, names := [(Str.ofString ".0", NameKind.local), (Str.ofString "arg", NameKind.local), (Str.ofString "quote", NameKind.globalImplicit)], isGenerator := true, isCoroutine := false })
    (B : Below A₀ base outer h₀) (F : Fr h₀ L s.heap m) (X : (Mine.K w.params).In h₀) (N : News h₀ L s.heap news) (T : Top Mine.vw loose mean mg mb h₀)
    (hm : m (Str.ofString "arg") = some (.str x tx)) (hx : x.length ≤ 500 ∧ ((cl x).all safe = true ∨ (Txt.replace x (Str.ofString "'") (Str.ofString "'\"'\"'")).length ≤ 5000))
    (hd : dp + 40 < recursionLimit) (hu : un + 400 < cLine)
    (hret : CbRet h₀ L m news s Q (fun t => .str (quoteS x) t)) :
    wpAny (model PySem.Challenge.pw_ny0408_01 w) { handled := none, depth := dp, frames := some (envY qn sc L mainGlobals none ccd [] builtinsNs :: outer), guards := gd, units := un }
      (eval (.Call (.Name (Str.ofString "quote") p1) [.Name (Str.ofString "arg") p2] [] p3) (envY qn sc L mainGlobals none ccd [] builtinsNs)) Q E s := by
  subst hsc
  revert X
  refine fill ?_
  k_fill
  intro _ X
  refine Call_ ?_
  have e773 : mg (Str.ofString "quote") = some (.ref 773) := mg_of X T.g (by k_is)
  refine Calls.Name_function_global rfl rfl (Calls.loadGlobal_global (mg := mg) (T.g.keeps F.keep) e773 ?_) (by decide)
  refine callWith_K X (by k_is) (Calls.spliced_cons (wpAny_Name (wpAny_loadName_local rfl rfl F.ns hm ?_) (by decide)))
  refine Calls.spliced_nil ⟨X.keeps F.keep, ?_⟩
  exact quote_c w mean mg mb x tx news dp un gd qn _ _ none ccd [] _ outer A₀ base h₀ L m s Q E B F X N T rfl hx hd hu hret
end
section
set_option maxRecDepth 100000
set_option maxHeartbeats 8000000
noncomputable def tabF : Option Addr → Array Value
  | none => #[]
  | some c => #[rawInt 782, rawInt 20, .ref c]
noncomputable def tabO (tb : Option Addr) : Obj := { cls := .none, data := .fields (tabF tb) }
noncomputable def lisO (vs : List Value) : Obj := { cls := .type "list", data := .seq vs.toArray }
noncomputable def strV (xs : List (Str × Tok)) : List Value := xs.map fun x => .str x.1 x.2
noncomputable def quoteOk (x : Str) : Prop := x.length ≤ 500 ∧ ((cl x).all safe = true ∨ (Txt.replace x (Str.ofString "'") (Str.ofString "'\"'\"'")).length ≤ 5000)
noncomputable def joinS (xs : List Str) : Str := Txt.join (Str.ofString " ") (xs.map quoteS)
noncomputable abbrev jsc : Scope := { kind := ScopeKind.function, names := [(Str.ofString "split_command", NameKind.local)], isGenerator := false, isCoroutine := false }
noncomputable abbrev gsc : Scope := { kind := .function, names := [(Str.ofString ".0", NameKind.local), (Str.ofString "arg", NameKind.local), (Str.ofString "quote", NameKind.globalImplicit)], isGenerator := true, isCoroutine := false }
theorem tab_code {w : World} {h : Heap} {tb : Option Addr} (X : (Mine.K w.params).In h) (e : h.get? 760 = some (tabO tb)) : h.IsCode 764 760 (tabF tb) ∧ h.TableAt 764 760 (tabF tb) := by
  have h1 := X 764 (k764 w.params) rfl
  exact ⟨⟨_, _, _, _, _, _, _, _, _, _, h1, rfl, rfl, rfl, rfl, rfl, rfl, e, rfl, by cases tb <;> simp [TriplesOk, tabF, rawInt], by decide⟩, ⟨_, _, h1, rfl, rfl, rfl⟩, e⟩
noncomputable abbrev envJ (L : Addr) : Env := envOf (Str.ofString "join") jsc L 765 (.ref 764)
theorem code_step {w : World} {M : Model} {A : Around} {s : Shared} {Q : Value → Shared → Prop} {E : Value → Shared → Prop} {tb : Option Addr} {L : Addr} {pos : Pos} {q : Str} {sc : Scope} (X : (Mine.K w.params).In s.heap) (e : s.heap.get? 760 = some (tabO tb)) (hp : pos.line = 782 ∧ pos.col = 20)
    (h : ∀ c h' tk tb', Heap.ExtBut 760 s.heap h' → s.heap.objs.size ≤ h'.objs.size → h'.get? 760 = some (tabO tb') → Q c { s with heap := h', toks := tk }) : wpAny M A (genexprCode (envJ L) pos q sc) Q E s := by
  obtain ⟨h1, h2⟩ := tab_code X e
  cases tb with
  | none =>
    refine wpAny_genexprCodeX (c := 764) rfl h1 h2 rfl fun c' h' tk hx hge hlt _ _ ht _ => h _ h' tk (some c') hx (Nat.le_trans hge (Nat.le_of_lt hlt)) ?_
    rw [ht.2, hp.1, hp.2]; rfl
  | some c =>
    refine wpAny_genexprCode_hit (c := 764) (c' := .ref c) rfl h1 ?_ (h _ s.heap s.toks (some c) (fun b o _ e => e) (Nat.le_refl _) e)
    simp [tabF, codeAmong, rawInt, hp.1, hp.2]
theorem bm_step {p : Program} {lo : List Str} {mean : ExcName → Option Value} {mg mb : Str → Option Value} {g : Heap} {M : Model} {A : Around} {s : Shared} {Q : Addr → Shared → Prop} {E : Value → Shared → Prop} {r : Addr} (T : Top p lo mean mg mb g) (hk : ∀ b o, g.get? b = some o → s.heap.get? b = some o)
    (h : Q builtinsNs s) : wpAny M A (builtinsFor mainGlobals r) Q E s := by
  obtain ⟨bm, ob, M⟩ := bmod_of_top T
  have M := M.keeps hk
  exact wpAny_builtinsFor M.ns M.name M.ne M.obj M.cls M.dict M.data h
theorem elt_c {w : World} {mean : ExcName → Option Value} {mg mb : Str → Option Value} {xs : List (Str × Tok)} {outer : List Env} {A₀ : Around} {base g href : Heap} {C L I : Addr} {code : Value} {D U : Nat} {p1 p2 p3 : Pos}
    (B : Below A₀ base outer g) (X : (Mine.K w.params).In g) (T : Top Mine.vw loose mean mg mb g) (hg : ∀ b o, g.get? b = some o → b < C ∧ b ≠ I ∧ href.get? b = some o) (hx : ∀ x ∈ xs, quoteOk x.1) (hd : D + 40 < recursionLimit) (hu : U + 400 < cLine) :
    EltF PySem.Challenge.pw_ny0408_01 w (genEnv gsc [] C code builtinsNs (envJ L)) (Str.ofString "arg") (.Call (.Name (Str.ofString "quote") p1) [.Name (Str.ofString "arg") p2] [] p3) (List.range C) [I] (fun i v => (strV xs).toArray[i]? = some v)
      (fun i y => ∃ x t, xs[i]? = some x ∧ y = .str (quoteS x.1) t) href (some (genEnv gsc [] C code builtinsNs (envJ L) :: outer)) D U := by
  intro A' E' i v s₂ m₂ hh hf hD hU hP hn hm hk
  obtain ⟨ha, dp, fr, gd, un⟩ := A'
  dsimp only at hh hf hD hU
  subst hh hf
  have hv : ∃ x, xs[i]? = some x ∧ v = .str x.1 x.2 := by
    simp [strV] at hP
    obtain ⟨a, b, h1, h2⟩ := hP
    exact ⟨_, h1, h2.symm⟩
  obtain ⟨x, hxi, rfl⟩ := hv
  have gk : ∀ b o, g.get? b = some o → (cutH s₂.heap C).get? b = some o := fun b o e => by
    obtain ⟨h1, h2, h3⟩ := hg b o e
    rw [cut_get, if_pos h1]
    exact hk b (List.mem_range.mpr h1) (by simpa using h2) o h3
  have cF : Fr (cutH s₂.heap C) C s₂.heap m₂ := cut_fr hn
  refine call_quote w mean mg mb x.1 x.2 (sc := gsc) (A₀ := A₀) (base := base) (h₀ := cutH s₂.heap C) (m := m₂) (news := tailN s₂.heap C) rfl (below_to B gk) cF (X.keeps gk) tail_news (top_to T gk) hm (hx x (List.mem_of_getElem? hxi)) (by lia) (by lia) ?_
  intro t h' tk' F' N'
  exact ⟨⟨x, t, hxi, rfl⟩, h', tk', rfl, cut_kept F' N', m₂, F'.ns⟩
end
section
set_option maxRecDepth 100000
set_option maxHeartbeats 8000000
theorem noLimit_ext {p : Program} {lo : List Str} {mean : ExcName → Option Value} {mg mb : Str → Option Value} {g h : Heap} (T : Top p lo mean mg mb g) (hk : ∀ b o, g.get? b = some o → h.get? b = some o) : h.NoLimit := T.nolimit.keeps hk
theorem pass_all (n : Nat) : passing allT n 0 = List.range n := by
  unfold passing
  rw [List.drop_zero]
  exact List.filter_eq_self.mpr fun _ _ => rfl
theorem join_gen {w : World} {mean : ExcName → Option Value} {mg mb : Str → Option Value} {xs : List (Str × Tok)} {A A₀ : Around} {outer : List Env} {base h₀ : Heap} {L l : Addr} {m : Str → Option Value} {s : Shared} {tb : Option Addr} {news : List (Addr × Obj)}
    {Q E : Value → Shared → Prop} {p1 p2 p3 p4 p5 pos : Pos} {t₀ : Tok}
    (B : Below A₀ base outer h₀) (F : Fr h₀ L s.heap m) (X : (Mine.K w.params).In h₀) (N : News h₀ L s.heap ((760, tabO tb) :: (l, lisO (strV xs)) :: news)) (T : Top Mine.vw loose mean mg mb h₀)
    (hh : A.handled = none) (hA : A.frames = some (envJ L :: outer)) (hm : m (Str.ofString "split_command") = some (.ref l)) (hd : A.depth + 45 < recursionLimit) (hu : A.units + 410 < cLine) (G : AllBare s.gens)
    (hx : ∀ x ∈ xs, quoteOk x.1) (hj : JoinOk (Str.ofString " ") (xs.map fun x => quoteS x.1) = true) (hl : xs.length ≤ 100) (hcl : ∀ p ∈ news, p.1 ≠ 760) (hp : pos.line = 782 ∧ pos.col = 20)
    (hQ : ∀ t h' tk gs tb', AllBare gs → Fr h₀ L h' m → News h₀ L h' ((760, tabO tb') :: (l, lisO (strV xs)) :: news) → Q (.str (joinS (xs.map (·.1))) t) { s with heap := h', gens := gs, toks := tk }) :
    wpAny (model PySem.Challenge.pw_ny0408_01 w) A (eval (.GeneratorExp (.Call (.Name (Str.ofString "quote") p1) [.Name (Str.ofString "arg") p2] [] p3) [⟨.Name (Str.ofString "arg") p4, .Name (Str.ofString "split_command") p5, [], 0⟩] gsc pos) (envJ L))
      (fun v s₁ => wpAny (model PySem.Challenge.pw_ny0408_01 w) A (call (.builtin "str.join") [.str (Str.ofString " ") t₀, v]) Q E s₁) E s := by
  obtain ⟨FG, BG, st, _⟩ := groundX (R := fun _ _ => True) (A := A) (env := envJ L) B F N hA rfl rfl
  generalize hgdef : hideAll s.heap (((760, tabO tb) :: (l, lisO (strV xs)) :: news).map (·.1)) = g at FG BG st
  have g760 : g.get? 760 = none := by rw [← hgdef]; exact hideAll_none _ (by simp)
  have gs : ∀ b o, g.get? b = some o → s.heap.get? b = some o := fun b o e => by rw [← hgdef] at e; exact of_hideAll _ e
  have Xg := X.keeps st
  have Tg := T.keeps st
  have e760 : s.heap.get? 760 = some (tabO tb) := (N (760, tabO tb) (by simp)).1
  have elist : s.heap.IsList l (strV xs).toArray := ⟨_, (N (l, lisO (strV xs)) (by simp)).1, rfl, _, rfl⟩
  have hlt : l < s.heap.objs.size := Heap.lt_size (N (l, lisO (strV xs)) (by simp)).1
  have h760 : (760 : Addr) < s.heap.objs.size := Heap.lt_size e760
  have hl760 : l ≠ 760 := by
    intro e
    have := (N (l, lisO (strV xs)) (by simp)).1
    rw [e, e760] at this
    have := congrArg (fun o : Option Obj => o.map (·.cls)) this
    simp [tabO, lisO] at this
  refine genexpF hh hA rfl rfl (by decide) rfl rfl rfl (by lia) ?_ (fun _ => rfl)
  refine wpAny_Name (wpAny_loadName_local rfl rfl F.ns hm ?_) (by decide)
  refine wpAny_pyIter_list elist ⟨noLimit_ext Tg fun b o e => Heap.get?_push_of_some _ (gs b o e), ?_⟩
  refine code_step (tb := tb) (X.keeps fun b o e => Heap.get?_push_of_some _ (F.keep b o e)) (Heap.get?_push_of_some _ e760) hp ?_
  intro code h₃ tk₃ tb' hx₃ hsz₃ h760'
  rw [Heap.size_push] at hsz₃
  have gk : ∀ b o, g.get? b = some o → h₃.get? b = some o := fun b o e => hx₃ b o (fun q => by rw [q, g760] at e; cases e) (Heap.get?_push_of_some _ (gs b o e))
  have nk : ∀ b o, b ≠ 760 → s.heap.get? b = some o → h₃.get? b = some o := fun b o hb e => hx₃ b o hb (Heap.get?_push_of_some _ e)
  refine bm_step Tg gk ?_
  have hc : cStatics < s.heap.objs.size := let ⟨_, hn, _⟩ := noLimit_ext Tg gs; hn.lt
  refine ⟨s.heap.objs.size, [s.heap.objs.size, l], [s.heap.objs.size], (strV xs).toArray.size, _, _, (fun i y => ∃ x t, xs[i]? = some x ∧ y = .str (quoteS x.1) t), rfl, (fun A' hA => Walks.list hA _ _ (Nat.ne_of_lt hlt) _), ⟨?_, ?_⟩, ?_, noLimit_ext Tg gk, ?_, ?_, ?_⟩
  · exact ⟨_, hx₃ _ _ (Nat.ne_of_gt h760) (Heap.get?_push_size _ rfl), rfl, rfl⟩
  · exact elist.at fun o e => nk _ _ hl760 e
  · intro b hb
    show b < h₃.objs.size
    rcases List.mem_cons.mp hb with rfl | hb
    · exact hsz₃
    · rw [List.mem_singleton.mp hb]
      exact Nat.lt_of_lt_of_le (Nat.lt_succ_of_lt hlt) hsz₃
  · intro hb
    rw [List.mem_singleton.mp hb] at hc
    exact Nat.lt_irrefl _ hc
  · intro href hhref
    exact elt_c (mean := mean) (mg := mg) (mb := mb) (xs := xs) (I := s.heap.objs.size) BG Xg Tg (fun b o e => ⟨Heap.lt_size (gk b o e), Nat.ne_of_lt (Heap.lt_size (gs b o e)), hhref b o (gk b o e)⟩) hx (by lia) (by lia)
  · intro a h₅ tk gs' hgb hag hsz₅ hk₅ W hat
    have W := W.in4_2
    refine SC.joinGen W (fun i s' st => st.1.typeIs) hat ?_ List.mem_cons_self ?_ ?_ ?_
    · intro b hb
      show b < h₅.objs.size
      have hag' : h₃.objs.size < a := hag
      rw [hsz₅]
      rcases List.mem_cons.mp hb with rfl | hb
      · exact Nat.lt_succ_self _
      · rcases List.mem_cons.mp hb with rfl | hb
        · exact Nat.lt_succ_of_lt hag'
        · have := List.mem_range.mp hb
          exact Nat.lt_succ_of_lt (Nat.lt_trans this hag')
    · rintro j v ⟨i, _, x, t, _, rfl⟩
      exact ⟨_, _, rfl⟩
    · intro s' lt hm' hacc
      have hn : (passing allT (strV xs).toArray.size 0).length = xs.length := by simp [pass_all, strV]
      have hls : lt.map (·.1) = xs.map fun x => quoteS x.1 := by
        apply List.ext_getElem?
        intro j
        have hsz : lt.length = xs.length := by rw [← hn]; simpa [strValues] using hacc.1
        by_cases hj : j < xs.length
        · have hj' : j < lt.length := hsz ▸ hj
          obtain ⟨i, hi, x, t, hxi, hv⟩ := hacc.2 j (.str lt[j].1 lt[j].2) (by simp [strValues, List.getElem?_eq_getElem hj'])
          injection hv with h1 _
          rw [pass_all] at hi
          have hij : i = j := by
            have hj2 : j < (strV xs).toArray.size := by simpa [strV] using hj
            rw [List.getElem?_range hj2] at hi
            exact (Option.some.inj hi).symm
          subst hij
          simp [List.getElem?_eq_getElem hj', hxi, h1]
        · rw [List.getElem?_eq_none (by simpa [hsz] using Nat.le_of_not_lt hj), List.getElem?_eq_none (by simpa using Nat.le_of_not_lt hj)]
      rw [hls]
      refine ⟨hj, fun t' k => ?_⟩
      obtain ⟨h9, gs9, dr9, tk9, os9⟩ := s'
      have e1 := hm'.drawn
      have e2 := hm'.os
      dsimp only at e1 e2
      subst e1 e2
      have keep : ∀ b o, b ≠ 760 → s.heap.get? b = some o → h9.get? b = some o := fun b o hb e => hm'.heap b o (by
        intro hmem
        have hb' := Heap.lt_size e
        rcases List.mem_cons.mp hmem with q | hmem
        · rw [q] at hb'
          exact Nat.lt_irrefl _ (Nat.lt_trans hb' hsz₃)
        · rw [List.mem_singleton.mp hmem] at hb'
          exact Nat.lt_irrefl _ hb') (hk₅ _ _ (nk b o hb e))
      have keep760 : h9.get? 760 = some (tabO tb') := hm'.heap _ _ (by
        intro hmem
        rcases List.mem_cons.mp hmem with q | hmem
        · rw [q] at h760
          exact Nat.lt_irrefl _ (Nat.lt_trans h760 hsz₃)
        · rw [List.mem_singleton.mp hmem] at h760
          exact Nat.lt_irrefl _ h760) (hk₅ _ _ h760')
      have hjs : joinS (xs.map (·.1)) = Txt.join (Str.ofString " ") (xs.map fun x => quoteS x.1) := by simp [joinS, Function.comp_def]
      rw [← hjs]
      have hL760 : L ≠ 760 := fun e => (N (760, tabO tb) (by simp)).2.1 e.symm
      refine hQ t' h9 k gs9 tb' ((G.push hgb).movedS hm') ⟨?_, fun b o e => keep b o (fun q => ?_) (F.keep b o e), F.above⟩ ?_
      · exact F.ns.at' fun o e => keep _ o hL760 e
      · rw [q] at e
        have := (N (760, tabO tb) (by simp)).2.2
        rw [e] at this
        cases this
      · intro p hp
        rcases List.mem_cons.mp hp with rfl | hp'
        · exact ⟨keep760, (N (760, tabO tb) (by simp)).2⟩
        · have := N p (List.mem_cons_of_mem _ hp')
          refine ⟨keep p.1 p.2 (fun q => ?_) this.1, this.2⟩
          rcases List.mem_cons.mp hp' with rfl | hp'
          · exact hl760 q
          · exact hcl p hp' q
    · have hn : (passing allT (strV xs).toArray.size 0).length = xs.length := by simp [pass_all, strV]
      rw [hn]
      exact Nat.le_trans hl (by decide)
end
section
set_option maxRecDepth 100000
set_option maxHeartbeats 8000000
noncomputable abbrev JClaim (prog : Program) (w : World) (K : Frag) (p : Program) (loose : List Str) (mean : ExcName → Option Value) (mg mb : Str → Option Value) (f : Addr) (tb : Option Addr) (news : List (Addr × Obj)) (pre : Prop) (vs : List Value) (R : Tok → Value) : Prop :=
  ∀ (dp un : Nat) (gd : Option (List Code)) (cn : Str) (cs : Scope) (a : Addr) (ccd : Value) (cl : List (Str × Addr)) (outer : List Env) (A₀ : Around) (base h₀ : Heap) (L : Addr) (m : Str → Option Value) (s : Shared) (Q E : Value → Shared → Prop),
    Below A₀ base outer h₀ → Fr h₀ L s.heap m → K.In h₀ → News h₀ L s.heap ((760, tabO tb) :: news) → Top p loose mean mg mb h₀ → cs.kind = .function →
    pre → dp + 50 < recursionLimit → un + 450 < cLine → AllBare s.gens →
    (∀ (t : Tok) (h' : Heap) (tk : Nat) (gs' : Array GenState) (tb' : Option Addr), AllBare gs' → Fr h₀ L h' m → News h₀ L h' ((760, tabO tb') :: news) → Q (R t) { s with heap := h', gens := gs', toks := tk }) →
      wpAny (model prog w) (ktrTop dp un gd cn cs L a ccd cl outer) (call (.ref f) vs) Q E s
theorem join_c (w : World) (mean : ExcName → Option Value) (mg mb : Str → Option Value) (xs : List (Str × Tok)) (l : Addr) (tb : Option Addr) (news : List (Addr × Obj)) :
    JClaim PySem.Challenge.pw_ny0408_01 w (Mine.K w.params) Mine.vw loose mean mg mb 765 tb ((l, lisO (strV xs)) :: news) (xs.length ≤ 100 ∧ (∀ x ∈ xs, quoteOk x.1) ∧ JoinOk (Str.ofString " ") (xs.map fun x => quoteS x.1) = true ∧ ∀ p ∈ news, p.1 ≠ 760) [.ref l] (fun t => .str (joinS (xs.map (·.1))) t) := by
  refine fill ?_
  k_fill
  intro _
  dsimp only [JClaim]
  intros
  rename_i hret
  rename_i hpre hdp hun hG
  obtain ⟨hl, hx, hj, hcl⟩ := hpre
  refine wpAny_call ?_
  k_dflt cell_enter
  k_with_none
  k_with "eval GeneratorExp" => refine halt ?_
  k_steps
  unfold Halt
  refine wpAny_mono (join_gen (xs := xs) (tb := tb) (news := news) (l := l) (by assumption) (by assumption) (by assumption) (by assumption) (by assumption) rfl rfl rfl ?_ ?_ hG hx hj hl hcl ⟨rfl, rfl⟩ ?_) (fun v s₁ h => Calls.spliced_nil h) (fun _ _ e => e)
  · simp only [depth_deeper]; lia
  · simp only [units_deeper]; lia
  · intro t h' tk gs tb' hG' F' N'
    exact leaveK_ F' N' fun kF kN => hret t h' tk gs tb' hG' kF kN
end
section
set_option maxRecDepth 100000
set_option maxHeartbeats 8000000
theorem made_611 (P : Params) (S : Setting) : peek (Mine.K P) S (Bind.madeBy (.ref 611)) = some none := by kernel_rfl
theorem made_134 (P : Params) (S : Setting) : peek (Mine.K P) S (Bind.madeBy (.ref 134)) = some none := by kernel_rfl
theorem made_107 (P : Params) (S : Setting) : peek (Mine.K P) S (Bind.madeBy (.ref 107)) = some none := by kernel_rfl
theorem made_obj (P : Params) (S : Setting) : peek (Mine.K P) S (Bind.madeBy (.type "object")) = some (some "object.__new__") := by kernel_rfl
theorem base_611 (P : Params) (S : Setting) : peek (Mine.K P) S (Bind.staticBase (.ref 611)) = some (.type "object") := by kernel_rfl
end
section
set_option maxRecDepth 100000
set_option maxHeartbeats 8000000
section
variable {prog : Program} {w : World} {A : Around} {R : Result → Shared → Prop} {h : Heap} {g : Array GenState} {d : Drawn} {t : Nat} {os : OsState}
theorem type_611 (P : Params) (S : Setting) : peek (Mine.K P) S (isInstance (.ref 611) (.type "type")) = some true := by kernel_rfl
theorem new_S (X : (Mine.K w.params).In h) (hq : R (.ok (.ret (.ref (h.objs.size + 1)))) ⟨(h.push emptyDict).push (instObj 611 h.objs.size), g, d, t, os⟩) :
    codeAny (model prog w) A (.call (.builtin "object.__new__") ⟨[.ref 611], []⟩) R ⟨h, g, d, t, os⟩ := by
  have hC := X 611 (k611 w.params) rfl
  have typ : Looks (model prog w) h (isInstance (.ref 611) (.type "type")) true := Looks.of_peek X (type_611 _ _)
  have made : Looks (model prog w) h (Bind.madeBy (.type "object")) (some "object.__new__") := Looks.of_peek X (made_obj _ _)
  have base : Looks (model prog w) h (Bind.staticBase (.ref 611)) (.type "object") := Looks.of_peek X (base_611 _ _)
  have F := PySem.F.objNew
  refine codeAny_call_builtin_code (Code.quiet_builtin _ F.quiet) ?_
  simp only [checkBuiltinCall, F.kind, F.split, F.row]
  have here : Looks (model prog w) h (Bind.madeHere "object.__new__" (.ref 611)) () := base.andThen (made.andThen (Looks.of_pure (by simp only [Option.map_some, bne_self_eq_false, Bool.false_eq_true, if_false])))
  have args : Bind.checkArgs "object.__new__" ⟨.hand, "object.__new__", "__new__", .cls, []⟩ ⟨[.ref 611], []⟩ = pure () := by kernel_rfl
  rw [args]
  repeat (first | simp only [bne_self_eq_false, Bool.false_eq_true, if_false] | lk)
  refine codeAny_builtin F.entry ?_
  unfold Builtin.«object.__new__»
  have fin : ∀ A', wpAny (model prog w) A' (do
      let d ← if typeHasDict (.ref 611) then some <$> alloc { cls := .type "dict", data := .dict #[] } else pure none
      ret (← newObj (.ref 611) .plain d)) (fun fin s' => match fin with | .done f => R (.ok f) s' | .again c' => c'.quiet = true ∧ codeAny (model prog w) A c' R s') (fun e s' => R (.error e) s') ⟨h, g, d, t, os⟩ := by
    intro A'
    show wpAny _ _ ((alloc emptyDict >>= fun x => pure (some x)) >>= _) _ _ _
    refine wpAny_bind (wpAny_bind (wpAny_alloc (wpAny_pure (wpAny_bind ?_))))
    show wpAny _ _ (newObjAsIs _ _ _) _ _ _
    unfold newObjAsIs classHasDel
    refine wpAny_bind (wpAny_alloc (wpAny_bind (wpAny_bind (wpAny_load (Heap.get?_push_of_some _ (Heap.get?_push_of_some _ hC)) (wpAny_pure ?_)))))
    dsimp only
    refine wpAny_pure (wpAny_pure ?_)
    show R _ _
    rw [Heap.size_push]
    exact hq
  repeat (first | simp only [Bool.false_eq_true, if_false] | exact fin _ | lk)
end
end
section
set_option maxRecDepth 100000
set_option maxHeartbeats 8000000
theorem call_611 (P : Params) (S : Setting) : peek (Mine.K P) S (specialOf (.ref 611) "__call__") = some (some (.builtin "type.__call__")) := by kernel_rfl
theorem sub_611 (P : Params) (S : Setting) : peek (Mine.K P) S (isSubtype (.ref 611) (.ref 611)) = some true := by kernel_rfl
theorem init_611 (P : Params) (S : Setting) : peek (Mine.K P) S (typeLookup (.ref 611) "__init__") = some (some (.ref 381)) := by kernel_rfl
theorem bind_381 (P : Params) (S : Setting) (self : Value) : peek (Mine.K P) S (bindSpecial (.ref 381) self) = some (.ref 381, [self]) := by kernel_rfl
theorem reads_611 (P : Params) : readsIn (Mine.K P) 611 (.type "type") = true := by kernel_rfl
theorem find_611 (P : Params) : findCls (Mine.K P) (.ref 611) (.type "type") "__new__" = some (.get (.builtin "staticmethod.__get__") (.ref 108) .none (.ref 611)) := by kernel_rfl
theorem rec_108 (P : Params) : recIn (Mine.K P) 108 "staticmethod" = some [.ref 104] := by kernel_rfl
theorem get_611 {prog : Program} {w : World} {A : Around} {E : Value → Shared → Prop} {s : Shared} {Q : Value → Shared → Prop} (X : (Mine.K w.params).In s.heap) (h : Q (.ref 104) { s with toks := s.toks + 1 }) :
    wpAny (model prog w) A (getAttr (.ref 611) "__new__") Q E s :=
  cls_bind X (reads_611 _) (find_611 _) (wpAny_call (sm_get (s := { s with toks := s.toks + 1 }) X (rec_108 _) (handed_on rfl h)))
theorem make_S {prog : Program} {w : World} {A : Around} {R : Result → Shared → Prop} {s : Shared} {rest : List Value} {kw : List (Str × Value)} (X : (Mine.K w.params).In s.heap)
    (hq : wpAny (model prog w) (A.under (.builtin "type.__call__" ⟨.ref 611 :: rest, kw⟩)) (call (.ref 104) (.ref 611 :: rest) kw) (fun v s' => ∃ x dx, v = .ref x ∧ s'.heap.get? x = some (instObj 611 dx) ∧ (Mine.K w.params).In s'.heap ∧
      codeAny (model prog w) (A.under (.builtin "type.__call__" ⟨.ref 611 :: rest, kw⟩)) (.call (.ref 381) ⟨.ref x :: rest, kw⟩) (InitBack x R) s') (fun e s' => R (.error e) s') { s with toks := s.toks + 1 }) :
    codeAny (model prog w) A (.call (.ref 611) ⟨rest, kw⟩) R s := by
  obtain ⟨h, g, d, t, os⟩ := s
  have hC := X 611 (k611 w.params) rfl
  dsimp only at hC
  have typ : Looks (model prog w) h (isInstance (.ref 611) (.type "type")) true := Looks.of_peek X (type_611 _ _)
  have made : Looks (model prog w) h (Bind.madeBy (.ref 611)) none := Looks.of_peek X (made_611 _ _)
  have call : Looks (model prog w) h (specialOf (.ref 611) "__call__") (some (.builtin "type.__call__")) := Looks.of_peek X (call_611 _ _)
  refine codeAny_of_tree ?_
  show wpAny _ _ (callAny (.ref 611) _) _ _ _
  refine nd_load hC ?_
  show wpAny _ _ (callAny.viaDunder (.ref 611) _) _ _ _
  unfold callAny.viaDunder
  refine wpAny_bind (call.at ?_)
  dsimp only
  rw [tc_bind]
  refine wpAny_bind (wpAny_pure (wpAny_bind (wpAny_pure ?_)))
  refine wpAny_pure (a := Fin.again (.call (.builtin "type.__call__") ⟨.ref 611 :: rest, kw⟩)) (And.intro rfl ?_)
  refine codeAny_call_builtin_at (Code.quiet_builtin _ (by decide +kernel)) entry_typeCall (check_slot tc_kind tc_split typ (tc_args _ _ _) ?_)
  unfold Builtin.«type.__call__»
  have mr : Looks (model prog w) h (mroOf (.ref 611)) [Value.ref 611, Value.ref 134, Value.ref 107, Value.type "object"] := ((Looks.ld (part := none) hC).andThen .now).andThen .now
  dsimp only at hq
  repeat (first | (with_reducible refine wpAny_mono hq (fun v s' z => ?_) fun _ _ z => z) | (with_reducible refine get_611 (s := ⟨h, g, d, t, os⟩) X ?_) | simp only [List.isEmpty_cons, Bool.false_eq_true, if_false] | lk)
  obtain ⟨x, dx, rfl, hx, X', hz⟩ := z
  obtain ⟨h', g', d', t', os'⟩ := s'
  dsimp only at hx X' hz
  have t1 : Looks (model prog w) h' (typeOf (.ref x)) (.ref 611) := (Looks.ld hx).andThen .now
  have s1 : Looks (model prog w) h' (isSubtype (.ref 611) (.ref 611)) true := Looks.of_peek X' (sub_611 _ _)
  have i1 : Looks (model prog w) h' (typeLookup (.ref 611) "__init__") (some (.ref 381)) := Looks.of_peek X' (init_611 _ _)
  have b1 : Looks (model prog w) h' (bindSpecial (.ref 381) (.ref x)) (.ref 381, [.ref x]) := Looks.of_peek X' (bind_381 _ _ _)
  unfold callSpecial? specialOf
  repeat (first | with_reducible refine wpAny_call ?_ | lk)
  refine codeAny_mono hz fun r s' z => ?_
  rcases r with e | (v | _ | _ | _) <;> first | exact z | exact z.elim | skip
  obtain ⟨rfl, z⟩ := z
  exact wpAny_pure (wpAny_pure z)
end
section
local macro_rules | `(tactic| walk_at "execs cons") => `(tactic| (refine tkGen fun _ => ?_; walk_at "execs cons"))
section
set_option maxRecDepth 100000
set_option maxHeartbeats 8000000
theorem allNe_lt {d : Addr} {l : List (Addr × Obj)} (h : ∀ p ∈ l, p.1 < d) : ∀ p ∈ l, p.1 ≠ d := fun p hp => Nat.ne_of_lt (h p hp)
theorem allNe_of {d : Addr} {l : List (Addr × Obj)} (h : AllLt d l) : ∀ p ∈ l, p.1 ≠ d := by
  induction l with
  | nil => intro p hp; cases hp
  | cons q r ih =>
    intro p hp
    rcases List.mem_cons.mp hp with rfl | hp
    · exact Nat.ne_of_lt h.1
    · exact ih h.2 p hp
theorem newS_K {prog : Program} {w : World} {A : Around} {E Q : Value → Shared → Prop} {s : Shared} {h₀ : Heap} {L : Addr} {m : Str → Option Value} {news : List (Addr × Obj)} (X : (Mine.K w.params).In h₀) (F : Fr h₀ L s.heap m) (N : News h₀ L s.heap news)
    (h : ∀ x dx h', Fr h₀ L h' m → News h₀ L h' ((x, instObj 611 dx) :: (dx, PySem.W.dictOf [] 0) :: news) → (∀ p ∈ news, p.1 < dx) → dx < x → Q (.ref x) { s with heap := h' }) :
    wpAny (model prog w) A (call (.builtin "object.__new__") [.ref 611]) Q E s := by
  obtain ⟨hh, g, d, t, os⟩ := s
  have N' := (N.push F emptyDict).push (F.push _) (instObj 611 hh.objs.size)
  rw [Heap.size_push] at N'
  exact wpAny_call (new_S (X.keeps F.keep) (h _ hh.objs.size _ ((F.push _).push _) N' (fun p hp => Heap.lt_size (N p hp).1) (Nat.lt_succ_self _)))
noncomputable abbrev ent (P : Params) (k : Str) (t : Tok) (v : Value) : DictEntry := { hash := PyData.keyHash P k, key := .str k t, val := v }
noncomputable abbrev sioD (P : Params) (x : Str) (tx : Tok) (k : Int) (tk t1 t2 t3 : Tok) : Obj := PySem.W.dictOf [ent P (Str.ofString "_StringIO__newline") t1 (.str (Str.ofString "\n") 792), ent P (Str.ofString "_StringIO__buf") t2 (.str x tx), ent P (Str.ofString "_StringIO__pos") t3 (.int k tk)] 3
theorem sio_c (w : World) (mean : ExcName → Option Value) (mg mb : Str → Option Value) (x : Str) (tx : Tok) (news : List (Addr × Obj)) (dp un : Nat) (gd : Option (List Code)) (cn : Str) (cs : Scope) (a : Addr) (ccd : Value) (cl : List (Str × Addr)) (outer : List Env) (A₀ : Around) (base h₀ : Heap) (L : Addr) (m : Str → Option Value) (s : Shared) (Q E : Value → Shared → Prop)
    (hB : Below A₀ base outer h₀) (hF : Fr h₀ L s.heap m) : (Mine.K w.params).In h₀ → News h₀ L s.heap news → Top Mine.vw loose mean mg mb h₀ → cs.kind = .function → dp + 10 < recursionLimit → un + 100 < cLine →
    (∀ y dy tk t1 t2 t3 h' tk', (∀ p ∈ news, p.1 < dy) → dy < y → Fr h₀ L h' m → News h₀ L h' ((y, instObj 611 dy) :: (dy, sioD w.params x tx 0 tk t1 t2 t3) :: news) → Q (.ref y) { s with heap := h', toks := tk' }) →
    wpAny (model PySem.Challenge.pw_ny0408_01 w) (ktrTop dp un gd cn cs L a ccd cl outer) (call (.ref 611) [.str x tx]) Q E s := by
  refine fill ?_
  k_fill
  intro _ hX hN hT hK hdp hun hret
  refine wpAny_call (make_S (by k_in) ?_)
  refine wpAny_call ?_
  k_dflt (refine' kp_both ?k1 ?k2 ?k3 ?k4 ?k5 ?kA ?kF ?kK ?k6 ?k7 ?k8 ?kV ?kX ?kQ ?kM ?kN ?kD ?kR ?kP ?kS ?kT ?kB ?_ ?c2 ?c3 ?c4 ?c5; (case kA => exact rfl); (case kF => exact rfl); (case kK => assumption); (case k1 => k_asm); (case k2 => k_asm); (case k3 => k_asm); (case k4 => k_asm); (case k5 => k_asm); (case k6 => k_is); (case k7 => k_is); (case k8 => k_room); (case kV => kp_lit); (case kX => kp_lit); (case kQ => exact rfl); (case kM => exact rfl); (case kN => exact rfl); (case kD => kp_flats); (case kR => exact rfl); (case kP => exact rfl); (case kS => exact fun _ => rfl); (case kT => exact fun _ _ => rfl); (case kB => exact fun _ _ => locs rfl); (case c5 => decide); (case c2 => exact rfl); (case c3 => exact rfl); (case c4 => exact rfl); k_whole; intro C' D' o' g' L' h' tk' l1 l2 lo' hs' fs' FG' F' N' B' X' T'; (try k_lt l1); (try k_lt2 l2); (try dsimp only); (try k_lift B'); (try k_fold))
  k_with_none
  k_with "call builtin:object.__new__" => refine halt ?_
  k_steps
  unfold Halt
  refine newS_K (by k_asm) (by k_asm) (by k_asm) ?_
  intro y dy h9 F9 N9 l1 l2
  refine leaveK_ F9 (news' := (y, instObj 611 dy) :: (dy, PySem.W.dictOf [] 0) :: news) (cb_drop N9 (by simp only [List.mem_cons]; rintro p (h | h | h) <;> simp [h])) ?_
  intro kF kN
  refine ⟨y, dy, rfl, (kN (y, instObj 611 dy) (by simp)).1, hX.keeps kF.keep, ?_⟩
  have l1' : ∀ p ∈ news, p.1 < dy := fun p hp => l1 p (by simp [hp])
  clear N9 F9 l1
  k_lt2 l2
  k_dflt (refine' code_def ?k1 ?k2 ?k3 ?k4 ?k5 ?kA ?kF ?kK ?k6 ?k7 ?k8 ?k9 ?kB ?_ ?c2 ?c3 ?c4 ?c5; (case kA => exact rfl); (case kF => exact rfl); (case kK => assumption); (case k1 => k_asm); (case k2 => k_asm); (case k3 => k_asm); (case k4 => k_asm); (case k5 => k_asm); (case k6 => k_is); (case k7 => k_is); (case k8 => k_room); (case k9 => exact binds_K (hX.keeps kF.keep) rfl (by k_is) rfl rfl rfl); (case c5 => decide); (case kB => exact locs rfl); (case c2 => exact rfl); (case c3 => exact rfl); (case c4 => exact rfl); k_whole; intro g' L' h' FG' F' N' B' X' T'; (try dsimp only); (try k_lift B'); (try k_fold))
  k_with_none
  k_steps
  exact hret y dy _ _ _ _ _ _ l1' l2 (by k_asm) (by k_asm)
end
section
local macro_rules | `(tactic| walk_at "ite") => `(tactic| (k_here; k_closed; first | refine ite_pos (by decide +kernel) ?_ | refine ite_neg (by decide +kernel) ?_))
section
set_option maxRecDepth 100000
set_option maxHeartbeats 8000000
noncomputable def chAt (x : Str) (k : Nat) : Str := sOf ((cl x).drop k |>.take 1)
noncomputable def nx (x : Str) (k : Nat) : Nat := if k < x.length then k + 1 else k
theorem slice_kj {x : Str} {k : Nat} {j : Int} (h1 : (k : Int) ≤ j) (h2 : j ≤ x.length) : Txt.slice x (some (k : Int)) (some j) = sOf ((cl x).drop k |>.take (j - k).toNat) := by
  have := eq_of_beq (slice_closesL (x := x) (i := (k : Int)) (j := j) (by lia) h1 h2)
  rw [this]
  simp [sOf]
theorem read_c (w : World) (mean : ExcName → Option Value) (mg mb : Str → Option Value) (x : Str) (tx : Tok) (k : Nat) (ti tk t1 t2 t3 : Tok) (y dy : Addr) (rest : List (Addr × Obj)) (dp un : Nat) (gd : Option (List Code)) (cn : Str) (cs : Scope) (a : Addr) (ccd : Value) (cel : List (Str × Addr)) (outer : List Env) (A₀ : Around) (base h₀ : Heap) (L : Addr) (m : Str → Option Value) (s : Shared) (Q E : Value → Shared → Prop)
    (hB : Below A₀ base outer h₀) (hF : Fr h₀ L s.heap m) : (Mine.K w.params).In h₀ → News h₀ L s.heap ((y, instObj 611 dy) :: (dy, sioD w.params x tx k tk t1 t2 t3) :: rest) → Top Mine.vw loose mean mg mb h₀ → cs.kind = .function → dp + 10 < recursionLimit → un + 100 < cLine →
    k ≤ x.length → x.length ≤ 1000 → @Ne Nat y dy → (∀ p ∈ rest, p.1 ≠ dy) →
    (∀ t tk h' tk', Fr h₀ L h' m → News h₀ L h' ((y, instObj 611 dy) :: (dy, sioD w.params x tx (nx x k : Nat) tk t1 t2 t3) :: rest) → Q (.str (chAt x k) t) { s with heap := h', toks := tk' }) →
    wpAny (model PySem.Challenge.pw_ny0408_01 w) (ktrTop dp un gd cn cs L a ccd cel outer) (call (.ref 557) [.ref y, .int 1 ti]) Q E s := by
  refine fill ?_
  k_fill
  intro _ hX hN hT hK hdp hun hk hx hy hrest hret
  refine wpAny_call ?_
  k_dflt (refine' code_def ?k1 ?k2 ?k3 ?k4 ?k5 ?kA ?kF ?kK ?k6 ?k7 ?k8 ?k9 ?kB ?_ ?c2 ?c3 ?c4 ?c5; (case kA => exact rfl); (case kF => exact rfl); (case kK => assumption); (case k1 => k_asm); (case k2 => k_asm); (case k3 => k_asm); (case k4 => k_asm); (case k5 => k_asm); (case k6 => k_is); (case k7 => k_is); (case k8 => k_room); (case k9 => first | exact BindsTo.of_eq rfl | exact binds_K (hX.keeps hF.keep) rfl (by k_is) rfl rfl rfl); (case c5 => decide); (case kB => exact locs rfl); (case c2 => exact rfl); (case c3 => exact rfl); (case c4 => exact rfl); k_whole; intro g' L' h' FG' F' N' B' X' T'; (try dsimp only); (try k_lift B'); (try k_fold))
  k_with_none
  k_steps
  · have e : chAt x k = Str.ofString "" := by
      have : (cl x).length = x.length := len_cl x
      have : x.length = k := by lia
      simp only [chAt]
      rw [List.drop_of_length_le (by lia)]
      rfl
    have e2 : nx x k = k := if_neg (by lia)
    rw [← e]
    exact hret _ _ _ _ (by k_asm) (by rw [e2]; k_asm)
  · have e : Txt.slice x (some (k : Int)) (some ((k : Int) + 1)) = chAt x k := by
      rw [slice_kj (by lia) (by lia)]
      have : (((k : Int) + 1) - k).toNat = 1 := by lia
      rw [this]
      rfl
    have e2 : ((nx x k : Nat) : Int) = (k : Int) + 1 := by rw [nx, if_pos (by lia)]; rfl
    rw [e]
    exact hret _ _ _ _ (by k_asm) (by rw [e2]; k_asm)
  · have e : Txt.slice x (some (k : Int)) (some (x.length : Int)) = chAt x k := by
      rw [slice_kj (by lia) (by lia)]
      have : ((x.length : Int) - k).toNat = 1 := by lia
      rw [this]
      rfl
    have e2 : ((nx x k : Nat) : Int) = (x.length : Int) := by rw [nx, if_pos (by lia)]; lia
    rw [e]
    exact hret _ _ _ _ (by k_asm) (by rw [e2]; k_asm)
end
section
set_option maxRecDepth 100000
set_option maxHeartbeats 8000000
noncomputable abbrev dqO : Obj := { cls := .type "collections.deque", data := .fields #[.none, .int 0 0] }
theorem dq_sub : isSubtype (.type "collections.deque") (.type "collections.deque") = pure true := by rw [isSubtype_type]; kernel_rfl
theorem dq_notType : (Value.type "collections.deque" == Value.type "type") = false := by decide +kernel
theorem dq_can : ((Manifest.find? "collections.deque").bind fun x => List.findSome? (fun t => (Manifest.find? t).bind fun b =>
    if b.noNew = true then some true else if (b.attrs.any fun x => x.fst == "__new__") = true then some false else none) x.mro).getD false = false := by kernel_rfl
theorem dq_vec (args : Args) : checkTypeCall "collections.deque" args = pure () := by kernel_rfl
theorem dq_mro : ∃ m, mroOf (.type "collections.deque") = pure m ∧ m.isEmpty = false := ⟨[.type "collections.deque", .type "object"], by rw [mroOf_type]; kernel_rfl, rfl⟩
theorem dq_madeBy : Bind.madeBy (.type "collections.deque") = pure (some "collections.deque.__new__") := by kernel_rfl
theorem dq_newOk : checkBuiltinCall "collections.deque.__new__" ⟨[.type "collections.deque"], []⟩ = pure () := by kernel_rfl
theorem dq_entry : entryFor table "collections.deque.__new__" = some Builtin.«collections.deque.__new__» := entryFor_of_tree (by kernel_rfl)
theorem dq_initEntry : entryFor table "collections.deque.__init__" = some Builtin.«collections.deque.__init__» := entryFor_of_tree (by kernel_rfl)
theorem dq_init : Slot "collections.deque" "__init__" "collections.deque.__init__" := .of (owner := "collections.deque") (n := "__init__") (by rw [typeLookup_type, builtinLookup_eq_fast]; kernel_rfl) (by decide +kernel) (by decide +kernel) (by decide +kernel)
    (by first | exact .inl (by decide +kernel) | exact .inr (by decide +kernel)) (by rw [isSubtype_type]; kernel_rfl)
section
variable {prog : Program} {w : World} {A : Around}
theorem dq_new {R : Result → Shared → Prop} {hp : Heap} {g : Array GenState} {d : Drawn} {tk : Nat} {os : OsState}
    (h : R (.ok (.ret (.ref hp.objs.size))) ⟨hp.push dqO, g, d, tk, os⟩) :
    codeAny (model prog w) A (.builtin "collections.deque.__new__" ⟨[.type "collections.deque"], []⟩) R ⟨hp, g, d, tk, os⟩ := by
  have hsub := dq_sub
  refine codeAny_builtin dq_entry ?_
  unfold Builtin.«collections.deque.__new__»
  repeat lk
  exact h
theorem dq_chk {M : Model} {E : Value → Shared → Prop} {Q : Unit → Shared → Prop} {s : Shared} {e : Addr} (he : s.heap.get? e = some dqO) (h : Q () s) : wpAny M A (checkBuiltinCall "collections.deque.__init__" ⟨[.ref e], []⟩) Q E s := by
  refine dq_init.check _ _ _ _ _ _ _ _ ⟨_, he, rfl⟩ (by unfold argsOk; kernel_rfl) h
theorem dq_ini {E : Value → Shared → Prop} {Q : Value → Shared → Prop} {hp : Heap} {g : Array GenState} {d : Drawn} {tk : Nat} {os : OsState} {e : Addr} (he : hp.get? e = some dqO)
    (h : Q .none ⟨hp.update e (Obj.mapFields (·.setIfInBounds 0 .none)), g, d, tk, os⟩) : wpAny (model prog w) A (call (.builtin "collections.deque.__init__") [.ref e]) Q E ⟨hp, g, d, tk, os⟩ := by
  refine wpAny_call (codeAny_call_builtin dq_init.plain dq_initEntry (dq_chk he ?_))
  unfold Builtin.«collections.deque.__init__»
  dsimp only
  repeat lk
  refine wpAny_update he ?_
  have he2 : (hp.update e (Obj.mapFields fun x => x.setIfInBounds 0 Value.none)).get? e = some dqO := by
    rw [Heap.get?_update_self _ he rfl]; rfl
  dsimp only
  repeat lk
  exact h
theorem dq_type {E : Value → Shared → Prop} {Q : Fin → Shared → Prop} {hp : Heap} {g : Array GenState} {d : Drawn} {tk : Nat} {os : OsState}
    (h : Q (.done (.ret (.ref hp.objs.size))) ⟨(hp.push dqO).update hp.objs.size (Obj.mapFields (·.setIfInBounds 0 .none)), g, d, tk, os⟩) :
    wpAny (model prog w) A (Builtin.«type.__call__» ⟨[.type "collections.deque"], []⟩) Q E ⟨hp, g, d, tk, os⟩ := by
  have hnt := dq_notType
  have hcan := dq_can
  have hchk := dq_vec ⟨[], []⟩
  obtain ⟨m, hmro, hne⟩ := dq_mro
  have hmade := dq_madeBy
  wp_walk
  refine codeAny_call_builtin_code (Code.quiet_builtin _ (by decide +kernel)) (wpAny_of_eq dq_newOk ?_)
  refine dq_new ?_
  show wpAny _ _ _ _ _ _
  have hget : (hp.push dqO).get? hp.objs.size = some dqO := Heap.get?_push_size _ rfl
  refine wpAny_bind (wpAny_isInstance ⟨_, hget, rfl⟩ dq_sub ?_)
  wp_step
  refine wpAny_bind (wpAny_holding (wpAny_callSpecial?_slot ⟨_, hget, rfl⟩ dq_init (dq_ini hget ?_)))
  wp_walk
  exact h
theorem dq_call {E : Value → Shared → Prop} {s : Shared} {Q : Value → Shared → Prop} {h₀ : Heap} {L : Addr} {mp : Str → Option Value} {news : List (Addr × Obj)} (F : Fr h₀ L s.heap mp) (N : News h₀ L s.heap news)
    (h : ∀ a h', (∀ p ∈ news, p.1 < a) → Fr h₀ L h' mp → News h₀ L h' ((a, dqO) :: news) → Q (.ref a) { s with heap := h' }) : wpAny (model prog w) A (call (.type "collections.deque") []) Q E s := by
  obtain ⟨hp, g, d, tk, os⟩ := s
  refine wpAny_call (codeAny_of_tree ?_)
  show wpAny _ _ (callAny (.type "collections.deque") ⟨[], []⟩) _ _ _
  simp only [callAny]
  refine wpAny_pure ⟨Code.quiet_builtin _ (by decide +kernel), codeAny_builtin entry_type_call (dq_type ?_)⟩
  have lt : ∀ p ∈ news, p.1 < hp.objs.size := fun p hp => Heap.lt_size (N p hp).1
  have N1 := N.push F dqO
  have F1 := F.push dqO
  obtain ⟨F2, N2⟩ := news_upd (pre := []) (post := news) (d := hp.objs.size) (o := dqO) (o' := dqO) (f := Obj.mapFields (·.setIfInBounds 0 .none)) F1 N1 (fun _ h => nomatch h) (fun p h => Nat.ne_of_lt (lt p h)) rfl rfl
  exact h _ _ lt F2 N2
end
end
section
set_option maxRecDepth 100000
set_option maxHeartbeats 8000000
theorem dq_noBool : typeLookup (.type "collections.deque") "__bool__" = pure none := by rw [typeLookup_type, builtinLookup_eq_fast]; kernel_rfl
theorem dq_len : Slot "collections.deque" "__len__" "collections.deque.__len__" := .of (owner := "collections.deque") (n := "__len__") (by rw [typeLookup_type, builtinLookup_eq_fast]; kernel_rfl) (by decide +kernel) (by decide +kernel) (by decide +kernel)
    (by first | exact .inl (by decide +kernel) | exact .inr (by decide +kernel)) (by rw [isSubtype_type]; kernel_rfl)
theorem dq_lenEntry : entryFor table "collections.deque.__len__" = some Builtin.«collections.deque.__len__» := entryFor_of_tree (by kernel_rfl)
section
variable {prog : Program} {w : World} {A : Around} {E : Value → Shared → Prop} {s : Shared}
theorem dq_lenBody {l : Addr} {Q : Value → Shared → Prop} (hl : s.heap.get? l = some dqO) (h : Q (.int 0 (s.toks + 1)) { s with toks := s.toks + 1 + 1 }) :
    wpAny (model prog w) A (Builtin.«len» ⟨[.ref l], []⟩) (fun fin s' => ∃ r, fin = .done (.ret r) ∧ Q r s') E s := by
  have hT : s.TypeIs (.ref l) "collections.deque" := (show ∃ o, s.heap.get? l = some o ∧ o.cls = .type "collections.deque" from ⟨_, hl, rfl⟩)
  unfold Builtin.«len»
  refine wpAny_bind (m := oneArg "len" _) (wpAny_pure ?_)
  refine wpAny_bind (m := callSpecial? (.ref l) (Str.ofString "__len__")) (wpAny_callSpecial?_slot (name := Str.ofString "__len__") hT dq_len
    (wpAny_call_entry dq_len hT dq_lenEntry ?_ (by unfold argsOk; kernel_rfl)))
  obtain ⟨hp, g, d, tk, os⟩ := s
  dsimp only at hl h
  unfold Builtin.«collections.deque.__len__»
  repeat lk
  refine ⟨_, rfl, ?_⟩
  dsimp only
  refine wpAny_bind (wpAny_holding (wpAny_pure ?_))
  refine wpAny_bind (wpAny_letGo ?_)
  show wpAny _ _ (if ((0 : Nat) : Int) < 0 then _ else _) _ _ _
  rw [if_neg (by lia)]
  show wpAny _ _ (if ((0 : Nat) : Int) ≥ 2 ^ 63 then _ else _) _ _ _
  rw [if_neg (by lia)]
  exact wpAny_bind (wpAny_mkInt (wpAny_pure ⟨_, rfl, h⟩))
theorem dq_truthy {l : Addr} {Q : Bool → Shared → Prop} (hl : s.heap.get? l = some dqO) (h : Q false { s with toks := s.toks + 1 + 1 }) : wpAny (model prog w) A (truthy (.ref l)) Q E s := by
  have hT : s.TypeIs (.ref l) "collections.deque" := (show ∃ o, s.heap.get? l = some o ∧ o.cls = .type "collections.deque" from ⟨_, hl, rfl⟩)
  have key : wpAny (model prog w) A (runValue (.builtin "len" ⟨[.ref l], []⟩)) (fun r s' => r = .int 0 (s.toks + 1) ∧ Q false s') E s := by
    refine wpAny_runValue (codeAny_builtin entry_len ?_)
    rw [Around.under_plainId plain_len _]
    exact wpAny_mono (dq_lenBody (Q := fun r s' => r = .int 0 (s.toks + 1) ∧ Q false s') hl ⟨rfl, h⟩)
      (fun fin s' h' => by obtain ⟨r, rfl, hq⟩ := h'; exact hq) fun _ _ e => e
  unfold truthy
  first
    | refine wpAny_bind (wpAny_callSpecial?_none (name := Str.ofString "__bool__") hT dq_noBool ?_)
    | refine wpAny_bind (wpAny_pure (wpAny_bind (wpAny_callSpecial?_none (name := Str.ofString "__bool__") hT dq_noBool ?_)))
  first
    | refine wpAny_bind (wpAny_specialOf (name := Str.ofString "__len__") hT dq_len.lookup ?_)
    | refine wpAny_bind (wpAny_pure (wpAny_bind (wpAny_specialOf (name := Str.ofString "__len__") hT dq_len.lookup ?_)))
  refine wpAny_bind (wpAny_mono key (fun r s' hr => ?_) fun _ _ e => e)
  obtain ⟨rfl, hq⟩ := hr
  exact wpAny_pure hq
end
end
section
set_option maxRecDepth 100000
set_option maxHeartbeats 8000000
noncomputable abbrev lexD (P : Params) (y pb fs : Addr) (st tok : Value) (t0 t1 t2 t3 t4 t5 t6 t7 t8 t9 t10 t11 t12 t13 t14 t15 t16 t17 t18 t19 t20 t21 t22 t23 t24 t25 t26 t27 : Tok) : Obj := PySem.W.dictOf [ent P (Str.ofString "instream") t0 (.ref y), ent P (Str.ofString "infile") t1 .none, ent P (Str.ofString "posix") t2 (.bool true), ent P (Str.ofString "eof") t3 .none, ent P (Str.ofString "commenters") t4 (.str (Str.ofString "") t5), ent P (Str.ofString "wordchars") t6 (.str (Str.ofString "abcdfeghijklmnopqrstuvwxyzABCDEFGHIJKLMNOPQRSTUVWXYZ0123456789_ßàáâãäåæçèéêëìíîïðñòóôõöøùúûüýþÿÀÁÂÃÄÅÆÇÈÉÊËÌÍÎÏÐÑÒÓÔÕÖØÙÚÛÜÝÞ") t7), ent P (Str.ofString "whitespace") t8 (.str (Str.ofString " \t\x0d\n") t9), ent P (Str.ofString "whitespace_split") t10 (.bool true), ent P (Str.ofString "quotes") t11 (.str (Str.ofString "'\"") t12), ent P (Str.ofString "escape") t13 (.str (Str.ofString "\\") t14), ent P (Str.ofString "escapedquotes") t15 (.str (Str.ofString "\"") t16), ent P (Str.ofString "state") t17 st, ent P (Str.ofString "pushback") t18 (.ref pb), ent P (Str.ofString "lineno") t19 (.int 1 t20), ent P (Str.ofString "debug") t21 (.int 0 t22), ent P (Str.ofString "token") t23 tok, ent P (Str.ofString "filestack") t24 (.ref fs), ent P (Str.ofString "source") t25 .none, ent P (Str.ofString "_punctuation_chars") t26 (.str (Str.ofString "") t27)] 19
end
section
local macro_rules | `(tactic| walk_at "ite") => `(tactic| (k_here; k_openite; first | (refine ite_pos (by with_reducible assumption) ?_) | (refine ite_neg (by with_reducible assumption) ?_) | (k_spoken; first | (refine ite_pos (by lia) ?_) | (refine ite_neg (by lia) ?_))))
local macro_rules | `(tactic| kst_allIn) => `(tactic| ((fail_if_success with_reducible apply of_cons); intro p9 h9; kst_mem))
section
set_option maxRecDepth 100000
set_option maxHeartbeats 8000000
noncomputable def Same (a b : List Nat) (k : Int) : Prop := a.take k.toNat = b.take k.toNat
theorem same_zero (a b : List Nat) : Same a b 0 := rfl
theorem loop1_exit {x y : Str} {k : Int} (h3 : Same (cl x) (cl y) k) (h0 : 0 ≤ k) (h1 : k ≤ (x.length : Int)) (h2 : k ≤ (y.length : Int))
    (e : (x.length : Int) ≤ k ∨ (y.length : Int) ≤ k ∨ ((Txt.item x k == Txt.item y k) = false ∧ k < x.length ∧ k < y.length)) : k = (preLen (cl x) (cl y) : Int) := by
  have lx := len_cl x
  have ly := len_cl y
  have : preLen (cl x) (cl y) = k.toNat := by
    refine preLen_exit _ _ _ (lx ▸ Int.toNat_le.mpr h1) (ly ▸ Int.toNat_le.mpr h2) h3 ?_
    rcases e with e | e | ⟨e, e1, e2⟩
    · exact .inl (by lia)
    · exact .inr (.inl (by lia))
    · refine .inr (.inr fun q => ?_)
      rw [item_at h0 e1, item_at h0 e2, q] at e
      simp at e
  lia
theorem loop1_turn {x y : Str} {k : Int} (h3 : Same (cl x) (cl y) k) (h0 : 0 ≤ k)
    (e : (Txt.item x k == Txt.item y k) = true) (e1 : k < x.length) (e2 : k < y.length) : Same (cl x) (cl y) (k + 1) := by
  have lx := len_cl x
  have ly := len_cl y
  unfold Same
  rw [up_nat h0]
  refine take_step (lx ▸ (Int.toNat_lt h0).mpr e1) (ly ▸ (Int.toNat_lt h0).mpr e2) h3 ?_
  rw [item_at h0 e1, item_at h0 e2] at e
  have e' := sOf_inj (eq_of_beq e)
  simpa using e'
theorem neg_len {x : Str} {k : Int} (h0 : k < 0) (h1 : 0 ≤ (x.length : Int) + k) : ((Txt.slice x none (some k)).length : Int) = x.length + k := by
  rw [slice_neg h0 h1, len_sOf, List.length_take, len_cl, Nat.min_eq_left (Int.toNat_le.mpr (Int.le_of_lt (add_neg_lt _ h0))), Int.toNat_of_nonneg h1]
theorem neg_room {x : Str} {k : Int} {A B : List Nat} (_ : Same A B (-k)) (h0 : k < 0) (h1 : 0 ≤ (x.length : Int) + k) (h : ((Txt.slice x none (some k)).length : Int) ≠ 0) : -k < x.length := by
  have := neg_len h0 h1
  lia
theorem neg_full {x : Str} {k : Int} {A B : List Nat} (_ : Same A B (-k)) (h0 : k < 0) (h1 : 0 ≤ (x.length : Int) + k) (h : ((Txt.slice x none (some k)).length : Int) = 0) : (x.length : Int) ≤ -k := by
  have := neg_len h0 h1
  lia
theorem cut_neg {A : List Nat} {q : Nat} (h0 : -(q : Int) ≠ 0) (h1 : q ≤ A.length) : Txt.slice (sOf A) none (some (-(q : Int))) = sOf (A.take (A.length - q)) := by
  have la := len_sOf A
  rw [slice_neg (Int.lt_iff_le_and_ne.mpr ⟨Int.neg_nonpos_of_nonneg (Int.natCast_nonneg q), h0⟩) (by rw [la]; exact Int.sub_nonneg_of_le (Int.ofNat_le.mpr h1)), cl_sOf, la]
  congr 2
  exact Int.toNat_sub _ _
theorem cut_zero {A : List Nat} {q : Nat} (h0 : -(q : Int) = 0) : sOf A = sOf (A.take (A.length - q)) := by
  have : q = 0 := by lia
  subst this
  simp
theorem np_of {k : Int} (h0 : k ≤ 0) : ∃ m : Nat, k = -(m : Int) := ⟨(-k).toNat, by rw [Int.toNat_of_nonneg (Int.neg_nonneg_of_nonpos h0), Int.neg_neg]⟩
theorem pre_neg (n m : Nat) : (n : Int) + (-(m : Int) - 1) = (n : Int) - ((m + 1 : Nat) : Int) := by
  rw [Int.natCast_add, Int.sub_eq_add_neg, Int.sub_eq_add_neg, Int.neg_add]; rfl
theorem neg_pre {k : Int} (h0 : k ≤ 0) : (-(k - 1)).toNat = (-k).toNat + 1 := by
  obtain ⟨m, rfl⟩ := np_of h0
  rw [Int.neg_sub, Int.sub_neg, Int.neg_neg, Int.add_comm]; rfl
theorem rev_idx {n : Nat} {k : Int} (h0 : k ≤ 0) (h : -k < n) : n - 1 - (-k).toNat = ((n : Int) + (k - 1)).toNat := by
  obtain ⟨m, rfl⟩ := np_of h0
  rw [Int.neg_neg, Int.toNat_natCast, pre_neg, Int.toNat_sub, Nat.sub_sub, Nat.add_comm]
theorem neg_in {n : Nat} {k : Int} (h0 : k ≤ 0) (h : -k < n) : k - 1 < 0 ∧ 0 ≤ (n : Int) + (k - 1) ∧ (-k).toNat < n := by
  refine ⟨Int.lt_of_lt_of_le (Int.sub_lt_self k (by decide)) h0, ?_, (Int.toNat_lt (Int.neg_nonneg_of_nonpos h0)).mpr h⟩
  obtain ⟨m, rfl⟩ := np_of h0
  rw [Int.neg_neg] at h
  rw [pre_neg]
  exact Int.sub_nonneg_of_le (Int.ofNat_le.mpr (Int.ofNat_lt.mp h))
theorem same_rev_step {A B : List Nat} {k : Int} (h3 : Same A.reverse B.reverse (-k)) (h0 : k ≤ 0) (e1 : -k < A.length) (e2 : -k < B.length)
    (e : (Txt.item (sOf A) (k - 1) == Txt.item (sOf B) (k - 1)) = true) : Same A.reverse B.reverse (-(k - 1)) := by
  have la := len_sOf A
  have lb := len_sOf B
  rw [item_neg (neg_in h0 e1).1 (by rw [la]; exact (neg_in h0 e1).2.1), item_neg (neg_in h0 e2).1 (by rw [lb]; exact (neg_in h0 e2).2.1), cl_sOf, cl_sOf, la, lb] at e
  have e' := sOf_inj (eq_of_beq e)
  simp only [List.cons.injEq, and_true] at e'
  unfold Same
  rw [neg_pre h0]
  refine take_step (by rw [List.length_reverse]; exact (neg_in h0 e1).2.2) (by rw [List.length_reverse]; exact (neg_in h0 e2).2.2) h3 ?_
  rw [rev_getD (neg_in h0 e1).2.2, rev_getD (neg_in h0 e2).2.2]
  rw [rev_idx h0 e1, rev_idx h0 e2, e']
theorem same_rev_exit {A B : List Nat} {k : Int} (h3 : Same A.reverse B.reverse (-k)) (h0 : k ≤ 0) (h1 : -k ≤ A.length) (h2 : -k ≤ B.length)
    (e : (A.length : Int) ≤ -k ∨ (B.length : Int) ≤ -k ∨ ((Txt.item (sOf A) (k - 1) == Txt.item (sOf B) (k - 1)) = false ∧ -k < A.length ∧ -k < B.length)) : k = -(preLen A.reverse B.reverse : Int) := by
  have la := len_sOf A
  have lb := len_sOf B
  have : preLen A.reverse B.reverse = (-k).toNat := by
    refine preLen_exit _ _ _ (by rw [List.length_reverse]; exact Int.toNat_le.mpr h1) (by rw [List.length_reverse]; exact Int.toNat_le.mpr h2) h3 ?_
    rw [List.length_reverse, List.length_reverse]
    rcases e with e | e | ⟨e, e1, e2⟩
    · exact .inl (by lia)
    · exact .inr (.inl (by lia))
    · refine .inr (.inr fun q => ?_)
      rw [rev_getD (neg_in h0 e1).2.2, rev_getD (neg_in h0 e2).2.2] at q
      rw [rev_idx h0 e1, rev_idx h0 e2] at q
      rw [item_neg (neg_in h0 e1).1 (by rw [la]; exact (neg_in h0 e1).2.1), item_neg (neg_in h0 e2).1 (by rw [lb]; exact (neg_in h0 e2).2.1), cl_sOf, cl_sOf, la, lb, q] at e
      simp at e
  lia
theorem ints_row0 : ∀ (vs : List Value) (a : Int) (n : Nat), vs.length = n → (∀ (j : Nat) (v : Value), vs[j]? = some v → ∃ t, v = .int (a + j * 2) t) → IntsAre vs ((List.range n).map fun (i : Nat) => a + 2 * (i : Int))
  | [], a, n, e, _ => by subst e; exact IntsAre.nil
  | v :: r, a, n, e, h => by
    subst e
    rw [List.length_cons, List.range_succ_eq_map, List.map_cons, List.map_map]
    obtain ⟨t, ht⟩ := h 0 v rfl
    have hv : v = .int (a + 2 * ((0 : Nat) : Int)) t := by rw [ht]; simp
    subst hv
    have ih := ints_row0 r (a + 2) r.length rfl fun j v hj => by
      obtain ⟨t', ht'⟩ := h (j + 1) v hj
      refine ⟨t', ht'.trans ?_⟩
      congr 1
      lia
    refine IntsAre.cons _ _ ?_
    have e : (List.range r.length).map ((fun (i : Nat) => a + 2 * (i : Int)) ∘ Nat.succ) = (List.range r.length).map fun (i : Nat) => a + 2 + 2 * (i : Int) := by
      apply List.map_congr_left
      intro i _
      simp only [Function.comp]
      lia
    rw [e]
    exact ih
theorem row0_eq (n : Nat) : ((List.range n).map fun (i : Nat) => (2 : Int) + 2 * (i : Int)) = row0 n := by
  unfold row0
  apply List.map_congr_left
  intro i _
  lia
theorem small2 {k : Nat} (h : k ≤ 40) : Builtin.Range.small 2 (2 * ((k : Int) + 1)) 2 = true := by
  have hn : Builtin.Range.rangeSize 2 (2 * ((k : Int) + 1)) 2 = (k : Int) := by
    unfold Builtin.Range.rangeSize
    rw [if_pos (by decide)]
    split <;> lia
  unfold Builtin.Range.small
  rw [hn]
  simp [Builtin.Range.rangeFitsLong]
  lia
section
variable {prog : Program} {w : World} {A : Around} {E : Value → Shared → Prop} {s : Shared} {h₀ : Heap} {L r : Addr} {m : Str → Option Value} {news : List (Addr × Obj)} {t₀ u₀ v₀ : Tok} {n k : Nat} {Q : Value → Shared → Prop}
theorem list_range2 (hh : A.handled = none) (F : Fr h₀ L s.heap m) (N : News h₀ L s.heap news) (hr : IsRange s.heap r 2 (2 * ((k : Int) + 1)) 2 t₀ u₀ v₀) (hk : k = n) (hz : n ≤ 40)
    (h : ∀ D us c h' tk, Fr h₀ L h' m → News h₀ L h' ((D, listOf (List.toArray us) c) :: news) → (∀ p ∈ news, p.1 < D) → IntsAre us (row0 n) → Q (.ref D) { s with heap := h', toks := tk }) :
    wpAny (model prog w) A (call (.type "list") [.ref r]) Q E s := by
  subst hk
  have hn : Builtin.Range.rangeSize 2 (2 * ((k : Int) + 1)) 2 = (k : Int) := by
    unfold Builtin.Range.rangeSize
    rw [if_pos (by decide)]
    split <;> lia
  have hs : Builtin.Range.small 2 (2 * ((k : Int) + 1)) 2 = true := by
    exact small2 (by lia)
  refine call_list_range hh hr hs hn (by lia) fun h' tk acc c hk hD hI => ?_
  have hD' : h'.get? s.heap.objs.size = some (listOf (List.toArray acc.toList) c) := by
    rw [Array.toArray_toList]
    exact hD
  refine h _ acc.toList c h' tk (F.keeps hk) (news_pushed F N hk hD' rfl) (fun p hp => Heap.lt_size (N p hp).1) ?_
  rw [← row0_eq]
  exact ints_row0 _ _ _ (by rw [Array.length_toList]; exact hI.1) fun j v hj => hI.2 j v (by rw [← hj, Array.getElem?_toList])
end
theorem levD_far {A B : List Nat} {mc : Int} (h : mc < ((((sOf B).length : Int) - (sOf A).length) * 2)) : mc + 1 = levD A B mc := by
  unfold levD
  rw [len_sOf, len_sOf] at h
  rw [if_pos (by lia)]
noncomputable def OInv (A B : List Nat) (mc : Int) (k : Nat) (row : List Int) (res : Int) : Prop := orun A B mc k (row0 A.length) = some (row, res)
noncomputable def IInv (c : Nat) (A : List Nat) (k : Nat) (s : Int × Int × Int × List Int) (d res mn : Int) (row : List Int) : Prop := (d, res, mn, row) = iters c A k s
theorem oinv_zero (A B : List Nat) (mc : Int) : OInv A B mc 0 (row0 A.length) 0 := rfl
theorem iinv_zero (c : Nat) (A : List Nat) (s : Int × Int × Int × List Int) : IInv c A 0 s s.1 s.2.1 s.2.2.1 s.2.2.2 := rfl
theorem iters_succ (c : Nat) (A : List Nat) (n : Nat) (s : Int × Int × Int × List Int) : iters c A (n + 1) s = istep c A n (iters c A n s) := rfl
theorem iinv_step {c : Nat} {A : List Nat} {kPre : List Int} {kN : Int} {s : Int × Int × Int × List Int} {d res mn sc : Int} {row : List Int} (h : IInv c A kPre.length s d res mn row) (e : kN = 0 + (kPre.length : Int)) (hx : sc = scN c (A.getD kN.toNat 0)) {r : Int}
    (hr : r = if d + sc < (if row.getD kN.toNat 0 < res then row.getD kN.toNat 0 else res) + 2 then d + sc else (if row.getD kN.toNat 0 < res then row.getD kN.toNat 0 else res) + 2) :
    IInv c A (kPre ++ [kN]).length s (row.getD kN.toNat 0) r (if r < mn then r else mn) (row.set kN.toNat r) := by
  have ek : kN.toNat = kPre.length := by lia
  rw [ek] at hx hr ⊢
  unfold IInv at h ⊢
  rw [List.length_append, List.length_singleton, iters_succ, ← h]
  subst hx
  subst hr
  rfl
theorem iinv_lt {c : Nat} {A : List Nat} {kPre : List Int} {kN : Int} {s : Int × Int × Int × List Int} {d res mn sc : Int} {row : List Int} (h : IInv c A kPre.length s d res mn row) (e : kN = 0 + (kPre.length : Int)) (hx : sc = scN c (A.getD kN.toNat 0))
    (hl : (if d + sc < (if row.getD kN.toNat 0 < res then row.getD kN.toNat 0 else res) + 2 then d + sc else (if row.getD kN.toNat 0 < res then row.getD kN.toNat 0 else res) + 2) < mn) :
    IInv c A (kPre ++ [kN]).length s (row.getD kN.toNat 0) (if d + sc < (if row.getD kN.toNat 0 < res then row.getD kN.toNat 0 else res) + 2 then d + sc else (if row.getD kN.toNat 0 < res then row.getD kN.toNat 0 else res) + 2) (if d + sc < (if row.getD kN.toNat 0 < res then row.getD kN.toNat 0 else res) + 2 then d + sc else (if row.getD kN.toNat 0 < res then row.getD kN.toNat 0 else res) + 2) (row.set kN.toNat (if d + sc < (if row.getD kN.toNat 0 < res then row.getD kN.toNat 0 else res) + 2 then d + sc else (if row.getD kN.toNat 0 < res then row.getD kN.toNat 0 else res) + 2)) := by
  have := iinv_step h e hx rfl
  rwa [if_pos hl] at this
theorem iinv_ge {c : Nat} {A : List Nat} {kPre : List Int} {kN : Int} {s : Int × Int × Int × List Int} {d res mn sc : Int} {row : List Int} (h : IInv c A kPre.length s d res mn row) (e : kN = 0 + (kPre.length : Int)) (hx : sc = scN c (A.getD kN.toNat 0))
    (hl : ¬ (if d + sc < (if row.getD kN.toNat 0 < res then row.getD kN.toNat 0 else res) + 2 then d + sc else (if row.getD kN.toNat 0 < res then row.getD kN.toNat 0 else res) + 2) < mn) :
    IInv c A (kPre ++ [kN]).length s (row.getD kN.toNat 0) (if d + sc < (if row.getD kN.toNat 0 < res then row.getD kN.toNat 0 else res) + 2 then d + sc else (if row.getD kN.toNat 0 < res then row.getD kN.toNat 0 else res) + 2) mn (row.set kN.toNat (if d + sc < (if row.getD kN.toNat 0 < res then row.getD kN.toNat 0 else res) + 2 then d + sc else (if row.getD kN.toNat 0 < res then row.getD kN.toNat 0 else res) + 2)) := by
  have := iinv_step h e hx rfl
  rwa [if_neg hl] at this
theorem sc_eq {A B : List Nat} {j k : Int} (h1 : 0 ≤ j) (h2 : j < ((sOf B).length : Int)) (h3 : 0 ≤ k) (h4 : k < ((sOf A).length : Int)) : scost (Txt.item (sOf B) j) (Txt.item (sOf A) k) = scN (B.getD j.toNat 0) (A.getD k.toNat 0) := by
  rw [item_at h1 h2, item_at h3 h4, cl_sOf, cl_sOf]
  rfl
theorem to0 (n : Nat) : ((n : Int) - 0).toNat = n := by lia
theorem oinv_some {A B : List Nat} {mc kN d res res0 mn : Int} {kPre : List Int} {n : Nat} {r0 row : List Int} (h : OInv A B mc kPre.length r0 res0) (i : IInv (B.getD kN.toNat 0) A n (kN * 2, kN * 2, 9223372036854775807, r0) d res mn row)
    (e : kN = 0 + (kPre.length : Int)) (hn : n = (((sOf A).length : Int) - 0).toNat) (hm : ¬ mn > mc) : OInv A B mc (kPre ++ [kN]).length row res := by
  rw [to0, len_sOf] at hn
  have ek : kN = (kPre.length : Int) := by lia
  subst ek
  subst hn
  unfold OInv at h ⊢
  unfold IInv at i
  rw [List.length_append, List.length_singleton]
  simp only [orun]
  rw [h]
  simp only [Int.toNat_natCast] at i
  simp only [← i]
  rw [if_neg hm]
theorem orun_none {A B : List Nat} {mc : Int} {k : Nat} {r0 : List Int} (h : orun A B mc k r0 = none) : ∀ n, k ≤ n → orun A B mc n r0 = none
  | 0, hk => by
    have : k = 0 := by lia
    subst this
    exact h
  | n + 1, hk => by
    by_cases e : k = n + 1
    · subst e; exact h
    · simp only [orun]
      rw [orun_none h n (by lia)]
theorem lev_early {A B : List Nat} {mc kN d res res0 mn : Int} {kPre : List Int} {n : Nat} {r0 row : List Int} (h : OInv A B mc kPre.length r0 res0) (i : IInv (B.getD kN.toNat 0) A n (kN * 2, kN * 2, 9223372036854775807, r0) d res mn row)
    (e : kN = 0 + (kPre.length : Int)) (hn : n = (((sOf A).length : Int) - 0).toNat) (hm : mn > mc) (hl : kN < ((sOf B).length : Int)) : mc + 1 = levD A B mc := by
  rw [to0, len_sOf] at hn
  rw [len_sOf] at hl
  have ek : kN = (kPre.length : Int) := by lia
  subst ek
  subst hn
  unfold OInv at h
  unfold IInv at i
  have z : orun A B mc (kPre.length + 1) (row0 A.length) = none := by
    simp only [orun]
    rw [h]
    simp only [Int.toNat_natCast] at i
    simp only [← i]
    rw [if_pos hm]
  have y := orun_none z B.length (by lia)
  unfold levD
  rw [y]
  split <;> rfl
theorem lev_done {A B : List Nat} {mc res : Int} {n : Nat} {row : List Int} (h : OInv A B mc n row res) (hn : n = (((sOf B).length : Int) - 0).toNat) (hf : ¬ mc < (((sOf B).length : Int) - (sOf A).length) * 2) : res = levD A B mc := by
  rw [to0, len_sOf] at hn
  rw [len_sOf, len_sOf] at hf
  have hf : ¬ 2 * ((B.length : Int) - A.length) > mc := by lia
  subst hn
  unfold OInv at h
  unfold levD
  rw [if_neg hf, h]
theorem levR_nil {A B : List Nat} {mc : Int} (h : A.length = 0 ∨ B.length = 0) : 2 * (((sOf A).length : Int) + (sOf B).length) = levR A B mc := by
  have : A = [] ∨ B = [] := h.imp List.length_eq_zero_iff.mp List.length_eq_zero_iff.mp
  unfold levR
  rw [if_pos this, len_sOf, len_sOf]
theorem levR_cons {A B : List Nat} {mc : Int} (h1 : A.length ≠ 0) (h2 : B.length ≠ 0) : levR A B mc = levD (if B.length < A.length then B else A) (if B.length < A.length then A else B) mc := by
  have : ¬ (A = [] ∨ B = []) := by
    rintro (h | h)
    · rw [h] at h1; exact h1 rfl
    · rw [h] at h2; exact h2 rfl
  unfold levR
  rw [if_neg this]
  split <;> rfl
theorem meas_up {n : Nat} {k : Int} (h0 : 0 ≤ k) (h : k < n) : n - (k + 1).toNat < n - k.toNat := by
  rw [up_nat h0]
  exact Nat.sub_succ_lt_self _ _ ((Int.toNat_lt h0).mpr h)
theorem meas_dn {n : Nat} {k : Int} (h0 : k ≤ 0) (h : -k < n) : n - (-(k - 1)).toNat < n - (-k).toNat := by
  rw [neg_pre h0]
  exact Nat.sub_succ_lt_self _ _ (neg_in h0 h).2.2
theorem ix0 {k : Int} {n : Nat} (e : k = 0 + (n : Int)) : 0 ≤ k := by lia
theorem ix1 {k : Int} {n m : Nat} (e : k = 0 + (n : Int)) (h : n < ((m : Int) - 0).toNat) : k < m := by
  rw [Int.sub_zero, Int.toNat_natCast] at h
  rw [e, Int.zero_add]
  exact Int.ofNat_lt.mpr h
theorem ix_fits {k : Int} {n : Nat} (h0 : 0 ≤ k) (h : k < n) (z : n ≤ 40) : fitsSsize k = true := fitsSsize_of (N := 9223372036854775808) (by lia) (by lia) (Int.le_refl _)
theorem ix_neg {k : Int} {n : Nat} (h0 : 0 ≤ k) : -(n : Int) ≤ k := by lia
noncomputable def SameLen (l : List Int) (x : Str) : Prop := l.length = x.length
theorem SameLen.set {l : List Int} {x : Str} (h : SameLen l x) (i : Nat) (v : Int) : SameLen (l.set i v) x := (List.length_set).trans h
theorem from_room {x : Str} {k : Int} (h0 : 0 ≤ k) (h1 : k ≤ x.length) (z : x.length ≤ 40) (h : ((Txt.slice x (some k) none).length : Int) ≠ 0) : k < x.length := by
  rw [slice_from h0 h1, len_sOf, List.length_drop, len_cl] at h
  exact Int.lt_iff_le_and_ne.mpr ⟨h1, fun e => h (by rw [e, Int.toNat_natCast, Nat.sub_self]; rfl)⟩
theorem lev_c (w : World) (mean : ExcName → Option Value) (mg mb : Str → Option Value) (x y : Str) (mc : Int) (tx ty tm : Tok) (news : List (Addr × Obj)) :
    MClaim PySem.Challenge.pw_ny0408_01 w (Mine.K w.params) Mine.vw loose mean mg mb 58 news (x.length ≤ 40 ∧ y.length ≤ 40 ∧ 0 ≤ mc ∧ mc ≤ 1000) [.str x tx, .str y ty, .int mc tm] (fun t => .int (levL (cl x) (cl y) mc) t) := by
  refine fill ?_
  k_fill
  intro _
  dsimp only [MClaim, CbRet]
  intros
  rename_i s Q E hB hF hI hN hT hc hxy hdp hun hret
  obtain ⟨sH, sG, sD, sT, sO⟩ := s
  dsimp only at hF hN hret
  refine wpAny_call ?_
  k_dflt cell_enter
  rename_i gX LX hX FGX FX NX BX XX TX
  k_with_none
  k_with "exec While BoolOp cons nil" => refine halt ?_
  k_steps
  · refine cb_retI (s := ⟨sH, sG, sD, sT, sO⟩) hret ?_ (by k_asm) (by k_asm)
    rename (x == y) = true => e
    rw [eq_of_beq e]; simp [levL]
  · unfold Halt
    refine cutS (σ := Tok) (by k_asm) (fun _ => news) (fun t => [(Str.ofString "a", .str x tx), (Str.ofString "b", .str y ty), (Str.ofString "max_cost", .int mc tm), (Str.ofString "pre", .int (preLen (cl x) (cl y)) t)]) (fun _ => True) ?_ ?_
    · intro Q' hq
      k_with "exec While BoolOp cons nil" => k_while_given ["a", "b"] (fun a b script pre => 0 ≤ pre ∧ pre ≤ (a.length : Int) ∧ pre ≤ (b.length : Int) ∧ Same (cl a) (cl b) pre) (fun a b script pre => a.length - pre.toNat) "pre"
      have hx4 := hxy.1
      have hy4 := hxy.2.1
      k_with "subscriptTail Name Name str int" => ((try (have q8 := from_room (x := x) (by assumption) (by assumption) hx4 (by assumption))); (try (have q7 := from_room (x := y) (by assumption) (by assumption) hy4 (by assumption))); (refine item_str (ix_fits (by assumption) (by assumption) (by assumption)) (ix_neg (by assumption)) (by assumption) ?_); intro _)
      k_with "measure" => exact meas_up (by assumption) (by first | assumption | lia)
      k_with "state" => first | (refine ⟨by lia, by lia, by lia, loop1_turn (by assumption) (by assumption) (by assumption) (by lia) (by lia)⟩) | (exact ⟨by lia, by lia, by lia, same_zero _ _⟩)
      k_steps
      all_goals (have e := loop1_exit (x := x) (y := y) (by assumption) (by assumption) (by assumption) (by assumption) (by first | exact .inl (by lia) | exact .inr (.inl (by lia)) | exact .inr (.inr ⟨by assumption, by lia, by lia⟩)))
      all_goals (subst e)
      all_goals (refine hq _ _ _ _ trivial (toB _ (by k_asm) (by kst_all)) (by k_asm))
    · intro t u h tk _ F N
      simp only [kstB] at F
      k_with_none
      k_with "exec While BoolOp cons nil" => refine halt ?_
      k_steps
      unfold Halt
      have hp1 := (preLen_le (cl x) (cl y)).1
      have hp2 := (preLen_le (cl x) (cl y)).2
      have lx := len_cl x
      have ly := len_cl y
      (rename Fr _ _ _ _ => F1)
      rw [slice_from (x := x) (by lia) (by lia), slice_from (x := y) (by lia) (by lia)] at F1
      simp only [Int.toNat_natCast] at F1
      have lA : ((cl x).drop (preLen (cl x) (cl y))).length ≤ 40 := Nat.le_trans (by rw [List.length_drop]; exact Nat.sub_le _ _) (Nat.le_trans (Nat.le_of_eq lx) hxy.1)
      have lB : ((cl y).drop (preLen (cl x) (cl y))).length ≤ 40 := Nat.le_trans (by rw [List.length_drop]; exact Nat.sub_le _ _) (Nat.le_trans (Nat.le_of_eq ly) hxy.2.1)
      have hne : levL (cl x) (cl y) mc = levS ((cl x).drop (preLen (cl x) (cl y))) ((cl y).drop (preLen (cl x) (cl y))) mc := by
        unfold levL
        rw [if_neg]
        intro q
        rename (x == y) = false => e
        have : x = y := by rw [← sOf_cl x, q, sOf_cl]
        simp [this] at e
      rw [hne] at hret
      clear hne hp1 hp2 lx ly
      generalize (cl x).drop (preLen (cl x) (cl y)) = A1 at *
      generalize (cl y).drop (preLen (cl x) (cl y)) = B1 at *
      have la := len_sOf A1
      have lb := len_sOf B1
      refine cutS (σ := Tok × Tok × Tok) F1 (fun _ => news) (fun t => [(Str.ofString "a", .str (sOf A1) t.1), (Str.ofString "b", .str (sOf B1) t.2.1), (Str.ofString "max_cost", .int mc tm), (Str.ofString "post", .int (-(preLen A1.reverse B1.reverse : Int)) t.2.2)]) (fun _ => True) ?_ ?_
      · intro Q' hq
        k_with "exec While BoolOp cons nil" => k_while (fun script post => post ≤ 0 ∧ -post ≤ (A1.length : Int) ∧ -post ≤ (B1.length : Int) ∧ Same A1.reverse B1.reverse (-post)) (fun script post => A1.length - (-post).toNat) "post"
        k_with "measure" => exact meas_dn (by assumption) (by first | assumption | lia)
        k_with "state" => first | (refine ⟨by lia, by lia, by lia, same_rev_step (by assumption) (by lia) (by lia) (by lia) (by assumption)⟩) | (exact ⟨by lia, by lia, by lia, same_zero _ _⟩)
        k_with "subscriptTail Name Slice str ref" => ((with_reducible rename Fr _ _ _ _ => F9); (with_reducible rename News _ _ _ _ => N9); (refine slice_strN_nn (hsz := ?hsz9) (s := ⟨_, _, _, _, _⟩) F9 N9 ?_); (case hsz9 => size_fits); intro _ _ _ _ _; (simp only [slice_all]))
        k_with "subscriptTail Name BinOp str int" => ((try (have q8 := neg_room (x := sOf A1) (by assumption) (by lia) (by lia) (by assumption))); (try (have q7 := neg_room (x := sOf B1) (by assumption) (by lia) (by lia) (by assumption))); (refine item_str (fitsSsize_of (N := 9223372036854775808) (by lia) (by lia) (Int.le_refl _)) (by lia) (by lia) ?_); intro _)
        k_steps
        all_goals (first | (exfalso; lia) | skip)
        all_goals (try (have q8 := neg_room (x := sOf A1) (by assumption) (by lia) (by lia) (by assumption)))
        all_goals (try (have q7 := neg_room (x := sOf B1) (by assumption) (by lia) (by lia) (by assumption)))
        all_goals (try (have q8 := neg_full (x := sOf A1) (by assumption) (by lia) (by lia) (by assumption)))
        all_goals (try (have q7 := neg_full (x := sOf B1) (by assumption) (by lia) (by lia) (by assumption)))
        all_goals (have e := same_rev_exit (A := A1) (B := B1) (by assumption) (by assumption) (by assumption) (by assumption) (by first | exact .inl (by lia) | exact .inr (.inl (by lia)) | exact .inr (.inr ⟨by assumption, by lia, by lia⟩)))
        all_goals (subst e)
        all_goals (refine hq (_, _, _) _ _ _ trivial (toB _ (by k_asm) (by kst_all)) (by k_asm))
      · intro t u h tk _ F N
        obtain ⟨t1, t2, t3⟩ := t
        simp only [kstB] at F
        k_with_none
        k_with "exec Assign cons" => refine halt ?_
        k_steps
        unfold Halt
        have hq1 := (preLen_le A1.reverse B1.reverse).1
        have hq2 := (preLen_le A1.reverse B1.reverse).2
        rw [List.length_reverse] at hq1 hq2
        have hne : levS A1 B1 mc = levR (A1.take (A1.length - preLen A1.reverse B1.reverse)) (B1.take (B1.length - preLen A1.reverse B1.reverse)) mc := rfl
        rw [hne] at hret
        clear hne
        have hA2 : (A1.take (A1.length - preLen A1.reverse B1.reverse)).length ≤ 40 := Nat.le_trans (List.length_take_le _ _) (Nat.le_trans (Nat.sub_le _ _) lA)
        have hB2 : (B1.take (B1.length - preLen A1.reverse B1.reverse)).length ≤ 40 := Nat.le_trans (List.length_take_le _ _) (Nat.le_trans (Nat.sub_le _ _) lB)
        refine cutS (σ := Tok) F (fun _ => news) (fun t => [(Str.ofString "a", .str (sOf (A1.take (A1.length - preLen A1.reverse B1.reverse))) t), (Str.ofString "b", .str (sOf B1) t2), (Str.ofString "max_cost", .int mc tm), (Str.ofString "post", .int (-(preLen A1.reverse B1.reverse : Int)) t3)]) (fun _ => True) ?_ ?_
        · intro Q' hq
          k_with_none
          k_with "subscriptTail Name Slice str ref" => ((with_reducible rename Fr _ _ _ _ => F9); (with_reducible rename News _ _ _ _ => N9); (refine slice_strN_nn (hsz := ?hsz9) (s := ⟨_, _, _, _, _⟩) F9 N9 ?_); (case hsz9 => size_fits); intro _ _ _ _ _; (simp only [slice_all]))
          k_steps
          · (rename Fr _ _ _ _ => F9)
            rw [cut_neg (by lia) (by lia)] at F9
            refine hq _ _ _ _ trivial (toB _ F9 (by kst_all)) (by k_asm)
          · (rename Fr _ _ _ _ => F9)
            rw [cut_zero (A := A1) (q := preLen A1.reverse B1.reverse) (by lia)] at F9
            refine hq _ _ _ _ trivial (toB _ F9 (by kst_all)) (by k_asm)
        · intro t u h tk _ F N
          simp only [kstB] at F
          k_with_none
          k_with "exec Assign cons" => refine halt ?_
          k_steps
          unfold Halt
          refine cutS (σ := Tok) F (fun _ => news) (fun t' => [(Str.ofString "a", .str (sOf (A1.take (A1.length - preLen A1.reverse B1.reverse))) t), (Str.ofString "b", .str (sOf (B1.take (B1.length - preLen A1.reverse B1.reverse))) t'), (Str.ofString "max_cost", .int mc tm)]) (fun _ => True) ?_ ?_
          · intro Q' hq
            k_with_none
            k_with "subscriptTail Name Slice str ref" => ((with_reducible rename Fr _ _ _ _ => F9); (with_reducible rename News _ _ _ _ => N9); (refine slice_strN_nn (hsz := ?hsz9) (s := ⟨_, _, _, _, _⟩) F9 N9 ?_); (case hsz9 => size_fits); intro _ _ _ _ _; (simp only [slice_all]))
            k_steps
            · (rename Fr _ _ _ _ => F9)
              rw [cut_neg (by lia) (by lia)] at F9
              refine hq _ _ _ _ trivial (toB _ F9 (by kst_all)) (by k_asm)
            · (rename Fr _ _ _ _ => F9)
              rw [cut_zero (A := B1) (q := preLen A1.reverse B1.reverse) (by lia)] at F9
              refine hq _ _ _ _ trivial (toB _ F9 (by kst_all)) (by k_asm)
          · intro t' u' h' tk' _ F N
            simp only [kstB] at F
            clear hq1 hq2 la lb
            generalize A1.take (A1.length - preLen A1.reverse B1.reverse) = A2 at *
            generalize B1.take (B1.length - preLen A1.reverse B1.reverse) = B2 at *
            have la := len_sOf A2
            have lb := len_sOf B2
            k_with_none
            k_with "exec If Compare" => refine halt ?_
            k_steps
            rotate_left
            · refine cb_retI (s := ⟨sH, sG, sD, sT, sO⟩) hret ?_ (by k_asm) (by k_asm)
              exact levR_nil (by lia)
            · refine cb_retI (s := ⟨sH, sG, sD, sT, sO⟩) hret ?_ (by k_asm) (by k_asm)
              exact levR_nil (by lia)
            · unfold Halt
              have hne : levR A2 B2 mc = levD (if B2.length < A2.length then B2 else A2) (if B2.length < A2.length then A2 else B2) mc := levR_cons (by lia) (by lia)
              rw [hne] at hret
              refine cutS (σ := Tok × Tok) F (fun _ => news) (fun t => [(Str.ofString "a", .str (sOf (if B2.length < A2.length then B2 else A2)) t.1), (Str.ofString "b", .str (sOf (if B2.length < A2.length then A2 else B2)) t.2), (Str.ofString "max_cost", .int mc tm)]) (fun _ => True) ?_ ?_
              · intro Q' hq
                k_with_none
                k_steps
                · (rename Fr _ _ _ _ => F9)
                  have e1 : (if B2.length < A2.length then B2 else A2) = B2 := if_pos (by lia)
                  have e2 : (if B2.length < A2.length then A2 else B2) = A2 := if_pos (by lia)
                  rw [e1, e2] at hq
                  refine hq (_, _) _ _ _ trivial (toB _ F9 (by kst_all)) (by first | k_asm | (refine' cb_drop ?cbN ?cbS; (case cbN => assumption); (case cbS => first | (with_reducible exact fun _ h => List.mem_cons_of_mem _ (by with_reducible first | exact h | exact List.mem_append_left _ h | exact List.mem_append_left _ (List.mem_append_left _ h))) | kcj_all)))
                · (rename Fr _ _ _ _ => F9)
                  have e1 : (if B2.length < A2.length then B2 else A2) = A2 := if_neg (by lia)
                  have e2 : (if B2.length < A2.length then A2 else B2) = B2 := if_neg (by lia)
                  rw [e1, e2] at hq
                  refine hq (_, _) _ _ _ trivial (toB _ F9 (by kst_all)) (by first | k_asm | (refine' cb_drop ?cbN ?cbS; (case cbN => assumption); (case cbS => first | (with_reducible exact fun _ h => List.mem_cons_of_mem _ (by with_reducible first | exact h | exact List.mem_append_left _ h | exact List.mem_append_left _ (List.mem_append_left _ h))) | kcj_all)))
              · intro t u h tk _ F N
                obtain ⟨t1, t2⟩ := t
                simp only [kstB] at F
                have hA3 : (if B2.length < A2.length then B2 else A2).length ≤ 40 := by split <;> lia
                have hB3 : (if B2.length < A2.length then A2 else B2).length ≤ 40 := by split <;> lia
                have hAB : (if B2.length < A2.length then B2 else A2).length ≤ (if B2.length < A2.length then A2 else B2).length := by split <;> lia
                have hA1 : 0 < (if B2.length < A2.length then B2 else A2).length := by split <;> lia
                clear hne la lb hA2 hB2 lA lB hxy
                repeat ((rename ((_ : Nat) : Int) ≠ 0 => qa); clear qa)
                generalize (if B2.length < A2.length then B2 else A2) = A3 at *
                generalize (if B2.length < A2.length then A2 else B2) = B3 at *
                have la := len_sOf A3
                have lb := len_sOf B3
                k_with_none
                k_with "exec For Name Call cons nil" => refine halt ?_
                k_with "call type:list" => ((rename IsRange _ _ _ _ _ _ _ _ => rgX); (with_unfolding_all refine' list_range2 ?k0 ?k1 ?k2 rgX ?k3 ?k4 ?_; (case k0 => rfl); (case k1 => k_asm); (case k2 => k_asm); (case k3 => exact la); (case k4 => lia); k_whole); intro D' vs' c' h' tk' F' N' l1 hI'; (try k_lt l1); (try k_sweep))
                k_steps
                · refine cb_retI (s := ⟨sH, sG, sD, sT, sO⟩) hret ?_ (by k_asm) (by k_asm)
                  exact levD_far (by assumption)
                · unfold Halt
                  have Cs : CbC 51 0 (∀ (cbNews : List (Addr × Obj)) (V0 : Str) (T0 : Tok) (V1 : Str) (T1 : Tok), CbClaim PySem.Challenge.pw_ny0408_01 w (Mine.K w.params) Mine.vw loose mean mg mb 51 cbNews [] (V0.length ≤ 1 ∧ V1.length ≤ 1) [.str V0 T0, .str V1 T1] (fun t => .int (scost V0 V1) t)) := fun n a b c d => subst_c w mean mg mb a c b d n
                  have hr0 : (row0 A3.length).length = (sOf A3).length := by simp [row0, la]
                  have zA : (sOf A3).length ≤ 40 := by rw [la]; exact hA3
                  have zB : (sOf B3).length ≤ 40 := by rw [lb]; exact hB3
                  clear la lb hA3 hB3 hA1 hAB
                  k_with_none
                  k_with "pyIter ref" => (k_of "bindex" => refine halt ?_)
                  k_with "call ref" => k_call_by "_substitution_cost" scost (fun x y => x.length ≤ 1 ∧ y.length ≤ 1)
                  k_steps
                  unfold Halt
                  k_with "state" => exact ⟨oinv_zero _ _ _, hr0⟩
                  k_state (fun pre row result => OInv A3 B3 mc pre.length row result ∧ SameLen row (sOf A3)) "row" "result"
                  · rename_i s1 s2 s3 s4 s5 oi rl kl0
                    have j0 := ix0 kEq
                    have j1 := ix1 kEq kLt
                    clear kLt kl0 hr0 kLen
                    (rename ¬ mc < _ => hfar; clear hfar)
                    change Fr gX LX _ _ at kFr
                    change News gX LX _ _ at kNews
                    dsimp only
                    k_with_none
                    k_with "pyIter ref" => (k_of "index" => refine halt ?_)
                    k_with "subscriptTail Name Name str int" => ((refine item_str (ix_fits (by assumption) (by assumption) (by assumption)) (ix_neg (by assumption)) (by assumption) ?_); intro _)
                    k_steps
                    unfold Halt
                    k_with "state" => exact ⟨iinv_zero _ _ _, by assumption⟩
                    k_state_given ["row!", "bindex"] (fun r0 j pre distance result minimum row => IInv (B3.getD j.toNat 0) A3 pre.length (j * 2, j * 2, 9223372036854775807, r0) distance result minimum row ∧ SameLen row (sOf A3)) "distance" "result" "minimum" "row"
                    · rename_i d1 d2 d3 d4 d5 d6 d7 d8 d9 ii ir il0 il1
                      have i0 := ix0 kEq
                      have i1 := ix1 kEq kLt
                      have i2 : kN < (d7.length : Int) := by rw [kLen.trans ir]; exact i1
                      have i3 : kN < (d8.length : Int) := by rw [ir]; exact i1
                      clear kLt il0 il1 kLen
                      change Fr gX LX _ _ at kFr
                      change News gX LX _ _ at kNews
                      dsimp only
                      k_with_none
                      k_with "call ref" => refine halt ?_
                      k_with "subscriptTail Name Name str int" => ((refine item_str (ix_fits (by assumption) (by assumption) (by assumption)) (ix_neg (by assumption)) (by assumption) ?_); intro _)
                      k_steps
                      unfold Halt
                      k_call_by "_substitution_cost" scost (fun x y => x.length ≤ 1 ∧ y.length ≤ 1)
                      k_with_none
                      k_with "state" => first | exact ⟨iinv_lt (by assumption) (by assumption) (sc_eq (by assumption) (by assumption) (by assumption) (by assumption)) (by assumption), SameLen.set (by assumption) _ _⟩ | exact ⟨iinv_ge (by assumption) (by assumption) (sc_eq (by assumption) (by assumption) (by assumption) (by assumption)) (by assumption), SameLen.set (by assumption) _ _⟩
                      k_steps
                    · k_with_none
                      k_with "state" => exact ⟨oinv_some (by assumption) (by assumption) (by assumption) (by rw [rangeKs_length]) (by first | assumption | lia), by assumption⟩
                      k_steps
                      refine cb_retI (s := ⟨sH, sG, sD, sT, sO⟩) hret (lev_early (by assumption) (by assumption) (by assumption) (by rw [rangeKs_length]) (by first | assumption | lia) (by assumption)) (by k_asm) (by first | k_asm | (refine' cb_drop ?cbN ?cbS; (case cbN => assumption); (case cbS => first | (with_reducible exact fun _ h => List.mem_cons_of_mem _ (by with_reducible first | exact h | exact List.mem_append_left _ h | exact List.mem_append_left _ (List.mem_append_left _ h))) | kcj_all)))
                  · k_with_none
                    k_steps
                    refine cb_retI (s := ⟨sH, sG, sD, sT, sO⟩) hret (lev_done (by assumption) (by rw [rangeKs_length]) (by assumption)) (by k_asm) (by first | k_asm | (refine' cb_drop ?cbN ?cbS; (case cbN => assumption); (case cbS => first | (with_reducible exact fun _ h => List.mem_cons_of_mem _ (by with_reducible first | exact h | exact List.mem_append_left _ h | exact List.mem_append_left _ (List.mem_append_left _ h))) | kcj_all)))
end
section
local macro_rules | `(tactic| walk_at "execs cons") => `(tactic| (k_fold; walk_at "execs cons"))
section
set_option maxRecDepth 100000
set_option maxHeartbeats 8000000
inductive Ls where
  | sp
  | wd
  | qt (d : Nat)
noncomputable def lsS : Ls → Str
  | .sp => Str.ofString " "
  | .wd => Str.ofString "a"
  | .qt d => sOf [d]
noncomputable def isWs (c : Nat) : Bool := c == 32 || c == 9 || c == 13 || c == 10
noncomputable def isQc (c : Nat) : Bool := c == 39 || c == 34
noncomputable def lexR : List Nat → Ls → List Nat → Bool → Option (List Nat × Bool × Option Ls × List Nat)
  | [], .qt _, _, _ => none
  | [], _, tok, q => some (tok, q, none, [])
  | c :: r, .qt d, tok, q => if c = d then lexR r .wd tok true else lexR r (.qt d) (tok ++ [c]) true
  | c :: r, .sp, tok, q => if isWs c then (if tok ≠ [] ∨ q = true then some (tok, q, some .sp, r) else lexR r .sp tok q) else if isQc c then lexR r (.qt c) tok q else lexR r .wd [c] q
  | c :: r, .wd, tok, q => if isWs c then (if tok ≠ [] ∨ q = true then some (tok, q, some .sp, r) else lexR r .sp tok q) else if isQc c then lexR r (.qt c) tok q else lexR r .wd (tok ++ [c]) q
noncomputable def stV : Option Ls → Tok → Value
  | none, _ => .none
  | some st, t => .str (lsS st) t
noncomputable def okC (c : Nat) : Prop := c ≠ 10 ∧ c ≠ 92
noncomputable def okS : Ls → Prop
  | .qt d => d = 39 ∨ d = 34
  | _ => True
structure Rs where
  stv : Value
  tkv : Value
  k : Nat
  tk : Tok
  q : Bool
noncomputable abbrev ldg (w : World) (x : Str) (tx : Tok) (s1 s2 s3 : Tok) (y dy lx dl pb fs : Addr) (t0 t1 t2 t3 t4 t5 t6 t7 t8 t9 t10 t11 t12 t13 t14 t15 t16 t17 t18 t19 t20 t21 t22 t23 t24 t25 t26 t27 : Tok) (rest : List (Addr × Obj)) (c : Rs) : List (Addr × Obj) :=
  (lx, instObj 746 dl) :: (dl, lexD w.params y pb fs c.stv c.tkv t0 t1 t2 t3 t4 t5 t6 t7 t8 t9 t10 t11 t12 t13 t14 t15 t16 t17 t18 t19 t20 t21 t22 t23 t24 t25 t26 t27) :: (y, instObj 611 dy) :: (dy, sioD w.params x tx c.k c.tk s1 s2 s3) :: rest
noncomputable def rtP (x : Str) (R : List Nat × Bool × Option Ls × List Nat) (c : Rs) : Prop := ∃ t t', c.tkv = .str (sOf R.1) t ∧ c.q = R.2.1 ∧ c.stv = stV R.2.2.1 t' ∧ R.2.2.2 = (cl x).drop c.k ∧ c.k ≤ x.length
noncomputable def rtV (R : List Nat × Bool × Option Ls × List Nat) (t : Tok) : Value := if R.1 = [] ∧ R.2.1 = false then .none else .str (sOf R.1) t
theorem one_ne {c d : Nat} (h : c ≠ d) : (sOf [c] == sOf [d]) = false := by
  rw [beq_eq_false_iff_ne]
  intro e
  have := sOf_inj e
  simp at this
  exact h this
theorem occ_ws (c : Nat) : (Builtin.Str.occurrences (Str.ofString " \t\x0d\n") (sOf [c]) 0 (Str.ofString " \t\x0d\n").length 1).isEmpty = !isWs c := by
  refine (empty_one _ c).trans ?_
  congr 1
  show decide (c ∈ [32, 9, 13, 10]) = _
  simp only [isWs, List.mem_cons, List.not_mem_nil, or_false, Bool.decide_or, Bool.or_assoc]
  rfl
theorem occ_qc (c : Nat) : (Builtin.Str.occurrences (Str.ofString "'\"") (sOf [c]) 0 (Str.ofString "'\"").length 1).isEmpty = !isQc c := by
  refine (empty_one _ c).trans ?_
  congr 1
  show decide (c ∈ [39, 34]) = _
  simp only [isQc, List.mem_cons, List.not_mem_nil, or_false, Bool.decide_or]
  rfl
theorem occ_cm (c : Nat) : (Builtin.Str.occurrences (Str.ofString "") (sOf [c]) 0 (Str.ofString "").length 1).isEmpty = true := by
  refine (empty_one _ c).trans ?_
  show (!decide (c ∈ ([] : List Nat))) = _
  simp
theorem occ_es (c : Nat) (h : c ≠ 92) : (Builtin.Str.occurrences (Str.ofString "\\") (sOf [c]) 0 (Str.ofString "\\").length 1).isEmpty = true := by
  refine (empty_one _ c).trans ?_
  show (!decide (c ∈ [92])) = _
  simp [h]
theorem occ_wl {c : Nat} (h : c = 39 ∨ c = 34) : (Builtin.Str.occurrences (Str.ofString "abcdfeghijklmnopqrstuvwxyzABCDEFGHIJKLMNOPQRSTUVWXYZ0123456789_ßàáâãäåæçèéêëìíîïðñòóôõöøùúûüýþÿÀÁÂÃÄÅÆÇÈÉÊËÌÍÎÏÐÑÒÓÔÕÖØÙÚÛÜÝÞ") (sOf [c]) 0 (Str.ofString "abcdfeghijklmnopqrstuvwxyzABCDEFGHIJKLMNOPQRSTUVWXYZ0123456789_ßàáâãäåæçèéêëìíîïðñòóôõöøùúûüýþÿÀÁÂÃÄÅÆÇÈÉÊËÌÍÎÏÐÑÒÓÔÕÖØÙÚÛÜÝÞ").length 1).isEmpty = true := by
  refine (empty_one _ c).trans ?_
  rcases h with rfl | rfl <;> decide +kernel
theorem drop1 {h₀ h : Heap} {L : Addr} {a : Addr × Obj} {r : List (Addr × Obj)} (N : News h₀ L h (a :: r)) : News h₀ L h r := fun p hp => N p (List.mem_cons_of_mem _ hp)
theorem sOf_app (a b : List Nat) : sOf a ++ sOf b = sOf (a ++ b) := by
  simp only [sOf, ← List.append_toArray]
  rfl
theorem swap22 {h₀ h : Heap} {L : Addr} {a b c d : Addr × Obj} {r : List (Addr × Obj)} (N : News h₀ L h (a :: b :: c :: d :: r)) : News h₀ L h (c :: d :: a :: b :: r) :=
  cb_drop N (by
    intro p hp
    simp only [List.mem_cons] at hp ⊢
    rcases hp with h | h | h | h | h <;> simp [h])
theorem wsF {e b : Bool} (o : e = !b) (h : e = true) : b = false := by cases b <;> simp_all
theorem wsT {e b : Bool} (o : e = !b) (h : e = false) : b = true := by cases b <;> simp_all
theorem rt_c (w : World) (mean : ExcName → Option Value) (mg mb : Str → Option Value) (x : Str) (tx : Tok) (k : Nat) (tk s1 s2 s3 : Tok) (y dy lx dl pb fs : Addr) (u1 u2 : Tok) (t0 t1 t2 t3 t4 t5 t6 t7 t8 t9 t10 t11 t12 t13 t14 t15 t16 t17 t18 t19 t20 t21 t22 t23 t24 t25 t26 t27 : Tok) (rest : List (Addr × Obj)) (R : List Nat × Bool × Option Ls × List Nat) (dp un : Nat) (gd : Option (List Code)) (cn : Str) (cs : Scope) (a : Addr) (ccd : Value) (cel : List (Str × Addr)) (outer : List Env) (A₀ : Around) (base h₀ : Heap) (L : Addr) (m : Str → Option Value) (s : Shared) (Q E : Value → Shared → Prop)
    (hB : Below A₀ base outer h₀) (hF : Fr h₀ L s.heap m) : (Mine.K w.params).In h₀ → News h₀ L s.heap (ldg w x tx s1 s2 s3 y dy lx dl pb fs t0 t1 t2 t3 t4 t5 t6 t7 t8 t9 t10 t11 t12 t13 t14 t15 t16 t17 t18 t19 t20 t21 t22 t23 t24 t25 t26 t27 rest ⟨.str (Str.ofString " ") u1, .str (Str.ofString "") u2, k, tk, false⟩) → Top Mine.vw loose mean mg mb h₀ → cs.kind = .function → dp + 20 < recursionLimit → un + 200 < cLine →
    k ≤ x.length → x.length ≤ 1000 → (∀ c ∈ cl x, okC c) → lexR ((cl x).drop k) .sp [] false = some R → @Ne Nat lx dl → @Ne Nat y dl → @Ne Nat dy dl → @Ne Nat y dy → @Ne Nat lx dy → (∀ p ∈ rest, p.1 ≠ dl) → (∀ p ∈ rest, p.1 ≠ dy) →
    (∀ t t' t'' kk tk h' tk', kk ≤ x.length → R.2.2.2 = (cl x).drop kk → Fr h₀ L h' m → News h₀ L h' (ldg w x tx s1 s2 s3 y dy lx dl pb fs t0 t1 t2 t3 t4 t5 t6 t7 t8 t9 t10 t11 t12 t13 t14 t15 t16 t17 t18 t19 t20 t21 t22 t23 t24 t25 t26 t27 rest ⟨stV R.2.2.1 t', .str (Str.ofString "") t'', kk, tk, false⟩) → Q (rtV R t) { s with heap := h', toks := tk' }) →
    wpAny (model PySem.Challenge.pw_ny0408_01 w) (ktrTop dp un gd cn cs L a ccd cel outer) (call (.ref 714) [.ref lx]) Q E s := by
  refine fill ?_
  k_fill
  intro _ hX hN hT hK hdp hun hk hx hc hR d1 d2 d3 d4 d5 hr1 hr2 hret
  refine wpAny_call ?_
  k_dflt cell_enter
  k_with_none
  k_with "exec While Constant cons nil" => refine halt ?_
  k_steps
  unfold Halt
  rename Fr _ _ _ _ => F'
  rename News _ _ _ _ => N'
  refine cutS (σ := Rs) F' (ldg w x tx s1 s2 s3 y dy lx dl pb fs t0 t1 t2 t3 t4 t5 t6 t7 t8 t9 t10 t11 t12 t13 t14 t15 t16 t17 t18 t19 t20 t21 t22 t23 t24 t25 t26 t27 rest) (fun c => [(Str.ofString "self", .ref lx), (Str.ofString "quoted", .bool c.q)]) (rtP x R) ?_ ?_
  · intro Q' hQ'
    refine While_inv2 (fun n mm nw => ∃ st tok q kk tk' u1' u2' te, n = x.length - kk ∧ nw = ldg w x tx s1 s2 s3 y dy lx dl pb fs t0 t1 t2 t3 t4 t5 t6 t7 t8 t9 t10 t11 t12 t13 t14 t15 t16 t17 t18 t19 t20 t21 t22 t23 t24 t25 t26 t27 rest ⟨.str (lsS st) u1', .str (sOf tok) u2', kk, tk', q⟩ ∧
      (∀ p ∈ [(Str.ofString "self", Value.ref lx), (Str.ofString "quoted", .bool q), (Str.ofString "escapedstate", .str (Str.ofString " ") te)], mm p.1 = some p.2) ∧ kk ≤ x.length ∧ tok.length ≤ kk ∧ okS st ∧ lexR ((cl x).drop kk) st tok q = some R) (n₀ := x.length - k) F' N' ?_ ?_
    · refine' ⟨.sp, [], false, k, _, u1, u2, ?te, rfl, rfl, ?hm, hk, Nat.zero_le _, trivial, hR⟩
      case' hm =>
        intro p hp
        simp only [List.mem_cons, List.not_mem_nil, or_false] at hp
        rcases hp with rfl | rfl | rfl <;> rfl
    · rintro n m₁ nw h₁ tk₁ F₁ N₁ ⟨st, tok, q, kk, tk', u1', u2', te, rfl, rfl, hm, hkk, htl, hst, hR'⟩
      have F₂ := toB _ F₁ hm
      simp only [kstB] at F₂
      clear F₁ F' N'
      k_with_none
      k_with "call ref" => refine halt ?_
      k_steps
      unfold Halt
      rename Fr _ _ _ _ => F₃
      rename News _ _ _ _ => N₃
      refine read_c w mean mg mb x tx kk _ _ _ _ _ y dy _ _ _ _ _ _ _ _ _ _ _ _ _ _ _ _ _ _ (by k_asm) F₃ (by k_asm) (swap22 N₃) (by k_asm) rfl ?_ ?_ hkk hx d4 ?_ ?_
      · simp only [depth_mark, depth_under_make, depth_under_kw, depth_in1, depth_deeper, depth_caller]; lia
      · simp only [units_deeper]; lia
      · intro p hp
        rcases List.mem_cons.mp hp with rfl | hp
        · exact d5
        · rcases List.mem_cons.mp hp with rfl | hp
          · exact Ne.symm d3
          · exact hr2 p hp
      · intro t tk h₄ tk₄ F₄ N₄
        have N₅ := swap22 N₄
        clear N₄ N₃ F₃ N₁
        try dsimp only
        have hlen : (cl x).length = x.length := len_cl x
        have hch : chAt x kk = sOf (((cl x).drop kk).take 1) := rfl
        rw [hch]
        clear hch
        have hto : (sOf tok).length ≤ 1000 := by
          rw [len_sOf]; lia
        generalize hd : (cl x).drop kk = D at hR' ⊢
        generalize htk : sOf tok = tks at *
        cases D with
        | nil =>
          have hke : kk = x.length := by
            have := congrArg List.length hd
            rw [List.length_drop, List.length_nil, hlen] at this
            lia
          have hnx : nx x kk = kk := if_neg (by lia)
          rw [hnx] at N₅
          show wpAny _ _ (storeName _ _ (Value.str (Str.ofString "") t)) _ _ _
          cases st with
          | sp =>
            k_with_none
            k_steps
            all_goals (first | (exfalso; lia) | skip)
            all_goals (rename Fr _ _ _ _ => Fn; rename News _ _ _ _ => Nn; subst htk)
            all_goals (
              have hRe := Option.some.inj hR'
              subst hRe
              first | exact hQ' ⟨_, _, kk, _, q⟩ _ _ _ ⟨_, 0, rfl, rfl, rfl, hd.symm, hkk⟩ (toB _ Fn (by intro p hp; simp only [List.mem_cons, List.not_mem_nil, or_false] at hp; rcases hp with rfl | rfl <;> rfl)) Nn | exact hQ' ⟨_, _, kk, _, q⟩ _ _ _ ⟨_, 0, rfl, rfl, rfl, hd.symm, hkk⟩ (toB _ Fn (by intro p hp; simp only [List.mem_cons, List.not_mem_nil, or_false] at hp; rcases hp with rfl | rfl <;> rfl)) (drop1 Nn))
          | wd =>
            simp only [lsS] at N₅
            k_with_none
            k_steps
            all_goals (first | (exfalso; lia) | skip)
            all_goals (rename Fr _ _ _ _ => Fn; rename News _ _ _ _ => Nn; subst htk)
            all_goals (
              have hRe := Option.some.inj hR'
              subst hRe
              first | exact hQ' ⟨_, _, kk, _, q⟩ _ _ _ ⟨_, 0, rfl, rfl, rfl, hd.symm, hkk⟩ (toB _ Fn (by intro p hp; simp only [List.mem_cons, List.not_mem_nil, or_false] at hp; rcases hp with rfl | rfl <;> rfl)) Nn | exact hQ' ⟨_, _, kk, _, q⟩ _ _ _ ⟨_, 0, rfl, rfl, rfl, hd.symm, hkk⟩ (toB _ Fn (by intro p hp; simp only [List.mem_cons, List.not_mem_nil, or_false] at hp; rcases hp with rfl | rfl <;> rfl)) (drop1 Nn))
          | qt d => cases hR'
        | cons c r =>
          have hklt : kk < x.length := by
            have := congrArg List.length hd
            rw [List.length_drop, List.length_cons, hlen] at this
            lia
          have hnx : nx x kk = kk + 1 := if_pos hklt
          rw [hnx] at N₅
          have hr : (cl x).drop (kk + 1) = r := by
            rw [← List.drop_drop, hd]; rfl
          have hcx : okC c := hc c (List.mem_of_mem_drop (hd ▸ List.mem_cons_self))
          obtain ⟨hc10, hc92⟩ := hcx
          show wpAny _ _ (storeName _ _ (Value.str (sOf [c]) t)) _ _ _
          have n10 : (sOf [c] == Str.ofString "\n") = false := one_ne hc10
          have nl : (sOf [c]).length = 1 := rfl
          have oW := occ_ws c
          have oQ := occ_qc c
          have oC := occ_cm c
          have oE := occ_es c hc92
          cases st with
          | sp =>
            generalize hch : sOf [c] = ch at *
            k_with_none
            k_steps
            all_goals (first | (exfalso; lia) | skip)
            · have hw : isWs c = false := wsF oW (by assumption)
              have hq : isQc c = false := wsF oQ (by assumption)
              (rename Fr _ _ _ _ => Fn; rename News _ _ _ _ => Nn; subst hch; subst htk)
              all_goals (first | (refine ⟨_, _, _, _, x.length - (kk + 1), rfl, Fn, Nn, by lia, .wd, [c], q, kk + 1, _, _, _, te, rfl, rfl, ?_, by lia, by (try simp only [List.length_append, List.length_cons, List.length_nil]); lia, trivial, ?_⟩) | (refine ⟨_, _, _, _, x.length - (kk + 1), rfl, Fn, (drop1 Nn), by lia, .wd, [c], q, kk + 1, _, _, _, te, rfl, rfl, ?_, by lia, by (try simp only [List.length_append, List.length_cons, List.length_nil]); lia, trivial, ?_⟩))
              all_goals (first | (rw [hr]; simpa [lexR, hw, hq] using hR') | (intro p hp; simp only [List.mem_cons, List.not_mem_nil, or_false] at hp; rcases hp with rfl | rfl | rfl <;> rfl))
            · have hw : isWs c = false := wsF oW (by assumption)
              have hq : isQc c = true := wsT oQ (by assumption)
              have hqd : c = 39 ∨ c = 34 := by simpa [isQc] using hq
              (rename Fr _ _ _ _ => Fn; rename News _ _ _ _ => Nn; subst hch; subst htk)
              all_goals (first | (refine ⟨_, _, _, _, x.length - (kk + 1), rfl, Fn, Nn, by lia, (.qt c), tok, q, kk + 1, _, _, _, te, rfl, rfl, ?_, by lia, by (try simp only [List.length_append, List.length_cons, List.length_nil]); lia, hqd, ?_⟩) | (refine ⟨_, _, _, _, x.length - (kk + 1), rfl, Fn, (drop1 Nn), by lia, (.qt c), tok, q, kk + 1, _, _, _, te, rfl, rfl, ?_, by lia, by (try simp only [List.length_append, List.length_cons, List.length_nil]); lia, hqd, ?_⟩))
              all_goals (first | (rw [hr]; simpa [lexR, hw, hq] using hR') | (intro p hp; simp only [List.mem_cons, List.not_mem_nil, or_false] at hp; rcases hp with rfl | rfl | rfl <;> rfl))
            · have hw : isWs c = false := wsF oW (by assumption)
              have hq : isQc c = false := by
                cases hq : isQc c
                · rfl
                · have hqd : c = 39 ∨ c = 34 := by simpa [isQc] using hq
                  have oL := occ_wl hqd
                  rw [hch] at oL
                  exact absurd (oL.symm.trans (show _ = false by assumption)) (by decide)
              (rename Fr _ _ _ _ => Fn; rename News _ _ _ _ => Nn; subst hch; subst htk)
              all_goals (first | (refine ⟨_, _, _, _, x.length - (kk + 1), rfl, Fn, Nn, by lia, .wd, [c], q, kk + 1, _, _, _, te, rfl, rfl, ?_, by lia, by (try simp only [List.length_append, List.length_cons, List.length_nil]); lia, trivial, ?_⟩) | (refine ⟨_, _, _, _, x.length - (kk + 1), rfl, Fn, (drop1 Nn), by lia, .wd, [c], q, kk + 1, _, _, _, te, rfl, rfl, ?_, by lia, by (try simp only [List.length_append, List.length_cons, List.length_nil]); lia, trivial, ?_⟩))
              all_goals (first | (rw [hr]; simpa [lexR, hw, hq] using hR') | (intro p hp; simp only [List.mem_cons, List.not_mem_nil, or_false] at hp; rcases hp with rfl | rfl | rfl <;> rfl))
            · have hw : isWs c = true := wsT oW (by assumption)
              (rename Fr _ _ _ _ => Fn; rename News _ _ _ _ => Nn; subst hch; subst htk)
              have hne : tok ≠ [] ∨ q = true := by
                refine Or.inl fun h => ?_
                have h9 : (sOf tok).length = 0 := by rw [h]; rfl
                lia
              simp only [lexR, hw, if_true, if_pos hne] at hR'
              have hRe := Option.some.inj hR'
              subst hRe
              first | exact hQ' ⟨_, _, kk + 1, _, q⟩ _ _ _ ⟨_, _, rfl, rfl, rfl, hr.symm, hklt⟩ (toB _ Fn (by intro p hp; simp only [List.mem_cons, List.not_mem_nil, or_false] at hp; rcases hp with rfl | rfl <;> rfl)) Nn | exact hQ' ⟨_, _, kk + 1, _, q⟩ _ _ _ ⟨_, _, rfl, rfl, rfl, hr.symm, hklt⟩ (toB _ Fn (by intro p hp; simp only [List.mem_cons, List.not_mem_nil, or_false] at hp; rcases hp with rfl | rfl <;> rfl)) (drop1 Nn)
            · have hw : isWs c = true := wsT oW (by assumption)
              (rename Fr _ _ _ _ => Fn; rename News _ _ _ _ => Nn; subst hch; subst htk)
              have hne : tok ≠ [] ∨ q = true := Or.inr (by assumption)
              simp only [lexR, hw, if_true, if_pos hne] at hR'
              have hRe := Option.some.inj hR'
              subst hRe
              first | exact hQ' ⟨_, _, kk + 1, _, q⟩ _ _ _ ⟨_, _, rfl, rfl, rfl, hr.symm, hklt⟩ (toB _ Fn (by intro p hp; simp only [List.mem_cons, List.not_mem_nil, or_false] at hp; rcases hp with rfl | rfl <;> rfl)) Nn | exact hQ' ⟨_, _, kk + 1, _, q⟩ _ _ _ ⟨_, _, rfl, rfl, rfl, hr.symm, hklt⟩ (toB _ Fn (by intro p hp; simp only [List.mem_cons, List.not_mem_nil, or_false] at hp; rcases hp with rfl | rfl <;> rfl)) (drop1 Nn)
            · have hw : isWs c = true := wsT oW (by assumption)
              (rename Fr _ _ _ _ => Fn; rename News _ _ _ _ => Nn; subst hch; subst htk)
              have hno : ¬ (tok ≠ [] ∨ q = true) := by
                rintro (h | h)
                · apply h
                  apply List.eq_nil_of_length_eq_zero
                  rw [← len_sOf tok]
                  lia
                · simp_all
              simp only [lexR, hw, if_true, if_neg hno] at hR'
              first | (refine ⟨_, _, _, _, x.length - (kk + 1), rfl, Fn, Nn, by lia, .sp, tok, q, kk + 1, _, _, _, te, rfl, rfl, ?_, by lia, by lia, trivial, ?_⟩) | (refine ⟨_, _, _, _, x.length - (kk + 1), rfl, Fn, (drop1 Nn), by lia, .sp, tok, q, kk + 1, _, _, _, te, rfl, rfl, ?_, by lia, by lia, trivial, ?_⟩)
              all_goals (first | (rw [hr]; exact hR') | (intro p hp; simp only [List.mem_cons, List.not_mem_nil, or_false] at hp; rcases hp with rfl | rfl | rfl <;> rfl))
          | wd =>
            generalize hch : sOf [c] = ch at *
            simp only [lsS] at N₅
            k_with_none
            k_steps
            all_goals (first | (exfalso; lia) | skip)
            · have hw : isWs c = false := wsF oW (by assumption)
              have hq : isQc c = false := wsF oQ (by assumption)
              (rename Fr _ _ _ _ => Fn; rename News _ _ _ _ => Nn; subst hch; subst htk)
              rw [sOf_app] at Nn
              all_goals (first | (refine ⟨_, _, _, _, x.length - (kk + 1), rfl, Fn, Nn, by lia, .wd, (tok ++ [c]), q, kk + 1, _, _, _, te, rfl, rfl, ?_, by lia, by (try simp only [List.length_append, List.length_cons, List.length_nil]); lia, trivial, ?_⟩) | (refine ⟨_, _, _, _, x.length - (kk + 1), rfl, Fn, (drop1 Nn), by lia, .wd, (tok ++ [c]), q, kk + 1, _, _, _, te, rfl, rfl, ?_, by lia, by (try simp only [List.length_append, List.length_cons, List.length_nil]); lia, trivial, ?_⟩))
              all_goals (first | (rw [hr]; simpa [lexR, hw, hq] using hR') | (intro p hp; simp only [List.mem_cons, List.not_mem_nil, or_false] at hp; rcases hp with rfl | rfl | rfl <;> rfl))
            · have hw : isWs c = false := wsF oW (by assumption)
              have hq : isQc c = false := wsF oQ (by assumption)
              (rename Fr _ _ _ _ => Fn; rename News _ _ _ _ => Nn; subst hch; subst htk)
              rw [sOf_app] at Nn
              all_goals (first | (refine ⟨_, _, _, _, x.length - (kk + 1), rfl, Fn, Nn, by lia, .wd, (tok ++ [c]), q, kk + 1, _, _, _, te, rfl, rfl, ?_, by lia, by (try simp only [List.length_append, List.length_cons, List.length_nil]); lia, trivial, ?_⟩) | (refine ⟨_, _, _, _, x.length - (kk + 1), rfl, Fn, (drop1 Nn), by lia, .wd, (tok ++ [c]), q, kk + 1, _, _, _, te, rfl, rfl, ?_, by lia, by (try simp only [List.length_append, List.length_cons, List.length_nil]); lia, trivial, ?_⟩))
              all_goals (first | (rw [hr]; simpa [lexR, hw, hq] using hR') | (intro p hp; simp only [List.mem_cons, List.not_mem_nil, or_false] at hp; rcases hp with rfl | rfl | rfl <;> rfl))
            · have hw : isWs c = false := wsF oW (by assumption)
              have hq : isQc c = true := wsT oQ (by assumption)
              have hqd : c = 39 ∨ c = 34 := by simpa [isQc] using hq
              (rename Fr _ _ _ _ => Fn; rename News _ _ _ _ => Nn; subst hch; subst htk)
              all_goals (first | (refine ⟨_, _, _, _, x.length - (kk + 1), rfl, Fn, Nn, by lia, (.qt c), tok, q, kk + 1, _, _, _, te, rfl, rfl, ?_, by lia, by (try simp only [List.length_append, List.length_cons, List.length_nil]); lia, hqd, ?_⟩) | (refine ⟨_, _, _, _, x.length - (kk + 1), rfl, Fn, (drop1 Nn), by lia, (.qt c), tok, q, kk + 1, _, _, _, te, rfl, rfl, ?_, by lia, by (try simp only [List.length_append, List.length_cons, List.length_nil]); lia, hqd, ?_⟩))
              all_goals (first | (rw [hr]; simpa [lexR, hw, hq] using hR') | (intro p hp; simp only [List.mem_cons, List.not_mem_nil, or_false] at hp; rcases hp with rfl | rfl | rfl <;> rfl))
            · have hw : isWs c = true := wsT oW (by assumption)
              (rename Fr _ _ _ _ => Fn; rename News _ _ _ _ => Nn; subst hch; subst htk)
              have hne : tok ≠ [] ∨ q = true := by
                refine Or.inl fun h => ?_
                have h9 : (sOf tok).length = 0 := by rw [h]; rfl
                lia
              simp only [lexR, hw, if_true, if_pos hne] at hR'
              have hRe := Option.some.inj hR'
              subst hRe
              first | exact hQ' ⟨_, _, kk + 1, _, q⟩ _ _ _ ⟨_, _, rfl, rfl, rfl, hr.symm, hklt⟩ (toB _ Fn (by intro p hp; simp only [List.mem_cons, List.not_mem_nil, or_false] at hp; rcases hp with rfl | rfl <;> rfl)) Nn | exact hQ' ⟨_, _, kk + 1, _, q⟩ _ _ _ ⟨_, _, rfl, rfl, rfl, hr.symm, hklt⟩ (toB _ Fn (by intro p hp; simp only [List.mem_cons, List.not_mem_nil, or_false] at hp; rcases hp with rfl | rfl <;> rfl)) (drop1 Nn)
            · have hw : isWs c = true := wsT oW (by assumption)
              (rename Fr _ _ _ _ => Fn; rename News _ _ _ _ => Nn; subst hch; subst htk)
              have hne : tok ≠ [] ∨ q = true := Or.inr (by assumption)
              simp only [lexR, hw, if_true, if_pos hne] at hR'
              have hRe := Option.some.inj hR'
              subst hRe
              first | exact hQ' ⟨_, _, kk + 1, _, q⟩ _ _ _ ⟨_, _, rfl, rfl, rfl, hr.symm, hklt⟩ (toB _ Fn (by intro p hp; simp only [List.mem_cons, List.not_mem_nil, or_false] at hp; rcases hp with rfl | rfl <;> rfl)) Nn | exact hQ' ⟨_, _, kk + 1, _, q⟩ _ _ _ ⟨_, _, rfl, rfl, rfl, hr.symm, hklt⟩ (toB _ Fn (by intro p hp; simp only [List.mem_cons, List.not_mem_nil, or_false] at hp; rcases hp with rfl | rfl <;> rfl)) (drop1 Nn)
            · have hw : isWs c = true := wsT oW (by assumption)
              (rename Fr _ _ _ _ => Fn; rename News _ _ _ _ => Nn; subst hch; subst htk)
              have hno : ¬ (tok ≠ [] ∨ q = true) := by
                rintro (h | h)
                · apply h
                  apply List.eq_nil_of_length_eq_zero
                  rw [← len_sOf tok]
                  lia
                · simp_all
              simp only [lexR, hw, if_true, if_neg hno] at hR'
              first | (refine ⟨_, _, _, _, x.length - (kk + 1), rfl, Fn, Nn, by lia, .sp, tok, q, kk + 1, _, _, _, te, rfl, rfl, ?_, by lia, by lia, trivial, ?_⟩) | (refine ⟨_, _, _, _, x.length - (kk + 1), rfl, Fn, (drop1 Nn), by lia, .sp, tok, q, kk + 1, _, _, _, te, rfl, rfl, ?_, by lia, by lia, trivial, ?_⟩)
              all_goals (first | (rw [hr]; exact hR') | (intro p hp; simp only [List.mem_cons, List.not_mem_nil, or_false] at hp; rcases hp with rfl | rfl | rfl <;> rfl))
          | qt d =>
            have dQ := occ_qc d
            have hdq : isQc d = true := by rcases hst with rfl | rfl <;> rfl
            rw [hdq] at dQ
            have d1n : (sOf [d] == Str.ofString " ") = false := one_ne (by rcases hst with rfl | rfl <;> decide)
            have ncd : (sOf [c] == sOf [d]) = decide (c = d) := by
              by_cases h : c = d
              · subst h; simp
              · rw [decide_eq_false h]; exact one_ne h
            simp only [lsS] at N₅
            generalize hch : sOf [c] = ch at *
            generalize hdh : sOf [d] = dh at *
            k_with_none
            k_steps
            all_goals (first | (exfalso; lia) | skip)
            · have hcd : c = d := of_decide_eq_true (ncd.symm.trans (by assumption))
              (rename Fr _ _ _ _ => Fn; rename News _ _ _ _ => Nn; subst hch; subst hdh; subst htk)
              all_goals (first | (refine ⟨_, _, _, _, x.length - (kk + 1), rfl, Fn, Nn, by lia, .wd, tok, true, kk + 1, _, _, _, te, rfl, rfl, ?_, by lia, by (try simp only [List.length_append, List.length_cons, List.length_nil]); lia, trivial, ?_⟩) | (refine ⟨_, _, _, _, x.length - (kk + 1), rfl, Fn, (drop1 Nn), by lia, .wd, tok, true, kk + 1, _, _, _, te, rfl, rfl, ?_, by lia, by (try simp only [List.length_append, List.length_cons, List.length_nil]); lia, trivial, ?_⟩))
              all_goals (first | (rw [hr]; simpa [lexR, hcd] using hR') | (intro p hp; simp only [List.mem_cons, List.not_mem_nil, or_false] at hp; rcases hp with rfl | rfl | rfl <;> rfl))
            · have hcd : c ≠ d := of_decide_eq_false (ncd.symm.trans (by assumption))
              (rename Fr _ _ _ _ => Fn; rename News _ _ _ _ => Nn; subst hch; subst hdh; subst htk)
              rw [sOf_app] at Nn
              all_goals (first | (refine ⟨_, _, _, _, x.length - (kk + 1), rfl, Fn, Nn, by lia, (.qt d), (tok ++ [c]), true, kk + 1, _, _, _, te, rfl, rfl, ?_, by lia, by (try simp only [List.length_append, List.length_cons, List.length_nil]); lia, hst, ?_⟩) | (refine ⟨_, _, _, _, x.length - (kk + 1), rfl, Fn, (drop1 Nn), by lia, (.qt d), (tok ++ [c]), true, kk + 1, _, _, _, te, rfl, rfl, ?_, by lia, by (try simp only [List.length_append, List.length_cons, List.length_nil]); lia, hst, ?_⟩))
              all_goals (first | (rw [hr]; simpa [lexR, hcd] using hR') | (intro p hp; simp only [List.mem_cons, List.not_mem_nil, or_false] at hp; rcases hp with rfl | rfl | rfl <;> rfl))
  · rintro ⟨stv, tkv, kk, tk', q⟩ u h₉ tk₉ ⟨v1, v2, e1, e2, e3, e4, e5⟩ F₉ N₉
    dsimp only at e1 e2 e3 e4 e5 F₉ N₉
    obtain ⟨rt, rq, rs, rr⟩ := R
    dsimp only at e1 e2 e3 e4
    subst e1 e2 e3
    simp only [kstB] at F₉
    have hrl : (sOf rt).length = rt.length := len_sOf rt
    clear F' N'
    generalize hrt : sOf rt = rts at *
    generalize hst : stV rs v2 = stv at *
    k_with_none
    k_steps
    all_goals (rename Fr _ _ _ _ => Fn; rename News _ _ _ _ => Nn; subst hrt; subst hst)
    · have e : rtV (rt, q, rs, rr) v1 = .str (sOf rt) v1 := if_neg (by
        rintro ⟨h1, h2⟩
        have h3 : q = true := by assumption
        have h4 : q = false := h2
        rw [h3] at h4
        cases h4)
      rw [← e]
      exact hret v1 v2 _ kk tk' _ _ e5 e4 Fn Nn
    · have e : rtV (rt, q, rs, rr) 0 = .none := if_pos ⟨by
        have h1 : (sOf rt == Str.ofString "") = true := by assumption
        exact sOf_inj (eq_of_beq h1), by
        show q = false
        assumption⟩
      rw [← e]
      exact hret 0 v2 _ kk tk' _ _ e5 e4 Fn Nn
    · have e : rtV (rt, q, rs, rr) v1 = .str (sOf rt) v1 := if_neg (by
        rintro ⟨h1, h2⟩
        have h3 : (sOf rt == Str.ofString "") = false := by assumption
        have h4 : rt = [] := h1
        rw [h4] at h3
        cases h3)
      rw [← e]
      exact hret v1 v2 _ kk tk' _ _ e5 e4 Fn Nn
end
end
end
section
set_option maxRecDepth 100000
set_option maxHeartbeats 8000000
theorem rn_c (w : World) (mean : ExcName → Option Value) (mg mb : Str → Option Value) (x : Str) (tx : Tok) (tk s1 s2 s3 : Tok) (y dy lx dl pb fs : Addr) (u2 : Tok) (t0 t1 t2 t3 t4 t5 t6 t7 t8 t9 t10 t11 t12 t13 t14 t15 t16 t17 t18 t19 t20 t21 t22 t23 t24 t25 t26 t27 : Tok) (rest : List (Addr × Obj)) (dp un : Nat) (gd : Option (List Code)) (cn : Str) (cs : Scope) (a : Addr) (ccd : Value) (cel : List (Str × Addr)) (outer : List Env) (A₀ : Around) (base h₀ : Heap) (L : Addr) (m : Str → Option Value) (s : Shared) (Q E : Value → Shared → Prop)
    (hB : Below A₀ base outer h₀) (hF : Fr h₀ L s.heap m) : (Mine.K w.params).In h₀ → News h₀ L s.heap (ldg w x tx s1 s2 s3 y dy lx dl pb fs t0 t1 t2 t3 t4 t5 t6 t7 t8 t9 t10 t11 t12 t13 t14 t15 t16 t17 t18 t19 t20 t21 t22 t23 t24 t25 t26 t27 rest ⟨.none, .str (Str.ofString "") u2, x.length, tk, false⟩) → Top Mine.vw loose mean mg mb h₀ → cs.kind = .function → dp + 20 < recursionLimit → un + 200 < cLine →
    x.length ≤ 1000 → @Ne Nat lx dl → @Ne Nat y dl → @Ne Nat dy dl → @Ne Nat y dy → @Ne Nat lx dy → (∀ p ∈ rest, p.1 ≠ dl) → (∀ p ∈ rest, p.1 ≠ dy) →
    (∀ t'' tk h' tk', Fr h₀ L h' m → News h₀ L h' (ldg w x tx s1 s2 s3 y dy lx dl pb fs t0 t1 t2 t3 t4 t5 t6 t7 t8 t9 t10 t11 t12 t13 t14 t15 t16 t17 t18 t19 t20 t21 t22 t23 t24 t25 t26 t27 rest ⟨.none, .str (Str.ofString "") t'', x.length, tk, false⟩) → Q .none { s with heap := h', toks := tk' }) →
    wpAny (model PySem.Challenge.pw_ny0408_01 w) (ktrTop dp un gd cn cs L a ccd cel outer) (call (.ref 714) [.ref lx]) Q E s := by
  refine fill ?_
  k_fill
  intro _ hX hN hT hK hdp hun hx d1 d2 d3 d4 d5 hr1 hr2 hret
  refine wpAny_call ?_
  k_dflt cell_enter
  k_with_none
  k_with "call ref" => refine halt ?_
  k_steps
  unfold Halt
  rename Fr _ _ _ _ => F₃
  rename News _ _ _ _ => N₃
  refine read_c w mean mg mb x tx x.length _ _ _ _ _ y dy _ _ _ _ _ _ _ _ _ _ _ _ _ _ _ _ _ _ (by k_asm) F₃ (by k_asm) (swap22 N₃) (by k_asm) rfl ?_ ?_ (Nat.le_refl _) hx d4 ?_ ?_
  · simp only [depth_mark, depth_under_make, depth_under_kw, depth_in1, depth_deeper, depth_caller]; lia
  · simp only [units_deeper]; lia
  · intro p hp
    rcases List.mem_cons.mp hp with rfl | hp
    · exact d5
    · rcases List.mem_cons.mp hp with rfl | hp
      · exact Ne.symm d3
      · exact hr2 p hp
  · intro t tkR h₄ tk₄ F₄ N₄
    have N₅ := swap22 N₄
    clear N₄ N₃ F₃
    try dsimp only
    have hnx : nx x x.length = x.length := if_neg (by lia)
    rw [hnx] at N₅
    have hch : chAt x x.length = Str.ofString "" := by
      unfold chAt
      rw [List.drop_of_length_le (by rw [len_cl]; lia)]
      rfl
    rw [hch]
    k_with_none
    k_steps
    rename Fr _ _ _ _ => Fn
    rename News _ _ _ _ => Nn
    exact hret _ tkR _ _ Fn Nn
end
section
set_option maxRecDepth 100000
theorem owit_stopS {M : Model} {A A₀ : Around} {E : Value → Shared → Prop} {s : Shared} {Q : Option Value → Shared → Prop} {base g G : Heap} {outer : List Env} {L a e t : Addr} {m : Str → Option Value} {name : Str} {scope : Scope} {cd : Value} {vs : List Value} {news : List (Addr × Obj)} {KF : Frag} {X : String}
    {p : Program} {loose : List Str} {mean : ExcName → Option Value} {mg mb : Str → Option Value}
    (R : RaisedS base G (envOf name scope L a cd :: outer) e (.type X) t vs news s.heap) (F : Fr g L G m) (K : Below A₀ base outer g) (hsm : G.UpToSlots s.heap) (XB : KF.In base) (TB : Top p loose mean mg mb base)
    (D : KtsDicts (outer.filterMap (·.frame)) g) (hsub : isSubtype (.type X) (.type "StopIteration") = pure true)
    (k : ∀ g', KtsTurn (outer.filterMap (·.frame)) g g' → Fr g' L s.heap m → News g' L s.heap news → Below A₀ base outer g' → KF.In g' → Top p loose mean mg mb g' → KtsDicts (outer.filterMap (·.frame)) g' → Q none s) : OwitStop M A Q E (.ref e) s := by
  obtain ⟨⟨B, hB, hBG, hl, hfl, hnew⟩, htup⟩ := R
  have hL : B.get? L = none := by
    obtain ⟨_, ⟨L', _, hf, hn', _⟩, _⟩ := hfl.2.2.1
    obtain rfl : L = L' := Option.some.inj hf
    exact hn'
  obtain ⟨g', T, F', K'⟩ := kts_ground K F hBG hfl.1 hsm
  obtain ⟨ob, hob, hobc⟩ := hfl.there
  have hT : s.TypeIs (.ref e) X := (show ∃ o, s.heap.get? e = some o ∧ o.cls = .type X from ⟨ob, hob, hobc⟩)
  have N' : News g' L s.heap news := fun q hq => ⟨hfl.1 _ _ (hl q hq).1, (fun z => by have := (hl q hq).1; rw [z, hL] at this; cases this), T.none_ _ (kts_none F.keep (hl q hq).2.1)⟩
  unfold OwitStop
  refine wpAny_isInstance hT hsub ?_
  show (if true = true then Q none s else E (.ref e) s)
  rw [if_pos rfl]
  exact k g' T F' N' K' (XB.keeps K'.stays) (TB.keeps K'.stays) (D.turn T)
end
section
set_option maxRecDepth 100000
set_option maxHeartbeats 8000000
theorem nt_c (w : World) (mean : ExcName → Option Value) (mg mb : Str → Option Value) (x : Str) (tx : Tok) (k : Nat) (tk s1 s2 s3 : Tok) (y dy lx dl pb fs : Addr) (u1 u2 : Tok) (t0 t1 t2 t3 t4 t5 t6 t7 t8 t9 t10 t11 t12 t13 t14 t15 t16 t17 t18 t19 t20 t21 t22 t23 t24 t25 t26 t27 : Tok) (rest : List (Addr × Obj)) (R : List Nat × Bool × Option Ls × List Nat) (dp un : Nat) (gd : Option (List Code)) (cn : Str) (cs : Scope) (a : Addr) (ccd : Value) (cel : List (Str × Addr)) (outer : List Env) (A₀ : Around) (base h₀ : Heap) (L : Addr) (m : Str → Option Value) (s : Shared) (Q E : Value → Shared → Prop)
    (hB : Below A₀ base outer h₀) (hF : Fr h₀ L s.heap m) : (Mine.K w.params).In h₀ → News h₀ L s.heap (ldg w x tx s1 s2 s3 y dy lx dl pb fs t0 t1 t2 t3 t4 t5 t6 t7 t8 t9 t10 t11 t12 t13 t14 t15 t16 t17 t18 t19 t20 t21 t22 t23 t24 t25 t26 t27 ((pb, dqO) :: (fs, dqO) :: rest) ⟨.str (Str.ofString " ") u1, .str (Str.ofString "") u2, k, tk, false⟩) → Top Mine.vw loose mean mg mb h₀ → cs.kind = .function → dp + 30 < recursionLimit → un + 300 < cLine →
    k ≤ x.length → x.length ≤ 1000 → (∀ c ∈ cl x, okC c) → lexR ((cl x).drop k) .sp [] false = some R → ¬ (R.1 = [] ∧ R.2.1 = false) → @Ne Nat lx dl → @Ne Nat y dl → @Ne Nat dy dl → @Ne Nat y dy → @Ne Nat lx dy → (∀ p ∈ (pb, dqO) :: (fs, dqO) :: rest, p.1 ≠ dl) → (∀ p ∈ (pb, dqO) :: (fs, dqO) :: rest, p.1 ≠ dy) →
    (∀ t t' t'' kk tk h' tk', kk ≤ x.length → R.2.2.2 = (cl x).drop kk → Fr h₀ L h' m → News h₀ L h' (ldg w x tx s1 s2 s3 y dy lx dl pb fs t0 t1 t2 t3 t4 t5 t6 t7 t8 t9 t10 t11 t12 t13 t14 t15 t16 t17 t18 t19 t20 t21 t22 t23 t24 t25 t26 t27 ((pb, dqO) :: (fs, dqO) :: rest) ⟨stV R.2.2.1 t', .str (Str.ofString "") t'', kk, tk, false⟩) → Q (.str (sOf R.1) t) { s with heap := h', toks := tk' }) →
    wpAny (model PySem.Challenge.pw_ny0408_01 w) (ktrTop dp un gd cn cs L a ccd cel outer) (call (.ref 743) [.ref lx]) Q E s := by
  refine fill ?_
  k_fill
  intro _ hX hN hT hK hdp hun hk hx hc hR hRn d1 d2 d3 d4 d5 hr1 hr2 hret
  refine wpAny_call ?_
  k_dflt cell_enter
  k_with_none
  k_with "truthy ref" => (k_here; k_dflt (refine dq_truthy (News.get (by k_asm) (by k_mem)) ?_))
  k_with "call ref" => ((with_reducible show wpAny _ _ (call (Value.ref 714) _) _ _ _); refine halt ?_)
  k_steps
  unfold Halt
  rename Fr _ _ _ _ => F₃
  rename News _ _ _ _ => N₃
  refine rt_c w mean mg mb x tx k _ s1 s2 s3 y dy lx dl pb fs _ _ t0 t1 t2 t3 t4 t5 t6 t7 t8 t9 t10 t11 t12 t13 t14 t15 t16 t17 t18 t19 t20 t21 t22 t23 t24 t25 t26 t27 _ R _ _ _ _ _ _ _ _ _ _ _ _ _ _ _ _ _ (by k_asm) F₃ (by k_asm) N₃ (by k_asm) rfl ?_ ?_ hk hx hc hR d1 d2 d3 d4 d5 hr1 hr2 ?_
  · simp only [depth_mark, depth_under_make, depth_under_kw, depth_in1, depth_deeper, depth_caller]; lia
  · simp only [units_deeper]; lia
  · intro t t' t'' kk tkR h₄ tk₄ hkk hdr F₄ N₄
    have e : rtV R t = .str (sOf R.1) t := if_neg hRn
    rw [e]
    clear N₃ F₃
    try dsimp only
    k_with_none
    k_steps
    rename Fr _ _ _ _ => Fn
    rename News _ _ _ _ => Nn
    exact hret t t' t'' kk tkR _ _ hkk hdr Fn Nn
end
section
set_option maxRecDepth 100000
set_option maxHeartbeats 8000000
theorem ne_c (w : World) (mean : ExcName → Option Value) (mg mb : Str → Option Value) (x : Str) (tx : Tok) (tk s1 s2 s3 : Tok) (y dy lx dl pb fs : Addr) (u2 : Tok) (t0 t1 t2 t3 t4 t5 t6 t7 t8 t9 t10 t11 t12 t13 t14 t15 t16 t17 t18 t19 t20 t21 t22 t23 t24 t25 t26 t27 : Tok) (rest : List (Addr × Obj)) (dp un : Nat) (gd : Option (List Code)) (cn : Str) (cs : Scope) (a : Addr) (ccd : Value) (outer : List Env) (A₀ : Around) (base h₀ : Heap) (L : Addr) (m : Str → Option Value) (s : Shared) (Q : Option Value → Shared → Prop) (E : Value → Shared → Prop)
    (hB : Below A₀ base outer h₀) (hF : Fr h₀ L s.heap m) : (Mine.K w.params).In h₀ → News h₀ L s.heap (ldg w x tx s1 s2 s3 y dy lx dl pb fs t0 t1 t2 t3 t4 t5 t6 t7 t8 t9 t10 t11 t12 t13 t14 t15 t16 t17 t18 t19 t20 t21 t22 t23 t24 t25 t26 t27 ((pb, dqO) :: (fs, dqO) :: rest) ⟨.none, .str (Str.ofString "") u2, x.length, tk, false⟩) → Top Mine.vw loose mean mg mb h₀ → cs.kind = .function → dp + 30 < recursionLimit → un + 300 < cLine →
    x.length ≤ 1000 → @Ne Nat lx dl → @Ne Nat y dl → @Ne Nat dy dl → @Ne Nat y dy → @Ne Nat lx dy → (∀ p ∈ (pb, dqO) :: (fs, dqO) :: rest, p.1 ≠ dl) → (∀ p ∈ (pb, dqO) :: (fs, dqO) :: rest, p.1 ≠ dy) →
    (Mine.K w.params).In base → Top Mine.vw loose mean mg mb base → KtsDicts (outer.filterMap (·.frame)) h₀ →
    (∀ g' h' tk', KtsTurn (outer.filterMap (·.frame)) h₀ g' → Fr g' L h' m → News g' L h' rest → Below A₀ base outer g' → (Mine.K w.params).In g' → Top Mine.vw loose mean mg mb g' → KtsDicts (outer.filterMap (·.frame)) g' → Q none { s with heap := h', toks := tk' }) →
    wpAny (model PySem.Challenge.pw_ny0408_01 w) { handled := none, depth := dp, frames := some (envOf cn cs L a ccd :: outer), guards := gd, units := un } (pyNext (.ref lx)) Q E s := by
  refine fill ?_
  k_fill
  intro _ hX hN hT hK hdp hun hx d1 d2 d3 d4 d5 hr1 hr2 hXB hTB hD hret
  k_dflt (refine' owit_next ?F ?X ?I ?hs ?hf ?_; (case F => k_asm); (case X => k_asm); (case I => k_inst); (case hs => k_is); (case hf => k_is); k_whole)
  refine wpAny_call ?_
  k_dflt cell_enter
  k_with_none
  k_with "truthy ref" => (k_here; k_dflt (refine dq_truthy (News.get (by k_asm) (by k_mem)) ?_))
  k_with "call ref" => ((with_reducible show wpAny _ _ (call (Value.ref 714) _) _ _ _); refine halt ?_)
  k_steps
  unfold Halt
  rename Fr _ _ _ _ => F₃
  rename News _ _ _ _ => N₃
  refine rn_c w mean mg mb x tx _ s1 s2 s3 y dy lx dl pb fs _ t0 t1 t2 t3 t4 t5 t6 t7 t8 t9 t10 t11 t12 t13 t14 t15 t16 t17 t18 t19 t20 t21 t22 t23 t24 t25 t26 t27 _ _ _ _ _ _ _ _ _ _ _ _ _ _ _ _ _ _ (by k_asm) F₃ (by k_asm) N₃ (by k_asm) rfl ?_ ?_ hx d1 d2 d3 d4 d5 hr1 hr2 ?_
  · simp only [depth_mark, depth_under_make, depth_under_kw, depth_in1, depth_deeper, depth_caller]; lia
  · simp only [units_deeper]; lia
  · intro t'' tkR h₄ tk₄ F₄ N₄
    clear N₃ F₃
    try dsimp only
    k_with_none
    k_with "truthy ref" => (k_here; k_dflt (refine dq_truthy (News.get (by k_asm) (by k_mem)) ?_))
    k_steps
    rename RaisedS _ _ _ _ _ _ _ _ _ => S'
    refine owit_stopS (KF := Mine.K w.params) S' (by assumption) hB (by assumption) hXB hTB (by assumption) (by rw [isSubtype_type]; kernel_rfl) ?_
    intro g₉ T₉ F₉ N₉ B₉ X₉ P₉ D₉
    refine hret g₉ _ _ T₉ F₉ (cb_drop N₉ ?_) B₉ X₉ P₉ D₉
    intro p hp
    simp only [List.mem_cons]
    simp [hp]
end
section
set_option maxRecDepth 100000
section
variable {prog : Program} {w : World} {A : Around} {R : Result → Shared → Prop} {s : Shared}
theorem ext_step {D I : Addr} {res : Value}
    (h : wpAny (model prog w) A.in1 (pyNext (.ref I)) (fun r s₁ => match r with
      | none => R (.ok (.ret res)) s₁
      | some x => ∃ items c, s₁.heap.get? D = some { cls := .type "list", data := .seq items c } ∧ items.size < 1000 ∧
          codeAny (model prog w) A (.builtin "list.extend.loop" ⟨[.ref D, .ref I, res], []⟩) R { s₁ with heap := s₁.heap.update D (Obj.mapSeq (·.push x)) }) (fun e s' => R (.error e) s') s) :
    codeAny (model prog w) A (.builtin "list.extend.loop" ⟨[.ref D, .ref I, res], []⟩) R s := by
  refine codeAny_builtin PySem.F.entry_extend_loop ?_
  rw [Around.under_plainId PySem.F.plain_extend_loop _]
  show wpAny _ A.in1 (pyNext (.ref I) >>= _) _ _ s
  refine wpAny_bind (wpAny_mono h (fun r s₁ hr => ?_) fun _ _ e => e)
  cases r with
  | none => exact wpAny_pure hr
  | some x =>
    obtain ⟨items, c, hD, hsz, hc⟩ := hr
    show wpAny _ A.in1 (updateSeq D (·.push x) >>= fun _ => again (.builtin "list.extend.loop" ⟨[.ref D, .ref I, res], []⟩)) _ _ _
    exact wpAny_bind (wpAny_updateSeq hD rfl (wpAny_pure ⟨plainId_quiet PySem.F.plain_extend_loop _, hc⟩) (Nat.le_trans (Nat.le_of_lt hsz) (by decide)) (by show (items.push x).size ≤ sizeLine + 1; rw [Array.size_push]; exact Nat.le_trans hsz (by decide)))
end
end
section
set_option maxRecDepth 100000
set_option maxHeartbeats 8000000
theorem len_746 (P : Params) (S : Setting) : peek (Mine.K P) S (typeLookup (.ref 746) "__len__") = some none := by kernel_rfl
theorem hint_746 (P : Params) (S : Setting) : peek (Mine.K P) S (typeLookup (.ref 746) "__length_hint__") = some none := by kernel_rfl
section
variable {prog : Program} {w : World} {A : Around} {E Q : Value → Shared → Prop} {s : Shared} {h₀ : Heap} {L I dl : Addr} {m : Str → Option Value} {news : List (Addr × Obj)}
theorem upd_list {h : Heap} {D : Addr} {items items' : Array Value} {c c' : Nat} {f : Obj → Obj} (F : Fr h₀ L h m) (N : News h₀ L h ((D, listOf items c) :: news)) (hD : ∀ p ∈ news, p.1 ≠ D) (e : f (listOf items c) = listOf items' c') :
    Fr h₀ L (h.update D f) m ∧ News h₀ L (h.update D f) ((D, listOf items' c') :: news) :=
  news_upd (pre := []) (post := news) F N (fun _ h => nomatch h) hD e rfl
theorem list_own (X : (Mine.K w.params).In h₀) (F : Fr h₀ L s.heap m) (N : News h₀ L s.heap news) (hI : (I, instObj 746 dl) ∈ news)
    (h : ∀ D c h₂, (∀ p ∈ news, p.1 < D) → Fr h₀ L h₂ m → News h₀ L h₂ ((D, listOf #[] c) :: news) →
      wpAny (model prog w) A.in1.in1 (pyIter (.ref I)) (fun it s₁ => it = .ref I ∧ ∃ c, Fr h₀ L s₁.heap m ∧ News h₀ L s₁.heap ((D, listOf #[] c) :: news) ∧
        (∀ c' h₃, Fr h₀ L h₃ m → News h₀ L h₃ ((D, listOf #[] c') :: news) → codeAny (model prog w) A.in1 (.builtin "list.extend.loop" ⟨[.ref D, .ref I, .none], []⟩) (wants (fun r s₂ => r = .none ∧ Q (.ref D) s₂) E) { s₁ with heap := h₃ })) E { s with heap := h₂ }) :
    wpAny (model prog w) A (call (.type "list") [.ref I]) Q E s := by
  refine callType_codes (Q₁ := fun obj s₁ => obj = .ref s.heap.objs.size ∧ s₁ = { s with heap := s.heap.push { cls := .type "list", data := .seq #[] } }) PySem.F.called_list (PySem.F.typeCall_list_1 _) PySem.F.entry_list_init
    (code_list_new _ ⟨rfl, rfl⟩) fun obj s₁ h₁ => ?_
  obtain ⟨rfl, rfl⟩ := h₁
  have lt : ∀ p ∈ news, p.1 < s.heap.objs.size := fun p hp => Heap.lt_size (N p hp).1
  have hD : ∀ p ∈ news, p.1 ≠ s.heap.objs.size := fun p hp => Nat.ne_of_lt (lt p hp)
  have N1 : News h₀ L (s.heap.push { cls := .type "list", data := .seq #[] }) ((s.heap.objs.size, listOf #[] 0) :: news) := N.push F _
  have F1 := F.push { cls := .type "list", data := .seq #[] }
  have hS : (s.heap.push { cls := .type "list", data := .seq #[] }).get? s.heap.objs.size = some { cls := .type "list", data := .seq #[] } := Heap.get?_push_size _ rfl
  refine ⟨⟨_, hS, rfl⟩, PySem.F.args_list_init_2 _ _, ?_⟩
  show wpAny _ A.in1.in1 (do let old ← Builtin.List.listItems (.ref s.heap.objs.size); Builtin.List.listUpdate (.ref s.heap.objs.size) (fun _ => #[]); letGo old.toList.reverse; Builtin.List.listExtendWith (.ref s.heap.objs.size) (.ref I) .none) _ _ _
  refine wpAny_bind ?_
  unfold Builtin.List.listItems
  refine wpAny_bind (wpAny_seqItems hS rfl (wpAny_pure ?_))
  show wpAny _ A.in1.in1 (updateSeq s.heap.objs.size (fun _ => #[]) >>= fun _ => letGo (#[] : Array Value).toList.reverse >>= fun _ => Builtin.List.listExtendWith (.ref s.heap.objs.size) (.ref I) .none) _ _ _
  refine wpAny_bind (wpAny_updateSeq hS rfl ?_)
  obtain ⟨F2, N2⟩ := upd_list (f := Obj.mapSeq (fun _ => (#[] : Array Value))) F1 N1 hD rfl
  refine wpAny_bind (wpAny_letGo ?_)
  unfold Builtin.List.listExtendWith
  have tI : ∀ h', News h₀ L h' ((s.heap.objs.size, listOf #[] 0) :: news) → Looks (model prog w) h' (typeOf (.ref I)) (.ref 746) := fun h' N' => (Looks.ld (N' (I, instObj 746 dl) (List.mem_cons_of_mem _ hI)).1).andThen .now
  refine wpAny_bind ((tI _ N2).here ?_)
  have hne : s.heap.objs.size ≠ I := Ne.symm (hD _ hI)
  have h1 : Builtin.List.listSameRef (.ref s.heap.objs.size) (.ref I) = false := by simp [Builtin.List.listSameRef, hne]
  have h2 : (Value.ref 746 == Value.type "list") = false := by decide
  have h3 : (Value.ref 746 == Value.type "tuple") = false := by decide
  simp only [h1, h2, h3, Bool.or_false, Bool.false_eq_true, if_false]
  refine wpAny_bind (wpAny_mono (h _ _ _ lt F2 N2) (fun it s₁ hit => ?_) fun _ _ e => e)
  obtain ⟨rfl, c, F3, N3, hgo⟩ := hit
  have t3 : Looks (model prog w) s₁.heap (typeOf (.ref I)) (.ref 746) := (Looks.ld (N3 (I, instObj 746 dl) (List.mem_cons_of_mem _ hI)).1).andThen .now
  have X3 := X.keeps F3.keep
  have l1 : Looks (model prog w) s₁.heap (specialOf (.ref I) "__len__") none := t3.andThen (Looks.of_peek X3 (len_746 _ _))
  have l2 : Looks (model prog w) s₁.heap (specialOf (.ref I) "__length_hint__") none := t3.andThen (Looks.of_peek X3 (hint_746 _ _))
  refine wpAny_bind (wpAny_holding ?_)
  unfold Builtin.List.listLengthHint
  refine wpAny_bind (l1.here ?_)
  show wpAny _ A.in1.in1 (specialOf (Value.ref I) (Str.ofString "__length_hint__") >>= _) _ _ _
  refine wpAny_bind (l2.here ?_)
  refine wpAny_pure ?_
  show wpAny _ A.in1.in1 (rule "list.extend.makes-room" >>= fun _ => Builtin.List.listTouch (.ref s.heap.objs.size) >>= fun _ =>
    again (.builtin "list.extend.loop" ⟨[.ref s.heap.objs.size, .ref I, .none], []⟩)) _ _ _
  refine wpAny_bind (wpAny_rule ?_)
  refine wpAny_bind ?_
  show wpAny _ A.in1.in1 (updateSeq s.heap.objs.size (·.push .none) >>= fun _ => updateSeq s.heap.objs.size (·.pop)) _ _ _
  have hS3 := (N3 (s.heap.objs.size, listOf #[] c) List.mem_cons_self).1
  refine wpAny_bind (wpAny_updateSeq hS3 rfl ?_)
  obtain ⟨F4, N4⟩ := upd_list (f := Obj.mapSeq (·.push Value.none)) F3 N3 hD rfl
  have hS4 := (N4 _ List.mem_cons_self).1
  refine wpAny_updateSeq (hz := by seq_fits) hS4 rfl ?_
  obtain ⟨F5, N5⟩ := upd_list (f := Obj.mapSeq (·.pop)) F4 N4 hD rfl
  exact wpAny_pure ⟨plainId_quiet PySem.F.plain_extend_loop _, hgo _ _ F5 N5⟩
end
end
section
set_option maxRecDepth 100000
set_option maxHeartbeats 8000000
inductive LexTo : List Nat → List (List Nat) → Prop where
  | last {rem tok : List Nat} {q : Bool} : lexR rem .sp [] false = some (tok, q, none, []) → ¬ (tok = [] ∧ q = false) → LexTo rem [tok]
  | more {rem rem' tok : List Nat} {q : Bool} {ts : List (List Nat)} : lexR rem .sp [] false = some (tok, q, some .sp, rem') → ¬ (tok = [] ∧ q = false) → LexTo rem' ts → LexTo rem (tok :: ts)
theorem it_c (w : World) (mean : ExcName → Option Value) (mg mb : Str → Option Value) (lx : Addr) (news : List (Addr × Obj)) :
    MClaim PySem.Challenge.pw_ny0408_01 w (Mine.K w.params) Mine.vw loose mean mg mb 736 news True [.ref lx] (fun _ => .ref lx) := by
  refine fill ?_
  k_fill
  intro _
  dsimp only [MClaim, CbRet]
  intros
  rename_i hret
  refine wpAny_call ?_
  k_dflt cell_enter
  k_with_none
  k_steps
  exact hret 0 _ _ (by k_asm) (by k_asm)
end
section
set_option maxRecDepth 100000
set_option maxHeartbeats 8000000
theorem push_list (us : List Value) (v : Value) (c : Nat) : ∃ c', Obj.mapSeq (·.push v) (listOf us.toArray c) = listOf (us ++ [v]).toArray c' := by
  have e : ∃ c', Obj.mapSeq (·.push v) (listOf us.toArray c) = listOf (us.toArray.push v) c' := ⟨_, rfl⟩
  obtain ⟨c', e⟩ := e
  refine ⟨c', ?_⟩
  rw [e, List.push_toArray]
theorem loop_c (w : World) (mean : ExcName → Option Value) (mg mb : Str → Option Value) (x : Str) (tx : Tok) (s1 s2 s3 : Tok) (y dy lx dl pb fs D : Addr) (t0 t1 t2 t3 t4 t5 t6 t7 t8 t9 t10 t11 t12 t13 t14 t15 t16 t17 t18 t19 t20 t21 t22 t23 t24 t25 t26 t27 : Tok) (rest : List (Addr × Obj)) (dp un : Nat) (gd : Option (List Code)) (cn : Str) (cs : Scope) (a : Addr) (ccd : Value) (outer : List Env) (A₀ : Around) (base h₀ : Heap) (L : Addr) (m : Str → Option Value) (R : Result → Shared → Prop)
    (hB : Below A₀ base outer h₀) (hX : (Mine.K w.params).In h₀) (hT : Top Mine.vw loose mean mg mb h₀) (hK : cs.kind = .function) (hdp : dp + 40 < recursionLimit) (hun : un + 400 < cLine) (hx : x.length ≤ 1000) (hc : ∀ c ∈ cl x, okC c)
    (d1 : @Ne Nat lx dl) (d2 : @Ne Nat y dl) (d3 : @Ne Nat dy dl) (d4 : @Ne Nat y dy) (d5 : @Ne Nat lx dy) (p1 : @Ne Nat pb dl) (p2 : @Ne Nat fs dl) (p3 : @Ne Nat pb dy) (p4 : @Ne Nat fs dy) (hr1 : ∀ p ∈ rest, p.1 ≠ dl) (hr2 : ∀ p ∈ rest, p.1 ≠ dy)
    (e1 : lx ≠ D) (e2 : dl ≠ D) (e3 : y ≠ D) (e4 : dy ≠ D) (e5 : pb ≠ D) (e6 : fs ≠ D) (hr3 : ∀ p ∈ rest, p.1 ≠ D)
    (hXB : (Mine.K w.params).In base) (hTB : Top Mine.vw loose mean mg mb base) (hDc : KtsDicts (outer.filterMap (·.frame)) h₀) {rem : List Nat} {ts : List (List Nat)} (hl : LexTo rem ts) :
    ∀ (k : Nat) (us : List Value) (c : Nat) (tk u1 u2 : Tok) (s : Shared), k ≤ x.length → rem = (cl x).drop k → us.length + ts.length ≤ 900 → Fr h₀ L s.heap m →
      News h₀ L s.heap (ldg w x tx s1 s2 s3 y dy lx dl pb fs t0 t1 t2 t3 t4 t5 t6 t7 t8 t9 t10 t11 t12 t13 t14 t15 t16 t17 t18 t19 t20 t21 t22 t23 t24 t25 t26 t27 ((pb, dqO) :: (fs, dqO) :: (D, listOf us.toArray c) :: rest) ⟨.str (Str.ofString " ") u1, .str (Str.ofString "") u2, k, tk, false⟩) →
      (∀ (vs : List Value) c' g' h' tk', StrsAre vs (ts.map sOf) → KtsTurn (outer.filterMap (·.frame)) h₀ g' → Fr g' L h' m → News g' L h' ((D, listOf (us ++ vs).toArray c') :: rest) → Below A₀ base outer g' → (Mine.K w.params).In g' → Top Mine.vw loose mean mg mb g' → KtsDicts (outer.filterMap (·.frame)) g' →
        R (.ok (.ret .none)) { s with heap := h', toks := tk' }) →
      codeAny (model PySem.Challenge.pw_ny0408_01 w) { handled := none, depth := dp, frames := some (envOf cn cs L a ccd :: outer), guards := gd, units := un } (.builtin "list.extend.loop" ⟨[.ref D, .ref lx, .none], []⟩) R s := by
  have nxt : findIn (Mine.K w.params) (.ref 746) "__next__" = some (some (.ref 743)) := by kernel_rfl
  have nfn : isFn (Mine.K w.params) (.ref 743) = true := by kernel_rfl
  have q1 : ∀ us c, ∀ p ∈ (pb, dqO) :: (fs, dqO) :: (D, listOf us c) :: rest, p.1 ≠ dl := by
    intro us c p hp
    simp only [List.mem_cons] at hp
    rcases hp with rfl | rfl | rfl | hp
    · exact p1
    · exact p2
    · exact Ne.symm e2
    · exact hr1 p hp
  have q2 : ∀ us c, ∀ p ∈ (pb, dqO) :: (fs, dqO) :: (D, listOf us c) :: rest, p.1 ≠ dy := by
    intro us c p hp
    simp only [List.mem_cons] at hp
    rcases hp with rfl | rfl | rfl | hp
    · exact p3
    · exact p4
    · exact Ne.symm e4
    · exact hr2 p hp
  have tokstep : ∀ (Rr : List Nat × Bool × Option Ls × List Nat) (k : Nat) (us : List Value) (c : Nat) (tk u1 u2 : Tok) (s : Shared), k ≤ x.length → us.length ≤ 900 → lexR ((cl x).drop k) .sp [] false = some Rr → ¬ (Rr.1 = [] ∧ Rr.2.1 = false) → Fr h₀ L s.heap m →
      News h₀ L s.heap (ldg w x tx s1 s2 s3 y dy lx dl pb fs t0 t1 t2 t3 t4 t5 t6 t7 t8 t9 t10 t11 t12 t13 t14 t15 t16 t17 t18 t19 t20 t21 t22 t23 t24 t25 t26 t27 ((pb, dqO) :: (fs, dqO) :: (D, listOf us.toArray c) :: rest) ⟨.str (Str.ofString " ") u1, .str (Str.ofString "") u2, k, tk, false⟩) →
      (∀ t t' t'' kk tkR h' tk' c', kk ≤ x.length → Rr.2.2.2 = (cl x).drop kk → Fr h₀ L h' m → News h₀ L h' (ldg w x tx s1 s2 s3 y dy lx dl pb fs t0 t1 t2 t3 t4 t5 t6 t7 t8 t9 t10 t11 t12 t13 t14 t15 t16 t17 t18 t19 t20 t21 t22 t23 t24 t25 t26 t27 ((pb, dqO) :: (fs, dqO) :: (D, listOf (us ++ [Value.str (sOf Rr.1) t]).toArray c') :: rest) ⟨stV Rr.2.2.1 t', .str (Str.ofString "") t'', kk, tkR, false⟩) →
        codeAny (model PySem.Challenge.pw_ny0408_01 w) { handled := none, depth := dp, frames := some (envOf cn cs L a ccd :: outer), guards := gd, units := un } (.builtin "list.extend.loop" ⟨[.ref D, .ref lx, .none], []⟩) R { s with heap := h', toks := tk' }) →
      codeAny (model PySem.Challenge.pw_ny0408_01 w) { handled := none, depth := dp, frames := some (envOf cn cs L a ccd :: outer), guards := gd, units := un } (.builtin "list.extend.loop" ⟨[.ref D, .ref lx, .none], []⟩) R s := by
    intro Rr k us c tk u1 u2 s hk hus hR hRn F N hgo
    refine ext_step (owit_next F hX (InstAt.of_news N (List.Mem.head _) (List.Mem.tail _ (List.Mem.head _))) nxt nfn ?_)
    refine nt_c w mean mg mb x tx k tk s1 s2 s3 y dy lx dl pb fs u1 u2 t0 t1 t2 t3 t4 t5 t6 t7 t8 t9 t10 t11 t12 t13 t14 t15 t16 t17 t18 t19 t20 t21 t22 t23 t24 t25 t26 t27 _ Rr dp (un + 1) gd cn cs a ccd [] outer A₀ base h₀ L m s _ _ hB F hX N hT hK (by lia) (by lia) hk hx hc hR hRn d1 d2 d3 d4 d5 (q1 _ _) (q2 _ _) ?_
    intro t t' t'' kk tkR h' tk' hkk hdr F' N'
    refine ⟨us.toArray, c, (N' (D, listOf us.toArray c) (by simp)).1, by simp; lia, ?_⟩
    obtain ⟨c', ec⟩ := push_list us (.str (sOf Rr.1) t) c
    obtain ⟨F2, N2⟩ := news_upd (pre := [_, _, _, _, _, _]) (post := rest) (d := D) (o := listOf us.toArray c) (o' := listOf (us ++ [Value.str (sOf Rr.1) t]).toArray c') (f := Obj.mapSeq (·.push (Value.str (sOf Rr.1) t))) F' N' (by
      intro p hp
      simp only [List.mem_cons, List.not_mem_nil, or_false] at hp
      rcases hp with rfl | rfl | rfl | rfl | rfl | rfl <;> assumption) hr3 ec rfl
    exact hgo t t' t'' kk tkR _ _ c' hkk hdr F2 N2
  induction hl with
  | last h1 h2 =>
    intro k us c tk u1 u2 s hk hrem hlen F N hfin
    subst hrem
    refine tokstep _ k us c tk u1 u2 s hk (by simp at hlen; lia) h1 h2 F N ?_
    intro t t' t'' kk tkR h' tk' c' hkk hdr F' N'
    have hke : kk = x.length := by
      have := congrArg List.length hdr
      rw [List.length_drop, len_cl] at this
      simp at this
      lia
    subst hke
    refine ext_step ?_
    refine ne_c w mean mg mb x tx tkR s1 s2 s3 y dy lx dl pb fs t'' t0 t1 t2 t3 t4 t5 t6 t7 t8 t9 t10 t11 t12 t13 t14 t15 t16 t17 t18 t19 t20 t21 t22 t23 t24 t25 t26 t27 _ dp (un + 1) gd cn cs a ccd outer A₀ base h₀ L m _ _ _ hB F' hX N' hT hK (by lia) (by lia) hx d1 d2 d3 d4 d5 (q1 _ _) (q2 _ _) hXB hTB hDc ?_
    intro g' h'' tk'' T9 F9 N9 B9 X9 P9 D9
    exact hfin _ c' g' h'' tk'' (.cons _ _ .nil) T9 F9 N9 B9 X9 P9 D9
  | more h1 h2 h3 ih =>
    intro k us c tk u1 u2 s hk hrem hlen F N hfin
    subst hrem
    refine tokstep _ k us c tk u1 u2 s hk (by simp at hlen; lia) h1 h2 F N ?_
    intro t t' t'' kk tkR h' tk' c' hkk hdr F' N'
    refine ih kk _ c' tkR t' t'' _ hkk hdr (by simp at hlen ⊢; lia) F' N' ?_
    intro vs c'' g' h'' tk'' hvs T9 F9 N9 B9 X9 P9 D9
    rw [List.append_assoc] at N9
    exact hfin _ c'' g' h'' tk'' (.cons _ _ hvs) T9 F9 N9 B9 X9 P9 D9
end
section
open PySem PySem.W PyProof.Rows PySem.Calls
set_option maxRecDepth 100000
noncomputable abbrev frs (l : List Env) : List Addr := l.filterMap (·.frame)

noncomputable def EndS (A₀ : Around) (base : Heap) (outer : List Env) (env : Env) (K : Frag) (p : Program) (loose : List Str) (mean : ExcName → Option Value) (mg mb : Str → Option Value) (h₀ : Heap) (L : Addr) (m : Str → Option Value) (g : Heap) (R : Result → Shared → Prop) (v : Value) (s' : Shared) : Prop :=
  ∃ g' L' m' news', KtsTurn (frs (env :: outer)) g g' ∧ Fr g' L' s'.heap m' ∧ News g' L' s'.heap news' ∧
    ∀ h₀', KtsTurn (frs outer) h₀ h₀' → Fr h₀' L s'.heap m → News h₀' L s'.heap news' → Below A₀ base outer h₀' → K.In h₀' → Top p loose mean mg mb h₀' → KtsDicts (frs outer) h₀' → R (.ok (.ret v)) s'
section
variable {A₀ A : Around} {base h₀ g : Heap} {outer : List Env} {env : Env} {K : Frag} {p : Program} {loose : List Str} {mean : ExcName → Option Value} {mg mb : Str → Option Value} {L : Addr} {m : Str → Option Value} {R : Result → Shared → Prop} {v : Value} {s' : Shared}
theorem frs_mem {b : Addr} (hf : env.frame = some L) (hm : b ∈ frs (env :: outer)) : b = L ∨ b ∈ frs outer := by
  obtain ⟨e, he, hb⟩ := List.mem_filterMap.mp hm
  rcases List.mem_cons.mp he with rfl | he
  · exact .inl (Option.some.inj (hb.symm.trans hf))
  · exact .inr (List.mem_filterMap.mpr ⟨e, he, hb⟩)
theorem endS_out (B : Below A₀ base outer h₀) (FG : Fr h₀ L g m) (XB : K.In base) (TB : Top p loose mean mg mb base) (D : KtsDicts (frs outer) h₀) (hf : env.frame = some L) (h : EndS A₀ base outer env K p loose mean mg mb h₀ L m g R v s') : R (.ok (.ret v)) s' := by
  obtain ⟨g', L', m', news', T, F', N', k⟩ := h
  have nL : h₀.get? L = none := kts_self FG
  have other : ∀ b o, h₀.get? b = some o → b ∉ frs outer → s'.heap.get? b = some o := fun b o e nb => F'.keep b o (T.other b o (FG.keep b o e) fun hm => by
    rcases frs_mem hf hm with z | z
    · rw [z, nL] at e; cases e
    · exact nb z)
  have frame : ∀ b o, h₀.get? b = some o → b ∈ frs outer → ∃ sl, s'.heap.get? b = some { o with slots := sl } := fun b o e _ => by
    obtain ⟨sl, hs⟩ := T.up (FG.keep b o e)
    exact ⟨sl, F'.keep _ _ hs⟩
  obtain ⟨T0, S⟩ := kts_turn_at (h := s'.heap) (fs := frs outer) (g := h₀) (fun b hb => by
    obtain ⟨o, _, _, ho, _⟩ := D b hb
    exact ⟨o, ho⟩) other frame
  have B0 : Below A₀ base outer (ktsHeap s'.heap (frs outer) h₀) := ⟨B.stack, fun b o e => T0.other b o (B.stays b o e) (fun hm => by
    rw [(B.frames.mem hm).1] at e; cases e), B.frames.of_keeps fun b o e _ => by
      obtain ⟨sl, hs⟩ := T0.up e
      exact ⟨_, hs, rfl⟩⟩
  have ns : s'.heap.Ns L m := by
    obtain ⟨oL, es, ep, hL, hLd, hLk, hLf⟩ := FG.ns
    obtain ⟨sl, hs⟩ := T.up hL
    exact ⟨_, es, ep, F'.keep _ _ hs, hLd, hLk, hLf⟩
  refine k _ T0 ⟨ns, S, by rw [T0.size]; exact FG.above⟩ (fun q hq => ⟨(N' q hq).1, fun z => ?_, ?_⟩) B0 (XB.keeps B0.stays) (TB.keeps B0.stays) (D.turn T0)
  · obtain ⟨oL, es, ep, hL, _⟩ := FG.ns
    obtain ⟨sl, hs⟩ := T.up hL
    have := (N' q hq).2.2
    rw [z, hs] at this; cases this
  · refine T0.none_ _ ?_
    cases e : h₀.get? q.1 with
    | none => rfl
    | some o =>
      obtain ⟨sl, hs⟩ := T.up (FG.keep _ _ e)
      have := (N' q hq).2.2
      rw [hs] at this; cases this
end
section
variable {prog : Program} {w : World} {A₀ A : Around} {s : Shared} {base h₀ : Heap} {outer : List Env} {env : Env} {L : Addr} {m : Str → Option Value} {news : List (Addr × Obj)} {K : Frag} {p : Program} {loose : List Str} {mean : ExcName → Option Value} {mg mb : Str → Option Value}
  {R : Result → Shared → Prop} {name qual : Str} {params : Arguments} {body : List Stmt} {scope : Scope} {dV kV doc pm cdv ct oc : Value} {an od : Option Addr} {osl : Array (Option Value)} {f : Addr} {args : Args} {binds : List (Str × Value)}
theorem dicts_push (D : KtsDicts (frs outer) h₀) {g : Heap} (FG : Fr h₀ L g m) (hf : env.frame = some L) : KtsDicts (frs (env :: outer)) g := by
  intro b hb
  rcases frs_mem hf hb with rfl | hb
  · obtain ⟨oL, es, ep, hL, hLd, _⟩ := FG.ns
    exact ⟨oL, es, ep, hL, hLd⟩
  · obtain ⟨o, es, n, ho, hd⟩ := D b hb
    exact ⟨o, es, n, FG.keep _ _ ho, hd⟩
theorem code_plainS (B : Below A₀ base outer h₀) (F : Fr h₀ L s.heap m) (X₀ : K.In h₀) (N : News h₀ L s.heap news) (T : Top p loose mean mg mb h₀) (XB : K.In base) (TB : Top p loose mean mg mb base) (D : KtsDicts (frs outer) h₀)
    (hA : A.frames = some (env :: outer)) (hf : env.frame = some L) (hke : env.scope.kind = .function)
    (ho : K.lookup f = some ⟨oc, od, .func (fnOf name qual params body scope dV kV doc pm an cdv ct), osl⟩) (hcd : codeIn K cdv qual = true) (hroom : A.depth < recursionLimit)
    (hbind : BindsTo s (fnOf name qual params body scope dV kV doc pm an cdv ct) args binds) (hloc : ∀ y ∈ binds, scope.names.lookup y.1 = some .local)
    (h : ∀ g L' h₁, Fr h₀ L g m → Fr g L' h₁ (fun y => binds.reverse.lookup y) → News g L' h₁ news → Below A base (env :: outer) g → K.In g → Top p loose mean mg mb g → KtsDicts (frs (env :: outer)) g →
      wpAny (model prog w) (A.deeper (envOf qual scope L' f cdv)) (execs body (envOf qual scope L' f cdv))
        (fun fl s' => EndS A₀ base outer env K p loose mean mg mb h₀ L m g R (match fl with | .ret v => v | _ => .none) s')
        (fun e s' => wpAny (model prog w) (A.deeper (envOf qual scope L' f cdv)) (leaving (envOf qual scope L' f cdv) e) (fun _ s'' => R (.error e) s'') (fun e' s'' => R (.error e') s'') s')
        { s with heap := h₁, toks := s.toks + binds.length })
    (hco : scope.isCoroutine = false) (hgen : scope.isGenerator = false) (hk : scope.kind = .function) (hcell : ∀ x ∈ scope.names, x.2 ≠ .cell) : codeAny (model prog w) A (.call (.ref f) args) R s := by
  have X := X₀.keeps F.keep
  obtain ⟨FG, BG, st, _⟩ := groundX (R := R) B F N hA hf hke
  refine codeAny_call_def (fd := fnOf name qual params body scope dV kV doc pm an cdv ct) (body := body) (binds := binds) hroom (X _ _ ho) rfl (T.nolimit.keeps F.keep) (codeRec_of X hcd) rfl hbind hcell hloc (fun h₁ hns hk₁ => ?_) hco hgen hk
  exact wpAny_mono (h _ s.heap.objs.size h₁ FG ⟨hns, fun b o e => hk₁ b o (of_hideAll _ e), Nat.le_of_eq (hideAll_size _ _)⟩
    (fun q hq => ⟨hk₁ _ _ (N q hq).1, Nat.ne_of_lt (Heap.lt_size (N q hq).1), hideAll_none _ (List.mem_map_of_mem hq)⟩) BG (X₀.keeps st) (T.keeps st) (dicts_push D FG hf)) (fun fl s' hl => endS_out B FG XB TB D hf hl) fun _ _ y => y
theorem code_cellsS (B : Below A₀ base outer h₀) (F : Fr h₀ L s.heap m) (X₀ : K.In h₀) (N : News h₀ L s.heap news) (T : Top p loose mean mg mb h₀) (XB : K.In base) (TB : Top p loose mean mg mb base) (D : KtsDicts (frs outer) h₀)
    (hA : A.frames = some (env :: outer)) (hf : env.frame = some L) (hke : env.scope.kind = .function)
    (ho : K.lookup f = some ⟨oc, od, .func (fnOf name qual params body scope dV kV doc pm an cdv ct), osl⟩) (hcd : codeIn K cdv qual = true) (hroom : A.depth < recursionLimit)
    (hbind : BindsTo s (fnOf name qual params body scope dV kV doc pm an cdv ct) args binds) (hkind : (binds.all fun y => scope.names.lookup y.1 == some .local || scope.names.lookup y.1 == some .cell) = true)
    (hnd : ((cellsFrom 0 scope.names []).map (·.1)).Nodup)
    (h : ∀ g L' h₁ tk cells, Fr h₀ L g m → Fr g L' h₁ (bindL (envOfC qual scope L' f cdv).kindOf binds fun _ => none) → News g L' h₁ (cells ++ news) →
      CellsAre (bindC (envOfC qual scope L' f cdv).kindOf binds fun _ => none) (cellsFrom (L' + 1) scope.names []) cells → Below A base (env :: outer) g → K.In g → Top p loose mean mg mb g → KtsDicts (frs (env :: outer)) g → (∀ p ∈ news, p.1 < L') →
      wpAny (model prog w) (A.deeper (envOfC qual scope L' f cdv)) (execs body (envOfC qual scope L' f cdv))
        (fun fl s' => EndS A₀ base outer env K p loose mean mg mb h₀ L m g R (match fl with | .ret v => v | _ => .none) s')
        (fun e s' => wpAny (model prog w) (A.deeper (envOfC qual scope L' f cdv)) (leaving (envOfC qual scope L' f cdv) e) (fun _ s'' => R (.error e) s'') (fun e' s'' => R (.error e') s'') s')
        { s with heap := h₁, toks := tk })
    (hco : scope.isCoroutine = false) (hgen : scope.isGenerator = false) (hk : scope.kind = .function) : codeAny (model prog w) A (.call (.ref f) args) R s := by
  have X := X₀.keeps F.keep
  obtain ⟨FG, BG, st, _⟩ := groundX (R := R) B F N hA hf hke
  refine codeAny_call_function (fd := fnOf name qual params body scope dV kV doc pm an cdv ct) hroom (X _ _ ho) rfl hco hgen rfl (codeRec_of X hcd) (hbind _ _ _ _ ?_)
  refine wpAny_newFunctionEnv_cells hk (kindsX hkind _) fun env' he s' x => ?_
  subst he
  refine ⟨(T.nolimit.keeps F.keep).keeps x.toInCall.keep, codeAny_func ?_⟩
  obtain ⟨h₁, tk, rfl, _⟩ := x.done
  have kp := x.toInCall.keep
  obtain ⟨cells, NC, Y⟩ := Cl.news (h₀ := s.heap) (Nat.le_refl _) fun n c hm => ⟨x.cell n c (lookup_of_mem_nodup (cellsFrom_names scope.names 0 (s.heap.objs.size + 1) [] [] rfl ▸ hnd) hm), x.above n c hm⟩
  have NN : News (hideAll s.heap (news.map (·.1))) s.heap.objs.size h₁ (cells ++ news) := by
    intro q hq
    rcases List.mem_append.mp hq with hq | hq
    · refine ⟨(NC q hq).1, (NC q hq).2.1, ?_⟩
      cases z : (hideAll s.heap (news.map (·.1))).get? q.1 with
      | none => rfl
      | some o => have := of_hideAll _ z; rw [(NC q hq).2.2] at this; cases this
    · exact ⟨kp _ _ (N q hq).1, Nat.ne_of_lt (Heap.lt_size (N q hq).1), hideAll_none _ (List.mem_map_of_mem hq)⟩
  exact wpAny_mono (h _ s.heap.objs.size h₁ tk cells FG ⟨x.toInCall.ns, fun b o e => kp b o (of_hideAll _ e), Nat.le_of_eq (hideAll_size _ _)⟩ NN Y BG (X₀.keeps st) (T.keeps st) (dicts_push D FG hf) (fun q hq => Heap.lt_size (N q hq).1))
    (fun fl s' hl => endS_out B FG XB TB D hf hl) fun _ _ y => y
end
end
section
set_option maxRecDepth 100000
set_option maxHeartbeats 8000000
theorem order6 {h₀ h : Heap} {L : Addr} {a b c d e f : Addr × Obj} {r : List (Addr × Obj)} (N : News h₀ L h (f :: e :: c :: d :: a :: b :: r)) : News h₀ L h (a :: b :: c :: d :: e :: f :: r) :=
  cb_drop N (by
    intro p hp
    simp only [List.mem_cons] at hp ⊢
    rcases hp with h | h | h | h | h | h | h <;> simp [h])
theorem rot7 {h₀ h : Heap} {L : Addr} {a b c d e f g : Addr × Obj} {r : List (Addr × Obj)} (N : News h₀ L h (g :: a :: b :: c :: d :: e :: f :: r)) : News h₀ L h (a :: b :: c :: d :: e :: f :: g :: r) :=
  cb_drop N (by
    intro p hp
    simp only [List.mem_cons] at hp ⊢
    rcases hp with h | h | h | h | h | h | h | h <;> simp [h])
theorem find_iter (P : Params) : findIn (Mine.K P) (.ref 746) "__iter__" = some (some (.ref 736)) := by kernel_rfl
theorem find_next (P : Params) : findIn (Mine.K P) (.ref 746) "__next__" = some (some (.ref 743)) := by kernel_rfl
theorem fn_736 (P : Params) : isFn (Mine.K P) (.ref 736) = true := by kernel_rfl
theorem split_c (w : World) (mean : ExcName → Option Value) (mg mb : Str → Option Value) (x : Str) (tx : Tok) (ts : List (List Nat)) (news : List (Addr × Obj)) (dp un : Nat) (gd : Option (List Code)) (cn : Str) (cs : Scope) (a : Addr) (ccd : Value) (cel : List (Str × Addr)) (outer : List Env) (A₀ : Around) (base h₀ : Heap) (L : Addr) (m : Str → Option Value) (s : Shared) (Q E : Value → Shared → Prop)
    (hB : Below A₀ base outer h₀) (hF : Fr h₀ L s.heap m) : (Mine.K w.params).In h₀ → News h₀ L s.heap news → Top Mine.vw loose mean mg mb h₀ → cs.kind = .function → dp + 60 < recursionLimit → un + 500 < cLine → x.length ≤ 1000 → (∀ c ∈ cl x, okC c) → LexTo (cl x) ts → ts.length ≤ 900 →
    (Mine.K w.params).In base → Top Mine.vw loose mean mg mb base → KtsDicts (outer.filterMap (·.frame)) h₀ →
    (∀ (D : Addr) (vs : List Value) c g' h' tk', StrsAre vs (ts.map sOf) → KtsTurn (outer.filterMap (·.frame)) h₀ g' → Fr g' L h' m → News g' L h' ((D, listOf vs.toArray c) :: news) → (∀ p ∈ news, p.1 < D) → Below A₀ base outer g' → (Mine.K w.params).In g' → Top Mine.vw loose mean mg mb g' → KtsDicts (outer.filterMap (·.frame)) g' → Q (.ref D) { s with heap := h', toks := tk' }) →
    wpAny (model PySem.Challenge.pw_ny0408_01 w) { handled := none, depth := dp, frames := some (envX cn cs L a ccd cel :: outer), guards := gd, units := un } (call (.ref 758) [.str x tx]) Q E s := by
  refine fill ?_
  k_fill
  intro _ hX hN hT hK hdp hun hx hc hl hts hXB hTB hDc hret
  refine wpAny_call ?_
  k_dflt (refine' code_plainS ?k1 ?k2 ?k3 ?k4 ?k5 ?XB ?TB ?D ?kA ?kF ?cK ?k6 ?k7 ?k8 ?k9 ?kB ?_ ?c2 ?c3 ?c4 ?c5; (case kA => exact rfl); (case kF => exact rfl); (case k2 => k_asm); (case k1 => k_asm); (case XB => assumption); (case TB => assumption); (case D => assumption); (case k3 => k_asm); (case k4 => k_asm); (case k5 => k_asm); (case k6 => k_is); (case k7 => k_is); (case k8 => k_room); (case k9 => exact binds_K (hX.keeps hF.keep) rfl (by k_is) rfl rfl rfl); (case kB => exact locs rfl); (case cK => assumption); (case c2 => exact rfl); (case c3 => exact rfl); (case c4 => exact rfl); (case c5 => decide); k_whole; intro g' L' h' FG' F' N' B' X' T' D'; (try dsimp only); (try k_lift B'); (try k_fold))
  k_with_none
  k_with "call type:collections.deque" => (k_dflt (refine' dq_call ?k1 ?k2 ?_; (case k1 => k_asm); (case k2 => k_asm); k_whole); intro a9 h9 l9 F9 N9; k_lt l9; (try dsimp only); (try k_sweep))
  k_steps
  refine sio_c w mean mg mb x tx _ _ _ _ _ _ _ _ _ _ _ _ _ _ _ _ _ _ (by k_asm) (by k_asm) (by k_asm) (by k_asm) (by k_asm) rfl ?_ ?_ ?_
  · simp only [depth_mark, depth_under_make, depth_under_kw, depth_in1, depth_deeper, depth_caller]; lia
  · show un + 3 + 1 + 3 + 100 < cLine; lia
  intro y dy tk t1 t2 t3 h9 tk' l1 l2 F9 N9
  k_lt l1
  k_lt2 l2
  try dsimp only
  k_steps
  rename Fr _ _ _ _ => F5
  rename News _ _ _ _ => N5
  have A1 := (‹_ ∧ _ ∧ AllLt dy news›).2.2
  refine list_own X' F5 (order6 N5) (List.Mem.head _) ?_
  intro D c h₂ lt F2 N2
  refine owit_iter F2 X' (InstAt.of_news N2 (List.Mem.tail _ (List.Mem.head _)) (List.Mem.tail _ (List.Mem.tail _ (List.Mem.head _)))) (find_iter _) (fn_736 _) ?_
  refine it_c w mean mg mb _ _ _ _ _ _ _ _ _ [] _ _ _ _ _ _ _ _ _ B' F2 X' N2 T' rfl trivial ?_ ?_ ?_
  · simp only [depth_in1, depth_deeper]; lia
  · simp only [units_in1, units_deeper]; lia
  intro t h₃ tk₃ F3 N3
  refine owit_it F3 X' (InstAt.of_news N3 (List.Mem.tail _ (List.Mem.head _)) (List.Mem.tail _ (List.Mem.tail _ (List.Mem.head _)))) (find_next _) ⟨rfl, c, F3, N3, ?_⟩
  intro c' h₄ F4 N4
  refine loop_c w mean mg mb x tx _ _ _ y dy _ _ _ _ D _ _ _ _ _ _ _ _ _ _ _ _ _ _ _ _ _ _ _ _ _ _ _ _ _ _ _ _ _ _ _ _ _ _ _ _ _ _ _ _ _ _ _ B' X' T' rfl ?_ ?_ hx hc ?_ ?_ ?_ ?_ ?_ ?_ ?_ ?_ ?_ ?_ ?_ ?_ ?_ ?_ ?_ ?_ ?_ ?_ hXB hTB D' hl 0 [] c' _ _ _ _ (Nat.zero_le _) (List.drop_zero).symm ?_ F4 (rot7 N4) ?_
  · simp only [depth_in1, depth_deeper]; lia
  · simp only [units_in1, units_deeper]; lia
  · lia
  · lia
  · lia
  · lia
  · lia
  · lia
  · lia
  · lia
  · lia
  · exact allNe_lt (by assumption)
  · exact allNe_of A1
  · exact Nat.ne_of_lt (lt _ (List.Mem.head _))
  · exact Nat.ne_of_lt (lt _ (List.Mem.tail _ (List.Mem.head _)))
  · exact Nat.ne_of_lt (lt _ (List.Mem.tail _ (List.Mem.tail _ (List.Mem.head _))))
  · exact Nat.ne_of_lt (lt _ (List.Mem.tail _ (List.Mem.tail _ (List.Mem.tail _ (List.Mem.head _)))))
  · exact Nat.ne_of_lt (lt _ (List.Mem.tail _ (List.Mem.tail _ (List.Mem.tail _ (List.Mem.tail _ (List.Mem.head _))))))
  · exact Nat.ne_of_lt (lt _ (List.Mem.tail _ (List.Mem.tail _ (List.Mem.tail _ (List.Mem.tail _ (List.Mem.tail _ (List.Mem.head _)))))))
  · exact fun p hp => Nat.ne_of_lt (lt p (by simp [hp]))
  · simp; lia
  · intro vs c'' g9 h9 tk9 hvs T9 F9 N9 B9 X9 P9 D9
    refine ⟨rfl, ?_⟩
    refine ⟨g9, _, _, _, T9, F9, N9, ?_⟩
    intro h₀' T' F' N' B' X' P' D'
    exact hret D vs c'' h₀' _ _ hvs T' F' N' (fun p hp => lt p (by simp [hp])) B' X' P' D'
end
end
section
open PySem PySem.W PyProof.Rows PySem.Calls PyProof.Rows.LCg
set_option maxRecDepth 100000
section
variable {prog : Program} {w : World} {A : Around} {s : Shared} {h₀ : Heap} {L : Addr} {m : Str → Option Value} {env : Env} {elt : Expr} {x : Str} {scope : Scope} {cl : List (Str × Addr)} {S : List (Addr × Obj) → Prop} {P : Nat → Value → Prop} {Fin : List Value → List (Addr × Obj) → Prop}

theorem compJ {n : Nat} {news : List (Addr × Obj)} (J : Nat → List Value → List (Addr × Obj) → Prop) (h0 : J 0 [] news)
    (turn : ∀ i ys news₁ v I oI C oC D m₂ h tk (E' : Value → Shared → Prop), i < n → J i ys news₁ → P i v → NsObj oC m₂ → m₂ x = some v → Fr h₀ L h m → News h₀ L h ((I, oI) :: (C, oC) :: (D, lst ys) :: news₁) → Off3 I C D news₁ → ((@Ne Nat I C) ∧ (@Ne Nat I D) ∧ (@Ne Nat C D)) →
      wpAny (model prog w) A (eval elt (compEnvC scope cl C env)) (CompEnd h₀ L m { s with heap := h, toks := tk } I oI C oC D (lst ys) S (fun y news' => J (i + 1) (ys ++ [y]) news')) E' { s with heap := h, toks := tk })
    (fin : ∀ ys news', J n ys news' → Fin ys news') : CompRest prog w A h₀ L m env elt x scope cl s S P Fin n 0 [] news := by
  have go : ∀ k i ys news₁, i + k = n → J i ys news₁ → CompRest prog w A h₀ L m env elt x scope cl s S P Fin k i ys news₁ := by
    intro k
    induction k with
    | zero => intro i ys news₁ hi hJ; exact fin _ _ (by rw [Nat.add_zero] at hi; exact hi ▸ hJ)
    | succ k ih =>
      intro i ys news₁ hi hJ
      refine CompRest.succ fun v I oI C oC D m₂ h tk E' hP hC hx F N off ne => ?_
      refine wpAny_mono (turn i ys news₁ v I oI C oC D m₂ h tk E' (by lia) hJ hP hC hx F N off ne) (fun y s₂ h₂ => ?_) fun _ _ e => e
      obtain ⟨h', tk', news', e, F', N', off', hS, hJ'⟩ := h₂
      exact ⟨h', tk', news', e, F', N', off', hS, ih (i + 1) _ _ (by lia) hJ'⟩
  exact go n 0 [] news (Nat.zero_add n) h0
end
end
section
set_option maxRecDepth 100000
set_option maxHeartbeats 8000000
noncomputable def wordsAll : List Str := [Str.ofString "grant", Str.ofString "deny", Str.ofString "owner", Str.ofString "group", Str.ofString "public", Str.ofString "read", Str.ofString "write", Str.ofString "execute"]
noncomputable def quoteFine (x : Str) : Bool := decide (x.length ≤ 20) && ((cl x).all safe || decide ((Txt.replace x (Str.ofString "'") (Str.ofString "'\"'\"'")).length ≤ 5000)) && decide ((quoteS x).length ≤ 100)
theorem miss_fin : (wordsAll.all fun x => (List.range 4).all fun (p : Nat) => (List.range 6).all fun (j : Nat) => quoteFine (missp x (p : Int) (j : Int))) = true := by decide +kernel
theorem itsme_fine : quoteFine (Str.ofString "it's me") = true := by decide +kernel
theorem fine_ok {x : Str} (h : quoteFine x = true) : quoteOk x ∧ (quoteS x).length ≤ 100 := by
  simp only [quoteFine, Bool.and_eq_true, Bool.or_eq_true, decide_eq_true_eq] at h
  exact ⟨⟨Nat.le_trans h.1.1 (by decide), h.1.2⟩, h.2⟩
theorem miss_fine {x : Str} (hx : x ∈ wordsAll) {p j : Int} (hp : 0 ≤ p ∧ p < 4) (hj : 0 ≤ j ∧ j < 6) : quoteFine (missp x p j) = true := by
  have h := List.all_eq_true.mp miss_fin x hx
  have h := List.all_eq_true.mp h p.toNat (List.mem_range.mpr (by lia))
  have h := List.all_eq_true.mp h j.toNat (List.mem_range.mpr (by lia))
  rwa [show ((p.toNat : Nat) : Int) = p by lia, show ((j.toNat : Nat) : Int) = j by lia] at h
theorem join_fine : ∀ (xs : List Str) (n k : Nat), xs.length ≤ n → (∀ x ∈ xs, (quoteS x).length ≤ 100) → k + n * 101 ≤ 1000 → (xs.map quoteS).foldl (· + ·.length + (Str.ofString " ").length) k ≤ 1000
  | [], _, k, _, _, hk => by show k ≤ 1000; lia
  | x :: r, n, k, hn, hx, hk => by
    rw [List.map_cons, List.foldl_cons]
    have h1 := hx x List.mem_cons_self
    have e : (Str.ofString " ").length = 1 := by decide
    rw [List.length_cons] at hn
    exact join_fine r (n - 1) _ (by lia) (fun y hy => hx y (List.mem_cons_of_mem _ hy)) (by rw [e]; lia)
theorem join_ok {xs : List Str} (hn : xs.length ≤ 4) (hx : ∀ x ∈ xs, (quoteS x).length ≤ 100) : JoinOk (Str.ofString " ") (xs.map quoteS) = true := by
  unfold JoinOk
  rw [List.foldl_toArray]
  have := join_fine xs 4 0 hn hx (by decide)
  rw [Bool.not_eq_true']
  have z : ¬ ((xs.map quoteS).foldl (· + ·.length + (Str.ofString " ").length) 0 > sizeLine) := Nat.not_lt.mpr (Nat.le_trans this (by decide))
  exact decide_eq_false z
theorem strs_v : ∀ {us : List Value} {ss : List Str}, StrsAre us ss → ∃ xs : List (Str × Tok), us = strV xs ∧ xs.map (·.1) = ss
  | _, _, .nil => ⟨[], rfl, rfl⟩
  | _, _, .cons x t h => by
    obtain ⟨xs, rfl, e⟩ := strs_v h
    exact ⟨(x, t) :: xs, rfl, by rw [List.map_cons, e]⟩
end
section
local macro_rules | `(tactic| walk_at "execs cons") => `(tactic| (k_fold; walk_at "execs cons"))
local macro_rules | `(tactic| walk_at $k:str) => if ["eval ListComp", "CompSrc", "pyIter ref", "exec For Name Name cons nil", "binaryOp Add ref ref"].contains k.getString then `(tactic| (refine halt ?_)) else Lean.Macro.throwUnsupported
section
set_option maxRecDepth 100000
set_option maxHeartbeats 8000000
theorem word_facts : ∀ x ∈ wordsAll, 4 ≤ x.length ∧ x.length ≤ 20 ∧ Txt.islower (Txt.item x 0) = true ∧ Txt.islower (Txt.item x 1) = true ∧ Txt.islower (Txt.item x 2) = true ∧ Txt.islower (Txt.item x 3) = true := by
  intro x hx
  simp only [wordsAll, List.mem_cons, List.not_mem_nil, or_false] at hx
  rcases hx with rfl | rfl | rfl | rfl | rfl | rfl | rfl | rfl <;> exact ⟨by decide, by decide, by decide +kernel, by decide +kernel, by decide +kernel, by decide +kernel⟩
theorem meant_len (n : Int) : (meant n).length = 3 := rfl
theorem getD_mem {l : List Str} {i : Nat} (h : i < l.length) : l.getD i Str.empty ∈ l := by
  rw [List.getD_eq_getElem?_getD, List.getElem?_eq_getElem h]
  exact List.getElem_mem h
theorem meant_mem (n : Int) : ∀ x ∈ meant n, x ∈ wordsAll := by
  intro x hx
  simp only [meant, List.mem_cons, List.not_mem_nil, or_false] at hx
  have h2 := fmod2 n
  have h3 := fmod3 (n.fdiv 2)
  have h6 := fmod3 (n.fdiv 6)
  rcases hx with rfl | rfl | rfl
  · have := getD_mem (l := [Str.ofString "grant", Str.ofString "deny"]) (i := (n.fmod 2).toNat) ((Int.toNat_lt h2.1).mpr h2.2)
    simp only [List.mem_cons, List.not_mem_nil, or_false] at this
    rcases this with e | e <;> rw [e] <;> simp [wordsAll]
  · have := getD_mem (l := [Str.ofString "owner", Str.ofString "group", Str.ofString "public"]) (i := ((n.fdiv 2).fmod 3).toNat) ((Int.toNat_lt h3.1).mpr h3.2)
    simp only [List.mem_cons, List.not_mem_nil, or_false] at this
    rcases this with e | e | e <;> rw [e] <;> simp [wordsAll]
  · have := getD_mem (l := [Str.ofString "read", Str.ofString "write", Str.ofString "execute"]) (i := ((n.fdiv 6).fmod 3).toNat) ((Int.toNat_lt h6.1).mpr h6.2)
    simp only [List.mem_cons, List.not_mem_nil, or_false] at this
    rcases this with e | e | e <;> rw [e] <;> simp [wordsAll]
theorem fmod4 (n : Int) : 0 ≤ n.fmod 4 ∧ n.fmod 4 < 4 := by
  rw [Int.fmod_eq_emod_of_nonneg _ (by decide)]
  lia
theorem fmod6 (n : Int) : 0 ≤ n.fmod 6 ∧ n.fmod 6 < 6 := by
  rw [Int.fmod_eq_emod_of_nonneg _ (by decide)]
  lia
noncomputable def wayOf (n : Int) (k : Nat) : Int := ([n, n.fdiv 7, n.fdiv 11].getD k 0).fmod 6
noncomputable def missN (n : Int) (k : Nat) : Str := missp ((meant n).getD k Str.empty) ((n.fdiv 18).fmod 4) (wayOf n k)
noncomputable def missL (n : Int) (k : Nat) : List Str := (List.range k).map (missN n)
theorem missL_snoc (n : Int) (k : Nat) : missL n (k + 1) = missL n k ++ [missN n k] := by
  unfold missL
  rw [List.range_succ, List.map_append]; rfl
theorem strs_snocR {x : Str} {t : Tok} {ys : List Value} {ss : List Str} (h : StrsAre ys ss) : StrsAre (ys ++ [.str x t]) (ss ++ [x]) := h.append' (.cons x t .nil)
theorem miss_pre (n : Int) {k : Nat} (hk : k < 3) : ((meant n).getD k Str.empty).length ≤ 20 ∧ 0 ≤ (n.fdiv 18).fmod 4 ∧ (n.fdiv 18).fmod 4 < (((meant n).getD k Str.empty).length : Int) ∧ 0 ≤ wayOf n k ∧ wayOf n k < 6 ∧ Txt.islower (Txt.item ((meant n).getD k Str.empty) ((n.fdiv 18).fmod 4)) = true := by
  obtain ⟨h4, h20, l0, l1, l2, l3⟩ := word_facts _ (meant_mem n _ (getD_mem (l := meant n) (i := k) hk))
  have hp := fmod4 (n.fdiv 18)
  have hw := fmod6 ([n, n.fdiv 7, n.fdiv 11].getD k 0)
  refine ⟨h20, hp.1, Int.lt_of_lt_of_le hp.2 (Int.ofNat_le.mpr h4), hw.1, hw.2, ?_⟩
  have : (n.fdiv 18).fmod 4 = 0 ∨ (n.fdiv 18).fmod 4 = 1 ∨ (n.fdiv 18).fmod 4 = 2 ∨ (n.fdiv 18).fmod 4 = 3 := by lia
  rcases this with e | e | e | e <;> rw [e] <;> assumption
theorem word_at {prog : Program} {w : World} {A : Around} {E Q : Value → Shared → Prop} {s : Shared} {value slice : Expr} {h₀ : Heap} {L l : Addr} {led : List (Addr × Obj)} {vs : List Value} {ws : List Str} {c : Nat} {k : Int} {u : Tok} (N : News h₀ L s.heap led) (hm : (l, listOf (List.toArray vs) c) ∈ led) (hv : StrsAre vs ws) (h0 : 0 ≤ k) (h1 : k < 3 ∧ ws.length = 3)
    (h : ∀ t, Q (.str (ws.getD k.toNat Str.empty) t) s) (hs : subscripted slice false (.ref l) (.int k u) = operate [.ref l, .int k u] (getItem (.ref l) (.int k u))) :
    wpAny (model prog w) A (subscriptTail value slice (.ref l) (.int k u)) Q E s :=
  KTb.item_list ⟨_, (N _ hm).1, rfl, _, rfl⟩ hv h0 (by lia) (by lia) (fun t _ => h t) hs
theorem way_at {prog : Program} {w : World} {A : Around} {E Q : Value → Shared → Prop} {s : Shared} {value slice : Expr} {l : Addr} {a b c : Int} {ta tb tc : Tok} {k : Int} {u : Tok} (hl : s.heap.IsList l #[.int a ta, .int b tb, .int c tc]) (h0 : 0 ≤ k) (h1 : k < 3)
    (h : ∀ t, Q (.int ([a, b, c].getD k.toNat 0) t) s) (hs : subscripted slice false (.ref l) (.int k u) = operate [.ref l, .int k u] (getItem (.ref l) (.int k u))) :
    wpAny (model prog w) A (subscriptTail value slice (.ref l) (.int k u)) Q E s := by
  have : k.toNat = 0 ∨ k.toNat = 1 ∨ k.toNat = 2 := by lia
  obtain ⟨t, e⟩ : ∃ t, (#[Value.int a ta, .int b tb, .int c tc])[k.toNat]? = some (.int ([a, b, c].getD k.toNat 0) t) := by
    rcases this with e | e | e <;> rw [e] <;> exact ⟨_, rfl⟩
  exact tail_any hl.typeIs slot_list_getitem.lookup (wpAny_getItem_list hl h0 (by lia) e (h t)) hs
noncomputable def rowS (n : Int) : Str := joinS (missL n 3 ++ [Str.ofString "it's me"])
theorem row_fine (n : Int) : ∀ x ∈ missL n 3 ++ [Str.ofString "it's me"], quoteFine x = true := by
  intro x hx
  rcases List.mem_append.mp hx with hx | hx
  · obtain ⟨k, hk, rfl⟩ := List.mem_map.mp hx
    exact miss_fine (meant_mem n _ (getD_mem (l := meant n) (i := k) (List.mem_range.mp hk))) (fmod4 _) (fmod6 _)
  · rw [List.mem_singleton.mp hx]; exact itsme_fine
theorem row_pre {n : Int} {xs : List (Str × Tok)} {news : List (Addr × Obj)} (e : xs.map (·.1) = missL n 3 ++ [Str.ofString "it's me"]) (hn : ∀ p ∈ news, p.1 ≠ 760) :
    xs.length ≤ 100 ∧ (∀ x ∈ xs, quoteOk x.1) ∧ JoinOk (Str.ofString " ") (xs.map fun x => quoteS x.1) = true ∧ ∀ p ∈ news, p.1 ≠ 760 := by
  have hl : xs.length = 4 := by
    have := congrArg List.length e
    rwa [List.length_map] at this
  have hf : ∀ x ∈ xs, quoteFine x.1 = true := fun x hx => row_fine n _ (e ▸ List.mem_map.mpr ⟨x, hx, rfl⟩)
  refine ⟨by lia, fun x hx => (fine_ok (hf x hx)).1, ?_, hn⟩
  have q : xs.map (fun x => quoteS x.1) = (xs.map (·.1)).map quoteS := by rw [List.map_map]; rfl
  rw [q]
  refine join_ok (by rw [List.length_map, hl]; exact Nat.le_refl _) fun x hx => ?_
  obtain ⟨y, hy, rfl⟩ := List.mem_map.mp hx
  exact (fine_ok (hf y hy)).2
theorem row_ord {g h : Heap} {L : Addr} {J E D W c2 c1 T : Addr × Obj} {r : List (Addr × Obj)} (N : News g L h (J :: E :: D :: W :: c2 :: c1 :: T :: r)) : News g L h (T :: J :: r) :=
  cb_drop N (fun p hp => by simp only [List.mem_cons] at hp ⊢; rcases hp with h | h | h <;> simp [h])
theorem row_out {g h : Heap} {L : Addr} {T J : Addr × Obj} {r : List (Addr × Obj)} (N : News g L h (T :: J :: r)) : News g L h (T :: r) :=
  cb_drop N (fun p hp => by simp only [List.mem_cons] at hp ⊢; rcases hp with h | h <;> simp [h])
theorem row_c (w : World) (mean : ExcName → Option Value) (mg mb : Str → Option Value) (n : Int) (tn : Tok) (tb : Option Addr) (news : List (Addr × Obj)) (dp un : Nat) (gd : Option (List Code)) (cn : Str) (cs : Scope) (a : Addr) (ccd : Value) (cel : List (Str × Addr)) (outer : List Env) (A₀ : Around) (base h₀ : Heap) (L : Addr) (m : Str → Option Value) (s : Shared) (Q E : Value → Shared → Prop)
    (hB : Below A₀ base outer h₀) (hF : Fr h₀ L s.heap m) : (Mine.K w.params).In h₀ → News h₀ L s.heap ((760, tabO tb) :: news) → Top Mine.vw loose mean mg mb h₀ → cs.kind = .function → dp + 100 < recursionLimit → un + 900 < cLine → AllBare s.gens → (∀ p ∈ news, p.1 ≠ 760) →
    (∀ (t : Tok) (h' : Heap) (tk : Nat) (gs' : Array GenState) (tb' : Option Addr), AllBare gs' → Fr h₀ L h' m → News h₀ L h' ((760, tabO tb') :: news) → Q (.str (rowS n) t) { s with heap := h', gens := gs', toks := tk }) →
    wpAny (model PySem.Challenge.pw_ny0408_01 w) { handled := none, depth := dp, frames := some (envX cn cs L a ccd cel :: outer), guards := gd, units := un } (call (.ref 839) [.int n tn]) Q E s := by
  refine fill ?_
  k_fill
  intro _ hX hN hT hK hdp hun hG h7 hret
  refine wpAny_call ?_
  k_dflt (refine' code_defC ?k1 ?k2 ?k3 ?k4 ?k5 ?kA ?kF ?kK ?k6 ?k7 ?k8 ?k9 ?kB ?kD ?_ ?c2 ?c3 ?c4; (case kA => exact rfl); (case kF => exact rfl); (case kK => assumption); (case k1 => k_asm); (case k2 => k_asm); (case k3 => k_asm); (case k4 => k_asm); (case k5 => k_asm); (case k6 => k_is); (case k7 => k_is); (case k8 => k_room); (case k9 => exact BindsTo.of_eq rfl); (case kB => exact rfl); (case kD => decide +kernel); (case c2 => exact rfl); (case c3 => exact rfl); (case c4 => exact rfl); k_whole; intro g' L' h' tk' cells' FG' F' N' Y' B' X' T' l1; (try k_lt l1); k_cells Y'; (try simp only [List.cons_append, List.nil_append] at N'); (try dsimp only); (try k_lift B'); (try k_fold))
  have hlt := lt_all l1.2
  have hne0 : ∀ p ∈ news, p.1 ≠ L' := fun p hp e => absurd (hlt p hp) (by rw [e]; exact Nat.lt_irrefl _)
  have hne1 : ∀ p ∈ news, p.1 ≠ L' + 1 := fun p hp e => by have := hlt p hp; rw [e] at this; exact absurd this (Nat.not_lt_of_le (Nat.le_add_right L' 1))
  have hne2 : ∀ p ∈ news, p.1 ≠ L' + 1 + 1 := fun p hp e => by have := hlt p hp; rw [e] at this; exact absurd this (Nat.not_lt_of_le (Nat.le_add_right L' 2))
  k_with_none
  k_with "call ref" => refine halt ?_
  k_steps
  unfold Halt
  (with_reducible rename News _ _ _ _ => N9)
  refine meant_c w mean mg mb n _ _ _ _ _ _ _ _ _ _ _ _ _ _ _ _ _ _ _ B' (by k_asm) X' N9 T' rfl ?_ ?_ ?_
  · simp only [depth_deeper]; lia
  · simp only [units_deeper]; lia
  intro W us c9 h9 tk9 hW F9 N9 lt9
  k_lt lt9
  try dsimp only
  k_with_none
  k_with "call ref" => refine halt ?_
  k_steps
  unfold Halt
  (with_reducible rename News _ _ _ _ => N8)
  refine LCg.ListComp_U (F₀ := by k_asm) (by with_unfolding_all rfl) (by decide) (by rfl) (by decide) (by rfl) ?_
  k_steps
  unfold Halt
  (with_reducible rename Fr _ _ _ _ => F3)
  (with_reducible rename News _ _ _ _ => N3)
  refine LCg.CompSrc.range (by rfl) F3 N3 (by assumption) (by decide) (n := 3) (by rfl) (by decide) ?_
  intro gg
  refine compJ (fun k ys led => led = _ ∧ StrsAre ys (missL n k)) ⟨rfl, .nil⟩ ?_ ?_
  · rintro k ys _ v I2 oI2 C oC D m₂ hh tkk E' hk ⟨rfl, hys⟩ ⟨tv, rfl⟩ hC hx F4 N4 off ne
    clear F3 N3
    dsimp only
    k_with_none
    k_with "subscriptTail Name Name ref int" => first | ((with_reducible rename News _ _ _ _ => N9); (refine' word_at N9 ?ha hW ?hb ?hc ?_ ?hs); (case hs => with_unfolding_all rfl); (case ha => k_mem); (case hb => lia); (case hc => exact ⟨by lia, rfl⟩); intro _) | ((refine' way_at ?hl ?hb ?hc ?_ ?hs); (case hs => with_unfolding_all rfl); (case hl => is_list); (case hb => lia); (case hc => lia); intro _)
    k_with "call ref" => refine halt ?_
    k_steps
    unfold Halt
    (with_reducible rename News _ _ _ _ => N9)
    have ek : (0 + (k : Int)).toNat = k := by lia
    rw [ek]
    refine missp_c w mean mg mb _ _ _ _ _ _ _ _ _ _ _ _ _ _ _ _ _ _ _ _ _ _ _ _ B' (by k_asm) X' N9 T' rfl (miss_pre n hk) ?_ ?_ ?_
    · simp only [depth_deeper]; lia
    · simp only [units_deeper]; lia
    intro t6 h6 tk6 F6 N6
    try dsimp only
    k_with_none
    k_steps
    exact LCg.CompEnd.intro F6 N6 _ (fun p hp => List.mem_cons_of_mem _ hp) off trivial ⟨rfl, by rw [missL_snoc]; exact strs_snocR hys⟩
  · rintro ys _ ⟨rfl, hys⟩ D hh tkk F4 N4 off
    clear F3 N3
    dsimp only
    k_with_none
    k_with "call ref" => refine halt ?_
    k_steps
    (with_reducible rename News _ _ _ _ => N5)
    have hl3 : ys.length = 3 := hys.length
    try unfold Halt
    refine kmk_add_lit (its := ys.toArray) (its2 := #[_]) (by k_asm) N5 ⟨_, (N5 _ (List.mem_cons_of_mem _ List.mem_cons_self)).1, rfl, _, rfl⟩ ⟨_, (N5 _ List.mem_cons_self).1, rfl, _, rfl⟩ rfl ?_ ?_
    · intro J h5 F5 N6 lt5
      k_lt lt5
      clear N5
      k_steps
      unfold Halt
      obtain ⟨xs, ex, exm⟩ := strs_v (us := ys.toArray.toList ++ #[Value.str (Str.ofString "it's me") tkk].toList) (hys.append' (.cons _ _ .nil))
      rw [ex] at N6
      refine join_c w mean mg mb xs J tb news _ _ _ _ _ _ _ _ _ _ _ _ _ _ _ _ _ B' (by k_asm) X' (row_ord N6) T' rfl (row_pre exm h7) ?_ ?_ hG ?_
      · simp only [depth_deeper]; lia
      · simp only [units_deeper]; lia
      intro t7 h7' tk7 gs7 tb7 hG7 F7 N7
      rw [exm]
      refine leaveK_ F7 (row_out N7) fun kF kN => ?_
      exact hret t7 _ _ gs7 tb7 hG7 kF kN
    · show ys.length + 1 ≤ sizeLine
      rw [hl3]; decide
end
section
open PySem PySem.W PyProof.Rows PySem.Calls PyProof.Rows.LCg
set_option maxRecDepth 100000
set_option maxHeartbeats 4000000
noncomputable abbrev cellN : Obj := { cls := .type "cell", data := .cell none }
section
variable {M : Model} {A : Around} {E : Value → Shared → Prop} {s : Shared}

theorem newEnv_cells {scope : Scope} {globals : Addr} {closure : List (Str × Addr)} {qual : Str} {env : Env} {Q : Env → Shared → Prop}
    (h : Q (newEnv scope s.heap.objs.size globals (cellsFrom (s.heap.objs.size + 1) scope.names closure) qual none .none (some env) builtinsNs)
      { s with heap := pushCells (s.heap.push { cls := .type "dict", data := .dict #[] }) scope.names }) :
    wpAny M A (newFunctionEnv scope globals closure [] qual none .none (some env)) Q E s := by
  simp only [newFunctionEnv, Option.isSome_some, if_true]
  refine wpAny_bind (wpAny_alloc ?_)
  refine wpAny_bind (wpAny_layCells _ (fun name kind cells => by cases hkc : kind == NameKind.cell <;> simp [hkc]) _ _ _ _ ?_)
  rw [show ({ s with heap := s.heap.push { cls := .type "dict", data := .dict #[] } } : Shared).heap.objs.size = s.heap.objs.size + 1 from Heap.size_push ..]
  rw [List.forIn_nil]
  exact wpAny_bind (wpAny_pure (wpAny_pure h))
end
section
variable {prog : Program} {w : World} {A : Around} {E : Value → Shared → Prop} {s : Shared} {h₀ : Heap} {L : Addr} {m : Str → Option Value} {env : Env}
noncomputable def EndC (h₀ : Heap) (L : Addr) (m : Str → Option Value) (s₁ : Shared) (fx : List (Addr × Obj)) (rest : Value → List (Addr × Obj) → Prop) (y : Value) (s₂ : Shared) : Prop :=
  ∃ h' tk news', s₂ = { s₁ with heap := h', toks := tk } ∧ Fr h₀ L h' m ∧ News h₀ L h' (fx ++ news') ∧ (∀ p ∈ news', ∀ q ∈ fx, p.1 ≠ q.1) ∧ rest y news'
theorem EndC.intro {s₁ : Shared} {fx : List (Addr × Obj)} {rest : Value → List (Addr × Obj) → Prop} {y : Value} {h' : Heap} {tk : Nat} {all : List (Addr × Obj)} (F : Fr h₀ L h' m) (N : News h₀ L h' all) (news' : List (Addr × Obj)) (sub : ∀ p ∈ fx ++ news', p ∈ all)
    (off : ∀ p ∈ news', ∀ q ∈ fx, p.1 ≠ q.1) (r : rest y news') : EndC h₀ L m s₁ fx rest y { s₁ with heap := h', toks := tk } := ⟨h', tk, news', rfl, F, fun p hp => N p (sub p hp), off, r⟩

theorem blockC {elt iter : Expr} {x : Str} {px : Pos} {scope : Scope} {cl : List (Str × Addr)} {pos : Pos} {s₂ : Shared} {I : Addr} {n : Nat} {a : Int} {news : List (Addr × Obj)} {RR : Value → Addr → Result → Shared → Prop} (J : Nat → List Value → List (Addr × Obj) → Prop)
    (hh : A.handled = none) (hsz : n ≤ sizeLine) (hone : ∀ h : Heap, pushCells h scope.names = h.push cellN) (hcf : ∀ k, cellsFrom k scope.names cl = (x, k) :: cl) (hkind : scope.kind = .function)
    (hx : ∀ C c, (compEnvC scope ((x, c) :: cl) C env).kindOf x = some .cell)
    (hst : IsRangeIter s₂.heap I a (n : Int) 1) (F : Fr h₀ L s₂.heap m) (N : News h₀ L s₂.heap news) (hIL : L ≠ I) (hI₀ : h₀.get? I = none) (off : ∀ p ∈ news, p.1 ≠ I) (h0 : J 0 [] news)
    (turn : ∀ i ys news₁ t oI C oC c oX D h tk (E' : Value → Shared → Prop), i < n → J i ys news₁ → oX.data = .cell (some (.int (a + (i : Int)) t)) → Fr h₀ L h m → News h₀ L h ([(I, oI), (C, oC), (c, oX), (D, lst ys)] ++ news₁) →
      (∀ p ∈ news₁, ∀ q ∈ [(I, oI), (C, oC), (c, oX), (D, lst ys)], p.1 ≠ q.1) → (@Ne Nat I C ∧ @Ne Nat I c ∧ @Ne Nat I D ∧ @Ne Nat C c ∧ @Ne Nat C D ∧ @Ne Nat c D) →
      wpAny (model prog w) A (eval elt (compEnvC scope ((x, c) :: cl) C env)) (EndC h₀ L m { s₂ with heap := h, toks := tk } [(I, oI), (C, oC), (c, oX), (D, lst ys)] (fun y news' => J (i + 1) (ys ++ [y]) news')) E' { s₂ with heap := h, toks := tk })
    (hRR : ∀ D C h tk m' ys news', Fr h₀ L h m → News h₀ L h ((D, lst ys) :: news') → (∀ p ∈ news', p.1 ≠ D) → h.Ns C m' → h₀.get? C = none → h₀.get? D = none → C ≠ L → D ≠ L → C ≠ D → (∀ p ∈ news', p.1 ≠ C) → J n ys news' → RR (.ref D) C (.ok .next) { s₂ with heap := h, toks := tk }) :
    wpAny (model prog w) A (newList []) (fun acc s₃ => wpAny (model prog w) A (newFunctionEnv scope env.globals cl [] env.qual none .none (some env)) (fun cenv s₄ =>
      codeAny (model prog w) A (.compStart (.ListComp elt [⟨.Name x px, iter, [], 0⟩] scope pos) 0 (.ref I) acc { cenv with scope := relabel scope env }) (RR acc cenv.locals) s₄) E s₃) E s₂ := by
  refine wpAny_newObj_type (newEnv_cells ?_)
  dsimp only
  rw [hone, hcf]
  have W := range_walks (prog := prog) (w := w) (A := A) (I := I) hh a n
  generalize hD : s₂.heap.objs.size = D
  have hC : (s₂.heap.push (lst [])).objs.size = D + 1 := by rw [Heap.size_push, hD]
  have hC' : (s₂.heap.push { cls := .type "list", dict := none, data := .seq ([] : List Value).toArray }).objs.size = D + 1 := hC
  rw [hC']
  have hIlt : I < D := by rw [← hD]; exact Heap.lt_size (show s₂.heap.get? I = some _ from hst)
  have hLlt : L < D := by rw [← hD]; exact F.ns.lt
  generalize hH1 : ((s₂.heap.push { cls := .type "list", dict := none, data := .seq ([] : List Value).toArray }).push { cls := .type "dict", data := .dict #[] }).push cellN = h₁
  have old : ∀ b o, s₂.heap.get? b = some o → h₁.get? b = some o := fun b o e => by
    rw [← hH1]; exact Heap.get?_push_of_some _ (Heap.get?_push_of_some _ (Heap.get?_push_of_some _ e))
  have gD : h₁.get? D = some (lst []) := by
    rw [← hH1, ← hD]; exact Heap.get?_push_of_some _ (Heap.get?_push_of_some _ (Heap.get?_push_size _ rfl))
  have gC : h₁.Ns (D + 1) (fun _ => none) := by
    rw [← hH1]
    have := Heap.Ns.new (s₂.heap.push { cls := .type "list", dict := none, data := .seq ([] : List Value).toArray }) (.type "dict")
    rw [hC'] at this
    exact this.keeps fun _ _ e => Heap.get?_push_of_some _ e
  have gc : h₁.get? (D + 1 + 1) = some cellN := by
    rw [← hH1]
    have := Heap.get?_push_size ((s₂.heap.push { cls := .type "list", dict := none, data := .seq ([] : List Value).toArray }).push { cls := .type "dict", data := .dict #[] }) (o := cellN) rfl
    rwa [Heap.size_push, hC'] at this
  have fresh₀ : ∀ b, D ≤ b → h₀.get? b = none := fun b hb => by
    cases e : h₀.get? b with
    | none => rfl
    | some o' => exact absurd (Heap.lt_size (F.keep b o' e)) (Nat.not_lt.mpr (hD ▸ hb))
  have hD₀ := fresh₀ D (Nat.le_refl _)
  have hC₀ := fresh₀ (D + 1) (Nat.le_add_right _ _)
  have hc₀ := fresh₀ (D + 1 + 1) (Nat.le_add_right _ 2)
  have nDL : D ≠ L := Nat.ne_of_gt hLlt
  have nCL : D + 1 ≠ L := Nat.ne_of_gt (Nat.lt_succ_of_lt hLlt)
  have ncL : D + 1 + 1 ≠ L := Nat.ne_of_gt (Nat.lt_succ_of_lt (Nat.lt_succ_of_lt hLlt))
  have nID : I ≠ D := Nat.ne_of_lt hIlt
  have nIC : I ≠ D + 1 := Nat.ne_of_lt (Nat.lt_succ_of_lt hIlt)
  have nIc : I ≠ D + 1 + 1 := Nat.ne_of_lt (Nat.lt_succ_of_lt (Nat.lt_succ_of_lt hIlt))
  have nCD : D + 1 ≠ D := Nat.succ_ne_self _
  have ncC : D + 1 + 1 ≠ D + 1 := Nat.succ_ne_self _
  have ncD : D + 1 + 1 ≠ D := Nat.ne_of_gt (Nat.lt_succ_of_lt (Nat.lt_succ_self _))
  have nlt : ∀ p ∈ news, p.1 < D := fun p hp => hD ▸ Heap.lt_size (N p hp).1
  have Off := fun (l : List (Addr × Obj)) => ∀ p ∈ l, p.1 ≠ I ∧ p.1 ≠ D + 1 ∧ p.1 ≠ D + 1 + 1 ∧ p.1 ≠ D
  have loop : codeAny (model prog w) A (.compLoop (.ListComp elt [⟨.Name x px, iter, [], 0⟩] scope pos) 0 (.ref I) (.ref D) (compEnvC scope ((x, D + 1 + 1) :: cl) (D + 1) env)) (RR (.ref D) (D + 1)) { s₂ with heap := h₁ } := by
    refine codeAny_compLoop_tests
      (fun k s' => ∃ h' tk i ys m' oX v₀ news', s' = { s₂ with heap := h', toks := tk } ∧ i ≤ n ∧ k = n + 1 - i ∧ ys.length = i ∧ IsRangeIter h' I (a + (i : Nat) * 1) ((n : Int) - (i : Nat)) 1 ∧ Fr h₀ L h' m ∧ h'.Ns (D + 1) m' ∧ oX.data = .cell v₀ ∧ News h₀ L h' ((D + 1 + 1, oX) :: (D, lst ys) :: news') ∧
        (∀ p ∈ news', p.1 ≠ I ∧ p.1 ≠ D + 1 ∧ p.1 ≠ D + 1 + 1 ∧ p.1 ≠ D) ∧ J i ys news') ?_ (n + 1)
      ⟨h₁, _, 0, [], _, cellN, none, news, rfl, Nat.zero_le _, rfl, rfl, by
        show h₁.get? I = some _
        rw [old I _ hst]; simp, F.keeps old, gC, rfl, fun p hp => ?_, fun p hp => ⟨off p hp, Nat.ne_of_lt (Nat.lt_succ_of_lt (nlt p hp)), Nat.ne_of_lt (Nat.lt_succ_of_lt (Nat.lt_succ_of_lt (nlt p hp))), Nat.ne_of_lt (nlt p hp)⟩, h0⟩
    · rintro k s' ⟨h', tk, i, ys, m', oX, v₀, news', rfl, hi, rfl, hyl, hst', F', hn', hX', N', off', hJ'⟩
      by_cases hlt : i < n
      · refine W.item i _ _ _ hlt hst' fun v h₂ tk₂ hPv hst₂ hk₂ => ?_
        obtain ⟨t, rfl⟩ := hPv
        have keepB : ∀ b o, b ≠ I → h'.get? b = some o → h₂.get? b = some o := fun b o hb e => hk₂ b o (nin1 hb) e
        have N₂ : News h₀ L h₂ ((D + 1 + 1, oX) :: (D, lst ys) :: news') := news_but N' hk₂ fun p hp => by
          rcases List.mem_cons.mp hp with rfl | hp
          · exact Ne.symm nIc
          · rcases List.mem_cons.mp hp with rfl | hp
            · exact Ne.symm nID
            · exact (off' p hp).1
        have F₂ : Fr h₀ L h₂ m := fr_but F' hk₂ hIL hI₀
        have hn₂ : h₂.Ns (D + 1) m' := hn'.at' fun o e => hk₂ _ o (nin1 (Ne.symm nIC)) e
        refine wpAny_assign_Name (wpAny_storeName_cell hkind (hx _ _) (by show List.lookup x ((x, D + 1 + 1) :: cl) = some (D + 1 + 1); simp) ⟨oX, (N₂ _ List.mem_cons_self).1, hX'⟩ fun h₃ hv hs₃ => ?_)
        obtain ⟨o₃, ho₃, hd₃⟩ := hv
        refine wpAny_tests_nil ?_
        simp only [if_true]
        have F₃ : Fr h₀ L h₃ m := F₂.change hs₃ ncL hc₀
        have hn₃ : h₃.Ns (D + 1) m' := hn₂.sameBut hs₃ (Ne.symm ncC)
        obtain ⟨oC, heC, hoC⟩ := ns_obj hn₃
        have hst₃ : IsRangeIter h₃ I (a + ((i + 1 : Nat) : Int) * 1) ((n : Int) - ((i + 1 : Nat) : Int)) 1 := by
          show h₃.get? I = some _
          exact hs₃.extBut _ _ nIc hst₂
        have N₃ : News h₀ L h₃ ((I, _) :: (D + 1, oC) :: (D + 1 + 1, o₃) :: (D, lst ys) :: news') :=
          of_cons ⟨hst₃, Ne.symm hIL, hI₀⟩ (of_cons ⟨heC, nCL, hC₀⟩ (of_cons ⟨ho₃, ncL, hc₀⟩ (of_cons ⟨hs₃.extBut _ _ (Ne.symm ncD) (N₂ _ (List.mem_cons_of_mem _ List.mem_cons_self)).1, nDL, hD₀⟩ fun p hp =>
            have z := N₂ p (List.mem_cons_of_mem _ (List.mem_cons_of_mem _ hp))
            ⟨hs₃.extBut _ _ (off' p hp).2.2.1 z.1, z.2⟩)))
        refine wpAny_mono (turn i ys news' t _ (D + 1) oC (D + 1 + 1) o₃ D h₃ tk₂ _ hlt hJ' hd₃ F₃ N₃ (fun p hp q hq => ?_) ⟨nIC, nIc, nID, Ne.symm ncC, nCD, ncD⟩) (fun y s₄ h₄ => ?_) fun _ _ e => e
        · exact of_cons (P := fun q : Addr × Obj => p.1 ≠ q.1) (off' p hp).1 (of_cons (P := fun q : Addr × Obj => p.1 ≠ q.1) (off' p hp).2.1 (of_cons (P := fun q : Addr × Obj => p.1 ≠ q.1) (off' p hp).2.2.1 (of_cons (P := fun q : Addr × Obj => p.1 ≠ q.1) (off' p hp).2.2.2 of_nil))) q hq
        · obtain ⟨h₄, tk₄, news₄, rfl, F₄, N₄, off₄, hJ₄⟩ := h₄
          have zI := (N₄ _ List.mem_cons_self).1
          have zC := (N₄ (D + 1, oC) (by repeat (first | exact .head _ | refine .tail _ ?_))).1
          have zc := (N₄ (D + 1 + 1, o₃) (by repeat (first | exact .head _ | refine .tail _ ?_))).1
          have zD := (N₄ (D, lst ys) (by repeat (first | exact .head _ | refine .tail _ ?_))).1
          have N₄' : News h₀ L h₄ news₄ := fun p hp => N₄ p (.tail _ (.tail _ (.tail _ (.tail _ hp))))
          refine append_at (hsz := by show ys.toArray.size ≤ sizeLine; rw [List.size_toArray, hyl]; exact Nat.le_trans hi hsz) zD fun h₅ hs₅ hD₅ => ?_
          have off5 : ∀ p ∈ news₄, p.1 ≠ I ∧ p.1 ≠ D + 1 ∧ p.1 ≠ D + 1 + 1 ∧ p.1 ≠ D := fun p hp => ⟨off₄ p hp _ List.mem_cons_self, off₄ p hp (D + 1, oC) (.tail _ (.head _)), off₄ p hp (D + 1 + 1, o₃) (.tail _ (.tail _ (.head _))), off₄ p hp (D, lst ys) (.tail _ (.tail _ (.tail _ (.head _))))⟩
          refine ⟨n + 1 - (i + 1), Nat.sub_succ_lt_self _ _ (Nat.lt_succ_of_lt hlt), h₅, tk₄, i + 1, ys ++ [y], _, o₃, _, news₄, rfl, hlt, rfl, by rw [List.length_append, List.length_singleton, hyl], ?_, F₄.change hs₅ nDL hD₀, (hoC.ns zC).sameBut hs₅ nCD, hd₃, fun p hp => ?_, off5, hJ₄⟩
          · show h₅.get? I = some _
            exact hs₅.extBut _ _ nID zI
          · rcases List.mem_cons.mp hp with rfl | hp
            · exact ⟨hs₅.extBut _ _ ncD zc, ncL, hc₀⟩
            · rcases List.mem_cons.mp hp with rfl | hp
              · exact ⟨hD₅.trans (congrArg some (lst_snoc ys y)), nDL, hD₀⟩
              · exact ⟨hs₅.extBut _ _ (off5 p hp).2.2.2 (N₄' p hp).1, (N₄' p hp).2⟩
      · obtain rfl : i = n := Nat.le_antisymm hi (Nat.not_lt.mp hlt)
        refine W.done _ _ _ hst' fun h₂ tk₂ hk₂ => ?_
        have N₂ := news_but N' hk₂ fun p hp => by
          rcases List.mem_cons.mp hp with rfl | hp
          · exact Ne.symm nIc
          · rcases List.mem_cons.mp hp with rfl | hp
            · exact Ne.symm nID
            · exact (off' p hp).1
        exact hRR D (D + 1) h₂ tk₂ _ ys news' (fr_but F' hk₂ hIL hI₀) (fun p hp => N₂ p (List.mem_cons_of_mem _ hp)) (fun p hp => (off' p hp).2.2.2) (hn'.at' fun o e => hk₂ _ o (nin1 (Ne.symm nIC)) e) hC₀ hD₀ nCL nDL nCD (fun p hp => (off' p hp).2.1) hJ'
    · rcases List.mem_cons.mp hp with rfl | hp
      · exact ⟨gc, ncL, hc₀⟩
      · rcases List.mem_cons.mp hp with rfl | hp
        · exact ⟨gD, nDL, hD₀⟩
        · exact ⟨old _ _ (N p hp).1, (N p hp).2⟩
  exact codeAny_compStart_list loop (W.self 0 _ _ _ (by
    show h₁.get? I = some _
    rw [old I _ hst]; simp) loop)

noncomputable def SrcC (prog : Program) (w : World) (A : Around) (h₀ : Heap) (L : Addr) (m : Str → Option Value) (env : Env) (elt : Expr) (x y : Str) (scope : Scope) (cl : List (Str × Addr)) (n : Nat) (a : Int) (Q : Flow → Shared → Prop) (xv : Value) (s₁ : Shared) : Prop :=
  ∃ (r : Addr) (b : Int) (t u v : Tok) (news : List (Addr × Obj)) (J : Nat → List Value → List (Addr × Obj) → Prop), xv = .ref r ∧ A.handled = none ∧ Fr h₀ L s₁.heap m ∧ News h₀ L s₁.heap news ∧ IsRange s₁.heap r a b 1 t u v ∧ Builtin.Range.small a b 1 = true ∧ Builtin.Range.rangeSize a b 1 = ((n : Nat) : Int) ∧ n ≤ sizeLine ∧ J 0 [] news ∧
      (∀ i ys news₁ t I oI C oC c oX D h tk (E' : Value → Shared → Prop), i < n → J i ys news₁ → oX.data = .cell (some (.int (a + (i : Int)) t)) → Fr h₀ L h m → News h₀ L h ([(I, oI), (C, oC), (c, oX), (D, lst ys)] ++ news₁) →
        (∀ p ∈ news₁, ∀ q ∈ [(I, oI), (C, oC), (c, oX), (D, lst ys)], p.1 ≠ q.1) → (@Ne Nat I C ∧ @Ne Nat I c ∧ @Ne Nat I D ∧ @Ne Nat C c ∧ @Ne Nat C D ∧ @Ne Nat c D) →
        wpAny (model prog w) A (eval elt (compEnvC scope ((x, c) :: cl) C env)) (EndC h₀ L m { s₁ with heap := h, toks := tk } [(I, oI), (C, oC), (c, oX), (D, lst ys)] (fun y news' => J (i + 1) (ys ++ [y]) news')) E' { s₁ with heap := h, toks := tk }) ∧
      (∀ D h tk ys news', J n ys news' → Fr h₀ L h (fun z => if z = y then some (.ref D) else m z) → News h₀ L h ((D, lst ys) :: news') → (∀ p ∈ news', p.1 ≠ D) → Q .next { s₁ with heap := h, toks := tk })
theorem SrcC.intro {elt : Expr} {x y : Str} {scope : Scope} {cl : List (Str × Addr)} {n : Nat} {a b : Int} {Q : Flow → Shared → Prop} {s₁ : Shared} {r : Addr} {t u v : Tok} {news : List (Addr × Obj)} (J : Nat → List Value → List (Addr × Obj) → Prop) (hh : A.handled = none) (F : Fr h₀ L s₁.heap m) (N : News h₀ L s₁.heap news)
    (hr : IsRange s₁.heap r a b 1 t u v) (hsm : Builtin.Range.small a b 1 = true) (hn : Builtin.Range.rangeSize a b 1 = ((n : Nat) : Int)) (hz : n ≤ sizeLine) (h0 : J 0 [] news)
    (turn : ∀ i ys news₁ t I oI C oC c oX D h tk (E' : Value → Shared → Prop), i < n → J i ys news₁ → oX.data = .cell (some (.int (a + (i : Int)) t)) → Fr h₀ L h m → News h₀ L h ([(I, oI), (C, oC), (c, oX), (D, lst ys)] ++ news₁) →
        (∀ p ∈ news₁, ∀ q ∈ [(I, oI), (C, oC), (c, oX), (D, lst ys)], p.1 ≠ q.1) → (@Ne Nat I C ∧ @Ne Nat I c ∧ @Ne Nat I D ∧ @Ne Nat C c ∧ @Ne Nat C D ∧ @Ne Nat c D) →
        wpAny (model prog w) A (eval elt (compEnvC scope ((x, c) :: cl) C env)) (EndC h₀ L m { s₁ with heap := h, toks := tk } [(I, oI), (C, oC), (c, oX), (D, lst ys)] (fun y news' => J (i + 1) (ys ++ [y]) news')) E' { s₁ with heap := h, toks := tk })
    (fin : ∀ D h tk ys news', J n ys news' → Fr h₀ L h (fun z => if z = y then some (.ref D) else m z) → News h₀ L h ((D, lst ys) :: news') → (∀ p ∈ news', p.1 ≠ D) → Q .next { s₁ with heap := h, toks := tk }) :
    SrcC prog w A h₀ L m env elt x y scope cl n a Q (.ref r) s₁ := ⟨r, b, t, u, v, news, J, rfl, hh, F, N, hr, hsm, hn, hz, h0, turn, fin⟩

theorem asgC {elt iter : Expr} {x y : Str} {px py : Pos} {scope : Scope} {cl : List (Str × Addr)} {pos spos : Pos} {Q : Flow → Shared → Prop} {n : Nat} {a : Int} (F₀ : Fr h₀ L s.heap m) (hLe : env.locals = L)
    (hsw : swapsWith (.ListComp elt [⟨.Name x px, iter, [], 0⟩] scope pos) (some (.Name y py)) spos.line env = pure true) (hclos : closureFor scope env = pure cl)
    (hone : ∀ h : Heap, pushCells h scope.names = h.push cellN) (hcf : ∀ k, cellsFrom k scope.names cl = (x, k) :: cl) (hkind : scope.kind = .function)
    (hnames : ∀ z ∈ scope.names, z.2 = .local → scope.names.lookup z.1 = some .local) (hx : ∀ C c, (compEnvC scope ((x, c) :: cl) C env).kindOf x = some .cell)
    (hy : env.kindOf y = some .local) (hp : (env.scope.kind == .class || (env.scope.kind == .module && env.locals != env.globals)) = false)
    (h : wpAny (model prog w) A (eval iter env) (SrcC prog w A h₀ L m env elt x y scope cl n a Q) E s)
    (hs : ∀ x, foldedSetIterable iter env x = pure x := by intro _; rfl) :
    wpAny (model prog w) A (exec (.Assign [.Name y py] (.ListComp elt [⟨.Name x px, iter, [], 0⟩] scope pos) spos) env) Q E s := by
  subst hLe
  rw [exec_Assign_Name_used _ _ _ _ hsw]
  refine wpAny_bind (wpAny_standAt (wpAny_bind ?_))
  show wpAny _ A (do let _ ← comprehension (.ListComp elt [⟨.Name x px, iter, [], 0⟩] scope pos) scope env _ (newList []) false (eval iter env) (some (assign (.Name y py) env))) _ _ s
  refine wpAny_bind (wpAny_mono (wpAny_comprehension_free (use := some (assign (.Name y py) env)) (Q := fun _ s' => Q .next s') rfl hs hclos hkind hnames
    (wpAny_mono h (fun xv s₁ h₁ => ?_) fun _ _ e => e)) (fun _ s' hq => wpAny_pure (wpAny_pure hq)) fun _ _ e => e)
  obtain ⟨r, b, t, u, v, news, J, rfl, hh, F, N, hr, hsm, hn, hsz, h0, turn, fin⟩ := h₁
  refine wpAny_pyIter_range hr hsm ?_
  refine blockC J hh hsz hone hcf hkind hx (by show IsRangeIter _ _ _ _ _; rw [hn]; simpa using Heap.get?_push_size _ rfl)
    (F.keeps fun _ _ e => Heap.get?_push_of_some _ e) (N.grown fun _ _ e => Heap.get?_push_of_some _ e) (Nat.ne_of_lt F.ns.lt) (next_is_new F) (fun p hp => Nat.ne_of_lt (Heap.lt_size (N p hp).1)) h0 (fun i ys news₁ t oI => turn i ys news₁ t _ oI) ?_
  intro D C h' tk m' ys news' F' N' o1 hnC hC₀ hD₀ hCL hDL hCD offC hJ
  show wpAny _ A (assign (.Name y py) env (.ref D)) _ _ _
  refine wpAny_assign_Name (wpAny_storeName_local hy F'.ns (fun h₂ hn₂ hs₂ => ?_) hp)
  have hL₀ : h₀.get? env.locals = none := Heap.get?_none_of_le F'.above
  have F₂ : Fr h₀ env.locals h₂ (fun z => if z = y then some (.ref D) else m z) := ⟨hn₂, fun b o e => hs₂.extBut b o (fun q => by rw [q, hL₀] at e; cases e) (F'.keep b o e), F'.above⟩
  refine ⟨m', hnC.sameBut hs₂ hCL, fun h'' hs'' => fin D h'' _ ys news' hJ (F₂.change hs'' hCL hC₀) (fun p hp => ?_) o1⟩
  have z : h₂.get? p.1 = some p.2 := hs₂.extBut _ _ (N' p hp).2.1 (N' p hp).1
  refine ⟨hs''.extBut _ _ ?_ z, (N' p hp).2⟩
  rcases List.mem_cons.mp hp with rfl | hp
  · exact Ne.symm hCD
  · exact offC p hp
end
end
section
set_option maxRecDepth 100000
set_option maxHeartbeats 4000000
section
variable {prog : Program} {w : World} {A : Around} {R : Result → Shared → Prop} {I : Addr} {fp wr : List Addr} {n : Nat} {P : Nat → Value → Prop} {St : Nat → Heap → Prop}

theorem min_loopH (W : Walks prog w A.in1 I fp wr n P St) (bt : Nat → Nat → Bool) (H : Heap → Prop) (S : Addr) (hSf : S ∉ fp) (hH : ∀ h h', H h → (∀ b o, b ∉ wr → b ≠ S → h.get? b = some o → h'.get? b = some o) → H h')
    (hcmp : ∀ i j vi vj (s : Shared) (Q E : Value → Shared → Prop), H s.heap → P i vi → P j vj → Q (.bool (bt i j)) s → wpAny (model prog w) A.in1 (richCompare .Lt vi vj) Q E s) :
    ∀ (k j : Nat) (s : Shared) (vb : Value) (c : Nat), n - (j + 1) = k → j + 1 ≤ n → St (j + 1) s.heap → H s.heap → P (argBest bt j) vb →
    s.heap.get? S = some { cls := .type "list", dict := none, data := .seq #[vb, vb] c, slots := #[] } →
    (∀ v h' tk, P (argBest bt (n - 1)) v → (∀ b o, b ∉ wr → b ≠ S → s.heap.get? b = some o → h'.get? b = some o) → R (.ok (.ret v)) { s with heap := h', toks := tk }) →
    codeAny (model prog w) A (.builtin "min.loop" ⟨[.ref I, .none, .ref S], []⟩) R s := by
  have hSw : S ∉ wr := fun h => hSf (W.sub _ h)
  have hname : (toString "min" ++ toString ".loop" : String) = "min.loop" := by decide
  intro k
  induction k with
  | zero =>
    intro j s vb c hk hj hst hh hPb hS hR
    have hin : j + 1 = n := Nat.le_antisymm hj (Nat.sub_eq_zero_iff_le.mp hk)
    refine codeAny_builtin F.entry_min_loop ?_
    rw [Around.under_plainId F.plain_min_loop _]
    show wpAny _ A.in1 (seqItems? (.ref S) >>= _) _ _ s
    refine wpAny_bind (wpAny_seqItems hS rfl ?_)
    show wpAny _ A.in1 (tryCatch (pyNext (.ref I)) _ >>= _) _ _ s
    refine wpAny_bind (wpAny_tryCatch (W.done s _ _ (hin ▸ hst) fun h' tk hk' => ?_))
    have hS' := hk' S _ hSw hS
    show wpAny _ A.in1 (updateSeq S (fun _ => #[]) >>= _) _ _ _
    refine wpAny_bind ?_
    refine wpAny_updateSeq hS' rfl (wpAny_bind (wpAny_letGo (wpAny_pure ?_)))
    exact hR vb _ tk (by rw [← hin]; exact hPb) fun b o hbw hbS e => (Heap.get?_update_other _ _ (Ne.symm hbS)).trans (hk' b o hbw e)
  | succ k ih =>
    intro j s vb c hk hj hst hh hPb hS hR
    have hlt : j + 1 < n := Nat.lt_of_sub_eq_succ hk
    refine codeAny_builtin F.entry_min_loop ?_
    rw [Around.under_plainId F.plain_min_loop _]
    show wpAny _ A.in1 (seqItems? (.ref S) >>= _) _ _ s
    refine wpAny_bind (wpAny_seqItems hS rfl ?_)
    show wpAny _ A.in1 (tryCatch (pyNext (.ref I)) _ >>= _) _ _ s
    refine wpAny_bind (wpAny_tryCatch (W.item (j + 1) s _ _ hlt hst fun v h' tk hP hst' hk' => ?_))
    have hS' := hk' S _ hSw hS
    have hh' : H h' := hH _ _ hh fun b o hb _ e => hk' b o hb e
    show wpAny _ A.in1 (tryCatch (holding [v, v] (richCompare .Lt v vb >>= _)) _ >>= _) _ _ _
    refine wpAny_bind (wpAny_tryCatch (wpAny_holding (wpAny_bind (hcmp (j + 1) (argBest bt j) v vb _ _ _ hh' hP hPb ?_))))
    refine wpAny_bind (wpAny_holding (wpAny_truthy_bool ?_))
    refine wpAny_bind (wpAny_letGo (wpAny_pure ?_))
    cases hb : bt (j + 1) (argBest bt j) with
    | true =>
      simp only [if_true]
      refine wpAny_bind ?_
      refine wpAny_updateSeq hS' rfl (wpAny_bind (wpAny_letGo ?_))
      rw [hname]
      refine wpAny_pure ⟨plainId_quiet F.plain_min_loop _, ih (j + 1) _ v _ (by rw [← Nat.sub_sub n (j + 1) 1, hk]; rfl) hlt (W.frame _ _ _ hst' fun b hbf o e => ?_) (hH _ _ hh' fun b o _ hbS e => (Heap.get?_update_other _ _ (Ne.symm hbS)).trans e) (by simp only [argBest, hb, if_true]; exact hP) (Heap.get?_update_self _ hS' rfl)
        fun v' h'' tk'' hP' hk'' => ?_⟩
      · exact (Heap.get?_update_other _ _ (fun h : S = b => hSf (by rw [h]; exact hbf))).trans e
      · exact hR v' h'' tk'' hP' fun b o hbw hbS e => hk'' b o hbw hbS ((Heap.get?_update_other _ _ (Ne.symm hbS)).trans (hk' b o hbw e))
    | false =>
      simp only [Bool.false_eq_true, if_false]
      refine wpAny_bind (wpAny_letGo ?_)
      rw [hname]
      refine wpAny_pure ⟨plainId_quiet F.plain_min_loop _, ih (j + 1) _ vb c (by rw [← Nat.sub_sub n (j + 1) 1, hk]; rfl) hlt hst' hh' (by simp only [argBest, hb, Bool.false_eq_true, if_false]; exact hPb) hS' fun v' h'' tk'' hP' hk'' => ?_⟩
      exact hR v' h'' tk'' hP' fun b o hbw hbS e => hk'' b o hbw hbS (hk' b o hbw e)
end
section
variable {prog : Program} {w : World} {A : Around} {E : Value → Shared → Prop} {s : Shared}

theorem min_listH {l : Addr} {vs : Array Value} {Q : Value → Shared → Prop} (hh : A.handled = none) (hl : s.heap.IsList l vs) (hn : 0 < vs.size) (bt : Nat → Nat → Bool) (H : Heap → Prop) (h0 : H s.heap)
    (hH : ∀ h h', H h → (∀ b o, b < s.heap.objs.size → h.get? b = some o → h'.get? b = some o) → H h')
    (hcmp : ∀ i j vi vj (s : Shared) (Q E : Value → Shared → Prop), H s.heap → vs[i]? = some vi → vs[j]? = some vj → Q (.bool (bt i j)) s → wpAny (model prog w) A.in1 (richCompare .Lt vi vj) Q E s)
    (hQ : ∀ v h' tk, vs[argBest bt (vs.size - 1)]? = some v → (∀ b o, s.heap.get? b = some o → h'.get? b = some o) → Q v { s with heap := h', toks := tk }) :
    wpAny (model prog w) A (call (.builtin "min") [.ref l]) Q E s := by
  have hname : (toString "min" ++ toString ".loop" : String) = "min.loop" := by decide
  have hlt : l < s.heap.objs.size := by obtain ⟨_, e, _⟩ := hl; exact Heap.lt_size e
  refine call_function_tree F.kind_min F.plain_min F.entry_min (F.args_min1 _) ?_
  show wpAny _ A.in1 (Builtin.Builtins.bindParams "min" ["key", "default"] 0 ⟨[], []⟩ >>= _) _ _ s
  refine wpAny_bind (wpAny_of_eq (show Builtin.Builtins.bindParams "min" ["key", "default"] 0 ⟨[], []⟩ = pure [none, none] from rfl) ?_)
  refine wpAny_bind (wpAny_pure ?_)
  refine wpAny_bind (wpAny_pyIter_list hl ?_)
  refine wpAny_bind (wpAny_newObj_type ?_)
  have W := Walks.list (prog := prog) (w := w) (A := A.in1) hh s.heap.objs.size l (Nat.ne_of_lt hlt) vs
  generalize hI : s.heap.push { cls := .type "list_iterator", data := .fields #[.ref l, .int 0 0] } = h₁
  have hS : h₁.objs.size = s.heap.objs.size + 1 := by rw [← hI, Heap.size_push]
  have up : ∀ b o, s.heap.get? b = some o → h₁.get? b = some o := fun b o e => by rw [← hI]; exact Heap.get?_push_of_some _ e
  have hIL : h₁.IsListIter s.heap.objs.size l 0 := by rw [← hI]; exact ⟨_, Heap.get?_push_size _ rfl, rfl, rfl⟩
  have hl₁ : h₁.IsList l vs := by rw [← hI]; exact hl.push _
  rw [hname]
  have gS : (h₁.push { cls := .type "list", dict := none, data := .seq (#[] : Array Value) }).get? h₁.objs.size = some { cls := .type "list", dict := none, data := .seq #[] 0, slots := #[] } := Heap.get?_push_size _ rfl
  have nSI : h₁.objs.size ≠ s.heap.objs.size := by rw [hS]; exact Nat.succ_ne_self _
  have nSl : h₁.objs.size ≠ l := by rw [hS]; exact Nat.ne_of_gt (Nat.lt_succ_of_lt hlt)
  have hSf : h₁.objs.size ∉ [s.heap.objs.size, l] := by simp [nSI, nSl]
  have kept : ∀ h h', H h → (∀ b o, b ∉ [s.heap.objs.size] → b ≠ h₁.objs.size → h.get? b = some o → h'.get? b = some o) → H h' := fun h h' x k =>
    hH h h' x fun b o hb e => k b o (by simpa using Nat.ne_of_lt hb) (by rw [hS]; exact Nat.ne_of_lt (Nat.lt_succ_of_lt hb)) e
  refine wpAny_pure ⟨plainId_quiet F.plain_min_loop _, codeAny_builtin F.entry_min_loop ?_⟩
  rw [Around.under_plainId F.plain_min_loop _]
  show wpAny _ A.in1 (seqItems? (.ref h₁.objs.size) >>= _) _ _ _
  refine wpAny_bind (wpAny_seqItems gS rfl ?_)
  show wpAny _ A.in1 (tryCatch (pyNext (.ref s.heap.objs.size)) _ >>= _) _ _ _
  refine wpAny_bind (wpAny_tryCatch (W.item 0 _ _ _ hn (W.frame _ _ _ ⟨hIL, hl₁⟩ fun b _ o e => Heap.get?_push_of_some _ e) fun v h' tk hP hst' hk' => ?_))
  have hS' := hk' h₁.objs.size _ (by simpa using nSI) gS
  have hh' : H h' := hH _ _ h0 fun b o hb e => hk' b o (by simpa using Nat.ne_of_lt hb) (Heap.get?_push_of_some _ (up b o e))
  show wpAny _ A.in1 (updateSeq h₁.objs.size (fun _ => #[v, v]) >>= _) _ _ _
  refine wpAny_bind ?_
  refine wpAny_updateSeq hS' rfl ?_
  rw [hname]
  refine wpAny_pure ⟨plainId_quiet F.plain_min_loop _, min_loopH W bt H h₁.objs.size hSf kept (fun i j vi vj s Q E x a b q => hcmp i j vi vj s Q E x a b q) _ 0 _ v _ rfl hn (W.frame _ _ _ hst' fun b hbf o e => ?_) (kept _ _ hh' fun b o _ hb e => (Heap.get?_update_other _ _ (Ne.symm hb)).trans e) hP (Heap.get?_update_self _ hS' rfl) fun v' h'' tk'' hP' hk'' => ?_⟩
  · exact (Heap.get?_update_other _ _ (fun h : h₁.objs.size = b => hSf (by rw [h]; exact hbf))).trans e
  · refine hQ v' h'' tk'' hP' fun b o e => hk'' b o ?_ ?_ ?_
    · simpa using Nat.ne_of_lt (Heap.lt_size e)
    · rw [hS]; exact Nat.ne_of_lt (Nat.lt_succ_of_lt (Heap.lt_size e))
    · have nb : h₁.objs.size ≠ b := by rw [hS]; exact Nat.ne_of_gt (Nat.lt_succ_of_lt (Heap.lt_size e))
      exact (Heap.get?_update_other _ _ nb).trans (hk' b o (by simpa using Nat.ne_of_lt (Heap.lt_size e)) (Heap.get?_push_of_some _ (up b o e)))
end
end
section
open PySem PySem.W PyProof.Rows PySem.AutoSeq1
set_option maxRecDepth 100000
set_option maxHeartbeats 4000000
noncomputable def tlt (d : Int) (x : Str) (e : Int) (y : Str) : Bool := if d = e then (if x = y then false else decide (x.cps.toList < y.cps.toList)) else decide (d < e)
theorem tup_lt (l b : Addr) (d e : Int) (x y : Str) (t1 t2 t3 t4 : Tok) (n n2 : Nat) (dd dd2 : Option Addr) (sl sl2 : Array (Option Value)) :
    Meets (Builtin.«tuple.__lt__» ⟨[.ref l, .ref b], []⟩)
      (fun A R s => s.heap.get? l = some { cls := .type "tuple", dict := dd, data := .seq #[.int d t1, .str x t2] n, slots := sl } ∧ s.heap.get? b = some { cls := .type "tuple", dict := dd2, data := .seq #[.int e t3, .str y t4] n2, slots := sl2 } ∧
        R (.ok (.ret (.bool (tlt d x e y)))) s) :=
  .of_wp fun prog w A R s h => by
    obtain ⟨hp, g, dr, tk, os⟩ := s; obtain ⟨hl, hb, h⟩ := h
    have f2 := AutoSeq1.sub_tuple_tuple
    wp_walk using wpAny_loadPart' hl, wpAny_loadPart' hb, wpAny_forIn_list _ (fun rest b s' => b.1 = none ∧ s' = ⟨hp, g, dr, tk, os⟩ ∧ (rest = [(Value.int d t1, Value.int e t3), (.str x t2, .str y t4)] ∨ (rest = [(Value.str x t2, Value.str y t4)] ∧ d = e) ∨ (rest = [] ∧ d = e ∧ x = y))) _
    case turn =>
      rintro ⟨p, q⟩ rest b s' ⟨hb', rfl, hr⟩
      rcases hr with hr | ⟨hr, rfl⟩ | ⟨hr, _⟩
      · injection hr with h1 h2
        injection h1 with h1 h3
        subst h1 h2 h3
        refine wpAny_bind (SeqAt.EqAt.int_int _ _ _ _ prog w _ _ ?_)
        by_cases hde : d = e
        · subst hde
          simp only [beq_self_eq_true, Bool.not_true, Bool.false_eq_true, if_false]
          exact wpAny_pure ⟨rfl, rfl, .inr (.inl (by simp))⟩
        · have hz : (d == e) = false := by simpa using hde
          simp only [hz, Bool.not_false, if_true]
          rw [tlt, if_neg hde] at h
          refine wpAny_bind (wpAny_rule ?_)
          refine wpAny_bind (show wpAny _ _ (compareOp .Lt (.int d t1) (.int e t3)) _ _ _ from lt_int ?_)
          refine wpAny_bind (wpAny_pure ?_)
          refine wpAny_pure ?_
          exact wpAny_pure ⟨_, rfl, h⟩
      · injection hr with h1 h2
        injection h1 with h1 h3
        subst h1 h2 h3
        refine wpAny_bind (SeqAt.EqAt.str_str _ _ _ _ prog w _ _ ?_)
        by_cases hxy : x = y
        · subst hxy
          simp only [beq_self_eq_true, Bool.not_true, Bool.false_eq_true, if_false]
          exact wpAny_pure ⟨rfl, rfl, .inr (.inr (by simp))⟩
        · have hz : (x == y) = false := by simpa using hxy
          simp only [hz, Bool.not_false, if_true]
          rw [tlt, if_pos rfl, if_neg hxy] at h
          refine wpAny_bind (wpAny_rule ?_)
          refine wpAny_bind (show wpAny _ _ (compareOp .Lt (.str x t2) (.str y t4)) _ _ _ from lt_str ?_)
          refine wpAny_bind (wpAny_pure ?_)
          refine wpAny_pure ?_
          exact wpAny_pure ⟨_, rfl, h⟩
      · cases hr
    case fin =>
      rintro ⟨b1, b2⟩ s' ⟨hb', rfl, hr⟩
      simp only at hb'
      subst hb'
      rcases hr with hr | ⟨hr, _⟩ | ⟨_, rfl, rfl⟩
      · cases hr
      · cases hr
      · rw [tlt, if_pos rfl, if_pos rfl] at h
        exact wpAny_pure ⟨_, rfl, h⟩
    case h =>
      exact ⟨rfl, rfl, .inl rfl⟩
theorem tup_rc {prog : Program} {w : World} {A : Around} {s : Shared} {Q E : Value → Shared → Prop} {l b : Addr} {d e : Int} {x y : Str} {t1 t2 t3 t4 : Tok} {n n2 : Nat}
    (hl : s.heap.get? l = some { cls := .type "tuple", data := .seq #[.int d t1, .str x t2] n }) (hb : s.heap.get? b = some { cls := .type "tuple", data := .seq #[.int e t3, .str y t4] n2 }) (hu : A.units < cLine)
    (h : Q (.bool (tlt d x e y)) s) : wpAny (model prog w) A (richCompare .Lt (.ref l) (.ref b)) Q E s :=
  richCompare_meets_room (op := .Lt) ⟨_, hl, rfl⟩ ⟨_, hb, rfl⟩ F.slot_tuple_lt F.entry_tuple_lt (F.args_tuple_lt_2 _ _) (tup_lt l b d e x y t1 t2 t3 t4 n n2 none none #[] #[]) ⟨hl, hb, show Value.bool (tlt d x e y) ≠ Value.notImplemented ∧ Q (.bool (tlt d x e y)) s from ⟨(fun x => nomatch x), h⟩⟩ hu
noncomputable def btOf (ds : List (Int × Str)) (i j : Nat) : Bool := tlt (ds.getD i (0, Str.empty)).1 (ds.getD i (0, Str.empty)).2 (ds.getD j (0, Str.empty)).1 (ds.getD j (0, Str.empty)).2
noncomputable def bestOf (ds : List (Int × Str)) : Nat := argBest (btOf ds) (ds.length - 1)
noncomputable def TupAt (led : List (Addr × Obj)) (v : Value) (p : Int × Str) : Prop := ∃ a t u n, v = .ref a ∧ (a, ({ cls := .type "tuple", data := .seq #[.int p.1 t, .str p.2 u] n } : Obj)) ∈ led
theorem min_tups {prog : Program} {w : World} {A : Around} {s : Shared} {Q E : Value → Shared → Prop} {h₀ : Heap} {L l : Addr} {m : Str → Option Value} {led : List (Addr × Obj)} {vs : List Value} {c : Nat} {ds : List (Int × Str)} (hh : A.handled = none) (F : Fr h₀ L s.heap m) (N : News h₀ L s.heap led)
    (hl : (l, listOf vs.toArray c) ∈ led) (hn : vs.length = ds.length) (h0 : 0 < ds.length) (hd : ∀ i v, vs[i]? = some v → TupAt led v (ds.getD i (0, Str.empty))) (hu : A.in1.units < cLine)
    (h : ∀ v h' tk, vs[bestOf ds]? = some v → Fr h₀ L h' m → News h₀ L h' led → Q v { s with heap := h', toks := tk }) : wpAny (model prog w) A (call (.builtin "min") [.ref l]) Q E s := by
  have hls : s.heap.IsList l vs.toArray := ⟨_, (N _ hl).1, rfl, _, rfl⟩
  refine min_listH hh hls (by rw [List.size_toArray, hn]; exact h0) (btOf ds) (fun h => ∀ p ∈ led, h.get? p.1 = some p.2) (fun p hp => (N p hp).1) (fun h h' x k p hp => k _ _ (Heap.lt_size (N p hp).1) (x p hp)) ?_ ?_
  · intro i j vi vj s' Q' E' x hi hj hq
    obtain ⟨a, t, u, n, rfl, ha⟩ := hd i vi (by simpa using hi)
    obtain ⟨b, t', u', n', rfl, hb⟩ := hd j vj (by simpa using hj)
    exact tup_rc (x _ ha) (x _ hb) hu hq
  · intro v h' tk hv hk
    refine h v h' tk ?_ (F.keeps hk) (fun p hp => ⟨hk _ _ (N p hp).1, (N p hp).2⟩)
    rw [List.size_toArray, hn] at hv
    simpa [bestOf] using hv
end
section
set_option maxRecDepth 100000
noncomputable def isS (k : Str) : Value → Bool
  | .str x _ => x == k
  | _ => false
theorem isS_at (k : Str) : ∀ {vs : List Value} {ws : List Str}, StrsAre vs ws → ∀ (j : Nat) (h : j < vs.length) (h' : j < ws.length), isS k vs[j] = (ws[j] == k)
  | _, _, .nil, j, h, _ => absurd h (Nat.not_lt_zero _)
  | _, _, .cons x t r, 0, _, _ => rfl
  | _, _, .cons x t r, j + 1, h, h' => isS_at k r j (Nat.lt_of_succ_lt_succ h) (Nat.lt_of_succ_lt_succ h')
theorem str_of {vs : List Value} {ws : List Str} (h : StrsAre vs ws) : ∀ y ∈ vs, ∃ x t, y = .str x t := by
  induction h with
  | nil => intro y hy; cases hy
  | cons x t _ ih =>
    intro y hy
    rcases List.mem_cons.mp hy with rfl | hy
    · exact ⟨x, t, rfl⟩
    · exact ih y hy
theorem ne_before {ws : List Str} {k : Str} : ∀ {j : Nat}, j < ws.idxOf k → (h : j < ws.length) → (ws[j] == k) = false := by
  induction ws with
  | nil => intro j _ h; exact absurd h (Nat.not_lt_zero _)
  | cons x r ih =>
    intro j h h'
    rw [List.idxOf_cons] at h
    cases e : x == k with
    | true => rw [e] at h; exact absurd h (Nat.not_lt_zero _)
    | false =>
      rw [e] at h
      cases j with
      | zero => exact e
      | succ j => exact ih (Nat.lt_of_succ_lt_succ h) (Nat.lt_of_succ_lt_succ h')
theorem index_strs {prog : Program} {w : World} {A : Around} {E Q : Value → Shared → Prop} {s : Shared} {l : Addr} {vs : List Value} {ws : List Str} {k : Str} {t : Tok} (hl : s.heap.IsList l vs.toArray) (hi : StrsAre vs ws) (hsz : ws.length ≤ 100) (hk : k ∈ ws)
    (h : Q (.int (ws.idxOf k : Nat) s.toks) { s with toks := s.toks + 1 }) : wpAny (model prog w) A (call (.builtin "list.index") [.ref l, .str k t]) Q E s := by
  obtain ⟨⟨cls, dd, data, sl⟩, ho, hc, n, hd⟩ := id hl
  simp only at hc hd
  subst hc hd
  have hlen := hi.length
  have hj : ws.idxOf k < ws.length := List.idxOf_lt_length_iff.mpr hk
  refine call_meets PySem.F.slot_list_index ⟨_, ho, rfl⟩ PySem.F.entry_list_index (PySem.F.args_list_index_2 _ _)
    (SeqAt.list_indexAt l vs.toArray n dd sl (.str k t) (isS k) (ws.idxOf k) (by simpa [hlen] using hj) (by lia) ?_ ?_) ⟨ho, fun y hy => ?_, h⟩
  · show isS k vs[ws.idxOf k] = true
    rw [isS_at k hi _ (by lia) hj]
    simpa using List.getElem_idxOf hj
  · intro j hjs hlt
    show isS k vs[j] = false
    rw [isS_at k hi j (by simpa using hjs) (by lia)]
    exact ne_before hlt _
  · obtain ⟨x, u, rfl⟩ := str_of hi y (by simpa using hy)
    exact SeqAt.EqAt.str_str _ _ _ _
end
section
set_option maxRecDepth 100000
section
variable {prog : Program} {w : World} {A : Around} {E : Value → Shared → Prop} {s : Shared} {env : Env} {h₀ : Heap} {x : Str} {px : Pos} {body : List Stmt} {Q : Flow → Shared → Prop}

noncomputable def TurnT (L : Addr) (s₁ : Shared) (I : Addr) (oI : Obj) (J : Heap → (Str → Option Value) → List (Addr × Obj) → Prop) (Q : Flow → Shared → Prop) (f : Flow) (s₂ : Shared) : Prop :=
  match f with
  | .ret v => Q (.ret v) s₂
  | .brk => Q .next s₂
  | _ => ∃ g h' tk m' news', s₂ = { s₁ with heap := h', toks := tk } ∧ Fr g L h' m' ∧ News g L h' ((I, oI) :: news') ∧ (∀ p ∈ news', p.1 ≠ I) ∧ J g m' news'

theorem forT {l : Addr} {vs : List Value} {c : Nat} {m₀ : Str → Option Value} {news : List (Addr × Obj)} (J : Nat → Heap → (Str → Option Value) → List (Addr × Obj) → Prop)
    (hh : A.handled = none) (F : Fr h₀ env.locals s.heap m₀) (N : News h₀ env.locals s.heap news) (hl : (l, listOf vs.toArray c) ∈ news) (hJ : ∀ i g m n, J i g m n → (l, listOf vs.toArray c) ∈ n) (h0 : J 0 h₀ m₀ news) (hE : PassesOwn (model prog w) A env E)
    (step : ∀ I oI i v g m₁ news₁ h₁ tk₁, vs[i]? = some v → J i g m₁ news₁ → (∀ p ∈ news₁, p.1 ≠ I) → Fr g env.locals h₁ m₁ → News g env.locals h₁ ((I, oI) :: news₁) →
      wpAny (model prog w) A (assign (.Name x px) env v) (fun _ s₂ => wpAny (model prog w) A (execs body env) (TurnT env.locals s I oI (J (i + 1)) Q) E s₂) E { s with heap := h₁, toks := tk₁ })
    (done : ∀ g h' tk m' news', Fr g env.locals h' m' → News g env.locals h' news' → J vs.length g m' news' → Q .next { s with heap := h', toks := tk }) :
    wpAny (model prog w) A (pyIter (.ref l)) (fun it s₂ => codeAny (model prog w) A (.forLoop (.Name x px) it body [] env) (fun r s' => match r with | .ok f => Q f s' | .error e => cameBackBy (model prog w) A env E e s') s₂) E s := by
  have hls : s.heap.IsList l vs.toArray := ⟨_, (N _ hl).1, rfl, _, rfl⟩
  have hlt : l < s.heap.objs.size := Heap.lt_size (N _ hl).1
  have hne : l ≠ s.heap.objs.size := Nat.ne_of_lt hlt
  have W := Walks.list (prog := prog) (w := w) hh s.heap.objs.size l hne vs.toArray
  have hsz : vs.toArray.size = vs.length := List.size_toArray ..
  rw [hsz] at W
  have hIL : s.heap.objs.size ≠ env.locals := Nat.ne_of_gt F.ns.lt
  refine wpAny_pyIter_list hls ?_
  refine codeAny_forLoop_any
    (fun k s' => ∃ g h' tk m' news' i, s' = { s with heap := h', toks := tk } ∧ g.get? s.heap.objs.size = none ∧ (h'.IsListIter s.heap.objs.size l i ∧ h'.IsList l vs.toArray) ∧ Fr g env.locals h' m' ∧ News g env.locals h' news' ∧ (∀ p ∈ news', p.1 ≠ s.heap.objs.size) ∧ J i g m' news' ∧ i ≤ vs.length ∧ k = vs.length + 1 - i) ?_ (vs.length + 1)
    ⟨h₀, _, s.toks, m₀, news, 0, rfl, next_is_new F, ⟨⟨_, Heap.get?_push_size _ rfl, rfl, rfl⟩, hls.push _⟩, F.push _, (fun p hp => ⟨Heap.get?_push_of_some _ (N p hp).1, (N p hp).2⟩), (fun p hp => Nat.ne_of_lt (Heap.lt_size (N p hp).1)), h0, Nat.zero_le _, rfl⟩
  rintro k s' ⟨g, h', tk, m', news', i, rfl, hg, hst', F', N', hnw', hJi, hi, rfl⟩
  have next : ∀ h₁ : Heap, (∀ b o, b ∉ [s.heap.objs.size] → h'.get? b = some o → h₁.get? b = some o) → Fr g env.locals h₁ m' ∧ News g env.locals h₁ news' := fun h₁ hk₁ =>
    ⟨⟨F'.ns.at' fun o e => hk₁ _ o (nin1 (Ne.symm hIL)) e, fun b o e => hk₁ b o (fun hb => by rw [List.mem_singleton.mp hb, hg] at e; cases e) (F'.keep b o e), F'.above⟩, fun p hp => ⟨hk₁ _ _ (by simpa using hnw' p hp) (N' p hp).1, (N' p hp).2⟩⟩
  by_cases hlt' : i < vs.length
  · refine W.item i _ _ _ hlt' hst' fun v h₁ tk₁ hP hst₁ hk₁ => ?_
    refine wpAny_of_eq (rfl : letOwnedTupleGo (.Name x px) (.ref s.heap.objs.size) v = pure ()) ?_
    obtain ⟨F₁, N₁⟩ := next h₁ hk₁
    obtain ⟨oI, hoI, hoc, hod⟩ := id hst₁.1
    have NI : News g env.locals h₁ ((s.heap.objs.size, oI) :: news') := fun p hp => by
      rcases List.mem_cons.mp hp with rfl | hp
      · exact ⟨hoI, hIL, hg⟩
      · exact N₁ p hp
    have hP' : vs[i]? = some v := by simpa using hP
    refine wpAny_mono (step _ oI i v g m' news' h₁ tk₁ hP' hJi hnw' F₁ NI) (fun _ s₂ h₂ => wpAny_mono h₂ (fun f s₃ h₃ => ?_) fun e s' y => hE e s' y) fun e s' y => hE e s' y
    have fin : (∃ g h' tk m' news', s₃ = { s with heap := h', toks := tk } ∧ Fr g env.locals h' m' ∧ News g env.locals h' ((s.heap.objs.size, oI) :: news') ∧ (∀ p ∈ news', p.1 ≠ s.heap.objs.size) ∧ J (i + 1) g m' news') →
        ∃ m₁, m₁ < vs.length + 1 - i ∧ ∃ g h' tk m' news' j, s₃ = { s with heap := h', toks := tk } ∧ g.get? s.heap.objs.size = none ∧ (h'.IsListIter s.heap.objs.size l j ∧ h'.IsList l vs.toArray) ∧ Fr g env.locals h' m' ∧ News g env.locals h' news' ∧ (∀ p ∈ news', p.1 ≠ s.heap.objs.size) ∧ J j g m' news' ∧ j ≤ vs.length ∧ m₁ = vs.length + 1 - j := by
      rintro ⟨g₃, h₃', tk₃, m₂, news₂, rfl, F₃, N₃, ha₃, hJ₃⟩
      exact ⟨vs.length + 1 - (i + 1), Nat.sub_succ_lt_self _ _ (Nat.lt_succ_of_lt hlt'), g₃, h₃', tk₃, m₂, news₂, i + 1, rfl, (N₃ (s.heap.objs.size, oI) List.mem_cons_self).2.2, ⟨⟨oI, (N₃ (s.heap.objs.size, oI) List.mem_cons_self).1, hoc, hod⟩, ⟨_, (N₃ _ (List.mem_cons_of_mem _ (hJ _ _ _ _ hJ₃))).1, rfl, _, rfl⟩⟩, F₃, fun p hp => N₃ p (List.mem_cons_of_mem _ hp), ha₃, hJ₃, hlt', rfl⟩
    cases f with
    | ret v => exact h₃
    | brk => exact h₃
    | cont => exact fin h₃
    | next => exact fin h₃
  · have hin : i = vs.length := Nat.le_antisymm hi (Nat.not_lt.mp hlt')
    subst hin
    refine W.done _ _ _ hst' fun h₁ tk₁ hk₁ => ?_
    obtain ⟨F₁, N₁⟩ := next h₁ hk₁
    exact wpAny_execs_nil (done g h₁ tk₁ m' news' F₁ N₁ hJi)
end
end
section
set_option maxRecDepth 100000
set_option maxHeartbeats 4000000

theorem lex_local : ∀ (p : List Nat) (st : Ls) (tok : List Nat) (q : Bool) (t : List Nat) (q' : Bool), lexR (p ++ [32]) st tok q = some (t, q', some .sp, []) → ∀ rest, lexR (p ++ 32 :: rest) st tok q = some (t, q', some .sp, rest)
  | [], st, tok, q, t, q', h, rest => by
    have hw : isWs 32 = true := by decide
    cases st with
    | qt d =>
      simp only [List.nil_append, lexR] at h
      split at h <;> simp [lexR] at h
    | sp =>
      simp only [List.nil_append, lexR, hw, if_true] at h ⊢
      split at h
      · rename_i hc
        rw [if_pos hc]
        simp only [Option.some.injEq, Prod.mk.injEq] at h
        simp [h.1, h.2.1]
      · simp [lexR] at h
    | wd =>
      simp only [List.nil_append, lexR, hw, if_true] at h ⊢
      split at h
      · rename_i hc
        rw [if_pos hc]
        simp only [Option.some.injEq, Prod.mk.injEq] at h
        simp [h.1, h.2.1]
      · simp [lexR] at h
  | c :: p, st, tok, q, t, q', h, rest => by
    cases st with
    | qt d =>
      simp only [List.cons_append, lexR] at h ⊢
      split at h
      · rename_i hc; rw [if_pos hc]; exact lex_local p _ _ _ _ _ h rest
      · rename_i hc; rw [if_neg hc]; exact lex_local p _ _ _ _ _ h rest
    | sp =>
      simp only [List.cons_append, lexR] at h ⊢
      split at h
      · rename_i hc
        rw [if_pos hc]
        split at h
        · simp at h
        · rename_i hd; rw [if_neg hd]; exact lex_local p _ _ _ _ _ h rest
      · rename_i hc
        rw [if_neg hc]
        split at h
        · rename_i hd; rw [if_pos hd]; exact lex_local p _ _ _ _ _ h rest
        · rename_i hd; rw [if_neg hd]; exact lex_local p _ _ _ _ _ h rest
    | wd =>
      simp only [List.cons_append, lexR] at h ⊢
      split at h
      · rename_i hc
        rw [if_pos hc]
        split at h
        · simp at h
        · rename_i hd; rw [if_neg hd]; exact lex_local p _ _ _ _ _ h rest
      · rename_i hc
        rw [if_neg hc]
        split at h
        · rename_i hd; rw [if_pos hd]; exact lex_local p _ _ _ _ _ h rest
        · rename_i hd; rw [if_neg hd]; exact lex_local p _ _ _ _ _ h rest
noncomputable def lexFine (x : Str) : Bool :=
  (match lexR (cl (quoteS x) ++ [32]) .sp [] false with
    | some (t, q, some .sp, []) => t == cl x && !(t == [] && q == false)
    | _ => false) && (cl (quoteS x)).all fun c => c != 10 && c != 92
theorem lex_fin : (wordsAll.all fun x => (List.range 4).all fun (p : Nat) => (List.range 6).all fun (j : Nat) => lexFine (missp x (p : Int) (j : Int))) = true := by decide +kernel
theorem lexFine_miss {x : Str} (hx : x ∈ wordsAll) {p j : Int} (hp : 0 ≤ p ∧ p < 4) (hj : 0 ≤ j ∧ j < 6) : lexFine (missp x p j) = true := by
  have h := List.all_eq_true.mp lex_fin x hx
  have h := List.all_eq_true.mp h p.toNat (List.mem_range.mpr (by lia))
  have h := List.all_eq_true.mp h j.toNat (List.mem_range.mpr (by lia))
  rwa [show ((p.toNat : Nat) : Int) = p by lia, show ((j.toNat : Nat) : Int) = j by lia] at h
theorem lexFine_N (n : Int) {k : Nat} (hk : k < 3) : lexFine (missN n k) = true := lexFine_miss (meant_mem n _ (getD_mem (l := meant n) (i := k) hk)) (fmod4 _) (fmod6 _)
theorem lex_one {x : Str} (h : lexFine x = true) {rest : List Nat} {ts : List (List Nat)} (hr : LexTo rest ts) : LexTo (cl (quoteS x) ++ 32 :: rest) (cl x :: ts) := by
  simp only [lexFine, Bool.and_eq_true] at h
  have h := h.1
  split at h
  · rename_i t q e
    simp only [Bool.and_eq_true, beq_iff_eq, Bool.not_eq_true', Bool.and_eq_false_iff] at h
    obtain ⟨rfl, hn⟩ := h
    refine .more (lex_local _ _ _ _ _ _ e rest) ?_ hr
    rintro ⟨e1, e2⟩
    rw [e1, e2] at hn
    simp at hn
  · cases h
theorem lex_last : LexTo (cl (quoteS (Str.ofString "it's me"))) [cl (Str.ofString "it's me")] := .last (q := true) (by kernel_rfl) (by decide +kernel)
theorem row_cl (n : Int) : cl (rowS n) = cl (quoteS (missN n 0)) ++ 32 :: (cl (quoteS (missN n 1)) ++ 32 :: (cl (quoteS (missN n 2)) ++ 32 :: cl (quoteS (Str.ofString "it's me")))) := by
  have e : missL n 3 ++ [Str.ofString "it's me"] = [missN n 0, missN n 1, missN n 2, Str.ofString "it's me"] := rfl
  unfold rowS joinS
  rw [e]
  simp only [List.map_cons, List.map_nil]
  have hg : (Str.ofString " ").cps = #[32] := by decide +kernel
  unfold Txt.join Builtin.Str.glued
  simp [hg, cl]
theorem lex_rowN (n : Int) : LexTo (cl (rowS n)) ((missL n 3 ++ [Str.ofString "it's me"]).map cl) := by
  rw [row_cl]
  exact lex_one (lexFine_N n (by decide)) (lex_one (lexFine_N n (by decide)) (lex_one (lexFine_N n (by decide)) lex_last))
theorem row_okN (n : Int) : ∀ c ∈ cl (rowS n), okC c := by
  have hw : ∀ k, k < 3 → ∀ c ∈ cl (quoteS (missN n k)), okC c := fun k hk c hc => by
    have h := lexFine_N n hk
    simp only [lexFine, Bool.and_eq_true, List.all_eq_true, bne_iff_ne, ne_eq] at h
    exact h.2 c hc
  have hb : okC 32 := by unfold okC; decide
  have hl : ∀ c ∈ cl (quoteS (Str.ofString "it's me")), okC c := by
    have : (cl (quoteS (Str.ofString "it's me"))).all (fun c => c != 10 && c != 92) = true := by decide +kernel
    intro c hc
    have := List.all_eq_true.mp this c hc
    simp only [Bool.and_eq_true, bne_iff_ne, ne_eq] at this
    exact this
  rw [row_cl]
  intro c hc
  simp only [List.mem_append, List.mem_cons] at hc
  rcases hc with h | h | h | h | h | h | h
  · exact hw 0 (by decide) c h
  · exact h ▸ hb
  · exact hw 1 (by decide) c h
  · exact h ▸ hb
  · exact hw 2 (by decide) c h
  · exact h ▸ hb
  · exact hl c h
theorem row_lenN (n : Int) : (rowS n).length ≤ 1000 := by
  have hq : ∀ k, k < 3 → (cl (quoteS (missN n k))).length ≤ 100 := fun k hk => by
    rw [len_cl]
    exact (fine_ok (miss_fine (meant_mem n _ (getD_mem (l := meant n) (i := k) hk)) (fmod4 _) (fmod6 _))).2
  have hl : (cl (quoteS (Str.ofString "it's me"))).length ≤ 100 := by rw [len_cl]; exact (fine_ok itsme_fine).2
  rw [← len_cl, row_cl]
  simp only [List.length_append, List.length_cons]
  have h0 := hq 0 (by decide)
  have h1 := hq 1 (by decide)
  have h2 := hq 2 (by decide)
  lia
end
section
open PySem PySem.W PyProof.Rows PySem.Calls PyProof.Rows.LCg
set_option maxRecDepth 100000
set_option maxHeartbeats 4000000
section
variable {prog : Program} {w : World} {A : Around} {E : Value → Shared → Prop} {s : Shared} {h₀ : Heap} {L : Addr} {m : Str → Option Value} {env : Env}
noncomputable def EndG (h₀ : Heap) (L : Addr) (m : Str → Option Value) (s₁ : Shared) (fx : List (Addr × Obj)) (rest : Value → Array GenState → List (Addr × Obj) → Prop) (y : Value) (s₂ : Shared) : Prop :=
  ∃ h' tk gs news', s₂ = { s₁ with heap := h', gens := gs, toks := tk } ∧ Fr h₀ L h' m ∧ News h₀ L h' (fx ++ news') ∧ (∀ p ∈ news', ∀ q ∈ fx, p.1 ≠ q.1) ∧ rest y gs news'
theorem EndG.intro {s₁ : Shared} {fx : List (Addr × Obj)} {rest : Value → Array GenState → List (Addr × Obj) → Prop} {y : Value} {h' : Heap} {tk : Nat} {gs : Array GenState} {all : List (Addr × Obj)} (F : Fr h₀ L h' m) (N : News h₀ L h' all) (news' : List (Addr × Obj)) (sub : ∀ p ∈ fx ++ news', p ∈ all)
    (off : ∀ p ∈ news', ∀ q ∈ fx, p.1 ≠ q.1) (r : rest y gs news') : EndG h₀ L m s₁ fx rest y { s₁ with heap := h', gens := gs, toks := tk } := ⟨h', tk, gs, news', rfl, F, fun p hp => N p (sub p hp), off, r⟩

theorem blockG {elt iter : Expr} {x : Str} {px : Pos} {scope : Scope} {cl : List (Str × Addr)} {pos : Pos} {s₂ : Shared} {I ax : Addr} {vs : List Value} {c : Nat} {news : List (Addr × Obj)} {RR : Value → Addr → Result → Shared → Prop} (J : Nat → List Value → Array GenState → List (Addr × Obj) → Prop)
    (hh : A.handled = none) (hsz : vs.length ≤ sizeLine) (hcell : ∀ y ∈ scope.names, y.2 ≠ .cell) (hkind : scope.kind = .function) (hx : scope.names.lookup x = some .local)
    (hst : s₂.heap.IsListIter I ax 0) (hm : (ax, listOf vs.toArray c) ∈ news) (hJm : ∀ i ys gs n, J i ys gs n → (ax, listOf vs.toArray c) ∈ n) (hne : ax ≠ I) (F : Fr h₀ L s₂.heap m) (N : News h₀ L s₂.heap news) (hIL : L ≠ I) (hI₀ : h₀.get? I = none) (off : ∀ p ∈ news, p.1 ≠ I) (h0 : J 0 [] s₂.gens news)
    (turn : ∀ i ys gs news₁ v oI C oC D m₂ h tk (E' : Value → Shared → Prop), vs[i]? = some v → J i ys gs news₁ → NsObj oC m₂ → m₂ x = some v → Fr h₀ L h m → News h₀ L h ([(I, oI), (C, oC), (D, lst ys)] ++ news₁) →
      (∀ p ∈ news₁, ∀ q ∈ [(I, oI), (C, oC), (D, lst ys)], p.1 ≠ q.1) → (@Ne Nat I C ∧ @Ne Nat I D ∧ @Ne Nat C D) →
      wpAny (model prog w) A (eval elt (compEnvC scope cl C env)) (EndG h₀ L m { s₂ with heap := h, gens := gs, toks := tk } [(I, oI), (C, oC), (D, lst ys)] (fun y gs' news' => J (i + 1) (ys ++ [y]) gs' news')) E' { s₂ with heap := h, gens := gs, toks := tk })
    (hRR : ∀ D C h tk gs m' ys news', Fr h₀ L h m → News h₀ L h ((D, lst ys) :: news') → (∀ p ∈ news', p.1 ≠ D) → h.Ns C m' → h₀.get? C = none → h₀.get? D = none → C ≠ L → D ≠ L → C ≠ D → (∀ p ∈ news', p.1 ≠ C) → J vs.length ys gs news' → RR (.ref D) C (.ok .next) { s₂ with heap := h, gens := gs, toks := tk }) :
    wpAny (model prog w) A (newList []) (fun acc s₃ => wpAny (model prog w) A (newFunctionEnv scope env.globals cl [] env.qual none .none (some env)) (fun cenv s₄ =>
      codeAny (model prog w) A (.compStart (.ListComp elt [⟨.Name x px, iter, [], 0⟩] scope pos) 0 (.ref I) acc { cenv with scope := relabel scope env }) (RR acc cenv.locals) s₄) E s₃) E s₂ := by
  refine wpAny_newObj_type (wpAny_newFunctionEnv hcell (by intro y hy; simp at hy) (fun h₁ hns₁ hsb₁ => ?_) hkind)
  dsimp only at hns₁ hsb₁ ⊢
  have W := Walks.list (prog := prog) (w := w) hh I ax hne vs.toArray
  rw [List.size_toArray] at W
  generalize hD : s₂.heap.objs.size = D at *
  have hC' : (s₂.heap.push { cls := .type "list", dict := none, data := .seq ([] : List Value).toArray }).objs.size = D + 1 := by rw [Heap.size_push, hD]
  rw [hC'] at hns₁ hsb₁ ⊢
  have hIlt : I < D := by obtain ⟨o, e, _⟩ := hst; rw [← hD]; exact Heap.lt_size e
  have haxlt : ax < D := by rw [← hD]; exact Heap.lt_size (N _ hm).1
  have hLlt : L < D := by rw [← hD]; exact F.ns.lt
  have nCD : D + 1 ≠ D := Nat.succ_ne_self _
  have old : ∀ b o, s₂.heap.get? b = some o → h₁.get? b = some o := fun b o e => hsb₁.extBut b o (Nat.ne_of_lt (Nat.lt_succ_of_lt (hD ▸ Heap.lt_size e))) (Heap.get?_push_of_some _ (Heap.get?_push_of_some _ e))
  have gD : h₁.get? D = some (lst []) := hsb₁.extBut _ _ (Ne.symm nCD) (Heap.get?_push_of_some _ (by rw [← hD]; exact Heap.get?_push_size _ rfl))
  have fresh₀ : ∀ b, D ≤ b → h₀.get? b = none := fun b hb => by
    cases e : h₀.get? b with
    | none => rfl
    | some o' => exact absurd (Heap.lt_size (F.keep b o' e)) (Nat.not_lt.mpr (hD ▸ hb))
  have hD₀ := fresh₀ D (Nat.le_refl _)
  have hC₀ := fresh₀ (D + 1) (Nat.le_add_right _ _)
  have nDL : D ≠ L := Nat.ne_of_gt hLlt
  have nCL : D + 1 ≠ L := Nat.ne_of_gt (Nat.lt_succ_of_lt hLlt)
  have nID : I ≠ D := Nat.ne_of_lt hIlt
  have nIC : I ≠ D + 1 := Nat.ne_of_lt (Nat.lt_succ_of_lt hIlt)
  have nlt : ∀ p ∈ news, p.1 < D := fun p hp => hD ▸ Heap.lt_size (N p hp).1
  have lsAt : ∀ {h : Heap} {n : List (Addr × Obj)} {i ys gs}, J i ys gs n → News h₀ L h n → h.IsList ax vs.toArray := fun j n => ⟨_, (n _ (hJm _ _ _ _ j)).1, rfl, _, rfl⟩
  have itAt : ∀ {i : Nat} {h h' : Heap}, h.IsListIter I ax i → (∀ o, h.get? I = some o → h'.get? I = some o) → h'.IsListIter I ax i := fun x k => by obtain ⟨o, e, r⟩ := x; exact ⟨o, k o e, r⟩
  have loop : ∀ s₃ : Shared, s₃ = { s₂ with heap := h₁, toks := s₂.toks + ([] : List (Str × Value)).length } →
      codeAny (model prog w) A (.compLoop (.ListComp elt [⟨.Name x px, iter, [], 0⟩] scope pos) 0 (.ref I) (.ref D) (compEnvC scope cl (D + 1) env)) (RR (.ref D) (D + 1)) s₃ := by
    rintro s₃ rfl
    refine codeAny_compLoop_tests
      (fun k s' => ∃ h' tk gs i ys m' news', s' = { s₂ with heap := h', gens := gs, toks := tk } ∧ i ≤ vs.length ∧ k = vs.length + 1 - i ∧ ys.length = i ∧ h'.IsListIter I ax i ∧ Fr h₀ L h' m ∧ h'.Ns (D + 1) m' ∧ News h₀ L h' ((D, lst ys) :: news') ∧
        (∀ p ∈ news', p.1 ≠ I ∧ p.1 ≠ D + 1 ∧ p.1 ≠ D) ∧ J i ys gs news') ?_ (vs.length + 1)
      ⟨h₁, _, s₂.gens, 0, [], _, news, rfl, Nat.zero_le _, rfl, rfl, itAt hst (old I), F.keeps old, hns₁, fun p hp => ?_, fun p hp => ⟨off p hp, Nat.ne_of_lt (Nat.lt_succ_of_lt (nlt p hp)), Nat.ne_of_lt (nlt p hp)⟩, h0⟩
    · rintro k s' ⟨h', tk, gs, i, ys, m', news', rfl, hi, rfl, hyl, hst', F', hn', N', off', hJ'⟩
      by_cases hlt : i < vs.length
      · refine W.item i _ _ _ hlt ⟨hst', lsAt hJ' fun p hp => N' p (List.mem_cons_of_mem _ hp)⟩ fun v h₂ tk₂ hPv hst₂ hk₂ => ?_
        have hv : vs[i]? = some v := by simpa using hPv
        have N₂ : News h₀ L h₂ ((D, lst ys) :: news') := news_but N' hk₂ fun p hp => by
          rcases List.mem_cons.mp hp with rfl | hp
          · exact Ne.symm nID
          · exact (off' p hp).1
        refine wpAny_assign_Name (wpAny_storeName_local (lookup_relabel_local hx) (hn'.at' fun o e => hk₂ _ o (nin1 (Ne.symm nIC)) e) (fun h₃ hn₃ hs₃ => ?_) (by simp [compEnvC, relabel, hkind]))
        refine wpAny_tests_nil ?_
        simp only [if_true]
        obtain ⟨oI, heI, hoI⟩ := hst₂.1
        have heI₃ := hs₃.extBut _ _ nIC heI
        obtain ⟨oC, heC, hoC⟩ := ns_obj hn₃
        have F₃ : Fr h₀ L h₃ m := (fr_but F' hk₂ hIL hI₀).change hs₃ nCL hC₀
        have N₃ : News h₀ L h₃ ((I, oI) :: (D + 1, oC) :: (D, lst ys) :: news') :=
          of_cons ⟨heI₃, Ne.symm hIL, hI₀⟩ (of_cons ⟨heC, nCL, hC₀⟩ (of_cons ⟨hs₃.extBut _ _ (Ne.symm nCD) (N₂ _ List.mem_cons_self).1, nDL, hD₀⟩ fun p hp =>
            have z := N₂ p (List.mem_cons_of_mem _ hp)
            ⟨hs₃.extBut _ _ (off' p hp).2.1 z.1, z.2⟩))
        refine wpAny_mono (turn i ys gs news' v oI (D + 1) oC D _ h₃ _ _ hv hJ' hoC (by simp) F₃ N₃ (fun p hp q hq => ?_) ⟨nIC, nID, nCD⟩) (fun y s₄ h₄ => ?_) fun _ _ e => e
        · exact of_cons (P := fun q : Addr × Obj => p.1 ≠ q.1) (off' p hp).1 (of_cons (P := fun q : Addr × Obj => p.1 ≠ q.1) (off' p hp).2.1 (of_cons (P := fun q : Addr × Obj => p.1 ≠ q.1) (off' p hp).2.2 of_nil)) q hq
        · obtain ⟨h₄, tk₄, gs₄, news₄, rfl, F₄, N₄, off₄, hJ₄⟩ := h₄
          have zI := (N₄ _ List.mem_cons_self).1
          have zC := (N₄ (D + 1, oC) (by repeat (first | exact .head _ | refine .tail _ ?_))).1
          have zD := (N₄ (D, lst ys) (by repeat (first | exact .head _ | refine .tail _ ?_))).1
          have N₄' : News h₀ L h₄ news₄ := fun p hp => N₄ p (.tail _ (.tail _ (.tail _ hp)))
          refine append_at (hsz := by show ys.toArray.size ≤ sizeLine; rw [List.size_toArray, hyl]; exact Nat.le_trans hi hsz) zD fun h₅ hs₅ hD₅ => ?_
          have off5 : ∀ p ∈ news₄, p.1 ≠ I ∧ p.1 ≠ D + 1 ∧ p.1 ≠ D := fun p hp => ⟨off₄ p hp _ List.mem_cons_self, off₄ p hp (D + 1, oC) (.tail _ (.head _)), off₄ p hp (D, lst ys) (.tail _ (.tail _ (.head _)))⟩
          refine ⟨vs.length + 1 - (i + 1), Nat.sub_succ_lt_self _ _ (Nat.lt_succ_of_lt hlt), h₅, tk₄, gs₄, i + 1, ys ++ [y], _, news₄, rfl, hlt, rfl, by rw [List.length_append, List.length_singleton, hyl], ⟨oI, hs₅.extBut _ _ nID zI, hoI⟩, F₄.change hs₅ nDL hD₀, (hoC.ns zC).sameBut hs₅ nCD, fun p hp => ?_, off5, hJ₄⟩
          rcases List.mem_cons.mp hp with rfl | hp
          · exact ⟨hD₅.trans (congrArg some (lst_snoc ys y)), nDL, hD₀⟩
          · exact ⟨hs₅.extBut _ _ (off5 p hp).2.2 (N₄' p hp).1, (N₄' p hp).2⟩
      · have hin : i = vs.length := Nat.le_antisymm hi (Nat.not_lt.mp hlt)
        subst hin
        refine W.done _ _ _ ⟨hst', lsAt hJ' fun p hp => N' p (List.mem_cons_of_mem _ hp)⟩ fun h₂ tk₂ hk₂ => ?_
        have N₂ := news_but N' hk₂ fun p hp => by
          rcases List.mem_cons.mp hp with rfl | hp
          · exact Ne.symm nID
          · exact (off' p hp).1
        exact hRR D (D + 1) h₂ tk₂ gs _ ys news' (fr_but F' hk₂ hIL hI₀) N₂ (fun p hp => (off' p hp).2.2) (hn'.at' fun o e => hk₂ _ o (nin1 (Ne.symm nIC)) e) hC₀ hD₀ nCL nDL nCD (fun p hp => (off' p hp).2.1) hJ'
    · rcases List.mem_cons.mp hp with rfl | hp
      · exact ⟨gD, nDL, hD₀⟩
      · exact ⟨old _ _ (N p hp).1, (N p hp).2⟩
  exact codeAny_compStart_list (loop _ rfl) (W.self 0 _ _ _ ⟨itAt hst (old I), ⟨_, old _ _ (N _ hm).1, rfl, _, rfl⟩⟩ (loop _ rfl))

noncomputable def SrcG (prog : Program) (w : World) (A : Around) (h₀ : Heap) (L : Addr) (m : Str → Option Value) (env : Env) (elt : Expr) (x : Str) (scope : Scope) (cl : List (Str × Addr)) (Q : Value → Shared → Prop) (xv : Value) (s₁ : Shared) : Prop :=
  ∃ (ax : Addr) (vs : List Value) (c : Nat) (news : List (Addr × Obj)) (J : Nat → List Value → Array GenState → List (Addr × Obj) → Prop), xv = .ref ax ∧ A.handled = none ∧ Fr h₀ L s₁.heap m ∧ News h₀ L s₁.heap news ∧ (ax, listOf vs.toArray c) ∈ news ∧ vs.length ≤ sizeLine ∧
    (∀ i ys gs n, J i ys gs n → (ax, listOf vs.toArray c) ∈ n) ∧ J 0 [] s₁.gens news ∧
    (∀ i ys gs news₁ v I oI C oC D m₂ h tk (E' : Value → Shared → Prop), vs[i]? = some v → J i ys gs news₁ → NsObj oC m₂ → m₂ x = some v → Fr h₀ L h m → News h₀ L h ([(I, oI), (C, oC), (D, lst ys)] ++ news₁) →
      (∀ p ∈ news₁, ∀ q ∈ [(I, oI), (C, oC), (D, lst ys)], p.1 ≠ q.1) → (@Ne Nat I C ∧ @Ne Nat I D ∧ @Ne Nat C D) →
      wpAny (model prog w) A (eval elt (compEnvC scope cl C env)) (EndG h₀ L m { s₁ with heap := h, gens := gs, toks := tk } [(I, oI), (C, oC), (D, lst ys)] (fun y gs' news' => J (i + 1) (ys ++ [y]) gs' news')) E' { s₁ with heap := h, gens := gs, toks := tk }) ∧
    (∀ D h tk gs ys news', J vs.length ys gs news' → Fr h₀ L h m → News h₀ L h ((D, lst ys) :: news') → (∀ p ∈ news', p.1 ≠ D) → Q (.ref D) { s₁ with heap := h, gens := gs, toks := tk })
theorem SrcG.intro {elt : Expr} {x : Str} {scope : Scope} {cl : List (Str × Addr)} {Q : Value → Shared → Prop} {s₁ : Shared} {ax : Addr} {vs : List Value} {c : Nat} {news : List (Addr × Obj)} (J : Nat → List Value → Array GenState → List (Addr × Obj) → Prop) (hh : A.handled = none) (F : Fr h₀ L s₁.heap m) (N : News h₀ L s₁.heap news) (hm : (ax, listOf vs.toArray c) ∈ news) (hz : vs.length ≤ sizeLine)
    (hJm : ∀ i ys gs n, J i ys gs n → (ax, listOf vs.toArray c) ∈ n) (h0 : J 0 [] s₁.gens news)
    (turn : ∀ i ys gs news₁ v I oI C oC D m₂ h tk (E' : Value → Shared → Prop), vs[i]? = some v → J i ys gs news₁ → NsObj oC m₂ → m₂ x = some v → Fr h₀ L h m → News h₀ L h ([(I, oI), (C, oC), (D, lst ys)] ++ news₁) →
      (∀ p ∈ news₁, ∀ q ∈ [(I, oI), (C, oC), (D, lst ys)], p.1 ≠ q.1) → (@Ne Nat I C ∧ @Ne Nat I D ∧ @Ne Nat C D) →
      wpAny (model prog w) A (eval elt (compEnvC scope cl C env)) (EndG h₀ L m { s₁ with heap := h, gens := gs, toks := tk } [(I, oI), (C, oC), (D, lst ys)] (fun y gs' news' => J (i + 1) (ys ++ [y]) gs' news')) E' { s₁ with heap := h, gens := gs, toks := tk })
    (fin : ∀ D h tk gs ys news', J vs.length ys gs news' → Fr h₀ L h m → News h₀ L h ((D, lst ys) :: news') → (∀ p ∈ news', p.1 ≠ D) → Q (.ref D) { s₁ with heap := h, gens := gs, toks := tk }) :
    SrcG prog w A h₀ L m env elt x scope cl Q (.ref ax) s₁ := ⟨ax, vs, c, news, J, rfl, hh, F, N, hm, hz, hJm, h0, turn, fin⟩
theorem evalG {elt iter : Expr} {x : Str} {px : Pos} {scope : Scope} {cl : List (Str × Addr)} {pos : Pos} {Q : Value → Shared → Prop} (F₀ : Fr h₀ L s.heap m) (hclos : closureFor scope env = pure cl) (hcell : ∀ y ∈ scope.names, y.2 ≠ .cell) (hkind : scope.kind = .function)
    (hnames : ∀ y ∈ scope.names, y.2 = .local → scope.names.lookup y.1 = some .local) (hx : scope.names.lookup x = some .local)
    (h : wpAny (model prog w) A (eval iter env) (SrcG prog w A h₀ L m env elt x scope cl Q) E s) (hs : ∀ x, foldedSetIterable iter env x = pure x := by intro _; rfl) :
    wpAny (model prog w) A (eval (.ListComp elt [⟨.Name x px, iter, [], 0⟩] scope pos) env) Q E s := by
  rw [eval_ListComp]
  refine wpAny_comprehension_free (use := none) rfl hs hclos hkind hnames (wpAny_mono h (fun xv s₁ h₁ => ?_) fun _ _ e => e)
  obtain ⟨ax, vs, c, news, J, rfl, hh, F, N, hm, hz, hJm, h0, turn, fin⟩ := h₁
  have hl : s₁.heap.IsList ax vs.toArray := ⟨_, (N _ hm).1, rfl, _, rfl⟩
  have hlt : ax < s₁.heap.objs.size := Heap.lt_size (N _ hm).1
  refine wpAny_pyIter_list hl ?_
  have up : ∀ b o, s₁.heap.get? b = some o → (s₁.heap.push { cls := .type "list_iterator", data := .fields #[.ref ax, .int 0 0] }).get? b = some o := fun b o e => Heap.get?_push_of_some _ e
  refine blockG J hh hz hcell hkind hx ⟨_, Heap.get?_push_size _ rfl, rfl, rfl⟩ hm hJm (Nat.ne_of_lt hlt) (F.keeps up) (N.grown up) (Nat.ne_of_lt F.ns.lt) (next_is_new F) (fun p hp => Nat.ne_of_lt (Heap.lt_size (N p hp).1)) h0 (fun i ys gs news₁ v oI => turn i ys gs news₁ v _ oI) ?_
  intro D C h tk gs m' ys news' F' N' o1 hn hC₀ hD₀ hCL hDL hCD offC hJ
  refine ⟨m', hn, fun h'' hs'' => fin D h'' tk gs ys news' hJ (F'.change hs'' hCL hC₀) (fun p hp => ?_) o1⟩
  refine ⟨hs''.extBut _ _ ?_ (N' p hp).1, (N' p hp).2⟩
  rcases List.mem_cons.mp hp with rfl | hp
  · exact Ne.symm hCD
  · exact offC p hp
end
end
section
set_option maxRecDepth 100000
set_option maxHeartbeats 8000000
noncomputable def namesL (k : Nat) : List Str := [[Str.ofString "grant", Str.ofString "deny"], [Str.ofString "owner", Str.ofString "group", Str.ofString "public"], [Str.ofString "read", Str.ofString "write", Str.ofString "execute"]].getD k []
noncomputable def itsme : Str := Str.ofString "it's me"
noncomputable def wordsOf (n : Int) : List Str := missL n 3 ++ [itsme]
noncomputable def distL (n : Int) (k : Nat) : List (Int × Str) := (namesL k).map fun one => (levL (cl ((wordsOf n).getD k Str.empty)) (cl one) 100, one)
noncomputable def takenP (n : Int) (k : Nat) : Int × Str := (distL n k).getD (bestOf (distL n k)) (0, Str.empty)
noncomputable def bitOf (n : Int) : Int := (Int.fdiv 256 (8 ^ ((namesL 1).idxOf (takenP n 1).2))).fdiv (2 ^ ((namesL 2).idxOf (takenP n 2).2))
noncomputable def rightsOf (r n : Int) : Int := if (takenP n 0).2 = Str.ofString "grant" then Builtin.bitOr r (bitOf n) else Builtin.bitAnd r (Builtin.bitNot (bitOf n))
noncomputable def rightsAt (ns : List Int) : Nat → Int
  | 0 => 0
  | i + 1 => rightsOf (rightsAt ns i) (ns.getD i 0)
noncomputable def takenD (n : Int) (k : Nat) : List Dat := (List.range k).map fun j => Dat.tuple [.int (takenP n j).1, .str (takenP n j).2]
noncomputable def rowD (n : Int) : Dat := .tuple [.list (takenD n 3), .list [.str itsme]]
noncomputable def toldRows (ns : List Int) (i : Nat) : List Dat := (List.range i).map fun j => rowD (ns.getD j 0)
noncomputable def costOf (j : Int) : Int := [(0 : Int), 1, 2, 2, 2, 2].getD j.toNat 0
noncomputable def dueT (n : Int) (k : Nat) : List Dat := (List.range k).map fun j => Dat.tuple [.int (costOf (wayOf n j)), .str ((meant n).getD j Str.empty)]
noncomputable def dueR (n : Int) : Dat := .tuple [.list (dueT n 3), .list [.str (Str.ofString "it's me")]]
noncomputable def dueRows (ns : List Int) (i : Nat) : List Dat := (List.range i).map fun j => dueR (ns.getD j 0)
noncomputable def placeOf (n : Int) : Int := 3 * ((n.fdiv 2).fmod 3) + (n.fdiv 6).fmod 3
noncomputable def signOf (n : Int) : Str := if n.fmod 2 = 0 then Txt.item (Str.ofString "rwx") ((placeOf n).fmod 3) else Str.ofString "-"
noncomputable def signsAt (ns : List Int) : Nat → List Str
  | 0 => List.replicate 9 (Str.ofString "-")
  | i + 1 => (signsAt ns i).take (placeOf (ns.getD i 0)).toNat ++ [signOf (ns.getD i 0)] ++ (signsAt ns i).drop ((placeOf (ns.getD i 0)).toNat + 1)
noncomputable def dueD (ns : List Int) : List Dat := [.list (dueRows ns ns.length), .str (Str.ofString "-" ++ Txt.join (Str.ofString "") (signsAt ns ns.length))]
noncomputable def toldD (ns : List Int) : List Dat := [.list (toldRows ns ns.length), .str (sOf (fmChars (32768 + rightsAt ns ns.length)))]
end
section
set_option maxRecDepth 100000
set_option maxHeartbeats 4000000
noncomputable def istepG (f : Nat → Nat → Int) (c : Nat) (A : List Nat) (k : Nat) (s : Int × Int × Int × List Int) : Int × Int × Int × List Int :=
  let r := if s.1 + f c (A.getD k 0) < (if s.2.2.2.getD k 0 < s.2.1 then s.2.2.2.getD k 0 else s.2.1) + 2 then s.1 + f c (A.getD k 0) else (if s.2.2.2.getD k 0 < s.2.1 then s.2.2.2.getD k 0 else s.2.1) + 2
  (s.2.2.2.getD k 0, r, if r < s.2.2.1 then r else s.2.2.1, s.2.2.2.set k r)
noncomputable def itersG (f : Nat → Nat → Int) (c : Nat) (A : List Nat) : Nat → Int × Int × Int × List Int → Int × Int × Int × List Int
  | 0, s => s
  | n + 1, s => istepG f c A n (itersG f c A n s)
noncomputable def orunG (f : Nat → Nat → Int) (A B : List Nat) (mc : Int) : Nat → List Int → Option (List Int × Int)
  | 0, row => some (row, 0)
  | k + 1, row0 => match orunG f A B mc k row0 with
    | none => none
    | some (row, _) =>
      let t := itersG f (B.getD k 0) A A.length ((k : Int) * 2, (k : Int) * 2, 9223372036854775807, row)
      if t.2.2.1 > mc then none else some (t.2.2.2, t.2.1)
noncomputable def levDG (f : Nat → Nat → Int) (A B : List Nat) (mc : Int) : Int :=
  if 2 * ((B.length : Int) - A.length) > mc then mc + 1 else match orunG f A B mc B.length (row0 A.length) with
    | none => mc + 1
    | some (_, r) => r
noncomputable def levRG (f : Nat → Nat → Int) (A B : List Nat) (mc : Int) : Int :=
  if A = [] ∨ B = [] then 2 * ((A.length : Int) + B.length)
  else if B.length < A.length then levDG f B A mc else levDG f A B mc
noncomputable def levLG (f : Nat → Nat → Int) (x y : List Nat) (mc : Int) : Int :=
  if x = y then 0 else
  let A := x.drop (preLen x y)
  let B := y.drop (preLen x y)
  let q := preLen A.reverse B.reverse
  levRG f (A.take (A.length - q)) (B.take (B.length - q)) mc
theorem iters_G (c : Nat) (A : List Nat) : ∀ n s, iters c A n s = itersG scN c A n s
  | 0, _ => rfl
  | n + 1, s => by rw [iters, itersG, iters_G c A n s]; rfl
theorem orun_G (A B : List Nat) (mc : Int) : ∀ k row, orun A B mc k row = orunG scN A B mc k row
  | 0, _ => rfl
  | k + 1, row => by
    rw [orun, orunG, orun_G A B mc k row]
    cases orunG scN A B mc k row with
    | none => rfl
    | some p => simp only [iters_G]
theorem lev_G (x y : List Nat) (mc : Int) : levL x y mc = levLG scN x y mc := by
  simp only [levL, levLG, levS, levR, levRG, levD, levDG, orun_G]
  try rfl
noncomputable def lowQ (c : Nat) : Nat := if 65 ≤ c ∧ c ≤ 90 then c + 32 else c
noncomputable def scQ (c d : Nat) : Int := if c = d then 0 else if lowQ c = lowQ d then 1 else 2
noncomputable def scF (c d : Nat) : Int := if c < 128 ∧ d < 128 then scQ c d else scN c d
theorem low_fin : ∀ c, c < 128 → Txt.lower (sOf [c]) = sOf [lowQ c] := by decide +kernel
theorem scF_eq : scN = scF := by
  funext c d
  unfold scF
  split
  · rename_i h
    unfold scN scost scQ
    rw [low_fin c h.1, low_fin d h.2]
    by_cases e : c = d
    · rw [if_pos e, if_pos (by rw [e])]
    · rw [if_neg e, if_neg (fun q => e (List.cons.inj (sOf_inj q)).1)]
      by_cases g : lowQ c = lowQ d
      · rw [if_pos g, if_pos (by rw [g])]
      · rw [if_neg g, if_neg (fun q => g (List.cons.inj (sOf_inj q)).1)]
  · rfl
theorem lev_F (x y : List Nat) (mc : Int) : levL x y mc = levLG scF x y mc := by rw [lev_G, scF_eq]
noncomputable def nearOk (k : Nat) (x : Str) (p j : Int) : Bool :=
  let ds := (namesL k).map fun one => (levLG scF (cl (missp x p j)) (cl one) 100, one)
  let r := ds.getD (bestOf ds) (0, Str.empty)
  decide (r.1 = costOf j) && decide (r.2 = x)
theorem near_fin : ((List.range 3).all fun k => (namesL k).all fun x => (List.range 4).all fun (p : Nat) => (List.range 6).all fun (j : Nat) => nearOk k x (p : Int) (j : Int)) = true := by decide +kernel
theorem meant_in (n : Int) {k : Nat} (hk : k < 3) : (meant n).getD k Str.empty ∈ namesL k := by
  have h2 := fmod2 n
  have h3 := fmod3 (n.fdiv 2)
  have h6 := fmod3 (n.fdiv 6)
  match k, hk with
  | 0, _ => exact getD_mem (l := [Str.ofString "grant", Str.ofString "deny"]) (by show _ < 2; lia)
  | 1, _ => exact getD_mem (l := [Str.ofString "owner", Str.ofString "group", Str.ofString "public"]) (by show _ < 3; lia)
  | 2, _ => exact getD_mem (l := [Str.ofString "read", Str.ofString "write", Str.ofString "execute"]) (by show _ < 3; lia)
theorem near_at {k : Nat} (hk : k < 3) {x : Str} (hx : x ∈ namesL k) {p j : Int} (hp : 0 ≤ p ∧ p < 4) (hj : 0 ≤ j ∧ j < 6) : nearOk k x p j = true := by
  have h := List.all_eq_true.mp near_fin k (List.mem_range.mpr hk)
  have h := List.all_eq_true.mp h x hx
  have h := List.all_eq_true.mp h p.toNat (List.mem_range.mpr (by lia))
  have h := List.all_eq_true.mp h j.toNat (List.mem_range.mpr (by lia))
  rwa [show ((p.toNat : Nat) : Int) = p by lia, show ((j.toNat : Nat) : Int) = j by lia] at h
theorem word_get (n : Int) {k : Nat} (hk : k < 3) : (wordsOf n).getD k Str.empty = missp ((meant n).getD k Str.empty) ((n.fdiv 18).fmod 4) (wayOf n k) := by
  match k, hk with
  | 0, _ => rfl
  | 1, _ => rfl
  | 2, _ => rfl
theorem taken_eq (n : Int) {k : Nat} (hk : k < 3) : takenP n k = (costOf (wayOf n k), (meant n).getD k Str.empty) := by
  have h := near_at hk (meant_in n hk) (fmod4 (n.fdiv 18)) (fmod6 ([n, n.fdiv 7, n.fdiv 11].getD k 0))
  simp only [nearOk, Bool.and_eq_true, decide_eq_true_eq] at h
  unfold takenP distL
  rw [word_get n hk]
  simp only [lev_F]
  exact Prod.ext h.1 h.2
theorem rows_eq (n : Int) : rowD n = dueR n := by
  unfold rowD dueR
  have e : takenD n 3 = dueT n 3 := List.map_congr_left fun j hj => by
    rw [taken_eq n (List.mem_range.mp hj)]
  rw [e]; rfl
noncomputable def valB : List Int → Int
  | [] => 0
  | b :: r => b + 2 * valB r
noncomputable def Bits (l : List Int) : Prop := ∀ b ∈ l, 0 ≤ b ∧ b ≤ 1
theorem bits_tl {b : Int} {r : List Int} (h : Bits (b :: r)) : Bits r := fun c hc => h c (List.mem_cons_of_mem _ hc)
theorem val_nn : ∀ {l : List Int}, Bits l → 0 ≤ valB l ∧ valB l < 2 ^ l.length
  | [], _ => by simp [valB]
  | b :: r, h => by
    have ih := val_nn (bits_tl h)
    have hb := h b (List.mem_cons_self ..)
    rw [valB, List.length_cons, Int.pow_succ]
    lia
theorem val_bit : ∀ {l : List Int} (k : Nat), Bits l → k < l.length → valB l / 2 ^ k % 2 = l.getD k 0
  | [], _, _, h => by simp at h
  | b :: r, 0, h, _ => by
    have hb := h b (List.mem_cons_self ..)
    rw [valB]
    simp
    lia
  | b :: r, k + 1, h, hk => by
    have hb := h b (List.mem_cons_self ..)
    have ih := val_bit (l := r) k (bits_tl h) (by simpa using hk)
    rw [valB, show (2 : Int) ^ (k + 1) = 2 * 2 ^ k by rw [Int.pow_succ, Int.mul_comm], ← Int.ediv_ediv_of_nonneg (by decide), show (b + 2 * valB r) / 2 = valB r by lia, ih]
    rfl
theorem val_put (v : Int) : ∀ {l : List Int} (k : Nat), k < l.length → valB (l.set k v) = valB l + v * 2 ^ k - l.getD k 0 * 2 ^ k
  | [], _, h => by simp at h
  | b :: r, 0, _ => by
    show v + 2 * valB r = b + 2 * valB r + v * 2 ^ 0 - b * 2 ^ 0
    lia
  | b :: r, k + 1, h => by
    have ih := val_put v (l := r) k (by simpa using h)
    show b + 2 * valB (r.set k v) = b + 2 * valB r + v * 2 ^ (k + 1) - r.getD k 0 * 2 ^ (k + 1)
    rw [ih, Int.pow_succ, show r.getD k 0 * (2 ^ k * 2) = r.getD k 0 * 2 ^ k * 2 from (Int.mul_assoc ..).symm, show v * (2 ^ k * 2) = v * 2 ^ k * 2 from (Int.mul_assoc ..).symm]
    generalize r.getD k 0 * 2 ^ k = z
    generalize v * 2 ^ k = y
    lia
theorem or_put {l : List Int} (h : Bits l) {k : Nat} (hk : k < l.length) : Builtin.bitOr (valB l) ((2 : Int) ^ k) = valB (l.set k 1) := by
  rw [bitOr_and, kbt_bit, val_bit k h hk, val_put 1 k hk, Int.one_mul]
theorem and_put {l : List Int} (h : Bits l) {k : Nat} (hk : k < l.length) : Builtin.bitAnd (valB l) (Builtin.bitNot ((2 : Int) ^ k)) = valB (l.set k 0) := by
  rw [bitAnd_not, kbt_bit, val_bit k h hk, val_put 0 k hk, Int.zero_mul, Int.add_zero]
theorem bits_set {l : List Int} (h : Bits l) (k : Nat) {v : Int} (hv : 0 ≤ v ∧ v ≤ 1) : Bits (l.set k v) := by
  intro b hb
  rcases List.mem_or_eq_of_mem_set hb with hb | rfl
  · exact h b hb
  · exact hv
theorem place_at (n : Int) : 0 ≤ placeOf n ∧ placeOf n < 9 := by
  have h3 := fmod3 (n.fdiv 2)
  have h6 := fmod3 (n.fdiv 6)
  exact ⟨Int.add_nonneg (Int.mul_nonneg (by decide) h3.1) h6.1, Int.lt_of_le_of_lt (Int.add_le_add (Int.mul_le_mul_of_nonneg_left (Int.le_of_lt_add_one h3.2) (by decide)) (Int.le_of_lt_add_one h6.2)) (by decide : (3 : Int) * 2 + 2 < 9)⟩
theorem idx_at (n : Int) {k : Nat} (hk : k = 1 ∨ k = 2) : (namesL k).idxOf (takenP n k).2 = (([n.fdiv 2, n.fdiv 6].getD (k - 1) 0).fmod 3).toNat := by
  rcases hk with rfl | rfl
  · rw [taken_eq n (by decide)]
    have h3 := fmod3 (n.fdiv 2)
    show (namesL 1).idxOf ([Str.ofString "owner", Str.ofString "group", Str.ofString "public"].getD ((n.fdiv 2).fmod 3).toNat Str.empty) = ((n.fdiv 2).fmod 3).toNat
    generalize (n.fdiv 2).fmod 3 = z at h3
    have : z = 0 ∨ z = 1 ∨ z = 2 := by lia
    rcases this with rfl | rfl | rfl <;> decide +kernel
  · rw [taken_eq n (by decide)]
    have h3 := fmod3 (n.fdiv 6)
    show (namesL 2).idxOf ([Str.ofString "read", Str.ofString "write", Str.ofString "execute"].getD ((n.fdiv 6).fmod 3).toNat Str.empty) = ((n.fdiv 6).fmod 3).toNat
    generalize (n.fdiv 6).fmod 3 = z at h3
    have : z = 0 ∨ z = 1 ∨ z = 2 := by lia
    rcases this with rfl | rfl | rfl <;> decide +kernel
theorem bit_at (n : Int) : bitOf n = 2 ^ (8 - (placeOf n).toNat) := by
  unfold bitOf placeOf
  rw [idx_at n (.inl rfl), idx_at n (.inr rfl)]
  have h3 := fmod3 (n.fdiv 2)
  have h6 := fmod3 (n.fdiv 6)
  show (Int.fdiv 256 (8 ^ ((n.fdiv 2).fmod 3).toNat)).fdiv (2 ^ ((n.fdiv 6).fmod 3).toNat) = _
  generalize (n.fdiv 2).fmod 3 = y at h3
  generalize (n.fdiv 6).fmod 3 = z at h6
  have hy : y = 0 ∨ y = 1 ∨ y = 2 := by lia
  have hz : z = 0 ∨ z = 1 ∨ z = 2 := by lia
  rcases hy with rfl | rfl | rfl <;> rcases hz with rfl | rfl | rfl <;> decide
noncomputable def bitsW (ns : List Int) : Nat → List Int
  | 0 => List.replicate 9 0
  | i + 1 => (bitsW ns i).set (8 - (placeOf (ns.getD i 0)).toNat) (if (ns.getD i 0).fmod 2 = 0 then 1 else 0)
theorem bitsW_len (ns : List Int) : ∀ i, (bitsW ns i).length = 9
  | 0 => rfl
  | i + 1 => by rw [bitsW, List.length_set, bitsW_len ns i]
theorem bitsW_ok (ns : List Int) : ∀ i, Bits (bitsW ns i)
  | 0 => by intro b hb; rw [(List.mem_replicate.mp hb).2]; decide
  | i + 1 => bits_set (bitsW_ok ns i) _ (by split <;> decide)
theorem grant_at (n : Int) : ((takenP n 0).2 = Str.ofString "grant") ↔ n.fmod 2 = 0 := by
  rw [taken_eq n (by decide)]
  have h2 := fmod2 n
  show ([Str.ofString "grant", Str.ofString "deny"].getD (n.fmod 2).toNat Str.empty = Str.ofString "grant") ↔ _
  generalize n.fmod 2 = z at h2
  have : z = 0 ∨ z = 1 := by lia
  rcases this with rfl | rfl
  · exact ⟨fun _ => rfl, fun _ => rfl⟩
  · exact ⟨fun h => absurd h (by decide +kernel), fun h => absurd h (by decide)⟩
theorem rights_val (ns : List Int) : ∀ i, rightsAt ns i = valB (bitsW ns i)
  | 0 => rfl
  | i + 1 => by
    have hl := bitsW_len ns i
    have hk : 8 - (placeOf (ns.getD i 0)).toNat < (bitsW ns i).length := by rw [hl]; exact Nat.lt_succ_of_le (Nat.sub_le _ _)
    rw [rightsAt, bitsW, rights_val ns i, rightsOf, bit_at]
    by_cases h : (ns.getD i 0).fmod 2 = 0
    · rw [if_pos ((grant_at _).mpr h), if_pos h, or_put (bitsW_ok ns i) hk]
    · rw [if_neg (fun q => h ((grant_at _).mp q)), if_neg h, and_put (bitsW_ok ns i) hk]
noncomputable def sgC (b : List Int) : List Nat := (List.range 9).map fun p => if b.getD (8 - p) 0 = 1 then [114, 119, 120].getD (p % 3) 0 else 45
theorem sgC_len (b : List Int) : (sgC b).length = 9 := by rw [sgC, List.length_map, List.length_range]
theorem sgC_at (b : List Int) {i : Nat} (h : i < (sgC b).length) : (sgC b)[i] = if b.getD (8 - i) 0 = 1 then [114, 119, 120].getD (i % 3) 0 else 45 := by
  simp only [sgC, List.getElem_map, List.getElem_range]
theorem sg_step (b : List Int) (hb : b.length = 9) {p : Nat} (hp : p < 9) (v : Int) : (sgC b).take p ++ [if v = 1 then [114, 119, 120].getD (p % 3) 0 else 45] ++ (sgC b).drop (p + 1) = sgC (b.set (8 - p) v) := by
  have e : ∀ z, (sgC b).take p ++ [z] ++ (sgC b).drop (p + 1) = (sgC b).set p z := by
    intro z
    rw [List.set_eq_take_append_cons_drop, if_pos (by rw [sgC_len]; exact hp), List.append_assoc]
    rfl
  rw [e]
  refine List.ext_getElem (by rw [List.length_set, sgC_len, sgC_len]) fun i h1 h2 => ?_
  have hi : i < 9 := by rw [sgC_len] at h2; exact h2
  have g : (b.set (8 - p) v).getD (8 - i) 0 = if p = i then v else b.getD (8 - i) 0 := by
    rw [List.getD_eq_getElem?_getD, List.getElem?_set]
    by_cases h : p = i
    · subst h
      rw [if_pos rfl, if_pos rfl, if_pos (by rw [hb]; exact Nat.lt_succ_of_le (Nat.sub_le _ _))]
      rfl
    · rw [if_neg h, if_neg (fun q => h ((Nat.sub_sub_self (Nat.le_of_lt_succ hp)).symm.trans ((congrArg (8 - ·) q).trans (Nat.sub_sub_self (Nat.le_of_lt_succ hi))))), ← List.getD_eq_getElem?_getD]
  rw [List.getElem_set, sgC_at, sgC_at, g]
  by_cases h : p = i
  · subst h
    rw [if_pos rfl, if_pos rfl]
  · rw [if_neg h, if_neg h]
theorem sign_at (n : Int) : signOf n = sOf [if (if n.fmod 2 = 0 then (1 : Int) else 0) = 1 then [114, 119, 120].getD ((placeOf n).toNat % 3) 0 else 45] := by
  have h := place_at n
  unfold signOf
  by_cases h2 : n.fmod 2 = 0
  · rw [if_pos h2, if_pos h2]
    simp only [if_true]
    generalize placeOf n = z at h
    have : z = 0 ∨ z = 1 ∨ z = 2 ∨ z = 3 ∨ z = 4 ∨ z = 5 ∨ z = 6 ∨ z = 7 ∨ z = 8 := by lia
    rcases this with rfl | rfl | rfl | rfl | rfl | rfl | rfl | rfl | rfl <;> decide +kernel
  · rw [if_neg h2, if_neg h2, if_neg (by decide : ¬ ((0 : Int) = 1))]
    decide +kernel
theorem signs_val (ns : List Int) : ∀ i, signsAt ns i = (sgC (bitsW ns i)).map fun c => sOf [c]
  | 0 => by
    show List.replicate 9 (Str.ofString "-") = (sgC (List.replicate 9 0)).map _
    decide +kernel
  | i + 1 => by
    have hp := place_at (ns.getD i 0)
    rw [signsAt, bitsW, signs_val ns i, sign_at, ← sg_step _ (bitsW_len ns i) ((Int.toNat_lt hp.1).mpr hp.2), List.map_append, List.map_append, List.map_take, List.map_drop]
    rfl
theorem fm_tab : ((List.range 512).all fun (r : Nat) => fmChars (32768 + (r : Int)) == 45 :: (List.range 9).map fun p => if ((r : Int) / 2 ^ (8 - p) % 2 : Int) = 1 then [114, 119, 120].getD (p % 3) 0 else 45) = true := by decide +kernel
theorem fm_bits {b : List Int} (hl : b.length = 9) (h : Bits b) : fmChars (32768 + valB b) = 45 :: sgC b := by
  have hv := val_nn h
  rw [hl] at hv
  have hv2 : valB b < 512 := hv.2
  have t := List.all_eq_true.mp fm_tab (valB b).toNat (List.mem_range.mpr (by lia))
  rw [show (((valB b).toNat : Nat) : Int) = valB b by lia] at t
  rw [eq_of_beq t]
  congr 1
  refine List.map_congr_left fun p hp => ?_
  rw [val_bit (8 - p) h (by rw [hl]; exact Nat.lt_succ_of_le (Nat.sub_le _ _))]
theorem join_sgC (b : List Int) : Txt.join (Str.ofString "") ((sgC b).map fun c => sOf [c]) = sOf (sgC b) := by
  have q := join_signs (sgC b) (n := 9) (sgC_len b)
  rw [List.take_of_length_le (by rw [sgC_len]; exact Nat.le_refl _)] at q
  exact q
theorem fm_str (ns : List Int) (i : Nat) : sOf (fmChars (32768 + rightsAt ns i)) = Str.ofString "-" ++ Txt.join (Str.ofString "") (signsAt ns i) := by
  rw [rights_val, fm_bits (bitsW_len ns i) (bitsW_ok ns i), signs_val, join_sgC]
  have e : Str.ofString "-" = sOf [45] := by decide +kernel
  rw [e]
  show sOf (45 :: _) = ⟨(sOf [45]).cps ++ (sOf _).cps⟩
  simp [sOf]
theorem told_due (ns : List Int) : toldD ns = dueD ns := by
  unfold toldD dueD toldRows dueRows
  rw [fm_str, List.map_congr_left fun j _ => rows_eq (ns.getD j 0)]
theorem word_ok : ∀ x ∈ wordsAll, PyData.strOk x = true := by decide +kernel
theorem meant_ok (n : Int) {k : Nat} (hk : k < 3) : PyData.strOk ((meant n).getD k Str.empty) = true := word_ok _ (meant_mem n _ (getD_mem (l := meant n) (i := k) hk))
theorem sgC_ok (b : List Int) : ∀ c ∈ sgC b, c < 0x110000 := by
  intro c hc
  obtain ⟨p, _, rfl⟩ := List.mem_map.mp hc
  split
  · have : p % 3 = 0 ∨ p % 3 = 1 ∨ p % 3 = 2 := by lia
    rcases this with e | e | e <;> rw [e] <;> decide
  · decide
theorem due_ok (ns : List Int) : ∀ d ∈ dueD ns, kqdOk 8 d = true := by
  intro d hd
  simp only [dueD, List.mem_cons, List.not_mem_nil, or_false] at hd
  rcases hd with rfl | rfl
  · simp only [kqdOk, List.all_eq_true, dueRows, List.mem_map]
    rintro _ ⟨j, _, rfl⟩
    simp only [dueR, kqdOk, List.all_cons, List.all_nil, Bool.and_true, Bool.and_eq_true, List.all_eq_true, dueT, List.mem_map]
    refine ⟨?_, by decide +kernel⟩
    rintro _ ⟨k, hk, rfl⟩
    simp only [kqdOk, List.all_cons, List.all_nil, Bool.and_true, Bool.and_eq_true]
    exact ⟨trivial, meant_ok _ (List.mem_range.mp hk)⟩
  · have e := fm_str ns ns.length
    rw [← e, rights_val, fm_bits (bitsW_len ns _) (bitsW_ok ns _)]
    simp only [kqdOk]
    unfold PyData.strOk
    show (45 :: sgC _).toArray.all _ = true
    rw [List.all_toArray, List.all_eq_true]
    intro c hc
    rcases List.mem_cons.mp hc with rfl | hc
    · decide
    · exact decide_eq_true (sgC_ok _ c hc)
end
section
set_option maxRecDepth 100000
set_option maxHeartbeats 8000000
noncomputable abbrev DRet (h₀ : Heap) (L : Addr) (m : Str → Option Value) (news : List (Addr × Obj)) (s : Shared) (Q : Value → Shared → Prop) (ds : List Dat) : Prop :=
  ∀ (D : Addr) (us : List Value) (c : Nat) (rest' : List (Addr × Obj)) (h' : Heap) (tk' : Nat), DatAll rest' us ds → Fr h₀ L h' m → News h₀ L h' ((D, listOf us.toArray c) :: rest') → (∀ p ∈ news, p ∈ rest') → Q (.ref D) { s with heap := h', toks := tk' }
theorem off1_allD {D : Addr} : ∀ {l : List (Addr × Obj)}, LCg.Off1 D l → ∀ p ∈ l, p.1 ≠ D
  | [], _, p, hp => by cases hp
  | q :: r, h, p, hp => by
    rcases List.mem_cons.mp hp with rfl | hp
    · exact h.1
    · exact off1_allD h.2 p hp
theorem int_atD {prog : Program} {w : World} {A : Around} {E Q : Value → Shared → Prop} {s : Shared} {value slice : Expr} {l : Addr} {vs : List Value} {ns : List Int} {k : Int} {u : Tok} (hl : s.heap.IsList l vs.toArray) (hv : IntsAre vs ns) (h0 : 0 ≤ k) (h1 : k.toNat < ns.length ∧ k < 100)
    (h : ∀ t, Q (.int (ns.getD k.toNat 0) t) s) (hs : subscripted slice false (.ref l) (.int k u) = operate [.ref l, .int k u] (getItem (.ref l) (.int k u))) :
    wpAny (model prog w) A (subscriptTail value slice (.ref l) (.int k u)) Q E s := by
  obtain ⟨t, e⟩ : ∃ t, vs[k.toNat]? = some (.int (ns.getD k.toNat 0) t) := by
    have : ∀ {vs : List Value} {ns : List Int} {i : Nat}, IntsAre vs ns → i < ns.length → ∃ t, vs[i]? = some (.int (ns.getD i 0) t) := by
      intro vs ns i hv
      induction hv generalizing i with
      | nil => intro h; simp at h
      | cons n t _ ih =>
        intro h
        cases i with
        | zero => exact ⟨t, rfl⟩
        | succ i => exact ih (by simpa using h)
    exact this hv h1.1
  exact tail_any hl.typeIs slot_list_getitem.lookup (wpAny_getItem_list hl h0 (by lia) (by simpa using e) (h t)) hs
theorem ints_getD : ∀ {vs : List Value} {ns : List Int} {i : Nat} {v : Value}, IntsAre vs ns → vs[i]? = some v → ∃ n t, v = .int n t ∧ ns[i]? = some n
  | _, _, 0, _, .cons n t _, h => ⟨n, t, (Option.some.inj h).symm, rfl⟩
  | _, _, i + 1, _, .cons _ _ h', h => ints_getD (i := i) h' h
noncomputable def waysL (n : Int) (k : Nat) : List Int := (List.range k).map (wayOf n)
theorem ways_snoc {n : Int} {k : Nat} {t : Tok} {ys : List Value} (h : IntsAre ys (waysL n k)) : IntsAre (ys ++ [.int (wayOf n k) t]) (waysL n (k + 1)) := by
  unfold waysL
  rw [List.range_succ, List.map_append]
  exact h.append (.cons _ t .nil)
theorem ways_get (n : Int) {k : Nat} (hk : k < 3) : (waysL n 3).getD (0 + (k : Int)).toNat 0 = wayOf n k := by
  rw [show (0 + (k : Int)).toNat = k by lia]
  match k, hk with
  | 0, _ => rfl
  | 1, _ => rfl
  | 2, _ => rfl
noncomputable def DuJ (L' l : Addr) (ns : List Int) (own : List (Addr × Obj)) (i : Nat) (m' : Str → Option Value) (led : List (Addr × Obj)) : Prop :=
  ∃ u oN oW wN wW S ss cS D ds cD rest, m' = kstB u [(Str.ofString "due", .ref D), (Str.ofString "signs", .ref S), (Str.ofString "steps", .ref l)] ∧ led = (L' + 1, oN) :: (L' + 1 + 1, oW) :: (S, listOf (List.toArray ss) cS) :: (D, listOf (List.toArray ds) cD) :: rest ∧
    oN.data = .cell wN ∧ oW.data = .cell wW ∧ StrsAre ss (signsAt ns i) ∧ DatAll rest ds (dueRows ns i) ∧ (∀ p ∈ own, p ∈ rest) ∧ (∀ p ∈ rest, p.1 ≠ L' + 1) ∧ (∀ p ∈ rest, p.1 ≠ L' + 1 + 1) ∧ (∀ p ∈ rest, p.1 ≠ S) ∧ (∀ p ∈ rest, p.1 ≠ D) ∧
    (@Ne Nat (L' + 1) S) ∧ (@Ne Nat (L' + 1 + 1) S) ∧ (@Ne Nat (L' + 1) D) ∧ (@Ne Nat (L' + 1 + 1) D) ∧ (@Ne Nat S D)
theorem du_start {g h : Heap} {Lf L' l S D X : Addr} {cS cD : Nat} {oN oW oX : Obj} {wN wW : Option Value} {ss : List Value} {own : List (Addr × Obj)} {ns : List Int}
    (N : News g Lf h ((D, listOf (List.toArray []) cD) :: (S, listOf ss.toArray cS) :: (X, oX) :: (L' + 1 + 1, oW) :: (L' + 1, oN) :: own)) (hS : StrsAre ss (signsAt ns 0)) (dN : oN.data = .cell wN) (dW : oW.data = .cell wW)
    {Z : Prop} (ltS : Z ∧ @LT.lt Nat _ (L' + 1 + 1) S ∧ @LT.lt Nat _ (L' + 1) S ∧ AllLt S own) {Z1 : Prop} (ltD : @LT.lt Nat _ S D ∧ Z1 ∧ @LT.lt Nat _ (L' + 1 + 1) D ∧ @LT.lt Nat _ (L' + 1) D ∧ AllLt D own) (hl : AllLt L' own) :
    ∃ led, News g Lf h led ∧ (∀ p ∈ own, p ∈ led) ∧ ∀ u : Str → Option Value, DuJ L' l ns own 0 (kstB u [(Str.ofString "due", .ref D), (Str.ofString "signs", .ref S), (Str.ofString "steps", .ref l)]) led := by
  refine ⟨(L' + 1, oN) :: (L' + 1 + 1, oW) :: (S, listOf ss.toArray cS) :: (D, listOf (List.toArray []) cD) :: own, ?_, fun p hp => by repeat (first | exact hp | refine .tail _ ?_), fun u => ⟨u, oN, oW, wN, wW, S, ss, cS, D, [], cD, own, rfl, rfl, dN, dW, hS, .nil, fun p hp => hp, ?_, ?_, ne_all ltS.2.2.2, ne_all ltD.2.2.2.2, Nat.ne_of_lt ltS.2.2.1, Nat.ne_of_lt ltS.2.1, Nat.ne_of_lt ltD.2.2.2.1, Nat.ne_of_lt ltD.2.2.1, Nat.ne_of_lt ltD.1⟩⟩
  · exact cb_drop N (by (repeat (refine sub_cons ?_ ?_; focus (repeat (first | exact .head _ | refine .tail _ ?_)))); (repeat (first | exact fun _ hp => hp | refine sub_drop ?_)))
  · exact fun p hp e => by have := lt_all hl p hp; rw [e] at this; exact absurd this (Nat.not_lt_of_le (Nat.le_add_right L' 1))
  · exact fun p hp e => by have := lt_all hl p hp; rw [e] at this; exact absurd this (Nat.not_lt_of_le (Nat.le_add_right L' 2))
noncomputable def ApartD (fx : List Addr) (rest : List (Addr × Obj)) : Prop := ∀ p ∈ rest, ∀ a ∈ fx, p.1 ≠ a
theorem du_apart {a b c d e f : Addr} {r : List (Addr × Obj)} (h1 : ∀ p ∈ r, p.1 ≠ a) (h2 : ∀ p ∈ r, p.1 ≠ b) (h3 : ∀ p ∈ r, p.1 ≠ c) (h4 : ∀ p ∈ r, p.1 ≠ d) (h5 : ∀ p ∈ r, p.1 ≠ e) (h6 : ∀ p ∈ r, p.1 ≠ f) : ApartD [a, b, c, d, e, f] r := by
  exact fun p hp => al_cons (h1 p hp) (al_cons (h2 p hp) (al_cons (h3 p hp) (al_cons (h4 p hp) (al_cons (h5 p hp) (al_cons (h6 p hp) al_nil)))))
theorem du_sub {T Z X I C D a b c d e f : Addr × Obj} {r : List (Addr × Obj)} : ∀ p ∈ I :: C :: D :: a :: b :: c :: d :: e :: f :: T :: r, p ∈ T :: Z :: X :: I :: C :: D :: a :: b :: c :: d :: e :: f :: r := by
  (repeat (refine sub_cons ?_ ?_; focus (repeat (first | exact .head _ | refine .tail _ ?_)))); (repeat (first | exact fun _ hp => hp | refine sub_drop ?_))
theorem du_off {I C D T : Addr} {oT : Obj} {a b c d e f : Addr × Obj} {r : List (Addr × Obj)} {Z1 Z2 P : Prop} (lt : Z1 ∧ Z2 ∧ @LT.lt Nat _ I T ∧ @LT.lt Nat _ C T ∧ @LT.lt Nat _ D T ∧ P) (o : LCg.Off3 I C D (a :: b :: c :: d :: e :: f :: r)) : LCg.Off3 I C D (a :: b :: c :: d :: e :: f :: (T, oT) :: r) :=
  ⟨o.1, o.2.1, o.2.2.1, o.2.2.2.1, o.2.2.2.2.1, o.2.2.2.2.2.1, ⟨(Nat.ne_of_lt lt.2.2.1).symm, (Nat.ne_of_lt lt.2.2.2.1).symm, (Nat.ne_of_lt lt.2.2.2.2.1).symm⟩, o.2.2.2.2.2.2⟩
theorem du_apart1 {T a b c d e f : Addr} {oT : Obj} {r : List (Addr × Obj)} {Z1 Z2 Z3 Z4 Z5 P : Prop} (lt : Z1 ∧ Z2 ∧ Z3 ∧ Z4 ∧ Z5 ∧ @LT.lt Nat _ a T ∧ @LT.lt Nat _ b T ∧ @LT.lt Nat _ c T ∧ @LT.lt Nat _ d T ∧ @LT.lt Nat _ e T ∧ @LT.lt Nat _ f T ∧ P)
    (x : ApartD [a, b, c, d, e, f] r) : ApartD [a, b, c, d, e, f] ((T, oT) :: r) := by
  intro p hp
  refine (List.mem_cons.mp hp).elim (fun q => ?_) (x p)
  obtain ⟨_, _, _, _, _, k1, k2, k3, k4, k5, k6, _⟩ := lt
  rw [q]
  exact al_cons (Nat.ne_of_gt k1) (al_cons (Nat.ne_of_gt k2) (al_cons (Nat.ne_of_gt k3) (al_cons (Nat.ne_of_gt k4) (al_cons (Nat.ne_of_gt k5) (al_cons (Nat.ne_of_gt k6) al_nil)))))
theorem dueT_snoc {n : Int} {k : Nat} {led : List (Addr × Obj)} {zs : List Value} {T : Addr} {t u : Tok} {n1 : Nat} (h : DatAll led zs (dueT n k)) :
    DatAll ((T, ({ cls := .type "tuple", data := .seq #[.int (costOf (wayOf n k)) t, .str ((meant n).getD k Str.empty) u] n1 } : Obj)) :: led) (zs ++ [.ref T]) (dueT n (k + 1)) := by
  have e : dueT n (k + 1) = dueT n k ++ [Dat.tuple [.int (costOf (wayOf n k)), .str ((meant n).getD k Str.empty)]] := by
    unfold dueT
    rw [List.range_succ, List.map_append]; rfl
  rw [e]
  exact (h.mono fun p hp => List.mem_cons_of_mem _ hp).append (DatAll.one (.tuple (vs := [_, _]) (.head _) (.cons (.int _ _) (.cons (.str _ _) .nil))))
theorem ds_fit {led : List (Addr × Obj)} {ts : List Value} {ns : List Int} {i : Nat} (h : DatAll led ts (dueRows ns i)) (hi : i < ns.length) (hn : ns.length ≤ 20) : ts.toArray.size ≤ sizeLine := by
  rw [List.size_toArray, h.length, dueRows, List.length_map, List.length_range]
  exact Nat.le_trans (by lia : i ≤ 20) (by decide)
theorem place_atD (n : Int) : 0 ≤ 3 * ((n.fdiv 2).fmod 3) + (n.fdiv 6).fmod 3 ∧ 3 * ((n.fdiv 2).fmod 3) + (n.fdiv 6).fmod 3 < 9 := by
  exact place_at n
theorem pick_up (l : List Value) {p : Int} (h : 0 ≤ p) : kms_pick l.toArray.toList none (some p) = l.take p.toNat := by
  show (l.drop 0).take (kms_hi (some p) l.length - 0) = _
  rw [List.drop_zero, Nat.sub_zero]
  show l.take (if p < 0 then _ else _) = _
  rw [if_neg (by lia), kmk_take_min]
theorem pick_from (l : List Value) {p : Int} (h : 0 ≤ p) : kms_pick l.toArray.toList (some p) none = l.drop p.toNat := by
  show (l.drop (if p < 0 then _ else _)).take (l.length - (if p < 0 then _ else _)) = _
  rw [if_neg (by lia), kmk_drop_min, List.take_of_length_le (by rw [List.length_drop]; exact Nat.sub_le_sub_left (Nat.min_le_left _ _) _)]
theorem signs_len (ns : List Int) (i : Nat) : (signsAt ns i).length = 9 := by
  rw [signs_val, List.length_map, sgC_len]
theorem add_fit1 {ss : List Value} {x : Value} {k : Nat} (h : ss.length = 9) : (List.toArray (ss.take k)).toList.length + (#[x] : Array Value).toList.length ≤ sizeLine := by
  show (ss.take k).length + 1 ≤ sizeLine
  rw [List.length_take]
  exact Nat.le_trans (h ▸ Nat.add_le_add (Nat.min_le_right _ _) (Nat.le_refl 1) : min k ss.length + 1 ≤ 9 + 1) (by decide)
theorem add_fit2 {ss : List Value} {x : Value} {j k : Nat} (h : ss.length = 9) : (List.toArray ((List.toArray (ss.take k)).toList ++ (#[x] : Array Value).toList)).toList.length + (List.toArray (ss.drop j)).toList.length ≤ sizeLine := by
  show (ss.take k ++ [x]).length + (ss.drop j).length ≤ sizeLine
  rw [List.length_append, List.length_take, List.length_drop]
  exact Nat.le_trans (h ▸ Nat.add_le_add (Nat.add_le_add (Nat.min_le_right _ _) (Nat.le_refl 1)) (Nat.sub_le _ _) : min k ss.length + 1 + (ss.length - j) ≤ 9 + 1 + 9) (by decide)
theorem du_signs {ss : List Value} {ns : List Int} {i : Nat} {n : Int} {x : Str} {t : Tok} (h : StrsAre ss (signsAt ns i)) (hn : ns[i]? = some n) (hx : x = signOf n) :
    StrsAre ((List.toArray ((List.toArray (ss.take (3 * ((n.fdiv 2).fmod 3) + (n.fdiv 6).fmod 3).toNat)).toList ++ (#[Value.str x t] : Array Value).toList)).toList ++ (List.toArray (ss.drop (3 * ((n.fdiv 2).fmod 3) + (n.fdiv 6).fmod 3 + 1).toNat)).toList) (signsAt ns (i + 1)) := by
  have hp := place_atD n
  have e : signsAt ns (i + 1) = (signsAt ns i).take (3 * ((n.fdiv 2).fmod 3) + (n.fdiv 6).fmod 3).toNat ++ [x] ++ (signsAt ns i).drop (3 * ((n.fdiv 2).fmod 3) + (n.fdiv 6).fmod 3 + 1).toNat := by
    rw [signsAt, List.getD_eq_getElem?_getD, hn, hx, up_nat hp.1]
    rfl
  rw [e]
  exact ((h.take' _).append' (.cons _ _ .nil)).append' (h.drop' _)
theorem cutE {prog : Program} {w : World} {A : Around} {E Q : Value → Shared → Prop} {s : Shared} {env : Env} {h₀ : Heap} {L : Addr} {m : Str → Option Value} {led : List (Addr × Obj)} {ex : Expr} {σ : Type} (v : σ → Value) (_ : Fr h₀ L s.heap m) (_ : News h₀ L s.heap led)
    (h1 : ∀ Q' : Value → Shared → Prop, (∀ (c : σ) h tk, Fr h₀ L h m → News h₀ L h led → Q' (v c) { s with heap := h, toks := tk }) → wpAny (model prog w) A (eval ex env) Q' E s)
    (h2 : ∀ (c : σ) h tk, Fr h₀ L h m → News h₀ L h led → Q (v c) { s with heap := h, toks := tk }) : wpAny (model prog w) A (eval ex env) Q E s := h1 Q h2
theorem du_turn {g h : Heap} {Lf L' l S4 S3 S2 X S1 P M D3 W I S D : Addr} {c4 nP cM cD i : Nat} {n : Int} {us zs ds : List Value} {tM : Tok} {o3 o2 oX o1 oWW oI oN oW oS : Obj} {wN wW : Option Value} {rest rest' own : List (Addr × Obj)} {ns : List Int}
    (N : News g Lf h ((S4, listOf us.toArray c4) :: (S3, o3) :: (S2, o2) :: (X, oX) :: (S1, o1) :: (P, { cls := .type "tuple", data := .seq #[.ref D3, .ref M] nP }) :: (M, listOf (List.toArray [.str (Str.ofString "it's me") tM]) cM) :: (D3, LCg.lst zs) :: (W, oWW) :: (I, oI) :: (L' + 1, oN) :: (L' + 1 + 1, oW) :: (S, oS) :: (D, listOf (ds.toArray.push (.ref P)) cD) :: rest'))
    (hn : ns[i]? = some n) (hS : StrsAre us (signsAt ns (i + 1))) (dN : oN.data = .cell wN) (dW : oW.data = .cell wW) (hds : DatAll rest ds (dueRows ns i)) (hzs : DatAll rest' zs (dueT n 3)) (hown : ∀ p ∈ own, p ∈ rest) (hsub : ∀ p ∈ rest, p ∈ rest') (hap : ApartD [W, I, L' + 1, L' + 1 + 1, S, D] rest')
    (nD1 : @Ne Nat (L' + 1) D) (nD2 : @Ne Nat (L' + 1 + 1) D) (i1 : @Ne Nat (L' + 1) I) (i2 : @Ne Nat (L' + 1 + 1) I) (i4 : @Ne Nat D I) (q2 : @Ne Nat I D3) (q3 : @Ne Nat (L' + 1) D3) (q4 : @Ne Nat (L' + 1 + 1) D3) (q6 : @Ne Nat D D3)
    {Z1 : Prop} (ltM : @LT.lt Nat _ D3 M ∧ @LT.lt Nat _ W M ∧ @LT.lt Nat _ I M ∧ @LT.lt Nat _ (L' + 1) M ∧ @LT.lt Nat _ (L' + 1 + 1) M ∧ @LT.lt Nat _ S M ∧ @LT.lt Nat _ D M ∧ Z1)
    {Z2 Z3 Z4 Z7 : Prop} (ltP : Z2 ∧ Z3 ∧ Z4 ∧ @LT.lt Nat _ I P ∧ @LT.lt Nat _ (L' + 1) P ∧ @LT.lt Nat _ (L' + 1 + 1) P ∧ @LT.lt Nat _ S P ∧ @LT.lt Nat _ D P ∧ Z7)
    {Y1 Y2 Y3 Y4 Y5 Y6 : Prop} (lt4 : Y1 ∧ Y2 ∧ Y3 ∧ Y4 ∧ @LT.lt Nat _ P S4 ∧ @LT.lt Nat _ M S4 ∧ @LT.lt Nat _ D3 S4 ∧ Y5 ∧ @LT.lt Nat _ I S4 ∧ @LT.lt Nat _ (L' + 1) S4 ∧ @LT.lt Nat _ (L' + 1 + 1) S4 ∧ Y6 ∧ @LT.lt Nat _ D S4 ∧ AllLt S4 rest') :
    ∃ led, News g Lf h ((I, oI) :: led) ∧ (∀ p ∈ led, p.1 ≠ I) ∧ ∀ u : Str → Option Value, DuJ L' l ns own (i + 1) (kstB u [(Str.ofString "due", .ref D), (Str.ofString "signs", .ref S4), (Str.ofString "steps", .ref l)]) led := by
  have eD : dueRows ns (i + 1) = dueRows ns i ++ [dueR n] := by
    unfold dueRows
    rw [List.range_succ, List.map_append, show List.map (fun j => dueR (ns.getD j 0)) [i] = [dueR (ns.getD i 0)] from rfl, List.getD_eq_getElem?_getD, hn]; rfl
  have ms : ∀ p ∈ rest', p ∈ (P, ({ cls := .type "tuple", data := .seq #[.ref D3, .ref M] nP } : Obj)) :: (M, listOf (List.toArray [.str (Str.ofString "it's me") tM]) cM) :: (D3, LCg.lst zs) :: rest' := fun p hp => by repeat (first | exact hp | refine .tail _ ?_)
  have dat : DatAll ((P, ({ cls := .type "tuple", data := .seq #[.ref D3, .ref M] nP } : Obj)) :: (M, listOf (List.toArray [.str (Str.ofString "it's me") tM]) cM) :: (D3, LCg.lst zs) :: rest') (ds ++ [.ref P]) (dueRows ns (i + 1)) := by
    rw [eD]
    exact (hds.mono fun p hp => ms p (hsub p hp)).append (DatAll.one (.tuple (vs := [_, _]) (.head _) (.cons (.list (.tail _ (.tail _ (.head _))) (hzs.mono ms)) (.cons (.list (vs := [_]) (.tail _ (.head _)) (.cons (.str _ _) .nil)) .nil))))
  have key : ∀ a : Addr, @Ne Nat P a → @Ne Nat M a → @Ne Nat D3 a → (∀ p ∈ rest', p.1 ≠ a) → ∀ p ∈ (P, ({ cls := .type "tuple", data := .seq #[.ref D3, .ref M] nP } : Obj)) :: (M, listOf (List.toArray [.str (Str.ofString "it's me") tM]) cM) :: (D3, LCg.lst zs) :: rest', p.1 ≠ a := by
    exact fun a k1 k2 k3 k5 => ne_cons k1 (ne_cons k2 (ne_cons k3 k5))
  obtain ⟨m3, _, mI, m1, m2, _, mD, _⟩ := ltM
  obtain ⟨_, _, _, pI, p1, p2, _, pD, _⟩ := ltP
  obtain ⟨_, _, _, _, sP, sM, s3, _, sI, s1, s2, _, sD, sR⟩ := lt4
  have r1 := key (L' + 1) (Nat.ne_of_gt p1) (Nat.ne_of_gt m1) q3.symm fun p hp => hap p hp _ (by repeat (first | exact .head _ | refine .tail _ ?_))
  have r2 := key (L' + 1 + 1) (Nat.ne_of_gt p2) (Nat.ne_of_gt m2) q4.symm fun p hp => hap p hp _ (by repeat (first | exact .head _ | refine .tail _ ?_))
  have rD := key D (Nat.ne_of_gt pD) (Nat.ne_of_gt mD) q6.symm fun p hp => hap p hp _ (by repeat (first | exact .head _ | refine .tail _ ?_))
  have rI := key I (Nat.ne_of_gt pI) (Nat.ne_of_gt mI) q2.symm fun p hp => hap p hp _ (by repeat (first | exact .head _ | refine .tail _ ?_))
  have rS := key S4 (Nat.ne_of_lt sP) (Nat.ne_of_lt sM) (Nat.ne_of_lt s3) (ne_all sR)
  refine ⟨(L' + 1, oN) :: (L' + 1 + 1, oW) :: (S4, listOf us.toArray c4) :: (D, listOf (List.toArray (ds ++ [.ref P])) cD) :: _, ?_, ?_, fun u => ⟨u, oN, oW, wN, wW, S4, us, c4, D, _, cD, _, rfl, rfl, dN, dW, hS, dat, fun p hp => ms p (hsub p (hown p hp)), r1, r2, rS, rD, Nat.ne_of_lt s1, Nat.ne_of_lt s2, nD1, nD2, Nat.ne_of_gt sD⟩⟩
  · rw [List.push_toArray] at N
    exact cb_drop N (by (repeat (refine sub_cons ?_ ?_; focus (repeat (first | exact .head _ | refine .tail _ ?_)))); (repeat (first | exact fun _ hp => hp | refine sub_drop ?_)))
  · exact ne_cons (i1) (ne_cons (i2) (ne_cons (Nat.ne_of_gt sI) (ne_cons (i4) (rI))))
theorem join_len (ns : List Int) (i : Nat) : (Txt.join (Str.ofString "") (signsAt ns i)).length = 9 := by
  rw [signs_val, join_sgC, len_sOf, sgC_len]
theorem signs_sum (ns : List Int) (i : Nat) : ((signsAt ns i).map (·.length)).sum = 9 := by
  rw [signs_val, List.map_map]
  have h : ∀ l : List Nat, (l.map ((fun x : Str => x.length) ∘ fun c => sOf [c])).sum = l.length := by
    intro l
    induction l with
    | nil => rfl
    | cons a r ih =>
      rw [List.map_cons, List.sum_cons, ih, List.length_cons]
      show (sOf [a]).length + _ = _
      rw [len_sOf, Nat.add_comm]; rfl
  rw [h, sgC_len]
theorem due_c (w : World) (mean : ExcName → Option Value) (mg mb : Str → Option Value) (l : Addr) (vs : List Value) (ns : List Int) (c : Nat) (news : List (Addr × Obj)) (dp un : Nat) (gd : Option (List Code)) (cn : Str) (cs : Scope) (a : Addr) (ccd : Value) (cel : List (Str × Addr)) (outer : List Env) (A₀ : Around) (base h₀ : Heap) (L : Addr) (m : Str → Option Value) (s : Shared) (Q E : Value → Shared → Prop)
    (hB : Below A₀ base outer h₀) (hF : Fr h₀ L s.heap m) : (Mine.K w.params).In h₀ → News h₀ L s.heap ((l, listOf vs.toArray c) :: news) → Top Mine.vw loose mean mg mb h₀ → cs.kind = .function → dp + 100 < recursionLimit → un + 900 < cLine → IntsAre vs ns → ns.length ≤ 20 → DRet h₀ L m ((l, listOf vs.toArray c) :: news) s Q (dueD ns) →
    wpAny (model PySem.Challenge.pw_ny0408_01 w) { handled := none, depth := dp, frames := some (envX cn cs L a ccd cel :: outer), guards := gd, units := un } (call (.ref 849) [.ref l]) Q E s := by
  refine fill ?_
  k_fill
  intro _ hX hN hT hK hdp hun hvs hn2 hret
  refine wpAny_call ?_
  k_dflt (refine' code_defC ?k1 ?k2 ?k3 ?k4 ?k5 ?kA ?kF ?kK ?k6 ?k7 ?k8 ?k9 ?kB ?kD ?_ ?c2 ?c3 ?c4; (case kA => exact rfl); (case kF => exact rfl); (case kK => assumption); (case k1 => k_asm); (case k2 => k_asm); (case k3 => k_asm); (case k4 => k_asm); (case k5 => k_asm); (case k6 => k_is); (case k7 => k_is); (case k8 => k_room); (case k9 => exact BindsTo.of_eq rfl); (case kB => exact rfl); (case kD => decide +kernel); (case c2 => exact rfl); (case c3 => exact rfl); (case c4 => exact rfl); k_whole; intro g' L' h' tk' cells' FG' F' N' Y' B' X' T' l1; (try k_lt l1); k_cells Y'; (try simp only [List.cons_append, List.nil_append] at N'); (try dsimp only); (try k_lift B'); (try k_fold))
  have hlt := lt_all l1.2
  have hne0 : ∀ p ∈ news, p.1 ≠ L' := fun p hp e => absurd (hlt p hp) (by rw [e]; exact Nat.lt_irrefl _)
  have hne1 : ∀ p ∈ news, p.1 ≠ L' + 1 := fun p hp e => by have := hlt p hp; rw [e] at this; exact absurd this (Nat.not_lt_of_le (Nat.le_add_right L' 1))
  have hne2 : ∀ p ∈ news, p.1 ≠ L' + 1 + 1 := fun p hp e => by have := hlt p hp; rw [e] at this; exact absurd this (Nat.not_lt_of_le (Nat.le_add_right L' 2))
  k_with_none
  k_with "call ref" => refine halt ?_
  k_with "binaryOp Mult ref int" => refine halt ?_
  k_steps
  unfold Halt
  refine KMa.mul (ws := List.replicate 9 _) (by k_asm) (by k_asm) (by is_list) (by decide) (by decide) (by show 1 * 9 ≤ 256; decide) (by rfl) ?_
  intro D1 h1 F1 N1 lt1
  k_lt lt1
  k_with_none
  k_steps
  refine wpAny_For ?_
  k_steps
  unfold Halt
  (with_reducible rename Fr _ _ _ _ => FZ1)
  (with_reducible rename News _ _ _ _ => NZ1)
  rename_i lt2 _ _ _
  have F2 := toB [(Str.ofString "due", .ref _), (Str.ofString "signs", .ref _), (Str.ofString "steps", .ref l)] FZ1 (by kst_all)
  obtain ⟨led0, N2, M0, J0⟩ := du_start (l := l) (own := (l, listOf vs.toArray c) :: news) (ns := ns) NZ1 (.cons _ _ (.cons _ _ (.cons _ _ (.cons _ _ (.cons _ _ (.cons _ _ (.cons _ _ (.cons _ _ (.cons _ _ .nil))))))))) (by assumption) (by assumption) lt1 (by assumption) l1
  have hm : ∀ i m' led, DuJ L' l ns ((l, listOf vs.toArray c) :: news) i m' led → (l, listOf vs.toArray c) ∈ led := by
    rintro i m' led ⟨u, oN, oW, wN, wW, S, ss, cS, D, ds, cD, rest, rfl, rfl, _, _, _, _, h, _⟩
    have := h _ (List.mem_cons_self ..)
    simp [this]
  refine forT (fun i g m' led => g = g' ∧ DuJ L' l ns ((l, listOf vs.toArray c) :: news) i m' led) rfl F2 N2 (M0 _ (List.mem_cons_self ..)) (fun i g m' n h => hm _ _ _ h.2) ⟨rfl, J0 _⟩ ?_ ?_ ?_
  · k_steps
  · rintro I oI i v _ m₁ led h₁ tk₁ hv ⟨rfl, u, oN, oW, wN, wW, S, ss, cS, D, ds, cD, rest, rfl, rfl, dN, dW, hss, hds, hown, r1, r2, rS, rD, nS1, nS2, nD1, nD2, nSD⟩ hI F₁ N₁
    obtain ⟨n, t, rfl, hn⟩ := ints_getD hvs hv
    clear FZ1 F2 NZ1 N2 J0 hm M0
    have i1 : @Ne Nat (L' + 1) I := hI (L' + 1, oN) (by repeat (first | exact .head _ | refine .tail _ ?_))
    have i2 : @Ne Nat (L' + 1 + 1) I := hI (L' + 1 + 1, oW) (by repeat (first | exact .head _ | refine .tail _ ?_))
    have i3 : @Ne Nat S I := hI (S, listOf (List.toArray ss) cS) (by repeat (first | exact .head _ | refine .tail _ ?_))
    have i4 : @Ne Nat D I := hI (D, listOf (List.toArray ds) cD) (by repeat (first | exact .head _ | refine .tail _ ?_))
    have rI : ∀ p ∈ rest, p.1 ≠ I := fun p hp => hI p (by repeat (first | exact hp | refine .tail _ ?_))
    clear hI
    simp only [kstB] at F₁
    dsimp only
    k_with_none
    k_with "call ref" => refine halt ?_
    k_steps
    unfold Halt
    rename _ = Data.cell (some (Value.int n _)) => dN2
    rename Obj => oN2
    refine LCg.ListComp_U (F₀ := by k_asm) (by with_unfolding_all rfl) (by decide) (by rfl) (by decide) (by rfl) ?_
    k_steps
    unfold Halt
    (with_reducible rename Fr _ _ _ _ => F3)
    (with_reducible rename News _ _ _ _ => N3)
    refine LCg.CompSrc.range (by rfl) F3 N3 (by assumption) (by decide) (n := 3) (by rfl) (by decide) ?_
    intro gg
    refine compJ (fun k ys led => led = _ ∧ IntsAre ys (waysL n k)) ⟨rfl, .nil⟩ ?_ ?_
    · rintro k ys _ v I2 oI2 C oC D2 m₂ hh tkk E' hk ⟨rfl, hys⟩ ⟨tv, rfl⟩ hC hx F4 N4 off ne
      clear F3 N3 F₁ N₁
      dsimp only
      k_with_none
      k_with "subscriptTail Name Name ref int" => ((refine' way_at ?hl ?hb ?hc ?_ ?hs); (case hs => with_unfolding_all rfl); (case hl => is_list); (case hb => lia); (case hc => lia); intro _)
      k_steps
      have ek : (0 + (k : Int)).toNat = k := by lia
      (with_reducible rename Fr _ _ _ _ => F5)
      (with_reducible rename News _ _ _ _ => N5)
      rw [ek]
      exact LCg.CompEnd.intro F5 N5 _ (fun p hp => List.mem_cons_of_mem _ hp) off trivial ⟨rfl, ways_snoc hys⟩
    · rintro ys _ ⟨rfl, hys⟩ W hh tkk F4 N4 off
      clear F3 N3 F₁ N₁
      dsimp only
      k_with_none
      obtain ⟨d1, d2, d3, d4, d5, d6⟩ := off
      replace d6 := off1_allD d6
      k_with "call ref" => refine halt ?_
      k_steps
      unfold Halt
      rename _ = Data.cell (some (Value.ref W)) => dW2
      rename Obj => oW2
      refine LCg.ListComp_U (F₀ := by k_asm) (by with_unfolding_all rfl) (by decide) (by rfl) (by decide) (by rfl) ?_
      k_steps
      unfold Halt
      (with_reducible rename Fr _ _ _ _ => F3)
      (with_reducible rename News _ _ _ _ => N3)
      have hwl : ys.length = 3 := hys.length
      refine LCg.CompSrc.range (by rfl) F3 N3 (by assumption) (by decide) (n := 3) (by rfl) (by decide) ?_
      intro gg2
      refine compJ (fun k zs led => ∃ rest', led = (W, LCg.lst ys) :: (I, oI) :: (L' + 1, oN2) :: (L' + 1 + 1, oW2) :: (S, listOf (List.toArray ss) cS) :: (D, listOf (List.toArray ds) cD) :: rest' ∧ (∀ p ∈ rest, p ∈ rest') ∧ DatAll rest' zs (dueT n k) ∧ ApartD [W, I, L' + 1, L' + 1 + 1, S, D] rest') ⟨_, rfl, fun p hp => hp, .nil, du_apart d6 rI r1 r2 rS rD⟩ ?_ ?_
      · rintro k zs _ v I3 oI3 C3 oC3 D3 m₃ h3 tk3 E3 hk ⟨rest', rfl, hsub, hzs, hap⟩ ⟨tv, rfl⟩ hC3 hx3 F5 N5 off3 ne3
        clear F3 N3
        have ek : (0 + (k : Int)).toNat = k := by lia
        dsimp only
        k_with_none
        k_with "subscriptTail Name Name ref int" => refine halt ?_
        k_with "subscriptTail Name Subscript ref int" => refine halt ?_
        k_with "subscriptTail List Subscript ref int" => refine halt ?_
        k_with "call ref" => refine halt ?_
        k_steps
        unfold Halt
        (with_reducible rename News _ _ _ _ => N9)
        refine' int_atD (ns := waysL n 3) ⟨_, (N9 (W, LCg.lst ys) (by repeat (first | exact .head _ | refine .tail _ ?_))).1, rfl, _, rfl⟩ hys (by lia) ⟨(by rw [show (0 + (k : Int)).toNat = k by lia]; exact hk), by lia⟩ ?_ ?ws
        case ws => with_unfolding_all rfl
        intro t6
        rw [ways_get n hk]
        k_with "call ref" => refine halt ?_
        have hw : 0 ≤ wayOf n k ∧ wayOf n k < 6 := fmod6 _
        k_steps
        unfold Halt
        refine meant_c w mean mg mb n _ _ _ _ _ _ _ _ _ _ _ _ _ _ _ _ _ _ _ B' (by k_asm) X' N9 T' rfl ?_ ?_ ?_
        · simp only [depth_deeper]; lia
        · simp only [units_deeper]; lia
        intro Z us8 c8 h8 tk8 hZ F8 N8 lt8
        k_lt lt8
        dsimp only
        k_with_none
        k_steps
        refine' word_at N8 (.head _) hZ (by lia) ⟨by lia, rfl⟩ ?_ ?zs
        case zs => with_unfolding_all rfl
        intro t8
        rw [show (0 + (k : Int)).toNat = k by lia]
        k_steps
        (with_reducible rename Fr _ _ _ _ => F9)
        (with_reducible rename News _ _ _ _ => NB)
        exact LCg.CompEnd.intro F9 NB _ du_sub (du_off (by assumption) off3) trivial ⟨_, rfl, fun p hp => List.mem_cons_of_mem _ (hsub p hp), dueT_snoc hzs, du_apart1 (by assumption) hap⟩
      · rintro zs _ ⟨rest', rfl, hsub, hzs, hap⟩ D3 h3 tk3 F5 N5 off3
        clear F3 N3
        obtain ⟨q1, q2, q3, q4, q5, q6, q7⟩ := off3
        replace q7 := off1_allD q7
        have hpl := place_atD n
        dsimp only
        k_with_none
        k_with "call builtin:list.append" => refine halt ?_
        k_steps
        unfold Halt
        rename_i M _ ltM P _ _ _ ltP
        have rD' : ∀ p ∈ rest', p.1 ≠ D := fun p hp => hap p hp D (by repeat (first | exact .head _ | refine .tail _ ?_))
        k_dflt (refine' append_K ?k1 ?k2 ?k3 ?_ ?z; (case k1 => k_asm); (case k2 => k_asm); (case k3 => k_upd); (case z => exact ds_fit hds (List.getElem?_eq_some_iff.mp hn).1 hn2); k_whole)
        intro h7 F7 N7
        k_with_none
        k_with "subscriptTail Name Slice ref ref" => (k_here; (with_reducible show wpAny _ _ (subscriptTail _ (PySem.Expr.Slice _ _ none _) (Value.ref _) (Value.ref _)) _ _ _); k_dflt (refine' kms_slice_lit (its := ss.toArray) ?sF ?sN ?sl ?sp ?sq ?se ?_ ?ss ?st ?sz; (case sF => k_asm); (case sN => k_asm); (case sl => is_list); (case sp => kmk_part); (case sq => kmk_part); (case se => first | exact pick_up _ (by lia) | exact pick_from _ (by lia)); (case ss => with_unfolding_all rfl); (case st => kmk_pure); (case sz => rw [List.size_toArray, hsl]; decide)); intro D' h' F' N' l1; (try k_lt l1))
        have hsl : ss.length = 9 := by rw [hss.length, signs_len]
        have hp3 := fmod3 (3 * (n.fdiv 2).fmod 3 + (n.fdiv 6).fmod 3)
        k_with "eval IfExp" => refine halt ?_
        k_steps
        unfold Halt
        (with_reducible rename Fr _ _ _ _ => F8)
        (with_reducible rename News _ _ _ _ => N9)
        refine cutE (σ := Tok) (fun t => .str (signOf n) t) F8 N9 ?_ ?_
        · intro Q' hq
          k_with_none
          k_steps
          · rw [show Txt.item (Str.ofString "rwx") ((3 * (n.fdiv 2).fmod 3 + (n.fdiv 6).fmod 3).fmod 3) = signOf n from (if_pos (by assumption)).symm]
            exact hq _ _ _ F8 N9
          · rw [show Str.ofString "-" = signOf n from (if_neg (by assumption)).symm]
            exact hq _ _ _ F8 N9
        intro t8 h8 tk8 F9 N10
        clear F8 N9
        dsimp only
        k_with "subscriptTail Name Slice ref ref" => (k_here; (with_reducible show wpAny _ _ (subscriptTail _ (PySem.Expr.Slice _ _ none _) (Value.ref _) (Value.ref _)) _ _ _); k_dflt (refine' kms_slice_lit (its := ss.toArray) ?sF ?sN ?sl ?sp ?sq ?se ?_ ?ss ?st ?sz; (case sF => k_asm); (case sN => k_asm); (case sl => is_list); (case sp => kmk_part); (case sq => kmk_part); (case se => first | exact pick_up _ (by lia) | exact pick_from _ (by lia)); (case ss => with_unfolding_all rfl); (case st => kmk_pure); (case sz => rw [List.size_toArray, hsl]; decide)); intro D' h' F' N' l1; (try k_lt l1))
        k_steps
        (with_reducible rename Fr _ _ _ _ => F8)
        (with_reducible rename News _ _ _ _ => N9)
        try unfold Halt
        refine kmk_add_lit (its := (List.toArray (ss.take (3 * ((n.fdiv 2).fmod 3) + (n.fdiv 6).fmod 3).toNat))) (its2 := #[_]) F8 N9 ⟨_, (N9 _ (.tail _ (.head _))).1, rfl, _, rfl⟩ ⟨_, (N9 _ (.head _)).1, rfl, _, rfl⟩ rfl ?_ (add_fit1 hsl)
        intro S2 h8 F9 N10 lt2
        k_lt lt2
        clear F8 N9
        dsimp only
        k_steps
        (with_reducible rename Fr _ _ _ _ => F8)
        (with_reducible rename News _ _ _ _ => N9)
        try unfold Halt
        refine kmk_add_lit (its2 := (List.toArray (ss.drop (3 * ((n.fdiv 2).fmod 3) + (n.fdiv 6).fmod 3 + 1).toNat))) F8 N9 ⟨_, (N9 _ (.tail _ (.head _))).1, rfl, _, rfl⟩ ⟨_, (N9 _ (.head _)).1, rfl, _, rfl⟩ rfl ?_ (add_fit2 hsl)
        intro S4 h8 F9 N10 lt4
        k_lt lt4
        clear F8 N9
        dsimp only
        k_steps
        (with_reducible rename Fr _ _ _ _ => F8)
        (with_reducible rename News _ _ _ _ => N9)
        obtain ⟨led', N7, off7, J7⟩ := du_turn (l := l) (own := (l, listOf vs.toArray c) :: news) N9 hn (du_signs hss hn rfl) dN2 dW2 hds hzs hown hsub hap nD1 nD2 i1 i2 i4 q2 q3 q4 q6 ltM ltP lt4
        exact ⟨_, _, _, _, led', rfl, toB [(Str.ofString "due", .ref _), (Str.ofString "signs", .ref S4), (Str.ofString "steps", .ref l)] F8 (by kst_all), N7, off7, rfl, J7 _⟩
  · rintro _ h9 tk9 m9 led9 F8 N8 ⟨rfl, u, oN, oW, wN, wW, S, ss, cS, D, ds, cD, rest, rfl, rfl, dN, dW, hss, hds, hown, _⟩
    clear FZ1 F2 NZ1 N2 J0 hm M0
    rw [hvs.length] at hss hds
    simp only [kstB] at F8
    dsimp only
    k_with_none
    k_with "call builtin:str.join" => refine halt ?_
    k_steps
    unfold Halt
    (with_reducible rename News _ _ _ _ => N9)
    refine join_list (ys := signsAt ns ns.length) ⟨_, (N9 _ (.tail _ (.tail _ (.head _)))).1, rfl, _, rfl⟩ (show StrsAre (List.toArray ss).toList _ from hss) (by rw [signs_sum, signs_len]; decide) ?_
    intro t7 k7
    try dsimp only
    k_with_none
    k_with "binaryOp Add str str" => ((refine PyProof.Rows.add_str (hsz := by rw [join_len]; decide) ?_); intro _ _)
    k_steps
    (with_reducible rename News _ _ _ _ => NZ)
    refine hret _ [.ref D, .str _ _] _ _ _ _ (.cons (.list (.tail _ (.tail _ (.tail _ (.head _)))) (hds.mono fun p hp => by repeat (first | exact hp | refine .tail _ ?_))) (.cons (.str _ _) .nil)) (by k_asm) NZ (fun p hp => by repeat (first | exact hown p hp | refine .tail _ ?_))
end
section
set_option maxRecDepth 100000
set_option maxHeartbeats 8000000
local macro_rules | `(tactic| walk_at $k:str) => if ["exec Assign cons ListComp", "call builtin:min", "subscriptTail Name Name ref int", "subscriptTail Name Constant ref int"].contains k.getString then `(tactic| (refine halt ?_)) else Lean.Macro.throwUnsupported
structure NamesIn (rest : List (Addr × Obj)) (NN N0 N1 N2 : Addr) (v0 v1 v2 : List Value) : Prop where
  a : StrsAre v0 (namesL 0)
  b : StrsAre v1 (namesL 1)
  c : StrsAre v2 (namesL 2)
  n : (NN, listOf (List.toArray [.ref N0, .ref N1, .ref N2]) 0) ∈ rest
  na : (N0, listOf v0.toArray 0) ∈ rest
  nb : (N1, listOf v1.toArray 0) ∈ rest
  nc : (N2, listOf v2.toArray 0) ∈ rest
noncomputable def ToJ (L' l : Addr) (ns : List Int) (own : List (Addr × Obj)) (BF : Heap → Prop) (i : Nat) (g : Heap) (m' : Str → Option Value) (led : List (Addr × Obj)) : Prop :=
  ∃ u tr oN oW w0 NN N0 N1 N2 v0 v1 v2 T ts c1 rest, m' = kstB u [(Str.ofString "rights", .int (rightsAt ns i) tr), (Str.ofString "told", .ref T), (Str.ofString "rows", .ref l)] ∧ led = (L' + 1, oN) :: (L' + 1 + 1, oW) :: (T, listOf (List.toArray ts) c1) :: rest ∧
    oN.data = .cell (some (.ref NN)) ∧ oW.data = .cell w0 ∧ NamesIn rest NN N0 N1 N2 v0 v1 v2 ∧ DatAll rest ts (toldRows ns i) ∧ (∀ p ∈ own, p ∈ rest) ∧ (∀ p ∈ rest, p.1 ≠ L' + 1) ∧ (∀ p ∈ rest, p.1 ≠ L' + 1 + 1) ∧ (∀ p ∈ rest, p.1 ≠ T) ∧ (@Ne Nat (L' + 1) T) ∧ (@Ne Nat (L' + 1 + 1) T) ∧ BF g
noncomputable def BaseOk (w : World) (mean : ExcName → Option Value) (mg mb : Str → Option Value) (A : Around) (base : Heap) (outer : List Env) (g' g : Heap) : Prop :=
  KtsTurn (frs outer) g' g ∧ Below A base outer g ∧ (Mine.K w.params).In g ∧ Top Mine.vw loose mean mg mb g ∧ KtsDicts (frs outer) g
theorem to_start {g h : Heap} {Lf L' l T NN N0 N1 N2 : Addr} {c c0 : Nat} {vs : List Value} {oN oW : Obj} {w0 : Option Value} {news : List (Addr × Obj)} {ns : List Int} {v0 v1 v2 : List Value} {BF : Heap → Prop}
    (N : News g Lf h ((T, listOf #[] c0) :: (NN, listOf #[.ref N0, .ref N1, .ref N2] 0) :: (N2, listOf v2.toArray 0) :: (N1, listOf v1.toArray 0) :: (N0, listOf v0.toArray 0) :: (L' + 1 + 1, oW) :: (L' + 1, oN) :: (l, listOf vs.toArray c) :: news)) (dN : oN.data = .cell (some (.ref NN))) (dW : oW.data = .cell w0)
    (h0 : StrsAre v0 (namesL 0)) (h1 : StrsAre v1 (namesL 1)) (h2 : StrsAre v2 (namesL 2)) (k0 : @LT.lt Nat _ (L' + 1 + 1) N0 ∧ @LT.lt Nat _ (L' + 1) N0 ∧ @LT.lt Nat _ l N0 ∧ AllLt N0 news) (k1 : @LT.lt Nat _ N0 N1 ∧ @LT.lt Nat _ (L' + 1 + 1) N1 ∧ @LT.lt Nat _ (L' + 1) N1 ∧ @LT.lt Nat _ l N1 ∧ AllLt N1 news)
    (k2 : @LT.lt Nat _ N1 N2 ∧ @LT.lt Nat _ N0 N2 ∧ @LT.lt Nat _ (L' + 1 + 1) N2 ∧ @LT.lt Nat _ (L' + 1) N2 ∧ @LT.lt Nat _ l N2 ∧ AllLt N2 news) (kN : @LT.lt Nat _ N2 NN ∧ @LT.lt Nat _ N1 NN ∧ @LT.lt Nat _ N0 NN ∧ @LT.lt Nat _ (L' + 1 + 1) NN ∧ @LT.lt Nat _ (L' + 1) NN ∧ @LT.lt Nat _ l NN ∧ AllLt NN news)
    (kT : @LT.lt Nat _ NN T ∧ @LT.lt Nat _ N2 T ∧ @LT.lt Nat _ N1 T ∧ @LT.lt Nat _ N0 T ∧ @LT.lt Nat _ (L' + 1 + 1) T ∧ @LT.lt Nat _ (L' + 1) T ∧ @LT.lt Nat _ l T ∧ AllLt T news) (hl : @LT.lt Nat _ l L' ∧ AllLt L' news) (bf : BF g) :
    ∃ led, News g Lf h led ∧ (l, listOf vs.toArray c) ∈ led ∧ ∀ (u : Str → Option Value) t, ToJ L' l ns ((l, listOf vs.toArray c) :: news) BF 0 g (kstB u [(Str.ofString "rights", .int 0 t), (Str.ofString "told", .ref T), (Str.ofString "rows", .ref l)]) led := by
  refine ⟨(L' + 1, oN) :: (L' + 1 + 1, oW) :: (T, listOf #[] c0) :: (NN, listOf #[.ref N0, .ref N1, .ref N2] 0) :: (N2, listOf v2.toArray 0) :: (N1, listOf v1.toArray 0) :: (N0, listOf v0.toArray 0) :: (l, listOf vs.toArray c) :: news, ?_, by (repeat (first | exact .head _ | refine .tail _ ?_)), fun u t => ⟨u, t, oN, oW, w0, NN, N0, N1, N2, v0, v1, v2, T, [], c0, _, rfl, rfl, dN, dW, ⟨h0, h1, h2, by (repeat (first | exact .head _ | refine .tail _ ?_)), by (repeat (first | exact .head _ | refine .tail _ ?_)), by (repeat (first | exact .head _ | refine .tail _ ?_)), by (repeat (first | exact .head _ | refine .tail _ ?_))⟩, .nil, (by (repeat (refine sub_cons ?_ ?_; focus (repeat (first | exact .head _ | refine .tail _ ?_)))); (repeat (first | exact fun _ hp => hp | refine sub_drop ?_))), ?_, ?_, ?_, Nat.ne_of_lt kT.2.2.2.2.2.1, Nat.ne_of_lt kT.2.2.2.2.1, bf⟩⟩
  · exact cb_drop N (by (repeat (refine sub_cons ?_ ?_; focus (repeat (first | exact .head _ | refine .tail _ ?_)))); (repeat (first | exact fun _ hp => hp | refine sub_drop ?_)))
  · exact ne_cons (Nat.ne_of_gt kN.2.2.2.2.1) (ne_cons (Nat.ne_of_gt k2.2.2.2.1) (ne_cons (Nat.ne_of_gt k1.2.2.1) (ne_cons (Nat.ne_of_gt k0.2.1) (ne_cons (Nat.ne_of_lt (Nat.lt_succ_of_lt hl.1)) (fun p hp => Nat.ne_of_lt (Nat.lt_succ_of_lt (lt_all hl.2 p hp)))))))
  · exact ne_cons (Nat.ne_of_gt kN.2.2.2.1) (ne_cons (Nat.ne_of_gt k2.2.2.1) (ne_cons (Nat.ne_of_gt k1.2.1) (ne_cons (Nat.ne_of_gt k0.1) (ne_cons (Nat.ne_of_lt (Nat.lt_succ_of_lt (Nat.lt_succ_of_lt hl.1))) (fun p hp => Nat.ne_of_lt (Nat.lt_succ_of_lt (Nat.lt_succ_of_lt (lt_all hl.2 p hp))))))))
  · exact ne_cons (Nat.ne_of_lt kT.1) (ne_cons (Nat.ne_of_lt kT.2.1) (ne_cons (Nat.ne_of_lt kT.2.2.1) (ne_cons (Nat.ne_of_lt kT.2.2.2.1) (ne_cons (Nat.ne_of_lt kT.2.2.2.2.2.2.1) (fun p hp => Nat.ne_of_lt (lt_all kT.2.2.2.2.2.2.2 p hp))))))
theorem strs_get {ks : List Value} {ss : List Str} {i : Nat} {v : Value} (h : StrsAre ks ss) (e : ks[i]? = some v) : ∃ x t, v = .str x t ∧ ss[i]? = some x := by
  induction h generalizing i with
  | nil => cases e
  | cons x t _ ih =>
    cases i with
    | zero => exact ⟨x, t, (Option.some.inj e).symm, rfl⟩
    | succ i => exact ih e
theorem words_cl (ws : List Str) : (ws.map cl).map sOf = ws := by
  rw [List.map_map]
  conv => rhs; rw [← List.map_id ws]
  exact List.map_congr_left fun x _ => sOf_cl x
theorem mem9 {p a b c d e f g h i : Addr × Obj} {r : List (Addr × Obj)} (x : p ∈ r) : p ∈ a :: b :: c :: d :: e :: f :: g :: h :: i :: r := by repeat (first | exact x | refine .tail _ ?_)
noncomputable def TupsAt (led : List (Addr × Obj)) (zs : List Value) (ds : List (Int × Str)) (j : Nat) : Prop := zs.length = j ∧ ∀ i v, zs[i]? = some v → TupAt led v (ds.getD i (0, Str.empty))
theorem off_ins9 {I C D T : Addr} {oT : Obj} {a b c d e f g h i : Addr × Obj} {r : List (Addr × Obj)} {P : Prop} (lt : @LT.lt Nat _ I T ∧ @LT.lt Nat _ C T ∧ @LT.lt Nat _ D T ∧ P) (o : LCg.Off3 I C D (a :: b :: c :: d :: e :: f :: g :: h :: i :: r)) : LCg.Off3 I C D (a :: b :: c :: d :: e :: f :: g :: h :: i :: (T, oT) :: r) :=
  ⟨o.1, o.2.1, o.2.2.1, o.2.2.2.1, o.2.2.2.2.1, o.2.2.2.2.2.1, o.2.2.2.2.2.2.1, o.2.2.2.2.2.2.2.1, o.2.2.2.2.2.2.2.2.1, ⟨(Nat.ne_of_lt lt.1).symm, (Nat.ne_of_lt lt.2.1).symm, (Nat.ne_of_lt lt.2.2.1).symm⟩, o.2.2.2.2.2.2.2.2.2⟩
theorem sub_ins12 {T a b c d e f g h i j k l : Addr × Obj} {r : List (Addr × Obj)} : ∀ p ∈ a :: b :: c :: d :: e :: f :: g :: h :: i :: j :: k :: l :: T :: r, p ∈ T :: a :: b :: c :: d :: e :: f :: g :: h :: i :: j :: k :: l :: r := by
  (repeat (refine sub_cons ?_ ?_; focus (repeat (first | exact .head _ | refine .tail _ ?_)))); (repeat (first | exact fun _ hp => hp | refine sub_drop ?_))
theorem words_len (n : Int) (k : Nat) : ((wordsOf n).getD k Str.empty).length ≤ 40 := by
  by_cases h : k < (wordsOf n).length
  · have := row_fine n _ (getD_mem h)
    simp only [quoteFine, Bool.and_eq_true, decide_eq_true_eq] at this
    exact Nat.le_trans this.1.1 (by decide)
  · rw [List.getD_eq_getElem?_getD, List.getElem?_eq_none (Nat.not_lt.mp h)]
    decide
theorem names_len {k j : Nat} {one : Str} (h : (namesL k)[j]? = some one) : one.length ≤ 40 := by
  have hm := List.mem_of_getElem? h
  have : ∀ k, ∀ x ∈ namesL k, x.length ≤ 40 := by
    intro k
    match k with
    | 0 => decide
    | 1 => decide
    | 2 => decide
    | k + 3 => intro x hx; cases hx
  exact this k _ hm
theorem dist_at {n : Int} {k j : Nat} {one : Str} (h : (namesL k)[j]? = some one) : (distL n k).getD j (0, Str.empty) = (levL (cl ((wordsOf n).getD k Str.empty)) (cl one) 100, one) := by
  unfold distL
  rw [List.getD_eq_getElem?_getD, List.getElem?_map, h]
  rfl
theorem tups_snoc {led : List (Addr × Obj)} {zs : List Value} {ds : List (Int × Str)} {j : Nat} {T : Addr} {d : Int} {x : Str} {t u : Tok} {n1 : Nat} (h : TupsAt led zs ds j) (e : ds.getD j (0, Str.empty) = (d, x)) :
    TupsAt ((T, ({ cls := .type "tuple", data := .seq #[.int d t, .str x u] n1 } : Obj)) :: led) (zs ++ [.ref T]) ds (j + 1) := by
  refine ⟨by rw [List.length_append, h.1]; rfl, fun i v hv => ?_⟩
  by_cases hi : i < zs.length
  · rw [List.getElem?_append_left hi] at hv
    obtain ⟨a, t', u', n', e1, e2⟩ := h.2 i v hv
    exact ⟨a, t', u', n', e1, List.mem_cons_of_mem _ e2⟩
  · rw [List.getElem?_append_right (Nat.not_lt.mp hi)] at hv
    have e0 : i - zs.length = 0 := by
      cases e0 : i - zs.length with
      | zero => rfl
      | succ q => rw [e0] at hv; cases hv
    rw [e0] at hv
    have ei : i = j := by have := h.1; lia
    subst ei
    rw [e]
    exact ⟨T, t, u, n1, (Option.some.inj hv).symm, List.mem_cons_self⟩
noncomputable def Apart (fx : List Addr) (rest : List (Addr × Obj)) : Prop := ∀ p ∈ rest, ∀ a ∈ fx, p.1 ≠ a
theorem apart9 {I C D T a b c d e f g h i : Addr} {oT : Obj} {r : List (Addr × Obj)} {P : Prop} (lt : @LT.lt Nat _ I T ∧ @LT.lt Nat _ C T ∧ @LT.lt Nat _ D T ∧ @LT.lt Nat _ a T ∧ @LT.lt Nat _ b T ∧ @LT.lt Nat _ c T ∧ @LT.lt Nat _ d T ∧ @LT.lt Nat _ e T ∧ @LT.lt Nat _ f T ∧ @LT.lt Nat _ g T ∧ @LT.lt Nat _ h T ∧ @LT.lt Nat _ i T ∧ P)
    (x : Apart [a, b, c, d, e, f, g, h, i] r) : Apart [a, b, c, d, e, f, g, h, i] ((T, oT) :: r) := by
  intro p hp
  refine (List.mem_cons.mp hp).elim (fun e => ?_) (x p)
  obtain ⟨_, _, _, k1, k2, k3, k4, k5, k6, k7, k8, k9, _⟩ := lt
  rw [e]
  exact al_cons (Nat.ne_of_gt k1) (al_cons (Nat.ne_of_gt k2) (al_cons (Nat.ne_of_gt k3) (al_cons (Nat.ne_of_gt k4) (al_cons (Nat.ne_of_gt k5) (al_cons (Nat.ne_of_gt k6) (al_cons (Nat.ne_of_gt k7) (al_cons (Nat.ne_of_gt k8) (al_cons (Nat.ne_of_gt k9) al_nil))))))))
theorem apart_in {a b c d : Addr} {oa ob oc od : Obj} {fx : List Addr} {p1 p2 p3 p4 p5 : Addr × Obj} {r : List (Addr × Obj)} (off : ∀ p ∈ p1 :: p2 :: p3 :: p4 :: p5 :: r, ∀ q ∈ [(a, oa), (b, ob), (c, oc), (d, od)], p.1 ≠ q.1) (x : Apart fx r) : Apart (a :: b :: c :: d :: fx) r := by
  intro p hp
  have h := off p (.tail _ (.tail _ (.tail _ (.tail _ (.tail _ hp)))))
  exact al_cons (h (a, oa) (.head _)) (al_cons (h (b, ob) (.tail _ (.head _))) (al_cons (h (c, oc) (.tail _ (.tail _ (.head _)))) (al_cons (h (d, od) (.tail _ (.tail _ (.tail _ (.head _))))) (x p hp))))
theorem apart_off {a b c d e f g h i : Addr} {oa ob oc od oe of og oh oi : Obj} {r r' : List (Addr × Obj)} (off : ∀ p ∈ (e, oe) :: (f, of) :: (g, og) :: (h, oh) :: (i, oi) :: r, ∀ q ∈ [(a, oa), (b, ob), (c, oc), (d, od)], p.1 ≠ q.1) (x : Apart [a, b, c, d, e, f, g, h, i] r') :
    ∀ p ∈ (e, oe) :: (f, of) :: (g, og) :: (h, oh) :: (i, oi) :: r', ∀ q ∈ [(a, oa), (b, ob), (c, oc), (d, od)], p.1 ≠ q.1 := by
  have tl : ∀ p ∈ r', ∀ q ∈ [(a, oa), (b, ob), (c, oc), (d, od)], p.1 ≠ q.1 := fun p hp q hq => x p hp q.1 (by
    have : ∀ q ∈ [(a, oa), (b, ob), (c, oc), (d, od)], q.1 ∈ [a, b, c, d, e, f, g, h, i] := of_cons (.head _) (of_cons (.tail _ (.head _)) (of_cons (.tail _ (.tail _ (.head _))) (of_cons (.tail _ (.tail _ (.tail _ (.head _)))) fun _ h => absurd h List.not_mem_nil)))
    exact this q hq)
  exact of_cons (off _ (.head _)) (of_cons (off _ (.tail _ (.head _))) (of_cons (off _ (.tail _ (.tail _ (.head _)))) (of_cons (off _ (.tail _ (.tail _ (.tail _ (.head _))))) (of_cons (off _ (.tail _ (.tail _ (.tail _ (.tail _ (.head _)))))) tl))))
theorem apart_tl {a b c d : Addr} {fx : List Addr} {r : List (Addr × Obj)} (x : Apart (a :: b :: c :: d :: fx) r) : Apart fx r := fun p hp z hz => x p hp z (.tail _ (.tail _ (.tail _ (.tail _ hz))))
theorem taken_snoc {n : Int} {k : Nat} {led : List (Addr × Obj)} {ys : List Value} {T : Addr} {t u : Tok} {n1 : Nat} (h : DatAll led ys (takenD n k)) (hm : (T, ({ cls := .type "tuple", data := .seq #[.int (takenP n k).1 t, .str (takenP n k).2 u] n1 } : Obj)) ∈ led) :
    DatAll led (ys ++ [.ref T]) (takenD n (k + 1)) := by
  have e : takenD n (k + 1) = takenD n k ++ [Dat.tuple [.int (takenP n k).1, .str (takenP n k).2]] := by
    unfold takenD
    rw [List.range_succ, List.map_append]; rfl
  rw [e]
  exact h.append (DatAll.one (.tuple (vs := [_, _]) hm (.cons (.int _ _) (.cons (.str _ _) .nil))))
theorem to_apart {DS I a b T : Addr} {r : List (Addr × Obj)} (h : AllLt DS r) (rI : ∀ p ∈ r, p.1 ≠ I) (r1 : ∀ p ∈ r, p.1 ≠ a) (r2 : ∀ p ∈ r, p.1 ≠ b) (r3 : ∀ p ∈ r, p.1 ≠ T) : Apart [DS, I, a, b, T] r := by
  exact fun p hp => al_cons (Nat.ne_of_lt (lt_all h p hp)) (al_cons (rI p hp) (al_cons (r1 p hp) (al_cons (r2 p hp) (al_cons (r3 p hp) al_nil))))
theorem dat_consI {led : List (Addr × Obj)} {us : List Value} {d : Dat} {ds : List Dat} (h : DatAll led us (d :: ds)) : ∃ v vs, us = v :: vs ∧ DatIn led v d ∧ DatAll led vs ds := by
  cases h with
  | cons h1 h2 => exact ⟨_, _, rfl, h1, h2⟩
theorem dat_nilI {led : List (Addr × Obj)} {us : List Value} (h : DatAll led us []) : us = [] := by
  cases h; rfl
theorem dat_intI {led : List (Addr × Obj)} {v : Value} {d : Int} (h : DatIn led v (.int d)) : ∃ t, v = .int d t := by
  cases h; exact ⟨_, rfl⟩
theorem dat_strI {led : List (Addr × Obj)} {v : Value} {x : Str} (h : DatIn led v (.str x)) : ∃ t, v = .str x t := by
  cases h; exact ⟨_, rfl⟩
theorem dat_tupI {led : List (Addr × Obj)} {v : Value} {ds : List Dat} (h : DatIn led v (.tuple ds)) : ∃ a vs n, v = .ref a ∧ (a, ({ cls := .type "tuple", data := .seq (List.toArray vs) n } : Obj)) ∈ led ∧ DatAll led vs ds := by
  cases h with
  | tuple hm hr => exact ⟨_, _, _, rfl, hm, hr⟩
theorem tup_inv {led : List (Addr × Obj)} {v : Value} {d : Int} {x : Str} (h : DatIn led v (.tuple [.int d, .str x])) : TupAt led v (d, x) := by
  obtain ⟨a, vs, n, rfl, hm, hr⟩ := dat_tupI h
  obtain ⟨v1, w1, rfl, h1, r1⟩ := dat_consI hr
  obtain ⟨v2, w2, rfl, h2, r2⟩ := dat_consI r1
  obtain rfl := dat_nilI r2
  obtain ⟨t, rfl⟩ := dat_intI h1
  obtain ⟨u, rfl⟩ := dat_strI h2
  exact ⟨_, _, _, _, rfl, hm⟩
theorem tup_invP {led : List (Addr × Obj)} {v : Value} {p : Int × Str} (h : DatIn led v (.tuple [.int p.1, .str p.2])) : TupAt led v p := tup_inv h
theorem taken_inv {led : List (Addr × Obj)} {ys : List Value} {n : Int} (h : DatAll led ys (takenD n 3)) : ∃ x0 x1 x2, ys = [x0, x1, x2] ∧ TupAt led x0 (takenP n 0) ∧ TupAt led x1 (takenP n 1) ∧ TupAt led x2 (takenP n 2) := by
  have e : takenD n 3 = [Dat.tuple [.int (takenP n 0).1, .str (takenP n 0).2], Dat.tuple [.int (takenP n 1).1, .str (takenP n 1).2], Dat.tuple [.int (takenP n 2).1, .str (takenP n 2).2]] := rfl
  rw [e] at h
  obtain ⟨v1, w1, rfl, h1, r1⟩ := dat_consI h
  obtain ⟨v2, w2, rfl, h2, r2⟩ := dat_consI r1
  obtain ⟨v3, w3, rfl, h3, r3⟩ := dat_consI r2
  obtain rfl := dat_nilI r3
  exact ⟨_, _, _, rfl, tup_invP h1, tup_invP h2, tup_invP h3⟩
theorem mem6 {p a b c d e f : Addr × Obj} {r : List (Addr × Obj)} (x : p ∈ r) : p ∈ a :: b :: c :: d :: e :: f :: r := by repeat (first | exact x | refine .tail _ ?_)
theorem add6 {g h : Heap} {L : Addr} {a b c d e f : Addr × Obj} {r : List (Addr × Obj)} (N : News g L h r) (ha : a ∈ r) (hb : b ∈ r) (hc : c ∈ r) (hd : d ∈ r) (he : e ∈ r) (hf : f ∈ r) : News g L h (a :: b :: c :: d :: e :: f :: r) :=
  cb_drop N (sub_cons ha (sub_cons hb (sub_cons hc (sub_cons hd (sub_cons he (sub_cons hf fun _ hp => hp))))))
theorem argBest_le (bt : Nat → Nat → Bool) : ∀ k, PySem.argBest bt k ≤ k
  | 0 => Nat.le_refl _
  | k + 1 => by
    unfold PySem.argBest
    split
    · exact Nat.le_refl _
    · exact Nat.le_succ_of_le (argBest_le bt k)
theorem taken_mem (n : Int) {k : Nat} (hk : k < 3) : (takenP n k).2 ∈ namesL k := by
  have hl : (distL n k).length = (namesL k).length := by rw [distL, List.length_map]
  have h0 : 0 < (namesL k).length := by
    match k, hk with
    | 0, _ => decide
    | 1, _ => decide
    | 2, _ => decide
  have hb : bestOf (distL n k) < (distL n k).length := by
    have := argBest_le (btOf (distL n k)) ((distL n k).length - 1)
    unfold bestOf
    lia
  have e : takenP n k ∈ distL n k := by
    unfold takenP
    rw [List.getD_eq_getElem?_getD, List.getElem?_eq_getElem hb]
    exact List.getElem_mem hb
  obtain ⟨one, ho, e⟩ := List.mem_map.mp e
  rw [← e]; exact ho
theorem fdiv8 {prog : Program} {w : World} {A : Around} {E Q : Value → Shared → Prop} {s : Shared} {i : Nat} {t u : Tok} (hi : i < 3) (h : Q (.int (Int.fdiv 256 (8 ^ ((i : Nat) : Int).toNat)) s.toks) { s with toks := s.toks + 1 }) : wpAny (model prog w) A (binaryOp .FloorDiv (.int 256 t) (.int (8 ^ ((i : Nat) : Int).toNat) u)) Q E s := by
  match i, hi with
  | 0, _ => exact floordiv_int (by decide) h
  | 1, _ => exact floordiv_int (by decide) h
  | 2, _ => exact floordiv_int (by decide) h
theorem drop6 {g h : Heap} {L : Addr} {a b c d e f : Addr × Obj} {r : List (Addr × Obj)} (N : News g L h (a :: b :: c :: d :: e :: f :: r)) : News g L h r := fun p hp => N p (mem6 hp)
theorem names_at {prog : Program} {w : World} {A : Around} {E Q : Value → Shared → Prop} {s : Shared} {value slice : Expr} {h₀ : Heap} {L l N0 N1 N2 : Addr} {led : List (Addr × Obj)} {c : Nat} {k : Int} {u : Tok} (N : News h₀ L s.heap led) (hm : (l, listOf (List.toArray [.ref N0, .ref N1, .ref N2]) c) ∈ led) (h0 : 0 ≤ k) (h1 : k < 3)
    (h : Q (.ref ([N0, N1, N2].getD k.toNat 0)) s) (hs : subscripted slice false (.ref l) (.int k u) = operate [.ref l, .int k u] (getItem (.ref l) (.int k u))) :
    wpAny (model prog w) A (subscriptTail value slice (.ref l) (.int k u)) Q E s := by
  have hl : s.heap.IsList l #[.ref N0, .ref N1, .ref N2] := ⟨_, (N _ hm).1, rfl, _, rfl⟩
  have : k.toNat = 0 ∨ k.toNat = 1 ∨ k.toNat = 2 := by lia
  refine tail_any hl.typeIs slot_list_getitem.lookup (wpAny_getItem_list hl h0 (by lia) (x := .ref ([N0, N1, N2].getD k.toNat 0)) ?_ h) hs
  rcases this with e | e | e <;> rw [e] <;> rfl
theorem NamesIn.at {rest : List (Addr × Obj)} {NN N0 N1 N2 : Addr} {v0 v1 v2 : List Value} (h : NamesIn rest NN N0 N1 N2 v0 v1 v2) {k : Nat} (hk : k < 3) : ([N0, N1, N2].getD k 0, listOf ([v0, v1, v2].getD k []).toArray 0) ∈ rest ∧ StrsAre ([v0, v1, v2].getD k []) (namesL k) := by
  match k, hk with
  | 0, _ => exact ⟨h.na, h.a⟩
  | 1, _ => exact ⟨h.nb, h.b⟩
  | 2, _ => exact ⟨h.nc, h.c⟩
noncomputable abbrev TRet (A₀ : Around) (base : Heap) (outer : List Env) (K : Frag) (mean : ExcName → Option Value) (mg mb : Str → Option Value) (h₀ : Heap) (L : Addr) (m : Str → Option Value) (news : List (Addr × Obj)) (s : Shared) (Q : Value → Shared → Prop) (ds : List Dat) : Prop :=
  ∀ (D : Addr) (us : List Value) (c : Nat) (rest' : List (Addr × Obj)) (g' h' : Heap) (tk' : Nat), DatAll rest' us ds → KtsTurn (frs outer) h₀ g' → Fr g' L h' m → News g' L h' ((D, listOf us.toArray c) :: rest') → (∀ p ∈ news, p ∈ rest') →
    Below A₀ base outer g' → K.In g' → Top Mine.vw loose mean mg mb g' → KtsDicts (frs outer) g' → Q (.ref D) { s with heap := h', toks := tk' }
theorem strs_consI {us : List Value} {x : Str} {ss : List Str} (h : StrsAre us (x :: ss)) : ∃ t vs, us = .str x t :: vs ∧ StrsAre vs ss := by
  cases h with
  | cons _ t h => exact ⟨t, _, rfl, h⟩
theorem four_inv {vs : List Value} {n : Int} (h : StrsAre vs (wordsOf n)) : ∃ a b c t, vs = [a, b, c, .str itsme t] := by
  have h0 : StrsAre vs [missN n 0, missN n 1, missN n 2, itsme] := h
  clear h
  obtain ⟨_, v1, rfl, h1⟩ := strs_consI h0
  obtain ⟨_, v2, rfl, h2⟩ := strs_consI h1
  obtain ⟨_, v3, rfl, h3⟩ := strs_consI h2
  obtain ⟨_, v4, rfl, h4⟩ := strs_consI h3
  have e : v4 = [] := List.eq_nil_of_length_eq_zero h4.length
  exact ⟨_, _, _, _, by rw [e]⟩
theorem ts_fit {led : List (Addr × Obj)} {ts : List Value} {ns : List Int} {i : Nat} (h : DatAll led ts (toldRows ns i)) (hi : i < ns.length) (hn : ns.length ≤ 20) : ts.toArray.size ≤ sizeLine := by
  rw [List.size_toArray, h.length, toldRows, List.length_map, List.length_range]
  exact Nat.le_trans (by lia : i ≤ 20) (by decide)
theorem off5 {b c d e D : Addr} {ob oc od oe : Obj} {a : Addr × Obj} {r : List (Addr × Obj)} (off : ∀ p ∈ a :: (b, ob) :: (c, oc) :: (d, od) :: (e, oe) :: r, p.1 ≠ D) : @Ne Nat b D ∧ @Ne Nat c D ∧ @Ne Nat d D ∧ @Ne Nat e D ∧ ∀ p ∈ r, p.1 ≠ D :=
  ⟨off (b, ob) (by repeat (first | exact .head _ | refine .tail _ ?_)), off (c, oc) (by repeat (first | exact .head _ | refine .tail _ ?_)), off (d, od) (by repeat (first | exact .head _ | refine .tail _ ?_)), off (e, oe) (by repeat (first | exact .head _ | refine .tail _ ?_)), fun p hp => off p (by repeat (first | exact hp | refine .tail _ ?_))⟩
theorem to_turn {g h : Heap} {Lf L' l T D DS W P I NN N0 N1 N2 : Addr} {c1 cS cW nP i : Nat} {n : Int} {ts ys vsS v0 v1 v2 : List Value} {w0 : Option Value} {tW : Tok} {oN oW oI : Obj} {rest rest' own : List (Addr × Obj)} {ns : List Int} {BF : Heap → Prop}
    (N : News g Lf h ((P, { cls := .type "tuple", data := .seq #[.ref D, .ref W] nP }) :: (W, listOf (List.toArray [.str itsme tW]) cW) :: (D, LCg.lst ys) :: (DS, listOf vsS.toArray cS) :: (I, oI) :: (L' + 1, oN) :: (L' + 1 + 1, oW) :: (T, listOf (ts.toArray.push (.ref P)) c1) :: rest'))
    (hn : ns[i]? = some n) (dN : oN.data = .cell (some (.ref NN))) (dW : oW.data = .cell w0) (hN : NamesIn rest NN N0 N1 N2 v0 v1 v2) (hts : DatAll rest ts (toldRows ns i)) (hys : DatAll rest' ys (takenD n 3)) (hown : ∀ p ∈ own, p ∈ rest) (hsub : ∀ p ∈ rest, p ∈ rest')
    (hap : Apart [DS, I, L' + 1, L' + 1 + 1, T] rest') (nA : @Ne Nat (L' + 1) T) (nB : @Ne Nat (L' + 1 + 1) T) (i1 : @Ne Nat (L' + 1) I) (i2 : @Ne Nat (L' + 1 + 1) I) (i3 : @Ne Nat T I)
    (off : @Ne Nat I D ∧ @Ne Nat (L' + 1) D ∧ @Ne Nat (L' + 1 + 1) D ∧ @Ne Nat T D ∧ ∀ p ∈ rest', p.1 ≠ D) {Z : Prop} (ltS : @LT.lt Nat _ I DS ∧ @LT.lt Nat _ (L' + 1) DS ∧ @LT.lt Nat _ (L' + 1 + 1) DS ∧ @LT.lt Nat _ T DS ∧ Z)
    {Z1 Z2 Z3 Z4 : Prop} (ltW : Z1 ∧ Z2 ∧ @LT.lt Nat _ I W ∧ @LT.lt Nat _ (L' + 1) W ∧ @LT.lt Nat _ (L' + 1 + 1) W ∧ @LT.lt Nat _ T W ∧ Z3) {Y1 Y2 Y3 : Prop} (ltP : Y1 ∧ Y2 ∧ Y3 ∧ @LT.lt Nat _ I P ∧ @LT.lt Nat _ (L' + 1) P ∧ @LT.lt Nat _ (L' + 1 + 1) P ∧ @LT.lt Nat _ T P ∧ Z4) (bf : BF g) :
    ∃ led, News g Lf h ((I, oI) :: led) ∧ (∀ p ∈ led, p.1 ≠ I) ∧ ∀ (u : Str → Option Value) t, ToJ L' l ns own BF (i + 1) g (kstB u [(Str.ofString "rights", .int (rightsAt ns (i + 1)) t), (Str.ofString "told", .ref T), (Str.ofString "rows", .ref l)]) led := by
  have eD : toldRows ns (i + 1) = toldRows ns i ++ [rowD n] := by
    unfold toldRows
    rw [List.range_succ, List.map_append, show List.map (fun j => rowD (ns.getD j 0)) [i] = [rowD (ns.getD i 0)] from rfl, List.getD_eq_getElem?_getD, hn]; rfl
  have ms : ∀ p ∈ rest', p ∈ (P, ({ cls := .type "tuple", data := .seq #[.ref D, .ref W] nP } : Obj)) :: (W, listOf (List.toArray [.str itsme tW]) cW) :: (D, LCg.lst ys) :: (DS, listOf vsS.toArray cS) :: rest' := fun p hp => by repeat (first | exact hp | refine .tail _ ?_)
  have dat : DatAll ((P, ({ cls := .type "tuple", data := .seq #[.ref D, .ref W] nP } : Obj)) :: (W, listOf (List.toArray [.str itsme tW]) cW) :: (D, LCg.lst ys) :: (DS, listOf vsS.toArray cS) :: rest') (ts ++ [.ref P]) (toldRows ns (i + 1)) := by
    rw [eD]
    exact (hts.mono fun p hp => ms p (hsub p hp)).append (DatAll.one (.tuple (vs := [_, _]) (.head _) (.cons (.list (.tail _ (.tail _ (.head _))) (hys.mono ms)) (.cons (.list (vs := [_]) (.tail _ (.head _)) (.cons (.str _ _) .nil)) .nil))))
  have key : ∀ a : Addr, @Ne Nat P a → @Ne Nat W a → @Ne Nat D a → @Ne Nat DS a → (∀ p ∈ rest', p.1 ≠ a) → ∀ p ∈ (P, ({ cls := .type "tuple", data := .seq #[.ref D, .ref W] nP } : Obj)) :: (W, listOf (List.toArray [.str itsme tW]) cW) :: (D, LCg.lst ys) :: (DS, listOf vsS.toArray cS) :: rest', p.1 ≠ a := by
    exact fun a k1 k2 k3 k4 k5 => ne_cons k1 (ne_cons k2 (ne_cons k3 (ne_cons k4 k5)))
  obtain ⟨oI', o1, o2, oT, oR⟩ := off
  obtain ⟨s0, s1, s2, s3, _⟩ := ltS
  obtain ⟨_, _, w0', w1, w2, w3, _⟩ := ltW
  obtain ⟨_, _, _, p0, p1, p2, p3, _⟩ := ltP
  have r1 := key (L' + 1) (Nat.ne_of_gt p1) (Nat.ne_of_gt w1) o1.symm (Nat.ne_of_gt s1) fun p hp => hap p hp _ (by repeat (first | exact .head _ | refine .tail _ ?_))
  have r2 := key (L' + 1 + 1) (Nat.ne_of_gt p2) (Nat.ne_of_gt w2) o2.symm (Nat.ne_of_gt s2) fun p hp => hap p hp _ (by repeat (first | exact .head _ | refine .tail _ ?_))
  have r3 := key T (Nat.ne_of_gt p3) (Nat.ne_of_gt w3) oT.symm (Nat.ne_of_gt s3) fun p hp => hap p hp _ (by repeat (first | exact .head _ | refine .tail _ ?_))
  have rI := key I (Nat.ne_of_gt p0) (Nat.ne_of_gt w0') oI'.symm (Nat.ne_of_gt s0) fun p hp => hap p hp _ (by repeat (first | exact .head _ | refine .tail _ ?_))
  refine ⟨(L' + 1, oN) :: (L' + 1 + 1, oW) :: (T, listOf (List.toArray (ts ++ [.ref P])) c1) :: _, ?_, ?_, fun u t => ⟨u, t, oN, oW, w0, NN, N0, N1, N2, v0, v1, v2, T, _, c1, _, rfl, rfl, dN, dW, ⟨hN.a, hN.b, hN.c, ms _ (hsub _ hN.n), ms _ (hsub _ hN.na), ms _ (hsub _ hN.nb), ms _ (hsub _ hN.nc)⟩, dat, fun p hp => ms p (hsub p (hown p hp)), r1, r2, r3, nA, nB, bf⟩⟩
  · rw [List.push_toArray] at N
    exact cb_drop N (by (repeat (refine sub_cons ?_ ?_; focus (repeat (first | exact .head _ | refine .tail _ ?_)))); (repeat (first | exact fun _ hp => hp | refine sub_drop ?_)))
  · exact ne_cons (i1) (ne_cons (i2) (ne_cons (i3) (rI)))
theorem wordsOf_len (n : Int) : (wordsOf n).length = 4 := rfl
theorem told_c (w : World) (mean : ExcName → Option Value) (mg mb : Str → Option Value) (l : Addr) (vs : List Value) (ns : List Int) (c : Nat) (news : List (Addr × Obj)) (dp un : Nat) (gd : Option (List Code)) (cn : Str) (cs : Scope) (a : Addr) (ccd : Value) (cel : List (Str × Addr)) (outer : List Env) (A₀ : Around) (base h₀ : Heap) (L : Addr) (m : Str → Option Value) (s : Shared) (Q E : Value → Shared → Prop)
    (hB : Below A₀ base outer h₀) (hF : Fr h₀ L s.heap m) : (Mine.K w.params).In h₀ → News h₀ L s.heap ((l, listOf vs.toArray c) :: news) → Top Mine.vw loose mean mg mb h₀ → cs.kind = .function → dp + 100 < recursionLimit → un + 900 < cLine → StrsAre vs (ns.map rowS) → ns.length ≤ 20 →
    (Mine.K w.params).In base → Top Mine.vw loose mean mg mb base → KtsDicts (outer.filterMap (·.frame)) h₀ → TRet A₀ base outer (Mine.K w.params) mean mg mb h₀ L m ((l, listOf vs.toArray c) :: news) s Q (toldD ns) →
    wpAny (model PySem.Challenge.pw_ny0408_01 w) { handled := none, depth := dp, frames := some (envX cn cs L a ccd cel :: outer), guards := gd, units := un } (call (.ref 844) [.ref l]) Q E s := by
  refine fill ?_
  k_fill
  intro _ hX hN hT hK hdp hun hvs hn2 hXB hTB hDc hret
  refine wpAny_call ?_
  k_dflt (refine' code_cellsS ?k1 ?k2 ?k3 ?k4 ?k5 ?XB ?TB ?D ?kA ?kF ?cK ?k6 ?k7 ?k8 ?k9 ?kB ?kN ?_ ?c2 ?c3 ?c4; (case kA => exact rfl); (case kF => exact rfl); (case k2 => k_asm); (case k1 => k_asm); (case XB => assumption); (case TB => assumption); (case D => assumption); (case k3 => k_asm); (case k4 => k_asm); (case k5 => k_asm); (case k6 => k_is); (case k7 => k_is); (case k8 => k_room); (case k9 => exact BindsTo.of_eq rfl); (case kB => exact rfl); (case kN => decide +kernel); (case cK => assumption); (case c2 => exact rfl); (case c3 => exact rfl); (case c4 => exact rfl); k_whole; intro g' L' h' tk' cells' FG' F' N' Y' B' X' T' D' l1; (try k_lt l1); k_cells Y'; (try simp only [List.cons_append, List.nil_append] at N'); (try dsimp only); (try k_lift B'); (try k_fold))
  have hlt := lt_all l1.2
  have hne0 : ∀ p ∈ news, p.1 ≠ L' := fun p hp e => absurd (hlt p hp) (by rw [e]; exact Nat.lt_irrefl _)
  have hne1 : ∀ p ∈ news, p.1 ≠ L' + 1 := fun p hp e => by have := hlt p hp; rw [e] at this; exact absurd this (Nat.not_lt_of_le (Nat.le_add_right L' 1))
  have hne2 : ∀ p ∈ news, p.1 ≠ L' + 1 + 1 := fun p hp e => by have := hlt p hp; rw [e] at this; exact absurd this (Nat.not_lt_of_le (Nat.le_add_right L' 2))
  k_with_none
  k_with "call ref" => refine halt ?_
  k_steps
  unfold Halt
  refine wpAny_For ?_
  k_steps
  unfold Halt
  (with_reducible rename Fr _ _ _ _ => F1)
  (with_reducible rename News _ _ _ _ => NZ1)
  have F2 := toB [(Str.ofString "rights", .int 0 _), (Str.ofString "told", .ref _), (Str.ofString "rows", .ref l)] F1 (by kst_all)
  obtain ⟨led0, NZ2, M0, J0⟩ := to_start (ns := ns) (BF := BaseOk w mean mg mb { handled := none, depth := dp, frames := some (envX cn cs L a ccd cel :: outer), guards := gd, units := un } base (envX cn cs L a ccd cel :: outer) g') NZ1 (by assumption) (by assumption) (.cons _ _ (.cons _ _ .nil)) (.cons _ _ (.cons _ _ (.cons _ _ .nil))) (.cons _ _ (.cons _ _ (.cons _ _ .nil))) (by assumption) (by assumption) (by assumption) (by assumption) (by assumption) l1 ⟨KtsTurn.refl, B', X', T', D'⟩
  have hm : ∀ i g m' led, ToJ L' l ns ((l, listOf vs.toArray c) :: news) (BaseOk w mean mg mb { handled := none, depth := dp, frames := some (envX cn cs L a ccd cel :: outer), guards := gd, units := un } base (envX cn cs L a ccd cel :: outer) g') i g m' led → (l, listOf vs.toArray c) ∈ led := by
    rintro i g m' led ⟨u, tr, oN, oW, w0, NN, N0, N1, N2, v0, v1, v2, T, ts, c1, rest, rfl, rfl, _, _, _, _, h, _⟩
    have := h _ (List.mem_cons_self ..)
    simp [this]
  refine forT (fun i g m' led => ToJ L' l ns ((l, listOf vs.toArray c) :: news) _ i g m' led) rfl F2 NZ2 M0 (fun i g m' n h => hm _ _ _ _ h) (J0 _ _) ?_ ?_ ?_
  · k_steps
  · rintro I oI i v g m₁ led h₁ tk₁ hv ⟨u, tr, oN, oW, w0, NN, N0, N1, N2, v0, v1, v2, T, ts, c1, rest, rfl, rfl, dN, dW, hN, hts, hown, r1, r2, r3, nA, nB, TG, BG, XG, PG, DG⟩ hI F₁ N₁
    obtain ⟨x, tx, rfl, hx⟩ := strs_get hvs hv
    obtain ⟨n, hn, rfl⟩ : ∃ n, ns[i]? = some n ∧ rowS n = x := by
      rw [List.getElem?_map] at hx
      cases e : ns[i]? with
      | none => rw [e] at hx; cases hx
      | some n => rw [e] at hx; exact ⟨n, rfl, Option.some.inj hx⟩
    clear F1 F2 NZ1 NZ2 J0 hm M0 B' X' T' D'
    have i1 : @Ne Nat (L' + 1) I := hI (L' + 1, oN) (by repeat (first | exact .head _ | refine .tail _ ?_))
    have i2 : @Ne Nat (L' + 1 + 1) I := hI (L' + 1 + 1, oW) (by repeat (first | exact .head _ | refine .tail _ ?_))
    have i3 : @Ne Nat T I := hI (T, listOf (List.toArray ts) c1) (by repeat (first | exact .head _ | refine .tail _ ?_))
    have rI : ∀ p ∈ rest, p.1 ≠ I := fun p hp => hI p (by repeat (first | exact hp | refine .tail _ ?_))
    clear hI
    simp only [kstB] at F₁
    k_with_none
    k_with "call ref" => refine halt ?_
    k_steps
    unfold Halt
    (with_reducible rename Fr _ _ _ _ => F3)
    (with_reducible rename News _ _ _ _ => N3)
    refine split_c w mean mg mb _ _ ((wordsOf n).map cl) _ _ _ _ _ _ _ _ _ _ _ _ _ _ _ _ _ _ BG F3 XG N3 PG rfl ?_ ?_ (row_lenN n) (row_okN n) (lex_rowN n) (by simp [wordsOf, missL]) hXB hTB DG ?_
    · simp only [depth_deeper]; lia
    · simp only [units_deeper]; lia
    intro DS vsS cS gS hS tkS hvS TS FS NS ltS BS XS PS DS'
    rw [words_cl] at hvS
    k_lt ltS
    clear F3 N3 BG XG PG DG
    dsimp only
    k_with_none
    k_steps
    unfold Halt
    (with_reducible rename Fr _ _ _ _ => F3)
    (with_reducible rename News _ _ _ _ => N3)
    have F4 := toB [(Str.ofString "row", .str (rowS n) tx), (Str.ofString "rights", .int (rightsAt ns i) tr), (Str.ofString "told", .ref T), (Str.ofString "rows", .ref l)] F3 (by kst_all)
    clear F3
    refine asgC (F₀ := F4) (n := 3) (a := 0) rfl (by with_unfolding_all rfl) (by with_unfolding_all rfl) (fun _ => rfl) (fun _ => rfl) rfl (by decide) (fun _ _ => rfl) rfl rfl ?_
    k_steps
    rename _ = Data.cell (some (Value.ref DS)) => dW2
    rename Obj => oW2
    (with_reducible rename Fr _ _ _ _ => F5)
    (with_reducible rename News _ _ _ _ => N5)
    refine SrcC.intro (fun k ys led => ∃ rest', led = (DS, listOf vsS.toArray cS) :: (I, oI) :: (L' + 1, oN) :: (L' + 1 + 1, oW2) :: (T, listOf (List.toArray ts) c1) :: rest' ∧ (∀ p ∈ rest, p ∈ rest') ∧ DatAll rest' ys (takenD n k) ∧ Apart [DS, I, L' + 1, L' + 1 + 1, T] rest') rfl F5 N5 (by assumption) (by decide) (by rfl) (by decide) ⟨_, rfl, fun p hp => hp, .nil, to_apart ltS.2.2.2.2 rI r1 r2 r3⟩ ?_ ?_
    --[DONE
    · rintro k ys _ tk2 I2 oI2 C2 oC2 c2 oX2 D2 hh tkk E' hk ⟨rest', rfl, hsub, hys, hap⟩ dX F6 N6 off ⟨e1, e2, e3, e4, e5, e6⟩
      clear F5 N5
      simp only [List.cons_append, List.nil_append] at N6
      dsimp only
      k_with_none
      k_steps
      unfold Halt
      obtain ⟨hNk, hvk⟩ := hN.at hk
      refine LCg.ListComp_U (F₀ := F6) (by with_unfolding_all rfl) (by decide) (by rfl) (by decide) (by rfl) ?_
      have eN : (NN, listOf (List.toArray [.ref N0, .ref N1, .ref N2]) 0) ∈ rest' := hsub _ hN.n
      have eNk := hsub _ hNk
      k_steps
      (with_reducible rename News _ _ _ _ => N9)
      refine' names_at N9 ?ha ?hb ?hc ?_ ?hs
      case hs => with_unfolding_all rfl
      case ha => exact mem9 eN
      case hb => lia
      case hc => lia
      k_steps
      unfold Halt
      have e0k : (0 + (k : Int)).toNat = k := by lia
      rw [e0k]
      (with_reducible rename Fr _ _ _ _ => F7)
      (with_reducible rename News _ _ _ _ => N7)
      have hnl : (namesL k).length ≤ 3 := by
        match k, hk with
        | 0, _ => decide
        | 1, _ => decide
        | 2, _ => decide
      have hvl := hvk.length
      refine LCg.CompSrc.ledger (by rfl) F7 N7 (mem9 eNk) (by rw [List.size_toArray, hvl]; exact Nat.le_trans hnl (by decide)) ?_
      intro gg
      rw [show (List.toArray ([v0, v1, v2].getD k [])).size = ([v0, v1, v2].getD k []).length from List.size_toArray ..]
      refine compJ (fun j zs led => ∃ rest2, led = (I2, oI2) :: (C2, oC2) :: (c2, oX2) :: (D2, LCg.lst ys) :: (DS, listOf vsS.toArray cS) :: (I, oI) :: (L' + 1, oN) :: (L' + 1 + 1, oW2) :: (T, listOf (List.toArray ts) c1) :: rest2 ∧ (∀ p ∈ rest', p ∈ rest2) ∧ TupsAt rest2 zs (distL n k) j ∧ Apart [I2, C2, c2, D2, DS, I, L' + 1, L' + 1 + 1, T] rest2) ⟨_, rfl, fun p hp => hp, ⟨rfl, fun i v h => by cases h⟩, apart_in off hap⟩ ?_ ?_
      · rintro j zs _ v I3 oI3 C3 oC3 D3 m₃ h3 tk3 E3 hj ⟨rest2, rfl, hsub2, hzs, hap2⟩ hv3 hC3 hx3 F8 N8 off3 ne3
        obtain ⟨one, t1, rfl, hone⟩ := strs_get hvk (by simpa using hv3)
        clear F7 N7
        dsimp only
        k_with_none
        k_with "subscriptTail Name Name ref int" => refine halt ?_
        k_with "call ref" => refine halt ?_
        k_steps
        unfold Halt
        (with_reducible rename News _ _ _ _ => N9)
        refine' KTb.item_list (ws := wordsOf n) ⟨_, (N9 (DS, listOf vsS.toArray cS) (by repeat (first | exact .head _ | refine .tail _ ?_))).1, rfl, _, rfl⟩ hvS (by lia) (by rw [wordsOf_len]; lia) (by lia) (fun t8 _ => ?_) ?wss
        case wss => with_unfolding_all rfl
        rw [e0k]
        k_steps
        unfold Halt
        (with_reducible rename News _ _ _ _ => N9)
        refine lev_c w mean mg mb _ _ _ _ _ _ _ _ _ _ _ _ _ _ _ _ _ _ _ _ _ _ _ _ BS (by k_asm) XS N9 PS rfl ⟨words_len n k, names_len hone, by decide, by decide⟩ ?_ ?_ ?_
        · simp only [depth_deeper]; lia
        · simp only [units_deeper]; lia
        intro t6 h6 tk6 F9 N10
        try dsimp only
        k_with_none
        k_steps
        (with_reducible rename News _ _ _ _ => N11)
        exact LCg.CompEnd.intro (by k_asm) N11 _ sub_ins12 (off_ins9 (by assumption) off3) (.inr ⟨_, mem9 (List.mem_cons_of_mem _ (hsub2 _ eNk)), rfl, _, rfl⟩) ⟨_, rfl, fun p hp => List.mem_cons_of_mem _ (hsub2 p hp), tups_snoc hzs (dist_at hone), apart9 (by assumption) hap2⟩
      · rintro zs _ ⟨rest2, rfl, hsub2, hzs, hap2⟩ D3 h3 tk3 F8 N8 off3
        clear F7 N7
        dsimp only
        k_with_none
        k_with "call builtin:min" => refine halt ?_
        k_steps
        unfold Halt
        (with_reducible rename News _ _ _ _ => N9)
        have hdl : (distL n k).length = (namesL k).length := by rw [distL, List.length_map]
        have hnp : 0 < (namesL k).length := by
          match k, hk with
          | 0, _ => decide
          | 1, _ => decide
          | 2, _ => decide
        refine min_tups (c := zs.length) rfl (by k_asm) N9 List.mem_cons_self (by rw [hdl, hzs.1, hvl]) (by rw [hdl]; exact hnp) (fun i v hv => ?_) ?_ ?_
        · obtain ⟨a9, t9, u9, n9, e9, m9⟩ := hzs.2 i v hv
          exact ⟨a9, t9, u9, n9, e9, List.mem_cons_of_mem _ (mem9 m9)⟩
        · simp only [units_in1, units_deeper]; lia
        · intro v h7 tk7 hv7 F10 N12
          obtain ⟨a9, t9, u9, n9, rfl, m9⟩ := hzs.2 _ v hv7
          k_with_none
          k_steps
          exact EndC.intro F10 N12 _ (fun p hp => List.mem_cons_of_mem _ hp) (apart_off off hap2) ⟨rest2, rfl, fun p hp => hsub2 p (hsub p hp), taken_snoc (hys.mono fun p hp => hsub2 p hp) m9, apart_tl hap2⟩
    --DONE]
    · rintro D hh tkk ys _ ⟨rest', rfl, hsub, hys, hap⟩ F6 N6 off
      clear F5 N5
      obtain ⟨_, _, _, rfl, ⟨a0, t0, u0, k0, rfl, m0⟩, ⟨a1, t1, u1, k1, rfl, m1⟩, ⟨a2, t2, u2, k2, rfl, m2⟩⟩ := taken_inv hys
      have N7 := add6 N6 (mem6 (hsub _ hN.n)) (mem6 (hsub _ hN.nb)) (mem6 (hsub _ hN.nc)) (mem6 m0) (mem6 m1) (mem6 m2)
      have F7 := toB [(Str.ofString "taken", .ref D), (Str.ofString "rights", .int (rightsAt ns i) tr), (Str.ofString "told", .ref T), (Str.ofString "rows", .ref l)] F6 (by kst_all)
      clear N6 F6
      simp only [kstB] at F7
      dsimp only
      k_with_none
      k_with "call builtin:list.index" => refine halt ?_
      k_with "subscriptTail Name Constant ref int" => refine halt ?_
      k_steps
      unfold Halt
      (with_reducible rename News _ _ _ _ => N9)
      refine' names_at N9 ?ha ?hb ?hc ?_ ?hs
      case hs => with_unfolding_all rfl
      case ha => exact List.mem_cons_self
      case hb => decide
      case hc => decide
      k_steps
      unfold Halt
      (with_reducible rename News _ _ _ _ => N9)
      refine' names_at N9 ?ha ?hb ?hc ?_ ?hs
      case hs => with_unfolding_all rfl
      case ha => exact .tail _ (.tail _ (.tail _ (.tail _ (.tail _ (.tail _ (.head _))))))
      case hb => decide
      case hc => decide
      k_steps
      unfold Halt
      refine index_strs ⟨_, (N9 _ (.tail _ (.head _))).1, rfl, _, rfl⟩ hN.b (by decide) (taken_mem n (by decide)) ?_
      have hi1 : (namesL 1).idxOf (takenP n 1).2 < 3 := List.idxOf_lt_length_iff.mpr (taken_mem n (by decide))
      have hi2 : (namesL 2).idxOf (takenP n 2).2 < 3 := List.idxOf_lt_length_iff.mpr (taken_mem n (by decide))
      generalize hj1 : (namesL 1).idxOf (takenP n 1).2 = j1 at hi1 ⊢
      k_with "binaryOp FloorDiv int int" => refine halt ?_
      refine pow_int_small (by lia) (by lia) (by decide) ?_
      k_steps
      unfold Halt
      refine fdiv8 hi1 ?_
      k_steps
      unfold Halt
      (with_reducible rename News _ _ _ _ => N9)
      refine' names_at N9 ?ha ?hb ?hc ?_ ?hs
      case hs => with_unfolding_all rfl
      case ha => exact List.mem_cons_self
      case hb => decide
      case hc => decide
      k_steps
      unfold Halt
      (with_reducible rename News _ _ _ _ => N9)
      refine' names_at N9 ?ha ?hb ?hc ?_ ?hs
      case hs => with_unfolding_all rfl
      case ha => exact .tail _ (.tail _ (.tail _ (.tail _ (.tail _ (.tail _ (.head _))))))
      case hb => decide
      case hc => decide
      k_steps
      unfold Halt
      refine index_strs ⟨_, (N9 _ (.tail _ (.tail _ (.head _)))).1, rfl, _, rfl⟩ hN.c (by decide) (taken_mem n (by decide)) ?_
      generalize hj2 : (namesL 2).idxOf (takenP n 2).2 = j2 at hi2 ⊢
      refine pow_int_small (by lia) (by lia) (by decide) ?_
      k_with "exec Assign cons IfExp" => refine halt ?_
      k_steps
      unfold Halt
      have hbit : (Int.fdiv 256 (8 ^ ((j1 : Nat) : Int).toNat)).fdiv (2 ^ ((j2 : Nat) : Int).toNat) = bitOf n := by
        rw [Int.toNat_natCast, Int.toNat_natCast, bitOf, hj1, hj2]
      (with_reducible rename Fr _ _ _ _ => F8)
      rw [hbit] at F8
      (with_reducible rename News _ _ _ _ => N9)
      have eR : rightsAt ns (i + 1) = rightsOf (rightsAt ns i) n := by rw [rightsAt, List.getD_eq_getElem?_getD, hn]; rfl
      refine cutS (σ := Tok) F8 (fun _ => (D, LCg.lst [.ref a0, .ref a1, .ref a2]) :: (DS, listOf vsS.toArray cS) :: (I, oI) :: (L' + 1, oN) :: (L' + 1 + 1, oW2) :: (T, listOf (List.toArray ts) c1) :: rest') (fun t => [(Str.ofString "rights", .int (rightsAt ns (i + 1)) t), (Str.ofString "taken", .ref D), (Str.ofString "told", .ref T), (Str.ofString "rows", .ref l)]) (fun _ => True) ?_ ?_
      · intro Q' hq
        k_with_none
        k_with "subscriptTail Name Constant ref int" => refine halt ?_
        k_steps
        unfold Halt
        refine' names_at N9 ?ha ?hb ?hc ?_ ?hs
        case hs => with_unfolding_all rfl
        case ha => exact .tail _ (.tail _ (.tail _ (.tail _ (.tail _ (.tail _ (.head _))))))
        case hb => decide
        case hc => decide
        k_with "compareOp Eq str str" => refine halt ?_
        k_steps
        unfold Halt
        have N10 := drop6 N9
        clear N9
        k_with_none
        k_steps
        all_goals ((with_reducible rename Fr _ _ _ _ => F9); (with_reducible rename News _ _ _ _ => N9))
        · rename ((takenP n 0).2 == Str.ofString "grant") = true => hg
          rw [show Builtin.bitOr (rightsAt ns i) (bitOf n) = rightsAt ns (i + 1) by rw [eR, rightsOf, if_pos (by simpa using hg)]] at F9
          exact hq _ _ _ _ trivial (toB [(Str.ofString "rights", .int (rightsAt ns (i + 1)) _), (Str.ofString "taken", .ref D), (Str.ofString "told", .ref T), (Str.ofString "rows", .ref l)] F9 (by kst_all)) N9
        · rename ((takenP n 0).2 == Str.ofString "grant") = false => hg
          rw [show Builtin.bitAnd (rightsAt ns i) (Builtin.bitNot (bitOf n)) = rightsAt ns (i + 1) by rw [eR, rightsOf, if_neg (by simpa using hg)]] at F9
          exact hq _ _ _ _ trivial (toB [(Str.ofString "rights", .int (rightsAt ns (i + 1)) _), (Str.ofString "taken", .ref D), (Str.ofString "told", .ref T), (Str.ofString "rows", .ref l)] F9 (by kst_all)) N9
      · intro t9 u9 h9 tk9 _ F9 N10
        clear F8 N9
        simp only [kstB] at F9
        obtain ⟨x0, x1, x2, x3, rfl⟩ := four_inv hvS
        have o5 := off5 off
        have oDS := off (DS, listOf _ cS) (.head _)
        dsimp only
        k_with_none
        k_with "call builtin:list.append" => refine halt ?_
        k_steps
        unfold Halt
        rename_i ltW _ _ _ _ ltP
        k_dflt (refine' append_K ?k1 ?k2 ?k3 ?_ ?z; (case k1 => k_asm); (case k2 => k_asm); (case k3 => k_upd); (case z => exact ts_fit hts (List.getElem?_eq_some_iff.mp hn).1 hn2); k_whole)
        intro h' F' N'
        k_with_none
        k_steps
        obtain ⟨led', N9, off9, J9⟩ := to_turn (l := l) (own := (l, listOf vs.toArray c) :: news) (BF := BaseOk w mean mg mb { handled := none, depth := dp, frames := some (envX cn cs L a ccd cel :: outer), guards := gd, units := un } base (envX cn cs L a ccd cel :: outer) g') N' hn dN dW2 hN hts hys hown hsub hap nA nB i1 i2 i3 o5 ltS ltW ltP ⟨TG.trans TS, BS, XS, PS, DS'⟩
        (with_reducible rename Fr _ _ _ _ => F8)
        exact ⟨_, _, _, _, led', rfl, toB [(Str.ofString "rights", .int (rightsAt ns (i + 1)) _), (Str.ofString "told", .ref T), (Str.ofString "rows", .ref l)] F8 (by kst_all), N9, off9, J9 _ _⟩
  · rintro g9 h9 tk9 m9 led9 F8 N8 ⟨u, tr, oN, oW, w0, NN, N0, N1, N2, v0, v1, v2, T, ts, c1, rest, rfl, rfl, dN, dW, hN, hts, hown, r1, r2, r3, nA, nB, TG, BG, XG, PG, DG⟩
    clear F1 F2 NZ1 NZ2 J0 hm M0 B' X' T' D'
    rw [hvs.length, List.length_map] at hts
    simp only [kstB, hvs.length, List.length_map] at F8
    dsimp only
    k_with_none
    k_with "call ref" => refine halt ?_
    k_steps
    unfold Halt
    (with_reducible rename News _ _ _ _ => N7)
    refine fm_c w mean mg mb _ _ _ _ _ _ _ _ _ _ _ _ _ _ _ _ _ _ _ _ BG (by k_asm) XG N7 PG rfl trivial ?_ ?_ ?_
    · simp only [depth_deeper]; lia
    · simp only [units_deeper]; lia
    intro t1 h2 tk2 F2 N2
    try dsimp only
    k_with_none
    k_steps
    (with_reducible rename Fr _ _ _ _ => FZ)
    (with_reducible rename News _ _ _ _ => NZ)
    refine ⟨g9, L', _, _, TG, FZ, NZ, ?_⟩
    intro h₀' T2 F2 N2 B2 X2 P2 D2'
    exact hret _ [.ref T, .str _ _] _ _ _ _ _ (.cons (.list (.tail _ (.tail _ (.head _))) (hts.mono fun p hp => by repeat (first | exact hp | refine .tail _ ?_))) (.cons (.str _ _) .nil)) T2 F2 N2 (fun p hp => by repeat (first | exact hown p hp | refine .tail _ ?_)) B2 X2 P2 D2'
end
end
end
section
set_option maxRecDepth 100000
set_option maxHeartbeats 4000000
theorem vw_own : ownsOf Mine.vw = [] := by kernel_rfl
theorem vw_rec : (recsOf Mine.vw).map (·.name) = [Str.ofString "law"] := by kernel_rfl
theorem law_at (P : Params) : nsIn (Mine.K P) mainGlobals (Str.ofString "law") = some (some (.ref 854)) := by kernel_rfl
theorem k_854 (P : Params) : (Mine.K P).lookup 854 = some k854 := by kernel_rfl
theorem k_853 (P : Params) : (Mine.K P).lookup 853 = some (k853 P) := by kernel_rfl
theorem k_764 (P : Params) : (Mine.K P).lookup 764 = some (k764 P) := by kernel_rfl
theorem lookup_ne {a : Addr} {H : Heap} {o : Obj} (e : H.get? 760 = some (tabO none)) (ho : H.get? a = some o) (h : o.data ≠ .fields #[]) : a ≠ 760 := by
  intro q
  subst q
  rw [e] at ho
  exact h (by rw [← Option.some.inj ho]; rfl)
theorem top_hide {w : World} {mean : ExcName → Option Value} {mg mb : Str → Option Value} {H : Heap} (X : (Mine.K w.params).In H) (T : Top Mine.vw loose mean mg mb H) (e : H.get? 760 = some (tabO none)) : Top Mine.vw loose mean mg mb (hideAll H [760]) := by
  have kp : ∀ {b : Addr} {o : Obj}, b ≠ 760 → H.get? b = some o → (hideAll H [760]).get? b = some o := fun hb ho => hideAll_get _ ho (by simpa using hb)
  have kd : ∀ {b : Addr} {o : Obj}, H.get? b = some o → o.data ≠ .fields #[] → (hideAll H [760]).get? b = some o := fun ho hd => kp (lookup_ne e ho hd) ho
  have ns : ∀ {a : Addr} {m : Str → Option Value}, H.Ns a m → (hideAll H [760]).Ns a m := fun ⟨o, es, ep, ho, hd, r⟩ => ⟨o, es, ep, kd ho (by rw [hd]; nofun), hd, r⟩
  have cr : ∀ {cd : Value} {q : Str}, H.CodeRec cd q → (hideAll H [760]).CodeRec cd q := fun ⟨c, o, vs, t, h1, h2, h3, h4⟩ => ⟨c, o, vs, t, h1, kd h2 (by rw [h3]; intro q; injection q with q; rw [q] at h4; simp at h4), h3, h4⟩
  refine { g := ns T.g, b := ns T.b, nolimit := ?_, nodigits := ?_, fn := ?_, own := ?_, const := T.const, free := T.free, builtins := T.builtins, tab := ?_, bmain := ?_, seer := ?_ }
  · obtain ⟨mc, h1, h2⟩ := T.nolimit
    exact ⟨mc, ns h1, h2⟩
  · obtain ⟨mc, h1, h2⟩ := T.nodigits
    exact ⟨mc, ns h1, h2⟩
  · intro d hd
    obtain ⟨a, o, pm, code, doc, h1, h2, h3, h4⟩ := T.fn d hd
    exact ⟨a, o, pm, code, doc, h1, kd h2 (by rw [h3]; nofun), h3, cr h4⟩
  · intro o ho
    rw [vw_own] at ho
    cases ho
  · intro d hd
    obtain ⟨a, o, fd, c, P, h1, h2, h3, h4, h5, h6⟩ := T.tab d hd
    have hn : d.name = Str.ofString "law" := by
      have : d.name ∈ (recsOf Mine.vw).map (·.name) := List.mem_map_of_mem hd
      rw [vw_rec] at this
      simpa using this
    have q1 := mg_of X T.g (law_at w.params)
    rw [hn, q1] at h1
    cases h1
    have q2 := X _ _ (k_854 w.params)
    rw [h2] at q2
    cases Option.some.inj q2
    have q3 := X _ _ (k_853 w.params)
    have hc : c = 853 := by
      have : fd = fd := rfl
      injection h3 with h3
      rw [← h3] at h4
      injection h4 with h4
      exact h4.symm
    subst hc
    have hP : P ≠ 760 := by
      obtain ⟨⟨o, vs, a1, a2, a3, a4⟩, _⟩ := h6
      rw [a1] at q3
      have q4 := Option.some.inj q3
      rw [q4] at a3
      injection a3 with a3
      rw [← a3] at a4
      have a5 : some (Value.ref 851) = some (Value.ref P) := a4
      injection a5 with a5
      injection a5 with a5
      rw [← a5]
      decide
    have k853' : (hideAll H [760]).get? 853 = some (k853 w.params) := kp (by decide) q3
    refine ⟨854, _, fd, 853, P, by rw [hn]; exact q1, kd h2 (by rw [h3]; nofun), h3, h4, ?_, ?_⟩
    · obtain ⟨o, vs, file, tf, flags, tg, inF, text, tt, op, a1, r1, r2, r3, r4, r5, r6, b1, r⟩ := h5
      exact ⟨o, vs, file, tf, flags, tg, inF, text, tt, op, kp (by decide) a1, r1, r2, r3, r4, r5, r6, kp hP b1, r⟩
    · obtain ⟨⟨o, vs, a1, r⟩, t⟩ := h6
      exact ⟨⟨o, vs, kp (by decide) a1, r⟩, kp hP t⟩
  · obtain ⟨bm, ob, h1, h2, h3, h4, h5, h6⟩ := T.bmain
    exact ⟨bm, ob, h1, h2, kd h3 (by rw [h6]; nofun), h4, h5, h6⟩
  · intro hi
    have x := T.seer hi
    refine ⟨?_, ?_, ?_, ?_⟩
    · obtain ⟨mc, a, b⟩ := x.statics
      exact ⟨mc, ns a, b⟩
    · obtain ⟨mc, a, b⟩ := x.mods
      exact ⟨mc, ns a, b⟩
    · obtain ⟨mc, a, b⟩ := x.imp
      exact ⟨mc, ns a, b⟩
    · obtain ⟨mg', bm, ob, a, b, c, d, f⟩ := x.main
      refine ⟨mg', bm, ob, ns a, b, kp ?_ c, d, f⟩
      intro q
      subst q
      rw [e] at c
      cases Option.some.inj c
      cases d
theorem code_top {prog : Program} {w : World} {s : Shared} {K : Frag} {p : Program} {loose : List Str} {mean : ExcName → Option Value} {mg mb : Str → Option Value} {R : Result → Shared → Prop} {name qual : Str} {params : Arguments} {body : List Stmt} {scope : Scope} {dV kV doc pm cdv ct oc : Value} {an od : Option Addr} {osl : Array (Option Value)} {f : Addr} {args : Args} {binds : List (Str × Value)}
    (X : K.In s.heap) (T : Top p loose mean mg mb s.heap)
    (ho : K.lookup f = some ⟨oc, od, .func (fnOf name qual params body scope dV kV doc pm an cdv ct), osl⟩) (hcd : codeIn K cdv qual = true)
    (hbind : BindsTo s (fnOf name qual params body scope dV kV doc pm an cdv ct) args binds) (hloc : ∀ y ∈ binds, scope.names.lookup y.1 = some .local)
    (h : ∀ h₁, h₁.Ns s.heap.objs.size (fun y => binds.reverse.lookup y) → (∀ b o, s.heap.get? b = some o → h₁.get? b = some o) →
      wpAny (model prog w) (callerA.deeper (envOf qual scope s.heap.objs.size f cdv)) (execs body (envOf qual scope s.heap.objs.size f cdv))
        (fun fl s' => R (.ok (.ret (match fl with | .ret v => v | _ => .none))) s')
        (fun e s' => wpAny (model prog w) (callerA.deeper (envOf qual scope s.heap.objs.size f cdv)) (leaving (envOf qual scope s.heap.objs.size f cdv) e) (fun _ s'' => R (.error e) s'') (fun e' s'' => R (.error e') s'') s')
        { s with heap := h₁, toks := s.toks + binds.length })
    (hco : scope.isCoroutine = false) (hgen : scope.isGenerator = false) (hk : scope.kind = .function) (hcell : ∀ x ∈ scope.names, x.2 ≠ .cell) : codeAny (model prog w) callerA (.call (.ref f) args) R s :=
  codeAny_call_def (fd := fnOf name qual params body scope dV kV doc pm an cdv ct) (body := body) (binds := binds) (by decide +kernel) (X _ _ ho) rfl T.nolimit (codeRec_of X hcd) rfl hbind hcell hloc (fun h₁ hns hk₁ => h h₁ hns hk₁) hco hgen hk
theorem k_hide {w : World} {H : Heap} (X : (Mine.K w.params).In H) : (Mine.K w.params).In (hideAll H [760]) := by
  intro a o ho
  refine hideAll_get _ (X a o ho) ?_
  intro hm
  have : a = 760 := by simpa using hm
  subst this
  have : (Mine.K w.params).lookup 760 = none := by kernel_rfl
  rw [this] at ho
  cases ho
end
section
local macro_rules | `(tactic| walk_at "eval ListComp") => `(tactic| (refine halt ?_))
section
set_option maxRecDepth 100000
set_option maxHeartbeats 8000000
noncomputable def drawn (ns : List Int) : List Int := [1404, 1402, 63] ++ ns.take 2
theorem law_ord {g h : Heap} {L : Addr} {A B C D : Addr × Obj} (N : News g L h [A, B, C, D]) : News g L h [D, A, B, C] :=
  cb_drop N (sub_cons (.tail _ (.tail _ (.tail _ (.head _)))) (sub_cons (.head _) (sub_cons (.tail _ (.head _)) (sub_cons (.tail _ (.tail _ (.head _))) fun _ h => absurd h List.not_mem_nil))))
open Classical in
theorem law_dec {a b : List Dat} (h : a = b) : decide (a = b) = true := decide_eq_true h
theorem law_ne {a b : Addr} {oa ob : Obj} (h1 : @LT.lt Nat _ 760 a) (h2 : @LT.lt Nat _ 760 b) : ∀ p ∈ [(a, oa), (b, ob)], p.1 ≠ 760 := by
  intro p hp
  simp only [List.mem_cons, List.not_mem_nil, or_false] at hp
  rcases hp with rfl | rfl
  · exact (Nat.ne_of_lt h1).symm
  · exact (Nat.ne_of_lt h2).symm
theorem law_put {g h : Heap} {L : Addr} {A B : Addr × Obj} {r : List (Addr × Obj)} (N : News g L h (A :: r)) (hb : B ∈ r) : News g L h (B :: A :: r) :=
  cb_drop N (sub_cons (.tail _ hb) fun _ hp => hp)
theorem law_o4 {g h : Heap} {L : Addr} {A B C D E : Addr × Obj} {r : List (Addr × Obj)} (N : News g L h (A :: B :: C :: D :: E :: r)) : News g L h (D :: A :: B :: C :: E :: r) :=
  cb_drop N (by (repeat (refine sub_cons ?_ ?_; focus (repeat (first | exact .head _ | refine .tail _ ?_)))); (repeat (first | exact fun _ hp => hp | refine sub_drop ?_)))
theorem law_n4 {I C D E : Addr} {oI oC oD oT oE : Obj} {r : List (Addr × Obj)} (off : ∀ p ∈ ((760 : Addr), oT) :: (E, oE) :: r, ∀ q ∈ [(I, oI), (C, oC), (D, oD)], p.1 ≠ q.1) (hr : ∀ p ∈ r, p.1 ≠ 760) (hE : E ≠ 760) : ∀ p ∈ (I, oI) :: (C, oC) :: (D, oD) :: (E, oE) :: r, p.1 ≠ 760 := by
  exact ne_cons ((off (760, oT) (.head _) (I, oI) (by repeat (first | exact .head _ | refine .tail _ ?_))).symm) (ne_cons ((off (760, oT) (.head _) (C, oC) (by repeat (first | exact .head _ | refine .tail _ ?_))).symm) (ne_cons ((off (760, oT) (.head _) (D, oD) (by repeat (first | exact .head _ | refine .tail _ ?_))).symm) (ne_cons (hE) (fun p hp => hr p hp))))
theorem law_s4 {I C D T E : Addr × Obj} {r : List (Addr × Obj)} : ∀ p ∈ [I, C, D] ++ T :: E :: r, p ∈ T :: I :: C :: D :: E :: r := by
  intro p hp
  simp only [List.cons_append, List.nil_append, List.mem_cons] at hp ⊢
  rcases hp with h | h | h | h | h | h <;> simp [h]
theorem law_f4 {a : Addr} {oT oT' : Obj} {E : Addr × Obj} {r q : List (Addr × Obj)} (off : ∀ p ∈ (a, oT) :: E :: r, ∀ x ∈ q, p.1 ≠ x.1) : ∀ p ∈ (a, oT') :: E :: r, ∀ x ∈ q, p.1 ≠ x.1 := by
  intro p hp
  rcases List.mem_cons.mp hp with rfl | hp
  · exact off (a, oT) (.head _)
  · exact off p (.tail _ hp)
theorem law_c (w : World) (mean : ExcName → Option Value) (mg mb : Str → Option Value) (s : Shared) (e760 : s.heap.get? 760 = some (tabO none)) (hgen : s.gens = #[]) (l : Addr) (vs : List Value) (ns : List Int) (hl : s.heap.IsList l vs.toArray) (hI : IntsAre vs ns) (hlen : ns.length ≤ 63) (heq : toldD (drawn ns) = dueD (drawn ns)) (hko : ∀ d ∈ dueD (drawn ns), kqdOk 8 d = true) (Q E : Value → Shared → Prop)
    (hret : ∀ h' gs' tk', OldK s.heap h' → AllBare gs' → Q (.bool true) { s with heap := h', gens := gs', toks := tk' }) :
    PySem.Challenge.rw_ny0408_01.prog = PySem.Challenge.rw_ny0408_01.prog → (Mine.K w.params).In s.heap → Top Mine.vw loose mean mg mb s.heap → wpAny (model PySem.Challenge.pw_ny0408_01 w) callerA (call (.ref 854) [.ref l]) Q E s := by
  k_fill
  intro _ X T
  have XH := k_hide X
  have TH := top_hide X T e760
  have hl' : (hideAll s.heap [760]).IsList l vs.toArray := by
    obtain ⟨o, ho, hc, n, hd⟩ := hl
    exact ⟨o, hideAll_get _ ho (by simpa using lookup_ne e760 ho (by rw [hd]; nofun)), hc, n, hd⟩
  have B := below_caller (hideAll s.heap [760])
  refine wpAny_call ?_
  refine' code_top X T ?k6 ?k7 ?k9 ?kB ?_ ?c2 ?c3 ?c4 ?c5
  case k6 => k_is
  case k7 => k_is
  case k9 => exact BindsTo.of_eq rfl
  case kB => exact locs rfl
  case c2 => exact rfl
  case c3 => exact rfl
  case c4 => exact rfl
  case c5 => decide
  intro h₁ hns hk₁
  have F : Fr (hideAll s.heap [760]) s.heap.objs.size h₁ _ := ⟨hns, fun b o e => hk₁ b o (of_hideAll _ e), Nat.le_of_eq (hideAll_size _ _)⟩
  have N : News (hideAll s.heap [760]) s.heap.objs.size h₁ [(760, tabO none)] := fun p hp => by
    rw [List.mem_singleton.mp hp]
    exact ⟨hk₁ _ _ e760, Nat.ne_of_lt (Heap.lt_size e760), hideAll_none _ (.head _)⟩
  have hct : isCodeTable s.heap 760 := ⟨764, _, _, X _ _ (k_764 w.params), rfl, rfl, rfl⟩
  have hkeep : ∀ b o, b ≠ 760 → s.heap.get? b = some o → (hideAll s.heap [760]).get? b = some o := fun b o hb e => hideAll_get _ e (by simpa using hb)
  have hL7 : @LT.lt Nat _ 760 s.heap.objs.size := Heap.lt_size e760
  clear X T hl hns
  generalize hideAll s.heap [760] = H at *
  generalize s.heap.objs.size = L at *
  k_with_none
  k_with "call ref" => refine halt ?_
  dsimp only
  k_steps
  unfold Halt
  (with_reducible rename Fr _ _ _ _ => F1)
  (with_reducible rename News _ _ _ _ => N1)
  rename_i D1 v1 _ hI1 lt1 h0
  have hdl : (drawn ns).length ≤ 20 := by simp [drawn]; lia
  have hI1 : IntsAre v1 (drawn ns) := hI1
  obtain ⟨R, N2, hR7⟩ : ∃ R, News H L _ ((760, tabO none) :: (D1, listOf v1.toArray 0) :: R) ∧ (∀ p ∈ R, p.1 ≠ 760) := ⟨_, law_ord N1, law_ne (And.right (by assumption)) (by assumption)⟩
  refine evalG (F₀ := F1) (by with_unfolding_all rfl) (by decide) (by rfl) (by decide) (by rfl) ?_
  k_steps
  have hvl : v1.length = (drawn ns).length := hI1.length
  refine SrcG.intro (fun i ys gs led => ∃ tb, AllBare gs ∧ led = (760, tabO tb) :: (D1, listOf v1.toArray 0) :: R ∧ StrsAre ys (((drawn ns).take i).map rowS)) rfl F1 N2 (.tail _ (.head _)) (by rw [hvl]; exact Nat.le_trans hdl (by decide)) (fun i ys gs n h => by obtain ⟨tb, _, rfl, _⟩ := h; simp) ⟨none, .of_eq hgen, rfl, .nil⟩ ?_ ?_
  · rintro i ys gs _ v I oI C oC D m₂ h tk E' hv ⟨tb, hG, rfl, hys⟩ hC hx F4 N4 off ⟨e1, e2, e3⟩
    obtain ⟨n, t, rfl, hn⟩ := ints_getD hI1 hv
    clear F1 N1 N2
    simp only [List.cons_append, List.nil_append] at N4
    dsimp only
    k_with_none
    k_with "call ref" => refine halt ?_
    k_steps
    unfold Halt
    (with_reducible rename Fr _ _ _ _ => F5)
    (with_reducible rename News _ _ _ _ => N5)
    refine row_c w mean mg mb n _ tb _ _ _ _ _ _ _ _ _ [] callerA H H L _ _ _ _ B F5 XH (law_o4 N5) TH rfl (by decide +kernel) (by decide +kernel) hG ?_ ?_
    · exact law_n4 off hR7 (Nat.ne_of_gt lt1.2.2)
    intro t7 h7 tk7 gs7 tb7 hG7 F7 N7
    exact EndG.intro F7 N7 _ law_s4 (law_f4 off) ⟨tb7, hG7, rfl, by rw [List.take_succ, hn, List.map_append]; exact hys.append' (.cons _ _ .nil)⟩
  · rintro DL h4 tk4 gs4 ys _ ⟨tb, hG, rfl, hys⟩ F4 N4 off
    clear F1 N1 N2
    rw [hvl, List.take_length] at hys
    dsimp only
    k_with_none
    k_with "call ref" => refine halt ?_
    k_steps
    unfold Halt
    (with_reducible rename Fr _ _ _ _ => F1)
    (with_reducible rename News _ _ _ _ => N1)
    refine told_c w mean mg mb DL ys (drawn ns) ys.length _ _ _ _ _ _ _ _ _ [] callerA H H L _ _ _ _ B F1 XH N1 TH rfl (by decide +kernel) (by decide +kernel) hys hdl XH TH (by intro b hb; cases hb) ?_
    intro DT usT cT restT gT hT tkT dT TT FT NT subT BT XT PT DT'
    clear F1 N1
    dsimp only
    k_with_none
    k_with "call ref" => refine halt ?_
    k_steps
    unfold Halt
    (with_reducible rename Fr _ _ _ _ => F1)
    (with_reducible rename News _ _ _ _ => N1)
    have N2 := law_put N1 (subT (D1, listOf v1.toArray 0) (by repeat (first | exact .head _ | refine .tail _ ?_)))
    refine due_c w mean mg mb D1 v1 (drawn ns) 0 _ _ _ _ _ _ _ _ _ _ callerA H gT L _ _ _ _ BT F1 XT N2 PT rfl (by decide +kernel) (by decide +kernel) hI1 hdl ?_
    intro DD usD cD restD hD tkD dD FD ND subD
    dsimp only
    k_with_none
    k_with "compareOp Eq ref ref" => refine halt ?_
    k_steps
    unfold Halt
    refine kqd_eq (oa := listOf (List.toArray usT) cT) (xs := usT) (ka := cT) (ob := listOf (List.toArray usD) cD) (ys := usD) (kb := cD) ND (List.mem_cons_of_mem _ (subD _ (.tail _ (.head _)))) rfl rfl dT (fun p hp => List.mem_cons_of_mem _ (subD _ (.tail _ (.tail _ hp)))) (.head _) rfl rfl dD (fun p hp => List.mem_cons_of_mem _ hp) (fun d hd => hko d (heq ▸ hd)) hko (by simp only [units_deeper]; decide +kernel) ?_
    rw [law_dec heq]
    have h7 : (760, tabO tb) ∈ (DD, listOf (List.toArray usD) cD) :: restD := List.mem_cons_of_mem _ (subD _ (.tail _ (.tail _ (subT (760, tabO tb) (by repeat (first | exact .head _ | refine .tail _ ?_))))))
    refine hret _ _ _ ⟨fun b o e => ?_, fun b o e => ?_⟩ hG
    · by_cases hb : b = 760
      · subst hb
        rw [e760] at e
        cases Option.some.inj e
        exact .inr (.inl ⟨hct, rfl, _, tabF tb, rfl, by rw [(ND _ h7).1]; simp [tabO, tabF]⟩)
      · exact .inl (FD.keep _ _ (TT.other b o (hkeep b o hb e) (by intro hm; cases hm)))
    · by_cases hb : b = 760
      · subst hb
        exact ⟨_, (ND _ h7).1⟩
      · exact ⟨o, FD.keep _ _ (TT.other b o (hkeep b o hb e) (by intro hm; cases hm))⟩
end
end
end
section
set_option maxRecDepth 100000
set_option maxHeartbeats 8000000
theorem k_760 (P : Params) : (Kp P).lookup 760 = some (tabO none) := by kernel_rfl
theorem k_no760 (P : Params) : (Mine.K P).lookup 760 = none := by kernel_rfl
theorem k_of_p {P : Params} {h : Heap} (X : (Kp P).In h) : (Mine.K P).In h := by
  intro a o ho
  refine X a o ?_
  have hne : a ≠ 760 := fun q => by
    subst q
    rw [k_no760] at ho
    cases ho
  show List.lookup a ((760, _) :: Mine.K P) = some o
  rw [List.lookup_cons]
  have : (a == 760) = false := by simpa using hne
  rw [this]
  exact ho
theorem whole : PySem.Challenge.rw_ny0408_01.Holds := by
  refine hd (by rfl) (by rfl) (by rfl) ?_
  intro w s₀ s₁ mg mb G Y fa o pm cd doc dV kV ho hd' hcd hD hmg hg args vals as hpre hlay hrd hwl hlo
  have KX := kIn_of Y
  refine Ground.open G ?_
  intro T B D TE TW
  wrow_args hpre hlay hrd hwl hlo
  rename_i ns hs hlay0 hL1 hr1 hl2 as1 as2 l vs as3 hL ra w1 r0 hI hr hc1 hc2
  have KX' := k_of_p KX
  have e760 : s₁.heap.get? 760 = some (tabO none) := KX 760 _ (k_760 w.params)
  have q := mg_of KX' T.g (law_at w.params)
  have hfa : fa = 854 := by
    have := hmg.symm.trans q
    injection this with this
    injection this
  subst hfa
  refine law_c w (ExcName.means s₀.heap) mg mb s₁ e760 hg l vs ns hL hI (by lia) (told_due _) (due_ok _) _ _ ?_ rfl KX' T
  intro h' gs' tk' hO hG
  exact ⟨.inl ⟨_, _, [], rfl, fun _ => rfl, .bool true, by first | (with_unfolding_all rfl) | kernel_rfl, fun _ => ⟨.nil, fun _ ha => nomatch ha⟩⟩, hO, rfl, hG⟩
end
end Mine
theorem PySem.Challenge.cw_ny0408_01_holds : PySem.Challenge.rw_ny0408_01.Holds := by
  exact Mine.whole
