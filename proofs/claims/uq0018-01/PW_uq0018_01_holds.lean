import PyProof.Rows.All
import Wide.All
import OpenK.AllK
import Wide.FinOn
import PySem.Challenge.RW_uq0018_01
set_option Elab.async false
section
open PySem PySem.W PyProof.Rows
set_option Elab.async false
set_option maxRecDepth 100000
namespace Mine
noncomputable section
noncomputable abbrev pw : Program := PySem.Challenge.pw_uq0018_01
noncomputable def dPos : Pos := ⟨0, 0, 0, 0⟩
noncomputable def stAt (i : Nat) : Stmt := pw.main.body.getD i (.Pass dPos)
noncomputable def fnP (i : Nat) : Arguments := match stAt i with | .FunctionDef _ a .. => a | _ => ⟨[], [], none, [], [], none, []⟩
noncomputable def fnB (i : Nat) : List Stmt := match stAt i with | .FunctionDef _ _ b .. => b | _ => []
noncomputable def fnS (i : Nat) : Scope := match stAt i with | .FunctionDef _ _ _ _ _ _ s .. => s | _ => default
/-- the table's pairs, read off the text -/
noncomputable def b3Keys : List (Option Expr) := match stAt 7 with | .Assign _ (.Dict ks _ _) _ => ks | _ => []
noncomputable def b3Vals : List Expr := match stAt 7 with | .Assign _ (.Dict _ vs _) _ => vs | _ => []
noncomputable def keyN : Option Expr → Int
  | some (.Constant (.int i) _ _) => i
  | _ => 0
noncomputable def valN : Expr → Str
  | .Constant (.str x) _ _ => x
  | _ => ⟨#[]⟩
noncomputable def b3P : List (Int × Str) := (b3Keys.zip b3Vals).map fun x => (keyN x.1, valN x.2)
/-- pairs as entries: three tokens a pair, the key's, the text's, the hash's -/
noncomputable def entL : List (Int × Str) → Nat → List DictEntry
  | [], _ => []
  | x :: r, t => ⟨x.1, .int x.1 t, .str x.2 (t + 1)⟩ :: entL r (t + 3)
/-- the last few: two tokens a pair first -/
noncomputable def entS : List (Int × Str) → Nat → List DictEntry
  | [], _ => []
  | x :: r, t => ⟨x.1, .int x.1 t, .str x.2 (t + 1)⟩ :: entS r (t + 2)
noncomputable def dictO (es : List DictEntry) (n : Nat) : Obj := ⟨.type "dict", none, .dict es.toArray n, #[]⟩
noncomputable def subsC : List (List (Int × Str)) → Nat → List Obj
  | [], _ => []
  | c :: r, t => dictO (entL c t) 17 :: subsC r (t + 51)
noncomputable def b3C : List (Int × Str) := b3P.take 17
noncomputable def b3Cs : List (List (Int × Str)) := (List.range 37).map fun i => (b3P.drop (17 * (i + 1))).take 17
noncomputable def b3X : List (Int × Str) := b3P.drop 646
noncomputable def b3Objs : List Obj := dictO (entL b3C 290 ++ entL b3Cs.flatten (290 + 51) ++ entS b3X (290 + 51 + 51 * b3Cs.length)) (17 + 17 * b3Cs.length + b3X.length) :: (subsC b3Cs (290 + 51) ++ [dictO (entS b3X (290 + 51 + 51 * b3Cs.length)) b3X.length])
noncomputable def x11sA (P : Params) : Obj := ⟨(.type "tuple"), none, (.seq (List.toArray []) 0), List.toArray []⟩
noncomputable def x12sA (P : Params) : Obj := ⟨.none, none, (.fields (List.toArray [])), List.toArray []⟩
noncomputable def x13sA (P : Params) : Obj := ⟨(.type "code"), none, (.fields (List.toArray [(.str (Str.ofString "<module>") 182), (.str (Str.ofString "<module>") 183), (.str (Str.ofString "/claim/cut.py") 184), (.int 1 0), (.int 0 0), (.int 0 0), (.int 0 0), (.int 0 0), (.ref 11), (.bool false), (.int 181 0), (.ref 12), .none, .none, .none, .none, (.int 185 0), (.int 1 0), (.str (Str.ofString "/claim/cut.py") 186)])), List.toArray []⟩
noncomputable def x14sA (P : Params) : Obj := ⟨(.type "frame"), none, .plain, List.toArray [some (.ref 13), some (.ref 3), some (.ref 3), none, some (.str (Str.ofString "__main__") 164), none, some (.ref 0)]⟩
noncomputable def objsA (P : Params) : List Obj := [boot_o_0 P, boot_o_1 P, boot_o_2 P, boot_o_3 P, boot_o_4 P, boot_o_5 P, boot_o_6 P, boot_o_7 P, boot_o_8 P, boot_o_9 P, boot_o_10 P, x11sA P, x12sA P, x13sA P, x14sA P]
noncomputable def x3s4 (P : Params) : Obj := ⟨(.type "dict"), none, (.dict (List.toArray [⟨(PyData.keyHash P (Str.ofString "__name__")), (.str (Str.ofString "__name__") 165), (.str (Str.ofString "cpy313.stringprep") 221)⟩, ⟨(PyData.keyHash P (Str.ofString "__doc__")), (.str (Str.ofString "__doc__") 166), .none⟩, ⟨(PyData.keyHash P (Str.ofString "__package__")), (.str (Str.ofString "__package__") 167), .none⟩, ⟨(PyData.keyHash P (Str.ofString "__loader__")), (.str (Str.ofString "__loader__") 168), (.builtin "__main__.__loader__#opaque")⟩, ⟨(PyData.keyHash P (Str.ofString "__spec__")), (.str (Str.ofString "__spec__") 169), .none⟩, ⟨(PyData.keyHash P (Str.ofString "__annotations__")), (.str (Str.ofString "__annotations__") 170), (.ref 6)⟩, ⟨(PyData.keyHash P (Str.ofString "__builtins__")), (.str (Str.ofString "__builtins__") 171), (.ref 4)⟩, ⟨(PyData.keyHash P (Str.ofString "__file__")), (.str (Str.ofString "__file__") 173), (.str (Str.ofString "/claim/cut.py") 172)⟩, ⟨(PyData.keyHash P (Str.ofString "__cached__")), (.str (Str.ofString "__cached__") 174), .none⟩, ⟨(PyData.keyHash P (Str.ofString "_iter_escaped_chars")), (.str (Str.ofString "_iter_escaped_chars") 198), (.ref 21)⟩, ⟨(PyData.keyHash P (Str.ofString "_strip_quoted_realnames")), (.str (Str.ofString "_strip_quoted_realnames") 210), (.ref 28)⟩, ⟨(PyData.keyHash P (Str.ofString "_check_parenthesis")), (.str (Str.ofString "_check_parenthesis") 220), (.ref 35)⟩]) 12), List.toArray []⟩
noncomputable def x12s4 (P : Params) : Obj := ⟨.none, none, (.fields (List.toArray [(.int 2 0), (.int 0 0), (.ref 20), (.int 15 0), (.int 0 0), (.ref 27), (.int 33 0), (.int 0 0), (.ref 34)])), List.toArray []⟩
noncomputable def x15s4 (P : Params) : Obj := ⟨(.type "tuple"), none, (.seq (List.toArray []) 0), List.toArray []⟩
noncomputable def x16s4 (P : Params) : Obj := ⟨.none, none, (.fields (List.toArray [])), List.toArray []⟩
noncomputable def x17s4 (P : Params) : Obj := ⟨(.type "tuple"), none, (.seq (List.toArray [(.str (Str.ofString "addr") 192), (.str (Str.ofString "pos") 193), (.str (Str.ofString "escape") 194), (.str (Str.ofString "ch") 195)]) 0), List.toArray []⟩
noncomputable def x18s4 (P : Params) : Obj := ⟨(.type "tuple"), none, (.seq (List.toArray []) 0), List.toArray []⟩
noncomputable def x19s4 (P : Params) : Obj := ⟨.none, none, (.func { name := (Str.ofString "_iter_escaped_chars"), qualname := (Str.ofString "_iter_escaped_chars"), params := fnP 1, body := .stmts (fnB 1), scope := fnS 1, globals := 0, closure := [], defaults := .none, kwdefaults := .none, doc := .none, pyModule := .none, annotations := none, code := .none, closureTuple := .none, builtins := 0 }), List.toArray []⟩
noncomputable def x20s4 (P : Params) : Obj := ⟨(.type "code"), none, (.fields (List.toArray [(.str (Str.ofString "_iter_escaped_chars") 189), (.str (Str.ofString "_iter_escaped_chars") 190), (.str (Str.ofString "/claim/cut.py") 191), (.int 2 0), (.int 1 0), (.int 0 0), (.int 0 0), (.int 35 0), (.ref 15), (.bool true), (.int 181 0), (.ref 16), .none, (.ref 17), (.ref 18), (.ref 19), (.int 196 0), (.int 2 0), (.str (Str.ofString "/claim/cut.py") 197)])), List.toArray []⟩
noncomputable def x21s4 (P : Params) : Obj := ⟨(.type "function"), none, (.func { name := (Str.ofString "_iter_escaped_chars"), qualname := (Str.ofString "_iter_escaped_chars"), params := fnP 1, body := .stmts (fnB 1), scope := fnS 1, globals := 3, closure := [], defaults := .none, kwdefaults := .none, doc := .none, pyModule := (.str (Str.ofString "cpy313.email.utils") 187), annotations := none, code := (.ref 20), closureTuple := .none, builtins := 0 }), List.toArray []⟩
noncomputable def x22s4 (P : Params) : Obj := ⟨(.type "tuple"), none, (.seq (List.toArray []) 0), List.toArray []⟩
noncomputable def x23s4 (P : Params) : Obj := ⟨.none, none, (.fields (List.toArray [])), List.toArray []⟩
noncomputable def x24s4 (P : Params) : Obj := ⟨(.type "tuple"), none, (.seq (List.toArray [(.str (Str.ofString "addr") 202), (.str (Str.ofString "start") 203), (.str (Str.ofString "open_pos") 204), (.str (Str.ofString "result") 205), (.str (Str.ofString "pos") 206), (.str (Str.ofString "ch") 207)]) 0), List.toArray []⟩
noncomputable def x25s4 (P : Params) : Obj := ⟨(.type "tuple"), none, (.seq (List.toArray []) 0), List.toArray []⟩
noncomputable def x26s4 (P : Params) : Obj := ⟨.none, none, (.func { name := (Str.ofString "_strip_quoted_realnames"), qualname := (Str.ofString "_strip_quoted_realnames"), params := fnP 2, body := .stmts (fnB 2), scope := fnS 2, globals := 0, closure := [], defaults := .none, kwdefaults := .none, doc := .none, pyModule := .none, annotations := none, code := .none, closureTuple := .none, builtins := 0 }), List.toArray []⟩
noncomputable def x27s4 (P : Params) : Obj := ⟨(.type "code"), none, (.fields (List.toArray [(.str (Str.ofString "_strip_quoted_realnames") 199), (.str (Str.ofString "_strip_quoted_realnames") 200), (.str (Str.ofString "/claim/cut.py") 201), (.int 15 0), (.int 1 0), (.int 0 0), (.int 0 0), (.int 3 0), (.ref 22), (.bool true), (.int 181 0), (.ref 23), .none, (.ref 24), (.ref 25), (.ref 26), (.int 208 0), (.int 15 0), (.str (Str.ofString "/claim/cut.py") 209)])), List.toArray []⟩
noncomputable def x28s4 (P : Params) : Obj := ⟨(.type "function"), none, (.func { name := (Str.ofString "_strip_quoted_realnames"), qualname := (Str.ofString "_strip_quoted_realnames"), params := fnP 2, body := .stmts (fnB 2), scope := fnS 2, globals := 3, closure := [], defaults := .none, kwdefaults := .none, doc := .none, pyModule := (.str (Str.ofString "cpy313.email.utils") 187), annotations := none, code := (.ref 27), closureTuple := .none, builtins := 0 }), List.toArray []⟩
noncomputable def x29s4 (P : Params) : Obj := ⟨(.type "tuple"), none, (.seq (List.toArray []) 0), List.toArray []⟩
noncomputable def x30s4 (P : Params) : Obj := ⟨.none, none, (.fields (List.toArray [])), List.toArray []⟩
noncomputable def x31s4 (P : Params) : Obj := ⟨(.type "tuple"), none, (.seq (List.toArray [(.str (Str.ofString "addr") 214), (.str (Str.ofString "opens") 215), (.str (Str.ofString "pos") 216), (.str (Str.ofString "ch") 217)]) 0), List.toArray []⟩
noncomputable def x32s4 (P : Params) : Obj := ⟨(.type "tuple"), none, (.seq (List.toArray []) 0), List.toArray []⟩
noncomputable def x33s4 (P : Params) : Obj := ⟨.none, none, (.func { name := (Str.ofString "_check_parenthesis"), qualname := (Str.ofString "_check_parenthesis"), params := fnP 3, body := .stmts (fnB 3), scope := fnS 3, globals := 0, closure := [], defaults := .none, kwdefaults := .none, doc := .none, pyModule := .none, annotations := none, code := .none, closureTuple := .none, builtins := 0 }), List.toArray []⟩
noncomputable def x34s4 (P : Params) : Obj := ⟨(.type "code"), none, (.fields (List.toArray [(.str (Str.ofString "_check_parenthesis") 211), (.str (Str.ofString "_check_parenthesis") 212), (.str (Str.ofString "/claim/cut.py") 213), (.int 33 0), (.int 1 0), (.int 0 0), (.int 0 0), (.int 3 0), (.ref 29), (.bool true), (.int 181 0), (.ref 30), .none, (.ref 31), (.ref 32), (.ref 33), (.int 218 0), (.int 33 0), (.str (Str.ofString "/claim/cut.py") 219)])), List.toArray []⟩
noncomputable def x35s4 (P : Params) : Obj := ⟨(.type "function"), none, (.func { name := (Str.ofString "_check_parenthesis"), qualname := (Str.ofString "_check_parenthesis"), params := fnP 3, body := .stmts (fnB 3), scope := fnS 3, globals := 3, closure := [], defaults := .none, kwdefaults := .none, doc := .none, pyModule := (.str (Str.ofString "cpy313.email.utils") 187), annotations := none, code := (.ref 34), closureTuple := .none, builtins := 0 }), List.toArray []⟩
noncomputable def objs4 (P : Params) : List Obj := [boot_o_0 P, boot_o_1 P, boot_o_2 P, x3s4 P, boot_o_4 P, boot_o_5 P, boot_o_6 P, boot_o_7 P, boot_o_8 P, boot_o_9 P, boot_o_10 P, x11sA P, x12s4 P, x13sA P, x14sA P, x15s4 P, x16s4 P, x17s4 P, x18s4 P, x19s4 P, x20s4 P, x21s4 P, x22s4 P, x23s4 P, x24s4 P, x25s4 P, x26s4 P, x27s4 P, x28s4 P, x29s4 P, x30s4 P, x31s4 P, x32s4 P, x33s4 P, x34s4 P, x35s4 P]
noncomputable def x3s5 (P : Params) : Obj := ⟨(.type "dict"), none, (.dict (List.toArray [⟨(PyData.keyHash P (Str.ofString "__name__")), (.str (Str.ofString "__name__") 165), (.str (Str.ofString "cpy313.stringprep") 221)⟩, ⟨(PyData.keyHash P (Str.ofString "__doc__")), (.str (Str.ofString "__doc__") 166), .none⟩, ⟨(PyData.keyHash P (Str.ofString "__package__")), (.str (Str.ofString "__package__") 167), .none⟩, ⟨(PyData.keyHash P (Str.ofString "__loader__")), (.str (Str.ofString "__loader__") 168), (.builtin "__main__.__loader__#opaque")⟩, ⟨(PyData.keyHash P (Str.ofString "__spec__")), (.str (Str.ofString "__spec__") 169), .none⟩, ⟨(PyData.keyHash P (Str.ofString "__annotations__")), (.str (Str.ofString "__annotations__") 170), (.ref 6)⟩, ⟨(PyData.keyHash P (Str.ofString "__builtins__")), (.str (Str.ofString "__builtins__") 171), (.ref 4)⟩, ⟨(PyData.keyHash P (Str.ofString "__file__")), (.str (Str.ofString "__file__") 173), (.str (Str.ofString "/claim/cut.py") 172)⟩, ⟨(PyData.keyHash P (Str.ofString "__cached__")), (.str (Str.ofString "__cached__") 174), .none⟩, ⟨(PyData.keyHash P (Str.ofString "_iter_escaped_chars")), (.str (Str.ofString "_iter_escaped_chars") 198), (.ref 21)⟩, ⟨(PyData.keyHash P (Str.ofString "_strip_quoted_realnames")), (.str (Str.ofString "_strip_quoted_realnames") 210), (.ref 28)⟩, ⟨(PyData.keyHash P (Str.ofString "_check_parenthesis")), (.str (Str.ofString "_check_parenthesis") 220), (.ref 35)⟩, ⟨(PyData.keyHash P (Str.ofString "b1_set")), (.str (Str.ofString "b1_set") 282), (.ref 43)⟩]) 13), List.toArray []⟩
noncomputable def x36s5 (P : Params) : Obj := ⟨(.type "list"), none, (.seq (List.toArray [(.int 173 223), (.int 847 224), (.int 6150 225), (.int 6155 226), (.int 6156 227), (.int 6157 228), (.int 8203 229), (.int 8204 230), (.int 8205 231), (.int 8288 232), (.int 65279 233)]) 0), List.toArray []⟩
noncomputable def x37s5 (P : Params) : Obj := ⟨(.type "range"), none, (.fields (List.toArray [(.int 65024 234), (.int 65040 235), (.int 1 236)])), List.toArray []⟩
noncomputable def x38s5 (P : Params) : Obj := ⟨(.type "list"), none, (.seq (List.toArray [(.int 65024 239), (.int 65025 240), (.int 65026 241), (.int 65027 242), (.int 65028 243), (.int 65029 244), (.int 65030 245), (.int 65031 246), (.int 65032 247), (.int 65033 248), (.int 65034 249), (.int 65035 250), (.int 65036 251), (.int 65037 252), (.int 65038 253), (.int 65039 254)]) 18), List.toArray []⟩
noncomputable def x39s5 (P : Params) : Obj := ⟨(.type "range_iterator"), none, (.fields (List.toArray [(.int 65040 0), (.int 0 0), (.int 1 0)])), List.toArray []⟩
noncomputable def x40s5 (P : Params) : Obj := ⟨(.type "tuple"), none, (.seq (List.toArray []) 0), List.toArray []⟩
noncomputable def x41s5 (P : Params) : Obj := ⟨(.type "StopIteration"), none, (.fields (List.toArray [(.ref 40), .none, .none, .none, (.bool false), .none])), List.toArray []⟩
noncomputable def x42s5 (P : Params) : Obj := ⟨(.type "list"), none, (.seq (List.toArray [(.int 173 223), (.int 847 224), (.int 6150 225), (.int 6155 226), (.int 6156 227), (.int 6157 228), (.int 8203 229), (.int 8204 230), (.int 8205 231), (.int 8288 232), (.int 65279 233), (.int 65024 239), (.int 65025 240), (.int 65026 241), (.int 65027 242), (.int 65028 243), (.int 65029 244), (.int 65030 245), (.int 65031 246), (.int 65032 247), (.int 65033 248), (.int 65034 249), (.int 65035 250), (.int 65036 251), (.int 65037 252), (.int 65038 253), (.int 65039 254)]) 0), List.toArray []⟩
noncomputable def x43s5 (P : Params) : Obj := ⟨(.type "set"), none, (.set (List.toArray [(65024, (.int 65024 239)), (65025, (.int 65025 240)), (65026, (.int 65026 241)), (65027, (.int 65027 242)), (65028, (.int 65028 243)), (65029, (.int 65029 244)), (6150, (.int 6150 225)), (65030, (.int 65030 245)), (65031, (.int 65031 246)), (65032, (.int 65032 247)), (65033, (.int 65033 248)), (6155, (.int 6155 226)), (6156, (.int 6156 227)), (6157, (.int 6157 228)), (8203, (.int 8203 229)), (8204, (.int 8204 230)), (8205, (.int 8205 231)), (65034, (.int 65034 249)), (65035, (.int 65035 250)), (65036, (.int 65036 251)), (65037, (.int 65037 252)), (65038, (.int 65038 253)), (65039, (.int 65039 254)), (173, (.int 173 223)), (847, (.int 847 224)), (8288, (.int 8288 232)), (65279, (.int 65279 233))]) 29 { mask := 127, place := List.toArray [0, 1, 2, 3, 4, 5, 6, 7, 8, 9, 10, 11, 12, 13, 14, 15, 16, 17, 18, 19, 20, 21, 22, 45, 79, 96, 127], dummies := List.toArray [], finger := 0, led := !P.followText "set-order", moves := 2, plain := true }), List.toArray []⟩
noncomputable def x44s5 (P : Params) : Obj := ⟨(.type "list_iterator"), none, (.fields (List.toArray [.none, (.int 27 0)])), List.toArray []⟩
noncomputable def x45s5 (P : Params) : Obj := ⟨(.type "tuple"), none, (.seq (List.toArray []) 0), List.toArray []⟩
noncomputable def x46s5 (P : Params) : Obj := ⟨(.type "StopIteration"), none, (.fields (List.toArray [(.ref 45), .none, .none, .none, (.bool false), .none])), List.toArray []⟩
noncomputable def objs5 (P : Params) : List Obj := [boot_o_0 P, boot_o_1 P, boot_o_2 P, x3s5 P, boot_o_4 P, boot_o_5 P, boot_o_6 P, boot_o_7 P, boot_o_8 P, boot_o_9 P, boot_o_10 P, x11sA P, x12s4 P, x13sA P, x14sA P, x15s4 P, x16s4 P, x17s4 P, x18s4 P, x19s4 P, x20s4 P, x21s4 P, x22s4 P, x23s4 P, x24s4 P, x25s4 P, x26s4 P, x27s4 P, x28s4 P, x29s4 P, x30s4 P, x31s4 P, x32s4 P, x33s4 P, x34s4 P, x35s4 P, x36s5 P, x37s5 P, x38s5 P, x39s5 P, x40s5 P, x41s5 P, x42s5 P, x43s5 P, x44s5 P, x45s5 P, x46s5 P]
noncomputable def x3s6 (P : Params) : Obj := ⟨(.type "dict"), none, (.dict (List.toArray [⟨(PyData.keyHash P (Str.ofString "__name__")), (.str (Str.ofString "__name__") 165), (.str (Str.ofString "cpy313.stringprep") 221)⟩, ⟨(PyData.keyHash P (Str.ofString "__doc__")), (.str (Str.ofString "__doc__") 166), .none⟩, ⟨(PyData.keyHash P (Str.ofString "__package__")), (.str (Str.ofString "__package__") 167), .none⟩, ⟨(PyData.keyHash P (Str.ofString "__loader__")), (.str (Str.ofString "__loader__") 168), (.builtin "__main__.__loader__#opaque")⟩, ⟨(PyData.keyHash P (Str.ofString "__spec__")), (.str (Str.ofString "__spec__") 169), .none⟩, ⟨(PyData.keyHash P (Str.ofString "__annotations__")), (.str (Str.ofString "__annotations__") 170), (.ref 6)⟩, ⟨(PyData.keyHash P (Str.ofString "__builtins__")), (.str (Str.ofString "__builtins__") 171), (.ref 4)⟩, ⟨(PyData.keyHash P (Str.ofString "__file__")), (.str (Str.ofString "__file__") 173), (.str (Str.ofString "/claim/cut.py") 172)⟩, ⟨(PyData.keyHash P (Str.ofString "__cached__")), (.str (Str.ofString "__cached__") 174), .none⟩, ⟨(PyData.keyHash P (Str.ofString "_iter_escaped_chars")), (.str (Str.ofString "_iter_escaped_chars") 198), (.ref 21)⟩, ⟨(PyData.keyHash P (Str.ofString "_strip_quoted_realnames")), (.str (Str.ofString "_strip_quoted_realnames") 210), (.ref 28)⟩, ⟨(PyData.keyHash P (Str.ofString "_check_parenthesis")), (.str (Str.ofString "_check_parenthesis") 220), (.ref 35)⟩, ⟨(PyData.keyHash P (Str.ofString "b1_set")), (.str (Str.ofString "b1_set") 282), (.ref 43)⟩, ⟨(PyData.keyHash P (Str.ofString "in_table_b1")), (.str (Str.ofString "in_table_b1") 289), (.ref 53)⟩]) 14), List.toArray []⟩
noncomputable def x12s6 (P : Params) : Obj := ⟨.none, none, (.fields (List.toArray [(.int 2 0), (.int 0 0), (.ref 20), (.int 15 0), (.int 0 0), (.ref 27), (.int 33 0), (.int 0 0), (.ref 34), (.int 46 0), (.int 0 0), (.ref 52)])), List.toArray []⟩
noncomputable def x47s6 (P : Params) : Obj := ⟨(.type "tuple"), none, (.seq (List.toArray []) 0), List.toArray []⟩
noncomputable def x48s6 (P : Params) : Obj := ⟨.none, none, (.fields (List.toArray [])), List.toArray []⟩
noncomputable def x49s6 (P : Params) : Obj := ⟨(.type "tuple"), none, (.seq (List.toArray [(.str (Str.ofString "code") 286)]) 0), List.toArray []⟩
noncomputable def x50s6 (P : Params) : Obj := ⟨(.type "tuple"), none, (.seq (List.toArray []) 0), List.toArray []⟩
noncomputable def x51s6 (P : Params) : Obj := ⟨.none, none, (.func { name := (Str.ofString "in_table_b1"), qualname := (Str.ofString "in_table_b1"), params := fnP 6, body := .stmts (fnB 6), scope := fnS 6, globals := 0, closure := [], defaults := .none, kwdefaults := .none, doc := .none, pyModule := .none, annotations := none, code := .none, closureTuple := .none, builtins := 0 }), List.toArray []⟩
noncomputable def x52s6 (P : Params) : Obj := ⟨(.type "code"), none, (.fields (List.toArray [(.str (Str.ofString "in_table_b1") 283), (.str (Str.ofString "in_table_b1") 284), (.str (Str.ofString "/claim/cut.py") 285), (.int 46 0), (.int 1 0), (.int 0 0), (.int 0 0), (.int 3 0), (.ref 47), (.bool true), (.int 181 0), (.ref 48), .none, (.ref 49), (.ref 50), (.ref 51), (.int 287 0), (.int 46 0), (.str (Str.ofString "/claim/cut.py") 288)])), List.toArray []⟩
noncomputable def x53s6 (P : Params) : Obj := ⟨(.type "function"), none, (.func { name := (Str.ofString "in_table_b1"), qualname := (Str.ofString "in_table_b1"), params := fnP 6, body := .stmts (fnB 6), scope := fnS 6, globals := 3, closure := [], defaults := .none, kwdefaults := .none, doc := .none, pyModule := (.str (Str.ofString "cpy313.stringprep") 221), annotations := none, code := (.ref 52), closureTuple := .none, builtins := 0 }), List.toArray []⟩
noncomputable def objs6 (P : Params) : List Obj := [boot_o_0 P, boot_o_1 P, boot_o_2 P, x3s6 P, boot_o_4 P, boot_o_5 P, boot_o_6 P, boot_o_7 P, boot_o_8 P, boot_o_9 P, boot_o_10 P, x11sA P, x12s6 P, x13sA P, x14sA P, x15s4 P, x16s4 P, x17s4 P, x18s4 P, x19s4 P, x20s4 P, x21s4 P, x22s4 P, x23s4 P, x24s4 P, x25s4 P, x26s4 P, x27s4 P, x28s4 P, x29s4 P, x30s4 P, x31s4 P, x32s4 P, x33s4 P, x34s4 P, x35s4 P, x36s5 P, x37s5 P, x38s5 P, x39s5 P, x40s5 P, x41s5 P, x42s5 P, x43s5 P, x44s5 P, x45s5 P, x46s5 P, x47s6 P, x48s6 P, x49s6 P, x50s6 P, x51s6 P, x52s6 P, x53s6 P]
noncomputable def x3s7 (P : Params) : Obj := ⟨(.type "dict"), none, (.dict (List.toArray [⟨(PyData.keyHash P (Str.ofString "__name__")), (.str (Str.ofString "__name__") 165), (.str (Str.ofString "cpy313.stringprep") 221)⟩, ⟨(PyData.keyHash P (Str.ofString "__doc__")), (.str (Str.ofString "__doc__") 166), .none⟩, ⟨(PyData.keyHash P (Str.ofString "__package__")), (.str (Str.ofString "__package__") 167), .none⟩, ⟨(PyData.keyHash P (Str.ofString "__loader__")), (.str (Str.ofString "__loader__") 168), (.builtin "__main__.__loader__#opaque")⟩, ⟨(PyData.keyHash P (Str.ofString "__spec__")), (.str (Str.ofString "__spec__") 169), .none⟩, ⟨(PyData.keyHash P (Str.ofString "__annotations__")), (.str (Str.ofString "__annotations__") 170), (.ref 6)⟩, ⟨(PyData.keyHash P (Str.ofString "__builtins__")), (.str (Str.ofString "__builtins__") 171), (.ref 4)⟩, ⟨(PyData.keyHash P (Str.ofString "__file__")), (.str (Str.ofString "__file__") 173), (.str (Str.ofString "/claim/cut.py") 172)⟩, ⟨(PyData.keyHash P (Str.ofString "__cached__")), (.str (Str.ofString "__cached__") 174), .none⟩, ⟨(PyData.keyHash P (Str.ofString "_iter_escaped_chars")), (.str (Str.ofString "_iter_escaped_chars") 198), (.ref 21)⟩, ⟨(PyData.keyHash P (Str.ofString "_strip_quoted_realnames")), (.str (Str.ofString "_strip_quoted_realnames") 210), (.ref 28)⟩, ⟨(PyData.keyHash P (Str.ofString "_check_parenthesis")), (.str (Str.ofString "_check_parenthesis") 220), (.ref 35)⟩, ⟨(PyData.keyHash P (Str.ofString "b1_set")), (.str (Str.ofString "b1_set") 282), (.ref 43)⟩, ⟨(PyData.keyHash P (Str.ofString "in_table_b1")), (.str (Str.ofString "in_table_b1") 289), (.ref 53)⟩, ⟨(PyData.keyHash P (Str.ofString "b3_exceptions")), (.str (Str.ofString "b3_exceptions") 2240), (.ref 54)⟩]) 15), List.toArray []⟩
noncomputable def objs7 (P : Params) : List Obj := [boot_o_0 P, boot_o_1 P, boot_o_2 P, x3s7 P, boot_o_4 P, boot_o_5 P, boot_o_6 P, boot_o_7 P, boot_o_8 P, boot_o_9 P, boot_o_10 P, x11sA P, x12s6 P, x13sA P, x14sA P, x15s4 P, x16s4 P, x17s4 P, x18s4 P, x19s4 P, x20s4 P, x21s4 P, x22s4 P, x23s4 P, x24s4 P, x25s4 P, x26s4 P, x27s4 P, x28s4 P, x29s4 P, x30s4 P, x31s4 P, x32s4 P, x33s4 P, x34s4 P, x35s4 P, x36s5 P, x37s5 P, x38s5 P, x39s5 P, x40s5 P, x41s5 P, x42s5 P, x43s5 P, x44s5 P, x45s5 P, x46s5 P, x47s6 P, x48s6 P, x49s6 P, x50s6 P, x51s6 P, x52s6 P, x53s6 P] ++ b3Objs
noncomputable def x3s23 (P : Params) : Obj := ⟨(.type "dict"), none, (.dict (List.toArray [⟨(PyData.keyHash P (Str.ofString "__name__")), (.str (Str.ofString "__name__") 165), (.str (Str.ofString "law_uq0018_01") 2293)⟩, ⟨(PyData.keyHash P (Str.ofString "__doc__")), (.str (Str.ofString "__doc__") 166), .none⟩, ⟨(PyData.keyHash P (Str.ofString "__package__")), (.str (Str.ofString "__package__") 167), .none⟩, ⟨(PyData.keyHash P (Str.ofString "__loader__")), (.str (Str.ofString "__loader__") 168), (.builtin "__main__.__loader__#opaque")⟩, ⟨(PyData.keyHash P (Str.ofString "__spec__")), (.str (Str.ofString "__spec__") 169), .none⟩, ⟨(PyData.keyHash P (Str.ofString "__annotations__")), (.str (Str.ofString "__annotations__") 170), (.ref 6)⟩, ⟨(PyData.keyHash P (Str.ofString "__builtins__")), (.str (Str.ofString "__builtins__") 171), (.ref 4)⟩, ⟨(PyData.keyHash P (Str.ofString "__file__")), (.str (Str.ofString "__file__") 173), (.str (Str.ofString "/claim/cut.py") 172)⟩, ⟨(PyData.keyHash P (Str.ofString "__cached__")), (.str (Str.ofString "__cached__") 174), .none⟩, ⟨(PyData.keyHash P (Str.ofString "_iter_escaped_chars")), (.str (Str.ofString "_iter_escaped_chars") 198), (.ref 21)⟩, ⟨(PyData.keyHash P (Str.ofString "_strip_quoted_realnames")), (.str (Str.ofString "_strip_quoted_realnames") 210), (.ref 28)⟩, ⟨(PyData.keyHash P (Str.ofString "_check_parenthesis")), (.str (Str.ofString "_check_parenthesis") 220), (.ref 35)⟩, ⟨(PyData.keyHash P (Str.ofString "b1_set")), (.str (Str.ofString "b1_set") 282), (.ref 43)⟩, ⟨(PyData.keyHash P (Str.ofString "in_table_b1")), (.str (Str.ofString "in_table_b1") 289), (.ref 53)⟩, ⟨(PyData.keyHash P (Str.ofString "b3_exceptions")), (.str (Str.ofString "b3_exceptions") 2240), (.ref 54)⟩, ⟨(PyData.keyHash P (Str.ofString "map_table_b3")), (.str (Str.ofString "map_table_b3") 2248), (.ref 99)⟩, ⟨(PyData.keyHash P (Str.ofString "_raise_serialization_error")), (.str (Str.ofString "_raise_serialization_error") 2257), (.ref 106)⟩, ⟨(PyData.keyHash P (Str.ofString "_escape_cdata")), (.str (Str.ofString "_escape_cdata") 2264), (.ref 113)⟩, ⟨(PyData.keyHash P (Str.ofString "_escape_attrib")), (.str (Str.ofString "_escape_attrib") 2271), (.ref 120)⟩, ⟨(PyData.keyHash P (Str.ofString "_escape_attrib_html")), (.str (Str.ofString "_escape_attrib_html") 2278), (.ref 127)⟩, ⟨(PyData.keyHash P (Str.ofString "_escape_cdata_c14n")), (.str (Str.ofString "_escape_cdata_c14n") 2285), (.ref 134)⟩, ⟨(PyData.keyHash P (Str.ofString "_escape_attrib_c14n")), (.str (Str.ofString "_escape_attrib_c14n") 2292), (.ref 141)⟩, ⟨(PyData.keyHash P (Str.ofString "_law_nothing")), (.str (Str.ofString "_law_nothing") 2302), (.ref 148)⟩, ⟨(PyData.keyHash P (Str.ofString "_law_piece")), (.str (Str.ofString "_law_piece") 2312), (.ref 155)⟩, ⟨(PyData.keyHash P (Str.ofString "_law_prepared")), (.str (Str.ofString "_law_prepared") 2323), (.ref 162)⟩, ⟨(PyData.keyHash P (Str.ofString "_law_sheared")), (.str (Str.ofString "_law_sheared") 2333), (.ref 169)⟩, ⟨(PyData.keyHash P (Str.ofString "_law_cancels")), (.str (Str.ofString "_law_cancels") 2343), (.ref 176)⟩, ⟨(PyData.keyHash P (Str.ofString "_law_written")), (.str (Str.ofString "_law_written") 2356), (.ref 183)⟩, ⟨(PyData.keyHash P (Str.ofString "law")), (.str (Str.ofString "law") 2362), (.ref 188)⟩]) 29), List.toArray []⟩
noncomputable def x12s23 (P : Params) : Obj := ⟨.none, none, (.fields (List.toArray [(.int 2 0), (.int 0 0), (.ref 20), (.int 15 0), (.int 0 0), (.ref 27), (.int 33 0), (.int 0 0), (.ref 34), (.int 46 0), (.int 0 0), (.ref 52), (.int 49 0), (.int 0 0), (.ref 98), (.int 55 0), (.int 0 0), (.ref 105), (.int 57 0), (.int 0 0), (.ref 112), (.int 68 0), (.int 0 0), (.ref 119), (.int 87 0), (.int 0 0), (.ref 126), (.int 98 0), (.int 0 0), (.ref 133), (.int 111 0), (.int 0 0), (.ref 140), (.int 129 0), (.int 0 0), (.ref 147), (.int 132 0), (.int 0 0), (.ref 154), (.int 157 0), (.int 0 0), (.ref 161), (.int 171 0), (.int 0 0), (.ref 168), (.int 183 0), (.int 0 0), (.ref 175), (.int 193 0), (.int 0 0), (.ref 182), (.int 204 0), (.int 0 0), (.ref 187)])), List.toArray []⟩
noncomputable def x93s23 (P : Params) : Obj := ⟨(.type "tuple"), none, (.seq (List.toArray []) 0), List.toArray []⟩
noncomputable def x94s23 (P : Params) : Obj := ⟨.none, none, (.fields (List.toArray [])), List.toArray []⟩
noncomputable def x95s23 (P : Params) : Obj := ⟨(.type "tuple"), none, (.seq (List.toArray [(.str (Str.ofString "code") 2244), (.str (Str.ofString "r") 2245)]) 0), List.toArray []⟩
noncomputable def x96s23 (P : Params) : Obj := ⟨(.type "tuple"), none, (.seq (List.toArray []) 0), List.toArray []⟩
noncomputable def x97s23 (P : Params) : Obj := ⟨.none, none, (.func { name := (Str.ofString "map_table_b3"), qualname := (Str.ofString "map_table_b3"), params := fnP 8, body := .stmts (fnB 8), scope := fnS 8, globals := 0, closure := [], defaults := .none, kwdefaults := .none, doc := .none, pyModule := .none, annotations := none, code := .none, closureTuple := .none, builtins := 0 }), List.toArray []⟩
noncomputable def x98s23 (P : Params) : Obj := ⟨(.type "code"), none, (.fields (List.toArray [(.str (Str.ofString "map_table_b3") 2241), (.str (Str.ofString "map_table_b3") 2242), (.str (Str.ofString "/claim/cut.py") 2243), (.int 49 0), (.int 1 0), (.int 0 0), (.int 0 0), (.int 3 0), (.ref 93), (.bool true), (.int 181 0), (.ref 94), .none, (.ref 95), (.ref 96), (.ref 97), (.int 2246 0), (.int 49 0), (.str (Str.ofString "/claim/cut.py") 2247)])), List.toArray []⟩
noncomputable def x99s23 (P : Params) : Obj := ⟨(.type "function"), none, (.func { name := (Str.ofString "map_table_b3"), qualname := (Str.ofString "map_table_b3"), params := fnP 8, body := .stmts (fnB 8), scope := fnS 8, globals := 3, closure := [], defaults := .none, kwdefaults := .none, doc := .none, pyModule := (.str (Str.ofString "cpy313.stringprep") 221), annotations := none, code := (.ref 98), closureTuple := .none, builtins := 0 }), List.toArray []⟩
noncomputable def x100s23 (P : Params) : Obj := ⟨(.type "tuple"), none, (.seq (List.toArray []) 0), List.toArray []⟩
noncomputable def x101s23 (P : Params) : Obj := ⟨.none, none, (.fields (List.toArray [])), List.toArray []⟩
noncomputable def x102s23 (P : Params) : Obj := ⟨(.type "tuple"), none, (.seq (List.toArray [(.str (Str.ofString "text") 2254)]) 0), List.toArray []⟩
noncomputable def x103s23 (P : Params) : Obj := ⟨(.type "tuple"), none, (.seq (List.toArray []) 0), List.toArray []⟩
noncomputable def x104s23 (P : Params) : Obj := ⟨.none, none, (.func { name := (Str.ofString "_raise_serialization_error"), qualname := (Str.ofString "_raise_serialization_error"), params := fnP 10, body := .stmts (fnB 10), scope := fnS 10, globals := 0, closure := [], defaults := .none, kwdefaults := .none, doc := .none, pyModule := .none, annotations := none, code := .none, closureTuple := .none, builtins := 0 }), List.toArray []⟩
noncomputable def x105s23 (P : Params) : Obj := ⟨(.type "code"), none, (.fields (List.toArray [(.str (Str.ofString "_raise_serialization_error") 2251), (.str (Str.ofString "_raise_serialization_error") 2252), (.str (Str.ofString "/claim/cut.py") 2253), (.int 55 0), (.int 1 0), (.int 0 0), (.int 0 0), (.int 3 0), (.ref 100), (.bool true), (.int 181 0), (.ref 101), .none, (.ref 102), (.ref 103), (.ref 104), (.int 2255 0), (.int 55 0), (.str (Str.ofString "/claim/cut.py") 2256)])), List.toArray []⟩
noncomputable def x106s23 (P : Params) : Obj := ⟨(.type "function"), none, (.func { name := (Str.ofString "_raise_serialization_error"), qualname := (Str.ofString "_raise_serialization_error"), params := fnP 10, body := .stmts (fnB 10), scope := fnS 10, globals := 3, closure := [], defaults := .none, kwdefaults := .none, doc := .none, pyModule := (.str (Str.ofString "cpy313.xml.etree.ElementTree") 2249), annotations := none, code := (.ref 105), closureTuple := .none, builtins := 0 }), List.toArray []⟩
noncomputable def x107s23 (P : Params) : Obj := ⟨(.type "tuple"), none, (.seq (List.toArray []) 0), List.toArray []⟩
noncomputable def x108s23 (P : Params) : Obj := ⟨.none, none, (.fields (List.toArray [])), List.toArray []⟩
noncomputable def x109s23 (P : Params) : Obj := ⟨(.type "tuple"), none, (.seq (List.toArray [(.str (Str.ofString "text") 2261)]) 0), List.toArray []⟩
noncomputable def x110s23 (P : Params) : Obj := ⟨(.type "tuple"), none, (.seq (List.toArray []) 0), List.toArray []⟩
noncomputable def x111s23 (P : Params) : Obj := ⟨.none, none, (.func { name := (Str.ofString "_escape_cdata"), qualname := (Str.ofString "_escape_cdata"), params := fnP 11, body := .stmts (fnB 11), scope := fnS 11, globals := 0, closure := [], defaults := .none, kwdefaults := .none, doc := .none, pyModule := .none, annotations := none, code := .none, closureTuple := .none, builtins := 0 }), List.toArray []⟩
noncomputable def x112s23 (P : Params) : Obj := ⟨(.type "code"), none, (.fields (List.toArray [(.str (Str.ofString "_escape_cdata") 2258), (.str (Str.ofString "_escape_cdata") 2259), (.str (Str.ofString "/claim/cut.py") 2260), (.int 57 0), (.int 1 0), (.int 0 0), (.int 0 0), (.int 3 0), (.ref 107), (.bool true), (.int 181 0), (.ref 108), .none, (.ref 109), (.ref 110), (.ref 111), (.int 2262 0), (.int 57 0), (.str (Str.ofString "/claim/cut.py") 2263)])), List.toArray []⟩
noncomputable def x113s23 (P : Params) : Obj := ⟨(.type "function"), none, (.func { name := (Str.ofString "_escape_cdata"), qualname := (Str.ofString "_escape_cdata"), params := fnP 11, body := .stmts (fnB 11), scope := fnS 11, globals := 3, closure := [], defaults := .none, kwdefaults := .none, doc := .none, pyModule := (.str (Str.ofString "cpy313.xml.etree.ElementTree") 2249), annotations := none, code := (.ref 112), closureTuple := .none, builtins := 0 }), List.toArray []⟩
noncomputable def x114s23 (P : Params) : Obj := ⟨(.type "tuple"), none, (.seq (List.toArray []) 0), List.toArray []⟩
noncomputable def x115s23 (P : Params) : Obj := ⟨.none, none, (.fields (List.toArray [])), List.toArray []⟩
noncomputable def x116s23 (P : Params) : Obj := ⟨(.type "tuple"), none, (.seq (List.toArray [(.str (Str.ofString "text") 2268)]) 0), List.toArray []⟩
noncomputable def x117s23 (P : Params) : Obj := ⟨(.type "tuple"), none, (.seq (List.toArray []) 0), List.toArray []⟩
noncomputable def x118s23 (P : Params) : Obj := ⟨.none, none, (.func { name := (Str.ofString "_escape_attrib"), qualname := (Str.ofString "_escape_attrib"), params := fnP 12, body := .stmts (fnB 12), scope := fnS 12, globals := 0, closure := [], defaults := .none, kwdefaults := .none, doc := .none, pyModule := .none, annotations := none, code := .none, closureTuple := .none, builtins := 0 }), List.toArray []⟩
noncomputable def x119s23 (P : Params) : Obj := ⟨(.type "code"), none, (.fields (List.toArray [(.str (Str.ofString "_escape_attrib") 2265), (.str (Str.ofString "_escape_attrib") 2266), (.str (Str.ofString "/claim/cut.py") 2267), (.int 68 0), (.int 1 0), (.int 0 0), (.int 0 0), (.int 3 0), (.ref 114), (.bool true), (.int 181 0), (.ref 115), .none, (.ref 116), (.ref 117), (.ref 118), (.int 2269 0), (.int 68 0), (.str (Str.ofString "/claim/cut.py") 2270)])), List.toArray []⟩
noncomputable def x120s23 (P : Params) : Obj := ⟨(.type "function"), none, (.func { name := (Str.ofString "_escape_attrib"), qualname := (Str.ofString "_escape_attrib"), params := fnP 12, body := .stmts (fnB 12), scope := fnS 12, globals := 3, closure := [], defaults := .none, kwdefaults := .none, doc := .none, pyModule := (.str (Str.ofString "cpy313.xml.etree.ElementTree") 2249), annotations := none, code := (.ref 119), closureTuple := .none, builtins := 0 }), List.toArray []⟩
noncomputable def x121s23 (P : Params) : Obj := ⟨(.type "tuple"), none, (.seq (List.toArray []) 0), List.toArray []⟩
noncomputable def x122s23 (P : Params) : Obj := ⟨.none, none, (.fields (List.toArray [])), List.toArray []⟩
noncomputable def x123s23 (P : Params) : Obj := ⟨(.type "tuple"), none, (.seq (List.toArray [(.str (Str.ofString "text") 2275)]) 0), List.toArray []⟩
noncomputable def x124s23 (P : Params) : Obj := ⟨(.type "tuple"), none, (.seq (List.toArray []) 0), List.toArray []⟩
noncomputable def x125s23 (P : Params) : Obj := ⟨.none, none, (.func { name := (Str.ofString "_escape_attrib_html"), qualname := (Str.ofString "_escape_attrib_html"), params := fnP 13, body := .stmts (fnB 13), scope := fnS 13, globals := 0, closure := [], defaults := .none, kwdefaults := .none, doc := .none, pyModule := .none, annotations := none, code := .none, closureTuple := .none, builtins := 0 }), List.toArray []⟩
noncomputable def x126s23 (P : Params) : Obj := ⟨(.type "code"), none, (.fields (List.toArray [(.str (Str.ofString "_escape_attrib_html") 2272), (.str (Str.ofString "_escape_attrib_html") 2273), (.str (Str.ofString "/claim/cut.py") 2274), (.int 87 0), (.int 1 0), (.int 0 0), (.int 0 0), (.int 3 0), (.ref 121), (.bool true), (.int 181 0), (.ref 122), .none, (.ref 123), (.ref 124), (.ref 125), (.int 2276 0), (.int 87 0), (.str (Str.ofString "/claim/cut.py") 2277)])), List.toArray []⟩
noncomputable def x127s23 (P : Params) : Obj := ⟨(.type "function"), none, (.func { name := (Str.ofString "_escape_attrib_html"), qualname := (Str.ofString "_escape_attrib_html"), params := fnP 13, body := .stmts (fnB 13), scope := fnS 13, globals := 3, closure := [], defaults := .none, kwdefaults := .none, doc := .none, pyModule := (.str (Str.ofString "cpy313.xml.etree.ElementTree") 2249), annotations := none, code := (.ref 126), closureTuple := .none, builtins := 0 }), List.toArray []⟩
noncomputable def x128s23 (P : Params) : Obj := ⟨(.type "tuple"), none, (.seq (List.toArray []) 0), List.toArray []⟩
noncomputable def x129s23 (P : Params) : Obj := ⟨.none, none, (.fields (List.toArray [])), List.toArray []⟩
noncomputable def x130s23 (P : Params) : Obj := ⟨(.type "tuple"), none, (.seq (List.toArray [(.str (Str.ofString "text") 2282)]) 0), List.toArray []⟩
noncomputable def x131s23 (P : Params) : Obj := ⟨(.type "tuple"), none, (.seq (List.toArray []) 0), List.toArray []⟩
noncomputable def x132s23 (P : Params) : Obj := ⟨.none, none, (.func { name := (Str.ofString "_escape_cdata_c14n"), qualname := (Str.ofString "_escape_cdata_c14n"), params := fnP 14, body := .stmts (fnB 14), scope := fnS 14, globals := 0, closure := [], defaults := .none, kwdefaults := .none, doc := .none, pyModule := .none, annotations := none, code := .none, closureTuple := .none, builtins := 0 }), List.toArray []⟩
noncomputable def x133s23 (P : Params) : Obj := ⟨(.type "code"), none, (.fields (List.toArray [(.str (Str.ofString "_escape_cdata_c14n") 2279), (.str (Str.ofString "_escape_cdata_c14n") 2280), (.str (Str.ofString "/claim/cut.py") 2281), (.int 98 0), (.int 1 0), (.int 0 0), (.int 0 0), (.int 3 0), (.ref 128), (.bool true), (.int 181 0), (.ref 129), .none, (.ref 130), (.ref 131), (.ref 132), (.int 2283 0), (.int 98 0), (.str (Str.ofString "/claim/cut.py") 2284)])), List.toArray []⟩
noncomputable def x134s23 (P : Params) : Obj := ⟨(.type "function"), none, (.func { name := (Str.ofString "_escape_cdata_c14n"), qualname := (Str.ofString "_escape_cdata_c14n"), params := fnP 14, body := .stmts (fnB 14), scope := fnS 14, globals := 3, closure := [], defaults := .none, kwdefaults := .none, doc := .none, pyModule := (.str (Str.ofString "cpy313.xml.etree.ElementTree") 2249), annotations := none, code := (.ref 133), closureTuple := .none, builtins := 0 }), List.toArray []⟩
noncomputable def x135s23 (P : Params) : Obj := ⟨(.type "tuple"), none, (.seq (List.toArray []) 0), List.toArray []⟩
noncomputable def x136s23 (P : Params) : Obj := ⟨.none, none, (.fields (List.toArray [])), List.toArray []⟩
noncomputable def x137s23 (P : Params) : Obj := ⟨(.type "tuple"), none, (.seq (List.toArray [(.str (Str.ofString "text") 2289)]) 0), List.toArray []⟩
noncomputable def x138s23 (P : Params) : Obj := ⟨(.type "tuple"), none, (.seq (List.toArray []) 0), List.toArray []⟩
noncomputable def x139s23 (P : Params) : Obj := ⟨.none, none, (.func { name := (Str.ofString "_escape_attrib_c14n"), qualname := (Str.ofString "_escape_attrib_c14n"), params := fnP 15, body := .stmts (fnB 15), scope := fnS 15, globals := 0, closure := [], defaults := .none, kwdefaults := .none, doc := .none, pyModule := .none, annotations := none, code := .none, closureTuple := .none, builtins := 0 }), List.toArray []⟩
noncomputable def x140s23 (P : Params) : Obj := ⟨(.type "code"), none, (.fields (List.toArray [(.str (Str.ofString "_escape_attrib_c14n") 2286), (.str (Str.ofString "_escape_attrib_c14n") 2287), (.str (Str.ofString "/claim/cut.py") 2288), (.int 111 0), (.int 1 0), (.int 0 0), (.int 0 0), (.int 3 0), (.ref 135), (.bool true), (.int 181 0), (.ref 136), .none, (.ref 137), (.ref 138), (.ref 139), (.int 2290 0), (.int 111 0), (.str (Str.ofString "/claim/cut.py") 2291)])), List.toArray []⟩
noncomputable def x141s23 (P : Params) : Obj := ⟨(.type "function"), none, (.func { name := (Str.ofString "_escape_attrib_c14n"), qualname := (Str.ofString "_escape_attrib_c14n"), params := fnP 15, body := .stmts (fnB 15), scope := fnS 15, globals := 3, closure := [], defaults := .none, kwdefaults := .none, doc := .none, pyModule := (.str (Str.ofString "cpy313.xml.etree.ElementTree") 2249), annotations := none, code := (.ref 140), closureTuple := .none, builtins := 0 }), List.toArray []⟩
noncomputable def x142s23 (P : Params) : Obj := ⟨(.type "tuple"), none, (.seq (List.toArray []) 0), List.toArray []⟩
noncomputable def x143s23 (P : Params) : Obj := ⟨.none, none, (.fields (List.toArray [])), List.toArray []⟩
noncomputable def x144s23 (P : Params) : Obj := ⟨(.type "tuple"), none, (.seq (List.toArray [(.str (Str.ofString "y") 2298), (.str (Str.ofString "codes") 2299)]) 0), List.toArray []⟩
noncomputable def x145s23 (P : Params) : Obj := ⟨(.type "tuple"), none, (.seq (List.toArray []) 0), List.toArray []⟩
noncomputable def x146s23 (P : Params) : Obj := ⟨.none, none, (.func { name := (Str.ofString "_law_nothing"), qualname := (Str.ofString "_law_nothing"), params := fnP 17, body := .stmts (fnB 17), scope := fnS 17, globals := 0, closure := [], defaults := .none, kwdefaults := .none, doc := .none, pyModule := .none, annotations := none, code := .none, closureTuple := .none, builtins := 0 }), List.toArray []⟩
noncomputable def x147s23 (P : Params) : Obj := ⟨(.type "code"), none, (.fields (List.toArray [(.str (Str.ofString "_law_nothing") 2295), (.str (Str.ofString "_law_nothing") 2296), (.str (Str.ofString "/claim/cut.py") 2297), (.int 129 0), (.int 1 0), (.int 0 0), (.int 0 0), (.int 3 0), (.ref 142), (.bool true), (.int 181 0), (.ref 143), .none, (.ref 144), (.ref 145), (.ref 146), (.int 2300 0), (.int 129 0), (.str (Str.ofString "/claim/cut.py") 2301)])), List.toArray []⟩
noncomputable def x148s23 (P : Params) : Obj := ⟨(.type "function"), none, (.func { name := (Str.ofString "_law_nothing"), qualname := (Str.ofString "_law_nothing"), params := fnP 17, body := .stmts (fnB 17), scope := fnS 17, globals := 3, closure := [], defaults := .none, kwdefaults := .none, doc := .none, pyModule := (.str (Str.ofString "law_uq0018_01") 2293), annotations := none, code := (.ref 147), closureTuple := .none, builtins := 0 }), List.toArray []⟩
noncomputable def x149s23 (P : Params) : Obj := ⟨(.type "tuple"), none, (.seq (List.toArray []) 0), List.toArray []⟩
noncomputable def x150s23 (P : Params) : Obj := ⟨.none, none, (.fields (List.toArray [])), List.toArray []⟩
noncomputable def x151s23 (P : Params) : Obj := ⟨(.type "tuple"), none, (.seq (List.toArray [(.str (Str.ofString "x") 2306), (.str (Str.ofString "kind") 2307), (.str (Str.ofString "y") 2308), (.str (Str.ofString "firsts") 2309)]) 0), List.toArray []⟩
noncomputable def x152s23 (P : Params) : Obj := ⟨(.type "tuple"), none, (.seq (List.toArray []) 0), List.toArray []⟩
noncomputable def x153s23 (P : Params) : Obj := ⟨.none, none, (.func { name := (Str.ofString "_law_piece"), qualname := (Str.ofString "_law_piece"), params := fnP 18, body := .stmts (fnB 18), scope := fnS 18, globals := 0, closure := [], defaults := .none, kwdefaults := .none, doc := .none, pyModule := .none, annotations := none, code := .none, closureTuple := .none, builtins := 0 }), List.toArray []⟩
noncomputable def x154s23 (P : Params) : Obj := ⟨(.type "code"), none, (.fields (List.toArray [(.str (Str.ofString "_law_piece") 2303), (.str (Str.ofString "_law_piece") 2304), (.str (Str.ofString "/claim/cut.py") 2305), (.int 132 0), (.int 1 0), (.int 0 0), (.int 0 0), (.int 3 0), (.ref 149), (.bool true), (.int 181 0), (.ref 150), .none, (.ref 151), (.ref 152), (.ref 153), (.int 2310 0), (.int 132 0), (.str (Str.ofString "/claim/cut.py") 2311)])), List.toArray []⟩
noncomputable def x155s23 (P : Params) : Obj := ⟨(.type "function"), none, (.func { name := (Str.ofString "_law_piece"), qualname := (Str.ofString "_law_piece"), params := fnP 18, body := .stmts (fnB 18), scope := fnS 18, globals := 3, closure := [], defaults := .none, kwdefaults := .none, doc := .none, pyModule := (.str (Str.ofString "law_uq0018_01") 2293), annotations := none, code := (.ref 154), closureTuple := .none, builtins := 0 }), List.toArray []⟩
noncomputable def x156s23 (P : Params) : Obj := ⟨(.type "tuple"), none, (.seq (List.toArray []) 0), List.toArray []⟩
noncomputable def x157s23 (P : Params) : Obj := ⟨.none, none, (.fields (List.toArray [])), List.toArray []⟩
noncomputable def x158s23 (P : Params) : Obj := ⟨(.type "tuple"), none, (.seq (List.toArray [(.str (Str.ofString "text") 2316), (.str (Str.ofString "words") 2317), (.str (Str.ofString "said") 2318), (.str (Str.ofString "sign") 2319), (.str (Str.ofString "code") 2320)]) 0), List.toArray []⟩
noncomputable def x159s23 (P : Params) : Obj := ⟨(.type "tuple"), none, (.seq (List.toArray []) 0), List.toArray []⟩
noncomputable def x160s23 (P : Params) : Obj := ⟨.none, none, (.func { name := (Str.ofString "_law_prepared"), qualname := (Str.ofString "_law_prepared"), params := fnP 19, body := .stmts (fnB 19), scope := fnS 19, globals := 0, closure := [], defaults := .none, kwdefaults := .none, doc := .none, pyModule := .none, annotations := none, code := .none, closureTuple := .none, builtins := 0 }), List.toArray []⟩
noncomputable def x161s23 (P : Params) : Obj := ⟨(.type "code"), none, (.fields (List.toArray [(.str (Str.ofString "_law_prepared") 2313), (.str (Str.ofString "_law_prepared") 2314), (.str (Str.ofString "/claim/cut.py") 2315), (.int 157 0), (.int 1 0), (.int 0 0), (.int 0 0), (.int 3 0), (.ref 156), (.bool true), (.int 181 0), (.ref 157), .none, (.ref 158), (.ref 159), (.ref 160), (.int 2321 0), (.int 157 0), (.str (Str.ofString "/claim/cut.py") 2322)])), List.toArray []⟩
noncomputable def x162s23 (P : Params) : Obj := ⟨(.type "function"), none, (.func { name := (Str.ofString "_law_prepared"), qualname := (Str.ofString "_law_prepared"), params := fnP 19, body := .stmts (fnB 19), scope := fnS 19, globals := 3, closure := [], defaults := .none, kwdefaults := .none, doc := .none, pyModule := (.str (Str.ofString "law_uq0018_01") 2293), annotations := none, code := (.ref 161), closureTuple := .none, builtins := 0 }), List.toArray []⟩
noncomputable def x163s23 (P : Params) : Obj := ⟨(.type "tuple"), none, (.seq (List.toArray []) 0), List.toArray []⟩
noncomputable def x164s23 (P : Params) : Obj := ⟨.none, none, (.fields (List.toArray [])), List.toArray []⟩
noncomputable def x165s23 (P : Params) : Obj := ⟨(.type "tuple"), none, (.seq (List.toArray [(.str (Str.ofString "text") 2327), (.str (Str.ofString "parts") 2328), (.str (Str.ofString "run") 2329), (.str (Str.ofString "sign") 2330)]) 0), List.toArray []⟩
noncomputable def x166s23 (P : Params) : Obj := ⟨(.type "tuple"), none, (.seq (List.toArray []) 0), List.toArray []⟩
noncomputable def x167s23 (P : Params) : Obj := ⟨.none, none, (.func { name := (Str.ofString "_law_sheared"), qualname := (Str.ofString "_law_sheared"), params := fnP 20, body := .stmts (fnB 20), scope := fnS 20, globals := 0, closure := [], defaults := .none, kwdefaults := .none, doc := .none, pyModule := .none, annotations := none, code := .none, closureTuple := .none, builtins := 0 }), List.toArray []⟩
noncomputable def x168s23 (P : Params) : Obj := ⟨(.type "code"), none, (.fields (List.toArray [(.str (Str.ofString "_law_sheared") 2324), (.str (Str.ofString "_law_sheared") 2325), (.str (Str.ofString "/claim/cut.py") 2326), (.int 171 0), (.int 1 0), (.int 0 0), (.int 0 0), (.int 3 0), (.ref 163), (.bool true), (.int 181 0), (.ref 164), .none, (.ref 165), (.ref 166), (.ref 167), (.int 2331 0), (.int 171 0), (.str (Str.ofString "/claim/cut.py") 2332)])), List.toArray []⟩
noncomputable def x169s23 (P : Params) : Obj := ⟨(.type "function"), none, (.func { name := (Str.ofString "_law_sheared"), qualname := (Str.ofString "_law_sheared"), params := fnP 20, body := .stmts (fnB 20), scope := fnS 20, globals := 3, closure := [], defaults := .none, kwdefaults := .none, doc := .none, pyModule := (.str (Str.ofString "law_uq0018_01") 2293), annotations := none, code := (.ref 168), closureTuple := .none, builtins := 0 }), List.toArray []⟩
noncomputable def x170s23 (P : Params) : Obj := ⟨(.type "tuple"), none, (.seq (List.toArray []) 0), List.toArray []⟩
noncomputable def x171s23 (P : Params) : Obj := ⟨.none, none, (.fields (List.toArray [])), List.toArray []⟩
noncomputable def x172s23 (P : Params) : Obj := ⟨(.type "tuple"), none, (.seq (List.toArray [(.str (Str.ofString "text") 2337), (.str (Str.ofString "bare") 2338), (.str (Str.ofString "run") 2339), (.str (Str.ofString "sign") 2340)]) 0), List.toArray []⟩
noncomputable def x173s23 (P : Params) : Obj := ⟨(.type "tuple"), none, (.seq (List.toArray []) 0), List.toArray []⟩
noncomputable def x174s23 (P : Params) : Obj := ⟨.none, none, (.func { name := (Str.ofString "_law_cancels"), qualname := (Str.ofString "_law_cancels"), params := fnP 21, body := .stmts (fnB 21), scope := fnS 21, globals := 0, closure := [], defaults := .none, kwdefaults := .none, doc := .none, pyModule := .none, annotations := none, code := .none, closureTuple := .none, builtins := 0 }), List.toArray []⟩
noncomputable def x175s23 (P : Params) : Obj := ⟨(.type "code"), none, (.fields (List.toArray [(.str (Str.ofString "_law_cancels") 2334), (.str (Str.ofString "_law_cancels") 2335), (.str (Str.ofString "/claim/cut.py") 2336), (.int 183 0), (.int 1 0), (.int 0 0), (.int 0 0), (.int 3 0), (.ref 170), (.bool true), (.int 181 0), (.ref 171), .none, (.ref 172), (.ref 173), (.ref 174), (.int 2341 0), (.int 183 0), (.str (Str.ofString "/claim/cut.py") 2342)])), List.toArray []⟩
noncomputable def x176s23 (P : Params) : Obj := ⟨(.type "function"), none, (.func { name := (Str.ofString "_law_cancels"), qualname := (Str.ofString "_law_cancels"), params := fnP 21, body := .stmts (fnB 21), scope := fnS 21, globals := 3, closure := [], defaults := .none, kwdefaults := .none, doc := .none, pyModule := (.str (Str.ofString "law_uq0018_01") 2293), annotations := none, code := (.ref 175), closureTuple := .none, builtins := 0 }), List.toArray []⟩
noncomputable def x177s23 (P : Params) : Obj := ⟨(.type "tuple"), none, (.seq (List.toArray []) 0), List.toArray []⟩
noncomputable def x178s23 (P : Params) : Obj := ⟨.none, none, (.fields (List.toArray [])), List.toArray []⟩
noncomputable def x179s23 (P : Params) : Obj := ⟨(.type "tuple"), none, (.seq (List.toArray [(.str (Str.ofString "text") 2347), (.str (Str.ofString "which") 2348), (.str (Str.ofString "layers") 2349), (.str (Str.ofString "small") 2350), (.str (Str.ofString "names") 2351), (.str (Str.ofString "page") 2352), (.str (Str.ofString "sign") 2353)]) 0), List.toArray []⟩
noncomputable def x180s23 (P : Params) : Obj := ⟨(.type "tuple"), none, (.seq (List.toArray []) 0), List.toArray []⟩
noncomputable def x181s23 (P : Params) : Obj := ⟨.none, none, (.func { name := (Str.ofString "_law_written"), qualname := (Str.ofString "_law_written"), params := fnP 22, body := .stmts (fnB 22), scope := fnS 22, globals := 0, closure := [], defaults := .none, kwdefaults := .none, doc := .none, pyModule := .none, annotations := none, code := .none, closureTuple := .none, builtins := 0 }), List.toArray []⟩
noncomputable def x182s23 (P : Params) : Obj := ⟨(.type "code"), none, (.fields (List.toArray [(.str (Str.ofString "_law_written") 2344), (.str (Str.ofString "_law_written") 2345), (.str (Str.ofString "/claim/cut.py") 2346), (.int 193 0), (.int 4 0), (.int 0 0), (.int 0 0), (.int 3 0), (.ref 177), (.bool true), (.int 181 0), (.ref 178), .none, (.ref 179), (.ref 180), (.ref 181), (.int 2354 0), (.int 193 0), (.str (Str.ofString "/claim/cut.py") 2355)])), List.toArray []⟩
noncomputable def x183s23 (P : Params) : Obj := ⟨(.type "function"), none, (.func { name := (Str.ofString "_law_written"), qualname := (Str.ofString "_law_written"), params := fnP 22, body := .stmts (fnB 22), scope := fnS 22, globals := 3, closure := [], defaults := .none, kwdefaults := .none, doc := .none, pyModule := (.str (Str.ofString "law_uq0018_01") 2293), annotations := none, code := (.ref 182), closureTuple := .none, builtins := 0 }), List.toArray []⟩
noncomputable def x184s23 (P : Params) : Obj := ⟨(.type "tuple"), none, (.seq (List.toArray []) 0), List.toArray []⟩
noncomputable def x185s23 (P : Params) : Obj := ⟨.none, none, (.fields (List.toArray [])), List.toArray []⟩
noncomputable def x186s23 (P : Params) : Obj := ⟨.none, none, (.func { name := (Str.ofString "law"), qualname := (Str.ofString "law"), params := fnP 23, body := .stmts (fnB 23), scope := fnS 23, globals := 0, closure := [], defaults := .none, kwdefaults := .none, doc := .none, pyModule := .none, annotations := none, code := .none, closureTuple := .none, builtins := 0 }), List.toArray []⟩
noncomputable def x187s23 (P : Params) : Obj := ⟨(.type "code"), none, (.fields (List.toArray [(.str (Str.ofString "law") 2357), (.str (Str.ofString "law") 2358), (.str (Str.ofString "/claim/cut.py") 2359), (.int 204 0), (.int 1 0), (.int 0 0), (.int 0 0), (.int 3 0), (.ref 184), (.bool true), (.int 181 0), (.ref 185), .none, .none, .none, (.ref 186), (.int 2360 0), (.int 204 0), (.str (Str.ofString "/claim/cut.py") 2361)])), List.toArray []⟩
noncomputable def x188s23 (P : Params) : Obj := ⟨(.type "function"), none, (.func { name := (Str.ofString "law"), qualname := (Str.ofString "law"), params := fnP 23, body := .stmts (fnB 23), scope := fnS 23, globals := 3, closure := [], defaults := .none, kwdefaults := .none, doc := .none, pyModule := (.str (Str.ofString "law_uq0018_01") 2293), annotations := none, code := (.ref 187), closureTuple := .none, builtins := 0 }), List.toArray []⟩
noncomputable def objs23 (P : Params) : List Obj := [boot_o_0 P, boot_o_1 P, boot_o_2 P, x3s23 P, boot_o_4 P, boot_o_5 P, boot_o_6 P, boot_o_7 P, boot_o_8 P, boot_o_9 P, boot_o_10 P, x11sA P, x12s23 P, x13sA P, x14sA P, x15s4 P, x16s4 P, x17s4 P, x18s4 P, x19s4 P, x20s4 P, x21s4 P, x22s4 P, x23s4 P, x24s4 P, x25s4 P, x26s4 P, x27s4 P, x28s4 P, x29s4 P, x30s4 P, x31s4 P, x32s4 P, x33s4 P, x34s4 P, x35s4 P, x36s5 P, x37s5 P, x38s5 P, x39s5 P, x40s5 P, x41s5 P, x42s5 P, x43s5 P, x44s5 P, x45s5 P, x46s5 P, x47s6 P, x48s6 P, x49s6 P, x50s6 P, x51s6 P, x52s6 P, x53s6 P] ++ b3Objs ++ [x93s23 P, x94s23 P, x95s23 P, x96s23 P, x97s23 P, x98s23 P, x99s23 P, x100s23 P, x101s23 P, x102s23 P, x103s23 P, x104s23 P, x105s23 P, x106s23 P, x107s23 P, x108s23 P, x109s23 P, x110s23 P, x111s23 P, x112s23 P, x113s23 P, x114s23 P, x115s23 P, x116s23 P, x117s23 P, x118s23 P, x119s23 P, x120s23 P, x121s23 P, x122s23 P, x123s23 P, x124s23 P, x125s23 P, x126s23 P, x127s23 P, x128s23 P, x129s23 P, x130s23 P, x131s23 P, x132s23 P, x133s23 P, x134s23 P, x135s23 P, x136s23 P, x137s23 P, x138s23 P, x139s23 P, x140s23 P, x141s23 P, x142s23 P, x143s23 P, x144s23 P, x145s23 P, x146s23 P, x147s23 P, x148s23 P, x149s23 P, x150s23 P, x151s23 P, x152s23 P, x153s23 P, x154s23 P, x155s23 P, x156s23 P, x157s23 P, x158s23 P, x159s23 P, x160s23 P, x161s23 P, x162s23 P, x163s23 P, x164s23 P, x165s23 P, x166s23 P, x167s23 P, x168s23 P, x169s23 P, x170s23 P, x171s23 P, x172s23 P, x173s23 P, x174s23 P, x175s23 P, x176s23 P, x177s23 P, x178s23 P, x179s23 P, x180s23 P, x181s23 P, x182s23 P, x183s23 P, x184s23 P, x185s23 P, x186s23 P, x187s23 P, x188s23 P]

noncomputable def mkT : List Obj → Nat → BT → BT
  | [], _, t => t
  | o :: r, i, t => mkT r (i + 1) (t.ins i o)
noncomputable def stT (P : Params) (objs : List Obj) (toks : Nat) (os : OsState) : SharedT := ⟨mkT objs 0 .nil, objs.length, (boot_heap P).life, Array.mk [], boot_drawn, toks, os⟩
noncomputable def envM : Env := { scope := pw.main.scope, locals := mainNs, globals := mainNs, cells := [], code := .ref 13, frame := some 14 }
noncomputable def bM : List Stmt := behindTheImports pw
noncomputable def cM : Code := Code.body bM envM
noncomputable def annM : Option Value := some (.ref 6)
noncomputable def BM : List Frame := [topFrame dPos]
noncomputable def SA (w : World) (os : OsState) : SharedT := stT w.params (objsA w.params) 187 os
noncomputable def S4 (w : World) (os : OsState) : SharedT := stT w.params (objs4 w.params) 223 os
noncomputable def S5 (w : World) (os : OsState) : SharedT := stT w.params (objs5 w.params) 283 os
noncomputable def S6 (w : World) (os : OsState) : SharedT := stT w.params (objs6 w.params) 290 os
noncomputable def S7 (w : World) (os : OsState) : SharedT := stT w.params (objs7 w.params) 2241 os
noncomputable def S23 (w : World) (os : OsState) : SharedT := stT w.params (objs23 w.params) 2363 os
end
end Mine

end
section
open PySem PySem.W PyProof.Rows
set_option Elab.async false
set_option maxRecDepth 100000
namespace Mine

/-- a tree runs from s to s' and gives a; n steps -/
noncomputable def RT {α : Type} (w : World) (n : Nat) (m : Sem α) (s : Shared) (p : Pos) (a : α) (s' : Shared) (p' : Pos) : Prop :=
  ∀ (K : α → Sem Fin) (H : Value → Sem Fin) (gd : Bool → Bool) (lv : List Value → List Value) (c : Code) (f : Frame) (B : List Frame) (N : Nat) (r : Shared),
    topRun treeTable pw w 11 annM N s' ⟨K a, c, p', f :: B⟩ = some r → topRun treeTable pw w 11 annM (N + n) s ⟨m.wrap K H gd lv, c, p, f :: B⟩ = some r

section
variable {α β : Type} {w : World} {n n' : Nat} {s s' s'' : Shared} {p p' p'' : Pos} {a : α} {b : β}

theorem top_step {N : Nat} {t t' : Thread} {r : Shared} (e1 : through t = false) (e2 : stepOk 11 annM t = true) (e3 : step (denote treeTable) pw w s t = .go s' t') (h : topRun treeTable pw w 11 annM N s' t' = some r) :
    topRun treeTable pw w 11 annM (N + 1) s t = some r := by
  unfold topRun
  rw [e1, e2, e3]
  exact h

theorem RT.pure : RT w 0 (Sem.pure a) s p a s p := fun _ _ _ _ _ _ _ _ _ h => h
theorem RT.pure' : RT w 0 (Pure.pure a : Sem α) s p a s p := fun _ _ _ _ _ _ _ _ _ h => h
theorem RT.bind {m : Sem α} {f : α → Sem β} (h : RT w n m s p a s' p') (h' : RT w n' (f a) s' p' b s'' p'') : RT w (n' + n) (m >>= f) s p b s'' p'' := by
  intro K H gd lv c fr B N r hN
  rw [Sem.bind_eq_wrap', Sem.wrap_wrap, ← Nat.add_assoc]
  exact h (fun x => (f x).wrap K H gd lv) _ _ _ c fr B _ r (h' K H gd lv c fr B N r hN)
theorem RT.bind' {m : Sem α} {f : α → Sem β} (h : RT w n m s p a s' p') (h' : RT w n' (f a) s' p' b s'' p'') : RT w (n' + n) (m.bind f) s p b s'' p'' := RT.bind h h'
theorem RT.keep {m : Sem α} {vs : List Value} (h : RT w n m s p a s' p') : RT w n (m.keep vs) s p a s' p' := by
  intro K H gd lv c fr B N r hN
  rw [Sem.keep_eq_wrap, Sem.wrap_wrap]
  exact h K _ _ _ c fr B N r hN
theorem RT.holding {m : Sem α} {vs : List Value} (h : RT w n m s p a s' p') : RT w n (holding vs m) s p a s' p' := by
  unfold PySem.holding
  split
  · exact h
  · exact h.keep
theorem RT.onRaise {m : Sem α} {k : Value → Sem Unit} (h : RT w n m s p a s' p') : RT w n (m.onRaise k) s p a s' p' := by
  intro K H gd lv c fr B N r hN
  rw [Sem.onRaise_eq_wrap, Sem.wrap_wrap]
  exact h K _ _ _ c fr B N r hN
theorem RT.mono {m : Sem α} (h : RT w n m s p a s' p') (le : n ≤ n') : RT w n' m s p a s' p' := by
  intro K H gd lv c fr B N r hN
  have := topRun_mono (n' - n) _ _ _ _ (h K H gd lv c fr B N r hN)
  rw [show N + n + (n' - n) = N + n' by omega] at this
  exact this

theorem RT.load {x : Addr} {q : Option Value} {o : Obj} (ho : s.heap.get? x = some o) : RT w 1 (loadPart x q) s p o s p := by
  intro K H gd lv c f B N r hN
  refine top_step (s' := s) (t' := ⟨K o, c, p, f :: B⟩) rfl rfl ?_ hN
  obtain ⟨heap, gens, drawn, toks, os⟩ := s
  show step _ _ _ _ ⟨.load x q fun o => K o, c, p, f :: B⟩ = _
  simp only [step]
  have ho' : heap.get? x = some o := ho
  rw [ho']
theorem RT.load0 {x : Addr} {o : Obj} (ho : s.heap.get? x = some o) : RT w 1 (PySem.load x) s p o s p := RT.load ho
theorem RT.update {x : Addr} {q : Option Value} {o : Obj} {g : Obj → Obj} (ho : s.heap.get? x = some o) (hx : 11 ≤ x) : RT w 1 (updatePart x q g) s p () { s with heap := s.heap.update x g } p := by
  intro K H gd lv c f B N r hN
  refine top_step (s' := { s with heap := s.heap.update x g }) (t' := ⟨K (), c, p, f :: B⟩) rfl ?_ ?_ hN
  · show (true && (Nat.ble 11 x || x == mainNs || x == cStatics || annM == some (.ref x))) = true
    rw [Nat.ble_eq_true_of_le hx]; rfl
  · obtain ⟨heap, gens, drawn, toks, os⟩ := s
    show step _ _ _ _ ⟨.update x q g fun o => K o, c, p, f :: B⟩ = _
    have ho' : heap.get? x = some o := ho
    simp only [step, ho', Option.isSome_some, if_true]
theorem RT.alloc {o : Obj} : RT w 1 (PySem.alloc o) s p s.heap.objs.size { s with heap := s.heap.push o } p := by
  intro K H gd lv c f B N r hN
  refine top_step (s' := { s with heap := s.heap.push o }) (t' := ⟨K s.heap.objs.size, c, p, f :: B⟩) rfl rfl ?_ hN
  obtain ⟨heap, gens, drawn, toks, os⟩ := s; rfl
theorem RT.fresh : RT w 1 PySem.fresh s p s.toks { s with toks := s.toks + 1 } p := by
  intro K H gd lv c f B N r hN
  refine top_step (s' := { s with toks := s.toks + 1 }) (t' := ⟨K s.toks, c, p, f :: B⟩) rfl rfl ?_ hN
  obtain ⟨heap, gens, drawn, toks, os⟩ := s; rfl
theorem RT.rule {t : String} : RT w 1 (PySem.rule t) s p () s p := by
  intro K H gd lv c f B N r hN
  refine top_step (s' := s) (t' := ⟨K (), c, p, f :: B⟩) rfl rfl ?_ hN
  obtain ⟨heap, gens, drawn, toks, os⟩ := s; rfl
theorem RT.standAt {q : Pos} : RT w 1 (PySem.standAt q) s p () s q := by
  intro K H gd lv c f B N r hN
  refine top_step (s' := s) (t' := ⟨K (), c, q, f :: B⟩) rfl rfl ?_ hN
  obtain ⟨heap, gens, drawn, toks, os⟩ := s; rfl
theorem RT.go {m : Sem α} (h : ∀ (K : α → Sem Fin) (H : Value → Sem Fin) (gd : Bool → Bool) (lv : List Value → List Value) (c : Code) (f : Frame) (B : List Frame),
    topGo treeTable pw w 11 annM n s ⟨m.wrap K H gd lv, c, p, f :: B⟩ = some (s', ⟨K a, c, p', f :: B⟩)) : RT w n m s p a s' p' := by
  intro K H gd lv c f B N r hN
  rw [Nat.add_comm]
  exact go_top (h K H gd lv c f B) hN
end
end Mine

end
section
open PySem PySem.W PyProof.Rows
set_option Elab.async false
set_option maxRecDepth 100000
namespace Mine
noncomputable section
noncomputable def hashI (x : Int) : Int :=
  let h : Int := x.natAbs % (2 ^ 61 - 1 : Nat)
  let h := if x < 0 then -h else h
  if h == -1 then -2 else h
theorem hashI_small {x : Int} (h0 : 0 ≤ x) (h1 : x < 2 ^ 60) : hashI x = x := by
  unfold hashI
  have e : ((x.natAbs % (2 ^ 61 - 1 : Nat) : Nat) : Int) = x := by omega
  simp only []
  rw [if_neg (by omega : ¬ x < 0)]
  have e' : ((x.natAbs : Int) % ((2 ^ 61 - 1 : Nat) : Int)) = x := by omega
  rw [e']
  have : (x == -1) = false := by simp; omega
  rw [this]; rfl
variable {w : World} {s : Shared} {p : Pos}
theorem special_hash : specialOf (.int i t) "__hash__" = pure (some (.builtin "int.__hash__")) := by
  show typeLookup (.type "int") "__hash__" = _
  rw [typeLookup_type, builtinLookup_eq_fast]; kernel_rfl
noncomputable def callHash (w : World) (i : Int) (t : Tok) (s : Shared) (p : Pos) (refuse : Sem Value) (K : Option Value → Sem Fin) (H : Value → Sem Fin) (gd : Bool → Bool) (lv : List Value → List Value) (c : Code) (f : Frame) (B : List Frame) :=
  topGo treeTable pw w 11 annM 5 s ⟨(callSpecialIfBoundUnlessNone? (.int i t) "__hash__" refuse).wrap K H gd lv, c, p, f :: B⟩
theorem callHash_f (w : World) (i : Int) (t : Tok) (heap : Heap) (gens : Array GenState) (drawn : Drawn) (toks : Nat) (os : OsState) (p : Pos) (refuse : Sem Value) (K : Option Value → Sem Fin) (H : Value → Sem Fin) (gd : Bool → Bool) (lv : List Value → List Value) (c : Code) (f : Frame) (B : List Frame) :
    callHash (w.withFollow "special-get-raises" false) i t ⟨heap, gens, drawn, toks, os⟩ p refuse K H gd lv c f B = some (⟨heap, gens, drawn, toks + 1, os⟩, ⟨K (some (.int (hashI i) toks)), c, p, f :: B⟩) := by
  unfold Mine.callHash; rw [PySem.W.Fast.te15667345088766844465, PySem.W.Fast.te14364793385576792824, PySem.W.Fast.te16697807410369149715]; kernel_rfl
theorem callHash_t (w : World) (i : Int) (t : Tok) (heap : Heap) (gens : Array GenState) (drawn : Drawn) (toks : Nat) (os : OsState) (p : Pos) (refuse : Sem Value) (K : Option Value → Sem Fin) (H : Value → Sem Fin) (gd : Bool → Bool) (lv : List Value → List Value) (c : Code) (f : Frame) (B : List Frame) :
    callHash (w.withFollow "special-get-raises" true) i t ⟨heap, gens, drawn, toks, os⟩ p refuse K H gd lv c f B = some (⟨heap, gens, drawn, toks + 1, os⟩, ⟨K (some (.int (hashI i) toks)), c, p, f :: B⟩) := by
  unfold Mine.callHash; rw [PySem.W.Fast.te15667345088766844465, PySem.W.Fast.te14364793385576792824, PySem.W.Fast.te16697807410369149715]; kernel_rfl
theorem RT.callHash (w : World) {i : Int} {t : Tok} {s : Shared} {p : Pos} {refuse : Sem Value} : RT w 5 (callSpecialIfBoundUnlessNone? (.int i t) "__hash__" refuse) s p (some (.int (hashI i) s.toks)) { s with toks := s.toks + 1 } p := by
  refine RT.go fun K H gd lv c f B => ?_
  obtain ⟨heap, gens, drawn, toks, os⟩ := s
  exact byRow2 "special-get-raises" (P := fun w => Mine.callHash w i t ⟨heap, gens, drawn, toks, os⟩ p refuse K H gd lv c f B = some (⟨heap, gens, drawn, toks + 1, os⟩, ⟨K (some (.int (hashI i) toks)), c, p, f :: B⟩))
    (fun w => callHash_f w i t heap gens drawn toks os p refuse K H gd lv c f B) (fun w => callHash_t w i t heap gens drawn toks os p refuse K H gd lv c f B) w
theorem RT.pyHash {i : Int} {t : Tok} (h0 : 0 ≤ i) (h1 : i < 2 ^ 60) : RT w 5 (pyHash (.int i t)) s p i { s with toks := s.toks + 1 } p := by
  show RT w 5 (pyHashByItsType (.int i t)) s p i { s with toks := s.toks + 1 } p
  unfold pyHashByItsType
  rw [special_hash]
  show RT w 5 (callSpecialIfBoundUnlessNone? (.int i t) "__hash__" _ >>= _) s p i { s with toks := s.toks + 1 } p
  refine RT.bind (n := 5) (n' := 0) (RT.callHash w) ?_
  show RT w 0 (pyHashByItsType.reduced (hashI i)) _ _ _ _ _
  rw [hashI_small h0 h1]
  unfold pyHashByItsType.reduced
  have e1 : (decide (-(2 ^ 63 : Int) ≤ i) && decide (i < 2 ^ 63)) = true := by simp; omega
  have e2 : (i == -1) = false := by simp; omega
  simp only [e1, e2, if_true]
  exact RT.pure'

/-- a heap told by its list -/
noncomputable def mkH (l : List Obj) (life : Life) : Heap := ⟨l.toArray, life⟩
theorem mkH_get {l1 l2 : List Obj} {life : Life} {es : List DictEntry} {n : Nat} : (mkH (l1 ++ dictO es n :: l2) life).get? l1.length = some (dictO es n) := by
  unfold Heap.get? mkH
  simp [dictO]
theorem mkH_update {l1 l2 : List Obj} {life : Life} {o : Obj} {g : Obj → Obj} : (mkH (l1 ++ o :: l2) life).update l1.length g = mkH (l1 ++ g o :: l2) life := by
  have h : ∀ l : List Obj, (l ++ o :: l2).modify l.length g = l ++ g o :: l2 := fun l => by
    induction l with
    | nil => rfl
    | cons a l ih => rw [List.cons_append, List.length_cons, List.modify_succ_cons, ih]; rfl
  unfold Heap.update mkH
  simp [h]
theorem mkH_push {l : List Obj} {life : Life} {o : Obj} : (mkH l life).push o = mkH (l ++ [o]) life := by
  unfold Heap.push mkH; simp
theorem mkH_size {l : List Obj} {life : Life} : (mkH l life).objs.size = l.length := by simp [mkH]
end
end Mine

end
section
open PySem PySem.W PyProof.Rows
set_option Elab.async false
set_option maxRecDepth 100000
namespace Mine
noncomputable section
variable {w : World} {s : Shared} {p : Pos}

/-- no entry of that hash -/
noncomputable def NoHash (es : List DictEntry) (h : Int) : Prop := ∀ e ∈ es, e.hash ≠ h
theorem places_none {es : List DictEntry} {h : Int} (hn : NoHash es h) : placesWithHash es.toArray.size (fun i => es.toArray[i]?.map (·.hash)) h = [] := by
  unfold placesWithHash
  rw [List.filter_eq_nil_iff]
  intro i hi
  dsimp only
  rw [List.getElem?_toArray]
  cases he : es[i]? with
  | none => simp
  | some e => simp; exact hn e (List.mem_of_getElem? he)

theorem RT.dictEntries {a : Addr} {q : Option Value} {es : List DictEntry} {n : Nat} (ho : s.heap.get? a = some (dictO es n)) : RT w 1 (dictEntries a q) s p es.toArray s p := by
  unfold PySem.dictEntries
  exact RT.bind (n := 1) (n' := 0) (RT.load ho) RT.pure'
theorem RT.dictEpoch {a : Addr} {q : Option Value} {es : List DictEntry} {n : Nat} (ho : s.heap.get? a = some (dictO es n)) : RT w 1 (dictEpoch a q) s p n s p := by
  unfold PySem.dictEpoch
  exact RT.bind (n := 1) (n' := 0) (RT.load ho) RT.pure'

theorem RT.dictFind {d : Addr} {i : Int} {t : Tok} {h : Int} {es : List DictEntry} {n : Nat} (ho : s.heap.get? d = some (dictO es n)) (hn : NoHash es h) : RT w 1 (dictFind d (.int i t) h) s p none s p := by
  unfold PySem.dictFind
  refine RT.holding ?_
  refine RT.bind (n := 1) (n' := 0) (RT.dictEntries ho) ?_
  simp only [places_none hn, List.filterMap_nil, List.all_cons, List.all_nil, carriedByValue, Bool.and_self, if_true]
  unfold dictWalkPlain
  simp only [List.forIn_nil]
  exact RT.bind (n := 0) (n' := 0) RT.pure' RT.pure'

theorem RT.push {l1 l2 : List Obj} {life : Life} {gens : Array GenState} {drawn : Drawn} {toks : Nat} {os : OsState} {q : Option Value} {e : DictEntry} {es : List DictEntry} {n : Nat} {d : Addr} (hd : d = l1.length) (h11 : 11 ≤ d) (hz : es.length < 16777216) :
    RT w 3 (updateDictKeys d (·.push e) q) ⟨mkH (l1 ++ dictO es n :: l2) life, gens, drawn, toks, os⟩ p () ⟨mkH (l1 ++ dictO (es ++ [e]) (n + 1) :: l2) life, gens, drawn, toks, os⟩ p := by
  subst hd
  unfold updateDictKeys
  refine RT.bind (n := 1) (n' := 2) (RT.load mkH_get) ?_
  refine RT.bind (n := 1) (n' := 1) (RT.update mkH_get h11) ?_
  have e1 : Obj.mapDictKeys (·.push e) (dictO es n) = dictO (es ++ [e]) (n + 1) := by
    unfold dictO Obj.mapDictKeys; simp
  show RT w 1 (lookBehind l1.length q) ⟨(mkH (l1 ++ dictO es n :: l2) life).update l1.length _, gens, drawn, toks, os⟩ p () _ p
  rw [mkH_update, e1]
  unfold lookBehind
  refine RT.bind (n := 1) (n' := 0) (RT.load mkH_get) ?_
  have e2 : (dictO (es ++ [e]) (n + 1)).data.pastItsLine = none := by
    show (if (es ++ [e]).toArray.size > sizeLine + 1 then some "dict:memory" else none) = none
    rw [if_neg (by simp only [List.size_toArray, List.length_append, List.length_singleton]; show ¬ _ > 2 ^ 24 + 1; omega)]
  rw [e2]
  exact RT.pure'

theorem RT.dictSetHashed {l1 l2 : List Obj} {life : Life} {gens : Array GenState} {drawn : Drawn} {toks : Nat} {os : OsState} {es : List DictEntry} {n : Nat} {d : Addr} {i : Int} {t : Tok} {h : Int} {v : Value} (hd : d = l1.length) (h11 : 11 ≤ d) (hz : es.length < 16777216) (hn : NoHash es h) :
    RT w 5 (dictSetHashed d (.int i t) h v) ⟨mkH (l1 ++ dictO es n :: l2) life, gens, drawn, toks, os⟩ p () ⟨mkH (l1 ++ dictO (es ++ [⟨h, .int i t, v⟩]) (n + 1) :: l2) life, gens, drawn, toks, os⟩ p := by
  unfold PySem.dictSetHashed
  refine RT.holding ?_
  refine RT.bind (n := 1) (n' := 4) (RT.dictFind (by rw [hd]; exact mkH_get) hn) ?_
  refine RT.bind (n := 1) (n' := 3) RT.rule ?_
  exact RT.push hd h11 hz

theorem RT.dictSet {l1 l2 : List Obj} {life : Life} {gens : Array GenState} {drawn : Drawn} {toks : Nat} {os : OsState} {es : List DictEntry} {n : Nat} {d : Addr} {i : Int} {t : Tok} {v : Value} (hd : d = l1.length) (h11 : 11 ≤ d) (hz : es.length < 16777216) (hn : NoHash es i)
    (h0 : 0 ≤ i) (h1 : i < 2 ^ 60) :
    RT w 10 (dictSet d (.int i t) v) ⟨mkH (l1 ++ dictO es n :: l2) life, gens, drawn, toks, os⟩ p () ⟨mkH (l1 ++ dictO (es ++ [⟨i, .int i t, v⟩]) (n + 1) :: l2) life, gens, drawn, toks + 1, os⟩ p := by
  unfold PySem.dictSet
  refine RT.holding ?_
  refine RT.bind (n := 5) (n' := 5) (RT.pyHash h0 h1) ?_
  exact RT.dictSetHashed hd h11 hz hn

/-- a pair of the display: an int, a text -/
noncomputable def kT (env : Env) (x : Int × Str) : Sem Value := constValue env (.int x.1)
noncomputable def vT (env : Env) (pos : Pos) (x : Int × Str) : Sem Value := do let y ← constValue env (.str x.2); standAt pos; pure y
theorem rt_kT {env : Env} {x : Int × Str} {heap : Heap} {gens : Array GenState} {drawn : Drawn} {toks : Nat} {os : OsState} : RT w 1 (kT env x) ⟨heap, gens, drawn, toks, os⟩ p (.int x.1 toks) ⟨heap, gens, drawn, toks + 1, os⟩ p := by
  show RT w 1 (mkInt x.1) _ _ _ _ _
  unfold mkInt
  exact RT.bind (n := 1) (n' := 0) RT.fresh RT.pure'
theorem rt_vT {env : Env} {q : Pos} {x : Int × Str} {heap : Heap} {gens : Array GenState} {drawn : Drawn} {toks : Nat} {os : OsState} : RT w 2 (vT env q x) ⟨heap, gens, drawn, toks, os⟩ p (.str x.2 toks) ⟨heap, gens, drawn, toks + 1, os⟩ q := by
  unfold Mine.vT
  refine RT.bind (n := 1) (n' := 1) (a := .str x.2 toks) (s' := ⟨heap, gens, drawn, toks + 1, os⟩) (p' := p) ?_ (RT.bind (n := 1) (n' := 0) RT.standAt RT.pure')
  show RT w 1 (mkText x.2) _ _ _ _ _
  unfold mkText
  exact RT.bind (n := 1) (n' := 0) RT.fresh RT.pure'

theorem entL_hash {xs : List (Int × Str)} {t : Nat} : ∀ e ∈ entL xs t, ∃ x ∈ xs, e.hash = x.1 := by
  induction xs generalizing t with
  | nil => intro e he; cases he
  | cons x r ih =>
    intro e he
    rcases List.mem_cons.mp he with rfl | he
    · exact ⟨x, List.mem_cons_self, rfl⟩
    · obtain ⟨y, hy, h⟩ := ih e he
      exact ⟨y, List.mem_cons_of_mem _ hy, h⟩
theorem entL_length {xs : List (Int × Str)} {t : Nat} : (entL xs t).length = xs.length := by
  induction xs generalizing t with
  | nil => rfl
  | cons x r ih => simp [entL, ih]

noncomputable def Small (xs : List (Int × Str)) : Prop := ∀ x ∈ xs, 0 ≤ x.1 ∧ x.1 < 2 ^ 60
noncomputable def Apart (es : List DictEntry) (xs : List (Int × Str)) : Prop := (∀ x ∈ xs, NoHash es x.1) ∧ xs.Pairwise fun a b => a.1 ≠ b.1

theorem Apart.next {es : List DictEntry} {x : Int × Str} {r : List (Int × Str)} {e : DictEntry} (h : Apart es (x :: r)) (he : e.hash = x.1) : Apart (es ++ [e]) r := by
  obtain ⟨h1, h2⟩ := h
  rw [List.pairwise_cons] at h2
  refine ⟨fun y hy f hf => ?_, h2.2⟩
  rcases List.mem_append.mp hf with hf | hf
  · exact h1 y (List.mem_cons_of_mem _ hy) f hf
  · rw [List.mem_singleton.mp hf, he]; exact h2.1 y hy

theorem rt_longPairs {env : Env} {q : Pos} {l1 l2 : List Obj} {life : Life} {gens : Array GenState} {drawn : Drawn} {os : OsState} {d : Addr} (hd : d = l1.length) (h11 : 11 ≤ d) :
    ∀ (xs : List (Int × Str)) (es : List DictEntry) (n toks : Nat) (p : Pos), Small xs → Apart es xs → es.length + xs.length < 1000 →
    RT w (13 * xs.length) (forIn (xs.map fun x => (kT env x, vT env q x)) PUnit.unit fun (kv : Sem Value × Sem Value) (_ : PUnit) => (do
        let kv' ← kv.1
        let vv ← holding [kv'] kv.2
        holding [kv', vv] (dictSet d kv' vv)
        pure (ForInStep.yield PUnit.unit) : Sem (ForInStep PUnit)))
      ⟨mkH (l1 ++ dictO es n :: l2) life, gens, drawn, toks, os⟩ p PUnit.unit ⟨mkH (l1 ++ dictO (es ++ entL xs toks) (n + xs.length) :: l2) life, gens, drawn, toks + 3 * xs.length, os⟩ (if xs = [] then p else q)
  | [], es, n, toks, p, _, _, _ => by simpa [entL] using RT.pure'
  | x :: r, es, n, toks, p, hs, ha, hl => by
    rw [List.length_cons] at hl
    rw [List.map_cons, List.forIn_cons]
    have ih := rt_longPairs (env := env) (q := q) (l1 := l1) (l2 := l2) (life := life) (gens := gens) (drawn := drawn) (os := os) hd h11 r (es ++ [⟨x.1, .int x.1 toks, .str x.2 (toks + 1)⟩]) (n + 1) (toks + 1 + 1 + 1) q
      (fun y hy => hs y (List.mem_cons_of_mem _ hy)) (ha.next rfl) (by simp; omega)
    have e : (13 * (x :: r).length) = 13 * r.length + 13 := by simp; omega
    rw [e]
    refine RT.bind (n := 13) (n' := 13 * r.length) (a := ForInStep.yield PUnit.unit) (s' := ⟨mkH (l1 ++ dictO (es ++ [⟨x.1, .int x.1 toks, .str x.2 (toks + 1)⟩]) (n + 1) :: l2) life, gens, drawn, toks + 1 + 1 + 1, os⟩) (p' := q) ?_ ?_
    · refine RT.bind (n := 1) (n' := 12) (rt_kT (env := env)) ?_
      refine RT.bind (n := 2) (n' := 10) (RT.holding (rt_vT (env := env))) ?_
      refine RT.bind (n := 10) (n' := 0) (RT.holding (RT.dictSet hd h11 (by omega) (ha.1 x List.mem_cons_self) (hs x List.mem_cons_self).1 (hs x List.mem_cons_self).2)) RT.pure'
    · show RT w (13 * r.length) (forIn (r.map fun x => (Mine.kT env x, Mine.vT env q x)) PUnit.unit _) _ _ _ _ _
      have e1 : es ++ entL (x :: r) toks = (es ++ [⟨x.1, .int x.1 toks, .str x.2 (toks + 1)⟩]) ++ entL r (toks + 1 + 1 + 1) := by simp [entL]
      have e2 : n + (x :: r).length = n + 1 + r.length := by simp; omega
      have e3 : toks + 3 * (x :: r).length = toks + 1 + 1 + 1 + 3 * r.length := by simp; omega
      have e4 : (if (x :: r) = [] then p else q) = (if r = [] then q else q) := by simp
      rw [e1, e2, e3, e4]
      exact ih
end
end Mine

end
section
open PySem PySem.W PyProof.Rows
set_option Elab.async false
set_option maxRecDepth 100000
namespace Mine
noncomputable section
variable {w : World} {s : Shared} {p : Pos} {env : Env} {q : Pos} {life : Life} {gens : Array GenState} {drawn : Drawn} {os : OsState} {toks : Nat}
theorem RT.cast {α : Type} {n n' : Nat} {m : Sem α} {s s' s₂ : Shared} {p p' : Pos} {a : α} (h : RT w n m s p a s₂ p') (e : n = n') (es : s₂ = s') : RT w n' m s p a s' p' := e ▸ es ▸ h

theorem RT.cast2 {α : Type} {n : Nat} {m : Sem α} {s₁ s₂ s₁' s₂' : Shared} {p p' : Pos} {a : α} (h : RT w n m s₁ p a s₂ p') (e : s₁ = s₁') (es : s₂ = s₂') : RT w n m s₁' p a s₂' p' := e ▸ es ▸ h

theorem RT.iteF {α : Type} {n : Nat} {m m' : Sem α} {s₁ s₂ : Shared} {p p' : Pos} {a : α} (h : RT w n m s₁ p a s₂ p') : RT w n (if false = true then m' else m) s₁ p a s₂ p' := by rw [if_neg Bool.false_ne_true]; exact h

theorem rt_subLong {l : List Obj} {xs : List (Int × Str)} (h11 : 11 ≤ l.length) (hs : Small xs) (ha : xs.Pairwise fun a b => a.1 ≠ b.1) (h15 : 15 < xs.length) (hl : xs.length < 1000) :
    RT w (13 * xs.length + 2) (subDict (xs.map fun x => (kT env x, vT env q x))) ⟨mkH l life, gens, drawn, toks, os⟩ p l.length ⟨mkH (l ++ [dictO (entL xs toks) xs.length]) life, gens, drawn, toks + 3 * xs.length, os⟩ q := by
  unfold subDict
  have e0 : (mkH l life).objs.size = l.length := mkH_size
  have e1 : (mkH l life).push { cls := .type "dict", data := .dict #[] } = mkH (l ++ [dictO [] 0]) life := mkH_push
  have hne : ¬ xs = [] := fun h => by rw [h] at h15; simp at h15
  have L := rt_longPairs (w := w) (env := env) (q := q) (l1 := l) (l2 := []) (life := life) (gens := gens) (drawn := drawn) (os := os) rfl h11 xs [] 0 toks p hs ⟨fun x _ e he => (nomatch he), ha⟩ (by simp; omega)
  rw [if_neg hne, List.nil_append, Nat.zero_add] at L
  refine RT.cast (RT.bind (n := 1) (n' := 0 + (0 + 13 * xs.length + 1)) RT.alloc ?_) (by omega) rfl
  dsimp only
  rw [e0, e1]
  refine RT.bind (n := 0 + 13 * xs.length + 1) (n' := 0) (a := ()) (RT.holding ?_) RT.pure'
  rw [if_neg (by rw [List.length_map]; omega)]
  refine RT.bind (n := 1) (n' := 0 + 13 * xs.length) RT.rule ?_
  exact RT.bind (n := 13 * xs.length) (n' := 0) L RT.pure'

theorem special_diter {a : Addr} {es : List DictEntry} {n : Nat} (ho : s.heap.get? a = some (dictO es n)) : RT w 1 (specialOf (.ref a) "__iter__") s p (some (.builtin "dict.__iter__")) s p := by
  show RT w 1 (typeOf (.ref a) >>= fun t => typeLookup t "__iter__") _ _ _ _ _
  refine RT.bind (n := 1) (n' := 0) (a := .type "dict") (RT.bind (n := 1) (n' := 0) (RT.load ho) RT.pure') ?_
  have e : typeLookup (.type "dict") "__iter__" = pure (some (.builtin "dict.__iter__")) := by rw [typeLookup_type, builtinLookup_eq_fast]; kernel_rfl
  rw [e]; exact RT.pure'
theorem is_dict {a : Addr} {es : List DictEntry} {n : Nat} (ho : s.heap.get? a = some (dictO es n)) : RT w 1 (isInstance (.ref a) (.type "dict")) s p true s p := by
  show RT w 1 (typeOf (.ref a) >>= fun t => isSubtype t (.type "dict")) _ _ _ _ _
  refine RT.bind (n := 1) (n' := 0) (a := .type "dict") (RT.bind (n := 1) (n' := 0) (RT.load ho) RT.pure') ?_
  have e : isSubtype (.type "dict") (.type "dict") = pure true := by rw [isSubtype_type]; kernel_rfl
  rw [e]; exact RT.pure'

theorem RT.dictPut {l1 l2 : List Obj} {es : List DictEntry} {n : Nat} {d : Addr} {i : Int} {t : Tok} {h : Int} {v : Value} (hd : d = l1.length) (h11 : 11 ≤ d) (hz : es.length < 16777216) (hn : NoHash es h) :
    RT w 4 (dictPut d h (.int i t) v) ⟨mkH (l1 ++ dictO es n :: l2) life, gens, drawn, toks, os⟩ p () ⟨mkH (l1 ++ dictO (es ++ [⟨h, .int i t, v⟩]) (n + 1) :: l2) life, gens, drawn, toks, os⟩ p := by
  unfold PySem.dictPut
  refine RT.bind (n := 1) (n' := 3) (RT.dictFind (by rw [hd]; exact mkH_get) hn) ?_
  exact RT.push hd h11 hz

theorem rt_forIn {c : Nat} {F : Nat → PUnit → Sem (ForInStep PUnit)} {S : Nat → Shared} : ∀ (k i : Nat), (∀ j, i ≤ j → j < i + k → RT w c (F j ⟨⟩) (S j) p (ForInStep.yield ⟨⟩) (S (j + 1)) p) →
    RT w (c * k) (forIn (List.range' i k) PUnit.unit F) (S i) p PUnit.unit (S (i + k)) p
  | 0, i, _ => RT.pure'
  | k + 1, i, h => by
    rw [List.range'_succ, List.forIn_cons]
    have ih := rt_forIn (c := c) (F := F) (S := S) k (i + 1) fun j h1 h2 => h j (by omega) (by omega)
    rw [show i + 1 + k = i + (k + 1) by omega] at ih
    refine RT.cast (RT.bind (n := c) (n' := c * k) (h i (Nat.le_refl _) (by omega)) ?_) (Nat.mul_succ c k).symm rfl
    exact ih
theorem entL_get {xs : List (Int × Str)} {t j : Nat} : (entL xs t)[j]? = (xs[j]?).map fun x => ⟨x.1, .int x.1 (t + 3 * j), .str x.2 (t + 3 * j + 1)⟩ := by
  induction xs generalizing t j with
  | nil => rfl
  | cons x r ih =>
    cases j with
    | zero => rfl
    | succ j =>
      show (entL r (t + 3))[j]? = _
      rw [ih]
      simp only [List.getElem?_cons_succ]
      rw [show t + 3 + 3 * j = t + 3 * (j + 1) by omega]

/-- entries keyed by ints, told apart by their hashes, none of them there yet -/
noncomputable def Fresh (es E : List DictEntry) : Prop := (∀ e ∈ E, ∃ t, e.key = .int e.hash t) ∧ (∀ e ∈ E, NoHash es e.hash) ∧ E.Pairwise fun a b => a.hash ≠ b.hash

theorem rt_merge {l1 l2 : List Obj} {es E : List DictEntry} {n n2 : Nat} {d a : Addr} (hd : d = l1.length) (h11 : 11 ≤ d) (ha : a = l1.length + 1 + l2.length) (haS : (a == sysModules) = false) (hne : es ≠ [])
    (hap : Fresh es E) (hl : es.length + E.length < 1000) :
    RT w (6 * E.length + 5) (mergeMapping d (.ref a) false) ⟨mkH (l1 ++ dictO es n :: (l2 ++ [dictO E n2])) life, gens, drawn, toks, os⟩ p ()
      ⟨mkH (l1 ++ dictO (es ++ E) (n + E.length) :: (l2 ++ [dictO E n2])) life, gens, drawn, toks, os⟩ p := by
  have ga : ∀ es' n', (mkH (l1 ++ dictO es' n' :: (l2 ++ [dictO E n2])) life).get? a = some (dictO E n2) := fun es' n' => by
    have := mkH_get (l1 := l1 ++ dictO es' n' :: l2) (l2 := []) (life := life) (es := E) (n := n2)
    rw [show (l1 ++ dictO es' n' :: l2).length = a by simp [ha]; omega] at this
    simpa using this
  have gd : ∀ es' n', (mkH (l1 ++ dictO es' n' :: (l2 ++ [dictO E n2])) life).get? d = some (dictO es' n') := fun es' n' => by rw [hd]; exact mkH_get
  unfold mergeMapping
  refine RT.cast (RT.bind (n := 1) (n' := 0 + 6 * E.length + 1 + 1 + 1 + 1) (is_dict (ga _ _)) ?_) (by omega) rfl
  dsimp only
  rw [if_pos rfl]
  refine RT.bind (n := 1) (n' := 0 + 6 * E.length + 1 + 1 + 1) (special_diter (ga _ _)) ?_
  refine RT.bind (n := 0) (n' := 0 + 6 * E.length + 1 + 1 + 1) (a := true) (s' := ⟨mkH (l1 ++ dictO es n :: (l2 ++ [dictO E n2])) life, gens, drawn, toks, os⟩) (p' := p) ?_ ?_
  · rw [show (some (Value.builtin "dict.__iter__") == some (Value.builtin "dict.__iter__")) = true by decide]
    exact RT.pure'
  dsimp only
  rw [haS, if_neg Bool.false_ne_true]
  refine RT.bind (n := 1) (n' := 0 + 6 * E.length + 1 + 1) (RT.dictEntries (gd _ _)) ?_
  rw [if_neg (by cases es with | nil => exact absurd rfl hne | cons _ _ => simp)]
  refine RT.bind (n := 1) (n' := 0 + 6 * E.length + 1) (RT.dictEntries (ga _ _)) ?_
  refine RT.bind (n := 1) (n' := 0 + 6 * E.length) (RT.dictEpoch (ga _ _)) ?_
  refine RT.bind (n := 6 * E.length) (n' := 0) (a := PUnit.unit) ?_ RT.pure'
  have e4 : E.toArray.size = E.length := by simp
  rw [e4, List.range_eq_range']
  refine RT.cast2 (rt_forIn (w := w) (c := 6) (p := p) (S := fun j => ⟨mkH (l1 ++ dictO (es ++ E.take j) (n + j) :: (l2 ++ [dictO E n2])) life, gens, drawn, toks, os⟩) E.length 0 ?_) ?_ ?_
  rotate_left
  · show Shared.mk _ _ _ _ _ = _
    rw [List.take_zero, List.append_nil, Nat.add_zero]
  · show Shared.mk _ _ _ _ _ = _
    rw [List.take_of_length_le (by omega), Nat.zero_add]
  · intro j _ hj
    have hj' : j < E.length := by omega
    have he : E[j]? = some E[j] := List.getElem?_eq_getElem hj'
    obtain ⟨tk, hkey⟩ := hap.1 _ (List.getElem_mem hj')
    refine RT.bind (n := 1) (n' := 5) (RT.dictEntries (ga _ _)) ?_
    rw [List.getElem?_toArray, he]
    dsimp only
    have hno : NoHash (es ++ E.take j) E[j].hash := by
      intro e hem
      rcases List.mem_append.mp hem with hem | hem
      · exact hap.2.1 _ (List.getElem_mem hj') e hem
      · obtain ⟨i, hi, rfl⟩ := List.mem_iff_getElem.mp hem
        rw [List.length_take] at hi
        have hij : i < j := by omega
        have hi' : i < E.length := by omega
        rw [List.getElem_take]
        exact List.pairwise_iff_getElem.mp hap.2.2 i j hi' hj' hij
    have hz : (es ++ E.take j).length < 16777216 := by
      rw [List.length_append, List.length_take]; omega
    have hE : E[j] = ⟨E[j].hash, .int E[j].hash tk, E[j].val⟩ := by rw [← hkey]
    have hsucc : es ++ E.take (j + 1) = es ++ E.take j ++ [⟨E[j].hash, .int E[j].hash tk, E[j].val⟩] := by
      rw [List.take_add_one, he, List.append_assoc, ← hE]; rfl
    have P := RT.dictPut (w := w) (p := p) (life := life) (gens := gens) (drawn := drawn) (os := os) (toks := toks) (l1 := l1) (l2 := l2 ++ [dictO E n2]) (es := es ++ E.take j) (n := n + j) (d := d) (i := E[j].hash) (t := tk) (h := E[j].hash) (v := E[j].val) hd h11 hz hno
    rw [← hkey] at P hsucc
    refine RT.bind (n := 4) (n' := 1) (RT.holding (RT.iteF P)) ?_
    rw [hsucc, ← Nat.add_assoc]
    refine RT.bind (n := 1) (n' := 0) (RT.dictEpoch (ga _ _)) ?_
    rw [if_neg (by simp)]
    exact RT.pure'
theorem entL_fresh {es : List DictEntry} {xs : List (Int × Str)} {t : Nat} (h : Apart es xs) : Fresh es (entL xs t) := by
  refine ⟨fun e he => ?_, fun e he => ?_, ?_⟩
  · induction xs generalizing t es with
    | nil => cases he
    | cons x r ih =>
      rcases List.mem_cons.mp he with rfl | he
      · exact ⟨t, rfl⟩
      · exact ih (es := []) ⟨fun _ _ _ hf => (nomatch hf), (List.pairwise_cons.mp h.2).2⟩ he
  · obtain ⟨x, hx, e1⟩ := entL_hash e he
    rw [e1]; exact h.1 x hx
  · have hp := h.2
    clear h
    induction xs generalizing t with
    | nil => exact .nil
    | cons x r ih =>
      rw [List.pairwise_cons] at hp
      refine List.pairwise_cons.mpr ⟨fun e he => ?_, ih hp.2⟩
      obtain ⟨y, hy, e1⟩ := entL_hash e he
      rw [e1]; exact hp.1 y hy
end
end Mine

end
section
open PySem PySem.W PyProof.Rows
set_option Elab.async false
set_option maxRecDepth 100000
namespace Mine
noncomputable section
variable {w : World} {s : Shared} {p : Pos} {env : Env} {q : Pos} {life : Life} {gens : Array GenState} {drawn : Drawn} {os : OsState} {toks : Nat}
noncomputable abbrev Item : Type := Option (Sem Value) × Sem Value
noncomputable abbrev Acc : Type := Option Addr × List (Sem Value × Sem Value)
noncomputable def ddX : { bf : (Item → Acc → Sem (ForInStep Acc)) × (Acc → Sem Value) // ∀ items : List Item, dictDisplay items = (forIn items ((none, []) : Acc) bf.1) >>= bf.2 } := ⟨(_, _), fun items => by unfold dictDisplay; exact rfl⟩
noncomputable def itemOf (env : Env) (q : Pos) (x : Int × Str) : Item := (some (kT env x), vT env q x)
noncomputable def pairOf (env : Env) (q : Pos) (x : Int × Str) : Sem Value × Sem Value := (kT env x, vT env q x)

theorem dd_gather (main : Option Addr) : ∀ (ys : List (Int × Str)) (run : List (Sem Value × Sem Value)) (rest : List Item), run.length + ys.length < 17 →
    forIn (ys.map (itemOf env q) ++ rest) ((main, run) : Acc) ddX.1.1 = forIn rest ((main, run ++ ys.map (pairOf env q)) : Acc) ddX.1.1
  | [], run, rest, _ => by simp
  | y :: ys, run, rest, h => by
    rw [List.length_cons] at h
    have e : ddX.1.1 (itemOf env q y) (main, run) = pure (.yield (main, run ++ [pairOf env q y])) := by
      unfold ddX itemOf
      dsimp only
      rw [if_neg (by simp; omega)]
      rfl
    rw [List.map_cons, List.cons_append, List.forIn_cons, e, pure_bind]
    dsimp only
    rw [dd_gather main ys _ rest (by simp; omega)]
    simp

theorem split17 {xs : List (Int × Str)} (h : xs.length = 17) : ∃ ys z, xs = ys ++ [z] ∧ ys.length = 16 := by
  refine ⟨xs.take 16, xs[16], ?_, by rw [List.length_take]; omega⟩
  have := List.take_append_drop 16 xs
  conv => lhs; rw [← this]
  rw [List.drop_eq_getElem_cons (by omega), List.drop_of_length_le (by omega)]

/-- one piece of seventeen: the first -/
theorem dd_first {l : List Obj} {xs : List (Int × Str)} {rest : List Item} {n' : Nat} {b : Acc} {s' : Shared} {p' : Pos} (h11 : 11 ≤ l.length) (hs : Small xs) (ha : xs.Pairwise fun a b => a.1 ≠ b.1) (hl : xs.length = 17)
    (k : RT w n' (forIn rest ((some l.length, []) : Acc) ddX.1.1) ⟨mkH (l ++ [dictO (entL xs toks) 17]) life, gens, drawn, toks + 51, os⟩ q b s' p') :
    RT w (n' + 223) (forIn (xs.map (itemOf env q) ++ rest) ((none, []) : Acc) ddX.1.1) ⟨mkH l life, gens, drawn, toks, os⟩ p b s' p' := by
  have S := rt_subLong (w := w) (p := p) (env := env) (q := q) (life := life) (gens := gens) (drawn := drawn) (os := os) (toks := toks) h11 hs ha (by rw [hl]; decide) (by rw [hl]; decide)
  rw [hl] at S
  obtain ⟨ys, z, rfl, hy⟩ := split17 hl
  rw [List.map_append, List.append_assoc, dd_gather none ys [] _ (by simp [hy]), List.map_singleton, List.singleton_append, List.forIn_cons, List.nil_append]
  refine RT.bind (n := 223) (n' := n') (a := .yield (some l.length, [])) (s' := ⟨mkH (l ++ [dictO (entL (ys ++ [z]) toks) 17]) life, gens, drawn, toks + 51, os⟩) (p' := q) ?_ ?_
  rotate_left
  · exact k
  unfold ddX itemOf
  dsimp only
  rw [if_pos (by simp [hy])]
  have e : (ys.map (pairOf env q) ++ [(kT env z, vT env q z)]) = (ys ++ [z]).map fun x => (kT env x, vT env q x) := by rw [List.map_append]; rfl
  rw [e, if_neg (by simp)]
  exact RT.bind (n := 223) (n' := 0) (RT.bind (n := 223) (n' := 0) S RT.pure') RT.pure'

/-- a later piece -/
theorem dd_next {l1 l2 : List Obj} {es : List DictEntry} {n : Nat} {xs : List (Int × Str)} {rest : List Item} {n' : Nat} {b : Acc} {s' : Shared} {p' : Pos} (h11 : 11 ≤ l1.length) (hne : es ≠ []) (hs : Small xs) (hap : Apart es xs) (hl : xs.length = 17) (hle : es.length < 900)
    (k : RT w n' (forIn rest ((some l1.length, []) : Acc) ddX.1.1) ⟨mkH (l1 ++ dictO (es ++ entL xs toks) (n + 17) :: (l2 ++ [dictO (entL xs toks) 17])) life, gens, drawn, toks + 51, os⟩ q b s' p') :
    RT w (n' + 330) (forIn (xs.map (itemOf env q) ++ rest) ((some l1.length, []) : Acc) ddX.1.1) ⟨mkH (l1 ++ dictO es n :: l2) life, gens, drawn, toks, os⟩ p b s' p' := by
  have k1 : (l1 ++ dictO es n :: l2).length = l1.length + 1 + l2.length := by rw [List.length_append, List.length_cons]; omega
  have k2 : 11 ≤ (l1 ++ dictO es n :: l2).length := Nat.le_trans h11 (by rw [k1]; omega)
  have S := rt_subLong (w := w) (p := p) (env := env) (q := q) (life := life) (gens := gens) (drawn := drawn) (os := os) (toks := toks) (l := l1 ++ dictO es n :: l2) k2 hs hap.2 (by rw [hl]; decide) (by rw [hl]; decide)
  have k3 : es.length + (entL xs toks).length < 1000 := by rw [entL_length, hl]; omega
  have hS : ((l1 ++ dictO es n :: l2).length == sysModules) = false := beq_eq_false_iff_ne.mpr fun e => by
    have e' : (l1 ++ dictO es n :: l2).length = 1 := e
    omega
  have G := rt_merge (w := w) (p := q) (life := life) (gens := gens) (drawn := drawn) (os := os) (toks := toks + 3 * 17) (l1 := l1) (l2 := l2) (es := es) (n := n) (n2 := 17) (d := l1.length) (a := (l1 ++ dictO es n :: l2).length) (E := entL xs toks) rfl h11 k1 hS hne (entL_fresh hap) k3
  rw [entL_length, hl] at G
  rw [hl] at S
  rw [List.append_assoc, List.cons_append] at S
  obtain ⟨ys, z, rfl, hy⟩ := split17 hl
  rw [List.map_append, List.append_assoc, dd_gather (some l1.length) ys [] _ (by simp [hy]), List.map_singleton, List.singleton_append, List.forIn_cons, List.nil_append]
  refine RT.bind (n := 330) (n' := n') (a := .yield (some l1.length, [])) (s' := ⟨mkH (l1 ++ dictO (es ++ entL (ys ++ [z]) toks) (n + 17) :: (l2 ++ [dictO (entL (ys ++ [z]) toks) 17])) life, gens, drawn, toks + 51, os⟩) (p' := q) ?_ ?_
  rotate_left
  · exact k
  unfold ddX itemOf
  dsimp only
  rw [if_pos (by simp [hy])]
  have e : (ys.map (pairOf env q) ++ [(kT env z, vT env q z)]) = (ys ++ [z]).map fun x => (kT env x, vT env q x) := by rw [List.map_append]; rfl
  rw [e, if_neg (by simp)]
  exact RT.bind (n := 330) (n' := 0) (a := some l1.length) (RT.bind (n := 223) (n' := 107) (RT.holding S) (RT.bind (n := 107) (n' := 0) (RT.onRaise (RT.holding G)) RT.pure')) RT.pure'

theorem entL_append {xs ys : List (Int × Str)} {t : Nat} : entL (xs ++ ys) t = entL xs t ++ entL ys (t + 3 * xs.length) := by
  induction xs generalizing t with
  | nil => rfl
  | cons x r ih =>
    rw [List.cons_append, entL, ih, entL, List.cons_append, List.length_cons]
    rw [show t + 3 + 3 * r.length = t + 3 * (r.length + 1) by omega]
theorem Apart.split {es : List DictEntry} {xs ys : List (Int × Str)} {t : Nat} (h : Apart es (xs ++ ys)) : Apart es xs ∧ Apart (es ++ entL xs t) ys := by
  obtain ⟨h1, h2⟩ := h
  rw [List.pairwise_append] at h2
  refine ⟨⟨fun x hx => h1 x (List.mem_append_left _ hx), h2.1⟩, fun y hy e he => ?_, h2.2.1⟩
  rcases List.mem_append.mp he with he | he
  · exact h1 y (List.mem_append_right _ hy) e he
  · obtain ⟨x, hx, e1⟩ := entL_hash e he
    rw [e1]; exact h2.2.2 x hx y hy

theorem dd_all {l1 : List Obj} {rest : List Item} {n' : Nat} {b : Acc} {s' : Shared} {p' : Pos} (h11 : 11 ≤ l1.length) :
    ∀ (cs : List (List (Int × Str))) (l2 : List Obj) (es : List DictEntry) (n toks : Nat), (∀ c ∈ cs, c.length = 17) → es ≠ [] → Small cs.flatten → Apart es cs.flatten → es.length + 17 * cs.length < 900 →
    RT w n' (forIn rest ((some l1.length, []) : Acc) ddX.1.1) ⟨mkH (l1 ++ dictO (es ++ entL cs.flatten toks) (n + 17 * cs.length) :: (l2 ++ subsC cs toks)) life, gens, drawn, toks + 51 * cs.length, os⟩ q b s' p' →
    RT w (n' + 330 * cs.length) (forIn (cs.flatten.map (itemOf env q) ++ rest) ((some l1.length, []) : Acc) ddX.1.1) ⟨mkH (l1 ++ dictO es n :: l2) life, gens, drawn, toks, os⟩ q b s' p'
  | [], l2, es, n, toks, _, _, _, _, _, k => by simpa [entL, subsC] using k
  | c :: r, l2, es, n, toks, hc, hne, hs, ha, hle, k => by
    rw [List.length_cons] at hle
    have hcl := hc c List.mem_cons_self
    rw [List.flatten_cons] at hs ha
    have ha' := ha.split (t := toks)
    have ih := dd_all h11 r (l2 ++ [dictO (entL c toks) 17]) (es ++ entL c toks) (n + 17) (toks + 51)
      (fun c' h' => hc c' (List.mem_cons_of_mem _ h')) (by simp [hne]) (fun x hx => hs x (List.mem_append_right _ hx)) ha'.2 (by rw [List.length_append, entL_length, hcl]; omega)
      (by
        have e1 : es ++ entL (c :: r).flatten toks = es ++ entL c toks ++ entL r.flatten (toks + 51) := by rw [List.flatten_cons, entL_append, hcl, List.append_assoc]
        have e2 : l2 ++ subsC (c :: r) toks = l2 ++ [dictO (entL c toks) 17] ++ subsC r (toks + 51) := by rw [subsC, List.append_assoc]; rfl
        rw [e1, e2, List.length_cons, show n + 17 * (r.length + 1) = n + 17 + 17 * r.length by omega, show toks + 51 * (r.length + 1) = toks + 51 + 51 * r.length by omega] at k
        exact k)
    rw [List.flatten_cons, List.map_append, List.append_assoc, List.length_cons]
    refine RT.cast (dd_next h11 hne (fun x hx => hs x (List.mem_append_left _ hx)) ha'.1 hcl (by omega) ih) (by omega) rfl
end
end Mine

end
section
open PySem PySem.W PyProof.Rows
set_option Elab.async false
set_option maxRecDepth 100000
namespace Mine
noncomputable section
variable {w : World} {s : Shared} {p : Pos} {env : Env} {q : Pos} {life : Life} {gens : Array GenState} {drawn : Drawn} {os : OsState} {toks : Nat}
noncomputable def valsS : List (Int × Str) → Nat → List (Value × Value)
  | [], _ => []
  | x :: r, t => (.int x.1 t, .str x.2 (t + 1)) :: valsS r (t + 2)
theorem entS_length {xs : List (Int × Str)} {t : Nat} : (entS xs t).length = xs.length := by
  induction xs generalizing t with
  | nil => rfl
  | cons x r ih => simp [entS, ih]
theorem entS_hash {xs : List (Int × Str)} {t : Nat} : ∀ e ∈ entS xs t, ∃ x ∈ xs, e.hash = x.1 := by
  induction xs generalizing t with
  | nil => intro e he; cases he
  | cons x r ih =>
    intro e he
    rcases List.mem_cons.mp he with rfl | he
    · exact ⟨x, List.mem_cons_self, rfl⟩
    · obtain ⟨y, hy, h⟩ := ih e he
      exact ⟨y, List.mem_cons_of_mem _ hy, h⟩
theorem entS_fresh {es : List DictEntry} {xs : List (Int × Str)} {t : Nat} (h : Apart es xs) : Fresh es (entS xs t) := by
  refine ⟨fun e he => ?_, fun e he => ?_, ?_⟩
  · clear h
    induction xs generalizing t with
    | nil => cases he
    | cons x r ih =>
      rcases List.mem_cons.mp he with rfl | he
      · exact ⟨t, rfl⟩
      · exact ih he
  · obtain ⟨x, hx, e1⟩ := entS_hash e he
    rw [e1]; exact h.1 x hx
  · have hp := h.2
    clear h
    induction xs generalizing t with
    | nil => exact .nil
    | cons x r ih =>
      rw [List.pairwise_cons] at hp
      refine List.pairwise_cons.mpr ⟨fun e he => ?_, ih hp.2⟩
      obtain ⟨y, hy, e1⟩ := entS_hash e he
      rw [e1]; exact hp.1 y hy

theorem rt_evalPairs {heap : Heap} : ∀ (xs : List (Int × Str)) (toks : Nat) (p : Pos), RT w (3 * xs.length) (evalPairs (xs.map fun x => (kT env x, vT env q x))) ⟨heap, gens, drawn, toks, os⟩ p (valsS xs toks) ⟨heap, gens, drawn, toks + 2 * xs.length, os⟩ (if xs = [] then p else q)
  | [], toks, p => by simpa [evalPairs, valsS] using RT.pure'
  | x :: r, toks, p => by
    rw [List.map_cons, evalPairs]
    have ih := rt_evalPairs (heap := heap) r (toks + 1 + 1) q
    have e4 : (if (x :: r) = [] then p else q) = (if r = [] then q else q) := by simp
    rw [e4, List.length_cons, show toks + 2 * (r.length + 1) = toks + 1 + 1 + 2 * r.length by omega]
    refine RT.cast (RT.bind (n := 1) (n' := 0 + 3 * r.length + 2) (rt_kT (env := env)) ?_) (by omega) rfl
    refine RT.bind (n := 2) (n' := 0 + 3 * r.length) (RT.holding (rt_vT (env := env))) ?_
    exact RT.bind (n := 3 * r.length) (n' := 0) (RT.holding ih) RT.pure'

theorem rt_store {l1 l2 : List Obj} {d : Addr} (hd : d = l1.length) (h11 : 11 ≤ d) : ∀ (xs : List (Int × Str)) (es : List DictEntry) (n t toks : Nat), Small xs → Apart es xs → es.length + xs.length < 1000 →
    RT w (10 * xs.length) (forIn (valsS xs t) PUnit.unit fun (x : Value × Value) (_ : PUnit) => (do dictSet d x.1 x.2; pure (ForInStep.yield PUnit.unit) : Sem (ForInStep PUnit))) ⟨mkH (l1 ++ dictO es n :: l2) life, gens, drawn, toks, os⟩ p PUnit.unit
      ⟨mkH (l1 ++ dictO (es ++ entS xs t) (n + xs.length) :: l2) life, gens, drawn, toks + xs.length, os⟩ p
  | [], es, n, t, toks, _, _, _ => by simpa [valsS, entS] using RT.pure'
  | x :: r, es, n, t, toks, hs, ha, hl => by
    rw [List.length_cons] at hl
    rw [valsS, List.forIn_cons]
    have ih := rt_store (l1 := l1) (l2 := l2) hd h11 r (es ++ [⟨x.1, .int x.1 t, .str x.2 (t + 1)⟩]) (n + 1) (t + 2) (toks + 1) (fun y hy => hs y (List.mem_cons_of_mem _ hy)) (ha.next rfl) (by simp; omega)
    have e1 : es ++ entS (x :: r) t = (es ++ [⟨x.1, .int x.1 t, .str x.2 (t + 1)⟩]) ++ entS r (t + 2) := by simp [entS]
    rw [e1, List.length_cons, show n + (r.length + 1) = n + 1 + r.length by omega, show toks + (r.length + 1) = toks + 1 + r.length by omega]
    refine RT.cast (RT.bind (n := 10) (n' := 10 * r.length) (RT.bind (n := 10) (n' := 0) (RT.dictSet hd h11 (by omega) (ha.1 x List.mem_cons_self) (hs x List.mem_cons_self).1 (hs x List.mem_cons_self).2) RT.pure') ?_) (by omega) rfl
    exact ih

theorem rt_subShort {l : List Obj} {xs : List (Int × Str)} (h11 : 11 ≤ l.length) (hs : Small xs) (ha : xs.Pairwise fun a b => a.1 ≠ b.1) (h0 : xs ≠ []) (h15 : xs.length ≤ 15) :
    RT w (13 * xs.length + 1) (subDict (xs.map fun x => (kT env x, vT env q x))) ⟨mkH l life, gens, drawn, toks, os⟩ p l.length ⟨mkH (l ++ [dictO (entS xs toks) xs.length]) life, gens, drawn, toks + 3 * xs.length, os⟩ q := by
  unfold subDict
  have e0 : (mkH l life).objs.size = l.length := mkH_size
  have e1 : (mkH l life).push { cls := .type "dict", data := .dict #[] } = mkH (l ++ [dictO [] 0]) life := mkH_push
  have P := rt_evalPairs (w := w) (env := env) (q := q) (gens := gens) (drawn := drawn) (os := os) (heap := mkH (l ++ [dictO [] 0]) life) xs toks p
  rw [if_neg h0] at P
  have S := rt_store (w := w) (p := q) (life := life) (gens := gens) (drawn := drawn) (os := os) (l1 := l) (l2 := []) rfl h11 xs [] 0 toks (toks + 2 * xs.length) hs ⟨fun x _ e he => (nomatch he), ha⟩ (by simp; omega)
  rw [List.nil_append, Nat.zero_add] at S
  rw [show toks + 2 * xs.length + xs.length = toks + 3 * xs.length by omega] at S
  refine RT.cast (RT.bind (n := 1) (n' := 0 + (0 + 10 * xs.length + 3 * xs.length)) RT.alloc ?_) (by omega) rfl
  dsimp only
  rw [e0, e1]
  refine RT.bind (n := 0 + 10 * xs.length + 3 * xs.length) (n' := 0) (a := ()) (RT.holding ?_) RT.pure'
  rw [if_pos (by rw [List.length_map]; omega)]
  refine RT.bind (n := 3 * xs.length) (n' := 0 + 10 * xs.length) P ?_
  refine RT.holding ?_
  exact RT.bind (n := 10 * xs.length) (n' := 0) S RT.pure'

/-- the end: the last few pairs -/
theorem dd_end {l1 l2 : List Obj} {es : List DictEntry} {n : Nat} {xs : List (Int × Str)} (h11 : 11 ≤ l1.length) (hne : es ≠ []) (hs : Small xs) (hap : Apart es xs) (h0 : xs ≠ []) (h15 : xs.length ≤ 15) (hle : es.length < 900) :
    RT w (19 * xs.length + 6) (ddX.1.2 (some l1.length, xs.map (pairOf env q))) ⟨mkH (l1 ++ dictO es n :: l2) life, gens, drawn, toks, os⟩ p (.ref l1.length)
      ⟨mkH (l1 ++ dictO (es ++ entS xs toks) (n + xs.length) :: (l2 ++ [dictO (entS xs toks) xs.length])) life, gens, drawn, toks + 3 * xs.length, os⟩ q := by
  have k1 : (l1 ++ dictO es n :: l2).length = l1.length + 1 + l2.length := by rw [List.length_append, List.length_cons]; omega
  have k2 : 11 ≤ (l1 ++ dictO es n :: l2).length := Nat.le_trans h11 (by rw [k1]; omega)
  have S := rt_subShort (w := w) (p := p) (env := env) (q := q) (life := life) (gens := gens) (drawn := drawn) (os := os) (toks := toks) (l := l1 ++ dictO es n :: l2) k2 hs hap.2 h0 h15
  have k3 : es.length + (entS xs toks).length < 1000 := by rw [entS_length]; omega
  have hS : ((l1 ++ dictO es n :: l2).length == sysModules) = false := beq_eq_false_iff_ne.mpr fun e => by
    have e' : (l1 ++ dictO es n :: l2).length = 1 := e
    omega
  have G := rt_merge (w := w) (p := q) (life := life) (gens := gens) (drawn := drawn) (os := os) (toks := toks + 3 * xs.length) (l1 := l1) (l2 := l2) (es := es) (n := n) (n2 := xs.length) (d := l1.length) (a := (l1 ++ dictO es n :: l2).length) (E := entS xs toks) rfl h11 k1 hS hne (entS_fresh hap) k3
  rw [entS_length] at G
  rw [List.append_assoc, List.cons_append] at S
  unfold ddX
  dsimp only
  have e : xs.map (pairOf env q) = xs.map fun x => (kT env x, vT env q x) := rfl
  have e2 : ¬ (xs.map fun x => (kT env x, vT env q x)).isEmpty = true := by cases xs with | nil => exact absurd rfl h0 | cons _ _ => simp
  rw [e, if_neg e2]
  refine RT.cast (RT.bind (n := 0 + (6 * xs.length + 5) + (13 * xs.length + 1)) (n' := 0) (a := some l1.length) (RT.bind (n := 13 * xs.length + 1) (n' := 0 + (6 * xs.length + 5)) (RT.holding S) (RT.bind (n := 6 * xs.length + 5) (n' := 0) (RT.onRaise (RT.holding G)) RT.pure')) RT.pure') (by omega) rfl

theorem dd_display {l : List Obj} {c : List (Int × Str)} {cs : List (List (Int × Str))} {xs : List (Int × Str)} (h11 : 11 ≤ l.length) (hc : c.length = 17) (hcs : ∀ c ∈ cs, c.length = 17) (h0 : xs ≠ []) (h15 : xs.length ≤ 15) (hle : 17 * cs.length < 800)
    (hs : Small (c ++ (cs.flatten ++ xs))) (ha : (c ++ (cs.flatten ++ xs)).Pairwise fun a b => a.1 ≠ b.1) :
    RT w (19 * xs.length + 6 + (330 * cs.length + 223)) (dictDisplay ((c ++ (cs.flatten ++ xs)).map (itemOf env q))) ⟨mkH l life, gens, drawn, toks, os⟩ p (.ref l.length)
      ⟨mkH (l ++ dictO (entL c toks ++ entL cs.flatten (toks + 51) ++ entS xs (toks + 51 + 51 * cs.length)) (17 + 17 * cs.length + xs.length) :: (subsC cs (toks + 51) ++ [dictO (entS xs (toks + 51 + 51 * cs.length)) xs.length])) life, gens, drawn, toks + 51 + 51 * cs.length + 3 * xs.length, os⟩ q := by
  rw [ddX.2]
  have A0 : Apart [] (c ++ (cs.flatten ++ xs)) := ⟨fun _ _ _ he => (nomatch he), ha⟩
  have A1 := A0.split (t := toks)
  rw [List.nil_append] at A1
  have A2 := A1.2.split (t := toks + 51)
  have hne : entL c toks ≠ [] := fun e => by have := congrArg List.length e; rw [entL_length, hc] at this; cases this
  have hfl : cs.flatten.length = 17 * cs.length := by
    clear ha hs hle A0 A1 A2
    induction cs with
    | nil => rfl
    | cons c' r ih =>
      rw [List.flatten_cons, List.length_append, hcs c' List.mem_cons_self, ih fun c hc => hcs c (List.mem_cons_of_mem _ hc), List.length_cons]; omega
  refine RT.bind (n := 330 * cs.length + 223) (n' := 19 * xs.length + 6) (a := (some l.length, xs.map (pairOf env q)))
    (s' := ⟨mkH (l ++ dictO (entL c toks ++ entL cs.flatten (toks + 51)) (17 + 17 * cs.length) :: subsC cs (toks + 51)) life, gens, drawn, toks + 51 + 51 * cs.length, os⟩) (p' := q) ?_ ?_
  · rw [List.map_append]
    refine dd_first h11 (fun x hx => hs x (List.mem_append_left _ hx)) A1.1.2 hc ?_
    rw [List.map_append]
    refine RT.cast (dd_all (l1 := l) (n' := 0) h11 cs [] (entL c toks) 17 (toks + 51) hcs hne (fun x hx => hs x (List.mem_append_right _ (List.mem_append_left _ hx))) A2.1 (by rw [entL_length, hc]; omega) ?_) (by omega) rfl
    have g := dd_gather (env := env) (q := q) (some l.length) xs [] [] (by rw [List.length_nil]; omega)
    rw [List.append_nil, List.forIn_nil, List.nil_append] at g
    rw [g]
    exact RT.pure'
  · exact dd_end h11 (by simp [hne]) (fun x hx => hs x (List.mem_append_right _ (List.mem_append_right _ hx))) A2.2 h0 h15 (by rw [List.length_append, entL_length, entL_length, hc, hfl]; omega)
end
end Mine

end
section
open PySem PySem.W PyProof.Rows
set_option Elab.async false
set_option maxRecDepth 100000
namespace Mine
noncomputable section
noncomputable def incr : List Int → Bool
  | a :: b :: r => decide (a < b) && incr (b :: r)
  | _ => true
theorem incr_lt : ∀ {l : List Int} {a : Int}, incr (a :: l) = true → ∀ b ∈ l, a < b
  | [], _, _, _, hb => nomatch hb
  | c :: r, a, h, b, hb => by
    obtain ⟨h1, h2⟩ := Bool.and_eq_true_iff.mp h
    have h1 := of_decide_eq_true h1
    rcases List.mem_cons.mp hb with rfl | hb
    · exact h1
    · exact Int.lt_trans h1 (incr_lt h2 b hb)
theorem incr_pairwise : ∀ {l : List Int}, incr l = true → l.Pairwise (· ≠ ·)
  | [], _ => .nil
  | [_], _ => by simp
  | a :: b :: r, h => by
    refine List.pairwise_cons.mpr ⟨fun c hc e => ?_, incr_pairwise (Bool.and_eq_true_iff.mp h).2⟩
    have := incr_lt h c hc
    omega
noncomputable def dP : Pos := match stAt 7 with | .Assign _ (.Dict _ _ p) _ => p | _ => dPos
noncomputable def posB3 : Pos := match stAt 7 with | .Assign _ _ p => p | _ => dPos
noncomputable def posN : Pos := match stAt 7 with | .Assign [.Name _ p] _ _ => p | _ => dPos
noncomputable def nameB3 : Str := match stAt 7 with | .Assign [.Name x _] _ _ => x | _ => ⟨#[]⟩
noncomputable def valB3 : Expr := match stAt 7 with | .Assign _ v _ => v | _ => .Name ⟨#[]⟩ dPos
theorem st7_is : stAt 7 = .Assign [.Name nameB3 posN] valB3 posB3 := by kernel_rfl
theorem val_is : valB3 = .Dict b3Keys b3Vals dP := by kernel_rfl
theorem b3_split : b3C ++ (b3Cs.flatten ++ b3X) = b3P := by kernel_rfl
theorem b3_items : (evalEachOpt b3Keys envM).zip ((evalEach b3Vals envM).map fun v => do let x ← v; standAt dP; pure x) = b3P.map (itemOf envM dP) := by kernel_rfl
theorem b3_small : Small b3P := by
  have h : (b3P.all fun x => decide (0 ≤ x.1) && decide (x.1 < 2 ^ 60)) = true := by kernel_rfl
  intro x hx
  have := List.all_eq_true.mp h x hx
  simpa using this
theorem b3_apart : b3P.Pairwise fun a b => a.1 ≠ b.1 := by
  have h : incr (b3P.map (·.1)) = true := by kernel_rfl
  exact List.pairwise_map.mp (incr_pairwise h)
theorem b3_cl : b3C.length = 17 := by kernel_rfl
theorem b3_csl : b3Cs.length = 37 := by kernel_rfl
theorem b3_xl : b3X.length = 4 := by kernel_rfl
theorem b3_cs : ∀ c ∈ b3Cs, c.length = 17 := by
  have h : (b3Cs.all fun c => c.length == 17) = true := by kernel_rfl
  intro c hc
  exact beq_iff_eq.mp (List.all_eq_true.mp h c hc)

noncomputable def lifeB (w : World) : Life := (boot_heap w.params).life
theorem S6_abs (w : World) (os : OsState) : (S6 w os).abs = ⟨mkH (objs6 w.params) (lifeB w), Array.mk [], boot_drawn, 290, os⟩ := by kernel_rfl
theorem o6_len (P : Params) : (objs6 P).length = 54 := by kernel_rfl
/-- the state behind the display, ahead of the name's store -/
noncomputable def DB3 (w : World) (os : OsState) : Shared := ⟨mkH (objs6 w.params ++ b3Objs) (lifeB w), Array.mk [], boot_drawn, 290 + 51 + 51 * b3Cs.length + 3 * b3X.length, os⟩
theorem rt_value (w : World) (os : OsState) (p : Pos) : RT w 12516 (eval valB3 envM) (S6 w os).abs p (.ref 54) (DB3 w os) dP := by
  rw [val_is, S6_abs]
  show RT w 12516 (standAt dP >>= fun _ => dictDisplay _) _ _ _ _ _
  rw [b3_items, ← b3_split]
  have D := dd_display (w := w) (p := dP) (env := envM) (q := dP) (life := lifeB w) (gens := Array.mk []) (drawn := boot_drawn) (os := os) (toks := 290) (l := objs6 w.params) (c := b3C) (cs := b3Cs) (xs := b3X) (by rw [o6_len]; decide) b3_cl b3_cs (by intro h; have := b3_xl; rw [h] at this; cases this) (by rw [b3_xl]; decide) (by rw [b3_csl]; decide) (by rw [b3_split]; exact b3_small) (by rw [b3_split]; exact b3_apart)
  rw [o6_len] at D
  rw [show 19 * b3X.length + 6 + (330 * b3Cs.length + 223) = 12515 - 0 by rw [b3_xl, b3_csl]] at D
  refine RT.cast (RT.bind (n := 1) (n' := 12515) RT.standAt D) (by decide) rfl
noncomputable def tail7 (v : Value) : Sem Flow := do
  standAt posN
  bindName envM nameB3 v
  pure .next
noncomputable def goTail (n : Nat) (w : World) (os : OsState) (K : Flow → Sem Fin) (H : Value → Sem Fin) (gd : Bool → Bool) (lv : List Value → List Value) (c : Code) (f : Frame) (B : List Frame) :=
  topGo treeTable pw w 11 annM n (DB3 w os) ⟨(tail7 (.ref 54)).wrap K H gd lv, c, dP, f :: B⟩
end
end Mine

end
section
open PySem PySem.W PyProof.Rows
set_option Elab.async false
set_option maxRecDepth 100000
namespace Mine
noncomputable section
theorem rt_tail (w : World) (os : OsState) : RT w 7 (tail7 (.ref 54)) (DB3 w os) dP .next (S7 w os).abs ⟨48, 0, 48, 13⟩ :=
  RT.go fun K H gd lv c f B => by kernel_rfl
theorem rt_st7 (w : World) (os : OsState) (p : Pos) : RT w 12524 (exec (stAt 7) envM) (S6 w os).abs p .next (S7 w os).abs ⟨48, 0, 48, 13⟩ := by
  rw [st7_is, exec_Assign_Name envM nameB3 posN valB3 posB3 (by rw [val_is]; rfl)]
  refine RT.bind (n := 1) (n' := 12523) RT.standAt ?_
  exact RT.bind (n := 12516) (n' := 7) (rt_value w os _) (rt_tail w os)
noncomputable def sts1 : List Stmt := bM.take 5
noncomputable def sts2 : List Stmt := (bM.drop 5).take 1
noncomputable def sts3 : List Stmt := (bM.drop 6).take 1
noncomputable def sts5 : List Stmt := bM.drop 8
theorem seg1 (w : World) (os : OsState) : segRunT treeTable pw w 11 annM 1 117 (SA w os) (piecesOf sts1 envM cM dPos BM) = some (.next, S4 w os, cM, ⟨44, 0, 44, 8⟩) := by kernel_rfl
theorem seg3 (w : World) (os : OsState) : segRunT treeTable pw w 11 annM 1 40 (S5 w os) (piecesOf sts3 envM cM ⟨45, 0, 45, 6⟩ BM) = some (.next, S6 w os, cM, ⟨46, 0, 47, 30⟩) := by kernel_rfl
theorem seg5 (w : World) (os : OsState) : segRunT treeTable pw w 11 annM 1 500 (S7 w os) (piecesOf sts5 envM cM ⟨48, 0, 48, 13⟩ BM) = some (.next, S23 w os, cM, ⟨204, 0, 239, 58⟩) := by kernel_rfl
end
end Mine

end
section
open PySem PySem.W PyProof.Rows
set_option Elab.async false
set_option maxRecDepth 100000
namespace Mine
noncomputable section
noncomputable def run2 (w : World) (os : OsState) := segRunT treeTable pw w 11 annM 1 1200 (S4 w os) (piecesOf sts2 envM cM ⟨44, 0, 44, 8⟩ BM)
noncomputable def Run2 (w : World) : Prop := ∀ os, run2 w os = some (.next, S5 w os, cM, ⟨45, 0, 45, 6⟩)
theorem seg2f (w : World) (os : OsState) : run2 (w.withFollow "special-get-raises" false) os = some (.next, S5 (w.withFollow "special-get-raises" false) os, cM, ⟨45, 0, 45, 6⟩) := by
  unfold Mine.run2; rw [PySem.W.Fast.te10110043849684766642, PySem.W.Fast.te14364793385576792824]; kernel_rfl
theorem seg2t (w : World) (os : OsState) : run2 (w.withFollow "special-get-raises" true) os = some (.next, S5 (w.withFollow "special-get-raises" true) os, cM, ⟨45, 0, 45, 6⟩) := by
  unfold Mine.run2; rw [PySem.W.Fast.te10110043849684766642, PySem.W.Fast.te14364793385576792824]; kernel_rfl
theorem seg2 (w : World) : Run2 w := byRow2 "special-get-raises" (P := Run2) seg2f seg2t w
end
end Mine

end
section
open PySem PySem.W PyProof.Rows
set_option Elab.async false
set_option maxRecDepth 100000
namespace Mine
noncomputable section
noncomputable def H1 (P : Params) : Heap := absHeap (mkT (objs23 P) 0 .nil) (objs23 P).length (boot_heap P).life
theorem head_size (w : World) : ((boot_heap w.params).isNs mainGlobals && (Array.mk [] : Array GenState).size == 0, (boot_heap w.params).objs.size, (boot_heap w.params).nsMap mainGlobals "__annotations__") = (true, 11, annM) := by kernel_rfl
theorem head_pre (w : World) (os : OsState) : topGo treeTable pw w 11 annM 12 ⟨boot_heap w.params, Array.mk [], boot_drawn, boot_toks, os⟩ (topStub pw) = some ((SA w os).abs, ⟨denote treeTable cM, cM, dPos, BM⟩) := by kernel_rfl
theorem head_block (w : World) (os : OsState) : segRun treeTable pw w 11 annM 1 1 (SA w os).abs (blockOf bM envM cM dPos BM) = some (.next, (SA w os).abs, cM, dPos) := by kernel_rfl
theorem head_fin (w : World) (os : OsState) : topRun treeTable pw w 11 annM 2 (S23 w os).abs ⟨doneF .next, cM, ⟨204, 0, 239, 58⟩, BM⟩ = some ⟨H1 w.params, Array.mk [], boot_drawn, 2363, os⟩ := by kernel_rfl
theorem body_split : bM = sts1 ++ (sts2 ++ (sts3 ++ (stAt 7 :: (sts5 ++ [])))) := by kernel_rfl
theorem head_run (w : World) (os : OsState) : topRun treeTable pw w 11 annM (12 + (1 + (117 + (1200 + (40 + (500 + 2 + 12524)))))) ⟨boot_heap w.params, Array.mk [], boot_drawn, boot_toks, os⟩ (topStub pw) = some ⟨H1 w.params, Array.mk [], boot_drawn, 2363, os⟩ := by
  refine go_top (head_pre w os) ?_
  refine piece_block (head_block w os) ?_
  have e : restOf bM envM cM dPos [topFrame dPos] = restOf (sts1 ++ (sts2 ++ (sts3 ++ (stAt 7 :: (sts5 ++ []))))) envM cM dPos [topFrame dPos] := congrArg (fun b => restOf b envM cM dPos [topFrame dPos]) body_split
  rw [e]
  refine piece_app (segRun_of (seg1 w os)) ?_
  refine piece_app (segRun_of (seg2 w os)) ?_
  refine piece_app (segRun_of (seg3 w os)) ?_
  unfold restOf
  rw [execs_cons_wrap]
  refine rt_st7 w os _ _ _ _ _ cM (topFrame dPos) [] (500 + 2) _ ?_
  exact piece_app (segRun_of (seg5 w os)) (piece_nil (head_fin w os))
noncomputable def qV : Program := { pw with main := { pw.main with body := [stAt 23] } }
noncomputable def looseN : List Str := ["__name__", "_iter_escaped_chars", "_strip_quoted_realnames", "_check_parenthesis", "b1_set", "in_table_b1", "b3_exceptions", "map_table_b3", "_raise_serialization_error", "_escape_cdata", "_escape_attrib", "_escape_attrib_html", "_escape_cdata_c14n", "_escape_attrib_c14n",
  "_law_nothing", "_law_piece", "_law_prepared", "_law_sheared", "_law_cancels", "_law_written"]
noncomputable def lookA (w : World) (os : OsState) : Bool := staticsOk (importedModules pw.main.body) (boot_heap w.params) (H1 w.params) && namesBound pw (H1 w.params) && gensDone ⟨H1 w.params, Array.mk [], boot_drawn, 2363, os⟩ && laidKept (boot_heap w.params) (H1 w.params)
theorem lookA_ok (w : World) (os : OsState) : lookA w os = true := by kernel_rfl
end
end Mine

end
section
open PySem PySem.W PyProof.Rows
set_option Elab.async false
set_option maxRecDepth 100000
namespace Mine
noncomputable section
theorem lookB_ok (w : World) (os : OsState) : openSeen qV looseN (importedModules pw.main.body) (fun _ => true) true ⟨H1 w.params, Array.mk [], boot_drawn, 2363, os⟩ = openGood qV looseN := by kernel_rfl
end
end Mine

end
section
open PySem PySem.W PyProof.Rows
set_option Elab.async false
set_option maxRecDepth 100000
namespace Mine
noncomputable section
theorem head_open (w : World) : (fencedOpening treeTable pw w 30000).map (fun s => (s.heap, s.gens, s.drawn, s.toks)) = some (boot_heap w.params, Array.mk [], boot_drawn, boot_toks) :=
  boot_open (by kernel_rfl) (by decide) (fun s => by kernel_rfl) w
theorem head_left : LeftO pw qV looseN (fun _ => true) (fun s => s.heap) (fun w => H1 w.params) 30000 :=
  LeftO.of_pieces (m₀ := 11) (ann := annM) (M := 12 + (1 + (117 + (1200 + (40 + (500 + 2 + 12524)))))) (H₀ := boot_heap) (H₁ := H1) (gs₀ := Array.mk []) (gs₁ := Array.mk []) (d₀ := boot_drawn) (d₁ := boot_drawn) (k₀ := boot_toks) (k₁ := 2363)
    head_open head_size head_run (by decide) (fun w => by
      funext os
      refine Prod.ext (lookA_ok w os) (Prod.ext (lookB_ok w os) rfl))
noncomputable def dLaw : DefRec := ⟨"law", fnP 23, fnB 23, fnS 23, ⟨204, 0, 239, 58⟩⟩
/-- what the heap holds behind the top -/
noncomputable def Stands (w : World) (h : Heap) : Prop := ∀ b o, (H1 w.params).get? b = some o → h.get? b = some o
end
end Mine

end
section
open PySem PySem.W PyProof.Rows PySem.Calls
set_option Elab.async false
set_option maxRecDepth 100000
namespace Mine
noncomputable section

/-! ### the frame's names, told as a list -/
noncomputable abbrev Loc := List (Str × Option Value)
noncomputable def lk : Loc → Str → Option Value
  | [], _ => none
  | (y, v) :: r, x => if x = y then v else lk r x
inductive Has : Str → Value → Loc → Prop
  | head {x v r} : Has x v ((x, some v) :: r)
  | tail {x v p r} : Has x v r → Has x v (p :: r)
inductive Upd : Str → Value → Loc → Loc → Prop
  | head {x v o r} : Upd x v ((x, o) :: r) ((x, some v) :: r)
  | tail {x v p r r'} : Upd x v r r' → Upd x v (p :: r) (p :: r')
noncomputable def names (m : Loc) : List Str := m.map (·.1)
theorem Has.mem {x : Str} {v : Value} {m : Loc} (h : Has x v m) : x ∈ names m := by
  induction h with
  | head => exact List.mem_cons_self
  | tail _ ih => exact List.mem_cons_of_mem _ ih
theorem Has.lk {x : Str} {v : Value} {m : Loc} (h : Has x v m) (nd : (names m).Nodup) : lk m x = some v := by
  induction h with
  | head => simp [Mine.lk]
  | tail h ih =>
    rename_i p r
    obtain ⟨hp, hr⟩ := List.nodup_cons.mp nd
    have hne : x ≠ p.1 := fun e => hp (by show p.1 ∈ Mine.names r; rw [← e]; exact h.mem)
    show (if x = p.1 then p.2 else Mine.lk r x) = _
    rw [if_neg hne]; exact ih hr
theorem Upd.names {x : Str} {v : Value} {m m' : Loc} (h : Upd x v m m') : names m' = names m := by
  induction h with
  | head => rfl
  | tail _ ih => exact congrArg (_ :: ·) ih
theorem Upd.mem {x : Str} {v : Value} {m m' : Loc} (h : Upd x v m m') : x ∈ Mine.names m := by
  induction h with
  | head => exact List.mem_cons_self
  | tail _ ih => exact List.mem_cons_of_mem _ ih
theorem Upd.lk {x : Str} {v : Value} {m m' : Loc} (h : Upd x v m m') (nd : (Mine.names m).Nodup) : lk m' = fun y => if y = x then some v else lk m y := by
  induction h with
  | head =>
    funext y
    simp only [Mine.lk]
    by_cases e : y = x
    · rw [if_pos e, if_pos e]
    · rw [if_neg e, if_neg e, if_neg e]
  | tail h ih =>
    rename_i p r r'
    obtain ⟨hp, hr⟩ := List.nodup_cons.mp nd
    have hne : x ≠ p.1 := fun e => hp (by show p.1 ∈ Mine.names r; rw [← e]; exact h.mem)
    funext y
    show (if y = p.1 then p.2 else Mine.lk r' y) = if y = x then some v else if y = p.1 then p.2 else Mine.lk r y
    rw [ih hr]
    by_cases e1 : y = p.1
    · rw [if_pos e1, if_neg (fun e2 => hne (e2.symm.trans e1)), if_pos e1]
    · rw [if_neg e1, if_neg e1]

/-- generators are only added, and sleep without clean-up -/
noncomputable def GG (a b : Array GenState) : Prop := ∃ more : Array GenState, b = a ++ more ∧ ∀ x ∈ more, x.bare = true
theorem GG.refl (a : Array GenState) : GG a a := ⟨#[], by simp, fun x h => by simp at h⟩
theorem GG.trans {a b c : Array GenState} (x : GG a b) (y : GG b c) : GG a c := by
  obtain ⟨p, rfl, hp⟩ := x
  obtain ⟨q, rfl, hq⟩ := y
  refine ⟨p ++ q, by rw [Array.append_assoc], fun z hz => ?_⟩
  rcases Array.mem_append.mp hz with h | h
  · exact hp z h
  · exact hq z h
theorem GG.bare {a b : Array GenState} (x : GG a b) (h : ∀ y ∈ a, y.bare = true) : ∀ y ∈ b, y.bare = true := by
  obtain ⟨p, rfl, hp⟩ := x
  intro z hz
  rcases Array.mem_append.mp hz with e | e
  · exact h z e
  · exact hp z e

/-- what a call leaves behind: all that stood stands -/
structure Grown (s s' : Shared) : Prop where
  keep : ∀ b o, s.heap.get? b = some o → s'.heap.get? b = some o
  os : s'.os = s.os
  gens : GG s.gens s'.gens
theorem Grown.refl (s : Shared) : Grown s s := ⟨fun _ _ e => e, rfl, .refl _⟩
theorem Grown.trans {a b c : Shared} (x : Grown a b) (y : Grown b c) : Grown a c := ⟨fun _ _ e => y.keep _ _ (x.keep _ _ e), y.os.trans x.os, x.gens.trans y.gens⟩

/-- within a call of a def: the frame at L holds m; N was made -/
structure Wk (w : World) (s₀ : Shared) (L : Addr) (m : Loc) (N₁ : List (Addr × Obj)) (s : Shared) : Prop where
  F : Fr s₀.heap L s.heap (lk m)
  N : News s₀.heap L s.heap N₁
  os : s.os = s₀.os
  gens : GG s₀.gens s.gens
  nd : (names m).Nodup
  st : Stands w s₀.heap
  na : (N₁.map (·.1)).Nodup

variable {w : World} {A : Around} {E : Value → Shared → Prop} {s₀ s : Shared} {L : Addr} {m m' : Loc} {N : List (Addr × Obj)}

theorem Wk.toks (W : Wk w s₀ L m N s) (k : Nat) : Wk w s₀ L m N { s with toks := k } := ⟨W.F, W.N, W.os, W.gens, W.nd, W.st, W.na⟩
theorem Wk.grown (W : Wk w s₀ L m N s) : Grown s₀ s := ⟨W.F.keep, W.os, W.gens⟩
theorem Fr.grow {h₀ h h' : Heap} {L : Addr} {m : Str → Option Value} (F : Fr h₀ L h m) (k : ∀ b o, h.get? b = some o → h'.get? b = some o) : Fr h₀ L h' m :=
  ⟨F.ns.keeps k, fun b o e => k b o (F.keep b o e), F.above⟩
theorem News.grow {h₀ h h' : Heap} {L : Addr} {N : List (Addr × Obj)} (x : News h₀ L h N) (k : ∀ b o, h.get? b = some o → h'.get? b = some o) : News h₀ L h' N :=
  fun p hp => ⟨k _ _ (x p hp).1, (x p hp).2⟩
theorem Wk.grow {s' : Shared} (W : Wk w s₀ L m N s) (G : Grown s s') : Wk w s₀ L m N s' := ⟨Fr.grow W.F G.keep, News.grow W.N G.keep, G.os.trans W.os, W.gens.trans G.gens, W.nd, W.st, W.na⟩
theorem Wk.heap {h' : Heap} (W : Wk w s₀ L m N s) (F : Fr s₀.heap L h' (lk m)) (Nw : News s₀.heap L h' N) (k : Nat) : Wk w s₀ L m N { s with heap := h', toks := k } := ⟨F, Nw, W.os, W.gens, W.nd, W.st, W.na⟩
theorem Wk.lk (W : Wk w s₀ L m N s) {x : Str} {v : Value} (h : Has x v m) : lk m x = some v := h.lk W.nd

/-! ### the standing part -/
theorem Stands.keeps {h h' : Heap} (S : Stands w h) (k : ∀ b o, h.get? b = some o → h'.get? b = some o) : Stands w h' := fun b o e => k b o (S b o e)
theorem Wk.S (W : Wk w s₀ L m N s) : Stands w s.heap := W.st.keeps W.F.keep
noncomputable def mainEs (P : Params) : Array DictEntry := match (x3s23 P).data with | .dict es _ => es | _ => #[]
noncomputable def blt (P : Params) : Array DictEntry := match (boot_o_0 P).data with | .dict es _ => es | _ => #[]
theorem h1_0 (P : Params) : (H1 P).get? 0 = some (boot_o_0 P) := by kernel_rfl
theorem h1_1 (P : Params) : (H1 P).get? sysModules = some (boot_o_1 P) := by kernel_rfl
theorem h1_2 (P : Params) : (H1 P).get? 2 = some (boot_o_2 P) := by kernel_rfl
theorem h1_3 (P : Params) : (H1 P).get? 3 = some (x3s23 P) := by kernel_rfl
theorem strKeys_of {es : Array DictEntry} (h : (es.toList.all fun e => match e.key with | .str .. => true | _ => false) = true) : StrKeys es := by
  intro e he
  have := List.all_eq_true.mp h e (Array.mem_toList_iff.mpr he)
  revert this
  cases e.key <;> simp
theorem Stands.main {h : Heap} (S : Stands w h) : h.Ns mainGlobals (fun n => nsFind (mainEs w.params) n) :=
  ⟨x3s23 w.params, mainEs w.params, 29, S _ _ (h1_3 _), by kernel_rfl, strKeys_of (by kernel_rfl), fun _ => rfl⟩
theorem Stands.blt {h : Heap} (S : Stands w h) : h.Ns builtinsNs (fun n => nsFind (blt w.params) n) :=
  ⟨boot_o_0 w.params, Mine.blt w.params, 159, S _ _ (h1_0 _), by kernel_rfl, strKeys_of (by kernel_rfl), fun _ => rfl⟩
theorem Stands.nolimit {h : Heap} (S : Stands w h) : h.NoLimit :=
  ⟨fun _ => none, ⟨boot_o_2 w.params, #[], 0, S _ _ (h1_2 _), by kernel_rfl, fun e he => by simp at he, fun _ => rfl⟩, rfl⟩

/-- the f-th object is the i-th statement's def -/
noncomputable def Fn (w : World) (f : Addr) (i : Nat) (nm : Str) : Prop := ∃ o pm cd doc, (H1 w.params).get? f = some o ∧ o.data = .func (docDef nm (fnP i) (fnB i) (fnS i) pm cd doc) ∧ (H1 w.params).CodeRec cd nm

theorem lookup_lk : ∀ (l : List (Str × Value)), (fun x => l.lookup x) = lk (l.map fun p => (p.1, some p.2))
  | [] => rfl
  | (y, v) :: r => by
    funext x
    have ih := congrFun (lookup_lk r) x
    show (match x == y with | true => some v | false => r.lookup x) = if x = y then some v else lk (r.map fun p => (p.1, some p.2)) x
    by_cases e : x = y
    · subst e; simp
    · have : (x == y) = false := by simpa using e
      rw [this, if_neg e]; exact ih
/-- names not bound yet may be told -/
noncomputable def pad (l : List (Str × Value)) (xs : List Str) : Loc := l.map (fun p => (p.1, some p.2)) ++ xs.map fun x => (x, none)
theorem lk_pad (l : List (Str × Value)) (xs : List Str) : lk (pad l xs) = fun x => l.lookup x := by
  rw [lookup_lk]
  funext x
  unfold pad
  induction l with
  | nil =>
    show lk (xs.map fun x => (x, none)) x = none
    induction xs with
    | nil => rfl
    | cons y r ih =>
      show (if x = y then none else lk (r.map fun x => (x, none)) x) = none
      split
      · rfl
      · exact ih
  | cons p r ih =>
    show (if x = p.1 then some p.2 else lk _ x) = if x = p.1 then some p.2 else lk _ x
    split
    · rfl
    · exact ih

/-- a call of one of the text's defs: the frame, then the body -/
theorem call_me {R : Result → Shared → Prop} {f : Addr} {i : Nat} {nm : Str} {args : List Value} (binds : List (Str × Value)) (m : Loc) (xs : List Str) (hf : Fn w f i nm) (S : Stands w s.heap) (hroom : A.depth < recursionLimit)
    (h : ∀ cd s', Wk w s s.heap.objs.size m [] s' →
      wpAny (model pw w) (A.deeper (envOf nm (fnS i) s.heap.objs.size f cd)) (execs (fnB i) (envOf nm (fnS i) s.heap.objs.size f cd))
        (fun fl s'' => R (.ok (.ret (match fl with | .ret v => v | _ => .none))) s'') (fun _ _ => False) s')
    (hm : pad binds.reverse xs = m := by rfl)
    (hbind : ∀ pm cd doc, bindArgs (docDef nm (fnP i) (fnB i) (fnS i) pm cd doc) ⟨args, []⟩ = pure binds := by intros; rfl)
    (hloc : ((binds.map (·.1)).all fun x => decide ((fnS i).names.lookup x = some .local)) = true := by kernel_rfl) (hnd : decide (names m).Nodup = true := by kernel_rfl)
    (hco : (fnS i).isCoroutine = false := by kernel_rfl) (hgen : (fnS i).isGenerator = false := by kernel_rfl) (hk : (fnS i).kind = .function := by kernel_rfl) (hcell : ((fnS i).names.all fun x => decide (x.2 ≠ .cell)) = true := by kernel_rfl) :
    codeAny (model pw w) A (.call (.ref f) ⟨args, []⟩) R s := by
  obtain ⟨o, pm, cd, doc, ho, hd, hcd⟩ := hf
  have hloc' : ∀ x ∈ binds, (fnS i).names.lookup x.1 = some .local := fun x hx => of_decide_eq_true (List.all_eq_true.mp hloc x.1 (List.mem_map_of_mem hx))
  have hcell' : ∀ x ∈ (fnS i).names, x.2 ≠ .cell := fun x hx => of_decide_eq_true (List.all_eq_true.mp hcell x hx)
  refine call_plain_ret hroom (S _ _ ho) hd S.nolimit (hcd.keeps S) (hbind pm cd doc) hloc' (fun h₁ F => ?_) hco hgen hk hcell'
  refine h cd _ ⟨?_, News.nil, rfl, .refl _, of_decide_eq_true hnd, S, .nil⟩
  rw [← hm, lk_pad]; exact F
end
end Mine

end
section
open PySem PySem.W PyProof.Rows PySem.Calls PyProof.V
set_option Elab.async false
set_option maxRecDepth 100000
namespace Mine
noncomputable section
variable {w : World} {A : Around} {E : Value → Shared → Prop} {s₀ s : Shared} {L : Addr} {m m' : Loc} {N : List (Addr × Obj)}

/-- the signs of table B.1, in the order of the set -/
noncomputable def b1L : List Nat := [65024, 65025, 65026, 65027, 65028, 65029, 6150, 65030, 65031, 65032, 65033, 6155, 6156, 6157, 8203, 8204, 8205, 65034, 65035, 65036, 65037, 65038, 65039, 173, 847, 8288, 65279]
noncomputable def setEs (o : Obj) : List (Int × Value) := match o.data with | .set es _ _ => es.toList | _ => []
theorem b1_obj (P : Params) : (x43s5 P).SetObjOf (intKind pw w) (fun k => (setEs (x43s5 P)).any fun e => Value.isInt k e.2) 27 := by
  refine ⟨⟨rfl, rfl, rfl⟩, _, _, _, rfl, ?_, fun k => ?_, rfl, rfl⟩
  · have h : ((setEs (x43s5 P)).all fun e => match e.2 with | .int i _ => e.1 == hashInt i && e.2.scannable | _ => false) = true := by kernel_rfl
    intro e he
    have := List.all_eq_true.mp h e he
    obtain ⟨a, v⟩ := e
    cases v <;> simp at this
    rename_i i t
    exact ⟨⟨i, by show (i == i) = true; simp, this.1⟩, this.2⟩
  · rw [List.any_eq_true]
    rfl
theorem h1_43 (P : Params) : (H1 P).get? 43 = some (x43s5 P) := by kernel_rfl
theorem any_ints (l : List (Int × Value)) (k : Int) (h : (l.all fun e => match e.2 with | .int .. => true | _ => false) = true) :
    (l.any fun e => Value.isInt k e.2) = (l.map fun e => match e.2 with | .int i _ => i | _ => 0).any (· == k) := by
  rw [List.any_map]
  have h' := List.all_eq_true.mp h
  clear h
  induction l with
  | nil => rfl
  | cons e l ih =>
    rw [List.any_cons, List.any_cons, ih fun e he => h' e (List.mem_cons_of_mem _ he)]
    congr 1
    have := h' e List.mem_cons_self
    obtain ⟨a, v⟩ := e
    cases v <;> simp at this
    rfl
theorem any_nat (l : List Nat) (c : Nat) : (l.map fun (n : Nat) => (n : Int)).any (· == (c : Int)) = l.contains c := by
  rw [List.any_map]
  induction l with
  | nil => rfl
  | cons a l ih =>
    rw [List.any_cons, List.contains_cons, ih]
    congr 1
    show ((a : Int) == (c : Int)) = (c == a)
    rw [Bool.eq_iff_iff]; simp; omega
theorem b1_mem (P : Params) (c : Nat) : ((setEs (x43s5 P)).any fun e => Value.isInt c e.2) = b1L.contains c := by
  have h1 : (setEs (x43s5 P)).map (fun e => match e.2 with | .int i _ => i | _ => 0) = b1L.map (fun (n : Nat) => (n : Int)) := by kernel_rfl
  rw [any_ints _ _ (by kernel_rfl), h1, any_nat]

/-! ### the table of exceptions -/
noncomputable def b3At (c : Nat) : Option Str := (b3P.find? fun x => x.1 == (c : Int)).map (·.2)
noncomputable def b3E (x : Int × Str) : PyData × PyData := (.int x.1, .str x.2)
theorem b3_lookup_gen (l : List (Int × Str)) (c : Nat) : Spec.lookup (.int c) (l.map b3E) = ((l.find? fun x => x.1 == (c : Int)).map (·.2)).map PyData.str := by
  induction l with
  | nil => rfl
  | cons x r ih =>
    rw [List.map_cons, List.find?_cons]
    show (if Spec.same (.int x.1) (.int c) then some (PyData.str x.2) else Spec.lookup (.int c) (r.map b3E)) = _
    rw [same_int, ih]
    by_cases h : x.1 = (c : Int)
    · rw [if_pos (by simpa using h)]; simp [h]
    · rw [if_neg (by simpa using h)]
      have : (x.1 == (c : Int)) = false := by simpa using h
      simp [this]
theorem b3_lookup (c : Nat) : Spec.lookup (.int c) (b3P.map b3E) = (b3At c).map PyData.str := b3_lookup_gen ..
noncomputable def entsB3 : List DictEntry := entL b3C 290 ++ entL b3Cs.flatten (290 + 51) ++ entS b3X (290 + 51 + 51 * b3Cs.length)
theorem h1_54 (P : Params) : (H1 P).get? 54 = some (dictO entsB3 650) := by kernel_rfl
noncomputable def keyOf (e : DictEntry) : Int := match e.key with | .int i _ => i | _ => 0
noncomputable def kvOf (e : DictEntry) : Int × Value := (keyOf e, e.val)
noncomputable def pOf (e : DictEntry) : Int × Str := (keyOf e, match e.val with | .str x _ => x | _ => ⟨#[]⟩)
noncomputable def okE (e : DictEntry) : Bool := (match e.key with | .int i _ => e.hash == hashInt i | _ => false) && (match e.val with | .str .. => true | _ => false)
theorem ents_ok : entsB3.all okE = true := by kernel_rfl
theorem ents_p : entsB3.map pOf = b3P := by kernel_rfl
theorem b3_tab_gen (l : List DictEntry) (h : ∀ e ∈ l, okE e = true) : Pairs (intKind pw w) l (l.map kvOf) ∧ FlatPairs PyData.int (l.map kvOf) ((l.map pOf).map b3E) := by
  induction l with
  | nil => exact ⟨.nil, .nil⟩
  | cons e r ih =>
    have hr := ih fun e he => h e (List.mem_cons_of_mem _ he)
    have he := h e List.mem_cons_self
    obtain ⟨hh, k, v⟩ := e
    unfold okE at he
    cases k <;> simp at he
    rename_i i t
    cases v <;> simp at he
    rename_i x t'
    exact ⟨.cons (by show (i == i) = true; simp) rfl hr.1, .cons (Flat.str x t') hr.2⟩
theorem b3_tab (S : Stands w s.heap) : IntTab pw w s.heap 54 (b3P.map b3E) := by
  have ok : ∀ e ∈ entsB3, okE e = true := List.all_eq_true.mp ents_ok
  have g := b3_tab_gen (w := w) entsB3 ok
  rw [ents_p] at g
  refine TabAt.ofObj (by decide) (S _ _ (h1_54 _)) ⟨_, _, ⟨rfl, rfl, rfl⟩, rfl, ?_, g.1, ?_⟩ g.2
  · intro e he
    have he' : e ∈ entsB3 := by simpa using he
    have h1 := ok e he'
    obtain ⟨hh, k, v⟩ := e
    unfold okE at h1
    cases k <;> simp at h1
    rename_i i t
    exact ⟨i, by show (i == i) = true; simp, h1.1⟩
  · have e : (entsB3.map kvOf).map (·.1) = b3P.map (·.1) := by
      rw [← ents_p, List.map_map, List.map_map]; rfl
    rw [e]
    exact List.pairwise_map.mpr b3_apart
end
end Mine

end
section
open PySem PySem.W PyProof.Rows PySem.Calls PyProof.V
set_option Elab.async false
set_option maxRecDepth 100000
namespace Mine
noncomputable section
variable {w : World} {A : Around} {E : Value → Shared → Prop} {s₀ s : Shared} {L : Addr} {m m' : Loc} {N : List (Addr × Obj)} {nm : Str} {sc : Scope} {f : Addr} {cd : Value}

/-- what a called code's end means to the caller -/
noncomputable def RetOf (Q : Value → Shared → Prop) (E : Value → Shared → Prop) : Result → Shared → Prop
  | .ok (.ret v), s' => Q v s'
  | .ok _, _ => False
  | .error e, s' => E e s'
theorem call_of {g : Value} {vs : List Value} {Q : Value → Shared → Prop} (h : codeAny (model pw w) A (.call g ⟨vs, []⟩) (RetOf Q E) s) : wpAny (model pw w) A (call g vs) Q E s :=
  wpAny_call (codeAny_mono h fun r s' h' => by
    cases r with
    | error e => exact h'
    | ok fl => cases fl <;> exact h')

/-! ### expressions -/
theorem e_loc {x : Str} {pos : Pos} {v : Value} {Q : Value → Shared → Prop} (W : Wk w s₀ L m N s) (hv : Has x v m) (h : Q v s)
    (hk : sc.kind = .function := by rfl) (hl : (envOf nm sc L f cd).kindOf x = some .local := by rfl)
    (hd : (x == ("__debug__" : Str)) = false := by decide) : wpAny (model pw w) A (eval (.Name x pos) (envOf nm sc L f cd)) Q E s :=
  ld W.F (W.lk hv) h hk hl hd

noncomputable def Glo (P : Params) (x : Str) (v : Value) : Prop := nsFind (mainEs P) x = some v ∨ (nsFind (mainEs P) x = none ∧ nsFind (blt P) x = some v)
theorem e_glob {x : Str} {pos : Pos} {v : Value} {Q : Value → Shared → Prop} (S : Stands w s.heap) (hg : Glo w.params x v) (h : Q v s)
    (hk : sc.kind = .function := by rfl) (hl : (envOf nm sc L f cd).kindOf x = some .globalImplicit := by rfl)
    (hd : (x == ("__debug__" : Str)) = false := by decide) : wpAny (model pw w) A (eval (.Name x pos) (envOf nm sc L f cd)) Q E s := by
  refine Name_function_global hk hl ?_ hd
  rcases hg with hg | ⟨h1, h2⟩
  · exact loadGlobal_global (env := envOf nm sc L f cd) S.main hg h
  · exact loadGlobal_builtin (env := envOf nm sc L f cd) S.main h1 S.blt h2 h

theorem e_int {i : Int} {k : Nat} {pos : Pos} {env : Env} {Q : Value → Shared → Prop} (W : Wk w s₀ L m N s) (h : ∀ t s', Wk w s₀ L m N s' → Q (.int i t) s') :
    wpAny (model pw w) A (eval (.Constant (.int i) k pos) env) Q E s := wpAny_Constant_int (h _ _ (W.toks _))
theorem e_str {x : Str} {k : Nat} {pos : Pos} {env : Env} {Q : Value → Shared → Prop} (W : Wk w s₀ L m N s) (h : ∀ t s', Wk w s₀ L m N s' → Q (.str x t) s') :
    wpAny (model pw w) A (eval (.Constant (.str x) k pos) env) Q E s := Constant_str (h _ _ (W.toks _))

/-- a call of a built-in function of one argument -/
theorem e_blt1 {x : Str} {id : String} {np pos : Pos} {e : Expr} {Q : Value → Shared → Prop} (S : Stands w s.heap) (hg : Glo w.params x (.builtin id))
    (h : wpAny (model pw w) A (eval e (envOf nm sc L f cd)) (fun v s₁ => wpAny (model pw w) A (call (.builtin id) [v]) Q E s₁) E s)
    (hs : starEach [e] (envOf nm sc L f cd) = [(false, eval e (envOf nm sc L f cd))] := by rfl)
    (hk : sc.kind = .function := by rfl) (hl : (envOf nm sc L f cd).kindOf x = some .globalImplicit := by rfl)
    (hd : (x == ("__debug__" : Str)) = false := by decide) :
    wpAny (model pw w) A (eval (.Call (.Name x np) [e] [] pos) (envOf nm sc L f cd)) Q E s :=
  PySem.Call_name1 hs (e_glob S hg (PySem.callWith_builtin1 h) hk hl hd)

/-- a call of one of the text's defs -/
theorem e_def1 {x : Str} {g : Addr} {i : Nat} {gn : Str} {np pos : Pos} {e : Expr} {Q : Value → Shared → Prop} (S : Stands w s.heap) (hg : Glo w.params x (.ref g)) (hf : Fn w g i gn)
    (h : wpAny (model pw w) A (eval e (envOf nm sc L f cd)) (fun v s₁ => Stands w s₁.heap ∧ codeAny (model pw w) A (.call (.ref g) ⟨[v], []⟩) (RetOf Q E) s₁) E s)
    (hs : starEach [e] (envOf nm sc L f cd) = [(false, eval e (envOf nm sc L f cd))] := by rfl)
    (hk : sc.kind = .function := by rfl) (hl : (envOf nm sc L f cd).kindOf x = some .globalImplicit := by rfl)
    (hd : (x == ("__debug__" : Str)) = false := by decide) :
    wpAny (model pw w) A (eval (.Call (.Name x np) [e] [] pos) (envOf nm sc L f cd)) Q E s := by
  obtain ⟨o, pm, cdg, doc, ho, hdat, hcd⟩ := hf
  refine PySem.Call_name1 hs (e_glob S hg (callWith_function (o := o) (fd := docDef gn (fnP i) (fnB i) (fnS i) pm cdg doc) (evalArgs_plain (spliced_cons (wpAny_mono h (fun v s₁ h₁ => spliced_nil ?_) fun _ _ e => e))) ) hk hl hd)
  exact ⟨⟨h₁.1 _ _ ho, hdat⟩, call_of h₁.2⟩

/-! ### statements -/
theorem store {x : Str} {v : Value} {Q : Unit → Shared → Prop} (W : Wk w s₀ L m N s) (hu : Upd x v m m') (h : ∀ s', Wk w s₀ L m' N s' → Q () s')
    (hk : sc.kind = .function := by rfl) (hl : (envOf nm sc L f cd).kindOf x = some .local := by rfl) :
    wpAny (model pw w) A (storeName (envOf nm sc L f cd) x v) Q E s :=
  stN W.F W.N (fun h' F' N' => h _ ⟨by rw [hu.lk W.nd]; exact F', N', W.os, W.gens, by rw [hu.names]; exact W.nd, W.st, W.na⟩) hk hl
theorem x_assign {x : Str} {p' p : Pos} {e : Expr} {rest : List Stmt} {env : Env} {Q : Flow → Shared → Prop}
    (h : wpAny (model pw w) A (eval e env) (fun v s₁ => wpAny (model pw w) A (storeName env x v) (fun _ s₂ => wpAny (model pw w) A (execs rest env) Q E s₂) E s₁) E s)
    (hs : swapsWith e (some (.Name x p')) p.line env = pure false := by rfl) :
    wpAny (model pw w) A (execs (.Assign [.Name x p'] e p :: rest) env) Q E s := wpAny_execs_cons (wpAny_Assign_Name h hs)
theorem x_aug {x : Str} {p' p : Pos} {op : Operator} {e : Expr} {rest : List Stmt} {env : Env} {Q : Flow → Shared → Prop}
    (h : wpAny (model pw w) A (loadName env x) (fun old s₁ => wpAny (model pw w) A (eval e env) (fun v s₂ => wpAny (model pw w) A (inplaceOp op old v)
      (fun r s₃ => wpAny (model pw w) A (storeName env x r) (fun _ s₄ => wpAny (model pw w) A (execs rest env) Q E s₄) E s₃) E s₂) E s₁) E s) :
    wpAny (model pw w) A (execs (.AugAssign (.Name x p') op e p :: rest) env) Q E s := wpAny_execs_cons (wpAny_AugAssign_Name h)
theorem x_ret {e : Expr} {p : Pos} {rest : List Stmt} {env : Env} {Q : Flow → Shared → Prop} (h : wpAny (model pw w) A (eval e env) (fun v => Q (.ret v)) E s) :
    wpAny (model pw w) A (execs (.Return (some e) p :: rest) env) Q E s := wpAny_execs_cons (wpAny_Return_some h)
/-- an if: either branch falls through to the rest or leaves -/
theorem x_if {test : Expr} {body orelse rest : List Stmt} {p : Pos} {env : Env} {Q : Flow → Shared → Prop}
    (h : wpAny (model pw w) A (isTrue test env (eval test env))
      (fun b s₂ => wpAny (model pw w) A (execs (if b then body else orelse) env) (fun fl s' => match fl with | .next => wpAny (model pw w) A (execs rest env) Q E s' | fl => Q fl s') E s₂) E s) :
    wpAny (model pw w) A (execs (.If test body orelse p :: rest) env) Q E s :=
  wpAny_execs_cons (wpAny_If (wpAny_mono h (fun b s' h' => by cases b <;> exact h') fun _ _ x => x))

/-! ### the globals -/
section
variable {P : Params}
theorem gl_ord : Glo P "ord" (.builtin "ord") := .inr ⟨by kernel_rfl, by kernel_rfl⟩
theorem gl_b1 : Glo P "b1_set" (.ref 43) := .inl (by kernel_rfl)
theorem gl_b3 : Glo P "b3_exceptions" (.ref 54) := .inl (by kernel_rfl)
end
theorem fn21 : Fn w 21 1 "_iter_escaped_chars" := ⟨x21s4 w.params, (.str (Str.ofString "cpy313.email.utils") 187), .ref 20, .none, by kernel_rfl, rfl, 20, x20s4 w.params, _, 190, rfl, by kernel_rfl, rfl, rfl⟩
theorem fn28 : Fn w 28 2 "_strip_quoted_realnames" := ⟨x28s4 w.params, (.str (Str.ofString "cpy313.email.utils") 187), .ref 27, .none, by kernel_rfl, rfl, 27, x27s4 w.params, _, 200, rfl, by kernel_rfl, rfl, rfl⟩
theorem fn35 : Fn w 35 3 "_check_parenthesis" := ⟨x35s4 w.params, (.str (Str.ofString "cpy313.email.utils") 187), .ref 34, .none, by kernel_rfl, rfl, 34, x34s4 w.params, _, 212, rfl, by kernel_rfl, rfl, rfl⟩
theorem fn53 : Fn w 53 6 "in_table_b1" := ⟨x53s6 w.params, (.str (Str.ofString "cpy313.stringprep") 221), .ref 52, .none, by kernel_rfl, rfl, 52, x52s6 w.params, _, 284, rfl, by kernel_rfl, rfl, rfl⟩
theorem fn99 : Fn w 99 8 "map_table_b3" := ⟨x99s23 w.params, (.str (Str.ofString "cpy313.stringprep") 221), .ref 98, .none, by kernel_rfl, rfl, 98, x98s23 w.params, _, 2242, rfl, by kernel_rfl, rfl, rfl⟩
theorem fn106 : Fn w 106 10 "_raise_serialization_error" := ⟨x106s23 w.params, (.str (Str.ofString "cpy313.xml.etree.ElementTree") 2249), .ref 105, .none, by kernel_rfl, rfl, 105, x105s23 w.params, _, 2252, rfl, by kernel_rfl, rfl, rfl⟩
theorem fn113 : Fn w 113 11 "_escape_cdata" := ⟨x113s23 w.params, (.str (Str.ofString "cpy313.xml.etree.ElementTree") 2249), .ref 112, .none, by kernel_rfl, rfl, 112, x112s23 w.params, _, 2259, rfl, by kernel_rfl, rfl, rfl⟩
theorem fn120 : Fn w 120 12 "_escape_attrib" := ⟨x120s23 w.params, (.str (Str.ofString "cpy313.xml.etree.ElementTree") 2249), .ref 119, .none, by kernel_rfl, rfl, 119, x119s23 w.params, _, 2266, rfl, by kernel_rfl, rfl, rfl⟩
theorem fn127 : Fn w 127 13 "_escape_attrib_html" := ⟨x127s23 w.params, (.str (Str.ofString "cpy313.xml.etree.ElementTree") 2249), .ref 126, .none, by kernel_rfl, rfl, 126, x126s23 w.params, _, 2273, rfl, by kernel_rfl, rfl, rfl⟩
theorem fn134 : Fn w 134 14 "_escape_cdata_c14n" := ⟨x134s23 w.params, (.str (Str.ofString "cpy313.xml.etree.ElementTree") 2249), .ref 133, .none, by kernel_rfl, rfl, 133, x133s23 w.params, _, 2280, rfl, by kernel_rfl, rfl, rfl⟩
theorem fn141 : Fn w 141 15 "_escape_attrib_c14n" := ⟨x141s23 w.params, (.str (Str.ofString "cpy313.xml.etree.ElementTree") 2249), .ref 140, .none, by kernel_rfl, rfl, 140, x140s23 w.params, _, 2287, rfl, by kernel_rfl, rfl, rfl⟩
theorem fn148 : Fn w 148 17 "_law_nothing" := ⟨x148s23 w.params, (.str (Str.ofString "law_uq0018_01") 2293), .ref 147, .none, by kernel_rfl, rfl, 147, x147s23 w.params, _, 2296, rfl, by kernel_rfl, rfl, rfl⟩
theorem fn155 : Fn w 155 18 "_law_piece" := ⟨x155s23 w.params, (.str (Str.ofString "law_uq0018_01") 2293), .ref 154, .none, by kernel_rfl, rfl, 154, x154s23 w.params, _, 2304, rfl, by kernel_rfl, rfl, rfl⟩
theorem fn162 : Fn w 162 19 "_law_prepared" := ⟨x162s23 w.params, (.str (Str.ofString "law_uq0018_01") 2293), .ref 161, .none, by kernel_rfl, rfl, 161, x161s23 w.params, _, 2314, rfl, by kernel_rfl, rfl, rfl⟩
theorem fn169 : Fn w 169 20 "_law_sheared" := ⟨x169s23 w.params, (.str (Str.ofString "law_uq0018_01") 2293), .ref 168, .none, by kernel_rfl, rfl, 168, x168s23 w.params, _, 2325, rfl, by kernel_rfl, rfl, rfl⟩
theorem fn176 : Fn w 176 21 "_law_cancels" := ⟨x176s23 w.params, (.str (Str.ofString "law_uq0018_01") 2293), .ref 175, .none, by kernel_rfl, rfl, 175, x175s23 w.params, _, 2335, rfl, by kernel_rfl, rfl, rfl⟩
theorem fn183 : Fn w 183 22 "_law_written" := ⟨x183s23 w.params, (.str (Str.ofString "law_uq0018_01") 2293), .ref 182, .none, by kernel_rfl, rfl, 182, x182s23 w.params, _, 2345, rfl, by kernel_rfl, rfl, rfl⟩
theorem fn188 : Fn w 188 23 "law" := ⟨x188s23 w.params, (.str (Str.ofString "law_uq0018_01") 2293), .ref 187, .none, by kernel_rfl, rfl, 187, x187s23 w.params, _, 2358, rfl, by kernel_rfl, rfl, rfl⟩

theorem b1_call {R : Result → Shared → Prop} {c : Nat} {t : Tok} (S : Stands w s.heap) (hroom : A.depth < recursionLimit) (h : ∀ s', Grown s s' → R (.ok (.ret (.bool (b1L.contains c)))) s') :
    codeAny (model pw w) A (.call (.ref 53) ⟨[.str ⟨#[c]⟩ t], []⟩) R s := by
  refine call_me [("code", .str ⟨#[c]⟩ t)] [("code", some (.str ⟨#[c]⟩ t))] [] fn53 S hroom (fun cd s' W => ?_)
  conv in fnB 6 => whnf
  refine x_ret (wpAny_Compare1 (e_blt1 W.S gl_ord (e_loc W .head (ord_of_one rfl (e_glob (W.toks _).S gl_b1 ?_)))))
  refine in_argsetI (s := { s' with toks := s'.toks + 1 }) (W.toks _).F (b1_obj w.params) (S _ _ (h1_43 _)) (by decide) ?_
  show R (.ok (.ret (.bool ((setEs (x43s5 w.params)).any fun e => Value.isInt (c : Int) e.2)))) _
  rw [b1_mem]
  exact h _ (W.toks _).grown
end
end Mine

end
section
open PySem PySem.W PyProof.Rows PySem.Calls PyProof.V
set_option Elab.async false
set_option maxRecDepth 100000
namespace Mine
noncomputable section
variable {w : World} {A : Around} {E : Value → Shared → Prop} {s₀ s : Shared} {L : Addr} {m m' : Loc} {N : List (Addr × Obj)} {nm : Str} {sc : Scope} {f : Addr} {cd : Value}

theorem m_of1 {T id : String} {name : Str} {pos : Pos} {ov : Value} {t : Sem Value} {Q : Value → Shared → Prop} (pa : PlainAttrs T) (slot : Slot T name id) (ty : typeOf (.builtin id) = pure (.type "method_descriptor"))
    (hT : s.TypeIs ov T) (hd : ∀ a, ov = .ref a → ∃ ob, s.heap.get? a = some ob ∧ ob.dict = none)
    (h : wpAny (model pw w) A t (fun v s₁ => wpAny (model pw w) A (call (.builtin id) [ov, v]) Q E s₁) E s) : MethodOnS pw w A E name ov pos [(false, t)] Q s :=
  ⟨T, id, pa, slot, ty, hT, hd, callWith_builtin rfl (evalArgs_plain (spliced_cons (wpAny_mono h (fun _ _ h₁ => spliced_nil h₁) fun _ _ e => e)))⟩

theorem e_get {o e : Expr} {apos pos : Pos} {env : Env} {Q : Value → Shared → Prop} {D : List (PyData × PyData)}
    (h : wpAny (model pw w) A (eval o env) (fun ov s₁ => ∃ d, ov = .ref d ∧ IntTab pw w s₁.heap d D ∧ wpAny (model pw w) A (eval e env) (fun k s₂ => ∃ c t, k = .int c t ∧ IntTab pw w s₂.heap d D ∧
      ∀ v, Flat v ((Spec.lookup (.int c) D).getD .none) → Q v { s₂ with toks := s₂.toks + 1 }) E s₁) E s)
    (hbase : attributeBase o "get" env (eval o env) = eval o env := by rfl) (hs : starEach [e] env = [(false, eval e env)] := by rfl) (hline : (apos.endLine == pos.line) = true := by rfl) :
    wpAny (model pw w) A (eval (.Call (.Attribute o "get" apos) [e] [] pos) env) Q E s := by
  refine Call_method1 hbase hs hline (wpAny_mono h ?_ fun _ _ x => x)
  rintro ov s₁ ⟨d, rfl, T, h1⟩
  obtain ⟨lo, kvs, hd, hf⟩ := T
  refine m_of1 PySem.F.plainAttrs_dict PySem.F.slot_dict_get PySem.F.type_dict_get hd.typeIs (fun a e => ?_) (wpAny_mono h1 ?_ fun _ _ x => x)
  · obtain ⟨o', es, ep, ho, hex, _⟩ := hd
    cases e
    exact ⟨o', ho, hex.2.1⟩
  · rintro k s₂ ⟨c, t, rfl, T2, h2⟩
    exact call_get1_intTab T2 h2

noncomputable def foldS (c : Nat) : Str := match b3At c with | some x => x | none => Txt.lower ⟨#[c]⟩
theorem fit_of {n : Nat} (h : n ≤ 16777216) : Builtin.Str.tooLong n = false := by
  unfold Builtin.Str.tooLong
  rw [sizeLine_eq]
  simpa using h
theorem map_call {R : Result → Shared → Prop} {c : Nat} {t : Tok} (S : Stands w s.heap) (hroom : A.depth < recursionLimit) (hfit : (foldS c).length ≤ 4096)
    (h : ∀ t' s', Grown s s' → R (.ok (.ret (.str (foldS c) t'))) s') :
    codeAny (model pw w) A (.call (.ref 99) ⟨[.str ⟨#[c]⟩ t], []⟩) R s := by
  refine call_me [("code", .str ⟨#[c]⟩ t)] [("code", some (.str ⟨#[c]⟩ t)), ("r", none)] ["r"] fn99 S hroom (fun cd s' W => ?_)
  conv in fnB 8 => whnf
  refine x_assign (e_get (e_glob W.S gl_b3 ⟨54, rfl, b3_tab W.S, e_blt1 W.S gl_ord (e_loc W .head (ord_of_one rfl ⟨c, _, rfl, b3_tab (w := w) (s := { s' with toks := s'.toks + 1 }) W.S, fun v hv => store (W.toks _) (.tail .head) fun s₁ W₁ => ?_⟩))⟩))
  rw [b3_lookup] at hv
  refine x_if (wpAny_isTrue_Compare1 (e_loc W₁ (.tail .head) (Constant_none (isnot_none_gen (wpAny_truthy_bool ?_)))))
  cases hb : b3At c with
  | none =>
    rw [hb] at hv
    cases Flat.none_inv hv
    refine wpAny_execs_nil (x_ret (Call_method0 rfl rfl (e_loc W₁ .head (SB.lower (fit_of ?_) ?_))))
    · unfold foldS at hfit; rw [hb] at hfit; exact Nat.le_trans hfit (by decide)
    · have := h s₁.toks _ (W₁.toks (s₁.toks + 1)).grown
      unfold foldS at this; rw [hb] at this; exact this
  | some x =>
    rw [hb] at hv
    obtain ⟨t', rfl⟩ := Flat.str_inv hv
    refine x_ret (e_loc W₁ (.tail .head) ?_)
    have := h t' _ W₁.grown
    unfold foldS at this; rw [hb] at this; exact this
end
end Mine

end
section
open PySem PySem.W PyProof.Rows PySem.Calls PyProof.V
set_option Elab.async false
set_option maxRecDepth 100000
namespace Mine
noncomputable section
variable {w : World} {A : Around} {E : Value → Shared → Prop} {s₀ s : Shared} {L : Addr} {m m' : Loc} {N : List (Addr × Obj)} {nm : Str} {sc : Scope} {f : Addr} {cd : Value}

/-- a text, told as its codes -/
noncomputable abbrev tx (l : List Nat) : Str := ⟨l.toArray⟩
noncomputable def rep (c : Nat) (z l : List Nat) : List Nat := l.flatMap fun a => if a = c then z else [a]
theorem rep_free (c : Nat) (z : List Nat) : ∀ l : List Nat, c ∉ l → rep c z l = l
  | [], _ => rfl
  | k :: r, h => by
    have h1 : ¬ k = c := fun e => h (e ▸ List.mem_cons_self ..)
    have h2 : c ∉ r := fun m => h (List.mem_cons_of_mem _ m)
    show (if k = c then z else [k]) ++ rep c z r = k :: r
    rw [if_neg h1, rep_free c z r h2]; rfl
theorem rep_append (c : Nat) (z a b : List Nat) : rep c z (a ++ b) = rep c z a ++ rep c z b := List.flatMap_append
theorem rep_one (c : Nat) (z : List Nat) : rep c z [c] = z := by simp [rep]
theorem rep_join (c : Nat) (z : List Nat) : ∀ parts : List Str, (∀ p ∈ parts, c ∉ p.cps.toList) → rep c z (Str.join ⟨#[c]⟩ parts).cps.toList = (Str.join (tx z) parts).cps.toList
  | [], _ => rfl
  | [p], h => rep_free c z _ (h p (List.mem_singleton.mpr rfl))
  | p :: q :: r, h => by
    have ih := rep_join c z (q :: r) fun a ha => h a (List.mem_cons_of_mem _ ha)
    show rep c z (p ++ ⟨#[c]⟩ ++ Str.join ⟨#[c]⟩ (q :: r)).cps.toList = (p ++ tx z ++ Str.join (tx z) (q :: r)).cps.toList
    simp only [Str.cps_append, Array.toList_append]
    rw [rep_append, rep_append, ih, rep_free c z _ (h p (List.mem_cons_self ..))]
    show p.cps.toList ++ rep c z [c] ++ _ = _
    rw [rep_one]
theorem replace_rep (x : Str) (c : Nat) (z : List Nat) : (Txt.replace x ⟨#[c]⟩ (tx z)).cps.toList = rep c z x.cps.toList := by
  rw [StrLaws.replace_one, ← rep_join c z _ (StrLaws.split_free x c), StrLaws.join_split]
theorem tx_eq {x : Str} {l : List Nat} (h : x.cps.toList = l) : x = tx l := by
  obtain ⟨a⟩ := x
  subst h; rfl
theorem replace_tx (l : List Nat) (c : Nat) (z : List Nat) : Txt.replace (tx l) (tx [c]) (tx z) = tx (rep c z l) := tx_eq (replace_rep ..)
theorem contains_one (l : List Nat) (c : Nat) : Txt.contains (tx l) (tx [c]) = true ↔ c ∈ l := by
  show (!(Builtin.Str.occurrences (tx l) (tx [c]) 0 (tx l).length 1).isEmpty) = true ↔ c ∈ l
  rw [StrLaws.found_iff, List.mem_iff_getElem?]
  exact ⟨fun ⟨i, h⟩ => ⟨i, (StrLaws.subAt_one (tx l) c i).mp h⟩, fun ⟨i, h⟩ => ⟨i, (StrLaws.subAt_one (tx l) c i).mpr h⟩⟩
theorem tx_ne {a b : List Nat} (h : a ≠ b) : (tx a == tx b) = false := by
  refine Bool.eq_false_iff.mpr fun hh => h ?_
  have e := eq_of_beq hh
  injection e with e1
  simpa using e1

theorem m_of2 {T id : String} {name : Str} {pos : Pos} {ov : Value} {t t' : Sem Value} {Q : Value → Shared → Prop} (pa : PlainAttrs T) (slot : Slot T name id) (ty : typeOf (.builtin id) = pure (.type "method_descriptor"))
    (hT : s.TypeIs ov T) (hd : ∀ a, ov = .ref a → ∃ ob, s.heap.get? a = some ob ∧ ob.dict = none)
    (h : wpAny (model pw w) A t (fun v s₁ => wpAny (model pw w) A t' (fun v' s₂ => wpAny (model pw w) A (call (.builtin id) [ov, v, v']) Q E s₂) E s₁) E s) : MethodOnS pw w A E name ov pos [(false, t), (false, t')] Q s :=
  ⟨T, id, pa, slot, ty, hT, hd, callWith_builtin rfl (evalArgs_plain (spliced_cons (wpAny_mono h (fun _ _ h₁ => spliced_cons (wpAny_mono h₁ (fun _ _ h₂ => spliced_nil h₂) fun _ _ e => e)) fun _ _ e => e)))⟩

/-- one step of an escape: one sign out of the text -/
theorem esc_if (c : Nat) (z : List Nat) {l : List Nat} {t : Tok} {cS zS : Str} {k1 k2 k3 : Nat} {p1 p2 p3 p4 p5 p6 p7 p8 p9 p10 p11 : Pos} {rest : List Stmt} {Q : Flow → Shared → Prop}
    (hc : cS = tx [c]) (hz : zS = tx z) (hlz : z.length ≤ 14) (hne : ([c] : List Nat) ≠ z) (hl : l.length ≤ 1048576)
    (W : Wk w s₀ L [("text", some (.str (tx l) t))] N s)
    (h : ∀ t' s', Wk w s₀ L [("text", some (.str (tx (rep c z l)) t'))] N s' → wpAny (model pw w) A (execs rest (envOf nm sc L f cd)) Q E s')
    (hk : sc.kind = .function := by kernel_rfl) (hlo : (envOf nm sc L f cd).kindOf "text" = some .local := by kernel_rfl)
    (hline : (p6.endLine == p9.line) = true := by rfl)
    (hs : swapsWith (.Call (.Attribute (.Name "text" p5) "replace" p6) [.Constant (.str cS) k2 p7, .Constant (.str zS) k3 p8] [] p9) (some (.Name "text" p4)) p10.line (envOf nm sc L f cd) = pure false := by rfl) :
    wpAny (model pw w) A (execs (.If (.Compare (.Constant (.str cS) k1 p1) [.In] [.Name "text" p2] p3)
      [.Assign [.Name "text" p4] (.Call (.Attribute (.Name "text" p5) "replace" p6) [.Constant (.str cS) k2 p7, .Constant (.str zS) k3 p8] [] p9) p10] [] p11 :: rest) (envOf nm sc L f cd)) Q E s := by
  subst hc hz
  refine x_if (wpAny_isTrue_Compare1 (Constant_str (e_loc (W.toks _) .head (SB.contains (wpAny_truthy_bool ?_)) hk hlo)))
  cases hb : Txt.contains (tx l) (tx [c]) with
  | false =>
    refine wpAny_execs_nil (h t _ ?_)
    have : c ∉ l := fun hin => by rw [(contains_one l c).mpr hin] at hb; cases hb
    rw [rep_free c z l this]
    exact W.toks _
  | true =>
    refine x_assign (Call_method2 rfl rfl hline (e_loc (W.toks _) .head (m_of2 PySem.F.plainAttrs_str PySem.F.slot_str_replace PySem.F.type_str_replace (typeIs_str _ _ _) (fun _ e => nomatch e)
      (Constant_str (Constant_str (SC.replaceW (by simp) (by simp) (by simp) ?_ hl hlz ?_)))) hk hlo)) hs
    · exact tx_ne hne
    · intro t' k
      rw [replace_tx]
      exact store (W.toks _) .head (fun s' W' => wpAny_execs_nil (h _ _ W')) hk hlo
theorem x_try {body orelse : List Stmt} {h₀ : ExceptHandler} {hs : List ExceptHandler} {pos : Pos} {rest : List Stmt} {env : Env} {Q : Flow → Shared → Prop}
    (h : wpAny (model pw w) A (execs body env) (fun fl s₁ => match fl with | .next => wpAny (model pw w) A (execs orelse env) (fun fl s' => match fl with | .next => wpAny (model pw w) A (execs rest env) Q E s' | fl => Q fl s') E s₁ | fl => Q fl s₁) (fun _ _ => False) s) :
    wpAny (model pw w) A (execs (.Try body (h₀ :: hs) orelse [] pos :: rest) env) Q E s :=
  wpAny_execs_cons (wpAny_Try_except (wpAny_mono h (fun fl s' h' => by cases fl <;> exact h') fun _ _ x => x.elim))

noncomputable def escOf (ps : List (Nat × List Nat)) (l : List Nat) : List Nat := ps.foldl (fun l p => rep p.1 p.2 l) l
theorem rep_flatMap (c : Nat) (z : List Nat) (g : Nat → List Nat) : ∀ l : List Nat, rep c z (l.flatMap g) = l.flatMap fun a => rep c z (g a)
  | [] => rfl
  | a :: r => by rw [List.flatMap_cons, rep_append, rep_flatMap c z g r, List.flatMap_cons]
theorem escOf_flatMap : ∀ (ps : List (Nat × List Nat)) (g : Nat → List Nat) (l : List Nat), escOf ps (l.flatMap g) = l.flatMap fun a => escOf ps (g a)
  | [], _, _ => rfl
  | p :: ps, g, l => by
    show escOf ps (rep p.1 p.2 (l.flatMap g)) = _
    rw [rep_flatMap, escOf_flatMap ps]; rfl
theorem escOf_each (ps : List (Nat × List Nat)) (l : List Nat) : escOf ps l = l.flatMap fun a => escOf ps [a] := by
  have := escOf_flatMap ps (fun a => [a]) l
  rwa [List.flatMap_singleton'] at this
theorem escOf_free : ∀ (ps : List (Nat × List Nat)) (a : Nat), a ∉ ps.map (·.1) → escOf ps [a] = [a]
  | [], _, _ => rfl
  | p :: ps, a, h => by
    rw [List.map_cons, List.mem_cons, not_or] at h
    show escOf ps (rep p.1 p.2 [a]) = [a]
    rw [rep_free p.1 p.2 [a] (by simpa using Ne.symm h.1), escOf_free ps a h.2]
theorem esc_len (ps : List (Nat × List Nat)) (h : ∀ a ∈ ps.map (·.1), (escOf ps [a]).length ≤ 6) (l : List Nat) : (escOf ps l).length ≤ 6 * l.length := by
  rw [escOf_each]
  induction l with
  | nil => simp
  | cons a r ih =>
    rw [List.flatMap_cons, List.length_append, List.length_cons, Nat.mul_succ]
    have : (escOf ps [a]).length ≤ 6 := by
      by_cases ha : a ∈ ps.map (·.1)
      · exact h a ha
      · rw [escOf_free ps a ha]; simp
    omega
theorem esc_step (c : Nat) (z : List Nat) (ps ps' : List (Nat × List Nat)) {l : List Nat} {t : Tok} {cS zS : Str} {k1 k2 k3 : Nat} {p1 p2 p3 p4 p5 p6 p7 p8 p9 p10 p11 : Pos} {rest : List Stmt} {Q : Flow → Shared → Prop}
    (hc : cS = tx [c]) (hz : zS = tx z) (hlz : z.length ≤ 14) (hne : ([c] : List Nat) ≠ z) (hp : ∀ a ∈ ps.map (·.1), (escOf ps [a]).length ≤ 6) (hl : 6 * l.length ≤ 1048576)
    (W : Wk w s₀ L [("text", some (.str (tx (escOf ps l)) t))] N s)
    (h : ∀ t' s', Wk w s₀ L [("text", some (.str (tx (escOf ps' l)) t'))] N s' → wpAny (model pw w) A (execs rest (envOf nm sc L f cd)) Q E s')
    (hps : ps' = ps ++ [(c, z)] := by rfl)
    (hk : sc.kind = .function := by kernel_rfl) (hlo : (envOf nm sc L f cd).kindOf "text" = some .local := by kernel_rfl)
    (hline : (p6.endLine == p9.line) = true := by rfl)
    (hs : swapsWith (.Call (.Attribute (.Name "text" p5) "replace" p6) [.Constant (.str cS) k2 p7, .Constant (.str zS) k3 p8] [] p9) (some (.Name "text" p4)) p10.line (envOf nm sc L f cd) = pure false := by rfl) :
    wpAny (model pw w) A (execs (.If (.Compare (.Constant (.str cS) k1 p1) [.In] [.Name "text" p2] p3)
      [.Assign [.Name "text" p4] (.Call (.Attribute (.Name "text" p5) "replace" p6) [.Constant (.str cS) k2 p7, .Constant (.str zS) k3 p8] [] p9) p10] [] p11 :: rest) (envOf nm sc L f cd)) Q E s := by
  refine esc_if c z hc hz hlz hne (Nat.le_trans (esc_len ps hp l) hl) W (fun t' s' W' => h t' s' ?_) hk hlo hline hs
  rw [hps]
  unfold escOf
  rw [List.foldl_append]
  exact W'
noncomputable def esc11 : List (Nat × List Nat) := [(38, [38, 97, 109, 112, 59]), (60, [38, 108, 116, 59]), (62, [38, 103, 116, 59])]
theorem esc11_call {R : Result → Shared → Prop} {l : List Nat} {t : Tok} (S : Stands w s.heap) (hroom : A.depth < recursionLimit) (hl : l.length ≤ 100000)
    (h : ∀ t' s', Grown s s' → R (.ok (.ret (.str (tx (escOf esc11 l)) t'))) s') :
    codeAny (model pw w) A (.call (.ref 113) ⟨[.str (tx l) t], []⟩) R s := by
  refine call_me [("text", .str (tx l) t)] [("text", some (.str (tx l) t))] [] fn113 S hroom (fun cd s' W => ?_)
  conv in fnB 11 => whnf
  have hn : 6 * l.length ≤ 1048576 := by omega
  refine x_try (esc_step 38 [38, 97, 109, 112, 59] [] [(38, [38, 97, 109, 112, 59])] rfl rfl (by decide) (by decide) (by decide +kernel) hn W fun _ _ W => ?_)
  refine esc_step 60 [38, 108, 116, 59] [(38, [38, 97, 109, 112, 59])] [(38, [38, 97, 109, 112, 59]), (60, [38, 108, 116, 59])] rfl rfl (by decide) (by decide) (by decide +kernel) hn W fun _ _ W => ?_
  refine esc_step 62 [38, 103, 116, 59] [(38, [38, 97, 109, 112, 59]), (60, [38, 108, 116, 59])] [(38, [38, 97, 109, 112, 59]), (60, [38, 108, 116, 59]), (62, [38, 103, 116, 59])] rfl rfl (by decide) (by decide) (by decide +kernel) hn W fun _ _ W => ?_
  exact x_ret (e_loc W .head (h _ _ W.grown))
noncomputable def esc12 : List (Nat × List Nat) := [(38, [38, 97, 109, 112, 59]), (60, [38, 108, 116, 59]), (62, [38, 103, 116, 59]), (34, [38, 113, 117, 111, 116, 59]), (13, [38, 35, 49, 51, 59]), (10, [38, 35, 49, 48, 59]), (9, [38, 35, 48, 57, 59])]
theorem esc12_call {R : Result → Shared → Prop} {l : List Nat} {t : Tok} (S : Stands w s.heap) (hroom : A.depth < recursionLimit) (hl : l.length ≤ 100000)
    (h : ∀ t' s', Grown s s' → R (.ok (.ret (.str (tx (escOf esc12 l)) t'))) s') :
    codeAny (model pw w) A (.call (.ref 120) ⟨[.str (tx l) t], []⟩) R s := by
  refine call_me [("text", .str (tx l) t)] [("text", some (.str (tx l) t))] [] fn120 S hroom (fun cd s' W => ?_)
  conv in fnB 12 => whnf
  have hn : 6 * l.length ≤ 1048576 := by omega
  refine x_try (esc_step 38 [38, 97, 109, 112, 59] [] [(38, [38, 97, 109, 112, 59])] rfl rfl (by decide) (by decide) (by decide +kernel) hn W fun _ _ W => ?_)
  refine esc_step 60 [38, 108, 116, 59] [(38, [38, 97, 109, 112, 59])] [(38, [38, 97, 109, 112, 59]), (60, [38, 108, 116, 59])] rfl rfl (by decide) (by decide) (by decide +kernel) hn W fun _ _ W => ?_
  refine esc_step 62 [38, 103, 116, 59] [(38, [38, 97, 109, 112, 59]), (60, [38, 108, 116, 59])] [(38, [38, 97, 109, 112, 59]), (60, [38, 108, 116, 59]), (62, [38, 103, 116, 59])] rfl rfl (by decide) (by decide) (by decide +kernel) hn W fun _ _ W => ?_
  refine esc_step 34 [38, 113, 117, 111, 116, 59] [(38, [38, 97, 109, 112, 59]), (60, [38, 108, 116, 59]), (62, [38, 103, 116, 59])] [(38, [38, 97, 109, 112, 59]), (60, [38, 108, 116, 59]), (62, [38, 103, 116, 59]), (34, [38, 113, 117, 111, 116, 59])] rfl rfl (by decide) (by decide) (by decide +kernel) hn W fun _ _ W => ?_
  refine esc_step 13 [38, 35, 49, 51, 59] [(38, [38, 97, 109, 112, 59]), (60, [38, 108, 116, 59]), (62, [38, 103, 116, 59]), (34, [38, 113, 117, 111, 116, 59])] [(38, [38, 97, 109, 112, 59]), (60, [38, 108, 116, 59]), (62, [38, 103, 116, 59]), (34, [38, 113, 117, 111, 116, 59]), (13, [38, 35, 49, 51, 59])] rfl rfl (by decide) (by decide) (by decide +kernel) hn W fun _ _ W => ?_
  refine esc_step 10 [38, 35, 49, 48, 59] [(38, [38, 97, 109, 112, 59]), (60, [38, 108, 116, 59]), (62, [38, 103, 116, 59]), (34, [38, 113, 117, 111, 116, 59]), (13, [38, 35, 49, 51, 59])] [(38, [38, 97, 109, 112, 59]), (60, [38, 108, 116, 59]), (62, [38, 103, 116, 59]), (34, [38, 113, 117, 111, 116, 59]), (13, [38, 35, 49, 51, 59]), (10, [38, 35, 49, 48, 59])] rfl rfl (by decide) (by decide) (by decide +kernel) hn W fun _ _ W => ?_
  refine esc_step 9 [38, 35, 48, 57, 59] [(38, [38, 97, 109, 112, 59]), (60, [38, 108, 116, 59]), (62, [38, 103, 116, 59]), (34, [38, 113, 117, 111, 116, 59]), (13, [38, 35, 49, 51, 59]), (10, [38, 35, 49, 48, 59])] [(38, [38, 97, 109, 112, 59]), (60, [38, 108, 116, 59]), (62, [38, 103, 116, 59]), (34, [38, 113, 117, 111, 116, 59]), (13, [38, 35, 49, 51, 59]), (10, [38, 35, 49, 48, 59]), (9, [38, 35, 48, 57, 59])] rfl rfl (by decide) (by decide) (by decide +kernel) hn W fun _ _ W => ?_
  exact x_ret (e_loc W .head (h _ _ W.grown))
noncomputable def esc13 : List (Nat × List Nat) := [(38, [38, 97, 109, 112, 59]), (62, [38, 103, 116, 59]), (34, [38, 113, 117, 111, 116, 59])]
theorem esc13_call {R : Result → Shared → Prop} {l : List Nat} {t : Tok} (S : Stands w s.heap) (hroom : A.depth < recursionLimit) (hl : l.length ≤ 100000)
    (h : ∀ t' s', Grown s s' → R (.ok (.ret (.str (tx (escOf esc13 l)) t'))) s') :
    codeAny (model pw w) A (.call (.ref 127) ⟨[.str (tx l) t], []⟩) R s := by
  refine call_me [("text", .str (tx l) t)] [("text", some (.str (tx l) t))] [] fn127 S hroom (fun cd s' W => ?_)
  conv in fnB 13 => whnf
  have hn : 6 * l.length ≤ 1048576 := by omega
  refine x_try (esc_step 38 [38, 97, 109, 112, 59] [] [(38, [38, 97, 109, 112, 59])] rfl rfl (by decide) (by decide) (by decide +kernel) hn W fun _ _ W => ?_)
  refine esc_step 62 [38, 103, 116, 59] [(38, [38, 97, 109, 112, 59])] [(38, [38, 97, 109, 112, 59]), (62, [38, 103, 116, 59])] rfl rfl (by decide) (by decide) (by decide +kernel) hn W fun _ _ W => ?_
  refine esc_step 34 [38, 113, 117, 111, 116, 59] [(38, [38, 97, 109, 112, 59]), (62, [38, 103, 116, 59])] [(38, [38, 97, 109, 112, 59]), (62, [38, 103, 116, 59]), (34, [38, 113, 117, 111, 116, 59])] rfl rfl (by decide) (by decide) (by decide +kernel) hn W fun _ _ W => ?_
  exact x_ret (e_loc W .head (h _ _ W.grown))
noncomputable def esc14 : List (Nat × List Nat) := [(38, [38, 97, 109, 112, 59]), (60, [38, 108, 116, 59]), (62, [38, 103, 116, 59]), (13, [38, 35, 120, 68, 59])]
theorem esc14_call {R : Result → Shared → Prop} {l : List Nat} {t : Tok} (S : Stands w s.heap) (hroom : A.depth < recursionLimit) (hl : l.length ≤ 100000)
    (h : ∀ t' s', Grown s s' → R (.ok (.ret (.str (tx (escOf esc14 l)) t'))) s') :
    codeAny (model pw w) A (.call (.ref 134) ⟨[.str (tx l) t], []⟩) R s := by
  refine call_me [("text", .str (tx l) t)] [("text", some (.str (tx l) t))] [] fn134 S hroom (fun cd s' W => ?_)
  conv in fnB 14 => whnf
  have hn : 6 * l.length ≤ 1048576 := by omega
  refine x_try (esc_step 38 [38, 97, 109, 112, 59] [] [(38, [38, 97, 109, 112, 59])] rfl rfl (by decide) (by decide) (by decide +kernel) hn W fun _ _ W => ?_)
  refine esc_step 60 [38, 108, 116, 59] [(38, [38, 97, 109, 112, 59])] [(38, [38, 97, 109, 112, 59]), (60, [38, 108, 116, 59])] rfl rfl (by decide) (by decide) (by decide +kernel) hn W fun _ _ W => ?_
  refine esc_step 62 [38, 103, 116, 59] [(38, [38, 97, 109, 112, 59]), (60, [38, 108, 116, 59])] [(38, [38, 97, 109, 112, 59]), (60, [38, 108, 116, 59]), (62, [38, 103, 116, 59])] rfl rfl (by decide) (by decide) (by decide +kernel) hn W fun _ _ W => ?_
  refine esc_step 13 [38, 35, 120, 68, 59] [(38, [38, 97, 109, 112, 59]), (60, [38, 108, 116, 59]), (62, [38, 103, 116, 59])] [(38, [38, 97, 109, 112, 59]), (60, [38, 108, 116, 59]), (62, [38, 103, 116, 59]), (13, [38, 35, 120, 68, 59])] rfl rfl (by decide) (by decide) (by decide +kernel) hn W fun _ _ W => ?_
  exact x_ret (e_loc W .head (h _ _ W.grown))
noncomputable def esc15 : List (Nat × List Nat) := [(38, [38, 97, 109, 112, 59]), (60, [38, 108, 116, 59]), (34, [38, 113, 117, 111, 116, 59]), (9, [38, 35, 120, 57, 59]), (10, [38, 35, 120, 65, 59]), (13, [38, 35, 120, 68, 59])]
theorem esc15_call {R : Result → Shared → Prop} {l : List Nat} {t : Tok} (S : Stands w s.heap) (hroom : A.depth < recursionLimit) (hl : l.length ≤ 100000)
    (h : ∀ t' s', Grown s s' → R (.ok (.ret (.str (tx (escOf esc15 l)) t'))) s') :
    codeAny (model pw w) A (.call (.ref 141) ⟨[.str (tx l) t], []⟩) R s := by
  refine call_me [("text", .str (tx l) t)] [("text", some (.str (tx l) t))] [] fn141 S hroom (fun cd s' W => ?_)
  conv in fnB 15 => whnf
  have hn : 6 * l.length ≤ 1048576 := by omega
  refine x_try (esc_step 38 [38, 97, 109, 112, 59] [] [(38, [38, 97, 109, 112, 59])] rfl rfl (by decide) (by decide) (by decide +kernel) hn W fun _ _ W => ?_)
  refine esc_step 60 [38, 108, 116, 59] [(38, [38, 97, 109, 112, 59])] [(38, [38, 97, 109, 112, 59]), (60, [38, 108, 116, 59])] rfl rfl (by decide) (by decide) (by decide +kernel) hn W fun _ _ W => ?_
  refine esc_step 34 [38, 113, 117, 111, 116, 59] [(38, [38, 97, 109, 112, 59]), (60, [38, 108, 116, 59])] [(38, [38, 97, 109, 112, 59]), (60, [38, 108, 116, 59]), (34, [38, 113, 117, 111, 116, 59])] rfl rfl (by decide) (by decide) (by decide +kernel) hn W fun _ _ W => ?_
  refine esc_step 9 [38, 35, 120, 57, 59] [(38, [38, 97, 109, 112, 59]), (60, [38, 108, 116, 59]), (34, [38, 113, 117, 111, 116, 59])] [(38, [38, 97, 109, 112, 59]), (60, [38, 108, 116, 59]), (34, [38, 113, 117, 111, 116, 59]), (9, [38, 35, 120, 57, 59])] rfl rfl (by decide) (by decide) (by decide +kernel) hn W fun _ _ W => ?_
  refine esc_step 10 [38, 35, 120, 65, 59] [(38, [38, 97, 109, 112, 59]), (60, [38, 108, 116, 59]), (34, [38, 113, 117, 111, 116, 59]), (9, [38, 35, 120, 57, 59])] [(38, [38, 97, 109, 112, 59]), (60, [38, 108, 116, 59]), (34, [38, 113, 117, 111, 116, 59]), (9, [38, 35, 120, 57, 59]), (10, [38, 35, 120, 65, 59])] rfl rfl (by decide) (by decide) (by decide +kernel) hn W fun _ _ W => ?_
  refine esc_step 13 [38, 35, 120, 68, 59] [(38, [38, 97, 109, 112, 59]), (60, [38, 108, 116, 59]), (34, [38, 113, 117, 111, 116, 59]), (9, [38, 35, 120, 57, 59]), (10, [38, 35, 120, 65, 59])] [(38, [38, 97, 109, 112, 59]), (60, [38, 108, 116, 59]), (34, [38, 113, 117, 111, 116, 59]), (9, [38, 35, 120, 57, 59]), (10, [38, 35, 120, 65, 59]), (13, [38, 35, 120, 68, 59])] rfl rfl (by decide) (by decide) (by decide +kernel) hn W fun _ _ W => ?_
  exact x_ret (e_loc W .head (h _ _ W.grown))

end
end Mine

end
section
open PySem PySem.W PyProof.Rows PySem.Calls PyProof.V
set_option Elab.async false
set_option maxRecDepth 100000
namespace Mine
noncomputable section
variable {w : World} {A : Around} {E : Value → Shared → Prop} {s₀ s : Shared} {L : Addr} {m m' : Loc} {N : List (Addr × Obj)} {nm : Str} {sc : Scope} {f : Addr} {cd : Value}

noncomputable def isStar : Expr → Bool
  | .Starred .. => true
  | _ => false
theorem star_no {e : Expr} {rest : List Expr} {env : Env} (h : isStar e = false) : starEach (e :: rest) env = (false, eval e env) :: starEach rest env := by
  cases e <;> first | rfl | exact absurd h (by simp [isStar])
theorem star_plain {es : List Expr} {env : Env} {pos : Pos} (h : (es.all fun e => !isStar e) = true) : (backTo pos (starEach es env)).any (·.1) = false := by
  have g : ∀ es : List Expr, (es.all fun e => !isStar e) = true → (starEach es env).any (·.1) = false := by
    intro es
    induction es with
    | nil => intro _; rfl
    | cons e r ih =>
      intro h
      rw [List.all_cons, Bool.and_eq_true] at h
      rw [star_no (by simpa using h.1), List.any_cons, ih h.2]; rfl
  unfold backTo
  rw [List.any_map]
  exact g es h
theorem args_c {env : Env} {e : Expr} {rest : List Expr} {pos : Pos} {Q : List Value → Shared → Prop} 
    (h : wpAny (model pw w) A (eval e env) (fun v s₁ => wpAny (model pw w) A (spliced (backTo pos (starEach rest env))) (fun vs s₂ => Q (v :: vs) s₂) E s₁) E s) (hs : isStar e = false := by rfl) : wpAny (model pw w) A (spliced (backTo pos (starEach (e :: rest) env))) Q E s :=
  args_cons h (star_no hs)
theorem e_callB {x : Str} {id : String} {np pos : Pos} {e : Expr} {rest : List Expr} {Q : Value → Shared → Prop} (S : Stands w s.heap) (hg : Glo w.params x (.builtin id))
    (h : wpAny (model pw w) A (spliced (backTo pos (starEach (e :: rest) (envOf nm sc L f cd)))) (fun vs s₁ => wpAny (model pw w) A (call (.builtin id) vs) Q E s₁) E s)
    (he : isStar e = false := by rfl) (hr : (rest.all fun e => !isStar e) = true := by rfl)
    (hk : sc.kind = .function := by kernel_rfl) (hl : (envOf nm sc L f cd).kindOf x = some .globalImplicit := by kernel_rfl)
    (hd : (x == ("__debug__" : Str)) = false := by decide) :
    wpAny (model pw w) A (eval (.Call (.Name x np) (e :: rest) [] pos) (envOf nm sc L f cd)) Q E s :=
  Call_ (e_glob S hg (PyProof.Rows.callWith_builtin1 h (star_no he) (star_plain hr)) hk hl hd)
theorem e_callT {x : Str} {id : String} {np pos : Pos} {e : Expr} {rest : List Expr} {Q : Value → Shared → Prop} (S : Stands w s.heap) (hg : Glo w.params x (.type id))
    (h : wpAny (model pw w) A (spliced (backTo pos (starEach (e :: rest) (envOf nm sc L f cd)))) (fun vs s₁ => wpAny (model pw w) A (call (.type id) vs) Q E s₁) E s)
    (he : isStar e = false := by rfl) (hr : (rest.all fun e => !isStar e) = true := by rfl)
    (hk : sc.kind = .function := by kernel_rfl) (hl : (envOf nm sc L f cd).kindOf x = some .globalImplicit := by kernel_rfl)
    (hd : (x == ("__debug__" : Str)) = false := by decide) :
    wpAny (model pw w) A (eval (.Call (.Name x np) (e :: rest) [] pos) (envOf nm sc L f cd)) Q E s :=
  Call_ (e_glob S hg (PyProof.Rows.callWith_type1 h (star_no he) (star_plain hr)) hk hl hd)
theorem e_callD {x : Str} {g : Addr} {i : Nat} {gn : Str} {np pos : Pos} {e : Expr} {rest : List Expr} {Q : Value → Shared → Prop} (S : Stands w s.heap) (hg : Glo w.params x (.ref g)) (hf : Fn w g i gn)
    (h : wpAny (model pw w) A (spliced (backTo pos (starEach (e :: rest) (envOf nm sc L f cd)))) (fun vs s₁ => Stands w s₁.heap ∧ codeAny (model pw w) A (.call (.ref g) ⟨vs, []⟩) (RetOf Q E) s₁) E s)
    (he : isStar e = false := by rfl)
    (hk : sc.kind = .function := by kernel_rfl) (hl : (envOf nm sc L f cd).kindOf x = some .globalImplicit := by kernel_rfl)
    (hd : (x == ("__debug__" : Str)) = false := by decide) :
    wpAny (model pw w) A (eval (.Call (.Name x np) (e :: rest) [] pos) (envOf nm sc L f cd)) Q E s := by
  obtain ⟨o, pm, cdg, doc, ho, hdat, hcd⟩ := hf
  exact Call_ (e_glob S hg (callWith_def hdat (wpAny_mono h (fun vs s₁ h₁ => ⟨h₁.1 _ _ ho, call_of h₁.2⟩) fun _ _ x => x) (star_no he)) hk hl hd)

theorem fits_small {n : Nat} (h : n ≤ 16777216) : n ≤ sizeLine := by rw [sizeLine_eq]; exact h
theorem Wk.lookN (W : Wk w s₀ L m N s) {p : Addr × Obj} (h : p ∈ N) : s.heap.get? p.1 = some p.2 := (W.N p h).1
theorem Wk.freshN (W : Wk w s₀ L m N s) {a : Addr} (ha : s.heap.get? a = none) : a ∉ N.map (·.1) := fun h => by
  obtain ⟨p, hp, rfl⟩ := List.mem_map.mp h
  rw [W.lookN hp] at ha; cases ha
theorem Wk.old (W : Wk w s₀ L m N s) {a : Addr} (ha : s.heap.get? a = none) : s₀.heap.get? a = none := by
  cases h : s₀.heap.get? a with
  | none => rfl
  | some o => rw [W.F.keep a o h] at ha; cases ha
theorem Wk.notL (W : Wk w s₀ L m N s) {a : Addr} (ha : s.heap.get? a = none) : a ≠ L := by
  rintro rfl
  obtain ⟨o, _, _, ho, _⟩ := W.F.ns
  rw [ho] at ha; cases ha
/-- an object more -/
theorem Wk.new {a : Addr} {o : Obj} {h' : Heap} (W : Wk w s₀ L m N s) (k : ∀ b o, s.heap.get? b = some o → h'.get? b = some o) (ha : s.heap.get? a = none) (ho : h'.get? a = some o) (tk : Nat) :
    Wk w s₀ L m ((a, o) :: N) { s with heap := h', toks := tk } :=
  ⟨Fr.grow W.F k, fun p hp => by
    rcases List.mem_cons.mp hp with rfl | hp
    · exact ⟨ho, W.notL ha, W.old ha⟩
    · exact News.grow W.N k p hp, W.os, W.gens, W.nd, W.st, List.nodup_cons.mpr ⟨W.freshN ha, W.na⟩⟩
/-- the heap grew -/
theorem Wk.keeps {h' : Heap} (W : Wk w s₀ L m N s) (k : ∀ b o, s.heap.get? b = some o → h'.get? b = some o) (tk : Nat) : Wk w s₀ L m N { s with heap := h', toks := tk } :=
  ⟨Fr.grow W.F k, News.grow W.N k, W.os, W.gens, W.nd, W.st, W.na⟩
theorem ns_same {h h' : Heap} {a : Addr} {f : Str → Option Value} (x : h.Ns a f) (k : ∀ o, h.get? a = some o → h'.get? a = some o) : h'.Ns a f := by
  obtain ⟨o, a1, a2, ho, r⟩ := x
  exact ⟨o, a1, a2, k o ho, r⟩
/-- one of the new objects changed -/
theorem Wk.mut {D : Addr} {o o' : Obj} {h' : Heap} (W : Wk w s₀ L m ((D, o) :: N) s) (k : ∀ b o, b ≠ D → s.heap.get? b = some o → h'.get? b = some o) (ho : h'.get? D = some o') (tk : Nat) :
    Wk w s₀ L m ((D, o') :: N) { s with heap := h', toks := tk } := by
  have hD := W.N _ List.mem_cons_self
  refine ⟨⟨ns_same W.F.ns fun oL e => k L oL (Ne.symm hD.2.1) e, fun b ob e => k b ob ?_ (W.F.keep b ob e), W.F.above⟩, fun p hp => ?_, W.os, W.gens, W.nd, W.st, W.na⟩
  · rintro rfl
    rw [hD.2.2] at e; cases e
  · rcases List.mem_cons.mp hp with rfl | hp
    · exact ⟨ho, hD.2.1, hD.2.2⟩
    · refine ⟨k _ _ ?_ (W.N p (List.mem_cons_of_mem _ hp)).1, (W.N p (List.mem_cons_of_mem _ hp)).2⟩
      intro e
      have := (List.nodup_cons.mp W.na).1
      exact this (List.mem_map.mpr ⟨p, hp, e⟩)
theorem Wk.perm {N' : List (Addr × Obj)} (W : Wk w s₀ L m N s) (h : N.Perm N') : Wk w s₀ L m N' s :=
  ⟨W.F, fun p hp => W.N p (h.mem_iff.mpr hp), W.os, W.gens, W.nd, W.st, ((h.map _).nodup_iff).mp W.na⟩
theorem Wk.swap {p q : Addr × Obj} (W : Wk w s₀ L m (p :: q :: N) s) : Wk w s₀ L m (q :: p :: N) s := W.perm (.swap ..)
theorem Wk.drop {p : Addr × Obj} (W : Wk w s₀ L m (p :: N) s) : Wk w s₀ L m N s := ⟨W.F, fun q hq => W.N q (List.mem_cons_of_mem _ hq), W.os, W.gens, W.nd, W.st, (List.nodup_cons.mp W.na).2⟩
theorem Wk.drop2 {p q : Addr × Obj} (W : Wk w s₀ L m (p :: q :: N) s) : Wk w s₀ L m (p :: N) s := W.swap.drop
theorem Wk.isList (W : Wk w s₀ L m N s) {a : Addr} {vs : Array Value} {n : Nat} (h : (a, { cls := .type "list", data := .seq vs n }) ∈ N) : s.heap.IsList a vs := ⟨_, (W.N _ h).1, rfl, _, rfl⟩
theorem push_keeps {h : Heap} (o : Obj) : ∀ b ob, h.get? b = some ob → (h.push o).get? b = some ob := fun _ _ e => Heap.get?_push_of_some o e
theorem size_free (h : Heap) : h.get? h.objs.size = none := Heap.get?_none_of_le (Nat.le_refl _)
theorem W_list {vs : List Value} {Q : Value → Shared → Prop} (W : Wk w s₀ L m N s)
    (h : ∀ a s', Wk w s₀ L m ((a, { cls := .type "list", data := .seq vs.toArray }) :: N) s' → s'.heap.IsList a vs.toArray → Q (.ref a) s') (hsz : vs.length ≤ sizeLine := by size_fits) :
    wpAny (model pw w) A (newList vs) Q E s := by
  refine wpAny_newObj_type ?_ (by show vs.toArray.size ≤ sizeLine; rw [List.size_toArray]; exact hsz)
  have W' := W.new (push_keeps { cls := .type "list", data := .seq vs.toArray }) (size_free _) (Heap.get?_push_size _ rfl) s.toks
  exact h _ _ W' (W'.isList List.mem_cons_self)

section
variable {P : Params}
theorem gl_chr : Glo P "chr" (.builtin "chr") := .inr ⟨by kernel_rfl, by kernel_rfl⟩
theorem gl_list : Glo P "list" (.type "list") := .inr ⟨by kernel_rfl, by kernel_rfl⟩
theorem gl_range : Glo P "range" (.type "range") := .inr ⟨by kernel_rfl, by kernel_rfl⟩
theorem gl_len : Glo P "len" (.builtin "len") := .inr ⟨by kernel_rfl, by kernel_rfl⟩
theorem gl_sum : Glo P "sum" (.builtin "sum") := .inr ⟨by kernel_rfl, by kernel_rfl⟩
theorem gl_enum : Glo P "enumerate" (.type "enumerate") := .inr ⟨by kernel_rfl, by kernel_rfl⟩
theorem gl_fn21 : Glo P "_iter_escaped_chars" (.ref 21) := .inl (by kernel_rfl)
theorem gl_fn28 : Glo P "_strip_quoted_realnames" (.ref 28) := .inl (by kernel_rfl)
theorem gl_fn35 : Glo P "_check_parenthesis" (.ref 35) := .inl (by kernel_rfl)
theorem gl_fn53 : Glo P "in_table_b1" (.ref 53) := .inl (by kernel_rfl)
theorem gl_fn99 : Glo P "map_table_b3" (.ref 99) := .inl (by kernel_rfl)
theorem gl_fn113 : Glo P "_escape_cdata" (.ref 113) := .inl (by kernel_rfl)
theorem gl_fn120 : Glo P "_escape_attrib" (.ref 120) := .inl (by kernel_rfl)
theorem gl_fn127 : Glo P "_escape_attrib_html" (.ref 127) := .inl (by kernel_rfl)
theorem gl_fn134 : Glo P "_escape_cdata_c14n" (.ref 134) := .inl (by kernel_rfl)
theorem gl_fn141 : Glo P "_escape_attrib_c14n" (.ref 141) := .inl (by kernel_rfl)
theorem gl_fn148 : Glo P "_law_nothing" (.ref 148) := .inl (by kernel_rfl)
theorem gl_fn155 : Glo P "_law_piece" (.ref 155) := .inl (by kernel_rfl)
theorem gl_fn162 : Glo P "_law_prepared" (.ref 162) := .inl (by kernel_rfl)
theorem gl_fn169 : Glo P "_law_sheared" (.ref 169) := .inl (by kernel_rfl)
theorem gl_fn176 : Glo P "_law_cancels" (.ref 176) := .inl (by kernel_rfl)
theorem gl_fn183 : Glo P "_law_written" (.ref 183) := .inl (by kernel_rfl)
end

end
end Mine

end
section
open PySem PySem.W PyProof.Rows PySem.Calls PyProof.V
set_option Elab.async false
set_option maxRecDepth 100000
namespace Mine
noncomputable section
variable {w : World} {A : Around} {E : Value → Shared → Prop} {s₀ s : Shared} {L : Addr} {m m' : Loc} {N : List (Addr × Obj)} {nm : Str} {sc : Scope} {f : Addr} {cd : Value}

inductive IntsE : List Expr → List Int → Prop
  | nil : IntsE [] []
  | cons {i : Int} {k : Nat} {p : Pos} {es : List Expr} {is : List Int} : IntsE es is → IntsE (.Constant (.int i) k p :: es) (i :: is)
theorem args_ints {es : List Expr} {is : List Int} {env : Env} {pos : Pos} {Q : List Value → Shared → Prop} (hE : IntsE es is) (W : Wk w s₀ L m N s)
    (h : ∀ vs s', Wk w s₀ L m N s' → IntsAre vs is → Q vs s') : wpAny (model pw w) A (spliced (backTo pos (starEach es env))) Q E s := by
  induction hE generalizing s Q with
  | nil => exact args_nil (h [] _ W .nil)
  | cons hE ih => exact args_c (e_int W fun t s' W' => ih W' fun vs s'' W'' hi => h _ _ W'' (.cons _ _ hi))

theorem W_add_lists {l b : Addr} {vs ws : List Value} {Q : Value → Shared → Prop} (W : Wk w s₀ L m N s) (hl : s.heap.IsList l vs.toArray) (hb : s.heap.IsList b ws.toArray) (hsz : vs.length + ws.length ≤ 16777216)
    (h : ∀ a s', Wk w s₀ L m ((a, { cls := .type "list", data := .seq (vs ++ ws).toArray }) :: N) s' → s'.heap.IsList a (vs ++ ws).toArray → Q (.ref a) s') :
    wpAny (model pw w) A (binaryOp .Add (.ref l) (.ref b)) Q E s := by
  refine add_lists (hsz := fits_small hsz) W.F W.N hl hb fun h' F N' => ?_
  have hne : s.heap.objs.size ∉ N.map (·.1) := W.freshN (size_free _)
  have W' : Wk w s₀ L m ((s.heap.objs.size, { cls := .type "list", data := .seq (vs ++ ws).toArray }) :: N) { s with heap := h' } := ⟨F, N', W.os, W.gens, W.nd, W.st, List.nodup_cons.mpr ⟨hne, W.na⟩⟩
  exact h _ _ W' (W'.isList List.mem_cons_self)
theorem W_add_ints {l b : Addr} {vs ws : List Value} {ns ms : List Int} {Q : Value → Shared → Prop} (W : Wk w s₀ L m N s) (hl : s.heap.IsList l vs.toArray) (hb : s.heap.IsList b ws.toArray)
    (hi : IntsAre vs ns) (hj : IntsAre ws ms) (hsz : ns.length + ms.length ≤ 16777216)
    (h : ∀ a s', Wk w s₀ L m ((a, { cls := .type "list", data := .seq (vs ++ ws).toArray }) :: N) s' → s'.heap.IsList a (vs ++ ws).toArray → IntsAre (vs ++ ws) (ns ++ ms) → Q (.ref a) s') :
    wpAny (model pw w) A (binaryOp .Add (.ref l) (.ref b)) Q E s :=
  W_add_lists W hl hb (by rw [hi.length, hj.length]; exact hsz) fun a s' W' l' => h a s' W' l' (hi.append hj)
theorem W_list_range {a b : Int} {t u : Tok} {n : Nat} {Q : Value → Shared → Prop} (hh : A.handled = none) (W : Wk w s₀ L m N s)
    (hsmall : Builtin.Range.small a b 1 = true) (hn : Builtin.Range.rangeSize a b 1 = (n : Int)) (hlen : n ≤ 2 ^ 24)
    (h : ∀ d ys s', Wk w s₀ L m N s' → s'.heap.IsList d ys.toArray → IntsAre ys (rangeInts a 1 n) → (∀ b o, s.heap.get? b = some o → s'.heap.get? b = some o) → Q (.ref d) s') :
    wpAny (model pw w) A (call (.type "range") [.int a t, .int b u]) (fun r s₁ => wpAny (model pw w) A (call (.type "list") [r]) Q E s₁) E s := by
  refine range2_rows W.F W.N fun h₁ tk t1 t2 t3 hr F1 N1 k1 => ?_
  have W1 := W.heap F1 N1 tk
  refine list_rangeD (n := n) hh W1.F W1.N hr hsmall hn hlen fun h₂ tk2 ys F2 N2 k2 _ l2 _ c2 => ?_
  exact h _ ys _ (W1.heap F2 N2 tk2) l2 (IntsAre.ofCarried c2) fun b o e => k2 b o (k1 b o e)

theorem item_list {a : Addr} {l : List Value} {k : Nat} {u : Tok} {x : Value} {Q : Value → Shared → Prop} (hl : s.heap.IsList a l.toArray) (hfit : k < 2 ^ 62) (hx : l[k]? = some x) (h : Q x s) :
    ItemOn (model pw w) A E (.ref a) (.int k u) Q s :=
  ⟨"list", "list.__getitem__", PySem.F.slot_list_getitem.lookup, hl.typeIs, getItem_listL hl (by omega) (by omega) (by simpa using hx) h⟩
theorem fmod_nat (a b : Nat) : (a : Int).fmod (b : Int) = ((a % b : Nat) : Int) := by
  rw [Int.fmod_eq_emod_of_nonneg _ (by omega)]; rfl
theorem fdiv_nat (a b : Nat) : (a : Int).fdiv (b : Int) = ((a / b : Nat) : Int) := by
  rw [Int.fdiv_eq_ediv_of_nonneg _ (by omega)]; rfl
theorem e_mod {a b : Nat} {t u : Tok} {Q : Value → Shared → Prop} (W : Wk w s₀ L m N s) (hb : 0 < b) (h : ∀ t' s', Wk w s₀ L m N s' → Q (.int ((a % b : Nat) : Int) t') s') :
    wpAny (model pw w) A (binaryOp .Mod (.int a t) (.int b u)) Q E s :=
  PyProof.Rows.mod_int' (by omega) (by rw [fmod_nat]; exact h _ _ (W.toks _))
theorem e_div {a b : Nat} {t u : Tok} {Q : Value → Shared → Prop} (W : Wk w s₀ L m N s) (hb : 0 < b) (hb2 : b < 1073741824) (h : ∀ t' s', Wk w s₀ L m N s' → Q (.int ((a / b : Nat) : Int) t') s') :
    wpAny (model pw w) A (binaryOp .FloorDiv (.int a t) (.int b u)) Q E s :=
  floordiv_int (hp := .inl (PyProof.noPylong_small (by omega))) (by omega) (by rw [fdiv_nat]; exact h _ _ (W.toks _))
theorem e_chr {c : Nat} {t : Tok} {Q : Value → Shared → Prop} (W : Wk w s₀ L m N s) (hc : c ≤ 1114111) (h : ∀ t' s', Wk w s₀ L m N s' → Q (.str (tx [c]) t') s') :
    wpAny (model pw w) A (call (.builtin "chr") [.int c t]) Q E s :=
  chr_of_range (by omega) (by omega) (h _ _ (W.toks _))
theorem IntsAre.nth {vs : List Value} {ns : List Int} (h : IntsAre vs ns) : ∀ {k : Nat}, k < ns.length → ∃ t, vs[k]? = some (.int (ns.getD k 0) t) := by
  induction h with
  | nil => intro k hk; cases hk
  | cons n t _ ih =>
    intro k hk
    cases k with
    | zero => exact ⟨t, rfl⟩
    | succ k => exact ih (by simpa using hk)

noncomputable def nothL : List Nat := [173, 847, 6150, 6155, 6156, 6157, 8203, 8204, 8205, 8288, 65279, 65024, 65025, 65026, 65027, 65028, 65029, 65030, 65031, 65032, 65033, 65034, 65035, 65036, 65037, 65038, 65039]
noncomputable def noth (y : Nat) : Nat := nothL.getD (y % 27) 0
theorem nothing_call {R : Result → Shared → Prop} {y : Nat} {t : Tok} (S : Stands w s.heap) (hroom : A.depth < recursionLimit) (hh : A.handled = none)
    (h : ∀ t' s', Grown s s' → R (.ok (.ret (.str (tx [noth y]) t'))) s') :
    codeAny (model pw w) A (.call (.ref 148) ⟨[.int y t], []⟩) R s := by
  refine call_me [("y", .int y t)] [("y", some (.int y t)), ("codes", none)] ["codes"] fn148 S hroom (fun cd s' W => ?_)
  conv in fnB 17 => whnf
  refine x_assign ?_
  refine wpAny_BinOp ?_
  refine List_ ?_
  refine args_ints (.cons (.cons (.cons (.cons (.cons (.cons (.cons (.cons (.cons (.cons (.cons .nil))))))))))) W fun vs _ W hi => ?_
  have hlen := hi.length
  refine W_list (hsz := fits_small (by rw [hlen]; simp)) W fun a s₁ W l1 => ?_
  refine e_callT W.S gl_list ?_
  refine args_c ?_
  refine e_callT W.S gl_range ?_
  refine args_c ?_
  refine e_int W fun _ _ W => ?_
  refine args_c ?_
  refine e_int W fun _ _ W => ?_
  refine args_nil ?_
  refine wpAny_mono (W_list_range (n := 16) hh W (by decide) (by decide) (by decide) fun d ys _ W l2 hj k => ?_) (fun _ _ h => args_nil h) fun _ _ x => x
  refine W_add_ints W (W.isList List.mem_cons_self) l2 hi hj (by decide) fun a _ W l3 hij => ?_
  have W := W.drop2
  refine store W (.tail .head) fun s₂ W => ?_
  refine x_ret ?_
  refine e_callB W.S gl_chr ?_
  refine args_c ?_
  refine PySem.Subscript_BinOp ?_
  refine e_loc W (.tail .head) ?_
  refine wpAny_BinOp ?_
  refine e_loc W .head ?_
  refine e_int W fun _ _ W => ?_
  refine e_mod (b := 27) W (by decide) fun _ _ W => ?_
  have hk : y % 27 < 27 := Nat.mod_lt _ (by decide)
  obtain ⟨t1, hx⟩ := IntsAre.nth hij (k := y % 27) hk
  refine item_list (W.isList List.mem_cons_self) (by omega) hx ?_
  refine args_nil ?_
  have hc : ([173, 847, 6150, 6155, 6156, 6157, 8203, 8204, 8205, 8288, 65279] ++ rangeInts 65024 1 16).getD (y % 27) 0 = ((noth y : Nat) : Int) := by
    unfold noth
    revert hk; generalize y % 27 = n; revert n
    decide
  rw [hc]
  refine e_chr W ?_ fun _ _ W => h _ _ W.grown
  unfold noth
  revert hk; generalize y % 27 = n; revert n
  decide
end
end Mine

end
section
open PySem PySem.W PyProof.Rows PySem.Calls PyProof.V
set_option Elab.async false
set_option maxRecDepth 100000
namespace Mine
noncomputable section
variable {w : World} {A : Around} {E : Value → Shared → Prop} {s₀ s : Shared} {L : Addr} {m m' : Loc} {N : List (Addr × Obj)} {nm : Str} {sc : Scope} {f : Addr} {cd : Value}

theorem e_tx {x : Str} (l : List Nat) (hx : x = tx l) {k : Nat} {pos : Pos} {env : Env} {Q : Value → Shared → Prop} (W : Wk w s₀ L m N s) (h : ∀ t s', Wk w s₀ L m N s' → Q (.str (tx l) t) s') :
    wpAny (model pw w) A (eval (.Constant (.str x) k pos) env) Q E s := by subst hx; exact e_str W h
theorem e_nat {i : Int} (n : Nat) (hx : i = (n : Int)) {k : Nat} {pos : Pos} {env : Env} {Q : Value → Shared → Prop} (W : Wk w s₀ L m N s) (h : ∀ t s', Wk w s₀ L m N s' → Q (.int (n : Int) t) s') :
    wpAny (model pw w) A (eval (.Constant (.int i) k pos) env) Q E s := by subst hx; exact e_int W h
theorem tx_append (a b : List Nat) : tx a ++ tx b = tx (a ++ b) := tx_eq (by rw [Str.cps_append]; simp)
theorem e_cat {a b : List Nat} {t u : Tok} {Q : Value → Shared → Prop} (W : Wk w s₀ L m N s) (hl : a.length + b.length ≤ 16777216) (h : ∀ t' s', Wk w s₀ L m N s' → Q (.str (tx (a ++ b)) t') s') :
    wpAny (model pw w) A (binaryOp .Add (.str (tx a) t) (.str (tx b) u)) Q E s :=
  SB.add (fun t' k => by rw [tx_append]; exact h t' _ (W.toks k)) (fits_small (by simpa [Str.length] using hl))
theorem e_add {a b : Nat} {t u : Tok} {Q : Value → Shared → Prop} (W : Wk w s₀ L m N s) (h : ∀ t' s', Wk w s₀ L m N s' → Q (.int ((a + b : Nat) : Int) t') s') :
    wpAny (model pw w) A (binaryOp .Add (.int a t) (.int b u)) Q E s := PyProof.Rows.add_int (h _ _ (W.toks _))
theorem slot_sgi : ∃ id, typeLookup (.type "str") "__getitem__" = pure (some (.builtin id)) := ⟨_, PySem.F.slot_str_getitem.lookup⟩
theorem item_tx {l : List Nat} {k : Nat} {t u : Tok} {Q : Value → Shared → Prop} (W : Wk w s₀ L m N s) (hk : k < l.length) (hfit : k < 2 ^ 62) (h : ∀ t' s', Wk w s₀ L m N s' → Q (.str (tx [l.getD k 0]) t') s') :
    ItemOn (model pw w) A E (.str (tx l) t) (.int k u) Q s := by
  have hc : Txt.charAt (tx l) (k : Int) = some (l.getD k 0) := by
    unfold Txt.charAt
    have h1 : PySem.seqIndex? (k : Int) (tx l).length = some k := seqIndex_of (by omega) (by simp only [Str.length, List.size_toArray]; omega)
    rw [h1]
    show (l.toArray)[k]? = _
    simp [hk]
  refine ⟨"str", _, PySem.F.slot_str_getitem.lookup, typeIs_str _ _ _, SB.getItem ?_ (by rw [hc]; rfl) ?_⟩
  · unfold fitsSsize
    have h1 : ¬ (k : Int) < -(2 ^ 63 : Int) := by omega
    have h2 : ¬ (k : Int) ≥ 2 ^ 63 := by omega
    rw [decide_eq_false h1, decide_eq_false h2]; rfl
  · have : Txt.item (tx l) (k : Int) = tx [l.getD k 0] := by unfold Txt.item; rw [hc]; rfl
    rw [this]; exact h _ _ (W.toks _)

theorem tail_on {value slice : Expr} {o i : Value} {Q : Value → Shared → Prop} (h : ItemOn (model pw w) A E o i Q s)
    (hs : subscripted slice false o i = operate [o, i] (getItem o i) := by with_unfolding_all rfl) (ht : ∀ r, letTemporaryGo value o r = pure () := by intro _; rfl) :
    wpAny (model pw w) A (subscriptTail value slice o i) Q E s := by
  obtain ⟨T, id, hl, hT, hg⟩ := h
  exact subscriptTail_builtin hT hl hg hs ht
theorem x_if_eq {x : Str} {a c : Nat} {ci : Int} {t : Tok} {k : Nat} {p1 p2 p3 p4 : Pos} {body rest : List Stmt} {Q : Flow → Shared → Prop} (W : Wk w s₀ L m N s) (hx : Has x (.int a t) m) (hc : ci = (c : Int))
    (ht : a = c → ∀ s', Wk w s₀ L m N s' → wpAny (model pw w) A (execs body (envOf nm sc L f cd)) (fun fl s' => match fl with | .next => wpAny (model pw w) A (execs rest (envOf nm sc L f cd)) Q E s' | fl => Q fl s') E s')
    (hf : a ≠ c → ∀ s', Wk w s₀ L m N s' → wpAny (model pw w) A (execs rest (envOf nm sc L f cd)) Q E s')
    (hk : sc.kind = .function := by kernel_rfl) (hl : (envOf nm sc L f cd).kindOf x = some .local := by kernel_rfl)
    (hd : (x == ("__debug__" : Str)) = false := by decide) :
    wpAny (model pw w) A (execs (.If (.Compare (.Name x p1) [.Eq] [.Constant (.int ci) k p2] p3) body [] p4 :: rest) (envOf nm sc L f cd)) Q E s := by
  subst hc
  refine x_if (wpAny_isTrue_Compare1 (e_loc W hx (e_int W fun _ _ W => eq_int (wpAny_truthy_bool ?_)) hk hl hd))
  by_cases h : a = c
  · rw [show ((a : Int) == (c : Int)) = true by rw [h]; simp]
    exact ht h _ W
  · rw [show ((a : Int) == (c : Int)) = false by simp; omega]
    exact wpAny_execs_nil (hf h _ W)

noncomputable def firstsL : List Nat := [65, 119808, 119860, 119912, 120016, 120172, 120224, 120276, 120328, 120380, 120432]
noncomputable def ligL : List Nat := [223, 64256, 64257, 64258, 64259, 64260, 64262, 8481, 13255, 13259]
noncomputable def pieceL (x : Nat) : List Nat :=
  if x % 12 < 2 then [34] else if x % 12 = 2 then [92, noth (x / 12)] else if x % 12 = 3 then [noth (x / 12)] else if x % 12 = 4 then [92]
  else if x % 12 = 5 then [[40, 41].getD (x / 12 % 2) 0] else if x % 12 = 6 then [[38, 60, 62, 13, 10, 9].getD (x / 12 % 6) 0]
  else if x % 12 = 7 then [firstsL.getD (x / 12 % 11) 0 + x / 12 / 11 % 26] else if x % 12 = 8 then [ligL.getD (x / 12 % 10) 0]
  else if x % 12 = 9 then [[7838, 1017].getD (x / 12 % 2) 0] else if x % 12 = 10 then [92, noth (x / 12), 34] else [97 + x / 12 % 26]

set_option maxHeartbeats 4000000 in
theorem piece_call {R : Result → Shared → Prop} {x : Nat} {t : Tok} (S : Stands w s.heap) (hroom : A.depth + 1 < recursionLimit) (hh : A.handled = none)
    (h : ∀ t' s', Grown s s' → R (.ok (.ret (.str (tx (pieceL x)) t'))) s') :
    codeAny (model pw w) A (.call (.ref 155) ⟨[.int x t], []⟩) R s := by
  refine call_me [("x", .int x t)] [("x", some (.int x t)), ("kind", none), ("y", none), ("firsts", none)] ["kind", "y", "firsts"] fn155 S (by omega) (fun cd s' W => ?_)
  conv in fnB 18 => whnf
  refine x_assign ?_
  refine wpAny_BinOp ?_
  refine e_loc W .head ?_
  refine e_nat 12 rfl W fun _ _ W => ?_
  refine e_mod W (by decide) fun _ _ W => ?_
  refine store W (.tail .head) fun s₂ W => ?_
  refine x_assign ?_
  refine wpAny_BinOp ?_
  refine e_loc W .head ?_
  refine e_nat 12 rfl W fun _ _ W => ?_
  refine e_div W (by decide) (by decide) fun _ _ W => ?_
  refine store W (.tail (.tail .head)) fun s₂ W => ?_
  unfold pieceL at h
  refine x_if ?_
  refine wpAny_isTrue_Compare1 ?_
  refine e_loc W (.tail .head) ?_
  refine e_nat 2 rfl W fun _ _ W => ?_
  refine lt_int (wpAny_truthy_bool ?_)
  by_cases hk : x % 12 < 2
  · rw [decide_eq_true (show ((x % 12 : Nat) : Int) < ((2 : Nat) : Int) by omega)]
    rw [if_pos hk] at h
    exact x_ret (e_tx [34] rfl W fun t s' W => h _ _ W.grown)
  rw [decide_eq_false (show ¬ ((x % 12 : Nat) : Int) < ((2 : Nat) : Int) by omega)]
  rw [if_neg hk] at h
  refine wpAny_execs_nil ?_
  refine x_if_eq (c := 2) W (.tail .head) rfl (fun hk _ W => ?_) (fun hk _ W => ?_)
  · rw [if_pos hk] at h
    refine x_ret ?_
    refine wpAny_BinOp ?_
    refine e_tx [92] rfl W fun _ _ W => ?_
    refine e_callD W.S gl_fn148 fn148 ?_
    refine args_c ?_
    refine e_loc W (.tail (.tail .head)) ?_
    refine args_nil ⟨W.S, nothing_call W.S (by show A.depth + 1 < _; omega) hh fun t' s' G => ?_⟩
    have W := W.grow G
    exact e_cat W (by simp) fun _ _ W => h _ _ W.grown
  rw [if_neg hk] at h
  refine x_if_eq (c := 3) W (.tail .head) rfl (fun hk _ W => ?_) (fun hk _ W => ?_)
  · rw [if_pos hk] at h
    refine x_ret ?_
    refine e_callD W.S gl_fn148 fn148 ?_
    refine args_c ?_
    refine e_loc W (.tail (.tail .head)) ?_
    refine args_nil ⟨W.S, nothing_call W.S (by show A.depth + 1 < _; omega) hh fun t' s' G => ?_⟩
    have W := W.grow G
    exact h _ _ W.grown
  rw [if_neg hk] at h
  refine x_if_eq (c := 4) W (.tail .head) rfl (fun hk _ W => ?_) (fun hk _ W => ?_)
  · rw [if_pos hk] at h
    exact x_ret (e_tx [92] rfl W fun t s' W => h _ _ W.grown)
  rw [if_neg hk] at h
  refine x_if_eq (c := 5) W (.tail .head) rfl (fun hk _ W => ?_) (fun hk _ W => ?_)
  · rw [if_pos hk] at h
    refine x_ret ?_
    refine PyProof.Rows.Subscript_ ?_
    refine e_tx [40, 41] rfl W fun _ _ W => ?_
    refine wpAny_BinOp ?_
    refine e_loc W (.tail (.tail .head)) ?_
    refine e_nat 2 rfl W fun _ _ W => ?_
    refine e_mod W (by decide) fun _ _ W => ?_
    have hlt : x / 12 % 2 < 2 := Nat.mod_lt _ (by decide)
    exact tail_on <| item_tx W (by exact hlt) (by omega) fun _ _ W => h _ _ W.grown
  rw [if_neg hk] at h
  refine x_if_eq (c := 6) W (.tail .head) rfl (fun hk _ W => ?_) (fun hk _ W => ?_)
  · rw [if_pos hk] at h
    refine x_ret ?_
    refine PyProof.Rows.Subscript_ ?_
    refine e_tx [38, 60, 62, 13, 10, 9] rfl W fun _ _ W => ?_
    refine wpAny_BinOp ?_
    refine e_loc W (.tail (.tail .head)) ?_
    refine e_nat 6 rfl W fun _ _ W => ?_
    refine e_mod W (by decide) fun _ _ W => ?_
    have hlt : x / 12 % 6 < 6 := Nat.mod_lt _ (by decide)
    exact tail_on <| item_tx W (by exact hlt) (by omega) fun _ _ W => h _ _ W.grown
  rw [if_neg hk] at h
  refine x_if_eq (c := 7) W (.tail .head) rfl (fun hk _ W => ?_) (fun hk _ W => ?_)
  · rw [if_pos hk] at h
    refine x_assign ?_
    refine List_ ?_
    refine args_ints (.cons (.cons (.cons (.cons (.cons (.cons (.cons (.cons (.cons (.cons (.cons .nil))))))))))) W fun vs _ W hi => ?_
    have hlen := hi.length
    refine W_list (hsz := fits_small (by rw [hlen]; simp)) W fun a s₁ W l1 => ?_
    refine store W (.tail (.tail (.tail .head))) fun _ W => ?_
    refine x_ret ?_
    refine e_callB W.S gl_chr ?_
    refine args_c ?_
    refine wpAny_BinOp ?_
    refine PySem.Subscript_BinOp ?_
    refine e_loc W (.tail (.tail (.tail .head))) ?_
    refine wpAny_BinOp ?_
    refine e_loc W (.tail (.tail .head)) ?_
    refine e_nat 11 rfl W fun _ _ W => ?_
    refine e_mod W (by decide) fun _ _ W => ?_
    have hlt : x / 12 % 11 < 11 := Nat.mod_lt _ (by decide)
    obtain ⟨t1, hx⟩ := IntsAre.nth hi (k := x / 12 % 11) hlt
    refine item_list (W.isList List.mem_cons_self) (by omega) hx ?_
    have hc : ([65, 119808, 119860, 119912, 120016, 120172, 120224, 120276, 120328, 120380, 120432] : List Int).getD (x / 12 % 11) 0 = ((firstsL.getD (x / 12 % 11) 0 : Nat) : Int) := by
      revert hlt; generalize x / 12 % 11 = n; revert n
      decide
    have hb : firstsL.getD (x / 12 % 11) 0 ≤ 200000 := by
      revert hlt; generalize x / 12 % 11 = n; revert n
      decide
    rw [hc]
    refine wpAny_BinOp ?_
    refine wpAny_BinOp ?_
    refine e_loc W (.tail (.tail .head)) ?_
    refine e_nat 11 rfl W fun _ _ W => ?_
    refine e_div W (by decide) (by decide) fun _ _ W => ?_
    refine e_nat 26 rfl W fun _ _ W => ?_
    refine e_mod W (by decide) fun _ _ W => ?_
    have hm : x / 12 / 11 % 26 < 26 := Nat.mod_lt _ (by decide)
    refine e_add W fun _ _ W => ?_
    refine args_nil ?_
    exact e_chr W (by omega) fun _ _ W => h _ _ W.grown
  rw [if_neg hk] at h
  refine x_if_eq (c := 8) W (.tail .head) rfl (fun hk _ W => ?_) (fun hk _ W => ?_)
  · rw [if_pos hk] at h
    refine x_ret ?_
    refine PyProof.Rows.Subscript_ ?_
    refine e_tx [223, 64256, 64257, 64258, 64259, 64260, 64262, 8481, 13255, 13259] rfl W fun _ _ W => ?_
    refine wpAny_BinOp ?_
    refine e_loc W (.tail (.tail .head)) ?_
    refine e_nat 10 rfl W fun _ _ W => ?_
    refine e_mod W (by decide) fun _ _ W => ?_
    have hlt : x / 12 % 10 < 10 := Nat.mod_lt _ (by decide)
    exact tail_on <| item_tx W (by exact hlt) (by omega) fun _ _ W => h _ _ W.grown
  rw [if_neg hk] at h
  refine x_if_eq (c := 9) W (.tail .head) rfl (fun hk _ W => ?_) (fun hk _ W => ?_)
  · rw [if_pos hk] at h
    refine x_ret ?_
    refine PyProof.Rows.Subscript_ ?_
    refine e_tx [7838, 1017] rfl W fun _ _ W => ?_
    refine wpAny_BinOp ?_
    refine e_loc W (.tail (.tail .head)) ?_
    refine e_nat 2 rfl W fun _ _ W => ?_
    refine e_mod W (by decide) fun _ _ W => ?_
    have hlt : x / 12 % 2 < 2 := Nat.mod_lt _ (by decide)
    exact tail_on <| item_tx W (by exact hlt) (by omega) fun _ _ W => h _ _ W.grown
  rw [if_neg hk] at h
  refine x_if_eq (c := 10) W (.tail .head) rfl (fun hk _ W => ?_) (fun hk _ W => ?_)
  · rw [if_pos hk] at h
    refine x_ret ?_
    refine wpAny_BinOp ?_
    refine wpAny_BinOp ?_
    refine e_tx [92] rfl W fun _ _ W => ?_
    refine e_callD W.S gl_fn148 fn148 ?_
    refine args_c ?_
    refine e_loc W (.tail (.tail .head)) ?_
    refine args_nil ⟨W.S, nothing_call W.S (by show A.depth + 1 < _; omega) hh fun t' s' G => ?_⟩
    have W := W.grow G
    refine e_cat W (by simp) fun _ _ W => ?_
    refine e_tx [34] rfl W fun _ _ W => ?_
    exact e_cat W (by simp) fun _ _ W => h _ _ W.grown
  rw [if_neg hk] at h
  refine x_ret ?_
  refine e_callB W.S gl_chr ?_
  refine args_c ?_
  refine wpAny_BinOp ?_
  refine e_nat 97 rfl W fun _ _ W => ?_
  refine wpAny_BinOp ?_
  refine e_loc W (.tail (.tail .head)) ?_
  refine e_nat 26 rfl W fun _ _ W => ?_
  refine e_mod W (by decide) fun _ _ W => ?_
  refine e_add W fun _ _ W => ?_
  refine args_nil ?_
  have hm : x / 12 % 26 < 26 := Nat.mod_lt _ (by decide)
  exact e_chr W (by omega) fun _ _ W => h _ _ W.grown
end
end Mine

end
section
open PySem PySem.W PyProof.Rows PySem.Calls PyProof.V
set_option Elab.async false
set_option maxRecDepth 100000
namespace Mine
noncomputable section
variable {w : World} {A : Around} {E : Value → Shared → Prop} {s₀ s : Shared} {L : Addr} {m m' : Loc} {N : List (Addr × Obj)} {nm : Str} {sc : Scope} {f : Addr} {cd : Value}

/-- an iterator that lives in one object -/
structure It (w : World) (A : Around) (n : Nat) (P : Nat → Value → Prop) (Ito : Nat → Obj → Prop) (C : Heap → Prop) : Prop where
  next : ∀ {I : Addr} {it : Obj} {i : Nat} {s : Shared} {Q : Option Value → Shared → Prop} {E : Value → Shared → Prop}, i < n → Ito i it → s.heap.get? I = some it → C s.heap →
    (∀ v it' h' tk, P i v → Ito (i + 1) it' → h'.get? I = some it' → (∀ b o, b ≠ I → s.heap.get? b = some o → h'.get? b = some o) → Q (some v) { s with heap := h', toks := tk }) → wpAny (model pw w) A (pyNext (.ref I)) Q E s
  stop : ∀ {I : Addr} {it : Obj} {s : Shared} {Q : Option Value → Shared → Prop} {E : Value → Shared → Prop}, Ito n it → s.heap.get? I = some it → C s.heap →
    (∀ h' tk, (∀ b o, b ≠ I → s.heap.get? b = some o → h'.get? b = some o) → Q none { s with heap := h', toks := tk }) → wpAny (model pw w) A (pyNext (.ref I)) Q E s

noncomputable def strIto (l : List Nat) (t : Tok) (i : Nat) (o : Obj) : Prop := (o.cls = .type "str_ascii_iterator" ∨ o.cls = .type "str_iterator") ∧ o.data = .fields #[.str (tx l) t, .int i 0]
theorem It.str (hh : A.handled = none) (l : List Nat) (t : Tok) : It w A l.length (fun i v => ∃ t', v = .str (tx [l.getD i 0]) t') (strIto l t) (fun _ => True) where
  next := by
    intro I it i s Q E hi hit ho _ h
    obtain ⟨hc, hd⟩ := hit
    have hx : (tx l).cps[i]? = some (l.getD i 0) := by simp [hi]
    rcases hc with hc | hc
    · refine wpAny_pyNext_ascii_item ⟨it, ho, hc, hd⟩ hx fun h' hi' hs => ?_
      obtain ⟨it', ho', hc', hd'⟩ := hi'
      exact h _ it' h' _ ⟨_, rfl⟩ ⟨.inl hc', hd'⟩ ho' fun b o hb e => by rw [hs.2 b hb]; exact e
    · refine wpAny_pyNext_wide_item ⟨it, ho, hc, hd⟩ hx fun h' hi' hs => ?_
      obtain ⟨it', ho', hc', hd'⟩ := hi'
      exact h _ it' h' _ ⟨_, rfl⟩ ⟨.inr hc', hd'⟩ ho' fun b o hb e => by rw [hs.2 b hb]; exact e
  stop := by
    intro I it s Q E hit ho _ h
    obtain ⟨hc, hd⟩ := hit
    have hx : (tx l).cps[l.length]? = none := by simp
    rcases hc with hc | hc
    · exact wpAny_pyNext_ascii_end hh ⟨it, ho, hc, hd⟩ hx fun h' hs => h h' _ hs
    · exact wpAny_pyNext_wide_end hh ⟨it, ho, hc, hd⟩ hx fun h' hs => h h' _ hs
theorem iter_str {l : List Nat} {t : Tok} {Q : Value → Shared → Prop} (W : Wk w s₀ L m N s) (h : ∀ I it s', strIto l t 0 it → Wk w s₀ L m ((I, it) :: N) s' → Q (.ref I) s') : wpAny (model pw w) A (pyIter (.str (tx l) t)) Q E s := by
  refine wpAny_pyIter_strU ?_
  have hf : ∀ ty : String, Obj.isFreed { cls := .type ty, data := .fields #[.str (tx l) t, .int 0 0] } = false := fun _ => rfl
  refine h _ { cls := .type (strIterType (tx l)), data := .fields #[.str (tx l) t, .int 0 0] } _ ⟨?_, rfl⟩ (W.new (push_keeps _) (size_free _) (Heap.get?_push_size _ (hf _)) s.toks)
  unfold strIterType
  split
  · exact .inl rfl
  · exact .inr rfl

theorem Wk.lose {D : Addr} {o : Obj} {h' : Heap} (W : Wk w s₀ L m ((D, o) :: N) s) (k : ∀ b o, b ≠ D → s.heap.get? b = some o → h'.get? b = some o) (tk : Nat) :
    Wk w s₀ L m N { s with heap := h', toks := tk } := by
  have hD := W.N _ List.mem_cons_self
  refine ⟨⟨ns_same W.F.ns fun oL e => k L oL (Ne.symm hD.2.1) e, fun b ob e => k b ob ?_ (W.F.keep b ob e), W.F.above⟩, fun p hp => ?_, W.os, W.gens, W.nd, W.st, (List.nodup_cons.mp W.na).2⟩
  · rintro rfl
    rw [hD.2.2] at e; cases e
  · refine ⟨k _ _ ?_ (W.N p (List.mem_cons_of_mem _ hp)).1, (W.N p (List.mem_cons_of_mem _ hp)).2⟩
    intro e
    exact (List.nodup_cons.mp W.na).1 (List.mem_map.mpr ⟨p, hp, e⟩)

/-- a for over names -/
theorem x_for {x : Str} {px p : Pos} {iterE : Expr} {body rest : List Stmt} {n : Nat} {P : Nat → Value → Prop} {Ito : Nat → Obj → Prop} {C : Heap → Prop} {Q : Flow → Shared → Prop} {env : Env} (_ : Wk w s₀ L m N s) (T : It w A n P Ito C) (J : Nat → Loc → List (Addr × Obj) → Prop)
    (hC : ∀ i m' N' s', J i m' N' → Wk w s₀ L m' N' s' → C s'.heap)
    (hiter : wpAny (model pw w) A (eval iterE env) (fun v s₁ => wpAny (model pw w) A (pyIter v) (fun r s₂ => ∃ I it m N, r = .ref I ∧ Ito 0 it ∧ Wk w s₀ L m ((I, it) :: N) s₂ ∧ J 0 m N) E s₁) E s)
    (step : ∀ i m' N' I it v s₁, i < n → J i m' N' → P i v → Wk w s₀ L m' ((I, it) :: N') s₁ → wpAny (model pw w) A (storeName env x v) (fun _ s₂ => wpAny (model pw w) A (execs body env)
      (fun fl s₃ => match fl with | .next | .cont => ∃ m3 N3, Wk w s₀ L m3 ((I, it) :: N3) s₃ ∧ J (i + 1) m3 N3 | .brk => False | .ret v => Q (.ret v) s₃) (fun _ _ => False) s₂) (fun _ _ => False) s₁)
    (fin : ∀ m' N' s₁, J n m' N' → Wk w s₀ L m' N' s₁ → wpAny (model pw w) A (execs rest env) Q E s₁)
    (hs : ∀ x, foldedSetIterable iterE env x = pure x := by intro _; rfl) :
    wpAny (model pw w) A (execs (.For (.Name x px) iterE body [] p :: rest) env) Q E s := by
  refine wpAny_execs_cons (wpAny_For (wpAny_mono hiter (fun v s₁ h₁ => wpAny_mono h₁ (fun r s₂ h₂ => ?_) fun _ _ x => x) fun _ _ x => x) hs)
  obtain ⟨I, it, m, N, rfl, hi0, W0, J0⟩ := h₂
  refine codeAny_forLoop (fun k s' => ∃ i it m' N', k = n - i ∧ i ≤ n ∧ Ito i it ∧ Wk w s₀ L m' ((I, it) :: N') s' ∧ J i m' N') (fun k s' hk => ?_) n ⟨0, it, m, N, rfl, Nat.zero_le _, hi0, W0, J0⟩
  obtain ⟨i, it, m', N', rfl, hle, hit, W, hJ⟩ := hk
  by_cases hlt : i < n
  · refine T.next hlt hit (W.lookN List.mem_cons_self) (hC i m' N' _ hJ W.drop) fun v it' h' tk hP hit' ho' hk' => ?_
    have W' := W.mut hk' ho' tk
    refine wpAny_assign_Name (wpAny_mono (step i m' N' I it' v _ hlt hJ hP W') (fun _ s₂ h₂ => wpAny_mono h₂ (fun fl s₃ h₃ => ?_) fun _ _ x => x.elim) fun _ _ x => x.elim)
    cases fl with
    | next =>
      obtain ⟨m3, N3, W3, J3⟩ := h₃
      exact ⟨_, by omega, i + 1, it', m3, N3, rfl, hlt, hit', W3, J3⟩
    | cont =>
      obtain ⟨m3, N3, W3, J3⟩ := h₃
      exact ⟨_, by omega, i + 1, it', m3, N3, rfl, hlt, hit', W3, J3⟩
    | brk => exact h₃.elim
    | ret v => exact h₃
  · have e : i = n := by omega
    subst e
    refine T.stop hit (W.lookN List.mem_cons_self) (hC i m' N' _ hJ W.drop) fun h' tk hk' => ?_
    exact wpAny_execs_nil (fin m' N' _ hJ (W.lose hk' tk))

/-- a test that says b and changes nothing told -/
noncomputable def TB (w : World) (A : Around) (s₀ : Shared) (L : Addr) (m : Loc) (N : List (Addr × Obj)) (env : Env) (test : Expr) (b : Bool) : Prop :=
  ∀ {s : Shared} {Q : Bool → Shared → Prop} {E : Value → Shared → Prop}, Wk w s₀ L m N s → (∀ s', Wk w s₀ L m N s' → Q b s') → wpAny (model pw w) A (isTrue test env (eval test env)) Q E s
theorem TB.orNil {env : Env} {pos : Pos} : TB w A s₀ L m N env (.BoolOp .Or [] pos) false := fun W h => isTrue_or_nil (h _ W)
theorem TB.or {env : Env} {x : Expr} {rest : List Expr} {pos : Pos} {a b : Bool} (hx : TB w A s₀ L m N env x a) (hr : TB w A s₀ L m N env (.BoolOp .Or rest pos) b) : TB w A s₀ L m N env (.BoolOp .Or (x :: rest) pos) (a || b) := fun W h => by
  refine isTrue_or (hx W fun s' W' => ?_)
  cases a with
  | true => exact h _ W'
  | false => exact hr W' h
theorem TB.andNil {env : Env} {pos : Pos} : TB w A s₀ L m N env (.BoolOp .And [] pos) true := fun W h => isTrue_and_nil (h _ W)
theorem TB.and {env : Env} {x : Expr} {rest : List Expr} {pos : Pos} {a b : Bool} (hx : TB w A s₀ L m N env x a) (hr : TB w A s₀ L m N env (.BoolOp .And rest pos) b) : TB w A s₀ L m N env (.BoolOp .And (x :: rest) pos) (a && b) := fun W h => by
  refine isTrue_and (hx W fun s' W' => ?_)
  cases a with
  | false => exact h _ W'
  | true => exact hr W' h
section
variable {x : Str} {a : Nat} {t : Tok} {c1 c2 : Int} {k1 k2 : Nat} {p1 p2 p3 p4 : Pos}
theorem TB.le_le (n1 n2 : Nat) (h1 : c1 = n1) (h2 : c2 = n2) (hx : Has x (.int a t) m) (hk : sc.kind = .function := by kernel_rfl) (hl : (envOf nm sc L f cd).kindOf x = some .local := by kernel_rfl)
    (hd : (x == ("__debug__" : Str)) = false := by decide) :
    TB w A s₀ L m N (envOf nm sc L f cd) (.Compare (.Constant (.int c1) k1 p1) [.LtE, .LtE] [.Name x p2, .Constant (.int c2) k2 p3] p4) (decide (n1 ≤ a) && decide (a ≤ n2)) := fun {s Q E} W h => by
  subst h1 h2
  refine isTrue_chain ?_
  refine e_int W fun _ _ W => ?_
  refine test_link ?_
  refine e_loc W hx ?_ hk hl hd
  refine le_int (wpAny_truthy_bool ?_)
  by_cases h1 : n1 ≤ a
  · rw [decide_eq_true (show (n1 : Int) ≤ (a : Int) by omega)]
    refine test_last ?_
    refine e_int W fun _ s' W => le_int (wpAny_truthy_bool ?_)
    have := h s' W
    rw [decide_eq_true h1, Bool.true_and] at this
    rw [show decide ((a : Int) ≤ (n2 : Int)) = decide (a ≤ n2) by rw [decide_eq_decide]; omega]
    exact this
  · rw [decide_eq_false (show ¬ (n1 : Int) ≤ (a : Int) by omega)]
    have := h _ W
    rw [decide_eq_false h1, Bool.false_and] at this
    exact this
theorem TB.le_lt (n1 n2 : Nat) (h1 : c1 = n1) (h2 : c2 = n2) (hx : Has x (.int a t) m) (hk : sc.kind = .function := by kernel_rfl) (hl : (envOf nm sc L f cd).kindOf x = some .local := by kernel_rfl)
    (hd : (x == ("__debug__" : Str)) = false := by decide) :
    TB w A s₀ L m N (envOf nm sc L f cd) (.Compare (.Constant (.int c1) k1 p1) [.LtE, .Lt] [.Name x p2, .Constant (.int c2) k2 p3] p4) (decide (n1 ≤ a) && decide (a < n2)) := fun {s Q E} W h => by
  subst h1 h2
  refine isTrue_chain ?_
  refine e_int W fun _ _ W => ?_
  refine test_link ?_
  refine e_loc W hx ?_ hk hl hd
  refine le_int (wpAny_truthy_bool ?_)
  by_cases h1 : n1 ≤ a
  · rw [decide_eq_true (show (n1 : Int) ≤ (a : Int) by omega)]
    refine test_last ?_
    refine e_int W fun _ s' W => lt_int (wpAny_truthy_bool ?_)
    have := h s' W
    rw [decide_eq_true h1, Bool.true_and] at this
    rw [show decide ((a : Int) < (n2 : Int)) = decide (a < n2) by rw [decide_eq_decide]; omega]
    exact this
  · rw [decide_eq_false (show ¬ (n1 : Int) ≤ (a : Int) by omega)]
    have := h _ W
    rw [decide_eq_false h1, Bool.false_and] at this
    exact this
theorem any_int (ns : List Nat) (a : Nat) : ((ns.map fun (n : Nat) => (n : Int)).any (· == (a : Int))) = decide (a ∈ ns) := by
  rw [any_nat, Bool.eq_iff_iff]; simp
theorem W_tuple {vs : List Value} {Q : Value → Shared → Prop} (W : Wk w s₀ L m N s)
    (h : ∀ a s', Wk w s₀ L m ((a, { cls := .type "tuple", data := .seq vs.toArray }) :: N) s' → IsTup s'.heap a vs.toArray → Q (.ref a) s') (hsz : vs.length ≤ sizeLine := by size_fits) :
    wpAny (model pw w) A (newTuple vs) Q E s := by
  refine wpAny_newObj_type ?_ (by show vs.toArray.size ≤ sizeLine; rw [List.size_toArray]; exact hsz)
  have W' := W.new (push_keeps { cls := .type "tuple", data := .seq vs.toArray }) (size_free _) (Heap.get?_push_size _ rfl) s.toks
  exact h _ _ W' ⟨_, (W'.N _ List.mem_cons_self).1, rfl, _, rfl⟩
theorem TB.inTup {es : List Expr} {kk : Nat} (ns : List Nat) (hE : IntsE es (ns.map fun (n : Nat) => (n : Int))) (hsz : ns.length ≤ 1000) (hx : Has x (.int a t) m) (hk : sc.kind = .function := by kernel_rfl) (hl : (envOf nm sc L f cd).kindOf x = some .local := by kernel_rfl)
    (hd : (x == ("__debug__" : Str)) = false := by decide) (hm : behindInMarks .In (.Tuple es kk p2) = false := by with_unfolding_all rfl) :
    TB w A s₀ L m N (envOf nm sc L f cd) (.Compare (.Name x p1) [.In] [.Tuple es kk p2] p3) (decide (a ∈ ns)) := fun {s Q E} W h => by
  refine wpAny_isTrue_Compare1 ?_ hm
  refine e_loc W hx ?_ hk hl hd
  refine Tuple_ ?_
  refine args_ints hE W fun vs _ W hi => ?_
  have hlen := hi.length
  rw [List.length_map] at hlen
  refine W_tuple (hsz := fits_small (by omega)) W fun b s' W htup => ?_
  refine in_tuple_ints htup (by simpa using hi) (wpAny_truthy_bool ?_)
  rw [any_int]
  exact h _ W.drop
end
theorem x_ifb {test : Expr} {body orelse rest : List Stmt} {p : Pos} {env : Env} {Q : Flow → Shared → Prop} {b : Bool} (hb : TB w A s₀ L m N env test b) (W : Wk w s₀ L m N s)
    (ht : b = true → ∀ s', Wk w s₀ L m N s' → wpAny (model pw w) A (execs body env) (fun fl s' => match fl with | .next => wpAny (model pw w) A (execs rest env) Q E s' | fl => Q fl s') E s')
    (hf : b = false → ∀ s', Wk w s₀ L m N s' → wpAny (model pw w) A (execs orelse env) (fun fl s' => match fl with | .next => wpAny (model pw w) A (execs rest env) Q E s' | fl => Q fl s') E s') :
    wpAny (model pw w) A (execs (.If test body orelse p :: rest) env) Q E s :=
  x_if (hb W fun s' W' => by
    cases b with
    | true => exact ht rfl s' W'
    | false => exact hf rfl s' W')
theorem x_cont {rest : List Stmt} {p : Pos} {env : Env} {Q : Flow → Shared → Prop} (h : Q .cont s) : wpAny (model pw w) A (execs (.Continue p :: rest) env) Q E s := wpAny_execs_cons (wpAny_Continue h)

/-- a display of texts by texts -/
noncomputable def dD (ps : List (List Nat × List Nat)) : List (PyData × PyData) := ps.map fun p => (.str (tx p.1), .str (tx p.2))
theorem dD_lookup (ps : List (List Nat × List Nat)) (k : List Nat) : Spec.lookup (.str (tx k)) (dD ps) = ((ps.find? fun p => p.1 == k).map (·.2)).map fun l => PyData.str (tx l) := by
  induction ps with
  | nil => rfl
  | cons p r ih =>
    show (if Spec.same (.str (tx p.1)) (.str (tx k)) then some (PyData.str (tx p.2)) else Spec.lookup (.str (tx k)) (dD r)) = _
    rw [ih, same_str, List.find?_cons]
    by_cases h : p.1 = k
    · rw [if_pos (by simp [h])]; simp [h]
    · rw [if_neg (by simp [h])]
      have : (p.1 == k) = false := by simpa using h
      simp [this]
theorem W_dict {keys : List (Option Expr)} {values : List Expr} {pos : Pos} {env : Env} {Q : Value → Shared → Prop} (ps : List (List Nat × List Nat)) (W : Wk w s₀ L m N s) (hD : litPairs keys values = some (dD ps))
    (h : ∀ a o s', Wk w s₀ L m ((a, o) :: N) s' → TabObj (strKind pw w) PyData.str (dD ps) o → (a == sysModules) = false → Q (.ref a) s')
    (hn : (ps.map (·.1)).Nodup := by decide +kernel) (hall : keys.all (·.isSome) = true := by kernel_rfl) (hl : keys.length = values.length := by kernel_rfl) (h0 : keys ≠ [] := by nofun) (hlen : keys.length ≤ 15 := by decide +kernel) :
    wpAny (model pw w) A (eval (.Dict keys values pos) env) Q E s := by
  have hsk : strKeyed (dD ps) = true ∧ strKeysOf (dD ps) = (ps.map (·.1)).map tx := by
    clear hD h hn
    induction ps with
    | nil => exact ⟨rfl, rfl⟩
    | cons p r ih => exact ⟨ih.1, congrArg (tx p.1 :: ·) ih.2⟩
  refine Dict_lits_str hD hsk.1 ?_ hall hl h0 hlen fun a o h₁ tk ha ho hT hk => ?_
  · rw [hsk.2]
    refine List.Pairwise.map tx (fun a b hab e => hab ?_) hn
    injection e with e1; simpa using e1
  · have hf : s.heap.get? a = none := Heap.get?_none_of_le ha
    refine h a o _ (W.new hk hf ho tk) hT ?_
    cases hs : (a == sysModules) with
    | false => rfl
    | true =>
      have e : a = sysModules := by simpa using hs
      subst e
      have h1 := W.S sysModules _ (h1_1 w.params)
      rw [h1] at hf; cases hf
theorem tab_at {a : Addr} {o : Obj} {D : List (PyData × PyData)} (W : Wk w s₀ L m N s) (ha : (a, o) ∈ N) (hT : TabObj (strKind pw w) PyData.str D o) (hs : (a == sysModules) = false) : StrTab pw w s.heap a D := by
  obtain ⟨kvs, hd, hf⟩ := hT
  exact TabAt.ofObj hs (W.lookN ha) hd hf

end
end Mine

end
section
open PySem PySem.W PyProof.Rows PySem.Calls PyProof.V
set_option Elab.async false
set_option maxRecDepth 100000
namespace Mine
noncomputable section
variable {w : World} {A : Around} {E : Value → Shared → Prop} {s₀ s : Shared} {L : Addr} {m m' : Loc} {N : List (Addr × Obj)} {nm : Str} {sc : Scope} {f : Addr} {cd : Value}

theorem x_augL {x : Str} {p' p : Pos} {op : Operator} {e : Expr} {old : Value} {rest : List Stmt} {Q : Flow → Shared → Prop} (W : Wk w s₀ L m N s) (hx : Has x old m)
    (h : wpAny (model pw w) A (eval e (envOf nm sc L f cd)) (fun v s₂ => wpAny (model pw w) A (inplaceOp op old v)
      (fun r s₃ => wpAny (model pw w) A (storeName (envOf nm sc L f cd) x r) (fun _ s₄ => wpAny (model pw w) A (execs rest (envOf nm sc L f cd)) Q E s₄) E s₃) E s₂) E s)
    (hk : sc.kind = .function := by kernel_rfl) (hl : (envOf nm sc L f cd).kindOf x = some .local := by kernel_rfl) :
    wpAny (model pw w) A (execs (.AugAssign (.Name x p') op e p :: rest) (envOf nm sc L f cd)) Q E s := x_aug (ldn W.F (W.lk hx) h hk hl)
theorem e_iadd {a b : List Nat} {t u : Tok} {Q : Value → Shared → Prop} (W : Wk w s₀ L m N s) (hl : a.length + b.length ≤ 16777216) (h : ∀ t' s', Wk w s₀ L m N s' → Q (.str (tx (a ++ b)) t') s') :
    wpAny (model pw w) A (inplaceOp .Add (.str (tx a) t) (.str (tx b) u)) Q E s :=
  SB.iadd (fun t' k => by rw [tx_append]; exact h t' _ (W.toks k)) (fits_small (by simpa [Str.length] using hl))
theorem e_ord {c : Nat} {t : Tok} {Q : Value → Shared → Prop} (W : Wk w s₀ L m N s) (h : ∀ t' s', Wk w s₀ L m N s' → Q (.int (c : Int) t') s') :
    wpAny (model pw w) A (call (.builtin "ord") [.str (tx [c]) t]) Q E s := ord_of_one rfl (h _ _ (W.toks _))
theorem e_sub {a b : Nat} {t u : Tok} {Q : Value → Shared → Prop} (W : Wk w s₀ L m N s) (hb : b ≤ a) (h : ∀ t' s', Wk w s₀ L m N s' → Q (.int ((a - b : Nat) : Int) t') s') :
    wpAny (model pw w) A (binaryOp .Sub (.int a t) (.int b u)) Q E s := PyProof.Rows.sub_int (by rw [show (a : Int) - (b : Int) = ((a - b : Nat) : Int) by omega]; exact h _ _ (W.toks _))
theorem e_get2 {o e e2 : Expr} {apos pos : Pos} {env : Env} {Q : Value → Shared → Prop} {ps : List (List Nat × List Nat)}
    (h : wpAny (model pw w) A (eval o env) (fun ov s₁ => ∃ d, ov = .ref d ∧ StrTab pw w s₁.heap d (dD ps) ∧ wpAny (model pw w) A (eval e env) (fun k s₂ => ∃ c t, k = .str (tx c) t ∧ wpAny (model pw w) A (eval e2 env) (fun k2 s₃ => ∃ c2 t2, k2 = .str (tx c2) t2 ∧
      StrTab pw w s₃.heap d (dD ps) ∧ ∀ t' k, Q (.str (tx (((ps.find? fun p => p.1 == c).map (·.2)).getD c2)) t') { s₃ with toks := k }) E s₂) E s₁) E s)
    (hbase : attributeBase o "get" env (eval o env) = eval o env := by rfl) (hs : starEach [e, e2] env = [(false, eval e env), (false, eval e2 env)] := by rfl) (hline : (apos.endLine == pos.line) = true := by rfl) :
    wpAny (model pw w) A (eval (.Call (.Attribute o "get" apos) [e, e2] [] pos) env) Q E s := by
  refine Call_method2 hbase hs hline (wpAny_mono h ?_ fun _ _ x => x)
  rintro ov s₁ ⟨d, rfl, T, h1⟩
  obtain ⟨lo, kvs, hd, hf⟩ := T
  refine m_of2 PySem.F.plainAttrs_dict PySem.F.slot_dict_get PySem.F.type_dict_get hd.typeIs (fun a e => ?_) (wpAny_mono h1 ?_ fun _ _ x => x)
  · obtain ⟨o', es, ep, ho, hex, _⟩ := hd
    cases e
    exact ⟨o', ho, hex.2.1⟩
  · rintro k s₂ ⟨c, t, rfl, h2⟩
    refine wpAny_mono h2 ?_ fun _ _ x => x
    rintro k2 s₃ ⟨c2, t2, rfl, T3, h3⟩
    refine call_get2_strTab T3 (Flat.str _ t2) fun v hv => ?_
    rw [dD_lookup] at hv
    cases hf : (ps.find? fun p => p.1 == c).map (·.2) with
    | none =>
      rw [hf] at hv h3
      obtain ⟨t', rfl⟩ := Flat.str_inv hv
      exact h3 t' _
    | some y =>
      rw [hf] at hv h3
      obtain ⟨t', rfl⟩ := Flat.str_inv hv
      exact h3 t' _

/-! ### _law_prepared -/
noncomputable def wordsL : List (Nat × List Nat) := [(223, [115, 115]), (64256, [102, 102]), (64257, [102, 105]), (64258, [102, 108]), (64259, [102, 102, 105]), (64260, [102, 102, 108]), (64262, [115, 116]), (8481, [116, 101, 108]), (13255, [99, 111, 46]), (13259, [104, 112]), (7838, [223]), (1017, [1010]), (1010, [963])]
noncomputable def prep1 (c : Nat) : List Nat :=
  if c ∈ [173, 847, 6150, 8288, 65279] ∨ (6155 ≤ c ∧ c ≤ 6157) ∨ (8203 ≤ c ∧ c ≤ 8205) ∨ (65024 ≤ c ∧ c ≤ 65039) then []
  else if 65 ≤ c ∧ c ≤ 90 then [c + 32]
  else if 119808 ≤ c ∧ c < 120484 then [97 + (c - 119808) % 26]
  else ((wordsL.find? fun p => p.1 == c).map (·.2)).getD [c]
noncomputable def prepL (l : List Nat) : List Nat := l.flatMap prep1
noncomputable def wordsT : List (List Nat × List Nat) := wordsL.map fun p => ([p.1], p.2)
theorem wordsT_find (c : Nat) : (wordsT.find? fun p => p.1 == [c]).map (·.2) = (wordsL.find? fun p => p.1 == c).map (·.2) := by
  unfold wordsT
  rw [List.find?_map, Option.map_map]
  have : ((fun p : List Nat × List Nat => p.1 == [c]) ∘ fun p : Nat × List Nat => ([p.1], p.2)) = fun p => p.1 == c := by
    funext p
    show ([p.1] == [c]) = (p.1 == c)
    rw [Bool.eq_iff_iff]; simp
  rw [this]; rfl
theorem prep1_len (c : Nat) : (prep1 c).length ≤ 3 := by
  unfold prep1
  split
  · simp
  · split
    · simp
    · split
      · simp
      · cases h : wordsL.find? fun p => p.1 == c with
        | none => simp
        | some p =>
          have h1 : ∀ p ∈ wordsL, p.2.length ≤ 3 := by decide
          exact h1 p (List.mem_of_find?_eq_some h)
set_option maxHeartbeats 4000000 in
theorem prepared_call {R : Result → Shared → Prop} {l : List Nat} {t : Tok} (S : Stands w s.heap) (hroom : A.depth < recursionLimit) (hh : A.handled = none) (hl : l.length ≤ 100000)
    (h : ∀ t' s', Grown s s' → R (.ok (.ret (.str (tx (prepL l)) t'))) s') :
    codeAny (model pw w) A (.call (.ref 162) ⟨[.str (tx l) t], []⟩) R s := by
  refine call_me [("text", .str (tx l) t)] [("text", some (.str (tx l) t)), ("words", none), ("said", none), ("sign", none), ("code", none)] ["words", "said", "sign", "code"] fn162 S hroom (fun cd s' W => ?_)
  conv in fnB 19 => whnf
  refine x_assign ?_
  with_reducible refine W_dict wordsT W ?_ ?_ ?_ ?_ ?_ ?_ ?_
  · kernel_rfl
  rotate_left
  · decide +kernel
  · kernel_rfl
  · kernel_rfl
  · nofun
  · decide +kernel
  intro a o _ W hT hs
  refine store W (.tail .head) fun _ W => ?_
  refine x_assign ?_
  refine e_tx [] rfl W fun _ _ W => ?_
  refine store W (.tail (.tail .head)) fun _ W => ?_
  have hlen : ∀ i, (prepL (l.take i)).length ≤ 3 * l.length := by
    intro i
    have h1 : ∀ l : List Nat, (prepL l).length ≤ 3 * l.length := by
      intro l
      induction l with
      | nil => simp [prepL]
      | cons a r ih =>
        show (prep1 a ++ prepL r).length ≤ _
        have := prep1_len a
        rw [List.length_append, List.length_cons]; omega
    have h2 := h1 (l.take i)
    have h3 : (l.take i).length ≤ l.length := by rw [List.length_take]; omega
    omega
  have hstep : ∀ i, i < l.length → prepL (l.take (i + 1)) = prepL (l.take i) ++ prep1 (l.getD i 0) := by
    intro i hi
    rw [List.take_add_one, show l[i]? = some (l.getD i 0) by simp [hi]]
    unfold prepL
    rw [List.flatMap_append]; simp
  refine x_for W (It.str (A := A.deeper (envOf "_law_prepared" (fnS 19) s.heap.objs.size 162 cd)) hh l t)
    (fun i m' N' => N' = [(a, o)] ∧ ∃ t' o1 o2, m' = ([("text", some (.str (tx l) t)), ("words", some (.ref a)), ("said", some (.str (tx (prepL (l.take i))) t')), ("sign", o1), ("code", o2)] : Loc))
    (fun _ _ _ _ _ _ => trivial) ?_ ?_ ?_
  · refine e_loc W .head ?_
    refine iter_str W fun I it s' h0 W => ?_
    exact ⟨I, it, _, _, rfl, h0, W, rfl, _, _, _, rfl⟩
  · rintro i m' N' I it v s₁ hi ⟨rfl, t', o1, o2, rfl⟩ ⟨tv, rfl⟩ W
    refine store W (.tail (.tail (.tail .head))) fun _ W => ?_
    refine x_assign ?_
    refine e_callB W.S gl_ord ?_
    refine args_c ?_
    refine e_loc W (.tail (.tail (.tail .head))) ?_
    refine args_nil ?_
    refine e_ord W fun _ _ W => ?_
    refine store W (.tail (.tail (.tail (.tail .head)))) fun _ W => ?_
    have hs1 := hstep i hi
    generalize hc : l.getD i 0 = c at hs1
    have fin : ∀ {d : List Nat} {s3 : Shared} {t3 : Tok} {o3 o4 : Option Value}, prep1 c = d →
        Wk w s s.heap.objs.size [("text", some (.str (tx l) t)), ("words", some (.ref a)), ("said", some (.str (tx (prepL (l.take i) ++ d)) t3)), ("sign", o3), ("code", o4)] [(I, it), (a, o)] s3 →
        ∃ m3' N3, Wk w s s.heap.objs.size m3' ((I, it) :: N3) s3 ∧ N3 = [(a, o)] ∧ ∃ t' o1 o2, m3' = ([("text", some (.str (tx l) t)), ("words", some (.ref a)), ("said", some (.str (tx (prepL (l.take (i + 1)))) t')), ("sign", o1), ("code", o2)] : Loc) := by
      intro d s3 t3 o3 o4 hd W3
      refine ⟨_, _, W3, rfl, t3, o3, o4, ?_⟩
      rw [hs1, hd]
    have hle := hlen i
    refine x_ifb (TB.or (TB.inTup [173, 847, 6150, 8288, 65279] (.cons (.cons (.cons (.cons (.cons .nil))))) (by decide) (.tail (.tail (.tail (.tail .head))))) (TB.or (TB.le_le 6155 6157 rfl rfl (.tail (.tail (.tail (.tail .head))))) (TB.or (TB.le_le 8203 8205 rfl rfl (.tail (.tail (.tail (.tail .head)))))
      (TB.or (TB.le_le 65024 65039 rfl rfl (.tail (.tail (.tail (.tail .head))))) TB.orNil)))) W (fun hb _ W => ?_) (fun hb _ W => ?_)
    · refine x_cont ?_
      rw [hc] at hb
      refine fin (d := []) ?_ (by rw [List.append_nil]; exact W)
      unfold prep1
      rw [if_pos]
      simpa using hb
    refine wpAny_execs_nil ?_
    rw [hc] at hb W
    have hb' : ¬ (c ∈ [173, 847, 6150, 8288, 65279] ∨ (6155 ≤ c ∧ c ≤ 6157) ∨ (8203 ≤ c ∧ c ≤ 8205) ∨ (65024 ≤ c ∧ c ≤ 65039)) := by
      intro h'
      have : (decide (c ∈ [173, 847, 6150, 8288, 65279]) || (decide (6155 ≤ c) && decide (c ≤ 6157) || (decide (8203 ≤ c) && decide (c ≤ 8205) || (decide (65024 ≤ c) && decide (c ≤ 65039) || false)))) = true := by simpa using h'
      rw [this] at hb; cases hb
    refine x_ifb (TB.le_le 65 90 rfl rfl (.tail (.tail (.tail (.tail .head))))) W (fun hb2 _ W => ?_) (fun hb2 _ W => ?_)
    · have h2 : 65 ≤ c ∧ c ≤ 90 := by simpa using hb2
      refine x_augL W (.tail (.tail .head)) ?_
      refine e_callB W.S gl_chr ?_
      refine args_c ?_
      refine wpAny_BinOp ?_
      refine e_loc W (.tail (.tail (.tail (.tail .head)))) ?_
      refine e_nat 32 rfl W fun _ _ W => ?_
      refine e_add W fun _ _ W => ?_
      refine args_nil ?_
      refine e_chr W (by omega) fun _ _ W => ?_
      refine e_iadd W (by simp only [List.length_cons, List.length_nil]; omega) fun _ _ W => ?_
      refine store W (.tail (.tail .head)) fun _ W => ?_
      refine wpAny_execs_nil (wpAny_execs_nil (fin ?_ W))
      unfold prep1
      rw [if_neg hb', if_pos h2]
    · have h2 : ¬ (65 ≤ c ∧ c ≤ 90) := by
        intro h'
        have : (decide (65 ≤ c) && decide (c ≤ 90)) = true := by simpa using h'
        rw [this] at hb2; cases hb2
      refine x_ifb (TB.le_lt 119808 120484 rfl rfl (.tail (.tail (.tail (.tail .head))))) W (fun hb3 _ W => ?_) (fun hb3 _ W => ?_)
      · have h3 : 119808 ≤ c ∧ c < 120484 := by simpa using hb3
        refine x_augL W (.tail (.tail .head)) ?_
        refine e_callB W.S gl_chr ?_
        refine args_c ?_
        refine wpAny_BinOp ?_
        refine e_nat 97 rfl W fun _ _ W => ?_
        refine wpAny_BinOp ?_
        refine wpAny_BinOp ?_
        refine e_loc W (.tail (.tail (.tail (.tail .head)))) ?_
        refine e_nat 119808 rfl W fun _ _ W => ?_
        refine e_sub W h3.1 fun _ _ W => ?_
        refine e_nat 26 rfl W fun _ _ W => ?_
        refine e_mod W (by decide) fun _ _ W => ?_
        refine e_add W fun _ _ W => ?_
        refine args_nil ?_
        have hm : (c - 119808) % 26 < 26 := Nat.mod_lt _ (by decide)
        refine e_chr W (by omega) fun _ _ W => ?_
        refine e_iadd W (by simp only [List.length_cons, List.length_nil]; omega) fun _ _ W => ?_
        refine store W (.tail (.tail .head)) fun _ W => ?_
        refine wpAny_execs_nil (wpAny_execs_nil (wpAny_execs_nil (fin ?_ W)))
        unfold prep1
        rw [if_neg hb', if_neg h2, if_pos h3]
      · have h3 : ¬ (119808 ≤ c ∧ c < 120484) := by
          intro h'
          have : (decide (119808 ≤ c) && decide (c < 120484)) = true := by simpa using h'
          rw [this] at hb3; cases hb3
        refine x_augL W (.tail (.tail .head)) ?_
        refine e_get2 (ps := wordsT) ?_
        refine e_loc W (.tail .head) ?_
        refine ⟨a, rfl, tab_at W (.tail _ (.head _)) hT hs, ?_⟩
        refine e_loc W (.tail (.tail (.tail .head))) ?_
        refine ⟨[c], _, rfl, ?_⟩
        refine e_loc W (.tail (.tail (.tail .head))) ?_
        refine ⟨[c], _, rfl, tab_at W (.tail _ (.head _)) hT hs, fun t4 k4 => ?_⟩
        have W := W.toks k4
        have hp : prep1 c = ((wordsT.find? fun p => p.1 == [c]).map (·.2)).getD [c] := by
          unfold prep1
          rw [if_neg hb', if_neg h2, if_neg h3, wordsT_find]
        have hl3 := prep1_len c
        rw [hp] at hl3
        refine e_iadd W (by omega) fun _ _ W => ?_
        refine store W (.tail (.tail .head)) fun _ W => ?_
        exact wpAny_execs_nil (wpAny_execs_nil (wpAny_execs_nil (fin hp W)))
  · rintro m' N' s₁ ⟨rfl, t', o1, o2, rfl⟩ W
    refine x_ret ?_
    refine e_loc W (.tail (.tail .head)) ?_
    rw [List.take_length]
    exact h _ _ W.grown
end
end Mine

end
section
open PySem PySem.W PyProof.Rows PySem.Calls PyProof.V
set_option Elab.async false
set_option maxRecDepth 100000
namespace Mine
noncomputable section
variable {w : World} {A : Around} {E : Value → Shared → Prop} {s₀ s : Shared} {L : Addr} {m m' : Loc} {N : List (Addr × Obj)} {nm : Str} {sc : Scope} {f : Addr} {cd : Value}

/-- a list object of ours with the values vs -/
noncomputable def IsLo (o : Obj) (vs : List Value) : Prop := ∃ n, o = { cls := .type "list", data := .seq vs.toArray n }
theorem IsLo.new (vs : List Value) (n : Nat) : IsLo { cls := .type "list", data := .seq vs.toArray n } vs := ⟨n, rfl⟩
theorem Wk.bare (W : Wk w s₀ L m N s) {a : Addr} {o : Obj} {vs : List Value} (h : (a, o) ∈ N) (ho : IsLo o vs) : s.heap.PlainList a vs.toArray := by
  obtain ⟨n, rfl⟩ := ho; exact ⟨n, W.lookN h⟩
theorem Wk.plain (W : Wk w s₀ L m N s) {a : Addr} {o : Obj} {vs : List Value} (h : (a, o) ∈ N) (ho : IsLo o vs) : PlainL s.heap a vs.toArray := by
  obtain ⟨n, rfl⟩ := ho; exact ⟨_, n, W.lookN h, rfl, rfl, rfl⟩
theorem Wk.lo (W : Wk w s₀ L m N s) {a : Addr} {o : Obj} {vs : List Value} (h : (a, o) ∈ N) (ho : IsLo o vs) : s.heap.IsList a vs.toArray := (W.bare h ho).isList
theorem W_append {D : Addr} {o : Obj} {vs : List Value} {x : Value} {Q : Value → Shared → Prop} (W : Wk w s₀ L m ((D, o) :: N) s) (ho : IsLo o vs) (hsz : vs.length ≤ 1000000)
    (h : ∀ o' s', IsLo o' (vs ++ [x]) → Wk w s₀ L m ((D, o') :: N) s' → Q .none s') : wpAny (model pw w) A (call (.builtin "list.append") [.ref D, x]) Q E s := by
  refine wpAny_list_append_plain (W.bare List.mem_cons_self ho) (fun h' hl hs => ?_) (by rw [List.size_toArray]; exact fits_small (by omega))
  obtain ⟨n, ho'⟩ := hl
  exact h _ _ ⟨n, by simp⟩ (W.mut (fun b ob hb e => by rw [hs.2 b hb]; exact e) ho' s.toks)
theorem W_getneg {D : Addr} {o : Obj} {a b : List Value} {v : Value} {k : Int} {t : Tok} {Q : Value → Shared → Prop} (W : Wk w s₀ L m ((D, o) :: N) s) (ho : IsLo o (a ++ v :: b)) (hk : k = -((b.length : Int) + 1)) (hsz : (a ++ v :: b).length ≤ 1000000) (h : Q v s) :
    wpAny (model pw w) A (getItem (.ref D) (.int k t)) Q E s := by
  have hlen : (a ++ v :: b).toArray.size = a.length + b.length + 1 := by simp; omega
  rw [List.length_append, List.length_cons] at hsz
  refine wpAny_getItem_list_neg (W.lo List.mem_cons_self ho) (by omega) (by rw [hlen]; omega) (by omega) ?_ h
  rw [hlen, show (k + ((a.length + b.length + 1 : Nat) : Int)).toNat = a.length by omega]
  simp
theorem W_setneg {D : Addr} {o : Obj} {a b : List Value} {v v' : Value} {k : Int} {t : Tok} {Q : Unit → Shared → Prop} (W : Wk w s₀ L m ((D, o) :: N) s) (ho : IsLo o (a ++ v :: b)) (hk : k = -((b.length : Int) + 1)) (hsz : (a ++ v :: b).length ≤ 1000000)
    (h : ∀ o' s', IsLo o' (a ++ v' :: b) → Wk w s₀ L m ((D, o') :: N) s' → Q () s') :
    wpAny (model pw w) A (setItem (.ref D) (.int k t) v') Q E s := by
  have hlen : (a ++ v :: b).toArray.size = a.length + b.length + 1 := by simp; omega
  rw [List.length_append, List.length_cons] at hsz
  obtain ⟨n, rfl⟩ := ho
  have hget : s.heap.get? D = some { cls := .type "list", data := .seq (a ++ v :: b).toArray n } := W.lookN List.mem_cons_self
  have hx : (a ++ v :: b).toArray.setIfInBounds (k + (a ++ v :: b).toArray.size).toNat v' = (a ++ v' :: b).toArray := by
    rw [hlen, show (k + ((a.length + b.length + 1 : Nat) : Int)).toNat = a.length by omega]; simp
  have hw := W.mut (fun q oq hq e => (Heap.get?_update_other _ _ (Ne.symm hq)).trans e) (PySem.IsL.update hget (·.setIfInBounds (k + (a ++ v :: b).toArray.size).toNat v')) s.toks
  refine ki_setBack hget (by omega) (by rw [hlen]; omega) (by omega) (h _ _ ?_ hw)
  rw [hx]
  exact ⟨_, rfl⟩
theorem e_negc {i : Int} (n : Nat) (hi : i = (n : Int)) {k : Nat} {p1 p2 : Pos} {env : Env} {Q : Value → Shared → Prop} (W : Wk w s₀ L m N s) (h : ∀ t s', Wk w s₀ L m N s' → Q (.int (-(n : Int)) t) s') :
    wpAny (model pw w) A (eval (.UnaryOp .USub (.Constant (.int i) k p1) p2) env) Q E s := by
  subst hi
  exact UnaryOp_ (e_int W fun _ _ W => PyProof.Rows.neg_int (h _ _ (W.toks _)))
theorem TB.eqTx {x : Str} {a c : List Nat} {cS : Str} {t : Tok} {k : Nat} {p1 p2 p3 : Pos} (hc : cS = tx c) (hx : Has x (.str (tx a) t) m) (hk : sc.kind = .function := by kernel_rfl) (hl : (envOf nm sc L f cd).kindOf x = some .local := by kernel_rfl)
    (hd : (x == ("__debug__" : Str)) = false := by decide) :
    TB w A s₀ L m N (envOf nm sc L f cd) (.Compare (.Name x p1) [.Eq] [.Constant (.str cS) k p2] p3) (decide (a = c)) := fun {s Q E} W h => by
  subst hc
  refine wpAny_isTrue_Compare1 ?_
  refine e_loc W hx ?_ hk hl hd
  refine e_str W fun _ _ W => ?_
  refine PyProof.Rows.eq_str (wpAny_truthy_bool ?_)
  have : (tx a == tx c) = decide (a = c) := by
    by_cases h : a = c
    · subst h; simp
    · rw [tx_ne h]; simp [h]
  rw [this]
  exact h _ W
theorem TB.modEq {x : Str} {a b c : Nat} {bi ci : Int} {t : Tok} {k1 k2 : Nat} {p1 p2 p3 p4 p5 : Pos} (hbi : bi = (b : Int)) (hci : ci = (c : Int)) (hb : 0 < b) (hx : Has x (.int a t) m) (hk : sc.kind = .function := by kernel_rfl) (hl : (envOf nm sc L f cd).kindOf x = some .local := by kernel_rfl)
    (hd : (x == ("__debug__" : Str)) = false := by decide) :
    TB w A s₀ L m N (envOf nm sc L f cd) (.Compare (.BinOp (.Name x p1) .Mod (.Constant (.int bi) k1 p2) p3) [.Eq] [.Constant (.int ci) k2 p4] p5) (decide (a % b = c)) := fun {s Q E} W h => by
  subst hbi hci
  refine wpAny_isTrue_Compare1 ?_
  refine wpAny_BinOp ?_
  refine e_loc W hx ?_ hk hl hd
  refine e_int W fun _ _ W => ?_
  refine e_mod W hb fun _ _ W => ?_
  refine e_int W fun _ _ W => ?_
  refine PyProof.Rows.eq_int (wpAny_truthy_bool ?_)
  have : (((a % b : Nat) : Int) == (c : Int)) = decide (a % b = c) := by rw [Bool.eq_iff_iff]; simp; omega
  rw [this]
  exact h _ W
/-- the run of backslashes: `run + 1 if sign == '\\' else 0` -/
theorem e_run {x y : Str} {a : List Nat} {r : Nat} {cS : Str} {t u : Tok} {k1 k2 k3 : Nat} {i1 i0 : Int} {p1 p2 p3 p4 p5 p6 p7 p8 : Pos} {Q : Value → Shared → Prop} (hc : cS = tx [92]) (h1 : i1 = ((1 : Nat) : Int)) (h0 : i0 = ((0 : Nat) : Int)) (W : Wk w s₀ L m N s) (hx : Has x (.str (tx a) t) m) (hy : Has y (.int r u) m)
    (h : ∀ t' s', Wk w s₀ L m N s' → Q (.int ((if a = [92] then r + 1 else 0 : Nat) : Int) t') s')
    (hk : sc.kind = .function := by kernel_rfl) (hl : (envOf nm sc L f cd).kindOf x = some .local := by kernel_rfl) (hd : (x == ("__debug__" : Str)) = false := by decide)
    (hl2 : (envOf nm sc L f cd).kindOf y = some .local := by kernel_rfl) (hd2 : (y == ("__debug__" : Str)) = false := by decide) :
    wpAny (model pw w) A (eval (.IfExp (.Compare (.Name x p1) [.Eq] [.Constant (.str cS) k1 p2] p3) (.BinOp (.Name y p4) .Add (.Constant (.int i1) k2 p5) p6) (.Constant (.int i0) k3 p7) p8) (envOf nm sc L f cd)) Q E s := by
  subst h1 h0
  refine IfExp_ (TB.eqTx hc hx hk hl hd W fun s' W => ?_)
  by_cases ha : a = [92]
  · rw [if_pos (by simpa using ha)]
    refine wpAny_BinOp ?_
    refine e_loc W hy ?_ hk hl2 hd2
    refine e_int W fun _ _ W => ?_
    refine e_add W fun t' s' W => ?_
    have := h t' s' W
    rw [if_pos ha] at this
    exact this
  · rw [if_neg (by simpa using ha)]
    refine e_int W fun t' s' W => ?_
    have := h t' s' W
    rw [if_neg ha] at this
    exact this
/-- `NAME.append(e)` as a statement -/
theorem x_append {x : Str} {e : Expr} {D : Addr} {p1 apos pos p : Pos} {rest : List Stmt} {Q : Flow → Shared → Prop} (W : Wk w s₀ L m N s) (hx : Has x (.ref D) m)
    (h : wpAny (model pw w) A (eval e (envOf nm sc L f cd)) (fun v s₁ => wpAny (model pw w) A (call (.builtin "list.append") [.ref D, v]) (fun r s₂ => r = .none ∧ wpAny (model pw w) A (execs rest (envOf nm sc L f cd)) Q E s₂) E s₁) E s)
    (hlist : ∃ vs, PlainL s.heap D vs)
    (hk : sc.kind = .function := by kernel_rfl) (hl : (envOf nm sc L f cd).kindOf x = some .local := by kernel_rfl) (hd : (x == ("__debug__" : Str)) = false := by decide)
    (hes : isStar e = false := by rfl) (hline : (apos.endLine == pos.line) = true := by rfl) :
    wpAny (model pw w) A (execs (.Expr (.Call (.Attribute (.Name x p1) "append" apos) [e] [] pos) p :: rest) (envOf nm sc L f cd)) Q E s := by
  obtain ⟨vs, hpl⟩ := hlist
  refine wpAny_execs_cons (wpAny_Expr (hi := by unfold interactive; rw [show (envOf nm sc L f cd).scope.kind = .function from hk]; rfl) (wpAny_Call_append rfl (by rw [star_no hes]; rfl) hline (by rw [star_no hes]; rfl) (e_loc W hx ⟨D, vs, rfl, hpl, wpAny_mono h (fun v s₁ h₁ => wpAny_mono h₁ ?_ fun _ _ x => x) fun _ _ x => x⟩ hk hl hd)))
  rintro r s₂ ⟨rfl, h₂⟩
  exact h₂
end
end Mine

end
section
open PySem PySem.W PyProof.Rows PySem.Calls PyProof.V
set_option Elab.async false
set_option maxRecDepth 100000
namespace Mine
noncomputable section
variable {w : World} {A : Around} {E : Value → Shared → Prop} {s₀ s : Shared} {L : Addr} {m m' : Loc} {N : List (Addr × Obj)} {nm : Str} {sc : Scope} {f : Addr} {cd : Value}

noncomputable def evens {α : Type} : List α → List α
  | [] => []
  | [a] => [a]
  | a :: _ :: r => a :: evens r
theorem evens_map {α β : Type} (g : α → β) : ∀ l : List α, evens (l.map g) = (evens l).map g
  | [] => rfl
  | [_] => rfl
  | a :: b :: r => congrArg (g a :: ·) (evens_map g r)
theorem pick_evens {α : Type} : ∀ (xs : List α) (k : Nat), xs.length ≤ 2 * k → (List.range k).filterMap (fun j => xs[2 * j]?) = evens xs
  | [], k, _ => by simp [evens]
  | [a], 0, h => by simp at h
  | [a], k + 1, _ => by
    rw [List.range_succ_eq_map, List.filterMap_cons]
    simp [evens, List.filterMap_map]
  | a :: b :: r, 0, h => by simp at h
  | a :: b :: r, k + 1, h => by
    rw [List.range_succ_eq_map, List.filterMap_cons]
    have ih := pick_evens r k (by simp only [List.length_cons] at h; omega)
    simp only [Nat.mul_zero, List.getElem?_cons_zero, evens, List.filterMap_map]
    rw [← ih]
    congr 1
theorem slicePick_even (vs : List Value) (s : Nat) : slicePick vs.toArray (some (s : Int)) none (some 2) = (evens (vs.drop s)).toArray := by
  unfold slicePick
  congr 1
  have hb : sliceBounds (some (s : Int)) none (some 2) vs.toArray.size = (((min s vs.length : Nat) : Int), (vs.length : Int), 2) := by
    unfold sliceBounds
    simp only [Option.getD_some, List.size_toArray]
    rw [if_neg (by omega : ¬ ((s : Int) < 0))]
    simp only [show (2 : Int) > 0 by decide, if_true]
    congr 1
    omega
  rw [hb]
  unfold sliceRange
  simp only [show (2 : Int) > 0 by decide, if_true, List.filterMap_map]
  rw [← pick_evens (vs.drop s) (((vs.length : Int) - (min s vs.length : Nat) + 2 - 1) / 2).toNat (by rw [List.length_drop]; omega)]
  by_cases h : ((min s vs.length : Nat) : Int) < (vs.length : Int)
  · rw [if_pos h]
    congr 1
    funext j
    simp only [Function.comp, List.getElem?_toArray, List.getElem?_drop]
    congr 1
    omega
  · rw [if_neg h]
    have : vs.drop s = [] := List.drop_eq_nil_of_le (by omega)
    rw [this]; simp
theorem slicePick_even0 (vs : List Value) : slicePick vs.toArray none none (some 2) = (evens vs).toArray := by
  have h := slicePick_even vs 0
  have e : sliceBounds (some ((0 : Nat) : Int)) none (some 2) vs.toArray.size = sliceBounds none none (some 2) vs.toArray.size := by
    unfold sliceBounds
    simp
    omega
  unfold slicePick at h ⊢
  rw [e] at h
  exact h
theorem StrsAre.evens' : ∀ {vs : List Value} {ss : List Str}, StrsAre vs ss → StrsAre (evens vs) (evens ss)
  | _, _, .nil => .nil
  | _, _, .cons y t .nil => .cons y t .nil
  | _, _, .cons y t (.cons _ _ h) => .cons y t (StrsAre.evens' h)
theorem IntsAre.evens' : ∀ {vs : List Value} {ss : List Int}, IntsAre vs ss → IntsAre (evens vs) (evens ss)
  | _, _, .nil => .nil
  | _, _, .cons y t .nil => .cons y t .nil
  | _, _, .cons y t (.cons _ _ h) => .cons y t (IntsAre.evens' h)

theorem slice_W {value slice : Expr} {D : Addr} {vs : List Value} {vl vu vk : Value} {lo hi st : Option Int} {ops : List Value} {Q : Value → Shared → Prop} (W : Wk w s₀ L m N s) (hl : s.heap.IsList D vs.toArray)
    (pl : IsPart vl lo) (pu : IsPart vu hi) (pk : IsPart vk st) (h0 : st ≠ some 0) (hsz : vs.length ≤ 1000000)
    (h : ∀ a s', Wk w s₀ L m ((a, { cls := .type "list", data := .seq (slicePick vs.toArray lo hi st) }) :: N) s' → Q (.ref a) s')
    (hs : subscripted slice false (.ref D) (.ref s.heap.objs.size) = operate ops (getItem (.ref D) (.ref s.heap.objs.size)))
    (ht : ∀ r, letTemporaryGo value (.ref D) r = pure ()) :
    wpAny (model pw w) A (subscriptTail value slice (.ref D) (.ref s.heap.objs.size)) Q E { s with heap := s.heap.push { cls := .type "slice", data := .fields #[vl, vu, vk] } } := by
  refine slice_list3 (ops := ops) W.F W.N hl pl pu pk h0 (fun h' F' N' => ?_) hs ht (by rw [List.size_toArray]; exact fits_small (by omega))
  have hne : s.heap.objs.size + 1 ∉ N.map (·.1) := W.freshN (Heap.get?_none_of_le (by omega))
  exact h _ _ ⟨F', N', W.os, W.gens, W.nd, W.st, List.nodup_cons.mpr ⟨hne, W.na⟩⟩

/-- a slice of a list by a step of two, from the front -/
theorem e_even0 {x : Str} {px : Pos} {ci : Int} {k : Nat} {p1 p2 p3 : Pos} {Q : Value → Shared → Prop} {D : Addr} {vs : List Value} (hci : ci = 2) (W : Wk w s₀ L m N s) (hx : Has x (.ref D) m) (hl : s.heap.IsList D vs.toArray) (hsz : vs.length ≤ 1000000)
    (h : ∀ a s', Wk w s₀ L m ((a, { cls := .type "list", data := .seq (evens vs).toArray }) :: N) s' → Q (.ref a) s')
    (hk : sc.kind = .function := by kernel_rfl) (hlo : (envOf nm sc L f cd).kindOf x = some .local := by kernel_rfl) (hd : (x == ("__debug__" : Str)) = false := by decide) :
    wpAny (model pw w) A (eval (.Subscript (.Name x px) (.Slice none none (some (.Constant (.int ci) k p1)) p2) p3) (envOf nm sc L f cd)) Q E s := by
  subst hci
  refine PyProof.Rows.Subscript_ (e_loc W hx ?_ hk hlo hd)
  refine wpAny_Slice (evalPart_none_step (evalPart_none_step (evalPart_some_step (wpAny_Constant_int ?_))))
  refine slice_W (ops := [.ref D, .ref s.heap.objs.size]) (W.toks (s.toks + 1)) hl .none .none (.int 2 _) (by simp) hsz (fun a s' W' => ?_) (by with_unfolding_all rfl) (by intro _; rfl)
  rw [slicePick_even0] at W'
  exact h a s' W'
/-- the same from the second on -/
theorem e_even1 {x : Str} {px : Pos} {ci c1 : Int} {k k1 : Nat} {p0 p1 p2 p3 : Pos} {Q : Value → Shared → Prop} {D : Addr} {vs : List Value} (hci : ci = 2) (hc1 : c1 = 1) (W : Wk w s₀ L m N s) (hx : Has x (.ref D) m) (hl : s.heap.IsList D vs.toArray) (hsz : vs.length ≤ 1000000)
    (h : ∀ a s', Wk w s₀ L m ((a, { cls := .type "list", data := .seq (evens (vs.drop 1)).toArray }) :: N) s' → Q (.ref a) s')
    (hk : sc.kind = .function := by kernel_rfl) (hlo : (envOf nm sc L f cd).kindOf x = some .local := by kernel_rfl) (hd : (x == ("__debug__" : Str)) = false := by decide) :
    wpAny (model pw w) A (eval (.Subscript (.Name x px) (.Slice (some (.Constant (.int c1) k1 p0)) none (some (.Constant (.int ci) k p1)) p2) p3) (envOf nm sc L f cd)) Q E s := by
  subst hci hc1
  refine PyProof.Rows.Subscript_ (e_loc W hx ?_ hk hlo hd)
  refine wpAny_Slice (evalPart_some_step (wpAny_Constant_int (evalPart_none_step (evalPart_some_step (wpAny_Constant_int ?_)))))
  refine slice_W (ops := [.ref D, .ref s.heap.objs.size]) (W.toks (s.toks + 1 + 1)) hl (.int 1 _) .none (.int 2 _) (by simp) hsz (fun a s' W' => ?_) (by with_unfolding_all rfl) (by intro _; rfl)
  have e := slicePick_even vs 1
  rw [show ((1 : Nat) : Int) = 1 from rfl] at e
  rw [e] at W'
  exact h a s' W'

theorem tx_nil_app (x : Str) : tx [] ++ x = x := by obtain ⟨a⟩ := x; show Str.mk (#[] ++ a) = _; simp
theorem app_tx_nil (x : Str) : x ++ tx [] = x := by obtain ⟨a⟩ := x; show Str.mk (a ++ #[]) = _; simp
theorem join_tx (ls : List (List Nat)) : Txt.join (tx []) (ls.map tx) = tx ls.flatten := by
  show Builtin.Str.glued _ _ = _
  rw [StrLaws.glued_eq_join]
  induction ls with
  | nil => rfl
  | cons a r ih =>
    cases r with
    | nil => simp [Str.join]
    | cons b r =>
      show tx a ++ tx [] ++ Str.join (tx []) ((b :: r).map tx) = _
      rw [ih, app_tx_nil, tx_append]; rfl
/-- ''.join over a list of texts -/
theorem call_join {D : Addr} {vs : Array Value} {ls : List (List Nat)} {t : Tok} {Q : Value → Shared → Prop} (W : Wk w s₀ L m N s) (hl : s.heap.IsList D vs) (hi : StrsAre vs.toList (ls.map tx)) (hsz : ls.flatten.length ≤ 10000000)
    (h : ∀ t' s', Wk w s₀ L m N s' → Q (.str (tx ls.flatten) t') s') : wpAny (model pw w) A (call (.builtin "str.join") [.str (tx []) t, .ref D]) Q E s := by
  refine join_list hl hi ?_ fun t' k => ?_
  · have : ((ls.map tx).map (·.length)).sum = ls.flatten.length := by
      rw [List.map_map, List.length_flatten]
      congr 1
    rw [this]
    show ls.flatten.length + _ * 0 ≤ _
    omega
  · rw [join_tx]; exact h t' _ (W.toks k)
theorem e_join {e : Expr} {x : Str} {k : Nat} {p1 apos pos : Pos} {env : Env} {Q : Value → Shared → Prop} (hx : x = tx []) (W : Wk w s₀ L m N s)
    (h : ∀ t s', Wk w s₀ L m N s' → wpAny (model pw w) A (eval e env) (fun v s₁ => wpAny (model pw w) A (call (.builtin "str.join") [.str (tx []) t, v]) Q E s₁) E s')
    (hes : isStar e = false := by rfl) (hline : (apos.endLine == pos.line) = true := by rfl) :
    wpAny (model pw w) A (eval (.Call (.Attribute (.Constant (.str x) k p1) "join" apos) [e] [] pos) env) Q E s := by
  subst hx
  refine Call_method1 rfl (star_no hes) hline (e_str W fun t s' W => ?_)
  exact m_of1 PySem.F.plainAttrs_str PySem.F.slot_str_join PySem.F.type_str_join (typeIs_str _ _ _) (fun _ e => nomatch e) (h t s' W)
end
end Mine

end
section
open PySem PySem.W PyProof.Rows PySem.Calls PyProof.V
set_option Elab.async false
set_option maxRecDepth 100000
namespace Mine
noncomputable section

/-! ### brackets, plainly -/
noncomputable def scan : Nat → List Nat → Option Nat
  | d, [] => some d
  | d, c :: r => if c = 40 then scan (d + 1) r else if c = 41 then (if d = 0 then none else scan (d - 1) r) else scan d r
theorem scan_append : ∀ (a b : List Nat) (d : Nat), scan d (a ++ b) = (scan d a).bind fun e => scan e b
  | [], _, _ => rfl
  | c :: r, b, d => by
    show (if c = 40 then scan (d + 1) (r ++ b) else if c = 41 then (if d = 0 then none else scan (d - 1) (r ++ b)) else scan d (r ++ b)) = (if c = 40 then scan (d + 1) r else if c = 41 then (if d = 0 then none else scan (d - 1) r) else scan d r).bind fun e => scan e b
    split
    · exact scan_append r b _
    · split
      · split
        · rfl
        · exact scan_append r b _
      · exact scan_append r b _
theorem scan_pair (d : Nat) (r : List Nat) : scan d ([40, 41] ++ r) = scan d r := by
  show scan d (40 :: 41 :: r) = _
  simp [scan]
theorem scan_join : ∀ (ps : List (List Nat)) (d : Nat), scan d (Str.join (tx [40, 41]) (ps.map tx)).cps.toList = scan d ps.flatten
  | [], _ => rfl
  | [p], _ => by simp [Str.join]
  | p :: q :: r, d => by
    show scan d (tx p ++ tx [40, 41] ++ Str.join (tx [40, 41]) ((q :: r).map tx)).cps.toList = scan d (p ++ (q :: r).flatten)
    rw [Str.cps_append, Str.cps_append, Array.toList_append, Array.toList_append, scan_append, scan_append, scan_append]
    have ih := fun d => scan_join (q :: r) d
    cases h : scan d p with
    | none => simp [h]
    | some e =>
      have h2 := scan_pair e []
      rw [List.append_nil] at h2
      simp only [h, Option.bind_some]
      rw [show scan e (tx [40, 41]).cps.toList = some e by rw [show (tx [40, 41]).cps.toList = [40, 41] from rfl, h2]; rfl]
      exact ih e
noncomputable def rep2 (l : List Nat) : List Nat := (Txt.replace (tx l) (tx [40, 41]) (tx [])).cps.toList
theorem rep2_tx (l : List Nat) : Txt.replace (tx l) (tx [40, 41]) (tx []) = tx (rep2 l) := tx_eq rfl
theorem len_join2 : ∀ (ps : List (List Nat)), (Str.join (tx [40, 41]) (ps.map tx)).cps.toList.length = ps.flatten.length + 2 * (ps.length - 1)
  | [] => rfl
  | [p] => by simp [Str.join]
  | p :: q :: r => by
    show (tx p ++ tx [40, 41] ++ Str.join (tx [40, 41]) ((q :: r).map tx)).cps.toList.length = (p ++ (q :: r).flatten).length + 2 * (r.length + 1)
    rw [Str.cps_append, Str.cps_append, Array.toList_append, Array.toList_append, List.length_append, List.length_append, len_join2 (q :: r), List.length_append]
    simp only [List.length_cons]
    show p.length + 2 + _ = _
    omega
theorem mem_join2 (c : Nat) : ∀ (ps : List (List Nat)), c ∈ ps.flatten → c ∈ (Str.join (tx [40, 41]) (ps.map tx)).cps.toList
  | [], h => by simp at h
  | [p], h => by simpa [Str.join] using h
  | p :: q :: r, h => by
    show c ∈ (tx p ++ tx [40, 41] ++ Str.join (tx [40, 41]) ((q :: r).map tx)).cps.toList
    rw [Str.cps_append, Str.cps_append, Array.toList_append, Array.toList_append, List.mem_append, List.mem_append]
    rw [List.flatten_cons, List.mem_append] at h
    rcases h with h | h
    · exact .inl (.inl (by simpa using h))
    · exact .inr (mem_join2 c (q :: r) h)
theorem tx_cps (x : Str) : tx x.cps.toList = x := (tx_eq rfl).symm
theorem rep2_split (l : List Nat) : rep2 l = l ∧ Txt.contains (tx l) (tx [40, 41]) = false ∨ ∃ ps : List (List Nat), 2 ≤ ps.length ∧ l = (Str.join (tx [40, 41]) (ps.map tx)).cps.toList ∧ rep2 l = ps.flatten := by
  obtain ⟨f, hch, hno⟩ := StrLaws.occ_tight (tx l) (tx [40, 41]) (by decide)
  have hself := StrLaws.glued_between_self (tx l) (tx [40, 41]) ((tx l).length + 1)
  have hlen := length_partsBetween (tx l) (Builtin.Str.occurrences (tx l) (tx [40, 41]) 0 (tx l).length ((tx l).length + 1)) (tx [40, 41]).length
  unfold rep2 Txt.replace
  generalize hocc : Builtin.Str.occurrences (tx l) (tx [40, 41]) 0 (tx l).length ((tx l).length + 1) = occ at *
  cases occ with
  | nil =>
    left
    refine ⟨by simp, ?_⟩
    have hf : f = 0 := hch
    cases hb : Txt.contains (tx l) (tx [40, 41]) with
    | false => rfl
    | true =>
      obtain ⟨i, hi⟩ := (StrLaws.found_iff _ _).mp hb
      exact absurd hi (hno i (by omega))
  | cons i r =>
    right
    have hz : ((i :: r).isEmpty || ((tx [40, 41]).length == 0 && (tx []).length == 0)) = false := rfl
    rw [hz]
    simp only [Bool.false_eq_true, if_false]
    refine ⟨(Builtin.Str.partsBetween (tx l) (i :: r) (tx [40, 41]).length).map (·.cps.toList), ?_, ?_, ?_⟩
    · rw [List.length_map, hlen]; simp
    · rw [List.map_map, show (tx ∘ fun x : Str => x.cps.toList) = id from funext tx_cps, List.map_id, ← StrLaws.glued_eq_join, hself]
    · rw [show Builtin.Str.glued (tx []) (Builtin.Str.partsBetween (tx l) (i :: r) (tx [40, 41]).length) = Txt.join (tx []) (((Builtin.Str.partsBetween (tx l) (i :: r) (tx [40, 41]).length).map (·.cps.toList)).map tx) by
        rw [List.map_map, show (tx ∘ fun x : Str => x.cps.toList) = id from funext tx_cps, List.map_id]; rfl, join_tx]
theorem rep2_scan (l : List Nat) (d : Nat) : scan d (rep2 l) = scan d l := by
  rcases rep2_split l with ⟨h, _⟩ | ⟨ps, _, h1, h2⟩
  · rw [h]
  · rw [h2, ← scan_join ps d, ← h1]
theorem rep2_lt {l : List Nat} (h : Txt.contains (tx l) (tx [40, 41]) = true) : (rep2 l).length < l.length := by
  rcases rep2_split l with ⟨_, h'⟩ | ⟨ps, hp, h1, h2⟩
  · rw [h] at h'; cases h'
  · rw [h2, h1, len_join2]; omega
theorem rep2_mem {l : List Nat} {c : Nat} (h : c ∈ rep2 l) : c ∈ l := by
  rcases rep2_split l with ⟨h', _⟩ | ⟨ps, _, h1, h2⟩
  · rwa [h'] at h
  · rw [h1]; rw [h2] at h; exact mem_join2 c ps h
theorem pair_contains (a b : List Nat) : Txt.contains (tx (a ++ 40 :: 41 :: b)) (tx [40, 41]) = true := by
  refine (StrLaws.found_iff _ _).mpr ⟨a.length, ?_, ?_⟩
  · simp [Str.length]
  · rw [StrLaws.subAt_eq]
    show (((a ++ 40 :: 41 :: b).drop a.length).take 2 == [40, 41]) = true
    rw [List.drop_left]; rfl
theorem scan_head : ∀ (l : List Nat) (d : Nat), (∀ c ∈ l, c = 40 ∨ c = 41) → scan (d + 1) l = some 0 → (∃ r, l = 41 :: r) ∨ ∃ a b, l = a ++ 40 :: 41 :: b
  | [], d, _, h => by simp [scan] at h
  | c :: r, d, hm, h => by
    rcases hm c List.mem_cons_self with rfl | rfl
    · have h' : scan (d + 1 + 1) r = some 0 := by simpa [scan] using h
      rcases scan_head r (d + 1) (fun c hc => hm c (List.mem_cons_of_mem _ hc)) h' with ⟨r', rfl⟩ | ⟨a, b, rfl⟩
      · exact .inr ⟨[], r', rfl⟩
      · exact .inr ⟨40 :: a, b, rfl⟩
    · exact .inl ⟨r, rfl⟩
theorem no_pair {l : List Nat} (hm : ∀ c ∈ l, c = 40 ∨ c = 41) (hc : Txt.contains (tx l) (tx [40, 41]) = false) : (l = []) ↔ scan 0 l = some 0 := by
  constructor
  · rintro rfl; rfl
  · intro h
    cases l with
    | nil => rfl
    | cons c r =>
      rcases hm c List.mem_cons_self with rfl | rfl
      · have h' : scan (0 + 1) r = some 0 := by simpa [scan] using h
        rcases scan_head r 0 (fun c hc => hm c (List.mem_cons_of_mem _ hc)) h' with ⟨r', rfl⟩ | ⟨a, b, rfl⟩
        · have := pair_contains [] r'
          rw [List.nil_append] at this
          rw [this] at hc; cases hc
        · have := pair_contains (40 :: a) b
          rw [List.cons_append] at this
          rw [this] at hc; cases hc
      · simp [scan] at h
end
end Mine

end
section
open PySem PySem.W PyProof.Rows PySem.Calls PyProof.V
set_option Elab.async false
set_option maxRecDepth 100000
namespace Mine
noncomputable section
variable {w : World} {A : Around} {E : Value → Shared → Prop} {s₀ s : Shared} {L : Addr} {m m' : Loc} {N : List (Addr × Obj)} {nm : Str} {sc : Scope} {f : Addr} {cd : Value}

/-! ### _law_sheared -/
structure Sh where
  init : List (List Nat)
  last : List Nat
  run : Nat
noncomputable def shStep (st : Sh) (c : Nat) : Sh :=
  let run' := if c = 92 then st.run + 1 else 0
  if c = 34 ∧ st.run % 2 = 0 then ⟨st.init ++ [st.last], [], run'⟩ else ⟨st.init, st.last ++ [c], run'⟩
noncomputable def shOf (l : List Nat) : Sh := l.foldl shStep ⟨[], [], 0⟩
noncomputable def shEnd (st : Sh) : List (List Nat) :=
  if (st.init.length + 1) % 2 = 0 then st.init.dropLast ++ [st.init.getLast?.getD [] ++ ([34] ++ st.last), st.last] else st.init ++ [st.last]
noncomputable def shearL (l : List Nat) : List Nat := (evens (shEnd (shOf l))).flatten
theorem shOf_snoc (l : List Nat) (i : Nat) (hi : i < l.length) : shOf (l.take (i + 1)) = shStep (shOf (l.take i)) (l.getD i 0) := by
  rw [List.take_add_one, show l[i]? = some (l.getD i 0) by simp [hi]]
  unfold shOf
  rw [List.foldl_append]; rfl
theorem shStep_len (st : Sh) (c : Nat) : (shStep st c).init.flatten.length + (shStep st c).last.length ≤ st.init.flatten.length + st.last.length + 1 ∧ (shStep st c).init.length ≤ st.init.length + 1 := by
  unfold shStep
  dsimp only
  split
  · simp only [List.flatten_append, List.length_append, List.flatten_cons, List.flatten_nil, List.length_cons, List.length_nil]
    omega
  · simp only [List.length_append, List.length_cons, List.length_nil]
    omega
theorem shOf_len : ∀ (l : List Nat) (st : Sh), (l.foldl shStep st).init.flatten.length + (l.foldl shStep st).last.length ≤ st.init.flatten.length + st.last.length + l.length ∧ (l.foldl shStep st).init.length ≤ st.init.length + l.length
  | [], _ => ⟨Nat.le_refl _, Nat.le_refl _⟩
  | c :: r, st => by
    have h := shOf_len r (shStep st c)
    have h2 := shStep_len st c
    simp only [List.foldl_cons, List.length_cons]
    omega

theorem evens_len : ∀ ls : List (List Nat), (evens ls).flatten.length ≤ ls.flatten.length
  | [] => Nat.le_refl _
  | [_] => Nat.le_refl _
  | a :: b :: r => by
    have := evens_len r
    show (a ++ (evens r).flatten).length ≤ (a ++ (b ++ r.flatten)).length
    simp only [List.length_append]; omega
theorem StrsAre.snoc_inv {vs : List Value} {ss : List Str} {x : Str} (h : StrsAre vs (ss ++ [x])) : ∃ vc t, vs = vc ++ [.str x t] ∧ StrsAre vc ss := by
  induction ss generalizing vs with
  | nil => obtain ⟨t, vs', rfl, h'⟩ := h.cons_inv; cases h'; exact ⟨[], t, rfl, .nil⟩
  | cons y r ih =>
    obtain ⟨t, vs', rfl, h'⟩ := StrsAre.cons_inv (xs := r ++ [x]) h
    obtain ⟨vc, t', rfl, h2⟩ := ih h'
    exact ⟨_ :: vc, t', rfl, .cons _ _ h2⟩
set_option maxHeartbeats 4000000 in
theorem sheared_call {R : Result → Shared → Prop} {l : List Nat} {t : Tok} (S : Stands w s.heap) (hroom : A.depth < recursionLimit) (hh : A.handled = none) (hl : l.length ≤ 100000)
    (h : ∀ t' s', Grown s s' → R (.ok (.ret (.str (tx (shearL l)) t'))) s') :
    codeAny (model pw w) A (.call (.ref 169) ⟨[.str (tx l) t], []⟩) R s := by
  refine call_me [("text", .str (tx l) t)] [("text", some (.str (tx l) t)), ("parts", none), ("run", none), ("sign", none)] ["parts", "run", "sign"] fn169 S hroom (fun cd s' W => ?_)
  conv in fnB 20 => whnf
  refine x_assign ?_
  refine List_ ?_
  refine args_c ?_
  refine e_tx [] rfl W fun t0 _ W => ?_
  refine args_nil ?_
  refine W_list (hsz := fits_small (by simp)) W fun D _ W _ => ?_
  refine store W (.tail .head) fun _ W => ?_
  refine x_assign ?_
  refine e_nat 0 rfl W fun _ _ W => ?_
  refine store W (.tail (.tail .head)) fun _ W => ?_
  refine x_for W (It.str (A := A.deeper (envOf "_law_sheared" (fnS 20) s.heap.objs.size 169 cd)) hh l t)
    (fun i m' N' => ∃ o va tl tr o1, N' = [(D, o)] ∧ IsLo o (va ++ [.str (tx (shOf (l.take i)).last) tl]) ∧ StrsAre va ((shOf (l.take i)).init.map tx) ∧
      m' = ([("text", some (.str (tx l) t)), ("parts", some (.ref D)), ("run", some (.int ((shOf (l.take i)).run : Nat) tr)), ("sign", o1)] : Loc))
    (fun _ _ _ _ _ _ => trivial) ?_ ?_ ?_
  · refine e_loc W .head ?_
    refine iter_str W fun I it s' h0 W => ?_
    exact ⟨I, it, _, _, rfl, h0, W, _, [], t0, _, _, rfl, IsLo.new _ _, .nil, rfl⟩
  · rintro i m' N' I it v s₁ hi ⟨o, va, tl, tr, o1, rfl, hlo, hva, rfl⟩ ⟨tv, rfl⟩ W
    have hs1 := shOf_snoc l i hi
    have hb := shOf_len (l.take i) ⟨[], [], 0⟩
    have hti : (l.take i).length ≤ l.length := by rw [List.length_take]; omega
    change (shOf (l.take i)).init.flatten.length + (shOf (l.take i)).last.length ≤ 0 + 0 + (l.take i).length ∧ (shOf (l.take i)).init.length ≤ 0 + (l.take i).length at hb
    generalize hc : l.getD i 0 = c at hs1 W
    generalize shOf (l.take i) = st at *
    have hval := hva.length
    rw [List.length_map] at hval
    refine store W (.tail (.tail (.tail .head))) fun _ W => ?_
    have fin : ∀ {o' : Obj} {vb : List Value} {t1 t2 : Tok} {o3 : Option Value} {s3 : Shared}, IsLo o' (vb ++ [.str (tx (shStep st c).last) t1]) → StrsAre vb ((shStep st c).init.map tx) →
        Wk w s s.heap.objs.size [("text", some (.str (tx l) t)), ("parts", some (.ref D)), ("run", some (.int ((if [c] = [92] then st.run + 1 else 0 : Nat) : Int) t2)), ("sign", o3)] [(I, it), (D, o')] s3 →
        ∃ m3 N3, Wk w s s.heap.objs.size m3 ((I, it) :: N3) s3 ∧ ∃ o va tl tr o1, N3 = [(D, o)] ∧ IsLo o (va ++ [.str (tx (shOf (l.take (i + 1))).last) tl]) ∧ StrsAre va ((shOf (l.take (i + 1))).init.map tx) ∧
          m3 = ([("text", some (.str (tx l) t)), ("parts", some (.ref D)), ("run", some (.int ((shOf (l.take (i + 1))).run : Nat) tr)), ("sign", o1)] : Loc) := by
      intro o' vb t1 t2 o3 s3 hlo' hvb W3
      refine ⟨_, _, W3, o', vb, t1, t2, o3, rfl, ?_, ?_, ?_⟩
      · rw [hs1]; exact hlo'
      · rw [hs1]; exact hvb
      · rw [hs1]
        have : (shStep st c).run = if [c] = [92] then st.run + 1 else 0 := by
          unfold shStep
          by_cases h1 : c = 92
          · simp only [h1, if_true]; split <;> rfl
          · have : ¬ ([c] = [92]) := by simpa using h1
            simp only [if_neg h1, if_neg this]; split <;> rfl
        rw [this]
    refine x_ifb (TB.and (TB.eqTx (c := [34]) rfl (.tail (.tail (.tail .head)))) (TB.and (TB.modEq (b := 2) (c := 0) rfl rfl (by decide) (.tail (.tail .head))) TB.andNil)) W (fun hq _ W => ?_) (fun hq _ W => ?_)
    · have hq' : c = 34 ∧ st.run % 2 = 0 := by simpa using hq
      refine x_append W (.tail .head) ?_ ⟨_, W.plain (.tail _ (.head _)) hlo⟩
      refine e_tx [] rfl W fun tz _ W => ?_
      refine W_append W.swap hlo (by rw [List.length_append, hval]; simp only [List.length_cons, List.length_nil]; omega) fun o' _ hlo' W => ⟨rfl, ?_⟩
      refine wpAny_execs_nil ?_
      refine x_assign ?_
      refine e_run rfl rfl rfl W (.tail (.tail (.tail .head))) (.tail (.tail .head)) fun _ _ W => ?_
      refine store W (.tail (.tail .head)) fun _ W => ?_
      refine wpAny_execs_nil (fin (vb := va ++ [.str (tx st.last) tl]) (t1 := tz) ?_ ?_ W.swap)
      · unfold shStep; rw [if_pos hq']; exact hlo'
      · unfold shStep; rw [if_pos hq', List.map_append]; exact hva.append' (.cons _ _ .nil)
    · have hq' : ¬ (c = 34 ∧ st.run % 2 = 0) := by
        intro h'
        have : (decide ([c] = [34]) && (decide (st.run % 2 = 0) && true)) = true := by simpa using h'
        rw [this] at hq; cases hq
      refine wpAny_execs_cons (wpAny_AugAssign_Subscript_any ?_)
      refine e_loc W (.tail .head) ?_
      refine e_negc 1 rfl W fun _ _ W => ?_
      refine W_getneg (b := []) W.swap hlo rfl (by rw [List.length_append, hval]; simp only [List.length_cons, List.length_nil]; omega) ?_
      refine e_loc W (.tail (.tail (.tail .head))) ?_
      refine e_iadd W (by simp only [List.length_cons, List.length_nil]; omega) fun tn _ W => ?_
      refine W_setneg (b := []) W.swap hlo rfl (by rw [List.length_append, hval]; simp only [List.length_cons, List.length_nil]; omega) fun o' _ hlo' W => ?_
      refine wpAny_execs_nil ?_
      refine x_assign ?_
      refine e_run rfl rfl rfl W (.tail (.tail (.tail .head))) (.tail (.tail .head)) fun _ _ W => ?_
      refine store W (.tail (.tail .head)) fun _ W => ?_
      refine wpAny_execs_nil (fin (vb := va) (t1 := tn) ?_ ?_ W.swap)
      · unfold shStep; rw [if_neg hq']; exact hlo'
      · unfold shStep; rw [if_neg hq']; exact hva
  · rintro m' N' s₁ ⟨o, va, tl, tr, o1, rfl, hlo, hva, rfl⟩ W
    rw [List.take_length] at hlo hva W
    have hb := shOf_len l ⟨[], [], 0⟩
    change (shOf l).init.flatten.length + (shOf l).last.length ≤ 0 + 0 + l.length ∧ (shOf l).init.length ≤ 0 + l.length at hb
    have hval := hva.length
    rw [List.length_map] at hval
    have hvs : StrsAre (va ++ [.str (tx (shOf l).last) tl]) (((shOf l).init ++ [(shOf l).last]).map tx) := by
      rw [List.map_append]; exact hva.append' (.cons _ _ .nil)
    unfold shearL shEnd at h
    generalize shOf l = st at *
    have hret : ∀ {o2 : Obj} {vs : List Value} {ls : List (List Nat)} {s2 : Shared}, IsLo o2 vs → StrsAre vs (ls.map tx) → vs.length ≤ 1000000 → (evens ls).flatten.length ≤ 10000000 → (∀ t' s', Grown s s' → R (.ok (.ret (.str (tx (evens ls).flatten) t'))) s') →
        Wk w s s.heap.objs.size [("text", some (.str (tx l) t)), ("parts", some (.ref D)), ("run", some (.int (st.run : Nat) tr)), ("sign", o1)] [(D, o2)] s2 →
        wpAny (model pw w) (A.deeper (envOf "_law_sheared" (fnS 20) s.heap.objs.size 169 cd)) (execs ((fnB 20).drop 4) (envOf "_law_sheared" (fnS 20) s.heap.objs.size 169 cd))
          (fun fl s'' => R (.ok (.ret (match fl with | .ret v => v | _ => .none))) s'') (fun _ _ => False) s2 := by
      intro o2 vs ls s2 hlo2 hvs2 hn2 hn3 h2 W2
      conv in (fnB 20).drop 4 => whnf
      refine x_ret ?_
      refine e_join rfl W2 fun _ _ W2 => ?_
      refine e_even0 rfl W2 (.tail .head) (W2.lo List.mem_cons_self hlo2) hn2 fun a _ W3 => ?_
      refine call_join (ls := evens ls) W3 (W3.isList List.mem_cons_self) ?_ hn3 fun _ _ W3 => h2 _ _ W3.grown
      rw [← evens_map]; exact StrsAre.evens' hvs2
    refine x_if ?_
    refine wpAny_isTrue_Compare1 ?_
    refine wpAny_BinOp ?_
    refine e_callB W.S gl_len ?_
    refine args_c ?_
    refine e_loc W (.tail .head) ?_
    refine args_nil ?_
    have hsz : (va ++ [Value.str (tx st.last) tl]).toArray.size = st.init.length + 1 := by simp [hval]
    refine PyProof.Rows.len_list (W.lo List.mem_cons_self hlo) (by rw [hsz]; omega) ?_
    rw [hsz]
    have W := W.toks (Shared.toks s₁ + 1 + 1)
    refine e_nat 2 rfl W fun _ _ W => ?_
    refine e_mod W (by decide) fun _ _ W => ?_
    refine e_nat 0 rfl W fun _ _ W => ?_
    refine PyProof.Rows.eq_int (wpAny_truthy_bool ?_)
    by_cases hev : (st.init.length + 1) % 2 = 0
    · rw [show ((((st.init.length + 1) % 2 : Nat) : Int) == ((0 : Nat) : Int)) = true by rw [hev]; rfl]
      rw [if_pos hev] at h
      obtain ⟨pi, p, hpi⟩ : ∃ pi p, st.init = pi ++ [p] := by
        have hne : st.init ≠ [] := by intro e; rw [e] at hev; simp at hev
        exact ⟨_, _, (List.dropLast_concat_getLast hne).symm⟩
      rw [hpi, List.map_append] at hva
      obtain ⟨vc, tp, rfl, hvc⟩ := StrsAre.snoc_inv hva
      rw [hpi] at h hb hval
      simp only [List.dropLast_concat, List.getLast?_append, List.getLast?_singleton, Option.some_or, Option.getD_some] at h
      simp only [List.length_append, List.length_cons, List.length_nil] at hval
      simp only [List.flatten_append, List.length_append, List.flatten_cons, List.flatten_nil, List.append_nil, List.length_cons, List.length_nil] at hb
      have hlo2 : IsLo o (vc ++ .str (tx p) tp :: [.str (tx st.last) tl]) := by simpa using hlo
      refine wpAny_execs_cons (wpAny_AugAssign_Subscript_any ?_)
      refine e_loc W (.tail .head) ?_
      refine e_negc 2 rfl W fun _ _ W => ?_
      refine W_getneg W hlo2 rfl (by simp only [List.length_append, List.length_cons, List.length_nil]; omega) ?_
      refine wpAny_BinOp ?_
      refine e_tx [34] rfl W fun _ _ W => ?_
      refine PySem.Subscript_UnaryOp ?_
      refine e_loc W (.tail .head) ?_
      refine e_negc 1 rfl W fun _ _ W => ?_
      refine ⟨"list", _, list_getitem_lookup, (W.lo List.mem_cons_self hlo).typeIs, ?_⟩
      refine W_getneg (b := []) W hlo rfl (by simp only [List.length_append, List.length_cons, List.length_nil]; omega) ?_
      refine e_cat W (by simp only [List.length_cons, List.length_nil]; omega) fun _ _ W => ?_
      refine e_iadd W (by simp only [List.length_append, List.length_cons, List.length_nil]; omega) fun tn _ W => ?_
      refine W_setneg W hlo2 rfl (by simp only [List.length_append, List.length_cons, List.length_nil]; omega) fun o' _ hlo' W => ?_
      refine wpAny_execs_nil ?_
      refine hret (ls := pi ++ [p ++ ([34] ++ st.last), st.last]) hlo' ?_ (by simp only [List.length_append, List.length_cons, List.length_nil]; omega) (Nat.le_trans (evens_len _) ?_) h W
      · rw [List.map_append]; exact hvc.append' (.cons _ _ (.cons _ _ .nil))
      · simp only [List.flatten_append, List.flatten_cons, List.flatten_nil, List.append_nil, List.length_append, List.length_cons, List.length_nil]; omega
    · rw [show ((((st.init.length + 1) % 2 : Nat) : Int) == ((0 : Nat) : Int)) = false by simp; omega]
      rw [if_neg hev] at h
      refine wpAny_execs_nil ?_
      refine hret (ls := st.init ++ [st.last]) hlo hvs (by simp only [List.length_append, List.length_cons, List.length_nil]; omega) (Nat.le_trans (evens_len _) ?_) h W
      simp only [List.flatten_append, List.flatten_cons, List.flatten_nil, List.append_nil, List.length_append]; omega
end
end Mine

end
section
open PySem PySem.W PyProof.Rows PySem.Calls PyProof.V
set_option Elab.async false
set_option maxRecDepth 100000
namespace Mine
noncomputable section
variable {w : World} {A : Around} {E : Value → Shared → Prop} {s₀ s : Shared} {L : Addr} {m m' : Loc} {N : List (Addr × Obj)} {nm : Str} {sc : Scope} {f : Addr} {cd : Value}

theorem TB.inSet {x : Str} {c : Nat} {ls : List Nat} {cS : Str} {t : Tok} {k : Nat} {p1 p2 p3 : Pos} (hc : cS = tx ls) (hx : Has x (.str (tx [c]) t) m) (hk : sc.kind = .function := by kernel_rfl) (hl : (envOf nm sc L f cd).kindOf x = some .local := by kernel_rfl)
    (hd : (x == ("__debug__" : Str)) = false := by decide) (hm : behindInMarks .In (.Constant (.str cS) k p2) = false := by with_unfolding_all rfl) :
    TB w A s₀ L m N (envOf nm sc L f cd) (.Compare (.Name x p1) [.In] [.Constant (.str cS) k p2] p3) (decide (c ∈ ls)) := fun {s Q E} W h => by
  subst hc
  refine wpAny_isTrue_Compare1 ?_ hm
  refine e_loc W hx ?_ hk hl hd
  refine e_str W fun _ _ W => ?_
  refine SB.contains (wpAny_truthy_bool ?_)
  have : Txt.contains (tx ls) (tx [c]) = decide (c ∈ ls) := by rw [Bool.eq_iff_iff, contains_one]; simp
  rw [this]
  exact h _ W

/-! ### _law_cancels -/
structure Ca where
  bare : List Nat
  run : Nat
noncomputable def caStep (st : Ca) (c : Nat) : Ca :=
  ⟨if (c = 40 ∨ c = 41) ∧ st.run % 2 = 0 then st.bare ++ [c] else st.bare, if c = 92 then st.run + 1 else 0⟩
noncomputable def caOf (l : List Nat) : Ca := l.foldl caStep ⟨[], 0⟩
noncomputable def cancL (l : List Nat) : Bool := decide (scan 0 (caOf l).bare = some 0)
theorem caOf_snoc (l : List Nat) (i : Nat) (hi : i < l.length) : caOf (l.take (i + 1)) = caStep (caOf (l.take i)) (l.getD i 0) := by
  rw [List.take_add_one, show l[i]? = some (l.getD i 0) by simp [hi]]
  unfold caOf
  rw [List.foldl_append]; rfl
theorem caOf_len : ∀ (l : List Nat) (st : Ca), (l.foldl caStep st).bare.length ≤ st.bare.length + l.length ∧ ((∀ c ∈ st.bare, c = 40 ∨ c = 41) → ∀ c ∈ (l.foldl caStep st).bare, c = 40 ∨ c = 41)
  | [], _ => ⟨Nat.le_refl _, fun h => h⟩
  | c :: r, st => by
    have h := caOf_len r (caStep st c)
    have h2 : (caStep st c).bare.length ≤ st.bare.length + 1 ∧ ((∀ c ∈ st.bare, c = 40 ∨ c = 41) → ∀ c' ∈ (caStep st c).bare, c' = 40 ∨ c' = 41) := by
      unfold caStep
      dsimp only
      split
      · rename_i hc
        refine ⟨by simp, fun h c' hc' => ?_⟩
        rcases List.mem_append.mp hc' with h1 | h1
        · exact h c' h1
        · rw [List.mem_singleton.mp h1]; exact hc.1
      · exact ⟨by omega, fun h => h⟩
    simp only [List.foldl_cons, List.length_cons]
    exact ⟨by omega, fun h3 => h.2 (h2.2 h3)⟩

set_option maxHeartbeats 4000000 in
theorem cancels_call {R : Result → Shared → Prop} {l : List Nat} {t : Tok} (S : Stands w s.heap) (hroom : A.depth < recursionLimit) (hh : A.handled = none) (hl : l.length ≤ 100000)
    (h : ∀ s', Grown s s' → R (.ok (.ret (.bool (cancL l)))) s') :
    codeAny (model pw w) A (.call (.ref 176) ⟨[.str (tx l) t], []⟩) R s := by
  refine call_me [("text", .str (tx l) t)] [("text", some (.str (tx l) t)), ("bare", none), ("run", none), ("sign", none)] ["bare", "run", "sign"] fn176 S hroom (fun cd s' W => ?_)
  conv in fnB 21 => whnf
  refine x_assign ?_
  refine e_tx [] rfl W fun t0 _ W => ?_
  refine store W (.tail .head) fun _ W => ?_
  refine x_assign ?_
  refine e_nat 0 rfl W fun _ _ W => ?_
  refine store W (.tail (.tail .head)) fun _ W => ?_
  refine x_for W (It.str (A := A.deeper (envOf "_law_cancels" (fnS 21) s.heap.objs.size 176 cd)) hh l t)
    (fun i m' N' => ∃ tb tr o1, N' = [] ∧ m' = ([("text", some (.str (tx l) t)), ("bare", some (.str (tx (caOf (l.take i)).bare) tb)), ("run", some (.int ((caOf (l.take i)).run : Nat) tr)), ("sign", o1)] : Loc))
    (fun _ _ _ _ _ _ => trivial) ?_ ?_ ?_
  · refine e_loc W .head ?_
    refine iter_str W fun I it s' h0 W => ?_
    exact ⟨I, it, _, _, rfl, h0, W, t0, _, _, rfl, rfl⟩
  · rintro i m' N' I it v s₁ hi ⟨tb, tr, o1, rfl, rfl⟩ ⟨tv, rfl⟩ W
    have hs1 := caOf_snoc l i hi
    have hb := (caOf_len (l.take i) ⟨[], 0⟩).1
    have hti : (l.take i).length ≤ l.length := by rw [List.length_take]; omega
    change (caOf (l.take i)).bare.length ≤ 0 + (l.take i).length at hb
    generalize hc : l.getD i 0 = c at hs1 W
    generalize caOf (l.take i) = st at *
    refine store W (.tail (.tail (.tail .head))) fun _ W => ?_
    have fin : ∀ {t1 t2 : Tok} {o3 : Option Value} {s3 : Shared}, 
        Wk w s s.heap.objs.size [("text", some (.str (tx l) t)), ("bare", some (.str (tx (caStep st c).bare) t1)), ("run", some (.int ((if [c] = [92] then st.run + 1 else 0 : Nat) : Int) t2)), ("sign", o3)] [(I, it)] s3 →
        ∃ m3 N3, Wk w s s.heap.objs.size m3 ((I, it) :: N3) s3 ∧ ∃ tb tr o1, N3 = [] ∧ m3 = ([("text", some (.str (tx l) t)), ("bare", some (.str (tx (caOf (l.take (i + 1))).bare) tb)), ("run", some (.int ((caOf (l.take (i + 1))).run : Nat) tr)), ("sign", o1)] : Loc) := by
      intro t1 t2 o3 s3 W3
      refine ⟨_, _, W3, t1, t2, o3, rfl, ?_⟩
      rw [hs1]
      have : (caStep st c).run = if [c] = [92] then st.run + 1 else 0 := by
        unfold caStep
        by_cases h1 : c = 92
        · simp [h1]
        · simp [h1]
      rw [this]
    refine x_ifb (TB.and (TB.inSet (ls := [40, 41]) rfl (.tail (.tail (.tail .head)))) (TB.and (TB.modEq (b := 2) (c := 0) rfl rfl (by decide) (.tail (.tail .head))) TB.andNil)) W (fun hq _ W => ?_) (fun hq _ W => ?_)
    · have hq' : (c = 40 ∨ c = 41) ∧ st.run % 2 = 0 := by simpa using hq
      refine x_augL W (.tail .head) ?_
      refine e_loc W (.tail (.tail (.tail .head))) ?_
      refine e_iadd W (by simp only [List.length_cons, List.length_nil]; omega) fun t1 _ W => ?_
      refine store W (.tail .head) fun _ W => ?_
      refine wpAny_execs_nil ?_
      refine x_assign ?_
      refine e_run rfl rfl rfl W (.tail (.tail (.tail .head))) (.tail (.tail .head)) fun _ _ W => ?_
      refine store W (.tail (.tail .head)) fun _ W => ?_
      have e : (caStep st c).bare = st.bare ++ [c] := by unfold caStep; rw [if_pos hq']
      rw [← e] at W
      exact wpAny_execs_nil (fin W)
    · have hq' : ¬ ((c = 40 ∨ c = 41) ∧ st.run % 2 = 0) := by
        intro h'
        have : (decide (c ∈ [40, 41]) && (decide (st.run % 2 = 0) && true)) = true := by simpa using h'
        rw [this] at hq; cases hq
      refine wpAny_execs_nil ?_
      refine x_assign ?_
      refine e_run rfl rfl rfl W (.tail (.tail (.tail .head))) (.tail (.tail .head)) fun _ _ W => ?_
      refine store W (.tail (.tail .head)) fun _ W => ?_
      have e : (caStep st c).bare = st.bare := by unfold caStep; rw [if_neg hq']
      rw [← e] at W
      exact wpAny_execs_nil (fin W)
  · rintro m' N' s₁ ⟨tb, tr, o1, rfl, rfl⟩ W
    rw [List.take_length] at W
    have hb := caOf_len l ⟨[], 0⟩
    change (caOf l).bare.length ≤ 0 + l.length ∧ _ at hb
    have hmem : ∀ c ∈ (caOf l).bare, c = 40 ∨ c = 41 := hb.2 (fun c hc => by cases hc)
    unfold cancL at h
    generalize caOf l = st at *
    refine wpAny_execs_cons (wpAny_While ?_)
    refine codeAny_whileLoop (fun n s' => ∃ b tb, n = b.length ∧ b.length ≤ l.length ∧ (∀ c ∈ b, c = 40 ∨ c = 41) ∧ scan 0 b = scan 0 st.bare ∧
      Wk w s s.heap.objs.size [("text", some (.str (tx l) t)), ("bare", some (.str (tx b) tb)), ("run", some (.int (st.run : Nat) tr)), ("sign", o1)] [] s') (fun n s' hI => ?_) _ ⟨st.bare, tb, rfl, by omega, hmem, rfl, W⟩
    obtain ⟨b, tb', rfl, hbl, hbm, hbs, W⟩ := hI
    refine wpAny_isTrue_Compare1 ?_
    refine Constant_str ?_
    refine e_loc (W.toks _) (.tail .head) ?_
    refine SB.contains (wpAny_truthy_bool ?_)
    cases hcon : Txt.contains (tx b) (tx [40, 41]) with
    | true =>
      rw [if_pos (by exact hcon)]
      refine x_assign ?_
      refine Call_method2 rfl rfl rfl ?_
      refine e_loc (W.toks _) (.tail .head) ?_
      refine m_of2 PySem.F.plainAttrs_str PySem.F.slot_str_replace PySem.F.type_str_replace (typeIs_str _ _ _) (fun _ e => nomatch e) ?_
      refine Constant_str (Constant_str ?_)
      refine SC.replaceW (x := tx b) (y := tx [40, 41]) (z := tx []) (by simp) (by simp) (by simp) (tx_ne (by decide)) (by show b.length ≤ _; omega) (by decide) fun t' k => ?_
      rw [rep2_tx]
      refine store (W.toks k) (.tail .head) fun _ W => ?_
      refine wpAny_execs_nil ?_
      have hlt := rep2_lt hcon
      exact ⟨_, hlt, rep2 b, t', rfl, by omega, fun c hc => hbm c (rep2_mem hc), by rw [rep2_scan, hbs], W⟩
    | false =>
      rw [if_neg (by rw [show Txt.contains (tx b) (Str.ofString "()") = false from hcon]; simp)]
      refine wpAny_execs_nil ?_
      refine x_ret ?_
      refine wpAny_Compare1 ?_
      refine e_loc (W.toks _) (.tail .head) ?_
      refine e_tx [] rfl (W.toks _) fun _ _ W => ?_
      refine PyProof.Rows.eq_str ?_
      have hnp := no_pair hbm hcon
      have : (tx b == tx []) = decide (scan 0 st.bare = some 0) := by
        rw [← hbs, Bool.eq_iff_iff, decide_eq_true_iff, ← hnp]
        constructor
        · intro hh; exact Classical.byContradiction fun hne => by rw [tx_ne hne] at hh; cases hh
        · rintro rfl; simp
      rw [this]
      exact h _ W.grown
end
end Mine

end
section
open PySem PySem.W PyProof.Rows PySem.Calls PyProof.V
set_option Elab.async false
set_option maxRecDepth 100000
namespace Mine
noncomputable section
variable {w : World} {A : Around} {E : Value → Shared → Prop} {s₀ s : Shared} {L : Addr} {m m' : Loc} {N : List (Addr × Obj)} {nm : Str} {sc : Scope} {f : Addr} {cd : Value}

/-! ### _law_written -/
noncomputable def entN : Nat → List (List Nat × List Nat)
  | 0 => [([38], [97, 109, 112]), ([60], [108, 116]), ([62], [103, 116])]
  | 1 => [([38], [97, 109, 112]), ([60], [108, 116]), ([62], [103, 116]), ([34], [113, 117, 111, 116]), ([13], [35, 49, 51]), ([10], [35, 49, 48]), ([9], [35, 48, 57])]
  | 2 => [([38], [97, 109, 112]), ([62], [103, 116]), ([34], [113, 117, 111, 116])]
  | 3 => [([38], [97, 109, 112]), ([60], [108, 116]), ([62], [103, 116]), ([13], [35, 120, 68])]
  | _ => [([38], [97, 109, 112]), ([60], [108, 116]), ([34], [113, 117, 111, 116]), ([13], [35, 120, 68]), ([10], [35, 120, 65]), ([9], [35, 120, 57])]
noncomputable def lowA (z : List Nat) : List Nat := z.map fun c => if 65 ≤ c ∧ c ≤ 90 then c + 32 else c
noncomputable def wr1 (ps : List (List Nat × List Nat)) (layers : Nat) (small : Bool) (c : Nat) : List Nat :=
  match (ps.find? fun p => p.1 == [c]).map (·.2) with
  | some z => [38] ++ (if layers = 2 then [97, 109, 112, 59] else []) ++ (if small then lowA z else z) ++ [59]
  | none => [c]
noncomputable def wrL (ps : List (List Nat × List Nat)) (layers : Nat) (small : Bool) (l : List Nat) : List Nat := if layers = 0 then l else l.flatMap (wr1 ps layers small)

theorem e_amp {a : List Nat} {layers : Nat} {t u : Tok} {Q : Value → Shared → Prop} (W : Wk w s₀ L m N s) (ha : a.length = 4) (hl : layers = 1 ∨ layers = 2) (h : ∀ t' s', Wk w s₀ L m N s' → Q (.str (tx (if layers = 2 then a else [])) t') s') :
    wpAny (model pw w) A (binaryOp .Mult (.str (tx a) t) (.int ((layers - 1 : Nat) : Int) u)) Q E s := by
  rcases hl with rfl | rfl
  · exact PySem.P.mul_str_none (by decide) (by decide) (h _ _ (W.toks _))
  · refine PySem.P.mul_str (by decide) (fun _ h1 => ?_) (fun _ h1 => ?_) ?_
    · cases h1
    · cases h1
    · rw [if_neg (by decide), if_pos (show (((2 - 1 : Nat) : Int) == 1 || (tx a).length == 0) = true from rfl)]
      exact h _ _ W
theorem Wk.only {p : Addr × Obj} (W : Wk w s₀ L m N s) (h : p ∈ N) : Wk w s₀ L m [p] s :=
  ⟨W.F, fun q hq => by rw [List.mem_singleton.mp hq]; exact W.N p h, W.os, W.gens, W.nd, W.st, by simp⟩
theorem tail_go {value slice : Expr} {o i : Value} {Q : Value → Shared → Prop} (h : ItemOn (model pw w) A E o i Q s)
    (hs : subscripted slice false o i = operate [o, i] (getItem o i)) :
    wpAny (model pw w) A (subscriptTail value slice o i) Q E s := by
  obtain ⟨T, id, hl, hT, hg⟩ := h
  unfold subscriptTail
  refine wpAny_bind ?_
  rw [getitemInPython_of_ne hT.not_modules]
  refine wpAny_bind (wpAny_specialOf hT hl ?_)
  have fin : wpAny (model pw w) A (subscripted slice false o i) (fun r s₃ => wpAny (model pw w) A (letTemporaryGo value o r >>= fun _ => pure r) Q E s₃) E s := by
    rw [hs]
    exact wpAny_operating (wpAny_mono hg (fun r s₃ h₃ => wpAny_bind (wpAny_letTemporaryGo (wpAny_pure h₃))) fun _ _ x => x)
  first
    | exact wpAny_pure (wpAny_bind fin)
    | exact wpAny_bind (wpAny_pure (wpAny_bind fin))
    | exact wpAny_bind fin
theorem low_ok : ∀ wh < 5, ∀ p ∈ entN wh, Txt.lower (tx p.2) = tx (lowA p.2) ∧ (lowA p.2).length ≤ 4 ∧ p.2.length ≤ 4 := by decide +kernel

set_option maxHeartbeats 8000000 in
theorem written_call {R : Result → Shared → Prop} {l : List Nat} {wh layers : Nat} {small : Bool} {t t1 t2 : Tok} (S : Stands w s.heap) (hroom : A.depth < recursionLimit) (hh : A.handled = none) (hl : l.length ≤ 100000) (hwh : wh < 5) (hla : layers ≤ 2)
    (h : ∀ t' s', Grown s s' → R (.ok (.ret (.str (tx (wrL (entN wh) layers small l)) t'))) s') :
    codeAny (model pw w) A (.call (.ref 183) ⟨[.str (tx l) t, .int wh t1, .int layers t2, .bool small], []⟩) R s := by
  refine call_me [("text", .str (tx l) t), ("which", .int wh t1), ("layers", .int layers t2), ("small", .bool small)]
    [("small", some (.bool small)), ("layers", some (.int layers t2)), ("which", some (.int wh t1)), ("text", some (.str (tx l) t)), ("names", none), ("page", none), ("sign", none)] ["names", "page", "sign"] fn183 S hroom (fun cd s' W => ?_)
  conv in fnB 22 => whnf
  unfold wrL at h
  refine x_if_eq (c := 0) W (.tail .head) rfl (fun hk _ W => ?_) (fun hk _ W => ?_)
  · rw [if_pos hk] at h
    exact x_ret (e_loc W (.tail (.tail (.tail .head))) (h _ _ W.grown))
  rw [if_neg hk] at h
  refine x_assign ?_
  refine PyProof.Rows.Subscript_ ?_
  refine List_ ?_
  refine args_c ?_
  with_reducible refine W_dict (entN 0) W ?_ ?_ ?_ ?_ ?_ ?_ ?_
  · kernel_rfl
  rotate_left
  · decide +kernel
  · kernel_rfl
  · kernel_rfl
  · nofun
  · decide +kernel
  intro d0 o0 _ W hT0 hs0
  refine args_c ?_
  with_reducible refine W_dict (entN 1) W ?_ ?_ ?_ ?_ ?_ ?_ ?_
  · kernel_rfl
  rotate_left
  · decide +kernel
  · kernel_rfl
  · kernel_rfl
  · nofun
  · decide +kernel
  intro d1 o1 _ W hT1 hs1
  refine args_c ?_
  with_reducible refine W_dict (entN 2) W ?_ ?_ ?_ ?_ ?_ ?_ ?_
  · kernel_rfl
  rotate_left
  · decide +kernel
  · kernel_rfl
  · kernel_rfl
  · nofun
  · decide +kernel
  intro d2 o2 _ W hT2 hs2
  refine args_c ?_
  with_reducible refine W_dict (entN 3) W ?_ ?_ ?_ ?_ ?_ ?_ ?_
  · kernel_rfl
  rotate_left
  · decide +kernel
  · kernel_rfl
  · kernel_rfl
  · nofun
  · decide +kernel
  intro d3 o3 _ W hT3 hs3
  refine args_c ?_
  with_reducible refine W_dict (entN 4) W ?_ ?_ ?_ ?_ ?_ ?_ ?_
  · kernel_rfl
  rotate_left
  · decide +kernel
  · kernel_rfl
  · kernel_rfl
  · nofun
  · decide +kernel
  intro d4 o4 _ W hT4 hs4
  refine args_nil ?_
  refine W_list (hsz := fits_small (by simp)) W fun a _ W la => ?_
  refine e_loc W (.tail (.tail .head)) ?_
  obtain ⟨d, o, hd, hmem, hT, hs⟩ : ∃ d o, ([.ref d0, .ref d1, .ref d2, .ref d3, .ref d4] : List Value)[wh]? = some (.ref d) ∧ (d, o) ∈ [(d4, o4), (d3, o3), (d2, o2), (d1, o1), (d0, o0)] ∧ TabObj (PySem.strKind pw w) PyData.str (dD (entN wh)) o ∧ (d == sysModules) = false := by
    match wh, hwh with
    | 0, _ => exact ⟨d0, o0, rfl, by simp, hT0, hs0⟩
    | 1, _ => exact ⟨d1, o1, rfl, by simp, hT1, hs1⟩
    | 2, _ => exact ⟨d2, o2, rfl, by simp, hT2, hs2⟩
    | 3, _ => exact ⟨d3, o3, rfl, by simp, hT3, hs3⟩
    | 4, _ => exact ⟨d4, o4, rfl, by simp, hT4, hs4⟩
    | n + 5, hn => omega
  refine tail_go (item_list la (by omega) hd ?_) (by with_unfolding_all rfl)
  have W := W.drop.only hmem
  refine store W (.tail (.tail (.tail (.tail .head)))) fun _ W => ?_
  refine x_assign ?_
  refine e_tx [] rfl W fun tp _ W => ?_
  refine store W (.tail (.tail (.tail (.tail (.tail .head))))) fun _ W => ?_
  have hl1 : layers = 1 ∨ layers = 2 := by omega
  have hlo := low_ok wh hwh
  generalize entN wh = ps at *
  have hw1 : ∀ c, (wr1 ps layers small c).length ≤ 10 := by
    intro c
    unfold wr1
    cases hf : ps.find? fun p => p.1 == [c] with
    | none => simp
    | some p =>
      have := hlo p (List.mem_of_find?_eq_some hf)
      simp only [Option.map_some, List.length_append, List.length_cons, List.length_nil]
      have h1 : (if layers = 2 then [97, 109, 112, 59] else ([] : List Nat)).length ≤ 4 := by split <;> simp
      have h2 : (if small = true then lowA p.2 else p.2).length ≤ 4 := by split; exact this.2.1; exact this.2.2
      omega
  have hlen : ∀ i, ((l.take i).flatMap (wr1 ps layers small)).length ≤ 10 * l.length := by
    intro i
    have h1 : ∀ l : List Nat, (l.flatMap (wr1 ps layers small)).length ≤ 10 * l.length := by
      intro l
      induction l with
      | nil => simp
      | cons a r ih =>
        have := hw1 a
        rw [List.flatMap_cons, List.length_append, List.length_cons]; omega
    have h2 := h1 (l.take i)
    have h3 : (l.take i).length ≤ l.length := by rw [List.length_take]; omega
    omega
  have hstep : ∀ i, i < l.length → (l.take (i + 1)).flatMap (wr1 ps layers small) = (l.take i).flatMap (wr1 ps layers small) ++ wr1 ps layers small (l.getD i 0) := by
    intro i hi
    rw [List.take_add_one, show l[i]? = some (l.getD i 0) by simp [hi], List.flatMap_append]
    simp
  refine x_for W (It.str (A := A.deeper (envOf "_law_written" (fnS 22) s.heap.objs.size 183 cd)) hh l t)
    (fun i m' N' => ∃ tp o1, N' = [(d, o)] ∧ m' = ([("small", some (.bool small)), ("layers", some (.int layers t2)), ("which", some (.int wh t1)), ("text", some (.str (tx l) t)), ("names", some (.ref d)),
      ("page", some (.str (tx ((l.take i).flatMap (wr1 ps layers small))) tp)), ("sign", o1)] : Loc))
    (fun _ _ _ _ _ _ => trivial) ?_ ?_ ?_
  · refine e_loc W (.tail (.tail (.tail .head))) ?_
    refine iter_str W fun I it s' h0 W => ?_
    exact ⟨I, it, _, _, rfl, h0, W, tp, _, rfl, rfl⟩
  · rintro i m' N' I it v s₁ hi ⟨tp, o1, rfl, rfl⟩ ⟨tv, rfl⟩ W
    have hs1 := hstep i hi
    have hle := hlen i
    generalize hc : l.getD i 0 = c at hs1 W
    refine store W (.tail (.tail (.tail (.tail (.tail (.tail .head)))))) fun s2 W => ?_
    have fin : ∀ {z : List Nat} {t3 : Tok} {o3 : Option Value} {s3 : Shared}, wr1 ps layers small c = z →
        Wk w s s.heap.objs.size [("small", some (.bool small)), ("layers", some (.int layers t2)), ("which", some (.int wh t1)), ("text", some (.str (tx l) t)), ("names", some (.ref d)),
          ("page", some (.str (tx ((l.take i).flatMap (wr1 ps layers small) ++ z)) t3)), ("sign", o3)] [(I, it), (d, o)] s3 →
        ∃ m3' N3, Wk w s s.heap.objs.size m3' ((I, it) :: N3) s3 ∧ ∃ tp o1, N3 = [(d, o)] ∧ m3' = ([("small", some (.bool small)), ("layers", some (.int layers t2)), ("which", some (.int wh t1)), ("text", some (.str (tx l) t)), ("names", some (.ref d)),
          ("page", some (.str (tx ((l.take (i + 1)).flatMap (wr1 ps layers small))) tp)), ("sign", o1)] : Loc) := by
      intro z t3 o3 s3 hd W3
      refine ⟨_, _, W3, t3, o3, rfl, ?_⟩
      rw [hs1, hd]
    refine x_if ?_
    refine wpAny_isTrue_Compare1 ?_
    refine e_loc W (.tail (.tail (.tail (.tail (.tail (.tail .head)))))) ?_
    refine e_loc W (.tail (.tail (.tail (.tail .head)))) ?_
    refine in_strTab (tab_at W (.tail _ (.head _)) hT hs) (wpAny_truthy_bool ?_)
    have W := W.toks (s2.toks + 1)
    rw [dD_lookup]
    have hwc : wr1 ps layers small c = match (ps.find? fun p => p.1 == [c]).map (·.2) with
      | some z => [38] ++ (if layers = 2 then [97, 109, 112, 59] else []) ++ (if small then lowA z else z) ++ [59]
      | none => [c] := rfl
    cases hf : ps.find? fun p => p.1 == [c] with
    | none =>
      rw [hf] at hwc
      refine x_augL W (.tail (.tail (.tail (.tail (.tail .head))))) ?_
      refine e_loc W (.tail (.tail (.tail (.tail (.tail (.tail .head)))))) ?_
      refine e_iadd W (by simp only [List.length_cons, List.length_nil]; omega) fun _ _ W => ?_
      refine store W (.tail (.tail (.tail (.tail (.tail .head))))) fun _ W => ?_
      exact wpAny_execs_nil (wpAny_execs_nil (fin hwc W))
    | some p =>
      rw [hf] at hwc
      obtain ⟨hlow, hz1, hz2⟩ := hlo p (List.mem_of_find?_eq_some hf)
      have hlk : Spec.lookup (.str (tx [c])) (dD ps) = some (PyData.str (tx p.2)) := by rw [dD_lookup, hf]; rfl
      refine x_augL W (.tail (.tail (.tail (.tail (.tail .head))))) ?_
      refine wpAny_BinOp ?_
      refine wpAny_BinOp ?_
      refine wpAny_BinOp ?_
      refine e_tx [38] rfl W fun _ _ W => ?_
      refine wpAny_BinOp ?_
      refine e_tx [97, 109, 112, 59] rfl W fun _ _ W => ?_
      refine wpAny_BinOp ?_
      refine e_loc W (.tail .head) ?_
      refine e_nat 1 rfl W fun _ _ W => ?_
      refine e_sub W (by omega) fun _ _ W => ?_
      refine e_amp W rfl hl1 fun _ _ W => ?_
      have h4 : (if layers = 2 then [97, 109, 112, 59] else ([] : List Nat)).length ≤ 4 := by split <;> simp
      refine e_cat W (by simp only [List.length_cons, List.length_nil]; omega) fun _ _ W => ?_
      refine IfExp_ ?_
      refine isTrue_plain ?_
      refine e_loc W .head ?_
      refine wpAny_truthy_bool ?_
      cases small with
      | true =>
        rw [if_pos rfl]
        refine Call_method0 rfl rfl ?_
        refine PyProof.Rows.Subscript_ ?_
        refine e_loc W (.tail (.tail (.tail (.tail .head)))) ?_
        refine e_loc W (.tail (.tail (.tail (.tail (.tail (.tail .head)))))) ?_
        refine item_strTab (tab_at W (.tail _ (.head _)) hT hs) hlk fun v hv => ?_
        obtain ⟨t5, rfl⟩ := Flat.str_inv hv
        refine SB.lower (fit_of (by rw [hlow]; show (lowA p.2).length ≤ _; omega)) ?_
        rw [hlow]
        refine e_cat (W.toks _) (by simp only [List.length_append, List.length_cons, List.length_nil]; omega) fun _ _ W => ?_
        refine e_tx [59] rfl W fun _ _ W => ?_
        refine e_cat W (by simp only [List.length_append, List.length_cons, List.length_nil]; omega) fun _ _ W => ?_
        refine e_iadd W (by simp only [List.length_append, List.length_cons, List.length_nil]; omega) fun _ _ W => ?_
        refine store W (.tail (.tail (.tail (.tail (.tail .head))))) fun _ W => ?_
        exact wpAny_execs_nil (wpAny_execs_nil (fin hwc W))
      | false =>
        rw [if_neg (by decide)]
        refine PyProof.Rows.Subscript_ ?_
        refine e_loc W (.tail (.tail (.tail (.tail .head)))) ?_
        refine e_loc W (.tail (.tail (.tail (.tail (.tail (.tail .head)))))) ?_
        refine item_strTab (tab_at W (.tail _ (.head _)) hT hs) hlk fun v hv => ?_
        obtain ⟨t5, rfl⟩ := Flat.str_inv hv
        refine e_cat (W.toks _) (by simp only [List.length_append, List.length_cons, List.length_nil]; omega) fun _ _ W => ?_
        refine e_tx [59] rfl W fun _ _ W => ?_
        refine e_cat W (by simp only [List.length_append, List.length_cons, List.length_nil]; omega) fun _ _ W => ?_
        refine e_iadd W (by simp only [List.length_append, List.length_cons, List.length_nil]; omega) fun _ _ W => ?_
        refine store W (.tail (.tail (.tail (.tail (.tail .head))))) fun _ W => ?_
        exact wpAny_execs_nil (wpAny_execs_nil (fin hwc W))
  · rintro m' N' s₁ ⟨tp, o1, rfl, rfl⟩ W
    refine x_ret ?_
    refine e_loc W (.tail (.tail (.tail (.tail (.tail .head))))) ?_
    rw [List.take_length]
    exact h _ _ W.grown
end
end Mine

end
section
open PySem PySem.W PyProof.Rows PySem.Calls PyProof.V
set_option Elab.async false
set_option maxRecDepth 100000
namespace Mine
noncomputable section

/-! ### rules for a generator's body -/
section
variable {M : Model} {A : Around} {R : GenEnd} {Y : Protocol} {n : Nat} {s₀ : Shared} {c : Code} {fs : List Frame} {s : Shared} {env : Env}
  {K : Flow → Sem Fin} {H : Value → Sem Fin} {gd : Bool → Bool} {lv : List Value → List Value}
/-- a statement that does not yield -/
theorem seg_plain {st : Stmt} (h : wpAny M (A.over c fs) (exec st env) (fun f s' => Seg M A R Y n s₀ c (K f) fs s') (fun x s' => Seg M A R Y n s₀ c (H x) fs s') s) :
    Seg M A R Y n s₀ c ((exec st env).wrap K H gd lv) fs s := seg_wrap h
theorem seg_If {test : Expr} {body orelse : List Stmt} {pos : Pos}
    (h : wpAny M (A.over c fs) (isTrue test env (eval test env)) (fun b s' => Seg M A R Y n s₀ c ((execs (if b then body else orelse) env).wrap K H gd lv) fs s') (fun x s' => Seg M A R Y n s₀ c (H x) fs s') s) :
    Seg M A R Y n s₀ c ((exec (.If test body orelse pos) env).wrap K H gd lv) fs s := by
  rw [exec_If]
  refine seg_at ?_
  show Seg M A R Y n s₀ c ((isTrue test env (eval test env) >>= fun b => if b = true then execs body env else execs orelse env).wrap K H gd lv) fs s
  rw [Sem.bind_eq_wrap', Sem.wrap_wrap]
  refine seg_wrap (wpAny_mono h (fun b s' h' => ?_) fun _ _ x => x)
  cases b <;> exact h'
theorem seg_For {target iter : Expr} {body orelse : List Stmt} {pos : Pos}
    (h : wpAny M (A.over c fs) (eval iter env) (fun x s₁ => wpAny M (A.over c fs) (pyIter x) (fun it s₂ => ∀ p, Seg M A R Y n s₀ (.forLoop target it body orelse env) (M.den (.forLoop target it body orelse env))
      (.ret (fun r => ((match r with | .ok f => (.pure f : Sem Flow) | .error e => .raise e).onRaise fun (x : Value) => do
        if (← field x 1) == Value.none then unsupported "frame.own-activation:exception-without-traceback"
        setFlight x env.frame).wrap K H gd lv) none (gd false) (lv []) c p [] :: fs) s₂) (fun x s' => Seg M A R Y n s₀ c (H x) fs s') s₁) (fun x s' => Seg M A R Y n s₀ c (H x) fs s') s)
    (hs : ∀ x, foldedSetIterable iter env x = pure x := by intro _; rfl) :
    Seg M A R Y n s₀ c ((exec (.For target iter body orelse pos) env).wrap K H gd lv) fs s := by
  rw [exec_For]
  refine seg_at ?_
  show Seg M A R Y n s₀ c ((eval iter env >>= fun x => foldedSetIterable iter env x >>= fun x => standAt iter.pos >>= fun _ => holding [x] (pyIter x) >>= fun it => runOwn (.forLoop target it body orelse env) env).wrap K H gd lv) fs s
  rw [Sem.bind_eq_wrap', Sem.wrap_wrap]
  refine seg_wrap (wpAny_mono h (fun x s₁ h₁ => ?_) fun _ _ x => x)
  show Seg M A R Y n s₀ c ((foldedSetIterable iter env x >>= fun x => standAt iter.pos >>= fun _ => holding [x] (pyIter x) >>= fun it => runOwn (.forLoop target it body orelse env) env).wrap K H gd lv) fs s₁
  rw [hs x, pure_bind, Sem.bind_eq_wrap', Sem.wrap_wrap]
  refine seg_wrap (wpAny_standAt ?_)
  rw [Sem.bind_eq_wrap', Sem.wrap_wrap]
  refine seg_wrap (wpAny_holding (wpAny_mono h₁ (fun it s₂ h₂ => ?_) fun _ _ x => x))
  exact seg_call h₂
end

section
variable {w : World} {A : Around} {R : GenEnd} {Y : Protocol} {n : Nat} {s₀ : Shared} {fs : List Frame} {s : Shared} {env : Env}
noncomputable def turnK (target : Expr) (it : Value) (body orelse : List Stmt) (env : Env) : Flow → Sem Fin
  | .next | .cont => .pure (.again (.forLoop target it body orelse env))
  | .brk => .pure (.done .next)
  | .ret v => .pure (.done (.ret v))
noncomputable def turnH (env : Env) (e : Value) : Sem Fin := (do noteFrame e env; theTreesLotGoes e : Sem Unit).wrap (fun _ => .raise e) .raise id id
theorem seg_forLoop {target : Expr} {it : Value} {body orelse : List Stmt}
    (h : wpAny (model pw w) (A.over (.forLoop target it body orelse env) fs) (pyNext it) (fun r s₁ => match r with
      | none => Seg (model pw w) A R Y n s₀ (.forLoop target it body orelse env) (.pure (.again (.block orelse env))) fs s₁
      | some v => wpAny (model pw w) (A.over (.forLoop target it body orelse env) fs) (letOwnedTupleGo target it v) (fun _ s₂ => wpAny (model pw w) (A.over (.forLoop target it body orelse env) fs) (assign target env v) (fun _ s₃ =>
          Seg (model pw w) A R Y n s₀ (.forLoop target it body orelse env) ((execs body env).wrap (turnK target it body orelse env) (turnH env) id id) fs s₃) (fun _ _ => False) s₂) (fun _ _ => False) s₁) (fun _ _ => False) s) :
    Seg (model pw w) A R Y n s₀ (.forLoop target it body orelse env) ((model pw w).den (.forLoop target it body orelse env)) fs s := by
  show Seg _ A R Y n s₀ _ ((forTurn target it body orelse env).onRaise (fun x => do noteFrame x env; theTreesLotGoes x)) fs s
  rw [Sem.onRaise_eq_wrap]
  unfold forTurn
  rw [Sem.bind_eq_wrap', Sem.wrap_wrap]
  refine seg_wrap (wpAny_standAt ?_)
  rw [Sem.bind_eq_wrap', Sem.wrap_wrap]
  refine seg_wrap (wpAny_onRaise (wpAny_mono h (fun r s₁ h₁ => ?_) fun _ _ x => x.elim))
  cases r with
  | none => exact h₁
  | some v =>
    show Seg _ A R Y n s₀ _ (Sem.wrap _ _ _ _ (letOwnedTupleGo target it v >>= fun _ => _)) fs s₁
    rw [Sem.bind_eq_wrap', Sem.wrap_wrap]
    refine seg_wrap (wpAny_mono h₁ (fun _ s₂ h₂ => ?_) fun _ _ x => x.elim)
    rw [Sem.bind_eq_wrap', Sem.wrap_wrap]
    refine seg_wrap (wpAny_mono h₂ (fun _ s₃ h₃ => ?_) fun _ _ x => x.elim)
    rw [Sem.bind_eq_wrap', Sem.wrap_wrap]
    rw [Sem.wrap_congr (execs body env) _ _ (K' := turnK target it body orelse env) (H' := turnH env) (fun f => by cases f <;> rfl)
      (fun e => by first | rfl | exact Sem.bind_eq_wrap _ _ | (show (do noteFrame e env; theTreesLotGoes e : Sem Unit).bind (fun _ => .raise e) = _; rw [Sem.bind_eq_wrap]; rfl))]
    exact h₃
theorem seg_block_nil {c : Code} {k : Result → Sem Fin} {h g l c₁ p₁ kp} {fs' : List Frame} (hk : Seg (model pw w) A R Y n s₀ c₁ (k (.ok .next)) fs' s) :
    Seg (model pw w) A R Y n s₀ c (.pure (.again (.block [] env))) (.ret k h g l c₁ p₁ kp :: fs') s :=
  seg_again rfl (seg_leaf (.ok .next) hk)
end
end
end Mine

end
section
open PySem PySem.W PyProof.Rows PySem.Calls PyProof.V
set_option Elab.async false
set_option maxRecDepth 100000
namespace Mine
noncomputable section
variable {w : World} {A : Around} {E : Value → Shared → Prop} {s₀ s : Shared} {L : Addr} {m m' : Loc} {N : List (Addr × Obj)} {nm : Str} {sc : Scope} {f : Addr} {cd : Value}

/-- a call of a generator of the text -/
theorem call_gen {R : Result → Shared → Prop} {f : Addr} {i : Nat} {nm : Str} {args : List Value} (binds : List (Str × Value)) (hf : Fn w f i nm) (S : Stands w s.heap) (hroom : A.depth < recursionLimit)
    (h : ∀ (cd : Value) (h1 : Heap) (tk : Nat) (t1 t2 : Tok), h1.Ns s.heap.objs.size (fun x => binds.reverse.lookup x) → (∀ b o, s.heap.get? b = some o → h1.get? b = some o) → h1.objs.size = s.heap.objs.size + 1 →
      R (.ok (.ret (.ref (s.heap.objs.size + 1)))) { s with heap := h1.push { cls := .type "generator", data := .fields #[.int s.gens.size 0, .str nm t1, .str nm t2] }, gens := s.gens.push (.fresh (.func (fnB i) (envOf nm (fnS i) s.heap.objs.size f cd))), toks := tk })
    (hbind : ∀ pm cd doc, bindArgs (docDef nm (fnP i) (fnB i) (fnS i) pm cd doc) ⟨args, []⟩ = pure binds := by intros; rfl)
    (hloc : ((binds.map (·.1)).all fun x => decide ((fnS i).names.lookup x = some .local)) = true := by kernel_rfl)
    (hco : (fnS i).isCoroutine = false := by kernel_rfl) (hgen : (fnS i).isGenerator = true := by kernel_rfl) (hk : (fnS i).kind = .function := by kernel_rfl) (hcell : ((fnS i).names.all fun x => decide (x.2 ≠ .cell)) = true := by kernel_rfl) :
    codeAny (model pw w) A (.call (.ref f) ⟨args, []⟩) R s := by
  obtain ⟨o, pm, cd, doc, ho, hd, hcd⟩ := hf
  have hloc' : ∀ x ∈ binds, (fnS i).names.lookup x.1 = some .local := fun x hx => of_decide_eq_true (List.all_eq_true.mp hloc x.1 (List.mem_map_of_mem hx))
  have hcell' : ∀ x ∈ (fnS i).names, x.2 ≠ .cell := fun x hx => of_decide_eq_true (List.all_eq_true.mp hcell x hx)
  refine codeAny_call_generator hroom (S _ _ ho) hd hco hgen rfl (hcd.keeps S) ?_
  rw [hbind]
  refine wpAny_pure (wpAny_newFunctionEnv hcell' hloc' (fun h₁ hns hsb => ⟨S.nolimit.fresh _ hsb, ?_⟩) hk)
  have hsz : h₁.objs.size = s.heap.objs.size + 1 := by rw [hsb.1, Heap.size_push]
  have := h cd h₁ (s.toks + binds.length + 1 + 1) (s.toks + binds.length) (s.toks + binds.length + 1) hns (fun b o e => hsb.extBut b o (Nat.ne_of_lt (Heap.lt_size e)) (Heap.get?_push_of_some _ e)) hsz
  rw [← hsz] at this
  exact this
end
end Mine

end
section
open PySem PySem.W PyProof.Rows PySem.Calls PyProof.V
set_option Elab.async false
set_option maxRecDepth 100000
namespace Mine
noncomputable section
variable {w : World} {A : Around} {E : Value → Shared → Prop} {s₀ s : Shared} {L : Addr} {m m1 m2 : Loc} {N : List (Addr × Obj)} {nm : Str} {sc : Scope} {f : Addr} {cd : Value}

/-- two of the new objects changed -/
theorem Wk.mut2 {D1 D2 : Addr} {o1 o2 p1 p2 : Obj} {h' : Heap} (W : Wk w s₀ L m ((D1, o1) :: (D2, o2) :: N) s) (k : ∀ b o, b ≠ D1 → b ≠ D2 → s.heap.get? b = some o → h'.get? b = some o) (h1 : h'.get? D1 = some p1) (h2 : h'.get? D2 = some p2) (tk : Nat) :
    Wk w s₀ L m ((D1, p1) :: (D2, p2) :: N) { s with heap := h', toks := tk } := by
  have a1 := W.N _ List.mem_cons_self
  have a2 := W.N _ (List.mem_cons_of_mem _ List.mem_cons_self)
  refine ⟨⟨ns_same W.F.ns fun oL e => k L oL (Ne.symm a1.2.1) (Ne.symm a2.2.1) e, fun b ob e => k b ob ?_ ?_ (W.F.keep b ob e), W.F.above⟩, fun p hp => ?_, W.os, W.gens, W.nd, W.st, W.na⟩
  · rintro rfl
    rw [a1.2.2] at e; cases e
  · rintro rfl
    rw [a2.2.2] at e; cases e
  · have nd1 := (List.nodup_cons.mp W.na).1
    have nd2 := (List.nodup_cons.mp (List.nodup_cons.mp W.na).2).1
    rcases List.mem_cons.mp hp with rfl | hp
    · exact ⟨h1, a1.2.1, a1.2.2⟩
    rcases List.mem_cons.mp hp with rfl | hp
    · exact ⟨h2, a2.2.1, a2.2.2⟩
    have a3 := W.N p (List.mem_cons_of_mem _ (List.mem_cons_of_mem _ hp))
    refine ⟨k _ _ (fun e => ?_) (fun e => ?_) a3.1, a3.2⟩
    · exact nd1 (List.mem_cons_of_mem _ (List.mem_map.mpr ⟨p, hp, e⟩))
    · exact nd2 (List.mem_map.mpr ⟨p, hp, e⟩)

noncomputable def enumIto (I : Addr) (i : Nat) (o : Obj) : Prop := ∃ old, o = { cls := .type "enumerate", dict := none, data := .fields #[.none, .bool false, .ref I, rawInt i, .none, old], slots := #[] }

theorem enum_some {l : List Nat} {t : Tok} {Ea I : Addr} {eo io : Obj} {i : Nat} {x1 x2 : Str} {q1 q2 q3 : Pos} {kk : Nat} {None : Shared → Prop} {Body : Shared → Prop} (hh : A.handled = none) (W : Wk w s₀ L m ((Ea, eo) :: (I, io) :: N) s) (he : enumIto I i eo) (hio : strIto l t i io) (hi : i < l.length)
    (hu : ∀ tk, ∃ m1, Upd x1 (.int (i : Int) tk) m m1 ∧ ∀ tc, ∃ m2, Upd x2 (.str (tx [l.getD i 0]) tc) m1 m2 ∧
      ∀ eo' io' s', enumIto I (i + 1) eo' → strIto l t (i + 1) io' → Wk w s₀ L m2 ((Ea, eo') :: (I, io') :: N) s' → Body s')
    (hk : sc.kind = .function := by kernel_rfl) (hl1 : (envOf nm sc L f cd).kindOf x1 = some .local := by kernel_rfl) (hl2 : (envOf nm sc L f cd).kindOf x2 = some .local := by kernel_rfl) :
    wpAny (model pw w) A (pyNext (.ref Ea)) (fun r s₁ => match r with
      | none => None s₁
      | some v => wpAny (model pw w) A (letOwnedTupleGo (.Tuple [.Name x1 q1, .Name x2 q2] kk q3) (.ref Ea) v) (fun _ s₂ => wpAny (model pw w) A (assign (.Tuple [.Name x1 q1, .Name x2 q2] kk q3) (envOf nm sc L f cd) v) (fun _ s₃ => Body s₃) (fun _ _ => False) s₂) (fun _ _ => False) s₁) E s := by
  obtain ⟨old, rfl⟩ := he
  have hEI : Ea ≠ I := fun e => (List.nodup_cons.mp W.na).1 (by rw [e]; exact List.mem_cons_self)
  have hEl := W.lookN List.mem_cons_self
  have hIl := W.lookN (List.mem_cons_of_mem _ List.mem_cons_self)
  have hx : (tx l).cps[i]? = some (l.getD i 0) := by simp [hi]
  have hsz : (tx l).cps.size = l.length := by simp
  have rest : ∀ (x : Value) (h' : Heap) (tk : Nat) (ty : String), (ty = "str_ascii_iterator" ∨ ty = "str_iterator") → (∃ c u, (tx l).cps[i]? = some c ∧ x = .str ⟨#[c]⟩ u) → IsEnumOut h' Ea I ((i : Int) + 1) x s.heap.objs.size → h'.IsStrIter I ty (tx l) t (i + 1) →
      h'.get? s.heap.objs.size = some { cls := .type "tuple", data := .seq #[.int i tk, x] } → h'.objs.size = s.heap.objs.size + 1 → (∀ b o, b ≠ Ea → b ≠ I → s.heap.get? b = some o → h'.get? b = some o) →
      wpAny (model pw w) A (letOwnedTupleGo (.Tuple [.Name x1 q1, .Name x2 q2] kk q3) (.ref Ea) (.ref s.heap.objs.size)) (fun _ s₂ => wpAny (model pw w) A (assign (.Tuple [.Name x1 q1, .Name x2 q2] kk q3) (envOf nm sc L f cd) (.ref s.heap.objs.size)) (fun _ s₃ => Body s₃) (fun _ _ => False) s₂) (fun _ _ => False) { s with heap := h', toks := tk + 1 } := by
    rintro x h' tk ty hty ⟨c, u, hc, rfl⟩ heo ⟨oi, hoi, hci, hdi⟩ htu hsz' hk'
    rw [hx] at hc
    cases hc
    have W1 := W.mut2 hk' heo hoi (tk + 1)
    refine wpAny_letOwnedTupleGo_enum heo fun h₂ he₂ hs₂ => ?_
    have W2 := W1.mut (fun b ob hb e => by rw [hs₂.2 b hb]; exact e) he₂ (tk + 1)
    have hne : s.heap.objs.size ≠ Ea := Nat.ne_of_gt (Heap.lt_size hEl)
    have ht₂ : h₂.IsTuple s.heap.objs.size #[.int i tk, .str ⟨#[l.getD i 0]⟩ u] := ⟨_, (hs₂.2 _ hne).trans htu, rfl, _, rfl⟩
    refine wpAny_assign_Tuple hh ht₂ rfl rfl fun h₃ hx₃ => ?_
    have W3 := W2.keeps (h' := h₃) (fun b ob e => hx₃ b ob (Nat.ne_of_lt (Heap.lt_size e)) e) (tk + 1)
    obtain ⟨m1, hu1, hu'⟩ := hu tk
    obtain ⟨m2, hu2, hb⟩ := hu' u
    show wpAny _ A (do holding [.str ⟨#[l.getD i 0]⟩ u] (assign (.Name x1 q1) (envOf nm sc L f cd) (.int i tk)); do holding [] (assign (.Name x2 q2) (envOf nm sc L f cd) (.str ⟨#[l.getD i 0]⟩ u)); pure ()) _ _ _
    refine wpAny_bind (wpAny_holding (wpAny_assign_Name (store W3 hu1 (fun s4 W4 => ?_) hk hl1)))
    refine wpAny_bind (wpAny_holding (wpAny_assign_Name (store W4 hu2 (fun s5 W5 => wpAny_pure ?_) hk hl2)))
    refine hb _ _ s5 ⟨_, rfl⟩ ⟨?_, hdi⟩ W5
    rcases hty with rfl | rfl
    · exact .inl hci
    · exact .inr hci
  obtain ⟨hc, hd⟩ := hio
  rcases hc with hc | hc
  · exact wpAny_pyNext_enum_itemD (Draws.strAscii (A := A.in1) hh I (tx l) t) hEl ⟨_, hIl, hc, hd⟩ (by rw [hsz]; exact hi) hEI (by simpa using hEI)
      fun x h' tk hP heo hst htu hsz' hk' => rest x h' tk _ (.inl rfl) hP heo hst htu hsz' hk'
  · exact wpAny_pyNext_enum_itemD (Draws.strWide (A := A.in1) hh I (tx l) t) hEl ⟨_, hIl, hc, hd⟩ (by rw [hsz]; exact hi) hEI (by simpa using hEI)
      fun x h' tk hP heo hst htu hsz' hk' => rest x h' tk _ (.inr rfl) hP heo hst htu hsz' hk'
theorem raise_stop {α : Type} {Q : α → Shared → Prop} (hh : A.handled = none)
    (hE : ∀ h' e, (∀ b o, s.heap.get? b = some o → h'.get? b = some o) → (∃ o, h'.get? e = some o ∧ o.cls = .type "StopIteration") → E (.ref e) { s with heap := h' }) :
    wpAny (model pw w) A (newExc (.type "StopIteration") [] >>= fun v => (raiseNew v : Sem α)) Q E s := by
  refine wpAny_bind ?_
  simp only [newExc, newTuple]
  refine wpAny_bind (wpAny_newObj_type ?_ (by size_fits))
  refine wpAny_bind (m := firstArgMember _ _) (wpAny_of_eq (a := Value.none) (by first | rfl | (simp only [firstArgMember]; rfl)) ?_)
  refine wpAny_newObj_type ?_ (by size_fits)
  simp only [raiseNew]
  refine wpAny_bind (wpAny_handled ?_)
  rw [hh]
  refine wpAny_throw ?_
  exact hE _ _ (fun b ob e => Heap.get?_push_of_some _ (Heap.get?_push_of_some _ e)) ⟨_, Heap.get?_push_size _ rfl, rfl⟩
theorem nextOf_end {I : Addr} {ty : String} {x : Str} {t : Tok} {i : Nat} {Q : Value → Shared → Prop} (hh : A.handled = none) (hty : ty = "str_ascii_iterator" ∨ ty = "str_iterator")
    (hit : s.heap.IsStrIter I ty x t i) (hx : x.cps[i]? = none)
    (hE : ∀ h' e, Heap.ExtBut I s.heap h' → (∃ o, h'.get? I = some o) → (∃ o, h'.get? e = some o ∧ o.cls = .type "StopIteration") → E (.ref e) { s with heap := h' }) :
    wpAny (model pw w) A (Builtin.SmallTypes.nextOf (.ref I)) Q E s := by
  obtain ⟨o, ho, hc, hd⟩ := id hit
  unfold Builtin.SmallTypes.nextOf
  rcases hty with rfl | rfl
  · refine wpAny_bind (wpAny_callSpecial?_slot (name := Str.ofString "__next__") hit.typeIs F.slot_str_ascii_iterator_next
      (wpAny_call_entry F.slot_str_ascii_iterator_next hit.typeIs F.entry_str_ascii_iterator_next ?_ (F.args_str_ascii_iterator_next_1 _)))
    show wpAny _ _ (field (.ref I) 0 >>= _) _ _ s
    refine wpAny_bind (wpAny_field ho hd (x := .str x t) rfl ?_)
    show wpAny _ _ (field (.ref I) 1 >>= _) _ _ s
    refine wpAny_bind (wpAny_field ho hd (x := .int i 0) rfl ?_)
    simp only [Int.toNat_natCast, hx]
    refine wpAny_bind (wpAny_rule (wpAny_bind (wpAny_setField ho hd (by simp) (wpAny_bind (wpAny_letGo ?_)))))
    refine raise_stop (s := { s with heap := s.heap.update I (Obj.mapFields (·.setIfInBounds 0 Value.none)) }) (A := A.in1) hh fun h' e hk he => hE h' e (fun b ob hb e => hk b ob ((Heap.SameBut.update ..).extBut b ob hb e)) ⟨_, hk _ _ (Heap.get?_update_self _ ho (by obtain ⟨oc, od, odt, os⟩ := o; cases hd; rfl))⟩ he
  · refine wpAny_bind (wpAny_callSpecial?_slot (name := Str.ofString "__next__") hit.typeIs F.slot_str_iterator_next
      (wpAny_call_entry F.slot_str_iterator_next hit.typeIs F.entry_str_iterator_next ?_ (F.args_str_iterator_next_1 _)))
    show wpAny _ _ (field (.ref I) 0 >>= _) _ _ s
    refine wpAny_bind (wpAny_field ho hd (x := .str x t) rfl ?_)
    show wpAny _ _ (field (.ref I) 1 >>= _) _ _ s
    refine wpAny_bind (wpAny_field ho hd (x := .int i 0) rfl ?_)
    simp only [Int.toNat_natCast, hx]
    refine wpAny_bind (wpAny_rule (wpAny_bind (wpAny_setField ho hd (by simp) (wpAny_bind (wpAny_letGo ?_)))))
    refine raise_stop (s := { s with heap := s.heap.update I (Obj.mapFields (·.setIfInBounds 0 Value.none)) }) (A := A.in1) hh fun h' e hk he => hE h' e (fun b ob hb e => hk b ob ((Heap.SameBut.update ..).extBut b ob hb e)) ⟨_, hk _ _ (Heap.get?_update_self _ ho (by obtain ⟨oc, od, odt, os⟩ := o; cases hd; rfl))⟩ he
theorem enum_none {l : List Nat} {t : Tok} {Ea I : Addr} {eo io : Obj} {X : Shared → Prop} {Y : Value → Shared → Prop} (hh : A.handled = none) (W : Wk w s₀ L m ((Ea, eo) :: (I, io) :: N) s) (he : enumIto I l.length eo) (hio : strIto l t l.length io)
    (h : ∀ io' s', Wk w s₀ L m ((Ea, eo) :: (I, io') :: N) s' → X s') :
    wpAny (model pw w) A (pyNext (.ref Ea)) (fun r s₁ => match r with | none => X s₁ | some v => Y v s₁) E s := by
  obtain ⟨old, rfl⟩ := he
  have hEl := W.lookN List.mem_cons_self
  have hIl := W.lookN (List.mem_cons_of_mem _ List.mem_cons_self)
  obtain ⟨hc, hd⟩ := hio
  have hT : s.TypeIs (.ref Ea) "enumerate" := ⟨_, hEl, rfl⟩
  unfold pyNext
  refine wpAny_bind (wpAny_attempt (wpAny_callSpecial?_slot (name := Str.ofString "__next__") hT F.slot_enumerate_next
    (wpAny_call_entry F.slot_enumerate_next hT F.entry_enumerate_next ?_ (F.args_enumerate_next_1 _))))
  show wpAny _ _ (field (.ref Ea) 2 >>= _) _ _ _
  refine wpAny_bind (wpAny_field hEl rfl (x := .ref I) rfl ?_)
  obtain ⟨ty, hty, hit⟩ : ∃ ty, (ty = "str_ascii_iterator" ∨ ty = "str_iterator") ∧ s.heap.IsStrIter I ty (tx l) t l.length := by
    rcases hc with hc | hc
    · exact ⟨_, .inl rfl, _, hIl, hc, hd⟩
    · exact ⟨_, .inr rfl, _, hIl, hc, hd⟩
  refine wpAny_bind (nextOf_end (A := A.in1) hh hty hit (by simp) fun h' e hx ⟨io', hio'⟩ ⟨o, ho, hc'⟩ => ?_)
  refine wpAny_bind (wpAny_isInstance (T := "StopIteration") (b := true) ⟨o, ho, hc'⟩ isSubtype_stop ?_)
  refine wpAny_pure (h io' _ (Wk.swap (Wk.mut W.swap (fun b o hb e => hx b o hb e) hio' s.toks)))
/-- enumerate(text), made -/
theorem call_enum {l : List Nat} {t : Tok} {Q : Value → Shared → Prop} (W : Wk w s₀ L m N s)
    (h : ∀ Ea I eo io s', enumIto I 0 eo → strIto l t 0 io → Wk w s₀ L m ((Ea, eo) :: (I, io) :: N) s' → Q (.ref Ea) s') : wpAny (model pw w) A (call (.type "enumerate") [.str (tx l) t]) Q E s := by
  refine call_enumerate_str fun h' he hit hsz hk => ?_
  obtain ⟨io, hio, hc, hd⟩ := hit
  have W1 : Wk w s₀ L m ((s.heap.objs.size, io) :: N) { s with heap := h' } := W.new hk (size_free _) hio s.toks
  have hEn : s.heap.get? (s.heap.objs.size + 1) = none := Heap.get?_none_of_le (by omega)
  have W2 : Wk w s₀ L m ((s.heap.objs.size + 1, _) :: (s.heap.objs.size, io) :: N) { s with heap := h' } :=
    ⟨W1.F, fun p hp => by
      rcases List.mem_cons.mp hp with rfl | hp
      · exact ⟨he, W.notL hEn, W.old hEn⟩
      · exact W1.N p hp, W1.os, W1.gens, W1.nd, W1.st, List.nodup_cons.mpr ⟨by
        rw [List.map_cons, List.mem_cons, not_or]
        exact ⟨Nat.succ_ne_self _, W.freshN hEn⟩, W1.na⟩⟩
  refine h _ _ _ io _ ⟨.none, rfl⟩ ⟨?_, hd⟩ W2
  unfold strIterType at hc
  split at hc
  · exact .inl hc
  · exact .inr hc
end
end Mine

end
section
open PySem PySem.W PyProof.Rows PySem.Calls PyProof.V
set_option Elab.async false
set_option maxRecDepth 100000
namespace Mine
noncomputable section
variable {w : World} {A : Around} {E : Value → Shared → Prop} {s₀ s : Shared} {L : Addr} {m m1 m2 : Loc} {N : List (Addr × Obj)} {nm : Str} {sc : Scope} {f : Addr} {cd : Value}

theorem store_sz {x : Str} {v : Value} {Q : Unit → Shared → Prop} (W : Wk w s₀ L m N s) (hu : Upd x v m m1) (h : ∀ s', Wk w s₀ L m1 N s' → s'.heap.objs.size = s.heap.objs.size → Q () s')
    (hk : sc.kind = .function := by kernel_rfl) (hl : (envOf nm sc L f cd).kindOf x = some .local := by kernel_rfl) :
    wpAny (model pw w) A (storeName (envOf nm sc L f cd) x v) Q E s :=
  wpAny_storeName_local hl W.F.ns (fun h' hn hs => h _ ⟨by rw [hu.lk W.nd]; exact W.F.set hn hs, W.N.set hs, W.os, W.gens, by rw [hu.names]; exact W.nd, W.st, W.na⟩ hs.1)
    (by show (sc.kind == .class || (sc.kind == .module && L != mainGlobals)) = false; rw [hk]; rfl)
theorem call_enum_sz {l : List Nat} {t : Tok} {Q : Value → Shared → Prop} (W : Wk w s₀ L m N s)
    (h : ∀ eo io s', enumIto s.heap.objs.size 0 eo → strIto l t 0 io → Wk w s₀ L m ((s.heap.objs.size + 1, eo) :: (s.heap.objs.size, io) :: N) s' → Q (.ref (s.heap.objs.size + 1)) s') : wpAny (model pw w) A (call (.type "enumerate") [.str (tx l) t]) Q E s := by
  refine call_enumerate_str fun h' he hit hsz hk => ?_
  obtain ⟨io, hio, hc, hd⟩ := hit
  have W1 : Wk w s₀ L m ((s.heap.objs.size, io) :: N) { s with heap := h' } := W.new hk (size_free _) hio s.toks
  have hEn : s.heap.get? (s.heap.objs.size + 1) = none := Heap.get?_none_of_le (by omega)
  have W2 : Wk w s₀ L m ((s.heap.objs.size + 1, _) :: (s.heap.objs.size, io) :: N) { s with heap := h' } :=
    ⟨W1.F, fun p hp => by
      rcases List.mem_cons.mp hp with rfl | hp
      · exact ⟨he, W.notL hEn, W.old hEn⟩
      · exact W1.N p hp, W1.os, W1.gens, W1.nd, W1.st, List.nodup_cons.mpr ⟨by
        rw [List.map_cons, List.mem_cons, not_or]
        exact ⟨Nat.succ_ne_self _, W.freshN hEn⟩, W1.na⟩⟩
  refine h _ io _ ⟨.none, rfl⟩ ⟨?_, hd⟩ W2
  unfold strIterType at hc
  split at hc
  · exact .inl hc
  · exact .inr hc

/-! ### the items of _iter_escaped_chars -/
noncomputable def escItems : Nat → Bool → List Nat → List (Nat × List Nat)
  | i, true, [] => [(i - 1, [92])]
  | _, false, [] => []
  | i, true, c :: r => (i, [92, c]) :: escItems (i + 1) false r
  | i, false, c :: r => if c = 92 then escItems (i + 1) true r else (i, [c]) :: escItems (i + 1) false r

/-- all objects of a heap but the head's and the named ones -/
noncomputable def restN (w : World) (h : Heap) (ex : List Addr) : List (Addr × Obj) :=
  (List.range h.objs.size).filterMap fun b => if b ∈ ex ∨ ((H1 w.params).get? b).isSome = true then none else (h.get? b).map fun o => (b, o)
theorem restN_mem {h : Heap} {ex : List Addr} {p : Addr × Obj} : p ∈ restN w h ex ↔ p.1 ∉ ex ∧ (H1 w.params).get? p.1 = none ∧ h.get? p.1 = some p.2 := by
  unfold restN
  rw [List.mem_filterMap]
  constructor
  · rintro ⟨b, hb, he⟩
    split at he
    · cases he
    · rename_i hn
      rw [not_or] at hn
      cases ho : h.get? b with
      | none => rw [ho] at he; cases he
      | some o =>
        rw [ho] at he
        cases he
        exact ⟨hn.1, by simpa using hn.2, ho⟩
  · rintro ⟨h1, h2, h3⟩
    refine ⟨p.1, List.mem_range.mpr (Heap.lt_size h3), ?_⟩
    rw [if_neg (by rw [not_or]; exact ⟨h1, by simp [h2]⟩), h3]; rfl
theorem restN_nodup {h : Heap} {ex : List Addr} : ((restN w h ex).map (·.1)).Nodup := by
  unfold restN
  refine List.pairwise_map.mpr (List.Pairwise.filterMap _ (R := fun a b => a ≠ b) ?_ List.nodup_range)
  intro a a' hne b hb b' hb' e
  have key : ∀ {a : Addr} {b : Addr × Obj}, (if a ∈ ex ∨ ((H1 w.params).get? a).isSome = true then none else (h.get? a).map fun o => (a, o)) = some b → b.1 = a := by
    intro a b hb
    split at hb
    · cases hb
    · cases ho : h.get? a with
      | none => rw [ho] at hb; cases hb
      | some o => rw [ho] at hb; cases hb; rfl
  exact hne (by rw [← key hb, ← key hb', e])
end
end Mine

end
section
open PySem PySem.W PyProof.Rows PySem.Calls PyProof.V
set_option Elab.async false
set_option maxRecDepth 100000
namespace Mine
noncomputable section
variable {w : World} {A : Around} {E : Value → Shared → Prop} {s₀ s : Shared} {L : Addr} {m m1 m2 : Loc} {N : List (Addr × Obj)} {nm : Str} {sc : Scope} {f : Addr} {cd : Value}

/-- what a generator's step leaves alone -/
structure Eff (Lg I : Addr) (s₀ s₁ : Shared) : Prop where
  keep : ∀ b o, b ≠ Lg → b ≠ I + 1 → b ≠ I → s₀.heap.get? b = some o → s₁.heap.get? b = some o
  os : s₁.os = s₀.os
  gens : GG s₀.gens s₁.gens
noncomputable def gBase (w : World) (s : Shared) : Shared := { s with heap := H1 w.params }
theorem h1_size (P : Params) : (H1 P).objs.size = 189 := by kernel_rfl
theorem h1_none {P : Params} {a : Addr} (h : 189 ≤ a) : (H1 P).get? a = none := Heap.get?_none_of_le (by rw [h1_size]; exact h)
/-- within a segment that began at s₀ -/
noncomputable abbrev GIn (w : World) (Lg I : Addr) (s₀ : Shared) (m : Loc) (Nx : List (Addr × Obj)) (s : Shared) : Prop := Wk w (gBase w s₀) Lg m (Nx ++ restN w s₀.heap [Lg, I + 1, I]) s
theorem GIn.eff {Lg I : Addr} {Nx : List (Addr × Obj)} (S : Stands w s₀.heap) (W : GIn w Lg I s₀ m Nx s) : Eff Lg I s₀ s where
  keep := fun b o h1 h2 h3 e => by
    cases hb : (H1 w.params).get? b with
    | some o' =>
      have e1 := S b o' hb
      rw [e] at e1; cases e1
      exact W.F.keep b o hb
    | none =>
      have : (b, o) ∈ restN w s₀.heap [Lg, I + 1, I] := restN_mem.mpr ⟨by simp [h1, h2, h3], hb, e⟩
      exact W.lookN (List.mem_append_right _ this)
  os := W.os
  gens := W.gens
theorem GIn.start {Lg I : Addr} {eo io : Obj} (S : Stands w s.heap) (hL : 189 ≤ Lg) (hLI : Lg < I) (ns : s.heap.Ns Lg (lk m)) (nd : (names m).Nodup) (he : s.heap.get? (I + 1) = some eo) (hi : s.heap.get? I = some io) :
    GIn w Lg I s m [(I + 1, eo), (I, io)] s := by
  refine ⟨⟨ns, fun b o e => S b o e, by show (H1 w.params).objs.size ≤ Lg; rw [h1_size]; exact hL⟩, fun p hp => ?_, rfl, .refl _, nd, fun b o e => e, ?_⟩
  · rcases List.mem_append.mp hp with hp | hp
    · rcases List.mem_cons.mp hp with rfl | hp
      · exact ⟨he, Nat.ne_of_gt (Nat.lt_succ_of_lt hLI), h1_none (Nat.le_trans hL (Nat.le_of_lt (Nat.lt_succ_of_lt hLI)))⟩
      · rw [List.mem_singleton.mp hp]
        exact ⟨hi, Nat.ne_of_gt hLI, h1_none (Nat.le_trans hL (Nat.le_of_lt hLI))⟩
    · obtain ⟨h1, h2, h3⟩ := restN_mem.mp hp
      exact ⟨h3, fun e => h1 (by simp [e]), h2⟩
  · rw [List.map_append]
    refine List.nodup_append.mpr ⟨by simp, restN_nodup, ?_⟩
    intro a ha b hb e
    subst e
    obtain ⟨p, hp, rfl⟩ := List.mem_map.mp hb
    have h1 := (restN_mem.mp hp).1
    apply h1
    rcases List.mem_cons.mp ha with e | ha
    · rw [e]; simp
    · rw [List.mem_singleton.mp ha]; simp
theorem GIn.start0 {Lg : Addr} (S : Stands w s.heap) (hL : 189 ≤ Lg) (ns : s.heap.Ns Lg (lk m)) (nd : (names m).Nodup) (I : Addr) : GIn w Lg I s m [] s := by
  refine ⟨⟨ns, fun b o e => S b o e, by show (H1 w.params).objs.size ≤ Lg; rw [h1_size]; exact hL⟩, fun p hp => ?_, rfl, .refl _, nd, fun b o e => e, restN_nodup⟩
  obtain ⟨h1, h2, h3⟩ := restN_mem.mp hp
  exact ⟨h3, fun e => h1 (by simp [e]), h2⟩

/-- what a yield promises: the item, the effects, and how to go on -/
noncomputable def GY (w : World) (Lg I : Addr) (its : List (Nat × List Nat)) : Protocol := fun n' s₀ v s₁ kap =>
  ∃ p z T tp tz eo io oL, its.reverse[n']? = some (p, z) ∧ v = .ref T ∧ s₁.heap.IsTuple T #[.int (p : Int) tp, .str (tx z) tz] ∧ s₀.heap.get? T = none ∧ T ≠ Lg ∧ T ≠ I + 1 ∧ T ≠ I ∧
    Eff Lg I s₀ s₁ ∧ s₁.heap.get? Lg = some oL ∧ s₁.heap.get? (I + 1) = some eo ∧ s₁.heap.get? I = some io ∧
    ∀ s'', Stands w s''.heap → s''.heap.get? Lg = some oL → s''.heap.get? (I + 1) = some eo → s''.heap.get? I = some io → kap (.send .none) s''
noncomputable def GR (Lg I : Addr) : GenEnd := fun n s₀ r s₁ => r = .ok (.ret .none) ∧ (n = 0 ∧ Eff Lg I s₀ s₁)

/-- the yield of a made tuple -/
theorem gy_make {Lg I T : Addr} {its : List (Nat × List Nat)} {n' p : Nat} {z : List Nat} {tp tz : Tok} {eo io : Obj} {kap : Resume → Shared → Prop} (S : Stands w s₀.heap) (hit : its.reverse[n']? = some (p, z))
    (W : GIn w Lg I s₀ m [(T, { cls := .type "tuple", data := .seq #[.int (p : Int) tp, .str (tx z) tz] }), (I + 1, eo), (I, io)] s) (hL : 189 ≤ Lg) (hLI : Lg < I)
    (h : ∀ s'', GIn w Lg I s'' m [(I + 1, eo), (I, io)] s'' → Stands w s''.heap → kap (.send .none) s'') : GY w Lg I its n' s₀ (.ref T) s kap := by
  obtain ⟨oL, es, ep, hoL, r⟩ := W.F.ns
  have hT := W.N _ List.mem_cons_self
  have hE := W.lookN (p := (I + 1, eo)) (List.mem_cons_of_mem _ List.mem_cons_self)
  have hI := W.lookN (p := (I, io)) (List.mem_cons_of_mem _ (List.mem_cons_of_mem _ List.mem_cons_self))
  have hna := (List.nodup_cons.mp W.na).1
  have hT1 : T ≠ I + 1 := fun e => hna (by rw [e]; exact List.mem_cons_self)
  have hT2 : T ≠ I := fun e => hna (by rw [e]; exact List.mem_cons_of_mem _ List.mem_cons_self)
  refine ⟨p, z, T, tp, tz, eo, io, oL, hit, rfl, ⟨_, hT.1, rfl, _, rfl⟩, ?_, hT.2.1, hT1, hT2, GIn.eff S W, hoL, hE, hI, fun s'' S'' h1 h2 h3 => ?_⟩
  · cases ho : s₀.heap.get? T with
    | none => rfl
    | some o =>
      exfalso
      have hm : (T, o) ∈ restN w s₀.heap [Lg, I + 1, I] := restN_mem.mpr ⟨by simp [hT.2.1, hT1, hT2], hT.2.2, ho⟩
      exact hna (List.mem_map.mpr ⟨(T, o), List.mem_cons_of_mem _ (List.mem_cons_of_mem _ hm), rfl⟩)
  · exact h s'' (GIn.start S'' hL hLI ⟨oL, es, ep, h1, r⟩ W.nd h2 h3) S''
end
end Mine

end
section
open PySem PySem.W PyProof.Rows PySem.Calls PyProof.V
set_option Elab.async false
set_option maxRecDepth 100000
namespace Mine
noncomputable section
variable {w : World} {A : Around} {E : Value → Shared → Prop} {s₀ s : Shared} {L : Addr} {m m1 m2 : Loc} {N : List (Addr × Obj)} {nm : Str} {sc : Scope} {f : Addr} {cd : Value}

noncomputable abbrev gEnv (Lg : Addr) (cd : Value) : Env := envOf "_iter_escaped_chars" (fnS 1) Lg 21 cd
noncomputable def gTgt : Expr := match (fnB 1).getD 2 (.Pass dPos) with | .For t _ _ _ _ => t | _ => .Constant .none 0 dPos
noncomputable def gBody : List Stmt := match (fnB 1).getD 2 (.Pass dPos) with | .For _ _ b _ _ => b | _ => []
noncomputable def gLoc (l : List Nat) (t : Tok) (vp : Option Value) (e : Bool) (vc : Option Value) : Loc := [("addr", some (.str (tx l) t)), ("pos", vp), ("escape", some (.bool e)), ("ch", vc)]
theorem rev_at {α : Type} (d : List α) (x : α) (r : List α) : (d ++ x :: r).reverse[r.length]? = some x := by
  rw [List.reverse_append, List.reverse_cons, List.append_assoc, List.getElem?_append_right (by simp)]
  simp
noncomputable abbrev gCode (Lg I : Addr) (cd : Value) : Code := .forLoop gTgt (.ref (I + 1)) gBody [] (gEnv Lg cd)

set_option maxHeartbeats 4000000 in
theorem loop_seg {l : List Nat} {t : Tok} {Lg I : Addr} {its : List (Nat × List Nat)} {fs : List Frame} (hA : (A.over (gCode Lg I cd) fs).handled = none) (hL : 189 ≤ Lg) (hLI : Lg < I) (hfs : splitAtGen fs = none) (hfg : fs.any Frame.guarded = false)
    (hend : ∀ {e vp vc eo io s₀ s}, Stands w s₀.heap → (e = true → ∃ tk, vp = some (.int ((l.length - 1 : Nat) : Int) tk)) → (∃ d, its = d ++ escItems l.length e []) → GIn w Lg I s₀ (gLoc l t vp e vc) [(I + 1, eo), (I, io)] s →
      Seg (model pw w) A (GR Lg I) (GY w Lg I its) (escItems l.length e []).length s₀ (gCode Lg I cd) (.pure (.again (.block [] (gEnv Lg cd)))) fs s) :
    ∀ (r : List Nat) (i : Nat) (e : Bool), i ≤ l.length → l.drop i = r → (∃ d, its = d ++ escItems i e r) → ∀ {vp vc eo io s₀ s}, Stands w s₀.heap → (e = true → ∃ tk, vp = some (.int ((i - 1 : Nat) : Int) tk)) →
      enumIto I i eo → strIto l t i io → GIn w Lg I s₀ (gLoc l t vp e vc) [(I + 1, eo), (I, io)] s →
      Seg (model pw w) A (GR Lg I) (GY w Lg I its) (escItems i e r).length s₀ (gCode Lg I cd) ((model pw w).den (gCode Lg I cd)) fs s
  | [], i, e, hi, hr, hd, vp, vc, eo, io, s₀, s, S, hvp, he, hio, W => by
    have hil : i = l.length := Nat.le_antisymm hi (List.drop_eq_nil_iff.mp hr)
    subst hil
    refine seg_forLoop ?_
    refine enum_none hA W he hio fun io' s' W' => ?_
    exact hend S hvp hd W'
  | c :: r, i, e, hi, hr, ⟨d, hd⟩, vp, vc, eo, io, s₀, s, S, hvp, he, hio, W => by
    have hlt : i < l.length := by
      rcases Nat.lt_or_ge i l.length with h | h
      · exact h
      · rw [List.drop_eq_nil_of_le h] at hr; cases hr
    have hc : l.getD i 0 = c ∧ l.drop (i + 1) = r := by
      rw [List.drop_eq_getElem_cons hlt] at hr
      cases hr
      exact ⟨by simp [hlt], rfl⟩
    have ih := loop_seg hA hL hLI hfs hfg hend r (i + 1)
    have hE := W.lookN (p := (I + 1, eo)) List.mem_cons_self
    refine seg_forLoop ?_
    conv in gTgt => whnf
    obtain ⟨hci, hr'⟩ := hc
    refine enum_some (x1 := "pos") (x2 := "ch") hA W he hio hlt fun tk => ⟨_, .tail .head, fun tc => ⟨_, .tail (.tail (.tail .head)), fun eo' io' s' he' hio' W => ?_⟩⟩
    rw [hci] at W
    have W : GIn w Lg I s₀ (gLoc l t (some (.int (i : Int) tk)) e (some (.str (tx [c]) tc))) [(I + 1, eo'), (I, io')] s' := W
    have again : ∀ {e' : Bool} {s₀ s'' : Shared} {eo io : Obj}, Stands w s₀.heap → enumIto I (i + 1) eo → strIto l t (i + 1) io → (∃ d, its = d ++ escItems (i + 1) e' r) → GIn w Lg I s₀ (gLoc l t (some (.int (i : Int) tk)) e' (some (.str (tx [c]) tc))) [(I + 1, eo), (I, io)] s'' →
        Seg (model pw w) A (GR Lg I) (GY w Lg I its) (escItems (i + 1) e' r).length s₀ (gCode Lg I cd) (.pure (.again (gCode Lg I cd))) fs s'' := by
      intro e' s₀ s'' eo io S he hio hd W
      exact seg_again rfl (ih e' hlt hr' hd S (fun _ => ⟨tk, rfl⟩) he hio W)
    conv in gBody => whnf
    refine seg_execs_cons ?_
    refine seg_If ?_
    refine isTrue_plain ?_
    refine e_loc W (.tail (.tail .head)) ?_
    refine wpAny_truthy_bool ?_
    cases e with
    | true =>
      rw [if_pos rfl]
      refine seg_execs_cons ?_
      show Seg _ A _ _ ((escItems (i + 1) false r).length + 1) _ _ _ _ _
      refine seg_Expr_Yield hfs rfl hfg ?_
      refine Tuple_ ?_
      refine args_c ?_
      refine e_loc W (.tail .head) ?_
      refine args_c ?_
      refine wpAny_BinOp ?_
      refine e_tx [92] rfl W fun _ _ W => ?_
      refine e_loc W (.tail (.tail (.tail .head))) ?_
      refine e_cat W (by simp) fun tz _ W => ?_
      refine args_nil (W_tuple (hsz := fits_small (by simp)) W fun T _ W _ => ?_)
      intro kap hk
      refine gy_make S (by rw [hd]; exact rev_at _ _ _) W hL hLI fun s2 W2 S2 => hk .none s2 ?_
      refine seg_execs_cons ?_
      refine seg_plain ?_
      refine wpAny_Assign_Name ?_
      refine Constant_bool ?_
      refine store W2 (.tail (.tail .head)) fun s3 W3 => ?_
      exact again S2 he' hio' ⟨d ++ [(i, [92, c])], by rw [hd, List.append_assoc]; rfl⟩ W3
    | false =>
      rw [if_neg (by decide)]
      refine seg_execs_cons ?_
      refine seg_If ?_
      refine TB.eqTx (a := [c]) (c := [92]) rfl (.tail (.tail (.tail .head))) (by kernel_rfl) (by kernel_rfl) (by decide) W fun s' W => ?_
      by_cases hc : c = 92
      · rw [if_pos (by simpa using hc)]
        have hes : escItems i false (c :: r) = escItems (i + 1) true r := by simp [escItems, hc]
        rw [hes] at hd ⊢
        refine seg_execs_cons ?_
        refine seg_plain ?_
        refine wpAny_Assign_Name ?_
        refine Constant_bool ?_
        refine store W (.tail (.tail .head)) fun s3 W3 => ?_
        exact again S he' hio' ⟨d, hd⟩ W3
      · rw [if_neg (by simpa using hc)]
        have hes : escItems i false (c :: r) = (i, [c]) :: escItems (i + 1) false r := by simp [escItems, hc]
        rw [hes] at hd ⊢
        refine seg_execs_cons ?_
        show Seg _ A _ _ ((escItems (i + 1) false r).length + 1) _ _ _ _ _
        refine seg_Expr_Yield hfs rfl hfg ?_
        refine Tuple_ ?_
        refine args_c ?_
        refine e_loc W (.tail .head) ?_
        refine args_c ?_
        refine e_loc W (.tail (.tail (.tail .head))) ?_
        refine args_nil (W_tuple (hsz := fits_small (by simp)) W fun T _ W _ => ?_)
        intro kap hk
        refine gy_make S (by rw [hd]; exact rev_at _ _ _) W hL hLI fun s2 W2 S2 => hk .none s2 ?_
        exact again S2 he' hio' ⟨d ++ [(i, [c])], by rw [hd, List.append_assoc]; rfl⟩ W2
end
end Mine

end
section
open PySem PySem.W PyProof.Rows PySem.Calls PyProof.V
set_option Elab.async false
set_option maxRecDepth 100000
namespace Mine
noncomputable section
variable {w : World} {A : Around} {E : Value → Shared → Prop} {s₀ s : Shared} {L : Addr} {m m1 m2 : Loc} {N : List (Addr × Obj)} {nm : Str} {sc : Scope} {f : Addr} {cd : Value}

noncomputable def gLoc0 (l : List Nat) (t : Tok) : Loc := [("addr", some (.str (tx l) t)), ("pos", none), ("escape", none), ("ch", none)]
set_option maxHeartbeats 4000000 in
theorem gen_seg {l : List Nat} {t : Tok} {Lg : Addr} (hh : A.handled = none) (S : Stands w s₀.heap) (hL : 189 ≤ Lg) (ns : s₀.heap.Ns Lg (lk (gLoc0 l t))) :
    Seg (model pw w) A (GR Lg s₀.heap.objs.size) (GY w Lg s₀.heap.objs.size (escItems 0 false l)) (escItems 0 false l).length s₀ (.func (fnB 1) (gEnv Lg cd)) ((model pw w).den (.func (fnB 1) (gEnv Lg cd))) [] s₀ := by
  have hLI : Lg < s₀.heap.objs.size := ns.lt
  generalize hI : s₀.heap.objs.size = I at *
  have W : GIn w Lg I s₀ (gLoc0 l t) [] s₀ := GIn.start0 S hL ns (of_decide_eq_true (by kernel_rfl)) I
  refine seg_func ?_
  conv in fnB 1 => whnf
  refine seg_execs_cons ?_
  refine seg_plain ?_
  refine wpAny_Assign_Name ?_
  refine wpAny_Constant_int ?_
  refine store_sz (W.toks _) (.tail .head) fun s1 W1 hs1 => ?_
  refine seg_execs_cons ?_
  refine seg_plain ?_
  refine wpAny_Assign_Name ?_
  refine Constant_bool ?_
  refine store_sz W1 (.tail (.tail .head)) fun s2 W2 hs2 => ?_
  have hsz : s2.heap.objs.size = I := by rw [hs2, hs1]; exact hI
  refine seg_execs_cons ?_
  refine seg_For ?_
  refine e_callT W2.S gl_enum ?_
  refine args_c ?_
  refine e_loc W2 .head ?_
  refine args_nil ?_
  refine call_enum_sz W2 fun eo io s3 he hio W3 => ?_
  rw [hsz] at W3 he ⊢
  obtain ⟨old, hold⟩ := id he
  refine wpAny_pyIter_enum (it := I) (i := 0) (old := old) (by have h := W3.lookN (p := (I + 1, eo)) List.mem_cons_self; rw [hold] at h; exact h) ?_
  intro p
  refine loop_seg (its := escItems 0 false l) ?_ hL hLI ?_ ?_ ?_ l 0 false (Nat.zero_le _) rfl ⟨[], rfl⟩ S (fun e => by cases e) he hio W3
  · show (marksOver _ (A.handled, A.handled)).1 = none
    rw [hh]; rfl
  · rfl
  · rfl
  · intro e vp vc eo io s₀' s' S' hvp hd W'
    refine seg_block_nil ?_
    show Seg _ A _ _ _ _ _ ((execs _ (gEnv Lg cd)).wrap _ _ _ _) _ _
    refine seg_execs_cons ?_
    refine seg_If ?_
    refine isTrue_plain ?_
    refine e_loc W' (.tail (.tail .head)) ?_
    refine wpAny_truthy_bool ?_
    have fin : ∀ {s₀ s : Shared}, Eff Lg I s₀ s → Seg (model pw w) A (GR Lg I) (GY w Lg I (escItems 0 false l)) 0 s₀ (.func (fnB 1) (gEnv Lg cd)) (.pure (.done (.ret .none))) [] s :=
      fun ef => seg_end (.ok (.ret .none)) ⟨rfl, rfl, ef⟩
    cases e with
    | true =>
      rw [if_pos rfl]
      obtain ⟨tk, rfl⟩ := hvp rfl
      obtain ⟨d, hd⟩ := hd
      refine seg_execs_cons ?_
      show Seg _ A _ _ (0 + 1) _ _ _ _ _
      refine seg_Expr_Yield rfl rfl rfl ?_
      refine Tuple_ ?_
      refine args_c ?_
      refine e_loc W' (.tail .head) ?_
      refine args_c ?_
      refine e_tx [92] rfl W' fun _ _ W => ?_
      refine args_nil (W_tuple (hsz := fits_small (by simp)) W fun T _ W _ => ?_)
      intro kap hk
      refine gy_make S' (by rw [hd]; exact rev_at _ _ _) W hL hLI fun s2 W2 S2 => hk .none s2 ?_
      exact fin (GIn.eff S2 W2)
    | false =>
      rw [if_neg (by decide)]
      exact fin (GIn.eff S' W')
end
end Mine

end
section
open PySem PySem.W PyProof.Rows PySem.Calls PyProof.V
set_option Elab.async false
set_option maxRecDepth 100000
namespace Mine
noncomputable section
variable {w : World} {A : Around} {E : Value → Shared → Prop} {s₀ s : Shared} {L : Addr} {m m1 m2 : Loc} {N : List (Addr × Obj)} {nm : Str} {sc : Scope} {f : Addr} {cd : Value}

theorem raise_stop2 {α β : Type} {k : β → Sem α} {Q : α → Shared → Prop} (hh : A.handled = none)
    (hE : ∀ h' e, (∀ b o, s.heap.get? b = some o → h'.get? b = some o) → (∃ o, h'.get? e = some o ∧ o.cls = .type "StopIteration") → E (.ref e) { s with heap := h' }) :
    wpAny (model pw w) A (newExc (.type "StopIteration") [] >>= fun v => (raiseNew v : Sem β) >>= k) Q E s := by
  refine wpAny_bind ?_
  simp only [newExc, newTuple]
  refine wpAny_bind (wpAny_newObj_type ?_ (by size_fits))
  refine wpAny_bind (m := firstArgMember _ _) (wpAny_of_eq (a := Value.none) (by first | rfl | (simp only [firstArgMember]; rfl)) ?_)
  refine wpAny_newObj_type ?_ (by size_fits)
  simp only [raiseNew]
  refine wpAny_bind (wpAny_bind (wpAny_handled ?_))
  rw [hh]
  refine wpAny_throw ?_
  exact hE _ _ (fun b ob e => Heap.get?_push_of_some _ (Heap.get?_push_of_some _ e)) ⟨_, Heap.get?_push_size _ rfl, rfl⟩
/-- next of a def's generator -/
theorem next_gen {a Lg I : Addr} {its : List (Nat × List Nat)} {g n : Nat} {gs : GenState} {Q : Option Value → Shared → Prop} (hh : A.handled = none) (hl : s.heap.NoLimit) (hroom : A.depth < recursionLimit)
    (hg : s.heap.IsGen a g) (hgs : s.gens[g]? = some gs) (hgo : gs.Goes (model pw w) A.in1 (GR Lg I) (GY w Lg I its) n (.send .none) (s.setGen g .running))
    (hY : ∀ v s₁ gs', gs'.bare = true → GY w Lg I its (n - 1) (s.setGen g .running) v s₁ (fun r' s'' => match n with | 0 => False | k + 1 => gs'.Goes (model pw w) A.in1 (GR Lg I) (GY w Lg I its) k r' s'') → Q (some v) (s₁.setGen g gs'))
    (hP : n = 0 → ∀ s₁, Eff Lg I (s.setGen g .running) s₁ → ∀ h', (∀ b o, s₁.heap.get? b = some o → h'.get? b = some o) → Q none { s₁.setGen g .finished with heap := h' }) :
    wpAny (model pw w) A (pyNext (.ref a)) Q E s := by
  unfold pyNext
  refine wpAny_bind (wpAny_attempt (wpAny_callSpecial?_slot (name := Str.ofString "__next__") hg.typeIs slot_gen_next
    (wpAny_call_entry slot_gen_next hg.typeIs entry_gen_next ?_ (args_gen_next _))))
  show wpAny _ A.in1 (Builtin.Generator.genWake (.ref a) (.send .none)) _ _ s
  unfold Builtin.Generator.genWake
  refine wpAny_bind (wpAny_holding (wpAny_genNumber hg (wpAny_bind (wpAny_genState hgs ?_))))
  cases gs with
  | running => exact hgo.elim
  | finished => exact hgo.elim
  | _ =>
    refine wpAny_bind (wpAny_roomToWake hl hroom ?_)
    show wpAny _ A.in1 (.resume g (.send .none) [] _) _ _ s
    refine wpAny_resumeQ hgs hgo (fun x s₁ hx => ?_) (fun v s₁ gs' hb hv => ?_)
    · obtain ⟨rfl, hn, hp⟩ := hx
      show wpAny _ A.in1 (newExc (.type "StopIteration") [] >>= fun v => raiseNew v >>= _) _ _ _
      refine raise_stop2 (s := s₁.setGen g .finished) (A := A.in1) hh fun h' e hk ⟨o, ho, hc⟩ => ?_
      refine wpAny_bind (wpAny_isInstance (T := "StopIteration") (b := true) ⟨o, ho, hc⟩ isSubtype_stop ?_)
      exact wpAny_pure (hP hn s₁ hp _ hk)
    · exact wpAny_pure ⟨v, rfl, wpAny_pure (hY v s₁ gs' hb hv)⟩
end
end Mine

end
section
open PySem PySem.W PyProof.Rows PySem.Calls PyProof.V
set_option Elab.async false
set_option maxRecDepth 100000
namespace Mine
noncomputable section
variable {w : World} {A : Around} {E : Value → Shared → Prop} {s₀ s : Shared} {L : Addr} {m m1 m2 : Loc} {N : List (Addr × Obj)} {nm : Str} {sc : Scope} {f : Addr} {cd : Value}

theorem Wk.rebase {ga : Array GenState} (hga : GG s₀.gens ga) (W : Wk w { s₀ with gens := ga } L m N s) : Wk w s₀ L m N s := ⟨W.F, W.N, W.os, hga.trans W.gens, W.nd, W.st, W.na⟩
theorem GG.set {a b : Array GenState} {g : Nat} {x : GenState} (h : GG a b) (hg : a.size ≤ g) (hx : x.bare = true) : GG a (b.setIfInBounds g x) := by
  obtain ⟨p, rfl, hp⟩ := h
  refine ⟨p.setIfInBounds (g - a.size) x, ?_, fun y hy => ?_⟩
  · apply Array.ext_getElem?
    intro i
    simp only [Array.getElem?_setIfInBounds, Array.getElem?_append, Array.size_append]
    by_cases hi : i < a.size
    · have : g ≠ i := by omega
      simp [hi, this]
    · by_cases e : g = i
      · subst e
        by_cases hp' : g < a.size + p.size
        · have : g - a.size < p.size := by omega
          simp [hi, hp', this]
        · have : ¬ g - a.size < p.size := by omega
          simp [hi, hp', this]
      · have : ¬ g - a.size = i - a.size := by omega
        simp [hi, e, this]
  · rcases Array.mem_or_eq_of_mem_setIfInBounds hy with h | rfl
    · exact hp y h
    · exact hx

noncomputable def IsG (o : Obj) (g : Nat) : Prop := ∃ nm qn, o.cls = .type "generator" ∧ o.data = .fields #[.int g 0, nm, qn] ∧ o.slots = #[]
noncomputable def Ready (w : World) (A : Around) (its : List (Nat × List Nat)) (Lg : Addr) (n : Nat) (gs : GenState) (Pr : List (Addr × Obj)) : Prop :=
  ∀ s'' : Shared, Stands w s''.heap → (∀ p ∈ Pr, s''.heap.get? p.1 = some p.2) → ∃ I, 189 ≤ Lg ∧ Lg < I ∧ gs.Goes (model pw w) A.in1 (GR Lg I) (GY w Lg I its) n (.send .none) s'' ∧
    ∀ b o, s''.heap.get? b = some o → b ∉ Pr.map (·.1) → b ≠ Lg ∧ b ≠ I + 1 ∧ b ≠ I
/-- what a walk over the generator holds besides its own -/
noncomputable def GTail (w : World) (A : Around) (its : List (Nat × List Nat)) (Ga : Addr) (n : Nat) (s₀ : Shared) (ga : Array GenState) (Tl : List (Addr × Obj)) : Prop :=
  ∃ g go Pr Lg gs, Tl = (Ga, go) :: Pr ∧ GG s₀.gens ga ∧ s₀.gens.size ≤ g ∧ ga[g]? = some gs ∧ IsG go g ∧ Ready w A its Lg n gs Pr

theorem gen_wk {ga ga' : Array GenState} {Ga Lg I : Addr} {go : Obj} {Pr Pr' : List (Addr × Obj)} {s' : Shared} (W : Wk w { s₀ with gens := ga } L m (N ++ (Ga, go) :: Pr) s)
    (sep : ∀ b o, s.heap.get? b = some o → b ∉ Pr.map (·.1) → b ≠ Lg ∧ b ≠ I + 1 ∧ b ≠ I) (hk : ∀ b o, b ≠ Lg → b ≠ I + 1 → b ≠ I → s.heap.get? b = some o → s'.heap.get? b = some o) (hos : s'.os = s.os)
    (hP' : ∀ p ∈ Pr', (p.1 = Lg ∨ p.1 = I + 1 ∨ p.1 = I) ∧ s'.heap.get? p.1 = some p.2) (nd' : (Pr'.map (·.1)).Nodup) (hg : GG ga' s'.gens) : Wk w { s₀ with gens := ga' } L m (N ++ (Ga, go) :: Pr') s' := by
  have keepAll : ∀ b o, b ∉ Pr.map (·.1) → s.heap.get? b = some o → s'.heap.get? b = some o := fun b o hb e => by
    obtain ⟨h1, h2, h3⟩ := sep b o e hb
    exact hk b o h1 h2 h3 e
  have hPm : ∀ p ∈ Pr, p ∈ N ++ (Ga, go) :: Pr := fun p hp => List.mem_append_right _ (List.mem_cons_of_mem _ hp)
  have hLP : L ∉ Pr.map (·.1) := fun h => by
    obtain ⟨p, hp, e⟩ := List.mem_map.mp h
    exact (W.N p (hPm p hp)).2.1 e
  have h0P : ∀ b o, s₀.heap.get? b = some o → b ∉ Pr.map (·.1) := fun b o e h => by
    obtain ⟨p, hp, rfl⟩ := List.mem_map.mp h
    have := (W.N p (hPm p hp)).2.2
    rw [e] at this; cases this
  have hna := W.na
  rw [List.map_append, List.map_cons] at hna
  obtain ⟨n1, n2, n3⟩ := List.nodup_append.mp hna
  have hold : ∀ p, p ∈ N ∨ p = (Ga, go) → p.1 ∉ Pr.map (·.1) ∧ s.heap.get? p.1 = some p.2 := fun p hp => by
    rcases hp with hp | rfl
    · exact ⟨fun h => n3 _ (List.mem_map_of_mem hp) _ (List.mem_cons_of_mem _ h) rfl, W.lookN (List.mem_append_left _ hp)⟩
    · exact ⟨(List.nodup_cons.mp n2).1, W.lookN (List.mem_append_right _ List.mem_cons_self)⟩
  have hsep : ∀ p, p ∈ N ∨ p = (Ga, go) → p.1 ∉ Pr'.map (·.1) := fun p hp h => by
    obtain ⟨q, hq, e⟩ := List.mem_map.mp h
    obtain ⟨h1, h2⟩ := hold p hp
    obtain ⟨a, b, c⟩ := sep _ _ h2 h1
    rcases (hP' q hq).1 with x | x | x <;> rw [e] at x <;> contradiction
  obtain ⟨oL, es, ep, hoL, r⟩ := id W.F.ns
  refine ⟨⟨ns_same W.F.ns fun oL e => keepAll L oL hLP e, fun b o e => keepAll b o (h0P b o e) (W.F.keep b o e), W.F.above⟩, fun p hp => ?_, hos.trans W.os, hg, W.nd, W.st, ?_⟩
  · have hc : (p ∈ N ∨ p = (Ga, go)) ∨ p ∈ Pr' := by
      rcases List.mem_append.mp hp with h | h
      · exact .inl (.inl h)
      · rcases List.mem_cons.mp h with h | h
        · exact .inl (.inr h)
        · exact .inr h
    rcases hc with hc | hc
    · obtain ⟨h1, h2⟩ := hold p hc
      have hm : p ∈ N ++ (Ga, go) :: Pr := by
        rcases hc with h | h
        · exact List.mem_append_left _ h
        · rw [h]; exact List.mem_append_right _ List.mem_cons_self
      exact ⟨keepAll _ _ h1 h2, (W.N p hm).2⟩
    · obtain ⟨h1, h2⟩ := hP' p hc
      refine ⟨h2, fun e => ?_, ?_⟩
      · obtain ⟨a, b, c⟩ := sep L oL hoL hLP
        rw [e] at h1
        rcases h1 with x | x | x <;> contradiction
      · cases ho : s₀.heap.get? p.1 with
        | none => rfl
        | some o =>
          obtain ⟨a, b, c⟩ := sep _ _ (W.F.keep _ _ ho) (h0P _ _ ho)
          rcases h1 with x | x | x <;> contradiction
  · rw [List.map_append, List.map_cons]
    refine List.nodup_append.mpr ⟨n1, List.nodup_cons.mpr ⟨hsep _ (.inr rfl), nd'⟩, ?_⟩
    intro a ha b hb e
    subst e
    obtain ⟨p, hp, rfl⟩ := List.mem_map.mp ha
    rcases List.mem_cons.mp hb with e | hb
    · exact n3 _ (List.mem_map_of_mem hp) _ (by rw [e]; exact List.mem_cons_self) rfl
    · exact hsep p (.inl hp) hb
theorem Wk.left {T : List (Addr × Obj)} (W : Wk w s₀ L m (N ++ T) s) : Wk w s₀ L m N s :=
  ⟨W.F, fun p hp => W.N p (List.mem_append_left _ hp), W.os, W.gens, W.nd, W.st, by
    have := W.na
    rw [List.map_append] at this
    exact (List.nodup_append.mp this).1⟩
theorem get_ext {a b : Array GenState} {g : Nat} {x : GenState} (h : GG a b) (e : a[g]? = some x) : b[g]? = some x := by
  obtain ⟨p, rfl, hp⟩ := h
  obtain ⟨hg, rfl⟩ := Array.getElem?_eq_some_iff.mp e
  rw [Array.getElem?_append_left hg, Array.getElem?_eq_getElem hg]

theorem gen_turn {its : List (Nat × List Nat)} {Ga : Addr} {n : Nat} {ga : Array GenState} {Tl : List (Addr × Obj)} {Q : Option Value → Shared → Prop} (hh : A.handled = none) (hroom : A.depth < recursionLimit)
    (T : GTail w A its Ga n s₀ ga Tl) (W : Wk w { s₀ with gens := ga } L m (N ++ Tl) s)
    (hitem : ∀ k p z, n = k + 1 → its.reverse[k]? = some (p, z) → ∀ ga' Tl' T tp tz s', GTail w A its Ga k s₀ ga' Tl' → Wk w { s₀ with gens := ga' } L m (N ++ Tl') s' →
      s'.heap.IsTuple T #[.int (p : Int) tp, .str (tx z) tz] → Q (some (.ref T)) s')
    (hend : n = 0 → ∀ ga' s', GG s₀.gens ga' → Wk w { s₀ with gens := ga' } L m N s' → Q none s') : wpAny (model pw w) A (pyNext (.ref Ga)) Q E s := by
  obtain ⟨g, go, Pr, Lg, gs, rfl, hga, hsz, hgs, ⟨n1, n2, hc, hd, hsl⟩, R⟩ := T
  have hgs' := get_ext W.gens hgs
  have hgo := W.lookN (p := (Ga, go)) (List.mem_append_right _ List.mem_cons_self)
  have hga' : GG s₀.gens s.gens := hga.trans W.gens
  obtain ⟨I, hL, hLI, goes, sep⟩ := R (s.setGen g .running) W.S (fun p hp => W.lookN (List.mem_append_right _ (List.mem_cons_of_mem _ hp)))
  have hgr : GG s₀.gens (s.setGen g .running).gens := hga'.set hsz rfl
  have hrun : (s.setGen g .running).gens[g]? = some .running := setGen_self hgs'
  refine next_gen hh W.S.nolimit hroom ⟨go, n1, n2, hgo, hc, hd, hsl⟩ hgs' goes (fun v s₁ gs' hb hv => ?_) (fun hn s₁ ef h' hk => ?_)
  · obtain ⟨p, z, T, tp, tz, eo, io, oL, hit, rfl, ht, -, -, -, -, ef, h1, h2, h3, hkap⟩ := hv
    have hgs₁ : s₁.gens[g]? = some .running := get_ext ef.gens hrun
    have W1 : Wk w { s₀ with gens := (s₁.setGen g gs').gens } L m (N ++ (Ga, go) :: [(Lg, oL), (I + 1, eo), (I, io)]) (s₁.setGen g gs') := by
      refine gen_wk (Lg := Lg) (I := I) W sep ef.keep ef.os (fun p hp => ?_) ?_ (.refl _)
      · rcases List.mem_cons.mp hp with rfl | hp
        · exact ⟨.inl rfl, h1⟩
        rcases List.mem_cons.mp hp with rfl | hp
        · exact ⟨.inr (.inl rfl), h2⟩
        · rw [List.mem_singleton.mp hp]; exact ⟨.inr (.inr rfl), h3⟩
      · have e1 : Lg ≠ I + 1 := Nat.ne_of_lt (Nat.lt_succ_of_lt hLI)
        have e2 : Lg ≠ I := Nat.ne_of_lt hLI
        simp [e1, e2]
    cases n with
    | zero => exact (hkap s₁ W1.S h1 h2 h3).elim
    | succ k =>
      refine hitem k p z rfl hit _ _ T tp tz _ ⟨g, go, _, Lg, gs', rfl, (hgr.trans ef.gens).set hsz hb, hsz, setGen_self hgs₁, ⟨n1, n2, hc, hd, hsl⟩, fun s'' S'' hp => ⟨I, hL, hLI, ?_, fun b o e hb => ?_⟩⟩ W1 ht
      · exact hkap s'' S'' (hp (Lg, oL) (by simp)) (hp (I + 1, eo) (by simp)) (hp (I, io) (by simp))
      · simpa using hb
  · have W1 : Wk w { s₀ with gens := (s₁.setGen g .finished).gens } L m (N ++ (Ga, go) :: []) { s₁.setGen g .finished with heap := h' } :=
      gen_wk (Lg := Lg) (I := I) W sep (fun b o a1 a2 a3 e => hk b o (ef.keep b o a1 a2 a3 e)) ef.os (fun p hp => by cases hp) .nil (.refl _)
    exact hend hn _ _ ((hgr.trans ef.gens).set hsz rfl) W1.left
end
end Mine

end
section
open PySem PySem.W PyProof.Rows PySem.Calls PyProof.V
set_option Elab.async false
set_option maxRecDepth 100000
namespace Mine
noncomputable section
variable {w : World} {A : Around} {E : Value → Shared → Prop} {s₀ s : Shared} {L : Addr} {m m1 m2 : Loc} {N : List (Addr × Obj)} {nm : Str} {sc : Scope} {f : Addr} {cd : Value}

theorem letGo_gen {elts : List Expr} {x1} {pos : Pos} {I T : Addr} {g : Nat} {Q : Unit → Shared → Prop} (hit : s.heap.IsGen I g) (hQ : Q () s) :
    wpAny (model pw w) A (letOwnedTupleGo (.Tuple elts x1 pos) (.ref I) (.ref T)) Q E s := by
  obtain ⟨o, n1, n2, ho, hc, hd, hs⟩ := hit
  unfold letOwnedTupleGo
  refine wpAny_bind (wpAny_load ho ?_)
  rw [hc, hd]
  show wpAny _ A (if (["enumerate", "zip", "dict_itemiterator", "dict_reverseitemiterator", "odict_iterator", "itertools.zip_longest", "itertools.pairwise"].contains "generator" && _) = true then _ else _) Q E s
  rw [if_neg (by
    intro h
    rw [show (["enumerate", "zip", "dict_itemiterator", "dict_reverseitemiterator", "odict_iterator", "itertools.zip_longest", "itertools.pairwise"].contains "generator") = false from by decide, Bool.false_and] at h
    cases h)]
  exact wpAny_pure hQ

/-- a for over (pos, text) of the generator -/
theorem x_for_gen {x1 x2 : Str} {q1 q2 q3 p : Pos} {kk : Nat} {iterE : Expr} {body rest : List Stmt} {its : List (Nat × List Nat)} {Q : Flow → Shared → Prop} {env : Env} (hh : A.handled = none) (hroom : A.depth < recursionLimit)
    (J : Nat → Loc → List (Addr × Obj) → Prop)
    (hiter : wpAny (model pw w) A (eval iterE env) (fun v s₁ => ∃ Ga ga Tl m N, v = .ref Ga ∧ GTail w A its Ga its.length s₀ ga Tl ∧ Wk w { s₀ with gens := ga } L m (N ++ Tl) s₁ ∧ J 0 m N) E s)
    (step : ∀ i m' N' ga Tl p z tp tz s₁, its[i]? = some (p, z) → J i m' N' → GG s₀.gens ga → Wk w { s₀ with gens := ga } L m' (N' ++ Tl) s₁ →
      wpAny (model pw w) A (storeName env x1 (.int (p : Int) tp)) (fun _ s₂ => wpAny (model pw w) A (storeName env x2 (.str (tx z) tz)) (fun _ s₃ => wpAny (model pw w) A (execs body env)
        (fun fl s₄ => match fl with | .next | .cont => ∃ m3 N3, Wk w { s₀ with gens := ga } L m3 (N3 ++ Tl) s₄ ∧ J (i + 1) m3 N3 | .brk => False | .ret v => Q (.ret v) s₄) (fun _ _ => False) s₃) (fun _ _ => False) s₂) (fun _ _ => False) s₁)
    (fin : ∀ m' N' s₁, J its.length m' N' → Wk w s₀ L m' N' s₁ → wpAny (model pw w) A (execs rest env) Q E s₁)
    (hs : ∀ x, foldedSetIterable iterE env x = pure x := by intro _; rfl) :
    wpAny (model pw w) A (execs (.For (.Tuple [.Name x1 q1, .Name x2 q2] kk q3) iterE body [] p :: rest) env) Q E s := by
  refine wpAny_execs_cons (wpAny_For (wpAny_mono hiter (fun v s₁ h₁ => ?_) fun _ _ x => x) hs)
  obtain ⟨Ga, ga, Tl, m, N, rfl, T, W0, J0⟩ := h₁
  have hG : ∀ {n ga Tl m N} {s : Shared}, GTail w A its Ga n s₀ ga Tl → Wk w { s₀ with gens := ga } L m (N ++ Tl) s → ∃ g, s.heap.IsGen Ga g := fun T W => by
    obtain ⟨g, go, Pr, Lg, gs, rfl, hga, hsz, hgs, ⟨n1, n2, hc, hd, hsl⟩, R⟩ := T
    exact ⟨g, go, n1, n2, W.lookN (p := (Ga, go)) (List.mem_append_right _ List.mem_cons_self), hc, hd, hsl⟩
  obtain ⟨g, hg⟩ := hG T W0
  refine wpAny_pyIter_gen hg ?_
  refine codeAny_forLoop_any (fun k s' => ∃ ga Tl m' N', k ≤ its.length ∧ GTail w A its Ga k s₀ ga Tl ∧ Wk w { s₀ with gens := ga } L m' (N' ++ Tl) s' ∧ J (its.length - k) m' N') (fun k s' hk => ?_) its.length
    ⟨ga, Tl, m, N, Nat.le_refl _, T, W0, by rw [Nat.sub_self]; exact J0⟩
  obtain ⟨ga, Tl, m', N', hle, T, W, hJ⟩ := hk
  refine gen_turn hh hroom T W (fun k' p z hk hit ga' Tl' T' tp tz s1 T1 W1 ht => ?_) (fun hk ga' s1 hga' W1 => ?_)
  · subst hk
    obtain ⟨g, hg⟩ := hG T1 W1
    refine letGo_gen hg ?_
    refine wpAny_assign_Tuple hh ht rfl rfl fun h₃ hx₃ => ?_
    have W2 := W1.keeps (h' := h₃) (fun b ob e => hx₃ b ob (Nat.ne_of_lt (Heap.lt_size e)) e) s1.toks
    have hi : its[its.length - (k' + 1)]? = some (p, z) := by
      rw [List.getElem?_reverse (by omega)] at hit
      rw [← hit]; congr 1; omega
    have hga : GG s₀.gens ga' := by
      obtain ⟨_, _, _, _, _, _, h, _⟩ := T1
      exact h
    have st := step (its.length - (k' + 1)) m' N' ga' Tl' p z tp tz _ hi hJ hga W2
    show wpAny _ A (do holding [.str (tx z) tz] (assign (.Name x1 q1) env (.int p tp)); do holding [] (assign (.Name x2 q2) env (.str (tx z) tz)); pure ()) _ _ _
    refine wpAny_bind (wpAny_holding (wpAny_assign_Name (wpAny_mono st (fun _ s₂ h₂ => ?_) fun _ _ x => x.elim)))
    refine wpAny_bind (wpAny_holding (wpAny_assign_Name (wpAny_mono h₂ (fun _ s₃ h₃ => ?_) fun _ _ x => x.elim)))
    refine wpAny_pure (wpAny_mono h₃ (fun fl s₄ h₄ => ?_) fun _ _ x => x.elim)
    have nx : (∃ m3 N3, Wk w { s₀ with gens := ga' } L m3 (N3 ++ Tl') s₄ ∧ J (its.length - (k' + 1) + 1) m3 N3) → ∃ k, k < k' + 1 ∧ ∃ ga Tl m' N', k ≤ its.length ∧ GTail w A its Ga k s₀ ga Tl ∧ Wk w { s₀ with gens := ga } L m' (N' ++ Tl) s₄ ∧ J (its.length - k) m' N' := by
      rintro ⟨m3, N3, W3, J3⟩
      refine ⟨k', Nat.lt_succ_self _, ga', Tl', m3, N3, by omega, T1, W3, ?_⟩
      have : its.length - k' = its.length - (k' + 1) + 1 := by omega
      rw [this]; exact J3
    cases fl with
    | next => exact nx h₄
    | cont => exact nx h₄
    | brk => exact h₄.elim
    | ret v => exact h₄
  · subst hk
    refine wpAny_execs_nil ?_
    exact fin m' N' s1 hJ (W1.rebase hga')
end
end Mine

end
section
open PySem PySem.W PyProof.Rows PySem.Calls PyProof.V
set_option Elab.async false
set_option maxRecDepth 100000
namespace Mine
noncomputable section
variable {w : World} {A : Around} {E : Value → Shared → Prop} {s₀ s : Shared} {L : Addr} {m m1 m2 : Loc} {N : List (Addr × Obj)} {nm : Str} {sc : Scope} {f : Addr} {cd : Value}

theorem h1_188 (P : Params) : ((H1 P).get? 188).isSome = true := by kernel_rfl
theorem Stands.size {h : Heap} (S : Stands w h) : 189 ≤ h.objs.size := by
  obtain ⟨o, ho⟩ := Option.isSome_iff_exists.mp (h1_188 w.params)
  exact Heap.lt_size (S _ _ ho)
/-- the generator, made -/
theorem e_gen {x : Str} {l : List Nat} {t : Tok} {np p2 pos : Pos} {Q : Value → Shared → Prop} (hh : A.handled = none) (hroom : A.depth < recursionLimit) (W : Wk w s₀ L m N s) (hx : Has x (.str (tx l) t) m)
    (h : ∀ Ga ga Tl s₁, GTail w A (escItems 0 false l) Ga (escItems 0 false l).length s₀ ga Tl → Wk w { s₀ with gens := ga } L m (N ++ Tl) s₁ → Q (.ref Ga) s₁)
    (hk : sc.kind = .function := by kernel_rfl) (hl : (envOf nm sc L f cd).kindOf x = some .local := by kernel_rfl) (hl' : (envOf nm sc L f cd).kindOf "_iter_escaped_chars" = some .globalImplicit := by kernel_rfl)
    (hd : (x == ("__debug__" : Str)) = false := by decide) :
    wpAny (model pw w) A (eval (.Call (.Name "_iter_escaped_chars" np) [.Name x p2] [] pos) (envOf nm sc L f cd)) Q E s := by
  refine e_callD (hk := hk) (hl := hl') W.S gl_fn21 fn21 ?_
  refine args_c ?_
  refine e_loc W hx ?_ hk hl hd
  refine args_nil ⟨W.S, ?_⟩
  refine call_gen [("addr", .str (tx l) t)] fn21 W.S hroom fun cd h1 tk t1 t2 hns hkeep hsz => ?_
  generalize hLg : s.heap.objs.size = Lg at *
  obtain ⟨oL, es, ep, hoL, r⟩ := hns
  have hS := W.S.size
  have hfree : s.heap.get? Lg = none := by rw [← hLg]; exact size_free _
  have W1 : Wk w s₀ L m ((Lg, oL) :: N) { s with heap := h1, toks := tk } := W.new hkeep hfree hoL tk
  have W2 := W1.new (a := h1.objs.size) (o := { cls := .type "generator", data := .fields #[.int s.gens.size 0, .str "_iter_escaped_chars" t1, .str "_iter_escaped_chars" t2] }) (push_keeps _) (size_free _) (Heap.get?_push_size _ rfl) tk
  have W3 := W2.perm (N' := N ++ [(h1.objs.size, { cls := .type "generator", data := .fields #[.int s.gens.size 0, .str "_iter_escaped_chars" t1, .str "_iter_escaped_chars" t2] }), (Lg, oL)]) (List.perm_append_comm (l₁ := [_, _]) (l₂ := N))
  rw [hsz] at W3
  have hbare : (GenState.fresh (.func (fnB 1) (gEnv Lg cd))).bare = true := rfl
  refine h (Lg + 1) (s.gens.push (.fresh (.func (fnB 1) (gEnv Lg cd)))) [(Lg + 1, { cls := .type "generator", data := .fields #[.int s.gens.size 0, .str "_iter_escaped_chars" t1, .str "_iter_escaped_chars" t2] }), (Lg, oL)] _ ⟨s.gens.size, _, [(Lg, oL)], Lg, _, rfl, ?_, ?_, Array.getElem?_push_size .., ⟨_, _, rfl, rfl, rfl⟩, fun s'' S'' hp => ?_⟩ ?_
  · obtain ⟨mo, e, hm⟩ := W.gens
    refine ⟨mo.push (.fresh (.func (fnB 1) (gEnv Lg cd))), by rw [e, Array.append_push], fun y hy => ?_⟩
    rcases Array.mem_push.mp hy with h | rfl
    · exact hm y h
    · rfl
  · obtain ⟨mo, e, hm⟩ := W.gens
    rw [e, Array.size_append]; exact Nat.le_add_right _ _
  · have hoL' := hp (Lg, oL) (by simp)
    have hlt : Lg < s''.heap.objs.size := Heap.lt_size hoL'
    refine ⟨s''.heap.objs.size, by rw [← hLg]; exact hS, hlt, ⟨rfl, ?_⟩, fun b o e hb => ⟨fun e' => hb (by rw [e']; simp), Nat.ne_of_lt (Nat.lt_succ_of_lt (Heap.lt_size e)), Nat.ne_of_lt (Heap.lt_size e)⟩⟩
    refine gen_seg (l := l) (t := t) (A := A.in1) hh S'' (by rw [← hLg]; exact hS) ⟨oL, es, ep, hoL', ?_⟩
    have e : lk (gLoc0 l t) = fun x => List.lookup x [(("addr" : Str), Value.str (tx l) t)] := lk_pad [("addr", .str (tx l) t)] ["pos", "escape", "ch"]
    rw [e]; exact r
  · exact ⟨W3.F, W3.N, W3.os, .refl _, W3.nd, W3.st, W3.na⟩
end
end Mine

end
section
open PySem PySem.W PyProof.Rows PySem.Calls PyProof.V PySem.Builtin PySem.Builtin.Str
set_option Elab.async false
set_option maxRecDepth 100000
namespace Mine
noncomputable section

theorem sliceIdx (a b len : Nat) : strSliceIndices (some (a : Int)) (some (b : Int)) 1 len = (List.range (min b len - min a len)).map (fun k => min a len + k) := by
  have h1 : ¬ ((a : Int) < 0) := by omega
  have h2 : ¬ ((b : Int) < 0) := by omega
  have e1 : max (0 : Int) (min (a : Int) (len : Int)) = (min a len : Nat) := by omega
  have e2 : max (0 : Int) (min (b : Int) (len : Int)) = (min b len : Nat) := by omega
  simp only [strSliceIndices, sliceRange, h1, h2, if_false, e1, e2, show ((1 : Int) > 0) = True from by simp, if_true]
  by_cases hlt : ((min a len : Nat) : Int) < (min b len : Nat)
  · have e3 : ((((min b len : Nat) : Int) - (min a len : Nat) + 1 - 1) / 1).toNat = min b len - min a len := by omega
    simp only [hlt, if_true, e3]
    refine List.map_congr_left fun k _ => ?_
    omega
  · have : min b len - min a len = 0 := by omega
    simp [hlt, this]
theorem sliceIdx' (a len : Nat) : strSliceIndices (some (a : Int)) none 1 len = strSliceIndices (some (a : Int)) (some (len : Int)) 1 len := by
  have h2 : ¬ ((len : Int) < 0) := by omega
  have e2 : max (0 : Int) (min (len : Int) (len : Int)) = (len : Int) := by omega
  simp only [strSliceIndices, h2, if_false, e2]
  rfl
theorem slice_tx (l : List Nat) (a b : Nat) : Txt.slice (tx l) (some (a : Int)) (some (b : Int)) = tx ((l.take b).drop a) := by
  have hlen : (tx l).length = l.length := by simp [Str.length]
  have key : (l.drop (min a l.length)).take (min b l.length - min a l.length) = (l.take b).drop a := by
    rw [List.drop_take]
    by_cases h1 : a ≤ l.length
    · rw [Nat.min_eq_left h1]
      by_cases h2 : b ≤ l.length
      · rw [Nat.min_eq_left h2]
      · rw [Nat.min_eq_right (by omega), List.take_of_length_le (by rw [List.length_drop]; exact Nat.le_refl _), List.take_of_length_le (by rw [List.length_drop]; omega)]
    · rw [List.drop_eq_nil_of_le (by omega), List.drop_eq_nil_of_le (by omega)]; simp
  unfold Txt.slice
  rw [hlen, sliceIdx]
  split
  · rename_i h
    have h' : min b l.length - min a l.length = l.length := by simpa using h
    rw [← key, h', List.take_of_length_le (by rw [List.length_drop]; omega)]
    by_cases h0 : l.length = 0
    · rw [List.length_eq_zero_iff.mp h0]; simp
    · rw [show min a l.length = 0 by omega]; rfl
  · have h := StrLaws.picks l (min b l.length - min a l.length) (min a l.length) (by omega)
    rw [← key, ← h]
    refine tx_eq ?_
    simp
theorem slice_tx' (l : List Nat) (a : Nat) : Txt.slice (tx l) (some (a : Int)) none = tx (l.drop a) := by
  have hlen : (tx l).length = l.length := by simp [Str.length]
  have h := slice_tx l a l.length
  rw [List.take_length] at h
  rw [← h]
  unfold Txt.slice
  rw [hlen, sliceIdx']
variable {w : World} {A : Around} {E : Value → Shared → Prop} {s₀ s : Shared} {L : Addr} {m m' : Loc} {N : List (Addr × Obj)} {nm : Str} {sc : Scope} {f : Addr} {cd : Value}

/-! ### _strip_quoted_realnames -/
structure Sp where
  start : Nat
  opn : Option Nat
  out : List (List Nat)
noncomputable def spStep (l : List Nat) (st : Sp) (it : Nat × List Nat) : Sp :=
  if it.2 = [34] then
    match st.opn with
    | none => ⟨st.start, some it.1, st.out⟩
    | some o => ⟨it.1 + 1, none, if st.start ≠ o then st.out ++ [(l.take o).drop st.start] else st.out⟩
  else st
noncomputable def spEnd (l : List Nat) (st : Sp) : List (List Nat) := if st.start < l.length then st.out ++ [l.drop st.start] else st.out
noncomputable def stripL (l : List Nat) : List Nat := if 34 ∈ l then (spEnd l ((escItems 0 false l).foldl (spStep l) ⟨0, none, []⟩)).flatten else l

theorem spFold_snoc (l : List Nat) (its : List (Nat × List Nat)) (i : Nat) (x : Nat × List Nat) (st : Sp) (hx : its[i]? = some x) : (its.take (i + 1)).foldl (spStep l) st = spStep l ((its.take i).foldl (spStep l) st) x := by
  rw [List.take_add_one, hx, List.foldl_append]; rfl
theorem spStep_len (l : List Nat) (st : Sp) (x : Nat × List Nat) : (spStep l st x).out.length ≤ st.out.length + 1 ∧ (spStep l st x).out.flatten.length ≤ st.out.flatten.length + l.length := by
  unfold spStep
  split
  · split
    · exact ⟨Nat.le_succ _, Nat.le_add_right _ _⟩
    · dsimp only
      split
      · simp only [List.flatten_append, List.length_append, List.flatten_cons, List.flatten_nil, List.append_nil, List.length_cons, List.length_nil, List.length_drop, List.length_take]
        omega
      · exact ⟨Nat.le_succ _, Nat.le_add_right _ _⟩
  · exact ⟨Nat.le_succ _, Nat.le_add_right _ _⟩
theorem spFold_len (l : List Nat) : ∀ (its : List (Nat × List Nat)) (st : Sp), (its.foldl (spStep l) st).out.length ≤ st.out.length + its.length ∧ (its.foldl (spStep l) st).out.flatten.length ≤ st.out.flatten.length + its.length * l.length
  | [], _ => ⟨Nat.le_refl _, by simp⟩
  | x :: r, st => by
    have h := spFold_len l r (spStep l st x)
    have h2 := spStep_len l st x
    simp only [List.foldl_cons, List.length_cons, Nat.succ_mul]
    omega
theorem escItems_len : ∀ (l : List Nat) (i : Nat) (e : Bool), (escItems i e l).length ≤ l.length + 1
  | [], _, true => by simp [escItems]
  | [], _, false => by simp [escItems]
  | c :: r, i, true => by
    have := escItems_len r (i + 1) false
    simp only [escItems, List.length_cons]; omega
  | c :: r, i, false => by
    have h1 := escItems_len r (i + 1) true
    have h2 := escItems_len r (i + 1) false
    simp only [escItems]
    split
    · simp only [List.length_cons]; omega
    · simp only [List.length_cons]; omega

noncomputable def opV : Option Nat → Tok → Value
  | none, _ => .none
  | some k, t => .int (k : Int) t
noncomputable abbrev spL (l : List Nat) (t : Tok) (D : Addr) (st : Sp) (ts to : Tok) (v1 v2 : Option Value) : Loc :=
  [("addr", some (.str (tx l) t)), ("start", some (.int (st.start : Int) ts)), ("open_pos", some (opV st.opn to)), ("result", some (.ref D)), ("pos", v1), ("ch", v2)]

/-- addr[a:b] -/
theorem e_slice {x y z : Str} {l : List Nat} {a b : Nat} {t ta tb : Tok} {p1 p2 p3 p4 p5 : Pos} {Q : Value → Shared → Prop} (W : Wk w s₀ L m N s) (hl : l.length ≤ 100000) (hx : Has x (.str (tx l) t) m) (hy : Has y (.int (a : Int) ta) m) (hz : Has z (.int (b : Int) tb) m)
    (h : ∀ t' s', Wk w s₀ L m N s' → Q (.str (tx ((l.take b).drop a)) t') s')
    (hk : sc.kind = .function := by kernel_rfl) (hl1 : (envOf nm sc L f cd).kindOf x = some .local := by kernel_rfl) (hl2 : (envOf nm sc L f cd).kindOf y = some .local := by kernel_rfl) (hl3 : (envOf nm sc L f cd).kindOf z = some .local := by kernel_rfl)
    (hd : (x == ("__debug__" : Str)) = false := by decide) (hd2 : (y == ("__debug__" : Str)) = false := by decide) (hd3 : (z == ("__debug__" : Str)) = false := by decide) :
    wpAny (model pw w) A (eval (.Subscript (.Name x p1) (.Slice (some (.Name y p2)) (some (.Name z p3)) none p4) p5) (envOf nm sc L f cd)) Q E s := by
  refine Subscript_Slice ?_
  refine e_loc W hx ?_ hk hl1 hd
  refine wpAny_Slice (evalPart_some_step (e_loc W hy (evalPart_some_step (e_loc W hz (evalPart_none_step ?_) hk hl3 hd3)) hk hl2 hd2))
  refine ⟨"str", _, F.slot_str_getitem.lookup, typeIs_str _ _ _, wpAny_getItem_str_slice (l := some ((a : Int), ta)) (u := some ((b : Int), tb)) (st := none) ⟨_, Heap.get?_push_size _ rfl, rfl, rfl⟩ rfl
    (post_val_or_str ⟨Nat.le_trans (Txt.slice_le (tx l) (some (a : Int)) (some (b : Int))) (fits_small (by simpa [Str.length] using Nat.le_trans hl (by decide))), fun t' k => ?_⟩)⟩
  have := h t' _ (W.keeps (h' := s.heap.push { cls := .type "slice", data := .fields #[.int a ta, .int b tb, .none] }) (push_keeps _) k)
  rw [← slice_tx] at this
  exact this
theorem e_slice' {x y : Str} {l : List Nat} {a : Nat} {t ta : Tok} {p1 p2 p4 p5 : Pos} {Q : Value → Shared → Prop} (W : Wk w s₀ L m N s) (hl : l.length ≤ 100000) (hx : Has x (.str (tx l) t) m) (hy : Has y (.int (a : Int) ta) m)
    (h : ∀ t' s', Wk w s₀ L m N s' → Q (.str (tx (l.drop a)) t') s')
    (hk : sc.kind = .function := by kernel_rfl) (hl1 : (envOf nm sc L f cd).kindOf x = some .local := by kernel_rfl) (hl2 : (envOf nm sc L f cd).kindOf y = some .local := by kernel_rfl)
    (hd : (x == ("__debug__" : Str)) = false := by decide) (hd2 : (y == ("__debug__" : Str)) = false := by decide) :
    wpAny (model pw w) A (eval (.Subscript (.Name x p1) (.Slice (some (.Name y p2)) none none p4) p5) (envOf nm sc L f cd)) Q E s := by
  refine Subscript_Slice ?_
  refine e_loc W hx ?_ hk hl1 hd
  refine wpAny_Slice (evalPart_some_step (e_loc W hy (evalPart_none_step (evalPart_none_step ?_)) hk hl2 hd2))
  refine ⟨"str", _, F.slot_str_getitem.lookup, typeIs_str _ _ _, wpAny_getItem_str_slice (l := some ((a : Int), ta)) (u := none) (st := none) ⟨_, Heap.get?_push_size _ rfl, rfl, rfl⟩ rfl
    (post_val_or_str ⟨Nat.le_trans (Txt.slice_le (tx l) (some (a : Int)) none) (fits_small (by simpa [Str.length] using Nat.le_trans hl (by decide))), fun t' k => ?_⟩)⟩
  have := h t' _ (W.keeps (h' := s.heap.push { cls := .type "slice", data := .fields #[.int a ta, .none, .none] }) (push_keeps _) k)
  rw [← slice_tx'] at this
  exact this
end
end Mine

end
section
open PySem PySem.W PyProof.Rows PySem.Calls PyProof.V
set_option Elab.async false
set_option maxRecDepth 100000
namespace Mine
noncomputable section
variable {w : World} {A : Around} {E : Value → Shared → Prop} {s₀ s : Shared} {L : Addr} {m m' : Loc} {N : List (Addr × Obj)} {nm : Str} {sc : Scope} {f : Addr} {cd : Value}

set_option maxHeartbeats 4000000 in
theorem strip_call {R : Result → Shared → Prop} {l : List Nat} {t : Tok} (S : Stands w s.heap) (hroom : A.depth + 1 < recursionLimit) (hh : A.handled = none) (hl : l.length ≤ 3000)
    (h : ∀ t' s', Grown s s' → R (.ok (.ret (.str (tx (stripL l)) t'))) s') :
    codeAny (model pw w) A (.call (.ref 28) ⟨[.str (tx l) t], []⟩) R s := by
  refine call_me [("addr", .str (tx l) t)] [("addr", some (.str (tx l) t)), ("start", none), ("open_pos", none), ("result", none), ("pos", none), ("ch", none)] ["start", "open_pos", "result", "pos", "ch"] fn28 S (Nat.lt_of_succ_lt hroom) (fun cd s' W => ?_)
  conv in fnB 2 => whnf
  unfold stripL at h
  refine x_if (wpAny_isTrue_Compare1 (Constant_str (e_loc (W.toks _) .head (SB.notContains (wpAny_truthy_bool ?_)))))
  have hq : (Txt.contains (tx l) (tx [34]) = true) ↔ 34 ∈ l := contains_one l 34
  by_cases hin : 34 ∈ l
  · rw [if_pos hin] at h
    have hb : Txt.contains (tx l) (Str.ofString "\"") = true := hq.mpr hin
    rw [hb]
    refine wpAny_execs_nil ?_
    have W := W.toks (s'.toks + 1)
    refine x_assign ?_
    refine e_nat 0 rfl W fun ts _ W => ?_
    refine store W (.tail .head) fun _ W => ?_
    refine x_assign ?_
    refine Constant_none ?_
    refine store W (.tail (.tail .head)) fun _ W => ?_
    refine x_assign ?_
    refine List_ ?_
    refine args_nil ?_
    refine W_list (hsz := fits_small (by simp)) W fun D _ W _ => ?_
    refine store W (.tail (.tail (.tail .head))) fun _ W => ?_
    have hel := escItems_len l 0 false
    generalize hits : escItems 0 false l = its at *
    refine x_for_gen (L := s.heap.objs.size) (s₀ := s) (its := its) (A := A.deeper (envOf "_strip_quoted_realnames" (fnS 2) s.heap.objs.size 28 cd)) hh hroom
      (fun i m' N' => ∃ o va ts to v1 v2, N' = [(D, o)] ∧ IsLo o va ∧ StrsAre va (((its.take i).foldl (spStep l) ⟨0, none, []⟩).out.map tx) ∧
        m' = spL l t D ((its.take i).foldl (spStep l) ⟨0, none, []⟩) ts to v1 v2) ?_ ?_ ?_
    · subst hits
      refine e_gen hh hroom W .head fun Ga ga Tl s1 T W1 => ⟨Ga, ga, Tl, _, _, rfl, T, W1, ?_⟩
      exact ⟨_, [], ts, 0, none, none, rfl, IsLo.new _ _, .nil, rfl⟩
    · rintro i m' N' ga Tl p z tp tz s₁ hi ⟨o, va, ts, to, v1, v2, rfl, hlo, hva, rfl⟩ hga W
      have hs1 := spFold_snoc l its i (p, z) ⟨0, none, []⟩ hi
      have hb := (spFold_len l (its.take i) ⟨0, none, []⟩).1
      change _ ≤ 0 + _ at hb
      have hti : (its.take i).length ≤ its.length := by rw [List.length_take]; omega
      generalize (its.take i).foldl (spStep l) ⟨0, none, []⟩ = st at *
      have hval := hva.length
      rw [List.length_map] at hval
      refine store W (.tail (.tail (.tail (.tail .head)))) fun _ W => ?_
      refine store W (.tail (.tail (.tail (.tail (.tail .head))))) fun _ W => ?_
      have fin : ∀ {o' : Obj} {vb : List Value} {ts to : Tok} {s3 : Shared}, IsLo o' vb → StrsAre vb ((spStep l st (p, z)).out.map tx) →
          Wk w { s with gens := ga } s.heap.objs.size (spL l t D (spStep l st (p, z)) ts to (some (.int (p : Int) tp)) (some (.str (tx z) tz))) ([(D, o')] ++ Tl) s3 →
          ∃ m3 N3, Wk w { s with gens := ga } s.heap.objs.size m3 (N3 ++ Tl) s3 ∧ ∃ o va ts to v1 v2, N3 = [(D, o)] ∧ IsLo o va ∧ StrsAre va (((its.take (i + 1)).foldl (spStep l) ⟨0, none, []⟩).out.map tx) ∧
            m3 = spL l t D ((its.take (i + 1)).foldl (spStep l) ⟨0, none, []⟩) ts to v1 v2 := by
        intro o' vb ts to s3 hlo' hvb W3
        rw [hs1]
        exact ⟨_, _, W3, o', vb, ts, to, _, _, rfl, hlo', hvb, rfl⟩
      refine x_ifb (TB.eqTx (c := [34]) rfl (.tail (.tail (.tail (.tail (.tail .head)))))) W (fun hq _ W => ?_) (fun hq _ W => ?_)
      · have hz : z = [34] := by simpa using hq
        obtain ⟨sa, so, su⟩ := st
        cases so with
        | none =>
          have hsp : spStep l ⟨sa, none, su⟩ (p, z) = ⟨sa, some p, su⟩ := by simp [spStep, hz]
          rw [hsp] at fin
          refine x_if (wpAny_isTrue_Compare1 (e_loc W (.tail (.tail .head)) (Constant_none (is_none_gen (wpAny_truthy_bool ?_)))))
          rw [show (opV none to == Value.none) = true from rfl]
          refine x_assign ?_
          refine e_loc W (.tail (.tail (.tail (.tail .head)))) ?_
          refine store W (.tail (.tail .head)) fun _ W => ?_
          refine wpAny_execs_nil ?_
          refine wpAny_execs_nil ?_
          refine wpAny_execs_nil ?_
          exact fin (to := tp) hlo hva W
        | some k =>
          have hsp : spStep l ⟨sa, some k, su⟩ (p, z) = ⟨p + 1, none, if sa ≠ k then su ++ [(l.take k).drop sa] else su⟩ := by simp [spStep, hz]
          rw [hsp] at fin
          refine x_if (wpAny_isTrue_Compare1 (e_loc W (.tail (.tail .head)) (Constant_none (is_none_gen (wpAny_truthy_bool ?_)))))
          rw [show (opV (some k) to == Value.none) = false from rfl]
          refine x_if (wpAny_isTrue_Compare1 (e_loc W (.tail .head) (e_loc W (.tail (.tail .head)) (PyProof.Rows.ne_int (wpAny_truthy_bool ?_)))))
          refine wpAny_mono (Q := fun fl s3 => fl = .next ∧ ∃ o' vb, IsLo o' vb ∧ StrsAre vb ((if sa ≠ k then su ++ [(l.take k).drop sa] else su).map tx) ∧
              Wk w { s with gens := ga } s.heap.objs.size (spL l t D ⟨sa, some k, su⟩ ts to (some (.int (p : Int) tp)) (some (.str (tx z) tz))) ([(D, o')] ++ Tl) s3) ?_ ?_ (fun _ _ x => x)
          · by_cases hne : sa = k
            · rw [show (((sa : Nat) : Int) != ((k : Nat) : Int)) = false by simp [hne]]
              refine wpAny_execs_nil ⟨rfl, o, va, hlo, ?_, W⟩
              rw [if_neg (by simpa using hne)]; exact hva
            · rw [show (((sa : Nat) : Int) != ((k : Nat) : Int)) = true by simp; omega]
              refine x_append W (.tail (.tail (.tail .head))) ?_ ⟨_, W.plain (.head _) hlo⟩
              refine e_slice W (Nat.le_trans hl (by decide)) .head (.tail .head) (.tail (.tail .head)) fun t' _ W => ?_
              refine W_append W hlo (by omega) fun o' _ hlo' W => ⟨rfl, ?_⟩
              refine wpAny_execs_nil ⟨rfl, o', _, hlo', ?_, W⟩
              rw [if_pos hne, List.map_append]
              exact hva.append' (.cons _ _ .nil)
          · rintro fl s3 ⟨rfl, o', vb, hlo', hvb, W⟩
            refine x_assign ?_
            refine wpAny_BinOp ?_
            refine e_loc W (.tail (.tail (.tail (.tail .head)))) ?_
            refine e_nat 1 rfl W fun _ _ W => ?_
            refine e_add W fun _ _ W => ?_
            refine store W (.tail .head) fun _ W => ?_
            refine x_assign ?_
            refine Constant_none ?_
            refine store W (.tail (.tail .head)) fun _ W => ?_
            refine wpAny_execs_nil ?_
            refine wpAny_execs_nil ?_
            refine wpAny_execs_nil ?_
            exact fin (to := to) hlo' hvb W
      · have hz : ¬ z = [34] := by simpa using hq
        have hsp : spStep l st (p, z) = st := by simp [spStep, hz]
        rw [hsp] at fin
        refine wpAny_execs_nil ?_
        refine wpAny_execs_nil ?_
        exact fin hlo hva W
    · rintro m' N' s₁ ⟨o, va, ts, to, v1, v2, rfl, hlo, hva, rfl⟩ W
      rw [List.take_length] at hva W
      have hb := spFold_len l its ⟨0, none, []⟩
      change _ ≤ 0 + _ ∧ _ ≤ 0 + _ at hb
      generalize its.foldl (spStep l) ⟨0, none, []⟩ = st at *
      have hval := hva.length
      rw [List.length_map] at hval
      have hmul : its.length * l.length ≤ 3001 * 3000 := Nat.mul_le_mul (by omega) hl
      have hout : st.out.flatten.length ≤ 9003000 := by omega
      unfold spEnd at h
      refine x_if (wpAny_isTrue_Compare1 (e_loc W (.tail .head) ?_))
      refine e_callB W.S gl_len ?_
      refine args_c ?_
      refine e_loc W .head ?_
      refine args_nil ?_
      refine PyProof.Rows.len_str (by simp [Str.length]; omega) ?_
      have W := W.toks (s₁.toks + 1 + 1)
      refine PyProof.Rows.lt_int (wpAny_truthy_bool ?_)
      rw [show decide ((st.start : Int) < ((tx l).length : Int)) = decide (st.start < l.length) by simp [Str.length]]
      refine wpAny_mono (Q := fun fl s3 => fl = .next ∧ ∃ o' vb, IsLo o' vb ∧ StrsAre vb ((if st.start < l.length then st.out ++ [l.drop st.start] else st.out).map tx) ∧
          Wk w s s.heap.objs.size (spL l t D st ts to v1 v2) [(D, o')] s3) ?_ ?_ (fun _ _ x => x)
      · by_cases hne : st.start < l.length
        · rw [decide_eq_true hne]
          refine x_append W (.tail (.tail (.tail .head))) ?_ ⟨_, W.plain (.head _) hlo⟩
          refine e_slice' W (Nat.le_trans hl (by decide)) .head (.tail .head) fun t' _ W => ?_
          refine W_append W hlo (by omega) fun o' _ hlo' W => ⟨rfl, ?_⟩
          refine wpAny_execs_nil ⟨rfl, o', _, hlo', ?_, W⟩
          rw [if_pos hne, List.map_append]
          exact hva.append' (.cons _ _ .nil)
        · rw [decide_eq_false hne]
          refine wpAny_execs_nil ⟨rfl, o, va, hlo, ?_, W⟩
          rw [if_neg hne]; exact hva
      · rintro fl s3 ⟨rfl, o', vb, hlo', hvb, W⟩
        refine x_ret ?_
        refine e_join rfl W fun _ _ W => ?_
        refine e_loc W (.tail (.tail (.tail .head))) ?_
        refine call_join (ls := if st.start < l.length then st.out ++ [l.drop st.start] else st.out) W (W.lo List.mem_cons_self hlo') hvb ?_ fun _ _ W => h _ _ W.grown
        split
        · simp only [List.flatten_append, List.length_append, List.flatten_cons, List.flatten_nil, List.append_nil, List.length_drop]; omega
        · omega
  · rw [if_neg hin] at h
    have hb : Txt.contains (tx l) (Str.ofString "\"") = false := by
      cases hc : Txt.contains (tx l) (Str.ofString "\"") with
      | false => rfl
      | true => exact absurd (hq.mp hc) hin
    rw [hb]
    refine x_ret ?_
    refine e_loc (W.toks _) .head ?_
    exact h t _ (W.toks (s'.toks + 1)).grown
end
end Mine

end
section
open PySem PySem.W PyProof.Rows PySem.Calls PyProof.V
set_option Elab.async false
set_option maxRecDepth 100000
namespace Mine
noncomputable section
variable {w : World} {A : Around} {E : Value → Shared → Prop} {s₀ s : Shared} {L : Addr} {m m' : Loc} {N : List (Addr × Obj)} {nm : Str} {sc : Scope} {f : Addr} {cd : Value}

/-! ### _check_parenthesis -/
noncomputable def paStep : Option Nat → Nat × List Nat → Option Nat
  | none, _ => none
  | some k, it => if it.2 = [40] then some (k + 1) else if it.2 = [41] then (if k = 0 then none else some (k - 1)) else some k
noncomputable def parenL (l : List Nat) : Bool := decide ((escItems 0 false (stripL l)).foldl paStep (some 0) = some 0)
theorem paFold_none : ∀ its : List (Nat × List Nat), its.foldl paStep none = none
  | [] => rfl
  | _ :: r => paFold_none r
theorem paFold_snoc (its : List (Nat × List Nat)) (i : Nat) (x : Nat × List Nat) (st : Option Nat) (hx : its[i]? = some x) : (its.take (i + 1)).foldl paStep st = paStep ((its.take i).foldl paStep st) x := by
  rw [List.take_add_one, hx, List.foldl_append]; rfl
theorem paFold_dead (its : List (Nat × List Nat)) (i : Nat) (st : Option Nat) (h : (its.take i).foldl paStep st = none) : its.foldl paStep st = none := by
  rw [← List.take_append_drop i its, List.foldl_append, h, paFold_none]

set_option maxHeartbeats 4000000 in
theorem paren_call {R : Result → Shared → Prop} {l : List Nat} {t : Tok} (S : Stands w s.heap) (hroom : A.depth + 2 < recursionLimit) (hh : A.handled = none) (hl : l.length ≤ 3000)
    (h : ∀ s', Grown s s' → R (.ok (.ret (.bool (parenL l)))) s') :
    codeAny (model pw w) A (.call (.ref 35) ⟨[.str (tx l) t], []⟩) R s := by
  refine call_me [("addr", .str (tx l) t)] [("addr", some (.str (tx l) t)), ("opens", none), ("pos", none), ("ch", none)] ["opens", "pos", "ch"] fn35 S (by omega) (fun cd s' W => ?_)
  conv in fnB 3 => whnf
  unfold parenL at h
  refine x_assign ?_
  refine e_callD W.S gl_fn28 fn28 ?_
  refine args_c ?_
  refine e_loc W .head ?_
  refine args_nil ⟨W.S, ?_⟩
  refine strip_call W.S hroom hh hl fun ta _ G => ?_
  have W := W.grow G
  refine store W .head fun _ W => ?_
  refine x_assign ?_
  refine e_nat 0 rfl W fun ts _ W => ?_
  refine store W (.tail .head) fun _ W => ?_
  generalize hits : escItems 0 false (stripL l) = its at *
  refine x_for_gen (L := s.heap.objs.size) (s₀ := s) (its := its) (A := A.deeper (envOf "_check_parenthesis" (fnS 3) s.heap.objs.size 35 cd)) hh (Nat.lt_of_succ_lt hroom)
    (fun i m' N' => ∃ k ts v1 v2, N' = [] ∧ (its.take i).foldl paStep (some 0) = some k ∧ m' = ([("addr", some (.str (tx (stripL l)) ta)), ("opens", some (.int (k : Int) ts)), ("pos", v1), ("ch", v2)] : Loc)) ?_ ?_ ?_
  · subst hits
    refine e_gen hh (Nat.lt_of_succ_lt hroom) W .head fun Ga ga Tl s1 T W1 => ⟨Ga, ga, Tl, _, _, rfl, T, W1, ?_⟩
    exact ⟨0, ts, none, none, rfl, rfl, rfl⟩
  · rintro i m' N' ga Tl p z tp tz s₁ hi ⟨k, ts, v1, v2, rfl, hk, rfl⟩ hga W
    have hs1 := paFold_snoc its i (p, z) (some 0) hi
    rw [hk] at hs1
    refine store W (.tail (.tail .head)) fun _ W => ?_
    refine store W (.tail (.tail (.tail .head))) fun _ W => ?_
    have fin : ∀ {k' : Nat} {ts : Tok} {s3 : Shared}, paStep (some k) (p, z) = some k' →
        Wk w { s with gens := ga } s.heap.objs.size [("addr", some (.str (tx (stripL l)) ta)), ("opens", some (.int (k' : Int) ts)), ("pos", some (.int (p : Int) tp)), ("ch", some (.str (tx z) tz))] ([] ++ Tl) s3 →
        ∃ m3 N3, Wk w { s with gens := ga } s.heap.objs.size m3 (N3 ++ Tl) s3 ∧ ∃ k ts v1 v2, N3 = [] ∧ (its.take (i + 1)).foldl paStep (some 0) = some k ∧
          m3 = ([("addr", some (.str (tx (stripL l)) ta)), ("opens", some (.int (k : Int) ts)), ("pos", v1), ("ch", v2)] : Loc) :=
      fun e W3 => ⟨_, _, W3, _, _, _, _, rfl, hs1.trans e, rfl⟩
    refine x_ifb (TB.eqTx (c := [40]) rfl (.tail (.tail (.tail .head)))) W (fun hq _ W => ?_) (fun hq _ W => ?_)
    · have hz : z = [40] := by simpa using hq
      refine x_augL W (.tail .head) ?_
      refine e_nat 1 rfl W fun _ s3 W => ?_
      refine P.iadd_int ?_
      refine store (W.toks (s3.toks + 1)) (.tail .head) fun _ W => ?_
      refine wpAny_execs_nil ?_
      refine wpAny_execs_nil ?_
      exact fin (k' := k + 1) (by simp [paStep, hz]) W
    · have hz : ¬ z = [40] := by simpa using hq
      refine x_ifb (TB.eqTx (c := [41]) rfl (.tail (.tail (.tail .head)))) W (fun hq _ W => ?_) (fun hq _ W => ?_)
      · have hz2 : z = [41] := by simpa using hq
        refine x_augL W (.tail .head) ?_
        refine e_nat 1 rfl W fun _ s3 W => ?_
        refine P.isub_int ?_
        refine store (W.toks (s3.toks + 1)) (.tail .head) fun _ W => ?_
        refine x_if (wpAny_isTrue_Compare1 (e_loc W (.tail .head) (e_nat 0 rfl W fun _ _ W => PyProof.Rows.lt_int (wpAny_truthy_bool ?_))))
        by_cases hk0 : k = 0
        · rw [show decide ((k : Int) - ((1 : Nat) : Int) < ((0 : Nat) : Int)) = true by simp; omega]
          refine x_ret ?_
          refine Constant_bool ?_
          have hdead : paStep (some k) (p, z) = none := by simp [paStep, hz2, hk0]
          rw [hdead] at hs1
          rw [paFold_dead its _ _ hs1] at h
          exact h _ (W.rebase hga).grown
        · rw [show decide ((k : Int) - ((1 : Nat) : Int) < ((0 : Nat) : Int)) = false by simp; omega]
          rw [show (k : Int) - ((1 : Nat) : Int) = ((k - 1 : Nat) : Int) by omega] at W
          refine wpAny_execs_nil ?_
          refine wpAny_execs_nil ?_
          refine wpAny_execs_nil ?_
          refine wpAny_execs_nil ?_
          exact fin (k' := k - 1) (by simp [paStep, hz2, hk0]) W
      · have hz2 : ¬ z = [41] := by simpa using hq
        refine wpAny_execs_nil ?_
        refine wpAny_execs_nil ?_
        refine wpAny_execs_nil ?_
        exact fin (by simp [paStep, hz, hz2]) W
  · rintro m' N' s₁ ⟨k, ts, v1, v2, rfl, hk, rfl⟩ W
    rw [List.take_length] at hk
    rw [hk] at h
    refine x_ret ?_
    refine wpAny_Compare1 ?_
    refine e_loc W (.tail .head) ?_
    refine e_nat 0 rfl W fun _ _ W => ?_
    refine PyProof.Rows.eq_int ?_
    rw [show (((k : Nat) : Int) == ((0 : Nat) : Int)) = decide (some k = some 0) by rw [Bool.eq_iff_iff]; simp]
    exact h _ W.grown
end
end Mine

end
section
open PySem PySem.W PyProof.Rows PySem.Calls PyProof.V
set_option Elab.async false
set_option maxRecDepth 100000
namespace Mine
noncomputable section
variable {w : World} {A : Around} {E : Value → Shared → Prop} {s₀ s : Shared} {L : Addr} {m m' : Loc} {N : List (Addr × Obj)} {nm : Str} {sc : Scope} {f : Addr} {cd : Value}

/-! ### walks over a list -/
noncomputable def listIto (D : Addr) (i : Nat) (o : Obj) : Prop := o.cls = .type "list_iterator" ∧ o.data = .fields #[.ref D, .int i 0]
theorem It.list (hh : A.handled = none) (D : Addr) (vs : List Value) : It w A vs.length (fun i v => vs[i]? = some v) (listIto D) (fun h => h.IsList D vs.toArray) where
  next := by
    intro I it i s Q E hi hit ho hD h
    obtain ⟨hc, hd⟩ := hit
    obtain ⟨v, hv⟩ : ∃ v, vs[i]? = some v := ⟨_, List.getElem?_eq_getElem hi⟩
    refine wpAny_pyNext_list_item ⟨it, ho, hc, hd⟩ hD (by simpa using hv) fun h' hi' hs => ?_
    obtain ⟨it', ho', hc', hd'⟩ := hi'
    exact h v it' h' _ hv ⟨hc', hd'⟩ ho' fun b o hb e => by rw [hs.2 b hb]; exact e
  stop := by
    intro I it s Q E hit ho hD h
    obtain ⟨hc, hd⟩ := hit
    exact wpAny_pyNext_list_end hh ⟨it, ho, hc, hd⟩ hD (by simp) fun h' hs => h h' _ hs
theorem iter_list {D : Addr} {vs : List Value} {Q : Value → Shared → Prop} (W : Wk w s₀ L m N s) (hl : s.heap.IsList D vs.toArray) (h : ∀ I it s', listIto D 0 it → Wk w s₀ L m ((I, it) :: N) s' → Q (.ref I) s') :
    wpAny (model pw w) A (pyIter (.ref D)) Q E s := by
  refine wpAny_pyIter_list hl ?_
  exact h _ { cls := .type "list_iterator", data := .fields #[.ref D, .int 0 0] } _ ⟨rfl, rfl⟩ (W.new (push_keeps _) (size_free _) (Heap.get?_push_size _ rfl) s.toks)
theorem self_list {D I : Addr} {i : Nat} {it : Obj} {Q : Value → Shared → Prop} (hit : listIto D i it) (ho : s.heap.get? I = some it) (h : Q (.ref I) s) : wpAny (model pw w) A (pyIter (.ref I)) Q E s :=
  wpAny_pyIter_listiter ⟨it, ho, hit.1, hit.2⟩ h
theorem self_str {l : List Nat} {t : Tok} {I : Addr} {i : Nat} {it : Obj} {Q : Value → Shared → Prop} (hit : strIto l t i it) (ho : s.heap.get? I = some it) (h : Q (.ref I) s) : wpAny (model pw w) A (pyIter (.ref I)) Q E s := by
  obtain ⟨hc, hd⟩ := hit
  rcases hc with hc | hc
  · exact wpAny_pyIter_striter_ascii ⟨it, ho, hc, hd⟩ h
  · exact wpAny_pyIter_striter_wide ⟨it, ho, hc, hd⟩ h

/-! ### a comprehension over a name, its frame an object of its own -/
noncomputable def cE (sc2 : Scope) (C : Addr) (nm : Str) (L : Addr) (cd : Value) : Env :=
  { scope := sc2, locals := C, globals := mainGlobals, cells := [], qual := nm ++ ".<locals>.", func := none, code := cd, frame := some L, builtins := builtinsNs }
section
variable {sc2 : Scope} {C : Addr} {mC : Str → Option Value}
theorem c_loc {x : Str} {pos : Pos} {v : Value} {Q : Value → Shared → Prop} (ns : s.heap.Ns C mC) (hv : mC x = some v) (h : Q v s)
    (hk : sc2.kind = .function := by kernel_rfl) (hl : (cE sc2 C nm L cd).kindOf x = some .local := by kernel_rfl) (hd : (x == ("__debug__" : Str)) = false := by decide) :
    wpAny (model pw w) A (eval (.Name x pos) (cE sc2 C nm L cd)) Q E s := wpAny_Name (wpAny_loadName_local (env := cE sc2 C nm L cd) hk hl ns hv h) hd
theorem c_glob {x : Str} {pos : Pos} {v : Value} {Q : Value → Shared → Prop} (S : Stands w s.heap) (hg : Glo w.params x v) (h : Q v s)
    (hk : sc2.kind = .function := by kernel_rfl) (hl : (cE sc2 C nm L cd).kindOf x = some .globalImplicit := by kernel_rfl) (hd : (x == ("__debug__" : Str)) = false := by decide) :
    wpAny (model pw w) A (eval (.Name x pos) (cE sc2 C nm L cd)) Q E s := by
  refine Name_function_global hk hl ?_ hd
  rcases hg with hg | ⟨h1, h2⟩
  · exact loadGlobal_global (env := cE sc2 C nm L cd) S.main hg h
  · exact loadGlobal_builtin (env := cE sc2 C nm L cd) S.main h1 S.blt h2 h
theorem c_callD {x : Str} {g : Addr} {i : Nat} {gn : Str} {np pos : Pos} {e : Expr} {rest : List Expr} {Q : Value → Shared → Prop} (S : Stands w s.heap) (hg : Glo w.params x (.ref g)) (hf : Fn w g i gn)
    (h : wpAny (model pw w) A (spliced (backTo pos (starEach (e :: rest) (cE sc2 C nm L cd)))) (fun vs s₁ => Stands w s₁.heap ∧ codeAny (model pw w) A (.call (.ref g) ⟨vs, []⟩) (RetOf Q E) s₁) E s)
    (he : isStar e = false := by rfl)
    (hk : sc2.kind = .function := by kernel_rfl) (hl : (cE sc2 C nm L cd).kindOf x = some .globalImplicit := by kernel_rfl)
    (hd : (x == ("__debug__" : Str)) = false := by decide) :
    wpAny (model pw w) A (eval (.Call (.Name x np) (e :: rest) [] pos) (cE sc2 C nm L cd)) Q E s := by
  obtain ⟨o, pm, cdg, doc, ho, hdat, hcd⟩ := hf
  exact Call_ (c_glob S hg (callWith_def hdat (wpAny_mono h (fun vs s₁ h₁ => ⟨h₁.1 _ _ ho, call_of h₁.2⟩) fun _ _ x => x) (star_no he)) hk hl hd)
end

noncomputable def Selfy (w : World) (A : Around) (Ito : Nat → Obj → Prop) : Prop := ∀ {I it s} {Q : Value → Shared → Prop} {E : Value → Shared → Prop}, Ito 0 it → s.heap.get? I = some it → Q (.ref I) s → wpAny (model pw w) A (pyIter (.ref I)) Q E s
theorem Selfy.list {D : Addr} : Selfy w A (listIto D) := fun h1 h2 h3 => self_list h1 h2 h3
theorem Selfy.str {l : List Nat} {t : Tok} : Selfy w A (strIto l t) := fun h1 h2 h3 => self_str h1 h2 h3
set_option maxHeartbeats 1000000 in
theorem comp_core {elt iter : Expr} {x : Str} {px pos : Pos} {ifs : List Expr} {sc2 : Scope} {n : Nat} {P : Nat → Value → Prop} {Ito : Nat → Obj → Prop} {Cn : Heap → Prop} {RR : Value → Env → Result → Shared → Prop} {I : Addr} {it : Obj} (T : It w A n P Ito Cn) (J : Nat → List Value → Prop)
    (hself : Selfy w A Ito) (hn : n ≤ 100000) (h0 : J 0 [])
    (hi0 : Ito 0 it) (W : Wk w s₀ L m ((I, it) :: N) s) (hC : ∀ s', Wk w s₀ L m N s' → Cn s'.heap)
    (hRR : ∀ D C o oC ys mC s', D ≠ C → J n ys → ys.length ≤ n → IsLo o ys → (∀ h : Heap, h.get? C = some oC → h.Ns C mC) → Wk w s₀ L m ((C, oC) :: (D, o) :: N) s' → RR (.ref D) (cE sc2 C nm L cd) (.ok .next) s')
    (step : ∀ i v ys C mC Na s', i < n → P i v → J i ys → mC x = some v → (∀ s'', Wk w s₀ L m Na s'' → s''.heap.Ns C mC) → Wk w s₀ L m Na s' →
      wpAny (model pw w) A (forIn ifs true fun c r => if r = true then do let ok ← isTrue c (cE sc2 C nm L cd) (eval c (cE sc2 C nm L cd)); pure (ForInStep.yield ok) else pure (ForInStep.yield r))
        (fun ok s₃ => if ok = true then wpAny (model pw w) A (eval elt (cE sc2 C nm L cd)) (fun y s₄ => Wk w s₀ L m Na s₄ ∧ J (i + 1) (ys ++ [y])) (fun _ _ => False) s₃ else Wk w s₀ L m Na s₃ ∧ J (i + 1) ys) (fun _ _ => False) s')
    (hf2 : ∀ x ∈ sc2.names, x.2 ≠ .cell) (hkind : sc2.kind = .function) (hx : sc2.names.lookup x = some .local) :
    wpAny (model pw w) A (newList []) (fun acc s₃ => wpAny (model pw w) A (newFunctionEnv sc2 mainGlobals [] [] (nm ++ ".<locals>.") none .none (some (envOf nm sc L f cd))) (fun cenv s₄ =>
      codeAny (model pw w) A (.compStart (.ListComp elt [⟨.Name x px, iter, ifs, 0⟩] sc2 pos) 0 (.ref I) acc { cenv with scope := sc2 }) (RR acc { cenv with scope := sc2 }) s₄) E s₃) E s := by
  refine W_list (hsz := fits_small (by simp)) W fun D s₃ W _ => ?_
  refine wpAny_newFunctionEnv hf2 (by intro y hy; simp at hy) (fun h₁ hns₁ hsb₁ => ?_) hkind
  have hkeep : ∀ b o, s₃.heap.get? b = some o → h₁.get? b = some o := fun b o e => hsb₁.extBut b o (Nat.ne_of_lt (Heap.lt_size e)) (Heap.get?_push_of_some _ e)
  have hfree := size_free s₃.heap
  generalize s₃.heap.objs.size = C at *
  obtain ⟨oC, es, ep, hoC, hr⟩ := id hns₁
  have W2 := W.new hkeep hfree hoC (s₃.toks + ([] : List (Str × Value)).length)
  have hdc : D ≠ C := fun e => (List.nodup_cons.mp W2.na).1 (by rw [← e]; exact List.mem_cons_self)
  show codeAny (model pw w) A (.compStart (.ListComp elt [⟨.Name x px, iter, ifs, 0⟩] sc2 pos) 0 (.ref I) (.ref D) (cE sc2 C nm L cd)) _ _
  have loop : ∀ s', Wk w s₀ L m ((C, oC) :: (D, { cls := .type "list", data := .seq ([] : List Value).toArray }) :: (I, it) :: N) s' →
      codeAny (model pw w) A (.compLoop (.ListComp elt [⟨.Name x px, iter, ifs, 0⟩] sc2 pos) 0 (.ref I) (.ref D) (cE sc2 C nm L cd)) (RR (.ref D) (cE sc2 C nm L cd)) s' := by
    intro s' W'
    refine codeAny_compLoop_tests (fun k s' => ∃ i it ys o oC mC, k = n - i ∧ i ≤ n ∧ Ito i it ∧ IsLo o ys ∧ J i ys ∧ ys.length ≤ i ∧ (∀ h : Heap, h.get? C = some oC → h.Ns C mC) ∧ Wk w s₀ L m ((C, oC) :: (D, o) :: (I, it) :: N) s')
      (fun k s' hk => ?_) n ⟨0, it, [], _, oC, _, rfl, Nat.zero_le _, hi0, IsLo.new _ _, h0, Nat.le_refl _, fun h e => ⟨oC, es, ep, e, hr⟩, W'⟩
    obtain ⟨i, it, ys, o, oC, mC, rfl, hle, hit, hlo, hJ, hly, hnsC, W⟩ := hk
    have WI := W.perm (N' := (I, it) :: (C, oC) :: (D, o) :: N) ((List.Perm.cons _ (List.Perm.swap ..)).trans (List.Perm.swap ..))
    by_cases hlt : i < n
    · refine T.next hlt hit (WI.lookN List.mem_cons_self) (hC _ WI.drop.drop.drop) fun v it' h' tk hP hit' ho' hk' => ?_
      have W' := WI.mut hk' ho' tk
      have W' := W'.perm (N' := (C, oC) :: (D, o) :: (I, it') :: N) ((List.Perm.swap ..).trans (List.Perm.cons _ (List.Perm.swap ..)))
      refine wpAny_assign_Name (wpAny_storeName_local (env := cE sc2 C nm L cd) hx (hnsC _ (W'.lookN List.mem_cons_self)) (fun h2 hn2 hs2 => ?_) (by show (sc2.kind == .class || (sc2.kind == .module && C != mainGlobals)) = false; rw [hkind]; rfl))
      obtain ⟨oC', es', ep', hoC', hr'⟩ := hn2
      have W'' := W'.mut (h' := h2) (o' := oC') (fun b ob hb e => hs2.extBut b ob hb e) hoC'
      refine wpAny_mono (step i v ys C _ _ _ hlt hP hJ (by simp) (fun s'' Ws => ⟨oC', es', ep', Ws.lookN List.mem_cons_self, hr'⟩) (W'' _)) (fun ok s₃ h₃ => ?_) fun _ _ x => x.elim
      cases ok with
      | false =>
        rw [if_neg (by decide)] at h₃ ⊢
        exact ⟨_, by omega, i + 1, it', ys, o, oC', _, rfl, hlt, hit', hlo, h₃.2, Nat.le_succ_of_le hly, fun h e => ⟨oC', es', ep', e, hr'⟩, h₃.1⟩
      | true =>
        rw [if_pos rfl] at h₃ ⊢
        refine wpAny_mono h₃ (fun y s₄ h₄ => ?_) fun _ _ x => x.elim
        obtain ⟨W4, J4⟩ := h₄
        refine W_append W4.swap hlo (by omega) fun o' s5 hlo' W5 => ?_
        exact ⟨_, by omega, i + 1, it', _, o', oC', _, rfl, hlt, hit', hlo', J4, by rw [List.length_append]; exact Nat.succ_le_succ hly, fun h e => ⟨oC', es', ep', e, hr'⟩, W5.swap⟩
    · have e : i = n := by omega
      subst e
      refine T.stop hit (WI.lookN List.mem_cons_self) (hC _ WI.drop.drop.drop) fun h' tk hk' => ?_
      exact hRR D C o oC ys mC _ hdc hJ hly hlo hnsC (WI.lose hk' tk)
  exact codeAny_compStart_list (loop _ W2) (hself hi0 ((W2.lookN (p := (I, it)) (by simp))) (loop _ W2))
theorem e_comp {elt iter : Expr} {x : Str} {px pos : Pos} {ifs : List Expr} {sc2 : Scope} {n : Nat} {Q : Value → Shared → Prop} (_ : Wk w s₀ L m N s) (P : Nat → Value → Prop) (J : Nat → List Value → Prop)
    (hn : n ≤ 100000) (h0 : J 0 [])
    (hiter : wpAny (model pw w) A (eval iter (envOf nm sc L f cd)) (fun v s₁ => wpAny (model pw w) A (pyIter v) (fun r s₂ => ∃ Ito Cn I it N', r = .ref I ∧ It w A n P Ito Cn ∧ Selfy w A Ito ∧ Ito 0 it ∧ Wk w s₀ L m ((I, it) :: N') s₂ ∧ (∀ s', Wk w s₀ L m N' s' → Cn s'.heap) ∧
      (∀ D o ys s', J n ys → ys.length ≤ n → IsLo o ys → Wk w s₀ L m ((D, o) :: N') s' → Q (.ref D) s')) E s₁) E s)
    (step : ∀ i v ys C mC Na s', i < n → P i v → J i ys → mC x = some v → (∀ s'', Wk w s₀ L m Na s'' → s''.heap.Ns C mC) → Wk w s₀ L m Na s' →
      wpAny (model pw w) A (forIn ifs true fun c r => if r = true then do let ok ← isTrue c (cE sc2 C nm L cd) (eval c (cE sc2 C nm L cd)); pure (ForInStep.yield ok) else pure (ForInStep.yield r))
        (fun ok s₃ => if ok = true then wpAny (model pw w) A (eval elt (cE sc2 C nm L cd)) (fun y s₄ => Wk w s₀ L m Na s₄ ∧ J (i + 1) (ys ++ [y])) (fun _ _ => False) s₃ else Wk w s₀ L m Na s₃ ∧ J (i + 1) ys) (fun _ _ => False) s')
    (hfree : (sc2.names.all fun x => decide (x.2 ≠ .free) && decide (x.2 ≠ .cell)) = true := by kernel_rfl) (hkind : sc2.kind = .function := by kernel_rfl) (hnames : (sc2.names.all fun x => decide (x.2 ≠ .local) || decide (sc2.names.lookup x.1 = some .local)) = true := by kernel_rfl) (hx : sc2.names.lookup x = some .local := by kernel_rfl)
    (hs : ∀ x, foldedSetIterable iter (envOf nm sc L f cd) x = pure x := by intro _; with_unfolding_all rfl) :
    wpAny (model pw w) A (eval (.ListComp elt [⟨.Name x px, iter, ifs, 0⟩] sc2 pos) (envOf nm sc L f cd)) Q E s := by
  have hf1 : ∀ x ∈ sc2.names, x.2 ≠ .free := fun y hy => by
    have := List.all_eq_true.mp hfree y hy
    rw [Bool.and_eq_true] at this
    exact of_decide_eq_true this.1
  have hf2 : ∀ x ∈ sc2.names, x.2 ≠ .cell := fun y hy => by
    have := List.all_eq_true.mp hfree y hy
    rw [Bool.and_eq_true] at this
    exact of_decide_eq_true this.2
  have hnm : ∀ x ∈ sc2.names, x.2 = .local → sc2.names.lookup x.1 = some .local := fun y hy hl => by
    have := List.all_eq_true.mp hnames y hy
    rw [Bool.or_eq_true] at this
    rcases this with h | h
    · exact absurd hl (of_decide_eq_true h)
    · exact of_decide_eq_true h
  refine wpAny_ListComp hf1 hkind hnm (wpAny_mono hiter (fun v s₁ h₁ => wpAny_mono h₁ (fun r s₂ h₂ => ?_) fun _ _ x => x) fun _ _ x => x) hs
  obtain ⟨Ito, Cn, I, it, N', rfl, T, hself, hi0, W, hC, hQ⟩ := h₂
  refine comp_core (RR := fun acc ev r s' => ∃ m, s'.heap.Ns ev.locals m ∧ ∀ h', Heap.SameBut ev.locals s'.heap h' → match r with | .ok _ => Q acc { s' with heap := h' } | .error x => wpAny (model pw w) A (passOn "comprehension.variables-let-go" x ev) Q E { s' with heap := h' })
    T J hself hn h0 hi0 W hC (fun D C o oC ys mC s' hdc hJ hly hlo hnsC WE => ?_) step hf2 hkind hx
  exact ⟨mC, hnsC _ (WE.lookN List.mem_cons_self), fun h'' hs'' => hQ D o ys _ hJ hly hlo (WE.lose (h' := h'') (fun b ob hb e => hs''.extBut b ob hb e) s'.toks)⟩
/-- a comprehension into a name of its own line -/
theorem x_assign_comp {elt iter : Expr} {x y : Str} {px py pos spos : Pos} {ifs : List Expr} {rest : List Stmt} {sc2 : Scope} {n : Nat} {Q : Flow → Shared → Prop} (_ : Wk w s₀ L m N s) (P : Nat → Value → Prop) (J : Nat → List Value → Prop)
    (hn : n ≤ 100000) (h0 : J 0 [])
    (hiter : wpAny (model pw w) A (eval iter (envOf nm sc L f cd)) (fun v s₁ => wpAny (model pw w) A (pyIter v) (fun r s₂ => ∃ Ito Cn I it N', r = .ref I ∧ It w A n P Ito Cn ∧ Selfy w A Ito ∧ Ito 0 it ∧ Wk w s₀ L m ((I, it) :: N') s₂ ∧ (∀ s', Wk w s₀ L m N' s' → Cn s'.heap) ∧
      (∀ D o ys, J n ys → ys.length ≤ n → IsLo o ys → ∃ m1, Upd y (.ref D) m m1 ∧ ∀ s', Wk w s₀ L m1 ((D, o) :: N') s' → wpAny (model pw w) A (execs rest (envOf nm sc L f cd)) Q E s')) E s₁) E s)
    (step : ∀ i v ys C mC Na s', i < n → P i v → J i ys → mC x = some v → (∀ s'', Wk w s₀ L m Na s'' → s''.heap.Ns C mC) → Wk w s₀ L m Na s' →
      wpAny (model pw w) A (forIn ifs true fun c r => if r = true then do let ok ← isTrue c (cE sc2 C nm L cd) (eval c (cE sc2 C nm L cd)); pure (ForInStep.yield ok) else pure (ForInStep.yield r))
        (fun ok s₃ => if ok = true then wpAny (model pw w) A (eval elt (cE sc2 C nm L cd)) (fun y s₄ => Wk w s₀ L m Na s₄ ∧ J (i + 1) (ys ++ [y])) (fun _ _ => False) s₃ else Wk w s₀ L m Na s₃ ∧ J (i + 1) ys) (fun _ _ => False) s')
    (hfree : (sc2.names.all fun x => decide (x.2 ≠ .free) && decide (x.2 ≠ .cell)) = true := by kernel_rfl) (hkind : sc2.kind = .function := by kernel_rfl) (hnames : (sc2.names.all fun x => decide (x.2 ≠ .local) || decide (sc2.names.lookup x.1 = some .local)) = true := by kernel_rfl) (hx : sc2.names.lookup x = some .local := by kernel_rfl)
    (hs : ∀ x, foldedSetIterable iter (envOf nm sc L f cd) x = pure x := by intro _; with_unfolding_all rfl)
    (hsw : swapsWith (.ListComp elt [⟨.Name x px, iter, ifs, 0⟩] sc2 pos) (some (.Name y py)) spos.line (envOf nm sc L f cd) = pure true := by with_unfolding_all rfl) (hrel : relabel sc2 (envOf nm sc L f cd) = sc2 := by kernel_rfl)
    (hk : sc.kind = .function := by kernel_rfl) (hy : (envOf nm sc L f cd).kindOf y = some .local := by kernel_rfl) :
    wpAny (model pw w) A (execs (.Assign [.Name y py] (.ListComp elt [⟨.Name x px, iter, ifs, 0⟩] sc2 pos) spos :: rest) (envOf nm sc L f cd)) Q E s := by
  have hf1 : ∀ x ∈ sc2.names, x.2 ≠ .free := fun y hy => by
    have := List.all_eq_true.mp hfree y hy
    rw [Bool.and_eq_true] at this
    exact of_decide_eq_true this.1
  have hf2 : ∀ x ∈ sc2.names, x.2 ≠ .cell := fun y hy => by
    have := List.all_eq_true.mp hfree y hy
    rw [Bool.and_eq_true] at this
    exact of_decide_eq_true this.2
  have hnm : ∀ x ∈ sc2.names, x.2 = .local → sc2.names.lookup x.1 = some .local := fun y hy hl => by
    have := List.all_eq_true.mp hnames y hy
    rw [Bool.or_eq_true] at this
    rcases this with h | h
    · exact absurd hl (of_decide_eq_true h)
    · exact of_decide_eq_true h
  refine wpAny_execs_cons ?_
  rw [exec_Assign_Name_used _ _ _ _ hsw]
  refine wpAny_bind (wpAny_standAt (wpAny_bind ?_))
  show wpAny _ A (do let _ ← comprehension (.ListComp elt [⟨.Name x px, iter, ifs, 0⟩] sc2 pos) sc2 (envOf nm sc L f cd) _ (newList []) false (eval iter (envOf nm sc L f cd)) (some (assign (.Name y py) (envOf nm sc L f cd)))) _ _ s
  refine wpAny_bind (wpAny_mono (wpAny_comprehension_free (cl := []) (use := some (assign (.Name y py) (envOf nm sc L f cd))) (Q := fun _ s' => wpAny (model pw w) A (execs rest (envOf nm sc L f cd)) Q E s') rfl hs (closureFor_none hf1) hkind hnm
    (wpAny_mono hiter (fun v s₁ h₁ => wpAny_mono h₁ (fun r s₂ h₂ => ?_) fun _ _ x => x) fun _ _ x => x)) (fun _ s' hq => wpAny_pure (wpAny_pure hq)) fun _ _ e => e)
  obtain ⟨Ito, Cn, I, it, N', rfl, T, hself, hi0, W, hC, hQ⟩ := h₂
  rw [hrel]
  refine comp_core (RR := fun acc ev => compPost (model pw w) A E (some (assign (.Name y py) (envOf nm sc L f cd))) (fun _ s' => wpAny (model pw w) A (execs rest (envOf nm sc L f cd)) Q E s') acc ev.locals)
    T J hself hn h0 hi0 W hC (fun D C o oC ys mC s' hdc hJ hly hlo hnsC WE => ?_) step hf2 hkind hx
  obtain ⟨m1, hu, hgo⟩ := hQ D o ys hJ hly hlo
  show wpAny _ A (assign (.Name y py) (envOf nm sc L f cd) (.ref D)) _ _ _
  refine wpAny_assign_Name (store WE hu (fun s3 W3 => ?_) hk hy)
  exact ⟨mC, hnsC _ (W3.lookN List.mem_cons_self), fun h3 hs3 => hgo _ (W3.lose (h' := h3) (fun b ob hb e => hs3.extBut b ob hb e) s3.toks)⟩
end
end Mine

end
section
open PySem PySem.W PyProof.Rows PySem.Calls PyProof.V
set_option Elab.async false
set_option maxRecDepth 100000
namespace Mine
noncomputable section
variable {w : World} {A : Around} {E : Value → Shared → Prop} {s₀ s : Shared} {L : Addr} {m m' : Loc} {N : List (Addr × Obj)} {nm : Str} {sc : Scope} {f : Addr} {cd : Value}

/-! ### plain facts of texts -/
theorem cnt_count (c : Nat) : ∀ l : List Nat, cnt c l = (l.count c : Int)
  | [] => rfl
  | n :: r => by
    rw [cnt_cons, cnt_count c r, List.count_cons]
    by_cases h : n = c
    · first | (simp [h]; done) | (simp [h]; omega)
    · simp [h]
theorem count_tx (l : List Nat) (c : Nat) : Txt.count (tx l) (tx [c]) = (l.count c : Int) := by
  have := count_is (tx l) c
  show Txt.count (tx l) ⟨#[c]⟩ = _
  rw [this]
  show cnt c (tx l).cps.toList = _
  rw [cnt_count]
theorem first_idx (c : Nat) : ∀ (l : List Nat) (i : Nat), l[i]? = some c → (∀ k, k < i → l[k]? ≠ some c) → l.take i = l.takeWhile (· != c) ∧ l.drop i = l.dropWhile (· != c) ∧ (l.takeWhile (· != c)).length = i
  | [], i, h, _ => by simp at h
  | a :: r, 0, h, _ => by
    have : a = c := by simpa using h
    subst this; simp
  | a :: r, i + 1, h, hn => by
    have hne : a ≠ c := fun e => hn 0 (Nat.succ_pos _) (by simp [e])
    obtain ⟨h1, h2, h3⟩ := first_idx c r i (by simpa using h) fun k hk e => hn (k + 1) (Nat.succ_lt_succ hk) (by simpa using e)
    have hb : (a != c) = true := by simpa using hne
    simp [List.takeWhile_cons, List.dropWhile_cons, hb, h1, h2, h3]
theorem none_idx (c : Nat) (l : List Nat) (h : c ∉ l) : l.takeWhile (· != c) = l ∧ l.dropWhile (· != c) = [] := by
  induction l with
  | nil => exact ⟨rfl, rfl⟩
  | cons a r ih =>
    have ha : (a != c) = true := by
      have : a ≠ c := fun e => h (by simp [e])
      simpa using this
    obtain ⟨h1, h2⟩ := ih fun hm => h (List.mem_cons_of_mem _ hm)
    simp [List.takeWhile_cons, List.dropWhile_cons, ha, h1, h2]
theorem at_tx (l : List Nat) (c i : Nat) : StrLaws.At (tx l) (tx [c]) (tx l).length i ↔ l[i]? = some c := by
  have := StrLaws.subAt_one (tx l) c i
  show (i + (tx [c]).length ≤ (tx l).length ∧ _) ↔ _
  rw [show ((tx l).cps.toList[i]? = some c) = (l[i]? = some c) by simp] at this
  exact this
theorem find_tx (l : List Nat) (c : Nat) (h : c ∈ l) : Txt.find (tx l) (tx [c]) = ((l.takeWhile (· != c)).length : Int) := by
  rcases find_whole (tx l) (tx [c]) with ⟨_, hn⟩ | ⟨i, hf, hi, hn⟩
  · obtain ⟨i, hi⟩ := List.mem_iff_getElem?.mp h
    exact absurd ((at_tx l c i).mpr hi) (hn i)
  · rw [hf, (first_idx c l i ((at_tx l c i).mp hi) fun k hk e => hn k hk ((at_tx l c k).mpr e)).2.2]
theorem split_tx (l : List Nat) (c : Nat) (hk : Builtin.Str.strKind (tx [c]) = 1) (z : Str) (hz : (Txt.split (tx l) (tx [c]))[0]? = some z) : z = tx (l.takeWhile (· != c)) := by
  rcases split_head (tx l) (tx [c]) hk z hz with ⟨rfl, hn⟩ | ⟨i, rfl, hi, hn⟩
  · rw [(none_idx c l fun hm => by
      obtain ⟨i, hi⟩ := List.mem_iff_getElem?.mp hm
      exact hn i ((at_tx l c i).mpr hi)).1]
  · rw [← (first_idx c l i ((at_tx l c i).mp hi) fun k hk e => hn k hk ((at_tx l c k).mpr e)).1]
    refine (tx_eq ?_)
    rw [StrLaws.strSub_toList]; simp

/-! ### rules of texts -/
theorem Wk.pushed : KeptByPush (fun s => Wk w s₀ L m N s) := fun _ ob k W => W.keeps (push_keeps ob) k
section
variable {x : Str} {l : List Nat} {c : Nat} {cS : Str} {t : Tok} {k : Nat} {p1 p2 p3 p4 p5 p6 : Pos}
theorem e_count {Q : Value → Shared → Prop} (hc : cS = tx [c]) (W : Wk w s₀ L m N s) (hx : Has x (.str (tx l) t) m) (h : ∀ t' s', Wk w s₀ L m N s' → Q (.int (l.count c : Nat) t') s')
    (hk : sc.kind = .function := by kernel_rfl) (hl : (envOf nm sc L f cd).kindOf x = some .local := by kernel_rfl) (hd : (x == ("__debug__" : Str)) = false := by decide) (hline : (p2.endLine == p4.line) = true := by rfl) :
    wpAny (model pw w) A (eval (.Call (.Attribute (.Name x p1) "count" p2) [.Constant (.str cS) k p3] [] p4) (envOf nm sc L f cd)) Q E s := by
  subst hc
  refine Call_method1 rfl rfl hline ?_
  refine e_loc W hx ?_ hk hl hd
  refine SB.count ?_
  refine Constant_str ⟨_, _, rfl, ?_⟩
  rw [count_tx]
  exact h _ _ ((W.toks _).toks _)
theorem e_find {Q : Value → Shared → Prop} (hc : cS = tx [c]) (W : Wk w s₀ L m N s) (hx : Has x (.str (tx l) t) m) (hin : c ∈ l) (h : ∀ t' s', Wk w s₀ L m N s' → Q (.int ((l.takeWhile (· != c)).length : Nat) t') s')
    (hk : sc.kind = .function := by kernel_rfl) (hl : (envOf nm sc L f cd).kindOf x = some .local := by kernel_rfl) (hd : (x == ("__debug__" : Str)) = false := by decide) (hline : (p2.endLine == p4.line) = true := by rfl) :
    wpAny (model pw w) A (eval (.Call (.Attribute (.Name x p1) "find" p2) [.Constant (.str cS) k p3] [] p4) (envOf nm sc L f cd)) Q E s := by
  subst hc
  refine Call_method1 rfl rfl hline ?_
  refine e_loc W hx ?_ hk hl hd
  refine SB.find ?_
  refine Constant_str ⟨_, _, rfl, ?_⟩
  rw [find_tx l c hin]
  exact h _ _ ((W.toks _).toks _)
/-- row.split(c)[0] -/
theorem e_split {k0 : Nat} {i0 : Int} {Q : Value → Shared → Prop} (hc : cS = tx [c]) (h0 : i0 = 0) (hck : Builtin.Str.strKind (tx [c]) = 1) (W : Wk w s₀ L m N s) (hx : Has x (.str (tx l) t) m) (hl : l.length ≤ 100000)
    (h : ∀ t' s', Wk w s₀ L m N s' → Q (.str (tx (l.takeWhile (· != c))) t') s')
    (hk : sc.kind = .function := by kernel_rfl) (hlo : (envOf nm sc L f cd).kindOf x = some .local := by kernel_rfl) (hd : (x == ("__debug__" : Str)) = false := by decide) (hline : (p2.endLine == p4.line) = true := by rfl) :
    wpAny (model pw w) A (eval (.Subscript (.Call (.Attribute (.Name x p1) "split" p2) [.Constant (.str cS) k p3] [] p4) (.Constant (.int i0) k0 p5) p6) (envOf nm sc L f cd)) Q E s := by
  subst hc h0
  have hlen : (tx l).length = l.length := by simp [Str.length]
  refine PyProof.Rows.Subscript_ ?_
  refine Call_method1 rfl rfl hline ?_
  refine e_loc W hx ?_ hk hlo hd
  refine SBG.split1 (Fm := fun s => Wk w s₀ L m N s) Wk.pushed ?_ (by rw [hlen]; exact fits_small (by omega))
  refine Constant_str ⟨_, _, rfl, rfl, W.toks _, ?_, fun D ls s' hls W' hD => ?_⟩
  · rw [PyProof.Rows.len_partsBetween]
    have := StrLaws.occ_length_le (tx l) (tx [c]) 0 (tx l).length ((tx l).length + 1)
    exact Nat.le_trans (Nat.succ_le_succ this) (fits_small (by omega))
  refine wpAny_Constant_int ?_
  cases ls with
  | nil =>
    have h1 := PyProof.Rows.len_of_split hls
    simp at h1
  | cons p r =>
    have hz : (Txt.split (tx l) (tx [c]))[0]? = some p.1 := by rw [← hls]; simp
    have hp := split_tx l c hck p.1 hz
    refine tail_go (item_list (k := 0) (x := .str p.1 p.2) hD (by decide) (by simp [strValues]) ?_) (by with_unfolding_all rfl)
    rw [hp]
    exact h _ _ (W'.toks _)
theorem TB.inS (hc : cS = tx [c]) (hx : Has x (.str (tx l) t) m) (hk : sc.kind = .function := by kernel_rfl) (hlo : (envOf nm sc L f cd).kindOf x = some .local := by kernel_rfl)
    (hd : (x == ("__debug__" : Str)) = false := by decide) :
    TB w A s₀ L m N (envOf nm sc L f cd) (.Compare (.Constant (.str cS) k p1) [.In] [.Name x p2] p3) (decide (c ∈ l)) := fun {s Q E} W h => by
  subst hc
  refine wpAny_isTrue_Compare1 (Constant_str (e_loc (W.toks _) hx (SB.contains (wpAny_truthy_bool ?_)) hk hlo hd))
  have e : Txt.contains (tx l) (tx [c]) = decide (c ∈ l) := by rw [Bool.eq_iff_iff, contains_one]; simp
  rw [e]
  exact h _ (W.toks _)
theorem e_inS {Q : Value → Shared → Prop} (hc : cS = tx [c]) (W : Wk w s₀ L m N s) (hx : Has x (.str (tx l) t) m) (h : ∀ s', Wk w s₀ L m N s' → Q (.bool (decide (c ∈ l))) s') (hk : sc.kind = .function := by kernel_rfl) (hlo : (envOf nm sc L f cd).kindOf x = some .local := by kernel_rfl)
    (hd : (x == ("__debug__" : Str)) = false := by decide) :
    wpAny (model pw w) A (eval (.Compare (.Constant (.str cS) k p1) [.In] [.Name x p2] p3) (envOf nm sc L f cd)) Q E s := by
  subst hc
  refine wpAny_Compare1 (Constant_str (e_loc (W.toks _) hx (SB.contains ?_) hk hlo hd))
  have e : Txt.contains (tx l) (tx [c]) = decide (c ∈ l) := by rw [Bool.eq_iff_iff, contains_one]; simp
  rw [e]
  exact h _ (W.toks _)
end

/-! ### sums and slices of a list of numbers -/
theorem preSum_nat (ns : List Nat) : ∀ j, preSum (fun i => ((ns.getD i 0 : Nat) : Int)) j = ((ns.take j).sum : Nat)
  | 0 => rfl
  | j + 1 => by
    rw [preSum, preSum_nat ns j, List.take_add_one]
    by_cases h : j < ns.length
    · rw [List.getElem?_eq_getElem h]
      simp only [Option.toList_some, List.sum_append, List.sum_cons, List.sum_nil, List.getD_eq_getElem?_getD, List.getElem?_eq_getElem h, Option.getD_some]
      omega
    · rw [List.getElem?_eq_none (by omega)]
      simp [h]
theorem e_sum {D : Addr} {vs : List Value} {ns : List Nat} {Q : Value → Shared → Prop} (hh : A.handled = none) (W : Wk w s₀ L m N s) (hl : s.heap.IsList D vs.toArray) (hi : IntsAre vs (ns.map fun (n : Nat) => (n : Int))) (hb : ∀ n ∈ ns, n ≤ 1000000) (hn : ns.length ≤ 1000)
    (h : ∀ t' s', Wk w s₀ L m N s' → Q (.int (ns.sum : Nat) t') s') : wpAny (model pw w) A (call (.builtin "sum") [.ref D]) Q E s := by
  have hlen := hi.length
  rw [List.length_map] at hlen
  have hsum : ∀ j, (ns.take j).sum ≤ j * 1000000 := by
    intro j
    induction j with
    | zero => simp
    | succ j ih =>
      rw [List.take_add_one]
      by_cases hj : j < ns.length
      · have := hb ns[j] (List.getElem_mem hj)
        rw [List.getElem?_eq_getElem hj]
        simp only [Option.toList_some, List.sum_append, List.sum_cons, List.sum_nil]
        omega
      · rw [List.getElem?_eq_none (by omega)]
        simp only [Option.toList_none, List.append_nil]
        exact Nat.le_trans ih (Nat.mul_le_mul_right _ (Nat.le_succ j))
  refine call_sum_walk ?_
  refine wpAny_pyIter_list hl ?_
  have hDI : D ≠ s.heap.objs.size := by obtain ⟨o, ho, _⟩ := hl; exact Nat.ne_of_lt (Heap.lt_size ho)
  refine ⟨_, _, _, _, _, _, fun i => ((ns.getD i 0 : Nat) : Int), rfl, Walks.list (A := A.in1) hh s.heap.objs.size D hDI vs.toArray, ?_, ?_, ?_, ?_, ?_⟩
  · obtain ⟨o, ho, r⟩ := hl; exact ⟨⟨_, Heap.get?_push_size _ rfl, rfl, rfl⟩, ⟨o, Heap.get?_push_of_some _ ho, r⟩⟩
  · intro b hb
    have hD : D < s.heap.objs.size := by obtain ⟨o, ho, _⟩ := hl; exact Heap.lt_size ho
    show b < (s.heap.push _).objs.size
    rw [Heap.size_push]
    rcases List.mem_cons.mp hb with rfl | hb
    · exact Nat.lt_succ_self _
    · rw [List.mem_singleton.mp hb]; exact Nat.lt_succ_of_lt hD
  · intro i v hv
    have hlt : i < ns.length := by rw [← hlen]; have := (Array.getElem?_eq_some_iff.mp hv).1; simpa using this
    obtain ⟨t, ht⟩ := Mine.IntsAre.nth hi (k := i) (by rw [List.length_map]; exact hlt)
    rw [List.getElem?_toArray] at hv
    rw [hv] at ht
    cases ht
    refine ⟨t, ?_⟩
    simp [hlt]
  · intro j hj
    have hlt : j < ns.length := by rw [← hlen]; simpa using hj
    have h1 := hb (ns.getD j 0) (by simp [hlt])
    have h2 := hsum (j + 1)
    refine ⟨?_, ?_⟩
    · constructor <;> dsimp only <;> omega
    · rw [preSum_nat]; constructor <;> omega
  · intro h' tk t' hk
    rw [show vs.toArray.size = ns.length by simp [hlen], preSum_nat, List.take_length]
    refine h _ _ (W.keeps (h' := h') (fun b o e => hk b o (fun hm => ?_) (Heap.get?_push_of_some _ e)) tk)
    have : b = s.heap.objs.size := by simpa using hm
    rw [this, size_free] at e; cases e
end
end Mine

end
section
open PySem PySem.W PyProof.Rows PySem.Calls PyProof.V
set_option Elab.async false
set_option maxRecDepth 100000
namespace Mine
noncomputable section
variable {w : World} {A : Around} {E : Value → Shared → Prop} {s₀ s : Shared} {L : Addr} {m m' : Loc} {N : List (Addr × Obj)} {nm : Str} {sc : Scope} {f : Addr} {cd : Value}

/-! ### law, plainly -/
noncomputable def givenL : List Nat := [42, 2, 0, 5, 10, 0, 5, 4, 1, 8, 56, 1, 74, 10, 17, 11, 9, 3]
noncomputable def md (x : Int) : Nat := (x % 1000000).toNat
noncomputable def cellsOf (sc : List Int) : List Nat := (sc.take 18).map md ++ givenL.drop ((sc.take 18).map md).length
noncomputable def whOf (sc : List Int) : Nat := ((cellsOf sc).sum + sc.length) % 5
noncomputable def textOf (cs : List Nat) : List Nat := ((evens cs).map pieceL).flatten
noncomputable def foldL (c : Nat) : List Nat := (foldS c).cps.toList
noncomputable def pgP (l : List Nat) : List Nat := ((l.filter fun c => !b1L.contains c).map foldL).flatten
noncomputable def escTab : Nat → List (Nat × List Nat)
  | 0 => esc11 | 1 => esc12 | 2 => esc13 | 3 => esc14 | _ => esc15
noncomputable def escA : Nat → Addr
  | 0 => 113 | 1 => 120 | 2 => 127 | 3 => 134 | _ => 141
noncomputable def handC (x : Nat) : Nat := [80, 80, 77, 77, 88, 45].getD (x % 6) 0
noncomputable def stepH (wh : Nat) (st : List Nat × List Nat) (x : Nat) : List Nat × List Nat :=
  if handC x = 45 ∨ handC x = 88 ∧ st.1.count 88 = 2 then st
  else (st.1 ++ [handC x], if handC x = 80 then pgP st.2 else if handC x = 77 then stripL st.2 else escOf (escTab wh) st.2)
noncomputable def runH (wh : Nat) (t : List Nat) (xs : List Nat) : List Nat × List Nat := xs.foldl (stepH wh) ([], t)
noncomputable def hidesB (wh : Nat) (row : List Nat) : Bool := decide (wh ∈ [1, 2, 4]) && decide (88 ∈ row)
noncomputable def earlyL (wh : Nat) (row : List Nat) : List Nat := if hidesB wh row then row.takeWhile (· != 88) else row
noncomputable def leftL (wh : Nat) (t row : List Nat) : List Nat :=
  let early := earlyL wh row
  let ahead := early.takeWhile (· != 80)
  let behind := early.drop ahead.length
  let l1 := if 77 ∈ ahead then shearL t else t
  let l2 := if 80 ∈ row then prepL l1 else l1
  let l3 := if 77 ∈ behind then shearL l2 else l2
  if 1 < row.count 80 then prepL l3 else l3
noncomputable def smallB (row : List Nat) : Bool := decide (88 ∈ row) && decide (80 ∈ row.dropWhile (· != 88))
noncomputable def judge (wh : Nat) (t row page : List Nat) : Bool :=
  if page ≠ wrL (entN wh) (row.count 88) (smallB row) (leftL wh t row) then false
  else parenL page == cancL (if hidesB wh row then leftL wh t row else shearL (leftL wh t row))
noncomputable def lawV (sc : List Int) : Bool :=
  judge (whOf sc) (textOf (cellsOf sc)) (runH (whOf sc) (textOf (cellsOf sc)) (evens ((cellsOf sc).drop 1))).1 (runH (whOf sc) (textOf (cellsOf sc)) (evens ((cellsOf sc).drop 1))).2

theorem escape_call {R : Result → Shared → Prop} {l : List Nat} {t : Tok} {wh : Nat} (hwh : wh < 5) (S : Stands w s.heap) (hroom : A.depth < recursionLimit) (hl : l.length ≤ 100000)
    (h : ∀ t' s', Grown s s' → R (.ok (.ret (.str (tx (escOf (escTab wh) l)) t'))) s') : codeAny (model pw w) A (.call (.ref (escA wh)) ⟨[.str (tx l) t], []⟩) R s := by
  match wh, hwh with
  | 0, _ => exact esc11_call S hroom hl h
  | 1, _ => exact esc12_call S hroom hl h
  | 2, _ => exact esc13_call S hroom hl h
  | 3, _ => exact esc14_call S hroom hl h
  | 4, _ => exact esc15_call S hroom hl h
theorem fnEsc (w : World) (wh : Nat) (hwh : wh < 5) : ∃ i gn, Fn w (escA wh) i gn := by
  match wh, hwh with
  | 0, _ => exact ⟨_, _, fn113⟩
  | 1, _ => exact ⟨_, _, fn120⟩
  | 2, _ => exact ⟨_, _, fn127⟩
  | 3, _ => exact ⟨_, _, fn134⟩
  | 4, _ => exact ⟨_, _, fn141⟩
/-- a call of a def held by a local name -/
theorem e_callL {x : Str} {g : Addr} {i : Nat} {gn : Str} {np pos : Pos} {e : Expr} {rest : List Expr} {Q : Value → Shared → Prop} (W : Wk w s₀ L m N s) (hx : Has x (.ref g) m) (hf : Fn w g i gn)
    (h : wpAny (model pw w) A (spliced (backTo pos (starEach (e :: rest) (envOf nm sc L f cd)))) (fun vs s₁ => Stands w s₁.heap ∧ codeAny (model pw w) A (.call (.ref g) ⟨vs, []⟩) (RetOf Q E) s₁) E s)
    (he : isStar e = false := by rfl)
    (hk : sc.kind = .function := by kernel_rfl) (hl : (envOf nm sc L f cd).kindOf x = some .local := by kernel_rfl)
    (hd : (x == ("__debug__" : Str)) = false := by decide) :
    wpAny (model pw w) A (eval (.Call (.Name x np) (e :: rest) [] pos) (envOf nm sc L f cd)) Q E s := by
  obtain ⟨o, pm, cdg, doc, ho, hdat, hcd⟩ := hf
  exact Call_ (e_loc W hx (callWith_def hdat (wpAny_mono h (fun vs s₁ h₁ => ⟨h₁.1 _ _ ho, call_of h₁.2⟩) fun _ _ x => x) (star_no he)) hk hl hd)

/-! ### slices of a list -/
theorem e_upto {x : Str} {px : Pos} {ci : Int} {k b : Nat} {p1 p2 p3 : Pos} {Q : Value → Shared → Prop} {D : Addr} {vs : List Value} (hci : ci = (b : Int)) (W : Wk w s₀ L m N s) (hx : Has x (.ref D) m) (hl : s.heap.IsList D vs.toArray) (hsz : vs.length ≤ 1000000)
    (h : ∀ a s', Wk w s₀ L m ((a, { cls := .type "list", data := .seq (vs.take b).toArray }) :: N) s' → Q (.ref a) s')
    (hk : sc.kind = .function := by kernel_rfl) (hlo : (envOf nm sc L f cd).kindOf x = some .local := by kernel_rfl) (hd : (x == ("__debug__" : Str)) = false := by decide) :
    wpAny (model pw w) A (eval (.Subscript (.Name x px) (.Slice none (some (.Constant (.int ci) k p1)) none p2) p3) (envOf nm sc L f cd)) Q E s := by
  subst hci
  refine PyProof.Rows.Subscript_ (e_loc W hx ?_ hk hlo hd)
  refine wpAny_Slice (evalPart_none_step (evalPart_some_step (wpAny_Constant_int (evalPart_none_step ?_))))
  refine slice_W (ops := [.ref s.heap.objs.size, .ref D]) (W.toks (s.toks + 1)) hl .none (.int _ _) .none (by simp) hsz (fun a s' W' => ?_) (by with_unfolding_all rfl) (by intro _; rfl)
  rw [slicePick_upto'] at W'
  exact h a s' W'
/-- given[len(cells):] -/
theorem e_from {x y : Str} {px np q1 q2 p1 p3 : Pos} {Q : Value → Shared → Prop} {D D2 : Addr} {vs ws : List Value} (W : Wk w s₀ L m N s) (hx : Has x (.ref D) m) (hy : Has y (.ref D2) m) (hl : ∀ s', Wk w s₀ L m N s' → s'.heap.IsList D vs.toArray) (hl2 : ∀ s', Wk w s₀ L m N s' → s'.heap.IsList D2 ws.toArray)
    (hsz : vs.length ≤ 1000000) (hsz2 : ws.length ≤ 1000000)
    (h : ∀ a s', Wk w s₀ L m ((a, { cls := .type "list", data := .seq (vs.drop ws.length).toArray }) :: N) s' → Q (.ref a) s')
    (hk : sc.kind = .function := by kernel_rfl) (hlo : (envOf nm sc L f cd).kindOf x = some .local := by kernel_rfl) (hd : (x == ("__debug__" : Str)) = false := by decide)
    (hlo2 : (envOf nm sc L f cd).kindOf y = some .local := by kernel_rfl) (hd2 : (y == ("__debug__" : Str)) = false := by decide) (hll : (envOf nm sc L f cd).kindOf "len" = some .globalImplicit := by kernel_rfl) :
    wpAny (model pw w) A (eval (.Subscript (.Name x px) (.Slice (some (.Call (.Name "len" np) [.Name y q1] [] q2)) none none p1) p3) (envOf nm sc L f cd)) Q E s := by
  refine PyProof.Rows.Subscript_ (e_loc W hx ?_ hk hlo hd)
  refine wpAny_Slice (evalPart_some_step ?_)
  refine e_callB (hk := hk) (hl := hll) W.S gl_len ?_
  refine args_c ?_
  refine e_loc W hy ?_ hk hlo2 hd2
  refine args_nil ?_
  have hs2 : ws.toArray.size = ws.length := by simp
  refine PyProof.Rows.len_list (hl2 _ W) (by rw [hs2]; omega) ?_
  rw [hs2]
  refine evalPart_none_step (evalPart_none_step ?_)
  have W := W.toks (Shared.toks s + 1 + 1)
  refine slice_W (ops := [.ref s.heap.objs.size, .ref D]) W (hl _ W) (.int _ _) .none .none (by simp) hsz (fun a s' W' => ?_) (by with_unfolding_all rfl) (by intro _; rfl)
  rw [slicePick_from'] at W'
  exact h a s' W'
end
end Mine

end
section
open PySem PySem.W PyProof.Rows PySem.Calls PyProof.V
set_option Elab.async false
set_option maxRecDepth 100000
namespace Mine
noncomputable section
variable {w : World} {A : Around} {E : Value → Shared → Prop} {s₀ s : Shared} {L : Addr} {m m' : Loc} {N : List (Addr × Obj)} {nm : Str} {sc : Scope} {f : Addr} {cd : Value}

noncomputable def lawNames : List Str := ["given", "cells", "which", "escape", "text", "page", "row", "x", "hand", "hides", "early", "ahead", "behind", "left", "small", "shown"]
noncomputable abbrev NatsAre (vs : List Value) (ns : List Nat) : Prop := IntsAre vs (ns.map fun (n : Nat) => (n : Int))
theorem NatsAre.append {a b : List Value} {x y : List Nat} (h : NatsAre a x) (g : NatsAre b y) : NatsAre (a ++ b) (x ++ y) := by
  show IntsAre _ ((x ++ y).map _)
  rw [List.map_append]; exact IntsAre.append h g
theorem NatsAre.drop : ∀ {vs : List Value} {ns : List Nat} (_ : NatsAre vs ns) (k : Nat), NatsAre (vs.drop k) (ns.drop k)
  | vs, ns, h, 0 => h
  | [], ns, h, k + 1 => by
    have := h.length
    have e : ns = [] := List.length_eq_zero_iff.mp (by simpa using this.symm)
    subst e; exact .nil
  | v :: vs, [], h, k + 1 => by cases h
  | v :: vs, n :: ns, h, k + 1 => by
    cases h with
    | cons _ _ h => exact NatsAre.drop h k
theorem NatsAre.nth {vs : List Value} {ns : List Nat} (h : NatsAre vs ns) {k : Nat} {v : Value} (hv : vs[k]? = some v) : k < ns.length ∧ ∃ t, v = .int ((ns.getD k 0 : Nat) : Int) t := by
  have hl := h.length
  rw [List.length_map] at hl
  have hk : k < ns.length := by rw [← hl]; exact (List.getElem?_eq_some_iff.mp hv).1
  obtain ⟨t, ht⟩ := Mine.IntsAre.nth h (k := k) (by rw [List.length_map]; exact hk)
  rw [hv] at ht
  cases ht
  exact ⟨hk, t, by simp [hk]⟩

theorem evens_take_le {α : Type} : ∀ l : List α, (evens l).length ≤ l.length
  | [] => Nat.le_refl _
  | [_] => Nat.le_refl _
  | _ :: _ :: r => by
    have := evens_take_le r
    show (evens r).length + 1 ≤ r.length + 1 + 1
    omega
theorem NatsAre.evens {vs : List Value} {ns : List Nat} (h : NatsAre vs ns) : NatsAre (Mine.evens vs) (Mine.evens ns) := by
  show IntsAre _ ((Mine.evens ns).map _)
  rw [← evens_map]
  exact IntsAre.evens' h
theorem cellsOf_len (sc : List Int) : (cellsOf sc).length = 18 := by
  unfold cellsOf
  simp [givenL]
  omega
theorem cellsOf_lt (sc : List Int) : ∀ n ∈ cellsOf sc, n < 1000000 := by
  intro n hn
  unfold cellsOf at hn
  rcases List.mem_append.mp hn with h | h
  · obtain ⟨x, _, rfl⟩ := List.mem_map.mp h
    unfold md; omega
  · have : ∀ n ∈ givenL, n < 1000000 := by decide
    exact this n (List.mem_of_mem_drop h)
theorem whOf_lt (sc : List Int) : whOf sc < 5 := Nat.mod_lt _ (by decide)
noncomputable abbrev loc0 (a D : Addr) (G : Value) (wh : Nat) (t1 t2 t3 t4 : Tok) (tl pg rw : List Nat) (vx vh : Option Value) : Loc :=
  [("script", some (.ref a)), ("given", some G), ("cells", some (.ref D)), ("which", some (.int (wh : Int) t1)), ("escape", some (.ref (escA wh))), ("text", some (.str (tx tl) t2)), ("page", some (.str (tx pg) t3)), ("row", some (.str (tx rw) t4)),
   ("x", vx), ("hand", vh), ("hides", none), ("early", none), ("ahead", none), ("behind", none), ("left", none), ("small", none), ("shown", none)]

set_option maxHeartbeats 8000000 in
/-- the first part of law, as far as the loop -/
theorem law_head {R : Result → Shared → Prop} {script : List Int} {a : Addr} {vs : List Value} (S : Stands w s.heap) (hroom : A.depth + 4 < recursionLimit) (hh : A.handled = none) (hl : s.heap.IsList a vs.toArray) (hi : IntsAre vs script) (hn : script.length ≤ 63)
    (htl : (textOf (cellsOf script)).length ≤ 100000)
    (hz : ∀ cd D G o cv t1 t2 t3 t4 s', NatsAre cv (cellsOf script) → IsLo o cv → Wk w s s.heap.objs.size (loc0 a D G (whOf script) t1 t2 t3 t4 (textOf (cellsOf script)) (textOf (cellsOf script)) [] none none) [(D, o)] s' →
      wpAny (model pw w) (A.deeper (envOf "law" (fnS 23) s.heap.objs.size 188 cd)) (execs ((fnB 23).drop 8) (envOf "law" (fnS 23) s.heap.objs.size 188 cd))
        (fun fl s'' => R (.ok (.ret (match fl with | .ret v => v | _ => .none))) s'') (fun _ _ => False) s') :
    codeAny (model pw w) A (.call (.ref 188) ⟨[.ref a], []⟩) R s := by
  refine call_me [("script", .ref a)] ([("script", some (.ref a)), ("given", none), ("cells", none), ("which", none), ("escape", none), ("text", none), ("page", none), ("row", none), ("x", none), ("hand", none), ("hides", none), ("early", none), ("ahead", none), ("behind", none), ("left", none), ("small", none), ("shown", none)] : Loc) lawNames fn188 S (by omega) (fun cd s' W => ?_)
  conv in fnB 23 => whnf
  have hlen : vs.length = script.length := hi.length
  refine x_assign ?_
  refine List_ ?_
  with_reducible refine args_ints (is := givenL.map fun (n : Nat) => (n : Int)) ?_ W ?_
  · exact (.cons (.cons (.cons (.cons (.cons (.cons (.cons (.cons (.cons (.cons (.cons (.cons (.cons (.cons (.cons (.cons (.cons (.cons .nil))))))))))))))))))
  intro vg _ W hg
  refine W_list (hsz := fits_small (by rw [hg.length]; decide)) W fun G _ W hG => ?_
  refine store W (.tail .head) fun _ W => ?_
  have hls : ∀ {s' : Shared} {m N}, Wk w s s.heap.objs.size m N s' → s'.heap.IsList a vs.toArray := fun W => by
    obtain ⟨o, ho, r⟩ := hl
    exact ⟨o, W.F.keep _ _ ho, r⟩
  have h18 : (vs.take 18).length = (script.take 18).length := by simp [hlen]
  have hcl : ((script.take 18).map md).length ≤ 18 := by simp; omega
  have hhL : (A.deeper (envOf "law" (fnS 23) s.heap.objs.size 188 cd)).handled = none := hh
  with_reducible refine x_assign_comp (n := (vs.take 18).length) W (P := fun i v => (vs.take 18)[i]? = some v) (fun i ys => NatsAre ys (((script.take 18).take i).map md)) ?_ ?_ ?_ ?_
  · simp; omega
  · rw [List.take_zero]; exact .nil
  · with_reducible refine e_upto (b := 18) rfl W .head (hls W) ?_ ?_
    · omega
    intro D0 s1 W
    with_reducible refine iter_list W (W.lo List.mem_cons_self (IsLo.new _ _)) ?_
    intro I it s2 hit W
    refine ⟨listIto D0, _, I, it, _, rfl, It.list hhL D0 (vs.take 18), Selfy.list, hit, W, fun s' W => W.lo List.mem_cons_self (IsLo.new _ _), ?_⟩
    intro D1 o1 ys hJ hly hlo1
    refine ⟨_, .tail (.tail .head), fun s' W => ?_⟩
    have W := W.swap.drop
    have hys : NatsAre ys ((script.take 18).map md) := by
      rw [h18, List.take_length] at hJ; exact hJ
    have hyl : ys.length = ((script.take 18).map md).length := by rw [hys.length, List.length_map]
    have hvgl : vg.length = 18 := by rw [hg.length, List.length_map]; rfl
    refine x_assign ?_
    refine wpAny_BinOp ?_
    refine e_loc W (.tail (.tail .head)) ?_
    with_reducible refine e_from (vs := vg) (ws := ys) W (.tail .head) (.tail (.tail .head)) ?_ ?_ ?_ ?_ ?_
    · exact fun s' W => W.lo (.tail _ (.head _)) (IsLo.new _ _)
    · exact fun s' W => W.lo (.head _) hlo1
    · omega
    · omega
    intro D2 s3 W
    with_reducible refine W_add_lists (vs := ys) (ws := vg.drop ys.length) W ?_ ?_ ?_ ?_
    · exact W.lo (.tail _ (.head _)) hlo1
    · exact W.lo (.head _) (IsLo.new _ _)
    · rw [List.length_drop]; omega
    intro D3 s4 W _
    refine store W (.tail (.tail .head)) fun _ W => ?_
    have hcells : NatsAre (ys ++ vg.drop ys.length) (cellsOf script) := by
      unfold cellsOf
      rw [← hyl]
      exact NatsAre.append hys (NatsAre.drop hg _)
    have W := W.only List.mem_cons_self
    have hlo3 : IsLo { cls := .type "list", data := .seq (ys ++ vg.drop ys.length).toArray } (ys ++ vg.drop ys.length) := IsLo.new _ _
    generalize ys ++ vg.drop ys.length = cv at *
    refine x_assign ?_
    refine wpAny_BinOp ?_
    refine wpAny_BinOp ?_
    refine e_callB W.S gl_sum ?_
    refine args_c ?_
    refine e_loc W (.tail (.tail .head)) ?_
    refine args_nil ?_
    with_reducible refine e_sum (ns := cellsOf script) hhL W (W.lo List.mem_cons_self hlo3) hcells ?_ ?_ ?_
    · exact fun n h => Nat.le_of_lt (cellsOf_lt script n h)
    · rw [cellsOf_len]; decide
    intro _ s5 W
    refine e_callB W.S gl_len ?_
    refine args_c ?_
    refine e_loc W .head ?_
    refine args_nil ?_
    have hsz : vs.toArray.size = script.length := by simp [hlen]
    refine PyProof.Rows.len_list (hls W) (by rw [hsz]; omega) ?_
    rw [hsz]
    have W := W.toks (s5.toks + 1 + 1)
    refine e_add W fun _ _ W => ?_
    refine e_nat 5 rfl W fun _ _ W => ?_
    refine e_mod W (by decide) fun t1 _ W => ?_
    refine store W (.tail (.tail (.tail .head))) fun _ W => ?_
    have hwh := whOf_lt script
    rw [show ((cellsOf script).sum + script.length) % 5 = whOf script from rfl] at W
    refine x_assign ?_
    refine PyProof.Rows.Subscript_ ?_
    refine List_ ?_
    refine args_c ?_
    refine e_glob W.S gl_fn113 ?_
    refine args_c ?_
    refine e_glob W.S gl_fn120 ?_
    refine args_c ?_
    refine e_glob W.S gl_fn127 ?_
    refine args_c ?_
    refine e_glob W.S gl_fn134 ?_
    refine args_c ?_
    refine e_glob W.S gl_fn141 ?_
    refine args_nil ?_
    refine W_list (hsz := fits_small (by simp)) W fun D4 _ W hD4 => ?_
    refine e_loc W (.tail (.tail (.tail .head))) ?_
    with_reducible refine tail_go (item_list (x := .ref (escA (whOf script))) hD4 ?_ ?_ ?_) ?_
    · omega
    · generalize whOf script = wh at hwh
      match wh, hwh with
      | 0, _ => rfl
      | 1, _ => rfl
      | 2, _ => rfl
      | 3, _ => rfl
      | 4, _ => rfl
    rotate_left
    · with_unfolding_all rfl
    refine store W (.tail (.tail (.tail (.tail .head)))) fun _ W => ?_
    have W := W.drop
    have hcvl : cv.length = 18 := by
      have h2 := hcells.length
      rw [List.length_map, cellsOf_len] at h2
      exact h2
    have hev : (evens cv).length ≤ 18 := by
      have := evens_take_le cv
      have h2 := hcells.length
      rw [List.length_map, cellsOf_len] at h2
      omega
    refine x_assign ?_
    refine e_join rfl W fun _ _ W => ?_
    with_reducible refine e_comp (n := (evens cv).length) W (fun i v => (evens cv)[i]? = some v) (fun i ys => StrsAre ys ((((evens (cellsOf script)).take i).map pieceL).map tx)) ?_ ?_ ?_ ?_
    · omega
    · rw [List.take_zero]; exact .nil
    · with_reducible refine e_even0 rfl W (.tail (.tail .head)) (W.lo List.mem_cons_self hlo3) ?_ ?_
      · omega
      intro D5 _ W
      with_reducible refine iter_list W (W.lo List.mem_cons_self (IsLo.new _ _)) ?_
      intro I2 it2 _ hit2 W
      refine ⟨listIto D5, _, I2, it2, _, rfl, It.list hhL D5 (evens cv), Selfy.list, hit2, W, fun s' W => W.lo List.mem_cons_self (IsLo.new _ _), ?_⟩
      intro D6 o6 zs s6 hJ6 hly6 hlo6 W
      have hz6 : StrsAre zs (((evens (cellsOf script)).map pieceL).map tx) := by
        have e : (evens cv).length = (evens (cellsOf script)).length := by
          have := (NatsAre.evens hcells).length
          rw [List.length_map] at this; exact this
        rw [e, List.take_length] at hJ6; exact hJ6
      with_reducible refine call_join (ls := (evens (cellsOf script)).map pieceL) W (W.lo List.mem_cons_self hlo6) hz6 ?_ ?_
      · show (textOf (cellsOf script)).length ≤ _
        omega
      intro t2 _ W
      have W := W.swap.drop
      have W := W.drop
      refine store W (.tail (.tail (.tail (.tail (.tail .head))))) fun _ W => ?_
      refine x_assign ?_
      refine e_loc W (.tail (.tail (.tail (.tail (.tail .head))))) ?_
      refine store W (.tail (.tail (.tail (.tail (.tail (.tail .head)))))) fun _ W => ?_
      refine x_assign ?_
      refine e_tx [] rfl W fun t4 _ W => ?_
      refine store W (.tail (.tail (.tail (.tail (.tail (.tail (.tail .head))))))) fun _ W => ?_
      exact hz cd D3 (.ref G) _ cv t1 t2 t2 t4 _ hcells hlo3 W
    · intro i v ys C mC Na s' hi2 hP hJ hmC hns W
      refine wpAny_of_eq (a := true) rfl ?_
      rw [if_pos rfl]
      obtain ⟨hlt, t, rfl⟩ := NatsAre.nth (NatsAre.evens hcells) hP
      refine c_callD W.S gl_fn155 fn155 ?_
      refine args_c ?_
      refine c_loc (hns _ W) hmC ?_
      refine args_nil ⟨W.S, ?_⟩
      refine piece_call W.S (by show A.depth + 1 + 1 < _; omega) hhL fun t' s' G => ?_
      refine ⟨W.grow G, ?_⟩
      rw [List.take_add_one, List.map_append, List.map_append]
      refine hJ.append' ?_
      rw [List.getElem?_eq_getElem hlt]
      rw [List.getD_eq_getElem?_getD, List.getElem?_eq_getElem hlt]
      exact .cons _ _ .nil
  · intro i v ys C mC Na s' hi2 hP hJ hmC hns W
    refine wpAny_of_eq (a := true) rfl ?_
    rw [if_pos rfl]
    refine wpAny_BinOp ?_
    refine c_loc (hns _ W) hmC ?_
    have hlt : i < script.length := by have : i < vs.length := by simp at hi2; omega
                                       omega
    obtain ⟨t, ht⟩ := Mine.IntsAre.nth hi hlt
    have hi18 : i < 18 := by simp at hi2; omega
    rw [List.getElem?_take_of_lt hi18, ht] at hP
    cases hP
    refine e_int W fun _ s3 W => ?_
    refine PyProof.Rows.mod_int' (by decide) ?_
    refine ⟨W.toks _, ?_⟩
    rw [List.take_add_one, List.map_append]
    refine NatsAre.append hJ ?_
    rw [List.getElem?_take_of_lt hi18, List.getElem?_eq_getElem hlt]
    have e : (script.getD i 0).fmod 1000000 = ((md script[i] : Nat) : Int) := by
      rw [Int.fmod_eq_emod_of_nonneg _ (by decide)]
      unfold md
      simp [hlt]
      omega
    rw [e]
    exact .cons _ _ .nil
end
end Mine

end
section
open PySem PySem.W PyProof.Rows PySem.Calls PyProof.V
set_option Elab.async false
set_option maxRecDepth 100000
namespace Mine
noncomputable section
variable {w : World} {A : Around} {E : Value → Shared → Prop} {s₀ s : Shared} {L : Addr} {m m' : Loc} {N : List (Addr × Obj)} {nm : Str} {sc : Scope} {f : Addr} {cd : Value}

/-- a for over names, what it walks over told last -/
theorem x_for2 {x : Str} {px p : Pos} {iterE : Expr} {body rest : List Stmt} {n : Nat} (P : Nat → Value → Prop) {Q : Flow → Shared → Prop} {env : Env} (_ : Wk w s₀ L m N s) (J : Nat → Loc → List (Addr × Obj) → Prop)
    (hiter : wpAny (model pw w) A (eval iterE env) (fun v s₁ => wpAny (model pw w) A (pyIter v) (fun r s₂ => ∃ Ito Cn Fx I it m N, r = .ref I ∧ It w A n P Ito Cn ∧ (∀ m' N' s', Wk w s₀ L m' (N' ++ Fx) s' → Cn s'.heap) ∧ Ito 0 it ∧ Wk w s₀ L m ((I, it) :: (N ++ Fx)) s₂ ∧ J 0 m N) E s₁) E s)
    (step : ∀ i m' N' I it v Fx s₁, i < n → J i m' N' → P i v → Wk w s₀ L m' ((I, it) :: (N' ++ Fx)) s₁ → wpAny (model pw w) A (storeName env x v) (fun _ s₂ => wpAny (model pw w) A (execs body env)
      (fun fl s₃ => match fl with | .next | .cont => ∃ m3 N3, Wk w s₀ L m3 ((I, it) :: (N3 ++ Fx)) s₃ ∧ J (i + 1) m3 N3 | .brk => False | .ret v => Q (.ret v) s₃) (fun _ _ => False) s₂) (fun _ _ => False) s₁)
    (fin : ∀ m' N' s₁, J n m' N' → Wk w s₀ L m' N' s₁ → wpAny (model pw w) A (execs rest env) Q E s₁)
    (hs : ∀ x, foldedSetIterable iterE env x = pure x := by intro _; with_unfolding_all rfl) :
    wpAny (model pw w) A (execs (.For (.Name x px) iterE body [] p :: rest) env) Q E s := by
  refine wpAny_execs_cons (wpAny_For (wpAny_mono hiter (fun v s₁ h₁ => wpAny_mono h₁ (fun r s₂ h₂ => ?_) fun _ _ x => x) fun _ _ x => x) hs)
  obtain ⟨Ito, Cn, Fx, I, it, m, N, rfl, T, hC, hi0, W0, J0⟩ := h₂
  refine codeAny_forLoop (fun k s' => ∃ i it m' N', k = n - i ∧ i ≤ n ∧ Ito i it ∧ Wk w s₀ L m' ((I, it) :: (N' ++ Fx)) s' ∧ J i m' N') (fun k s' hk => ?_) n ⟨0, it, m, N, rfl, Nat.zero_le _, hi0, W0, J0⟩
  obtain ⟨i, it, m', N', rfl, hle, hit, W, hJ⟩ := hk
  by_cases hlt : i < n
  · refine T.next hlt hit (W.lookN List.mem_cons_self) (hC m' N' _ W.drop) fun v it' h' tk hP hit' ho' hk' => ?_
    have W' := W.mut hk' ho' tk
    refine wpAny_assign_Name (wpAny_mono (step i m' N' I it' v Fx _ hlt hJ hP W') (fun _ s₂ h₂ => wpAny_mono h₂ (fun fl s₃ h₃ => ?_) fun _ _ x => x.elim) fun _ _ x => x.elim)
    cases fl with
    | next =>
      obtain ⟨m3, N3, W3, J3⟩ := h₃
      exact ⟨_, by omega, i + 1, it', m3, N3, rfl, hlt, hit', W3, J3⟩
    | cont =>
      obtain ⟨m3, N3, W3, J3⟩ := h₃
      exact ⟨_, by omega, i + 1, it', m3, N3, rfl, hlt, hit', W3, J3⟩
    | brk => exact h₃.elim
    | ret v => exact h₃
  · have e : i = n := by omega
    subst e
    refine T.stop hit (W.lookN List.mem_cons_self) (hC m' N' _ W.drop) fun h' tk hk' => ?_
    exact wpAny_execs_nil (fin m' N' _ hJ (W.lose hk' tk).left)
theorem forIn_one {c : Expr} {env : Env} {Q : Bool → Shared → Prop} (h : wpAny (model pw w) A (isTrue c env (eval c env)) Q E s) :
    wpAny (model pw w) A (forIn [c] true fun c r => if r = true then do let ok ← isTrue c env (eval c env); pure (ForInStep.yield ok) else pure (ForInStep.yield r)) Q E s := by
  rw [List.forIn_cons, if_pos rfl]
  refine wpAny_bind (wpAny_bind (wpAny_mono h (fun ok s' h' => wpAny_pure ?_) fun _ _ x => x))
  show wpAny _ _ (forIn [] ok _) _ _ _
  rw [List.forIn_nil]
  exact wpAny_pure h'
theorem TB.countEq {x : Str} {l : List Nat} {c n : Nat} {cS : Str} {ci : Int} {t : Tok} {k k2 : Nat} {p1 p2 p3 p4 p5 p6 : Pos} (hc : cS = tx [c]) (hi : ci = (n : Int)) (hx : Has x (.str (tx l) t) m) (hk : sc.kind = .function := by kernel_rfl) (hlo : (envOf nm sc L f cd).kindOf x = some .local := by kernel_rfl)
    (hd : (x == ("__debug__" : Str)) = false := by decide) (hline : (p2.endLine == p4.line) = true := by with_unfolding_all rfl) :
    TB w A s₀ L m N (envOf nm sc L f cd) (.Compare (.Call (.Attribute (.Name x p1) "count" p2) [.Constant (.str cS) k p3] [] p4) [.Eq] [.Constant (.int ci) k2 p5] p6) (decide (l.count c = n)) := fun {s Q E} W h => by
  subst hi
  refine wpAny_isTrue_Compare1 ?_
  refine e_count (hline := hline) hc W hx (fun _ _ W => ?_) hk hlo hd
  refine e_int W fun _ s' W => ?_
  refine PyProof.Rows.eq_int (wpAny_truthy_bool ?_)
  rw [show (((l.count c : Nat) : Int) == (n : Int)) = decide (l.count c = n) by rw [Bool.eq_iff_iff]; simp; omega]
  exact h _ W
theorem tx_fold (c : Nat) : tx (foldL c) = foldS c := by
  unfold foldL
  generalize foldS c = x
  obtain ⟨a⟩ := x
  simp
theorem runH_snoc (wh : Nat) (t : List Nat) (xs : List Nat) (i : Nat) (hi : i < xs.length) : runH wh t (xs.take (i + 1)) = stepH wh (runH wh t (xs.take i)) (xs.getD i 0) := by
  rw [List.take_add_one, show xs[i]? = some (xs.getD i 0) by simp [hi]]
  unfold runH
  rw [List.foldl_append]; rfl
noncomputable abbrev pgKeep (l : List Nat) : List (List Nat) := (l.filter fun c => !b1L.contains c).map foldL
theorem loop_room {P : Prop} (h : P) : P := h

set_option maxHeartbeats 8000000 in
/-- the loop of law -/
theorem law_loop {R : Flow → Shared → Prop} {cs : List Nat} {wh : Nat} {tl : List Nat} {a D : Addr} {G : Value} {o : Obj} {cv : List Value} {t1 t2 t3 t4 : Tok} (hh : A.handled = none) (hroom : A.depth + 3 < recursionLimit) (hwh : wh < 5)
    (hcv : NatsAre cv cs) (hlo : IsLo o cv) (hcl : cs.length = 18)
    (hpl : ∀ i, (runH wh tl ((evens (cs.drop 1)).take i)).2.length ≤ 3000) (hpf : ∀ i, ∀ c ∈ (runH wh tl ((evens (cs.drop 1)).take i)).2, (foldL c).length ≤ 4)
    (hrl : ∀ i, (runH wh tl ((evens (cs.drop 1)).take i)).1.length ≤ 18)
    (W : Wk w s₀ L (loc0 a D G wh t1 t2 t3 t4 tl tl [] none none) [(D, o)] s)
    (hfin : ∀ t3 t4 vx vh s', Wk w s₀ L (loc0 a D G wh t1 t2 t3 t4 tl (runH wh tl (evens (cs.drop 1))).2 (runH wh tl (evens (cs.drop 1))).1 vx vh) [] s' →
      wpAny (model pw w) A (execs ((fnB 23).drop 9) (envOf "law" (fnS 23) L 188 cd)) R (fun _ _ => False) s') :
    wpAny (model pw w) A (execs ((fnB 23).drop 8) (envOf "law" (fnS 23) L 188 cd)) R (fun _ _ => False) s := by
  conv in (fnB 23).drop 8 => whnf
  generalize hhs : evens (cs.drop 1) = hs at *
  have hvs : NatsAre (evens (cv.drop 1)) hs := by rw [← hhs]; exact NatsAre.evens (NatsAre.drop hcv 1)
  have hn : (evens (cv.drop 1)).length = hs.length := by rw [hvs.length, List.length_map]
  have hcvl : cv.length = 18 := by
    have h2 := hcv.length
    rw [List.length_map, hcl] at h2
    exact h2
  refine x_for2 (n := hs.length) (fun i v => (evens (cv.drop 1))[i]? = some v) W (fun i m' N' => N' = [] ∧ ∃ t3 t4 vx vh, m' = loc0 a D G wh t1 t2 t3 t4 tl (runH wh tl (hs.take i)).2 (runH wh tl (hs.take i)).1 vx vh) ?_ ?_ ?_
  · with_reducible refine e_even1 rfl rfl W (.tail (.tail .head)) (W.lo List.mem_cons_self hlo) ?_ ?_
    · omega
    intro D5 _ W
    with_reducible refine iter_list W (W.lo List.mem_cons_self (IsLo.new _ _)) ?_
    intro I2 it2 s2 hit2 W
    have W := W.perm (N' := (I2, it2) :: (D5, { cls := .type "list", data := .seq (evens (cv.drop 1)).toArray }) :: [(D, o)]) (.refl _)
    refine ⟨listIto D5, _, [(D5, { cls := .type "list", data := .seq (evens (cv.drop 1)).toArray }), (D, o)], I2, it2, _, [], rfl, hn ▸ It.list hh D5 (evens (cv.drop 1)), fun m' N' s' W => W.lo (List.mem_append_right _ List.mem_cons_self) (IsLo.new _ _), hit2, W, rfl, t3, t4, none, none, rfl⟩
  · rintro i m' N' I it v Fx s₁ hi ⟨rfl, t3, t4, vx, vh, rfl⟩ hP W
    obtain ⟨hlt, tv, rfl⟩ := NatsAre.nth hvs hP
    have hsn := runH_snoc wh tl hs i hi
    have hp := hpl i
    have hpf := hpf i
    have hr := hrl i
    generalize runH wh tl (hs.take i) = st at *
    generalize hs.getD i 0 = x at *
    have fin : ∀ {t3 t4 vx vh s3}, Wk w s₀ L (loc0 a D G wh t1 t2 t3 t4 tl (stepH wh st x).2 (stepH wh st x).1 vx vh) ((I, it) :: ([] ++ Fx)) s3 →
        ∃ m3 N3, Wk w s₀ L m3 ((I, it) :: (N3 ++ Fx)) s3 ∧ N3 = [] ∧ ∃ t3 t4 vx vh, m3 = loc0 a D G wh t1 t2 t3 t4 tl (runH wh tl (hs.take (i + 1))).2 (runH wh tl (hs.take (i + 1))).1 vx vh := by
      intro t3 t4 vx vh s3 W3
      rw [hsn]
      exact ⟨_, [], W3, rfl, _, _, _, _, rfl⟩
    refine store W (.tail (.tail (.tail (.tail (.tail (.tail (.tail (.tail .head)))))))) fun _ W => ?_
    refine x_assign ?_
    refine PyProof.Rows.Subscript_ ?_
    refine e_tx [80, 80, 77, 77, 88, 45] rfl W fun _ _ W => ?_
    refine wpAny_BinOp ?_
    refine e_loc W (.tail (.tail (.tail (.tail (.tail (.tail (.tail (.tail .head)))))))) ?_
    refine e_nat 6 rfl W fun _ _ W => ?_
    refine e_mod W (by decide) fun _ _ W => ?_
    have hx6 : x % 6 < 6 := Nat.mod_lt _ (by decide)
    refine tail_on <| item_tx W (by exact hx6) (by omega) fun th _ W => ?_
    rw [show [80, 80, 77, 77, 88, 45].getD (x % 6) 0 = handC x from rfl]
    refine store W (.tail (.tail (.tail (.tail (.tail (.tail (.tail (.tail (.tail .head))))))))) fun _ W => ?_
    have hhand : handC x = 80 ∨ handC x = 77 ∨ handC x = 88 ∨ handC x = 45 := by
      unfold handC
      generalize x % 6 = r at hx6
      match r, hx6 with
      | 0, _ => exact .inl rfl
      | 1, _ => exact .inl rfl
      | 2, _ => exact .inr (.inl rfl)
      | 3, _ => exact .inr (.inl rfl)
      | 4, _ => exact .inr (.inr (.inl rfl))
      | 5, _ => exact .inr (.inr (.inr rfl))
    refine x_ifb (TB.or (TB.eqTx (c := [45]) rfl (.tail (.tail (.tail (.tail (.tail (.tail (.tail (.tail (.tail .head)))))))))) (TB.or (TB.and (TB.eqTx (c := [88]) rfl (.tail (.tail (.tail (.tail (.tail (.tail (.tail (.tail (.tail .head))))))))))
      (TB.and (TB.countEq (c := 88) (n := 2) rfl rfl (.tail (.tail (.tail (.tail (.tail (.tail (.tail .head)))))))) TB.andNil)) TB.orNil)) W (fun hq _ W => ?_) (fun hq _ W => ?_)
    · have hskip : handC x = 45 ∨ handC x = 88 ∧ st.1.count 88 = 2 := by simpa using hq
      refine x_cont ?_
      have e : stepH wh st x = st := by unfold stepH; rw [if_pos hskip]
      rw [e] at fin
      exact fin W
    · have hskip : ¬ (handC x = 45 ∨ handC x = 88 ∧ st.1.count 88 = 2) := by
        intro h'
        have : (decide ([handC x] = [45]) || (decide ([handC x] = [88]) && (decide (st.1.count 88 = 2) && true) || false)) = true := by simpa using h'
        rw [this] at hq; cases hq
      have e : stepH wh st x = (st.1 ++ [handC x], if handC x = 80 then pgP st.2 else if handC x = 77 then stripL st.2 else escOf (escTab wh) st.2) := by unfold stepH; rw [if_neg hskip]
      rw [e] at fin
      refine wpAny_execs_nil ?_
      refine x_augL W (.tail (.tail (.tail (.tail (.tail (.tail (.tail .head))))))) ?_
      refine e_loc W (.tail (.tail (.tail (.tail (.tail (.tail (.tail (.tail (.tail .head))))))))) ?_
      refine e_iadd W (by simp only [List.length_cons, List.length_nil]; omega) fun t4' _ W => ?_
      refine store W (.tail (.tail (.tail (.tail (.tail (.tail (.tail .head))))))) fun _ W => ?_
      refine x_ifb (TB.eqTx (c := [80]) rfl (.tail (.tail (.tail (.tail (.tail (.tail (.tail (.tail (.tail .head)))))))))) W (fun hq _ W => ?_) (fun hq _ W => ?_)
      · have hc : handC x = 80 := by simpa using hq
        rw [if_pos hc] at fin
        refine x_assign ?_
        refine e_join rfl W fun _ _ W => ?_
        with_reducible refine e_comp (n := st.2.length) W (fun i v => ∃ t', v = .str (tx [st.2.getD i 0]) t') (fun i ys => StrsAre ys ((((st.2.take i).filter fun c => !b1L.contains c).map foldL).map tx)) ?_ ?_ ?_ ?_
        · omega
        · rw [List.take_zero]; exact .nil
        · refine e_loc W (.tail (.tail (.tail (.tail (.tail (.tail .head)))))) ?_
          refine iter_str W fun I3 it3 _ h3 W => ?_
          refine ⟨strIto st.2 t3, fun _ => True, I3, it3, _, rfl, It.str hh st.2 t3, Selfy.str, h3, W, fun _ _ => trivial, ?_⟩
          intro D6 o6 zs s6 hJ6 hly6 hlo6 W
          rw [List.take_length] at hJ6
          have hfl : ((st.2.filter fun c => !b1L.contains c).map foldL).flatten.length ≤ 10000000 := by
            have h1 : ∀ (ls : List Nat), (∀ c ∈ ls, (foldL c).length ≤ 4) → (ls.map foldL).flatten.length ≤ ls.length * 4 := by
              intro ls
              induction ls with
              | nil => intro _; exact Nat.zero_le _
              | cons c r ih =>
                intro h
                have h0 := h c List.mem_cons_self
                have h1 := ih fun c hc => h c (List.mem_cons_of_mem _ hc)
                rw [List.map_cons, List.flatten_cons, List.length_append, List.length_cons]
                omega
            have h2 := h1 (st.2.filter fun c => !b1L.contains c) fun c hc => hpf c (List.mem_filter.mp hc).1
            have h3 := List.length_filter_le (fun c => !b1L.contains c) st.2
            omega
          with_reducible refine call_join W (W.lo List.mem_cons_self hlo6) hJ6 hfl ?_
          intro t5 _ W
          have W := W.drop
          refine store W (.tail (.tail (.tail (.tail (.tail (.tail .head)))))) fun _ W => ?_
          refine wpAny_execs_nil ?_
          refine wpAny_execs_nil ?_
          exact fin W
        · intro i v ys C mC Na s' hi2 hP hJ hmC hns W
          obtain ⟨tc, rfl⟩ := hP
          have hsn : (st.2.take (i + 1)).filter (fun c => !b1L.contains c) = (st.2.take i).filter (fun c => !b1L.contains c) ++ [st.2.getD i 0].filter (fun c => !b1L.contains c) := by
            rw [List.take_add_one, List.filter_append, show st.2[i]? = some (st.2.getD i 0) by simp [hi2]]; rfl
          rw [hsn]
          have hcm : st.2.getD i 0 ∈ st.2 := by
            rw [List.getD_eq_getElem?_getD, List.getElem?_eq_getElem hi2]; exact List.getElem_mem hi2
          generalize st.2.getD i 0 = c at *
          refine forIn_one ?_
          refine isTrue_not ?_
          refine isTrue_plain ?_
          refine c_callD W.S gl_fn53 fn53 ?_
          refine args_c ?_
          refine c_loc (hns _ W) hmC ?_
          refine args_nil ⟨W.S, ?_⟩
          refine b1_call W.S (by show A.depth < _; omega) fun s' G => ?_
          have W := W.grow G
          refine wpAny_truthy_bool ?_
          cases hb : b1L.contains c with
          | true =>
            rw [if_neg (by simp)]
            refine ⟨W, ?_⟩
            rw [show [c].filter (fun c => !b1L.contains c) = [] by rw [List.filter_cons, hb]; rfl, List.append_nil]
            exact hJ
          | false =>
            rw [if_pos (by simp)]
            refine c_callD W.S gl_fn99 fn99 ?_
            refine args_c ?_
            refine c_loc (hns _ W) hmC ?_
            refine args_nil ⟨W.S, ?_⟩
            refine map_call W.S (by show A.depth < _; omega) ?_ fun t' s' G => ?_
            · have := hpf c hcm
              unfold foldL at this
              show (foldS c).cps.size ≤ _
              rw [Array.length_toList] at this
              omega
            · refine ⟨W.grow G, ?_⟩
              rw [show [c].filter (fun c => !b1L.contains c) = [c] by rw [List.filter_cons, hb]; rfl, List.map_append, List.map_append]
              refine hJ.append' ?_
              rw [show ([c].map foldL).map tx = [foldS c] by rw [List.map_cons, List.map_cons, List.map_nil, List.map_nil, tx_fold]]
              exact .cons _ _ .nil
      · have hc : ¬ handC x = 80 := by simpa using hq
        rw [if_neg hc] at fin
        refine x_ifb (TB.eqTx (c := [77]) rfl (.tail (.tail (.tail (.tail (.tail (.tail (.tail (.tail (.tail .head)))))))))) W (fun hq _ W => ?_) (fun hq _ W => ?_)
        · have hc2 : handC x = 77 := by simpa using hq
          rw [if_pos hc2] at fin
          refine x_assign ?_
          refine e_callD W.S gl_fn28 fn28 ?_
          refine args_c ?_
          refine e_loc W (.tail (.tail (.tail (.tail (.tail (.tail .head)))))) ?_
          refine args_nil ⟨W.S, ?_⟩
          refine strip_call W.S (by omega) hh hp fun t5 _ G => ?_
          have W := W.grow G
          refine store W (.tail (.tail (.tail (.tail (.tail (.tail .head)))))) fun _ W => ?_
          refine wpAny_execs_nil ?_
          refine wpAny_execs_nil ?_
          refine wpAny_execs_nil ?_
          exact fin W
        · have hc2 : ¬ handC x = 77 := by simpa using hq
          rw [if_neg hc2] at fin
          refine x_assign ?_
          obtain ⟨ei, en, hfe⟩ := fnEsc w wh hwh
          refine e_callL W (.tail (.tail (.tail (.tail .head)))) hfe ?_
          refine args_c ?_
          refine e_loc W (.tail (.tail (.tail (.tail (.tail (.tail .head)))))) ?_
          refine args_nil ⟨W.S, ?_⟩
          refine escape_call hwh W.S (by omega) (by omega) fun t5 _ G => ?_
          have W := W.grow G
          refine store W (.tail (.tail (.tail (.tail (.tail (.tail .head)))))) fun _ W => ?_
          refine wpAny_execs_nil ?_
          refine wpAny_execs_nil ?_
          refine wpAny_execs_nil ?_
          exact fin W
  · rintro m' N' s₁ ⟨rfl, t3, t4, vx, vh, rfl⟩ W
    rw [List.take_length] at W
    exact hfin t3 t4 vx vh s₁ W
end
end Mine

end
section
open PySem PySem.W PyProof.Rows PySem.Calls PyProof.V
set_option Elab.async false
set_option maxRecDepth 100000
namespace Mine
noncomputable section
variable {w : World} {A : Around} {E : Value → Shared → Prop} {s₀ s : Shared} {L : Addr} {m m' : Loc} {N : List (Addr × Obj)} {nm : Str} {sc : Scope} {f : Addr} {cd : Value}

theorem shearL_len (l : List Nat) : (shearL l).length ≤ 2 * l.length + 1 := by
  have h := shOf_len l ⟨[], [], 0⟩
  change (shOf l).init.flatten.length + (shOf l).last.length ≤ 0 + 0 + l.length ∧ _ at h
  have h1 := h.1
  unfold shearL
  refine Nat.le_trans (evens_len _) ?_
  unfold shEnd
  split
  · rename_i hev
    obtain ⟨pi, p, hpi⟩ : ∃ pi p, (shOf l).init = pi ++ [p] := by
      have hne : (shOf l).init ≠ [] := by intro e; rw [e] at hev; simp at hev
      exact ⟨_, _, (List.dropLast_concat_getLast hne).symm⟩
    rw [hpi] at h1 ⊢
    simp only [List.dropLast_concat, List.getLast?_append, List.getLast?_singleton, Option.some_or, Option.getD_some, List.flatten_append, List.length_append, List.flatten_cons, List.flatten_nil, List.append_nil, List.length_cons, List.length_nil] at h1 ⊢
    omega
  · simp only [List.flatten_append, List.length_append, List.flatten_cons, List.flatten_nil, List.append_nil]
    omega
theorem prepL_len : ∀ l : List Nat, (prepL l).length ≤ 3 * l.length
  | [] => Nat.le_refl _
  | c :: r => by
    have h1 := prepL_len r
    have h2 := prep1_len c
    show (prep1 c ++ prepL r).length ≤ _
    rw [List.length_append, List.length_cons]; omega
/-- early[len(ahead):] -/
theorem e_sliceL {x y : Str} {l l2 : List Nat} {t t2 : Tok} {np p1 p2 p3 p4 p5 : Pos} {Q : Value → Shared → Prop} (W : Wk w s₀ L m N s) (hl : l.length ≤ 100000) (hl2 : l2.length ≤ 100000) (hx : Has x (.str (tx l) t) m) (hy : Has y (.str (tx l2) t2) m)
    (h : ∀ t' s', Wk w s₀ L m N s' → Q (.str (tx (l.drop l2.length)) t') s')
    (hk : sc.kind = .function := by kernel_rfl) (hl1 : (envOf nm sc L f cd).kindOf x = some .local := by kernel_rfl) (hl3 : (envOf nm sc L f cd).kindOf y = some .local := by kernel_rfl) (hll : (envOf nm sc L f cd).kindOf "len" = some .globalImplicit := by kernel_rfl)
    (hd : (x == ("__debug__" : Str)) = false := by decide) (hd2 : (y == ("__debug__" : Str)) = false := by decide) :
    wpAny (model pw w) A (eval (.Subscript (.Name x p1) (.Slice (some (.Call (.Name "len" np) [.Name y p2] [] p3)) none none p4) p5) (envOf nm sc L f cd)) Q E s := by
  refine Subscript_Slice ?_
  refine e_loc W hx ?_ hk hl1 hd
  refine wpAny_Slice (evalPart_some_step ?_)
  refine e_callB (hk := hk) (hl := hll) W.S gl_len ?_
  refine args_c ?_
  refine e_loc W hy ?_ hk hl3 hd2
  refine args_nil ?_
  refine PyProof.Rows.len_str (by simp [Str.length]; omega) ?_
  rw [show (tx l2).length = l2.length by simp [Str.length]]
  have W := W.toks (s.toks + 1 + 1)
  refine evalPart_none_step (evalPart_none_step ?_)
  refine ⟨"str", _, PySem.F.slot_str_getitem.lookup, typeIs_str _ _ _, wpAny_getItem_str_slice (l := some ((l2.length : Int), _)) (u := none) (st := none) ⟨_, Heap.get?_push_size _ rfl, rfl, rfl⟩ rfl
    (post_val_or_str ⟨Nat.le_trans (Txt.slice_le (tx l) (some (l2.length : Int)) none) (fits_small (by simpa [Str.length] using Nat.le_trans hl (by decide))), fun t' k => ?_⟩)⟩
  have := h t' _ (W.keeps (h' := s.heap.push { cls := .type "slice", data := .fields #[.int l2.length (s.toks + 1), .none, .none] }) (push_keeps _) k)
  rw [← slice_tx'] at this
  exact this
theorem drop_take_len {l : List Nat} (c : Nat) : l.drop (l.takeWhile (· != c)).length = l.dropWhile (· != c) := by
  have h := List.takeWhile_append_dropWhile (p := (· != c)) (l := l)
  conv => lhs; rw [← h]
  rw [List.takeWhile_append_dropWhile]
  conv => lhs; arg 2; rw [← h]
  rw [List.drop_left]
/-- 'P' in row[row.find('X'):] -/
theorem e_behind {x : Str} {l : List Nat} {c d : Nat} {cS dS : Str} {t : Tok} {k k2 : Nat} {p1 p2 p3 p4 p5 p6 p7 p8 p9 : Pos} {Q : Value → Shared → Prop} (hc : cS = tx [c]) (hdS : dS = tx [d]) (W : Wk w s₀ L m N s) (hl : l.length ≤ 100000) (hx : Has x (.str (tx l) t) m) (hin : d ∈ l)
    (h : ∀ s', Wk w s₀ L m N s' → Q (.bool (decide (c ∈ l.dropWhile (· != d)))) s')
    (hk : sc.kind = .function := by kernel_rfl) (hlo : (envOf nm sc L f cd).kindOf x = some .local := by kernel_rfl) (hd : (x == ("__debug__" : Str)) = false := by decide) (hline : (p4.endLine == p6.line) = true := by with_unfolding_all rfl) :
    wpAny (model pw w) A (eval (.Compare (.Constant (.str cS) k p1) [.In] [.Subscript (.Name x p2) (.Slice (some (.Call (.Attribute (.Name x p3) "find" p4) [.Constant (.str dS) k2 p5] [] p6)) none none p7) p8] p9) (envOf nm sc L f cd)) Q E s := by
  subst hc
  refine wpAny_Compare1 (Constant_str ?_)
  have W := W.toks (s.toks + 1)
  refine Subscript_Slice ?_
  refine e_loc W hx ?_ hk hlo hd
  refine wpAny_Slice (evalPart_some_step ?_)
  refine e_find (hline := hline) hdS W hx hin (fun tf s2 W => ?_) hk hlo hd
  refine evalPart_none_step (evalPart_none_step ?_)
  refine ⟨"str", _, PySem.F.slot_str_getitem.lookup, typeIs_str _ _ _, wpAny_getItem_str_slice (l := some (((l.takeWhile (· != d)).length : Int), _)) (u := none) (st := none) ⟨_, Heap.get?_push_size _ rfl, rfl, rfl⟩ rfl
    (post_val_or_str ⟨Nat.le_trans (Txt.slice_le (tx l) (some ((l.takeWhile (· != d)).length : Int)) none) (fits_small (by simpa [Str.length] using Nat.le_trans hl (by decide))), fun t' k => ?_⟩)⟩
  show wpAny _ A (compareOp .In (.str (tx [c]) s.toks) (.str (Txt.slice (tx l) (some ((l.takeWhile (· != d)).length : Int)) none) t')) _ _ _
  rw [slice_tx', drop_take_len]
  refine SB.contains ?_
  have e : Txt.contains (tx (l.dropWhile (· != d))) (tx [c]) = decide (c ∈ l.dropWhile (· != d)) := by rw [Bool.eq_iff_iff, contains_one]; simp
  rw [e]
  exact h _ (W.keeps (h' := s2.heap.push { cls := .type "slice", data := .fields #[.int (l.takeWhile (· != d)).length tf, .none, .none] }) (push_keeps _) k)
theorem TB.countGt {x : Str} {l : List Nat} {c n : Nat} {cS : Str} {ci : Int} {t : Tok} {k k2 : Nat} {p1 p2 p3 p4 p5 p6 : Pos} (hc : cS = tx [c]) (hi : ci = (n : Int)) (hx : Has x (.str (tx l) t) m) (hk : sc.kind = .function := by kernel_rfl) (hlo : (envOf nm sc L f cd).kindOf x = some .local := by kernel_rfl)
    (hd : (x == ("__debug__" : Str)) = false := by decide) (hline : (p2.endLine == p4.line) = true := by with_unfolding_all rfl) :
    TB w A s₀ L m N (envOf nm sc L f cd) (.Compare (.Call (.Attribute (.Name x p1) "count" p2) [.Constant (.str cS) k p3] [] p4) [.Gt] [.Constant (.int ci) k2 p5] p6) (decide (n < l.count c)) := fun {s Q E} W h => by
  subst hi
  refine wpAny_isTrue_Compare1 ?_
  refine e_count (hline := hline) hc W hx (fun _ _ W => ?_) hk hlo hd
  refine e_int W fun _ s' W => ?_
  refine PyProof.Rows.gt_int (wpAny_truthy_bool ?_)
  rw [show decide ((n : Int) < ((l.count c : Nat) : Int)) = decide (n < l.count c) by rw [decide_eq_decide]; omega]
  exact h _ W
theorem e_inTup {x : Str} {a : Nat} {t : Tok} {p1 p2 p3 : Pos} {es : List Expr} {kk : Nat} {Q : Value → Shared → Prop} (ns : List Nat) (hE : IntsE es (ns.map fun (n : Nat) => (n : Int))) (hsz : ns.length ≤ 1000) (W : Wk w s₀ L m N s) (hx : Has x (.int a t) m) (h : ∀ s', Wk w s₀ L m N s' → Q (.bool (decide (a ∈ ns))) s')
    (hk : sc.kind = .function := by kernel_rfl) (hl : (envOf nm sc L f cd).kindOf x = some .local := by kernel_rfl)
    (hd : (x == ("__debug__" : Str)) = false := by decide) (hm : behindInMarks .In (.Tuple es kk p2) = false := by with_unfolding_all rfl) :
    wpAny (model pw w) A (eval (.Compare (.Name x p1) [.In] [.Tuple es kk p2] p3) (envOf nm sc L f cd)) Q E s := by
  refine wpAny_Compare1 ?_ hm
  refine e_loc W hx ?_ hk hl hd
  refine Tuple_ ?_
  refine args_ints hE W fun vs _ W hi => ?_
  have hlen := hi.length
  rw [List.length_map] at hlen
  refine W_tuple (hsz := fits_small (by omega)) W fun b s' W htup => ?_
  refine in_tuple_ints htup (by simpa using hi) ?_
  rw [any_int]
  exact h _ W.drop
noncomputable abbrev loc1 (a D : Addr) (G : Value) (wh : Nat) (t1 t2 t3 t4 : Tok) (tl pg rw : List Nat) (vx vh : Option Value) (hi : Bool) (ea ah be le : Option Value) (sm : Option Value) (sh : Option Value) : Loc :=
  [("script", some (.ref a)), ("given", some G), ("cells", some (.ref D)), ("which", some (.int (wh : Int) t1)), ("escape", some (.ref (escA wh))), ("text", some (.str (tx tl) t2)), ("page", some (.str (tx pg) t3)), ("row", some (.str (tx rw) t4)),
   ("x", vx), ("hand", vh), ("hides", some (.bool hi)), ("early", ea), ("ahead", ah), ("behind", be), ("left", le), ("small", sm), ("shown", sh)]

theorem e_hides {x y : Str} {a c : Nat} {l : List Nat} {cS : Str} {t t2 : Tok} {k kk : Nat} {p1 p2 p3 p4 p5 p6 p7 : Pos} {es : List Expr} {Q : Value → Shared → Prop} (ns : List Nat) (hE : IntsE es (ns.map fun (n : Nat) => (n : Int))) (hsz : ns.length ≤ 1000) (hc : cS = tx [c]) (W : Wk w s₀ L m N s) (hx : Has x (.int a t) m) (hy : Has y (.str (tx l) t2) m)
    (h : ∀ s', Wk w s₀ L m N s' → Q (.bool (decide (a ∈ ns) && decide (c ∈ l))) s')
    (hk : sc.kind = .function := by kernel_rfl) (hl : (envOf nm sc L f cd).kindOf x = some .local := by kernel_rfl) (hl2 : (envOf nm sc L f cd).kindOf y = some .local := by kernel_rfl)
    (hd : (x == ("__debug__" : Str)) = false := by decide) (hd2 : (y == ("__debug__" : Str)) = false := by decide) (hm : behindInMarks .In (.Tuple es kk p2) = false := by with_unfolding_all rfl) :
    wpAny (model pw w) A (eval (.BoolOp .And [.Compare (.Name x p1) [.In] [.Tuple es kk p2] p3, .Compare (.Constant (.str cS) k p4) [.In] [.Name y p5] p6] p7) (envOf nm sc L f cd)) Q E s := by
  refine BoolOp_and ?_
  refine e_inTup ns hE hsz W hx (fun _ W => ?_) hk hl hd hm
  refine wpAny_truthy_bool ?_
  cases hb : decide (a ∈ ns) with
  | false =>
    have := h _ W
    rw [hb, Bool.false_and] at this
    exact this
  | true =>
    refine BoolOp_one ?_
    refine e_inS hc W hy (fun s' W => ?_) hk hl2 hd2
    have := h _ W
    rw [hb, Bool.true_and] at this
    exact this
theorem e_small {x : Str} {l : List Nat} {c d : Nat} {cS dS dS2 : Str} {t : Tok} {k k2 k3 : Nat} {p1 p2 p3 p4 p5 p6 p7 p8 p9 p10 p11 p12 p13 : Pos} {Q : Value → Shared → Prop} (hc : cS = tx [c]) (hdS : dS = tx [d]) (hdS2 : dS2 = tx [d]) (W : Wk w s₀ L m N s) (hl : l.length ≤ 100000) (hx : Has x (.str (tx l) t) m)
    (h : ∀ s', Wk w s₀ L m N s' → Q (.bool (decide (d ∈ l) && decide (c ∈ l.dropWhile (· != d)))) s')
    (hk : sc.kind = .function := by kernel_rfl) (hlo : (envOf nm sc L f cd).kindOf x = some .local := by kernel_rfl) (hd : (x == ("__debug__" : Str)) = false := by decide) (hline : (p4.endLine == p6.line) = true := by with_unfolding_all rfl) :
    wpAny (model pw w) A (eval (.BoolOp .And [.Compare (.Constant (.str dS2) k3 p10) [.In] [.Name x p11] p12, .Compare (.Constant (.str cS) k p1) [.In] [.Subscript (.Name x p2) (.Slice (some (.Call (.Attribute (.Name x p3) "find" p4) [.Constant (.str dS) k2 p5] [] p6)) none none p7) p8] p9] p13) (envOf nm sc L f cd)) Q E s := by
  refine BoolOp_and ?_
  refine e_inS hdS2 W hx (fun _ W => ?_) hk hlo hd
  refine wpAny_truthy_bool ?_
  by_cases hb : d ∈ l
  · rw [decide_eq_true hb]
    refine BoolOp_one ?_
    refine e_behind (hline := hline) hc hdS W hl hx hb (fun s' W => ?_) hk hlo hd
    have := h _ W
    rw [decide_eq_true hb, Bool.true_and] at this
    exact this
  · rw [decide_eq_false hb]
    have := h _ W
    rw [decide_eq_false hb, Bool.false_and] at this
    exact this
theorem e_ifS {test body orelse : Expr} {p : Pos} {b : Bool} {l1 l2 : List Nat} {env : Env} {Q : Value → Shared → Prop} (hb : TB w A s₀ L m N env test b) (W : Wk w s₀ L m N s)
    (ht : b = true → ∀ s', Wk w s₀ L m N s' → wpAny (model pw w) A (eval body env) (fun v s'' => ∃ t, v = .str (tx l1) t ∧ Wk w s₀ L m N s'') E s')
    (hf : b = false → ∀ s', Wk w s₀ L m N s' → wpAny (model pw w) A (eval orelse env) (fun v s'' => ∃ t, v = .str (tx l2) t ∧ Wk w s₀ L m N s'') E s')
    (h : ∀ t s', Wk w s₀ L m N s' → Q (.str (tx (if b then l1 else l2)) t) s') : wpAny (model pw w) A (eval (.IfExp test body orelse p) env) Q E s := by
  refine IfExp_ (hb W fun s' W' => ?_)
  cases b with
  | true =>
    refine wpAny_mono (ht rfl s' W') ?_ fun _ _ x => x
    rintro v s'' ⟨t, rfl, W''⟩
    exact h t s'' W''
  | false =>
    refine wpAny_mono (hf rfl s' W') ?_ fun _ _ x => x
    rintro v s'' ⟨t, rfl, W''⟩
    exact h t s'' W''
theorem x_ifU {test : Expr} {body rest : List Stmt} {p : Pos} {b : Bool} {env : Env} {Q : Flow → Shared → Prop} (hb : TB w A s₀ L m N env test b) (W : Wk w s₀ L m N s) (M : Loc → Prop)
    (ht : b = true → ∀ s', Wk w s₀ L m N s' → wpAny (model pw w) A (execs body env) (fun fl s'' => fl = .next ∧ ∃ m2, M m2 ∧ Wk w s₀ L m2 N s'') E s') (hf : b = false → M m)
    (h : ∀ m2 s', M m2 → Wk w s₀ L m2 N s' → wpAny (model pw w) A (execs rest env) Q E s') : wpAny (model pw w) A (execs (.If test body [] p :: rest) env) Q E s := by
  refine x_ifb hb W (fun hq s' W => ?_) (fun hq s' W => ?_)
  · refine wpAny_mono (ht hq s' W) ?_ fun _ _ x => x
    rintro fl s'' ⟨rfl, m2, hM, W2⟩
    exact h m2 s'' hM W2
  · exact wpAny_execs_nil (h m s' (hf hq) W)
theorem TB.loc {x : Str} {b : Bool} {p1 : Pos} (hx : Has x (.bool b) m) (hk : sc.kind = .function := by kernel_rfl) (hlo : (envOf nm sc L f cd).kindOf x = some .local := by kernel_rfl)
    (hd : (x == ("__debug__" : Str)) = false := by decide) : TB w A s₀ L m N (envOf nm sc L f cd) (.Name x p1) b := fun {s Q E} W h => by
  refine isTrue_plain ?_
  refine e_loc W hx ?_ hk hlo hd
  refine wpAny_truthy_bool ?_
  exact h _ W

set_option maxHeartbeats 8000000 in
/-- the rest of law -/
theorem law_tail {R : Flow → Shared → Prop} {wh : Nat} {tl pg row : List Nat} {a D : Addr} {G : Value} {t1 t2 t3 t4 : Tok} {vx vh : Option Value} (hh : A.handled = none) (hroom : A.depth + 4 < recursionLimit) (hwh : wh < 5)
    (htl : tl.length ≤ 300) (hpg : pg.length ≤ 3000) (hrow : row.length ≤ 18) (hX : row.count 88 ≤ 2)
    (W : Wk w s₀ L (loc0 a D G wh t1 t2 t3 t4 tl pg row vx vh) [] s)
    (hfin : ∀ s', Grown s₀ s' → R (.ret (.bool (judge wh tl row pg))) s') :
    wpAny (model pw w) A (execs ((fnB 23).drop 9) (envOf "law" (fnS 23) L 188 cd)) R (fun _ _ => False) s := by
  conv in (fnB 23).drop 9 => whnf
  have k88 : Builtin.Str.strKind (tx [88]) = 1 := by decide +kernel
  have k80 : Builtin.Str.strKind (tx [80]) = 1 := by decide +kernel
  refine x_assign ?_
  refine e_hides [1, 2, 4] (.cons (.cons (.cons .nil))) (by decide) (c := 88) rfl W (.tail (.tail (.tail .head))) (.tail (.tail (.tail (.tail (.tail (.tail (.tail .head))))))) fun _ W => ?_
  refine store W (.tail (.tail (.tail (.tail (.tail (.tail (.tail (.tail (.tail (.tail .head)))))))))) fun _ W => ?_
  rw [show (decide (wh ∈ [1, 2, 4]) && decide (88 ∈ row)) = hidesB wh row from rfl] at W
  have hea : (earlyL wh row).length ≤ 18 := by
    unfold earlyL
    split
    · exact Nat.le_trans (PyProof.Rows.takeWhile_len_le _ _) hrow
    · exact hrow
  refine x_assign ?_
  refine e_ifS (l1 := row.takeWhile (· != 88)) (l2 := row) (TB.loc (.tail (.tail (.tail (.tail (.tail (.tail (.tail (.tail (.tail (.tail .head))))))))))) W (fun _ _ W => ?_) (fun _ _ W => ?_) fun t5 _ W => ?_
  · exact e_split (c := 88) rfl rfl k88 W (.tail (.tail (.tail (.tail (.tail (.tail (.tail .head))))))) (by omega) fun t s' W => ⟨t, rfl, W⟩
  · exact e_loc W (.tail (.tail (.tail (.tail (.tail (.tail (.tail .head))))))) ⟨_, rfl, W⟩
  refine store W (.tail (.tail (.tail (.tail (.tail (.tail (.tail (.tail (.tail (.tail (.tail .head))))))))))) fun _ W => ?_
  rw [show (if hidesB wh row = true then row.takeWhile (· != 88) else row) = earlyL wh row from rfl] at W
  refine x_assign ?_
  refine e_split (c := 80) rfl rfl k80 W (.tail (.tail (.tail (.tail (.tail (.tail (.tail (.tail (.tail (.tail (.tail .head))))))))))) (by omega) fun t6 _ W => ?_
  refine store W (.tail (.tail (.tail (.tail (.tail (.tail (.tail (.tail (.tail (.tail (.tail (.tail .head)))))))))))) fun _ W => ?_
  have hah : ((earlyL wh row).takeWhile (· != 80)).length ≤ 18 := Nat.le_trans (PyProof.Rows.takeWhile_len_le _ _) hea
  refine x_assign ?_
  refine e_sliceL W (by omega) (by omega) (.tail (.tail (.tail (.tail (.tail (.tail (.tail (.tail (.tail (.tail (.tail .head))))))))))) (.tail (.tail (.tail (.tail (.tail (.tail (.tail (.tail (.tail (.tail (.tail (.tail .head)))))))))))) fun t7 _ W => ?_
  refine store W (.tail (.tail (.tail (.tail (.tail (.tail (.tail (.tail (.tail (.tail (.tail (.tail (.tail .head))))))))))))) fun _ W => ?_
  generalize hE : earlyL wh row = ea at *
  generalize hA : ea.takeWhile (· != 80) = ah at *
  generalize hB : ea.drop ah.length = be at *
  generalize hH : hidesB wh row = hi at *
  refine x_assign ?_
  refine e_ifS (l1 := shearL tl) (l2 := tl) (TB.inS (c := 77) rfl (.tail (.tail (.tail (.tail (.tail (.tail (.tail (.tail (.tail (.tail (.tail (.tail .head))))))))))))) W (fun _ _ W => ?_) (fun _ _ W => ?_) fun t8 _ W => ?_
  · refine e_callD W.S gl_fn169 fn169 ?_
    refine args_c ?_
    refine e_loc W (.tail (.tail (.tail (.tail (.tail .head))))) ?_
    refine args_nil ⟨W.S, ?_⟩
    exact sheared_call W.S (by omega) hh (by omega) fun t' _ G => ⟨t', rfl, W.grow G⟩
  · exact e_loc W (.tail (.tail (.tail (.tail (.tail .head))))) ⟨_, rfl, W⟩
  refine store W (.tail (.tail (.tail (.tail (.tail (.tail (.tail (.tail (.tail (.tail (.tail (.tail (.tail (.tail .head)))))))))))))) fun _ W => ?_
  rw [show (if decide (77 ∈ ah) = true then shearL tl else tl) = (if 77 ∈ ah then shearL tl else tl) by simp] at W
  have hl1 : (if 77 ∈ ah then shearL tl else tl).length ≤ 601 := by
    split
    · have := shearL_len tl; omega
    · omega
  generalize hL1 : (if 77 ∈ ah then shearL tl else tl) = l1 at *
  refine x_ifU (TB.inS (c := 80) rfl (.tail (.tail (.tail (.tail (.tail (.tail (.tail .head)))))))) W (fun m2 => ∃ t, m2 = loc1 a D G wh t1 t2 t3 t4 tl pg row vx vh hi (some (.str (tx ea) t5)) (some (.str (tx ah) t6)) (some (.str (tx be) t7)) (some (.str (tx (if 80 ∈ row then prepL l1 else l1)) t)) none none) (fun hq _ W => ?_) (fun hq => ?_) fun m2 _ hM W => ?_
  · have hq : 80 ∈ row := by simpa using hq
    refine x_assign ?_
    refine e_callD W.S gl_fn162 fn162 ?_
    refine args_c ?_
    refine e_loc W (.tail (.tail (.tail (.tail (.tail (.tail (.tail (.tail (.tail (.tail (.tail (.tail (.tail (.tail .head)))))))))))))) ?_
    refine args_nil ⟨W.S, ?_⟩
    refine prepared_call W.S (by omega) hh (by omega) fun t' _ G => ?_
    have W := W.grow G
    refine store W (.tail (.tail (.tail (.tail (.tail (.tail (.tail (.tail (.tail (.tail (.tail (.tail (.tail (.tail .head)))))))))))))) fun _ W => ?_
    refine wpAny_execs_nil ⟨rfl, _, ⟨t', ?_⟩, W⟩
    rw [if_pos hq]
  · have hq : ¬ (80 ∈ row) := by simpa using hq
    exact ⟨_, by rw [if_neg hq]⟩
  obtain ⟨l2t, rfl⟩ := hM
  have hl2 : (if 80 ∈ row then prepL l1 else l1).length ≤ 1803 := by
    split
    · have := prepL_len l1; omega
    · omega
  generalize hL2 : (if 80 ∈ row then prepL l1 else l1) = l2 at *
  refine x_ifU (TB.inS (c := 77) rfl (.tail (.tail (.tail (.tail (.tail (.tail (.tail (.tail (.tail (.tail (.tail (.tail (.tail .head)))))))))))))) W (fun m2 => ∃ t, m2 = loc1 a D G wh t1 t2 t3 t4 tl pg row vx vh hi (some (.str (tx ea) t5)) (some (.str (tx ah) t6)) (some (.str (tx be) t7)) (some (.str (tx (if 77 ∈ be then shearL l2 else l2)) t)) none none) (fun hq _ W => ?_) (fun hq => ?_) fun m2 _ hM W => ?_
  · have hq : 77 ∈ be := by simpa using hq
    refine x_assign ?_
    refine e_callD W.S gl_fn169 fn169 ?_
    refine args_c ?_
    refine e_loc W (.tail (.tail (.tail (.tail (.tail (.tail (.tail (.tail (.tail (.tail (.tail (.tail (.tail (.tail .head)))))))))))))) ?_
    refine args_nil ⟨W.S, ?_⟩
    refine sheared_call W.S (by omega) hh (by omega) fun t' _ G => ?_
    have W := W.grow G
    refine store W (.tail (.tail (.tail (.tail (.tail (.tail (.tail (.tail (.tail (.tail (.tail (.tail (.tail (.tail .head)))))))))))))) fun _ W => ?_
    refine wpAny_execs_nil ⟨rfl, _, ⟨t', ?_⟩, W⟩
    rw [if_pos hq]
  · have hq : ¬ (77 ∈ be) := by simpa using hq
    exact ⟨_, by rw [if_neg hq]⟩
  obtain ⟨l3t, rfl⟩ := hM
  have hl3 : (if 77 ∈ be then shearL l2 else l2).length ≤ 3607 := by
    split
    · have := shearL_len l2; omega
    · omega
  generalize hL3 : (if 77 ∈ be then shearL l2 else l2) = l3 at *
  refine x_ifU (TB.countGt (c := 80) (n := 1) rfl rfl (.tail (.tail (.tail (.tail (.tail (.tail (.tail .head)))))))) W (fun m2 => ∃ t, m2 = loc1 a D G wh t1 t2 t3 t4 tl pg row vx vh hi (some (.str (tx ea) t5)) (some (.str (tx ah) t6)) (some (.str (tx be) t7)) (some (.str (tx (if 1 < row.count 80 then prepL l3 else l3)) t)) none none) (fun hq _ W => ?_) (fun hq => ?_) fun m2 _ hM W => ?_
  · have hq : 1 < row.count 80 := by simpa using hq
    refine x_assign ?_
    refine e_callD W.S gl_fn162 fn162 ?_
    refine args_c ?_
    refine e_loc W (.tail (.tail (.tail (.tail (.tail (.tail (.tail (.tail (.tail (.tail (.tail (.tail (.tail (.tail .head)))))))))))))) ?_
    refine args_nil ⟨W.S, ?_⟩
    refine prepared_call W.S (by omega) hh (by omega) fun t' _ G => ?_
    have W := W.grow G
    refine store W (.tail (.tail (.tail (.tail (.tail (.tail (.tail (.tail (.tail (.tail (.tail (.tail (.tail (.tail .head)))))))))))))) fun _ W => ?_
    refine wpAny_execs_nil ⟨rfl, _, ⟨t', ?_⟩, W⟩
    rw [if_pos hq]
  · have hq : ¬ (1 < row.count 80) := by simpa using hq
    exact ⟨_, by rw [if_neg hq]⟩
  obtain ⟨l4t, rfl⟩ := hM
  have hl4 : (if 1 < row.count 80 then prepL l3 else l3).length ≤ 10821 := by
    split
    · have := prepL_len l3; omega
    · omega
  generalize hL4 : (if 1 < row.count 80 then prepL l3 else l3) = l4 at *
  have hleft : leftL wh tl row = l4 := by
    unfold leftL
    rw [hE]
    dsimp only
    rw [hA, hB, hL1, hL2, hL3, hL4]
  have hj : judge wh tl row pg = (if pg ≠ wrL (entN wh) (row.count 88) (smallB row) l4 then false else parenL pg == cancL (if hi = true then l4 else shearL l4)) := by
    unfold judge
    rw [hleft, hH]
  refine x_assign ?_
  refine e_small (c := 80) (d := 88) rfl rfl rfl W (by omega) (.tail (.tail (.tail (.tail (.tail (.tail (.tail .head))))))) fun _ W => ?_
  refine store W (.tail (.tail (.tail (.tail (.tail (.tail (.tail (.tail (.tail (.tail (.tail (.tail (.tail (.tail (.tail .head))))))))))))))) fun _ W => ?_
  rw [show (decide (88 ∈ row) && decide (80 ∈ row.dropWhile (· != 88))) = smallB row from rfl] at W
  refine x_if ?_
  refine wpAny_isTrue_Compare1 ?_
  refine e_loc W (.tail (.tail (.tail (.tail (.tail (.tail .head)))))) ?_
  refine e_callD W.S gl_fn183 fn183 ?_
  refine args_c ?_
  refine e_loc W (.tail (.tail (.tail (.tail (.tail (.tail (.tail (.tail (.tail (.tail (.tail (.tail (.tail (.tail .head)))))))))))))) ?_
  refine args_c ?_
  refine e_loc W (.tail (.tail (.tail .head))) ?_
  refine args_c ?_
  refine e_count (c := 88) rfl W (.tail (.tail (.tail (.tail (.tail (.tail (.tail .head))))))) fun tc _ W => ?_
  refine args_c ?_
  refine e_loc W (.tail (.tail (.tail (.tail (.tail (.tail (.tail (.tail (.tail (.tail (.tail (.tail (.tail (.tail (.tail .head))))))))))))))) ?_
  refine args_nil ⟨W.S, ?_⟩
  refine written_call W.S (by omega) hh (by omega) hwh hX fun tw _ G => ?_
  have W := W.grow G
  refine PyProof.Rows.ne_str (wpAny_truthy_bool ?_)
  by_cases hne : pg = wrL (entN wh) (row.count 88) (smallB row) l4
  · rw [if_neg (by simpa using hne)] at hj
    rw [show (tx pg != tx (wrL (entN wh) (row.count 88) (smallB row) l4)) = false by rw [← hne]; simp]
    refine wpAny_execs_nil ?_
    refine x_assign ?_
    refine e_ifS (l1 := l4) (l2 := shearL l4) (TB.loc (.tail (.tail (.tail (.tail (.tail (.tail (.tail (.tail (.tail (.tail .head))))))))))) W (fun _ _ W => ?_) (fun _ _ W => ?_) fun t9 _ W => ?_
    · exact e_loc W (.tail (.tail (.tail (.tail (.tail (.tail (.tail (.tail (.tail (.tail (.tail (.tail (.tail (.tail .head)))))))))))))) ⟨_, rfl, W⟩
    · refine e_callD W.S gl_fn169 fn169 ?_
      refine args_c ?_
      refine e_loc W (.tail (.tail (.tail (.tail (.tail (.tail (.tail (.tail (.tail (.tail (.tail (.tail (.tail (.tail .head)))))))))))))) ?_
      refine args_nil ⟨W.S, ?_⟩
      exact sheared_call W.S (by omega) hh (by omega) fun t' _ G => ⟨t', rfl, W.grow G⟩
    refine store W (.tail (.tail (.tail (.tail (.tail (.tail (.tail (.tail (.tail (.tail (.tail (.tail (.tail (.tail (.tail (.tail .head)))))))))))))))) fun _ W => ?_
    have hsh : (if hi = true then l4 else shearL l4).length ≤ 30000 := by
      split
      · omega
      · have := shearL_len l4; omega
    refine x_ret ?_
    refine wpAny_Compare1 ?_
    refine e_callD W.S gl_fn35 fn35 ?_
    refine args_c ?_
    refine e_loc W (.tail (.tail (.tail (.tail (.tail (.tail .head)))))) ?_
    refine args_nil ⟨W.S, ?_⟩
    refine paren_call W.S (by omega) hh hpg fun _ G => ?_
    have W := W.grow G
    refine e_callD W.S gl_fn176 fn176 ?_
    refine args_c ?_
    refine e_loc W (.tail (.tail (.tail (.tail (.tail (.tail (.tail (.tail (.tail (.tail (.tail (.tail (.tail (.tail (.tail (.tail .head)))))))))))))))) ?_
    refine args_nil ⟨W.S, ?_⟩
    refine cancels_call W.S (by omega) hh (by omega) fun _ G => ?_
    have W := W.grow G
    refine wpAny_is_plain rfl ?_
    rw [show ∀ a b : Bool, (Value.bool a == Value.bool b) = (a == b) by decide]
    have := hfin _ W.grown
    rw [hj] at this
    exact this
  · rw [if_pos hne] at hj
    rw [show (tx pg != tx (wrL (entN wh) (row.count 88) (smallB row) l4)) = true by show (!(tx pg == tx _)) = true; rw [tx_ne hne]; rfl]
    refine x_ret ?_
    refine Constant_bool ?_
    have := hfin _ W.grown
    rw [hj] at this
    exact this
end
end Mine

end
section
open PySem PySem.W PyProof.Rows PySem.Calls PyProof.V
set_option Elab.async false
set_option maxRecDepth 100000
namespace Mine
noncomputable section
variable {w : World} {A : Around} {E : Value → Shared → Prop} {s₀ s : Shared} {L : Addr} {m m' : Loc} {N : List (Addr × Obj)} {nm : Str} {sc : Scope} {f : Addr} {cd : Value}

/-- what the walk asks of the plain law -/
structure Fits (script : List Int) : Prop where
  text : (textOf (cellsOf script)).length ≤ 300
  page : ∀ i, (runH (whOf script) (textOf (cellsOf script)) ((evens ((cellsOf script).drop 1)).take i)).2.length ≤ 3000
  fold : ∀ i, ∀ c ∈ (runH (whOf script) (textOf (cellsOf script)) ((evens ((cellsOf script).drop 1)).take i)).2, (foldL c).length ≤ 4
theorem stepH_row (wh : Nat) (st : List Nat × List Nat) (x : Nat) : (stepH wh st x).1.length ≤ st.1.length + 1 ∧ (st.1.count 88 ≤ 2 → (stepH wh st x).1.count 88 ≤ 2) := by
  unfold stepH
  split
  · exact ⟨Nat.le_succ _, fun h => h⟩
  · rename_i hn
    refine ⟨by simp, fun h => ?_⟩
    show (st.1 ++ [handC x]).count 88 ≤ 2
    rw [List.count_append]
    by_cases h8 : handC x = 88
    · have : st.1.count 88 ≠ 2 := fun e => hn (.inr ⟨h8, e⟩)
      rw [h8]
      have : [88].count 88 = 1 := rfl
      omega
    · have : [handC x].count 88 = 0 := by rw [List.count_cons]; simp [h8]
      omega
theorem foldH_row (wh : Nat) : ∀ (xs : List Nat) (st : List Nat × List Nat), (xs.foldl (stepH wh) st).1.length ≤ st.1.length + xs.length ∧ (st.1.count 88 ≤ 2 → (xs.foldl (stepH wh) st).1.count 88 ≤ 2)
  | [], st => ⟨Nat.le_refl _, fun h => h⟩
  | x :: r, st => by
    have h1 := foldH_row wh r (stepH wh st x)
    have h2 := stepH_row wh st x
    rw [List.foldl_cons, List.length_cons]
    exact ⟨by omega, fun h => h1.2 (h2.2 h)⟩
theorem runH_row (wh : Nat) (t xs : List Nat) : (runH wh t xs).1.length ≤ xs.length ∧ (runH wh t xs).1.count 88 ≤ 2 := by
  have h := foldH_row wh xs ([], t)
  exact ⟨by have := h.1; simp only [List.length_nil] at this; unfold runH; omega, h.2 (by simp)⟩
theorem law_call {R : Result → Shared → Prop} {script : List Int} {a : Addr} {vs : List Value} (S : Stands w s.heap) (hroom : A.depth + 5 < recursionLimit) (hh : A.handled = none) (hl : s.heap.IsList a vs.toArray) (hi : IntsAre vs script) (hn : script.length ≤ 63)
    (hf : Fits script) (h : ∀ s', Grown s s' → R (.ok (.ret (.bool (lawV script)))) s') : codeAny (model pw w) A (.call (.ref 188) ⟨[.ref a], []⟩) R s := by
  have hel : (evens ((cellsOf script).drop 1)).length ≤ 18 := by
    have h1 := evens_take_le ((cellsOf script).drop 1)
    rw [List.length_drop, cellsOf_len] at h1
    omega
  refine law_head S (by omega) hh hl hi hn (Nat.le_trans hf.text (by decide)) fun cd D G o cv t1 t2 t3 t4 s' hcv hlo W => ?_
  refine law_loop (A := A.deeper (envOf "law" (fnS 23) s.heap.objs.size 188 cd)) hh (by show A.depth + 1 + 3 < _; omega) (whOf_lt script) hcv hlo (cellsOf_len script) hf.page hf.fold (fun i => ?_) W fun t3 t4 vx vh s' W => ?_
  · have := (runH_row (whOf script) (textOf (cellsOf script)) ((evens ((cellsOf script).drop 1)).take i)).1
    rw [List.length_take] at this
    omega
  · have hp := hf.page (evens ((cellsOf script).drop 1)).length
    rw [List.take_length] at hp
    refine law_tail (A := A.deeper (envOf "law" (fnS 23) s.heap.objs.size 188 cd)) hh (by show A.depth + 1 + 4 < _; omega) (whOf_lt script) hf.text hp ?_ (runH_row _ _ _).2 W fun s' G => ?_
    · have := (runH_row (whOf script) (textOf (cellsOf script)) (evens ((cellsOf script).drop 1))).1
      omega
    · exact h s' G
end
end Mine

end
section
open PySem PySem.W PyProof.Rows PySem.Calls PyProof.V
set_option Elab.async false
set_option maxRecDepth 100000
namespace Mine
noncomputable section

/-! ### shearing, as one pass -/
noncomputable def nextE (e : Bool) (c : Nat) : Bool := decide (c = 92) && !e
noncomputable def closeQ : Bool → List Nat → Option (List Nat)
  | _, [] => none
  | e, c :: r => if c = 34 ∧ e = false then some r else closeQ (nextE e c) r
theorem closeQ_len : ∀ (l : List Nat) (e : Bool) (r : List Nat), closeQ e l = some r → r.length < l.length
  | [], _, _, h => by cases h
  | c :: l, e, r, h => by
    unfold closeQ at h
    split at h
    · cases h; exact Nat.lt_succ_self _
    · exact Nat.lt_succ_of_lt (closeQ_len l _ r h)
noncomputable def shN : Nat → Bool → List Nat → List Nat
  | 0, _, l => l
  | _, _, [] => []
  | n + 1, e, c :: r => if c = 34 ∧ e = false then (match closeQ false r with | some r' => shN n false r' | none => c :: r) else c :: shN n (nextE e c) r
noncomputable def sh (e : Bool) (l : List Nat) : List Nat := shN l.length e l
theorem shN_ge : ∀ (n : Nat) (l : List Nat) (e : Bool), l.length ≤ n → shN n e l = sh e l := by
  intro n
  induction n using Nat.strongRecOn with
  | _ n ih =>
    intro l e h
    match n, l with
    | 0, [] => rfl
    | n + 1, [] => rfl
    | 0, c :: r => simp at h
    | n + 1, c :: r =>
      simp only [List.length_cons] at h
      show (if c = 34 ∧ e = false then (match closeQ false r with | some r' => shN n false r' | none => c :: r) else c :: shN n (nextE e c) r) =
        (if c = 34 ∧ e = false then (match closeQ false r with | some r' => shN r.length false r' | none => c :: r) else c :: shN r.length (nextE e c) r)
      split
      · cases hc : closeQ false r with
        | none => rfl
        | some r' =>
          have := closeQ_len r false r' hc
          dsimp only
          rw [ih n (Nat.lt_succ_self n) r' false (by omega)]
          rcases Nat.lt_or_ge r.length (n + 1) with h1 | h1
          · rw [ih r.length h1 r' false (by omega)]
          · omega
      · rw [ih n (Nat.lt_succ_self n) r _ (by omega)]; rfl
theorem sh_nil (e : Bool) : sh e [] = [] := rfl
theorem sh_keep {e : Bool} {c : Nat} {r : List Nat} (h : ¬ (c = 34 ∧ e = false)) : sh e (c :: r) = c :: sh (nextE e c) r := by
  show (if c = 34 ∧ e = false then (match closeQ false r with | some r' => shN r.length false r' | none => c :: r) else c :: shN r.length (nextE e c) r) = _
  rw [if_neg h]; rfl
theorem sh_quote {r : List Nat} : sh false (34 :: r) = match closeQ false r with | some r' => sh false r' | none => 34 :: r := by
  show (if 34 = 34 ∧ false = false then (match closeQ false r with | some r' => shN r.length false r' | none => 34 :: r) else 34 :: shN r.length (nextE false 34) r) = _
  rw [if_pos ⟨rfl, rfl⟩]
  cases hc : closeQ false r with
  | none => rfl
  | some r' => exact shN_ge _ _ _ (Nat.le_of_lt (closeQ_len r false r' hc))
/-- induction by length -/
theorem sh_ind {P : Bool → List Nat → Prop} (h0 : ∀ e, P e []) (hk : ∀ e c r, ¬ (c = 34 ∧ e = false) → P (nextE e c) r → P e (c :: r))
    (hn : ∀ r, closeQ false r = none → P false (34 :: r)) (hs : ∀ r r', closeQ false r = some r' → P false r' → P false (34 :: r)) : ∀ l e, P e l := by
  intro l
  generalize hlen : l.length = n
  induction n using Nat.strongRecOn generalizing l with
  | _ n ih =>
    intro e
    cases l with
    | nil => exact h0 e
    | cons c r =>
      simp only [List.length_cons] at hlen
      by_cases hc : c = 34 ∧ e = false
      · obtain ⟨rfl, rfl⟩ := hc
        cases hq : closeQ false r with
        | none => exact hn r hq
        | some r' => exact hs r r' hq (ih r'.length (by have := closeQ_len r false r' hq; omega) r' rfl false)
      · exact hk e c r hc (ih r.length (by omega) r rfl _)
theorem sh_idem (l : List Nat) (e : Bool) : sh e (sh e l) = sh e l := by
  refine sh_ind (P := fun e l => sh e (sh e l) = sh e l) (fun e => rfl) (fun e c r hc ih => ?_) (fun r hq => ?_) (fun r r' hq ih => ?_) l e
  · rw [sh_keep hc, sh_keep hc, ih]
  · rw [sh_quote, hq]
    show sh false (34 :: r) = _
    rw [sh_quote, hq]
  · rw [sh_quote, hq]; exact ih
theorem sh_free (l : List Nat) (e : Bool) (h : 34 ∉ l) : sh e l = l := by
  induction l generalizing e with
  | nil => rfl
  | cons c r ih =>
    have hc : c ≠ 34 := fun e => h (by simp [e])
    rw [sh_keep (fun x => hc x.1), ih _ fun hm => h (List.mem_cons_of_mem _ hm)]
theorem closeQ_mem : ∀ (l : List Nat) (e : Bool) (r : List Nat), closeQ e l = some r → ∀ c ∈ r, c ∈ l
  | [], _, _, h => by cases h
  | c :: l, e, r, h => by
    unfold closeQ at h
    intro d hd
    split at h
    · cases h; exact List.mem_cons_of_mem _ hd
    · exact List.mem_cons_of_mem _ (closeQ_mem l _ r h d hd)
theorem sh_mem (l : List Nat) (e : Bool) : ∀ c ∈ sh e l, c ∈ l := by
  refine sh_ind (P := fun e l => ∀ c ∈ sh e l, c ∈ l) (fun e c h => h) (fun e c r hc ih d hd => ?_) (fun r hq d hd => ?_) (fun r r' hq ih d hd => ?_) l e
  · rw [sh_keep hc] at hd
    rcases List.mem_cons.mp hd with rfl | hd
    · exact List.mem_cons_self
    · exact List.mem_cons_of_mem _ (ih d hd)
  · rw [sh_quote, hq] at hd; exact hd
  · rw [sh_quote, hq] at hd
    exact List.mem_cons_of_mem _ (closeQ_mem r false r' hq d (ih d hd))
theorem sh_len (l : List Nat) (e : Bool) : (sh e l).length ≤ l.length := by
  refine sh_ind (P := fun e l => (sh e l).length ≤ l.length) (fun e => Nat.le_refl _) (fun e c r hc ih => ?_) (fun r hq => ?_) (fun r r' hq ih => ?_) l e
  · rw [sh_keep hc, List.length_cons, List.length_cons]; omega
  · rw [sh_quote, hq]; exact Nat.le_refl _
  · rw [sh_quote, hq]
    have := closeQ_len r false r' hq
    show (sh false r').length ≤ _
    rw [List.length_cons]; omega

/-- what a substitution of signs must keep -/
noncomputable def Good (g : Nat → List Nat) (c : Nat) : Prop := (c = 34 ∧ g c = [34]) ∨ (c = 92 ∧ g c = [92]) ∨ (c ≠ 34 ∧ c ≠ 92 ∧ g c ≠ [] ∧ 34 ∉ g c ∧ 92 ∉ g c)
theorem sh_plain : ∀ (z r : List Nat) (e : Bool), z ≠ [] → 34 ∉ z → 92 ∉ z → sh e (z ++ r) = z ++ sh false r
  | [], _, _, h, _, _ => absurd rfl h
  | [c], r, e, _, h1, h2 => by
    have c1 : c ≠ 34 := fun x => h1 (by simp [x])
    have c2 : c ≠ 92 := fun x => h2 (by simp [x])
    show sh e (c :: r) = c :: sh false r
    rw [sh_keep (fun x => c1 x.1)]
    simp [nextE, c2]
  | c :: d :: z, r, e, _, h1, h2 => by
    have c1 : c ≠ 34 := fun x => h1 (by simp [x])
    show sh e (c :: ((d :: z) ++ r)) = c :: ((d :: z) ++ sh false r)
    rw [sh_keep (fun x => c1 x.1), sh_plain (d :: z) r _ (by simp) (fun h => h1 (List.mem_cons_of_mem _ h)) (fun h => h2 (List.mem_cons_of_mem _ h))]
theorem closeQ_plain : ∀ (z r : List Nat) (e : Bool), z ≠ [] → 34 ∉ z → 92 ∉ z → closeQ e (z ++ r) = closeQ false r
  | [], _, _, h, _, _ => absurd rfl h
  | [c], r, e, _, h1, h2 => by
    have c1 : c ≠ 34 := fun x => h1 (by simp [x])
    have c2 : c ≠ 92 := fun x => h2 (by simp [x])
    show (if c = 34 ∧ e = false then some r else closeQ (nextE e c) r) = _
    rw [if_neg (fun x => c1 x.1)]
    simp [nextE, c2]
  | c :: d :: z, r, e, _, h1, h2 => by
    have c1 : c ≠ 34 := fun x => h1 (by simp [x])
    show (if c = 34 ∧ e = false then some ((d :: z) ++ r) else closeQ (nextE e c) ((d :: z) ++ r)) = _
    rw [if_neg (fun x => c1 x.1), closeQ_plain (d :: z) r _ (by simp) (fun h => h1 (List.mem_cons_of_mem _ h)) (fun h => h2 (List.mem_cons_of_mem _ h))]
theorem closeQ_map (g : Nat → List Nat) : ∀ (l : List Nat) (e : Bool), (∀ c ∈ l, Good g c) → closeQ e (l.flatMap g) = (closeQ e l).map fun r => r.flatMap g
  | [], _, _ => rfl
  | c :: r, e, h => by
    have ih := fun e => closeQ_map g r e fun c hc => h c (List.mem_cons_of_mem _ hc)
    rw [List.flatMap_cons]
    rcases h c List.mem_cons_self with ⟨rfl, hg⟩ | ⟨rfl, hg⟩ | ⟨h1, h2, h3, h4, h5⟩
    · rw [hg]
      show (if 34 = 34 ∧ e = false then some (r.flatMap g) else closeQ (nextE e 34) (r.flatMap g)) = (if 34 = 34 ∧ e = false then some r else closeQ (nextE e 34) r).map fun r => r.flatMap g
      split
      · rfl
      · exact ih _
    · rw [hg]
      show (if 92 = 34 ∧ e = false then some (r.flatMap g) else closeQ (nextE e 92) (r.flatMap g)) = (if 92 = 34 ∧ e = false then some r else closeQ (nextE e 92) r).map fun r => r.flatMap g
      rw [if_neg (by simp), if_neg (by simp)]
      exact ih _
    · rw [closeQ_plain _ _ _ h3 h4 h5, ih]
      show _ = (if c = 34 ∧ e = false then some r else closeQ (nextE e c) r).map fun r => r.flatMap g
      rw [if_neg (fun x => h1 x.1)]
      simp [nextE, h2]
theorem sh_map (g : Nat → List Nat) (l : List Nat) (e : Bool) : (∀ c ∈ l, Good g c) → sh e (l.flatMap g) = (sh e l).flatMap g := by
  refine sh_ind (P := fun e l => (∀ c ∈ l, Good g c) → sh e (l.flatMap g) = (sh e l).flatMap g) (fun e _ => rfl) (fun e c r hc ih h => ?_) (fun r hq h => ?_) (fun r r' hq ih h => ?_) l e
  · have ih := ih fun c hc => h c (List.mem_cons_of_mem _ hc)
    rw [sh_keep hc, List.flatMap_cons, List.flatMap_cons, ← ih]
    rcases h c List.mem_cons_self with ⟨rfl, hg⟩ | ⟨rfl, hg⟩ | ⟨h1, h2, h3, h4, h5⟩
    · rw [hg]; exact sh_keep hc
    · rw [hg]; exact sh_keep hc
    · rw [sh_plain _ _ _ h3 h4 h5]
      simp [nextE, h2]
  · have hg : g 34 = [34] := by
      rcases h 34 List.mem_cons_self with ⟨_, hg⟩ | ⟨hg, _⟩ | ⟨h1, _⟩
      · exact hg
      · cases hg
      · exact absurd rfl h1
    have hm := closeQ_map g r false fun c hc => h c (List.mem_cons_of_mem _ hc)
    rw [List.flatMap_cons, hg, sh_quote, hq]
    show sh false (34 :: r.flatMap g) = _
    rw [sh_quote, hm, hq]
    show 34 :: r.flatMap g = (34 :: r).flatMap g
    rw [List.flatMap_cons, hg]; rfl
  · have hg : g 34 = [34] := by
      rcases h 34 List.mem_cons_self with ⟨_, hg⟩ | ⟨hg, _⟩ | ⟨h1, _⟩
      · exact hg
      · cases hg
      · exact absurd rfl h1
    have hm := closeQ_map g r false fun c hc => h c (List.mem_cons_of_mem _ hc)
    rw [List.flatMap_cons, hg, sh_quote, hq]
    show sh false (34 :: r.flatMap g) = _
    rw [sh_quote, hm, hq]
    exact ih fun c hc => h c (List.mem_cons_of_mem _ (closeQ_mem r false r' hq c hc))
end
end Mine

end
section
open PySem PySem.W PyProof.Rows PySem.Calls PyProof.V
set_option Elab.async false
set_option maxRecDepth 100000
namespace Mine
noncomputable section

/-! ### _law_sheared is the one pass -/
theorem evens_two {α : Type} (a b : α) (r : List α) : evens (a :: b :: r) = a :: evens r := rfl
theorem evens_app_even {α : Type} : ∀ (a b : List α), a.length % 2 = 0 → evens (a ++ b) = evens a ++ evens b
  | [], _, _ => rfl
  | [_], _, h => by simp at h
  | x :: y :: r, b, h => by
    have := evens_app_even r b (by simp only [List.length_cons] at h; omega)
    show evens (x :: y :: (r ++ b)) = _
    rw [evens_two, evens_two, this]; rfl
noncomputable def par (n : Nat) : Bool := decide (n % 2 = 1)
theorem par_next (run c : Nat) : par (if c = 92 then run + 1 else 0) = nextE (par run) c := by
  unfold par nextE
  by_cases h : c = 92
  · simp only [h, if_true]
    by_cases h2 : run % 2 = 1
    · have : (run + 1) % 2 = 0 := by omega
      simp [h2, this]
    · have : (run + 1) % 2 = 1 := by omega
      simp [h2, this]
  · simp [h]
theorem par_false (run : Nat) : run % 2 = 0 ↔ par run = false := by
  unfold par
  rw [decide_eq_false_iff_not]; omega
theorem shear_gen : ∀ (l : List Nat) (st : Sh),
    (st.init.length % 2 = 0 → (evens (shEnd (l.foldl shStep st))).flatten = (evens st.init).flatten ++ st.last ++ sh (par st.run) l) ∧
    (st.init.length % 2 = 1 → (evens (shEnd (l.foldl shStep st))).flatten = (evens st.init).flatten ++ (match closeQ (par st.run) l with | some r => sh false r | none => 34 :: (st.last ++ l)))
  | [], st => by
    refine ⟨fun h => ?_, fun h => ?_⟩
    · show (evens (shEnd st)).flatten = _
      unfold shEnd
      rw [if_neg (by omega), evens_app_even _ _ h]
      simp [evens, sh_nil]
    · show (evens (shEnd st)).flatten = _
      unfold shEnd
      rw [if_pos (by omega)]
      obtain ⟨pi, p, hpi⟩ : ∃ pi p, st.init = pi ++ [p] := by
        have hne : st.init ≠ [] := by intro e; rw [e] at h; simp at h
        exact ⟨_, _, (List.dropLast_concat_getLast hne).symm⟩
      rw [hpi] at h ⊢
      simp only [List.length_append, List.length_cons, List.length_nil] at h
      have he : pi.length % 2 = 0 := by omega
      simp only [List.dropLast_concat, List.getLast?_append, List.getLast?_singleton, Option.some_or, Option.getD_some]
      rw [evens_app_even _ _ he, evens_app_even _ _ he]
      show (evens pi ++ [p ++ ([34] ++ st.last)]).flatten = (evens pi ++ [p]).flatten ++ (34 :: (st.last ++ []))
      simp
  | c :: l, st => by
    obtain ⟨ih1, ih2⟩ := shear_gen l (shStep st c)
    rw [List.foldl_cons]
    by_cases hc : c = 34 ∧ st.run % 2 = 0
    · have hs : shStep st c = ⟨st.init ++ [st.last], [], 0⟩ := by
        unfold shStep
        rw [if_pos hc]
        simp [hc.1]
      rw [hs] at ih1 ih2 ⊢
      obtain ⟨rfl, hr⟩ := hc
      have hp := (par_false _).mp hr
      refine ⟨fun h => ?_, fun h => ?_⟩
      · rw [ih2 (by simp; omega), hp, sh_quote, evens_app_even _ _ h]
        show (evens st.init ++ [st.last]).flatten ++ (match closeQ (par 0) l with | some r => sh false r | none => 34 :: ([] ++ l)) = _
        rw [show par 0 = false from rfl]
        cases closeQ false l <;> simp
      · rw [ih1 (by simp; omega)]
        have hq : closeQ (par st.run) (34 :: l) = some l := by
          rw [hp]; rfl
        rw [hq]
        obtain ⟨pi, p, hpi⟩ : ∃ pi p, st.init = pi ++ [p] := by
          have hne : st.init ≠ [] := by intro e; rw [e] at h; simp at h
          exact ⟨_, _, (List.dropLast_concat_getLast hne).symm⟩
        rw [hpi] at h ⊢
        simp only [List.length_append, List.length_cons, List.length_nil] at h
        have he : pi.length % 2 = 0 := by omega
        show (evens ((pi ++ [p]) ++ [st.last])).flatten ++ [] ++ sh (par 0) l = _
        rw [show pi ++ [p] ++ [st.last] = pi ++ [p, st.last] by simp, evens_app_even _ _ he, evens_app_even _ _ he]
        show (evens pi ++ [p]).flatten ++ [] ++ sh false l = (evens pi ++ [p]).flatten ++ sh false l
        simp
    · have hs : shStep st c = ⟨st.init, st.last ++ [c], if c = 92 then st.run + 1 else 0⟩ := by
        unfold shStep
        rw [if_neg hc]
      rw [hs] at ih1 ih2 ⊢
      have hk : ¬ (c = 34 ∧ par st.run = false) := fun h => hc ⟨h.1, (par_false _).mpr h.2⟩
      refine ⟨fun h => ?_, fun h => ?_⟩
      · rw [ih1 h, sh_keep hk]
        show _ ++ (st.last ++ [c]) ++ sh (par (if c = 92 then st.run + 1 else 0)) l = _
        rw [par_next]; simp
      · rw [ih2 h]
        have hq : closeQ (par st.run) (c :: l) = closeQ (nextE (par st.run) c) l := by
          show (if c = 34 ∧ par st.run = false then some l else closeQ (nextE (par st.run) c) l) = _
          rw [if_neg hk]
        rw [hq]
        show _ ++ (match closeQ (par (if c = 92 then st.run + 1 else 0)) l with | some r => sh false r | none => 34 :: (st.last ++ [c] ++ l)) = _
        rw [par_next]
        cases closeQ (nextE (par st.run) c) l <;> simp
theorem shearL_eq (l : List Nat) : shearL l = sh false l := by
  have := (shear_gen l ⟨[], [], 0⟩).1 rfl
  unfold shearL shOf
  rw [this]
  show [] ++ [] ++ sh (par 0) l = _
  simp [par]
end
end Mine

end
section
open PySem PySem.W PyProof.Rows PySem.Calls PyProof.V
set_option Elab.async false
set_option maxRecDepth 100000
namespace Mine
noncomputable section

/-! ### the program's strip is the one pass -/
theorem take_drop_split (l : List Nat) (i start : Nat) (h : start ≤ i) : (l.take i).drop start ++ l.drop i = l.drop start := by
  conv => rhs; rw [← List.take_append_drop i l]
  by_cases hi : i ≤ l.length
  · rw [List.drop_append_of_le_length (by rw [List.length_take]; omega)]
  · rw [List.drop_eq_nil_of_le (as := l) (i := i) (by omega), List.append_nil, List.append_nil]
theorem take_snoc_drop (l : List Nat) (i start c : Nat) (h : start ≤ i) (hc : l[i]? = some c) : (l.take (i + 1)).drop start = (l.take i).drop start ++ [c] := by
  have hi : i < l.length := (List.getElem?_eq_some_iff.mp hc).1
  rw [List.take_add_one, hc]
  rw [List.drop_append_of_le_length (by rw [List.length_take]; omega)]
  rfl
theorem closeQ_cons (e : Bool) (c : Nat) (r : List Nat) : closeQ e (c :: r) = if c = 34 ∧ e = false then some r else closeQ (nextE e c) r := rfl
theorem strip_gen (l : List Nat) : ∀ (r : List Nat) (i : Nat) (e : Bool), l.drop i = r → i ≤ l.length →
    (∀ start out, start ≤ i → (spEnd l ((escItems i e r).foldl (spStep l) ⟨start, none, out⟩)).flatten = out.flatten ++ (l.take i).drop start ++ sh e r) ∧
    (∀ start o out, start ≤ o → o ≤ i → (spEnd l ((escItems i e r).foldl (spStep l) ⟨start, some o, out⟩)).flatten =
      match closeQ e r with | some r' => out.flatten ++ (l.take o).drop start ++ sh false r' | none => out.flatten ++ l.drop start)
  | [], i, e, hr, hi => by
    have hil : i = l.length := Nat.le_antisymm hi (List.drop_eq_nil_iff.mp hr)
    have hend : ∀ st : Sp, (spEnd l st).flatten = st.out.flatten ++ l.drop st.start := fun st => by
      unfold spEnd
      split
      · simp
      · rw [List.drop_eq_nil_of_le (by omega), List.append_nil]
    have hno : ∀ st : Sp, (escItems i e []).foldl (spStep l) st = st := fun st => by
      cases e with
      | false => rfl
      | true => show spStep l st (i - 1, [92]) = st; simp [spStep]
    refine ⟨fun start out hs => ?_, fun start o out hs ho => ?_⟩
    · rw [hno, hend]
      rw [hil, List.take_length, sh_nil, List.append_nil]
    · rw [hno, hend]; rfl
  | c :: r, i, e, hr, hi => by
    have hlt : i < l.length := by
      rcases Nat.lt_or_ge i l.length with h | h
      · exact h
      · rw [List.drop_eq_nil_of_le h] at hr; cases hr
    have hci : l[i]? = some c := by
      rw [List.drop_eq_getElem_cons hlt] at hr
      cases hr
      exact List.getElem?_eq_getElem hlt
    have hr' : l.drop (i + 1) = r := by
      rw [List.drop_eq_getElem_cons hlt] at hr
      cases hr; rfl
    obtain ⟨f1, f2⟩ := strip_gen l r (i + 1) false hr' hlt
    obtain ⟨g1, g2⟩ := strip_gen l r (i + 1) true hr' hlt
    cases e with
    | true =>
      have hst : ∀ st : Sp, (escItems i true (c :: r)).foldl (spStep l) st = (escItems (i + 1) false r).foldl (spStep l) st := fun st => by
        show (escItems (i + 1) false r).foldl (spStep l) (spStep l st (i, [92, c])) = _
        rw [show spStep l st (i, [92, c]) = st by simp [spStep]]
      refine ⟨fun start out hs => ?_, fun start o out hs ho => ?_⟩
      · rw [hst, f1 start out (by omega), take_snoc_drop l i start c hs hci, sh_keep (by simp)]
        simp [nextE]
      · rw [hst, f2 start o out hs (by omega)]
        rw [closeQ_cons]
        rw [if_neg (by simp)]
        simp [nextE]
    | false =>
      by_cases h92 : c = 92
      · subst h92
        have hst : ∀ st : Sp, (escItems i false (92 :: r)).foldl (spStep l) st = (escItems (i + 1) true r).foldl (spStep l) st := fun st => rfl
        refine ⟨fun start out hs => ?_, fun start o out hs ho => ?_⟩
        · rw [hst, g1 start out (by omega), take_snoc_drop l i start 92 hs hci, sh_keep (by simp)]
          simp [nextE]
        · rw [hst, g2 start o out hs (by omega)]
          rw [closeQ_cons]
          rw [if_neg (by simp)]
          simp [nextE]
      · have hes : escItems i false (c :: r) = (i, [c]) :: escItems (i + 1) false r := by simp [escItems, h92]
        by_cases h34 : c = 34
        · subst h34
          refine ⟨fun start out hs => ?_, fun start o out hs ho => ?_⟩
          · rw [hes]
            show (spEnd l ((escItems (i + 1) false r).foldl (spStep l) (spStep l ⟨start, none, out⟩ (i, [34])))).flatten = _
            rw [show spStep l ⟨start, none, out⟩ (i, [34]) = ⟨start, some i, out⟩ by simp [spStep]]
            rw [f2 start i out hs (by omega), sh_quote]
            cases hq : closeQ false r with
            | some r' => rfl
            | none =>
              show out.flatten ++ l.drop start = out.flatten ++ (l.take i).drop start ++ (34 :: r)
              rw [← hr, List.append_assoc, take_drop_split l i start hs]
          · rw [hes]
            show (spEnd l ((escItems (i + 1) false r).foldl (spStep l) (spStep l ⟨start, some o, out⟩ (i, [34])))).flatten = _
            rw [show spStep l ⟨start, some o, out⟩ (i, [34]) = ⟨i + 1, none, if start ≠ o then out ++ [(l.take o).drop start] else out⟩ by simp [spStep]]
            rw [f1 (i + 1) _ (Nat.le_refl _)]
            rw [closeQ_cons]
            rw [if_pos (show (34 : Nat) = 34 ∧ false = false from ⟨rfl, rfl⟩)]
            show _ = out.flatten ++ (l.take o).drop start ++ sh false r
            rw [List.drop_eq_nil_of_le (as := l.take (i + 1)) (by rw [List.length_take]; omega), List.append_nil]
            congr 1
            split
            · simp
            · rename_i h
              have : start = o := by simpa using h
              rw [this, List.drop_eq_nil_of_le (by rw [List.length_take]; omega), List.append_nil]
        · have hno : ∀ st : Sp, spStep l st (i, [c]) = st := fun st => by simp [spStep, h34]
          refine ⟨fun start out hs => ?_, fun start o out hs ho => ?_⟩
          · rw [hes, List.foldl_cons, hno, f1 start out (by omega), take_snoc_drop l i start c hs hci, sh_keep (by simp [h34])]
            simp [nextE, h92]
          · rw [hes, List.foldl_cons, hno, f2 start o out hs (by omega)]
            rw [closeQ_cons]
            rw [if_neg (by simp [h34])]
            simp [nextE, h92]
theorem stripL_eq (l : List Nat) : stripL l = sh false l := by
  unfold stripL
  split
  · have := (strip_gen l l 0 false rfl (Nat.zero_le _)).1 0 [] (Nat.le_refl _)
    rw [this]; simp
  · rename_i h
    rw [sh_free l false h]

/-! ### brackets -/
noncomputable def bare : Bool → List Nat → List Nat
  | _, [] => []
  | e, c :: r => (if (c = 40 ∨ c = 41) ∧ e = false then [c] else []) ++ bare (nextE e c) r
theorem ca_gen : ∀ (l : List Nat) (st : Ca), (l.foldl caStep st).bare = st.bare ++ bare (par st.run) l
  | [], st => by simp [bare]
  | c :: r, st => by
    rw [List.foldl_cons, ca_gen r]
    unfold caStep
    dsimp only
    rw [par_next]
    show _ = st.bare ++ ((if (c = 40 ∨ c = 41) ∧ par st.run = false then [c] else []) ++ bare (nextE (par st.run) c) r)
    by_cases h : (c = 40 ∨ c = 41) ∧ st.run % 2 = 0
    · rw [if_pos h, if_pos ⟨h.1, (par_false _).mp h.2⟩]; simp
    · rw [if_neg h, if_neg fun x => h ⟨x.1, (par_false _).mpr x.2⟩]; simp
theorem cancL_eq (l : List Nat) : cancL l = decide (scan 0 (bare false l) = some 0) := by
  unfold cancL caOf
  rw [ca_gen]
  show decide (scan 0 ([] ++ bare (par 0) l) = some 0) = _
  rw [List.nil_append]; rfl
theorem pa_gen : ∀ (r : List Nat) (i : Nat) (e : Bool) (k : Nat), (escItems i e r).foldl paStep (some k) = scan k (bare e r)
  | [], i, true, k => by simp [escItems, paStep, bare, scan]
  | [], i, false, k => rfl
  | c :: r, i, true, k => by
    have h := pa_gen r (i + 1) false k
    show (escItems (i + 1) false r).foldl paStep (paStep (some k) (i, [92, c])) = _
    rw [show paStep (some k) (i, [92, c]) = some k by simp [paStep], h]
    simp [bare, nextE]
  | c :: r, i, false, k => by
    by_cases h92 : c = 92
    · subst h92
      have h := pa_gen r (i + 1) true k
      show (escItems (i + 1) true r).foldl paStep (some k) = _
      rw [h]
      simp [bare, nextE]
    · have hes : escItems i false (c :: r) = (i, [c]) :: escItems (i + 1) false r := by simp [escItems, h92]
      rw [hes, List.foldl_cons]
      by_cases h40 : c = 40
      · subst h40
        rw [show paStep (some k) (i, [40]) = some (k + 1) by simp [paStep], pa_gen r (i + 1) false (k + 1)]
        show _ = scan k ([40] ++ bare (nextE false 40) r)
        simp [scan, nextE]
      · by_cases h41 : c = 41
        · subst h41
          by_cases hk : k = 0
          · rw [show paStep (some k) (i, [41]) = none by simp [paStep, hk], paFold_none]
            show _ = scan k ([41] ++ bare (nextE false 41) r)
            simp [scan, hk]
          · rw [show paStep (some k) (i, [41]) = some (k - 1) by simp [paStep, hk], pa_gen r (i + 1) false (k - 1)]
            show _ = scan k ([41] ++ bare (nextE false 41) r)
            simp [scan, nextE, hk]
        · rw [show paStep (some k) (i, [c]) = some k by simp [paStep, h40, h41], pa_gen r (i + 1) false k]
          simp [bare, nextE, h40, h41, h92]
theorem parenL_eq (l : List Nat) : parenL l = cancL (shearL l) := by
  unfold parenL
  rw [stripL_eq, shearL_eq, cancL_eq, pa_gen]
/-- a substitution that keeps the brackets -/
noncomputable def GoodB (g : Nat → List Nat) (c : Nat) : Prop := ((c = 40 ∨ c = 41 ∨ c = 92) ∧ g c = [c]) ∨ (c ≠ 40 ∧ c ≠ 41 ∧ c ≠ 92 ∧ g c ≠ [] ∧ 40 ∉ g c ∧ 41 ∉ g c ∧ 92 ∉ g c)
theorem bare_plain : ∀ (z r : List Nat) (e : Bool), z ≠ [] → 40 ∉ z → 41 ∉ z → 92 ∉ z → bare e (z ++ r) = bare false r
  | [], _, _, h, _, _, _ => absurd rfl h
  | [c], r, e, _, h1, h2, h3 => by
    have c1 : c ≠ 40 := fun x => h1 (by simp [x])
    have c2 : c ≠ 41 := fun x => h2 (by simp [x])
    have c3 : c ≠ 92 := fun x => h3 (by simp [x])
    show bare e (c :: r) = _
    simp [bare, nextE, c1, c2, c3]
  | c :: d :: z, r, e, _, h1, h2, h3 => by
    have c1 : c ≠ 40 := fun x => h1 (by simp [x])
    have c2 : c ≠ 41 := fun x => h2 (by simp [x])
    show (if (c = 40 ∨ c = 41) ∧ e = false then [c] else []) ++ bare (nextE e c) ((d :: z) ++ r) = _
    rw [bare_plain (d :: z) r _ (by simp) (fun h => h1 (List.mem_cons_of_mem _ h)) (fun h => h2 (List.mem_cons_of_mem _ h)) (fun h => h3 (List.mem_cons_of_mem _ h)), if_neg (by simp [c1, c2])]
    rfl
theorem bare_map (g : Nat → List Nat) : ∀ (l : List Nat) (e : Bool), (∀ c ∈ l, GoodB g c) → bare e (l.flatMap g) = bare e l
  | [], _, _ => rfl
  | c :: r, e, h => by
    have ih := fun e => bare_map g r e fun c hc => h c (List.mem_cons_of_mem _ hc)
    rw [List.flatMap_cons]
    rcases h c List.mem_cons_self with ⟨_, hg⟩ | ⟨h1, h2, h3, h4, h5, h6, h7⟩
    · rw [hg]
      show (if (c = 40 ∨ c = 41) ∧ e = false then [c] else []) ++ bare (nextE e c) (r.flatMap g) = (if (c = 40 ∨ c = 41) ∧ e = false then [c] else []) ++ bare (nextE e c) r
      rw [ih]
    · rw [bare_plain _ _ _ h4 h5 h6 h7, ih]
      simp [bare, nextE, h1, h2, h3]
end
end Mine

end
section
open PySem PySem.W PyProof.Rows PySem.Calls PyProof.V
set_option Elab.async false
set_option maxRecDepth 100000
namespace Mine
noncomputable section

/-! ### the alphabet -/
noncomputable def sigA : List Nat := [34, 92, 40, 41, 38, 60, 62, 13, 10, 9, 7838, 1017, 1010, 963, 46] ++ ligL ++ List.range' 97 26
noncomputable def sigM : List Nat := firstsL.flatMap fun f => List.range' f 26
noncomputable def sig1 : List Nat := sigA ++ sigM
noncomputable def sig : List Nat := nothL ++ sig1
noncomputable def sigE : List Nat := [59, 35] ++ List.range' 48 10
noncomputable def sigX : List Nat := sig ++ sigE
noncomputable def memb (l : List Nat) (c : Nat) : Bool := l.any (Nat.beq c)
theorem memb_iff {l : List Nat} {c : Nat} : memb l c = true ↔ c ∈ l := by
  unfold memb
  rw [List.any_eq_true]
  exact ⟨fun ⟨x, hx, h⟩ => by rw [Nat.eq_of_beq_eq_true h]; exact hx, fun h => ⟨c, h, by simp⟩⟩
noncomputable def okPrep (c : Nat) : Bool := (prep1 c).all (memb sig1) && (((prep1 c).flatMap prep1).flatMap prep1 == (prep1 c).flatMap prep1)
theorem prep_sig : sig.all okPrep = true := by decide +kernel

/-! the table of exceptions, walked once -/
noncomputable def sigK1 : List Nat := 1010 :: ligL
noncomputable def sigK2 : List Nat := (firstsL.drop 1).flatMap fun f => List.range' f 26
noncomputable def noK : List Nat := [7838, 1017, 963] ++ nothL
noncomputable def lowS : List Nat := [34, 92, 40, 41, 38, 60, 62, 13, 10, 9, 46] ++ List.range' 97 26 ++ List.range' 65 26 ++ sigE
noncomputable def passF (x : Int × Str) : Bool :=
  decide (181 ≤ x.1) && !(memb noK x.1.toNat) && (if memb sigK1 x.1.toNat || (Nat.ble 119808 x.1.toNat && Nat.blt x.1.toNat 120484) then x.2 == tx (prep1 x.1.toNat) else true)
theorem b3_pass : (b3P.all passF && (sigK2.isSublist (b3P.map fun x => x.1.toNat))) = true := by decide +kernel
theorem b3_k1 : sigK1.all (fun c => memb (b3P.map fun x => x.1.toNat) c) = true := by decide +kernel
noncomputable def okLow (c : Nat) : Bool := (if b1L.contains c then decide ((Txt.lower ⟨#[c]⟩).cps.size ≤ 4) && (prep1 c).isEmpty else (Txt.lower ⟨#[c]⟩).cps.toList == prep1 c)
theorem low_sig : (noK ++ lowS).all okLow = true := by decide +kernel
theorem sig_split : sigX.all (fun c => memb lowS c || memb noK c || memb sigK1 c || Nat.ble 119808 c && memb sigK2 c) = true := by decide +kernel
theorem b3At_some {c : Nat} {v : Str} (h : ((c : Int), v) ∈ b3P) : b3At c = some v := by
  unfold b3At
  have key : ∀ l : List (Int × Str), (l.Pairwise fun a b => a.1 ≠ b.1) → ((c : Int), v) ∈ l → (l.find? fun x => x.1 == (c : Int)) = some ((c : Int), v) := by
    intro l
    induction l with
    | nil => intro _ h; cases h
    | cons x r ih =>
      intro hp hm
      rw [List.find?_cons]
      rcases List.mem_cons.mp hm with e | hm
      · rw [← e]; simp
      · have hne : x.1 ≠ (c : Int) := (List.pairwise_cons.mp hp).1 _ hm
        rw [show (x.1 == (c : Int)) = false by simpa using hne]
        exact ih (List.pairwise_cons.mp hp).2 hm
  rw [key _ b3_apart h]; rfl
theorem b3At_none {c : Nat} (h : ∀ x ∈ b3P, x.1 ≠ (c : Int)) : b3At c = none := by
  unfold b3At
  rw [List.find?_eq_none.mpr fun x hx => by simpa using h x hx]; rfl
theorem b3_pass1 : ∀ x ∈ b3P, passF x = true := List.all_eq_true.mp (Bool.and_eq_true_iff.mp b3_pass).1
theorem b3_181 {x : Int × Str} (hx : x ∈ b3P) : 181 ≤ x.1 ∧ x.1.toNat ∉ noK ∧ ((x.1.toNat ∈ sigK1 ∨ (119808 ≤ x.1.toNat ∧ x.1.toNat < 120484)) → x.2 = tx (prep1 x.1.toNat)) := by
  have h := b3_pass1 x hx
  unfold passF at h
  rw [Bool.and_eq_true, Bool.and_eq_true] at h
  obtain ⟨⟨h1, h2⟩, h3⟩ := h
  refine ⟨of_decide_eq_true h1, fun hm => ?_, fun hk => ?_⟩
  · rw [memb_iff.mpr hm] at h2; cases h2
  · rw [if_pos ?_] at h3
    · exact eq_of_beq h3
    · rcases hk with hk | ⟨h4, h5⟩
      · rw [memb_iff.mpr hk]; rfl
      · rw [Nat.ble_eq.mpr h4, show Nat.blt x.1.toNat 120484 = true from Nat.ble_eq.mpr h5]; simp
theorem keyed {c : Nat} (hk : c ∈ b3P.map fun x => x.1.toNat) (hc : c ∈ sigK1 ∨ (119808 ≤ c ∧ c < 120484)) : foldS c = tx (prep1 c) := by
  obtain ⟨x, hx, he⟩ := List.mem_map.mp hk
  obtain ⟨h1, _, h3⟩ := b3_181 hx
  have e : x.1 = (c : Int) := by omega
  rw [he] at h3
  have : b3At c = some (tx (prep1 c)) := b3At_some (by rw [← h3 hc, ← e]; exact hx)
  unfold foldS
  rw [this]
theorem sub_mem {a b : List Nat} (h : a.isSublist b = true) {c : Nat} (hc : c ∈ a) : c ∈ b := (List.isSublist_iff_sublist.mp h).subset hc
theorem k2_rng : sigK2.all (fun c => Nat.ble 119808 c && Nat.blt c 120484) = true := by decide +kernel
theorem k_b1 : (sigK1 ++ sigK2).all (fun c => !memb b1L c) = true := by decide +kernel
theorem low_181 : lowS.all (fun c => Nat.blt c 181) = true := by decide +kernel
theorem tx_list (l : List Nat) : (tx l).cps.toList = l := by simp
theorem fold_sig {c : Nat} (hc : c ∈ sigX) : (foldL c).length ≤ 4 ∧ (if b1L.contains c then [] else foldL c) = prep1 c := by
  have hs := List.all_eq_true.mp sig_split c hc
  simp only [Bool.or_eq_true, Bool.and_eq_true, memb_iff] at hs
  have hkey : foldS c = tx (prep1 c) → c ∉ b1L → (foldL c).length ≤ 4 ∧ (if b1L.contains c then [] else foldL c) = prep1 c := fun h1 h2 => by
    have e : foldL c = prep1 c := by unfold foldL; rw [h1, tx_list]
    rw [e]
    refine ⟨Nat.le_trans (prep1_len c) (by decide), ?_⟩
    rw [if_neg (by simpa using h2)]
  have hlow : b3At c = none → okLow c = true → (foldL c).length ≤ 4 ∧ (if b1L.contains c then [] else foldL c) = prep1 c := fun h1 h2 => by
    have e : foldL c = (Txt.lower ⟨#[c]⟩).cps.toList := by unfold foldL foldS; rw [h1]
    rw [e]
    unfold okLow at h2
    split at h2
    · rename_i hb
      rw [Bool.and_eq_true] at h2
      refine ⟨by rw [Array.length_toList]; exact of_decide_eq_true h2.1, ?_⟩
      rw [if_pos hb, List.isEmpty_iff.mp h2.2]
    · rename_i hb
      rw [if_neg hb]
      have e2 := eq_of_beq h2
      rw [e2]
      exact ⟨Nat.le_trans (prep1_len c) (by decide), rfl⟩
  have hnb : c ∈ sigK1 ++ sigK2 → c ∉ b1L := fun h hb => by
    have := List.all_eq_true.mp k_b1 c h
    rw [memb_iff.mpr hb] at this; cases this
  rcases hs with ((h | h) | h) | ⟨_, h⟩
  · refine hlow (b3At_none fun x hx e => ?_) (List.all_eq_true.mp low_sig c (List.mem_append_right _ h))
    have h1 := (b3_181 hx).1
    have h2 : c < 181 := Nat.ble_eq.mp (List.all_eq_true.mp low_181 c h)
    omega
  · refine hlow (b3At_none fun x hx e => ?_) (List.all_eq_true.mp low_sig c (List.mem_append_left _ h))
    have h1 := (b3_181 hx).2.1
    rw [e] at h1
    exact h1 h
  · exact hkey (keyed (memb_iff.mp (List.all_eq_true.mp b3_k1 c h)) (.inl h)) (hnb (List.mem_append_left _ h))
  · have hr := List.all_eq_true.mp k2_rng c h
    rw [Bool.and_eq_true] at hr
    exact hkey (keyed (sub_mem (Bool.and_eq_true_iff.mp b3_pass).2 h) (.inr ⟨Nat.ble_eq.mp hr.1, Nat.ble_eq.mp hr.2⟩)) (hnb (List.mem_append_right _ h))
end
end Mine

end
section
open PySem PySem.W PyProof.Rows PySem.Calls PyProof.V
set_option Elab.async false
set_option maxRecDepth 100000
namespace Mine
noncomputable section

noncomputable def keys7 : List Nat := [38, 60, 62, 34, 13, 10, 9]
noncomputable def hidesW (wh : Nat) : Bool := memb [1, 2, 4] wh
noncomputable def goodb (g : Nat → List Nat) (c : Nat) : Bool := (c == 34 && g c == [34]) || (c == 92 && g c == [92]) || (c != 34 && c != 92 && g c != [] && !memb (g c) 34 && !memb (g c) 92)
noncomputable def goodBb (g : Nat → List Nat) (c : Nat) : Bool := ((c == 40 || c == 41 || c == 92) && g c == [c]) || (c != 40 && c != 41 && c != 92 && g c != [] && !memb (g c) 40 && !memb (g c) 41 && !memb (g c) 92)
theorem goodb_iff {g : Nat → List Nat} {c : Nat} (h : goodb g c = true) : Good g c := by
  unfold goodb at h
  simp only [Bool.or_eq_true, Bool.and_eq_true, beq_iff_eq, bne_iff_ne, Bool.not_eq_true'] at h
  rcases h with (⟨h1, h2⟩ | ⟨h1, h2⟩) | ⟨⟨⟨⟨h1, h2⟩, h3⟩, h4⟩, h5⟩
  · exact .inl ⟨h1, h2⟩
  · exact .inr (.inl ⟨h1, h2⟩)
  · exact .inr (.inr ⟨h1, h2, h3, fun hm => (by rw [memb_iff.mpr hm] at h4; cases h4), fun hm => (by rw [memb_iff.mpr hm] at h5; cases h5)⟩)
theorem goodBb_iff {g : Nat → List Nat} {c : Nat} (h : goodBb g c = true) : GoodB g c := by
  unfold goodBb at h
  simp only [Bool.or_eq_true, Bool.and_eq_true, beq_iff_eq, bne_iff_ne, Bool.not_eq_true'] at h
  rcases h with ⟨h1, h2⟩ | ⟨⟨⟨⟨⟨⟨h1, h2⟩, h3⟩, h4⟩, h5⟩, h6⟩, h7⟩
  · exact .inl ⟨by rcases h1 with (h | h) | h <;> simp [h], h2⟩
  · exact .inr ⟨h1, h2, h3, h4, fun hm => (by rw [memb_iff.mpr hm] at h5; cases h5), fun hm => (by rw [memb_iff.mpr hm] at h6; cases h6), fun hm => (by rw [memb_iff.mpr hm] at h7; cases h7)⟩
/-- what is asked of a sign written in k layers -/
structure WOk (wh k : Nat) (small : Bool) (c : Nat) : Prop where
  len : (wr1 (entN wh) k small c).length ≤ 10
  sub : ∀ d ∈ wr1 (entN wh) k small c, d ∈ sigX
  prep : (wr1 (entN wh) k small c).flatMap prep1 = (prep1 c).flatMap (wr1 (entN wh) k true)
  brk : GoodB (wr1 (entN wh) k small) c
  shr : hidesW wh = false → Good (wr1 (entN wh) k small) c
  hid : hidesW wh = true → 34 ∉ wr1 (entN wh) k small c
  e1 : escOf (escTab wh) [c] = wr1 (entN wh) 1 false c
  e2 : escOf (escTab wh) (wr1 (entN wh) 1 small c) = wr1 (entN wh) 2 small c
noncomputable def okW (wh k : Nat) (small : Bool) (c : Nat) : Bool :=
  Nat.ble (wr1 (entN wh) k small c).length 10 && (wr1 (entN wh) k small c).all (memb sigX) && (wr1 (entN wh) k small c).flatMap prep1 == (prep1 c).flatMap (wr1 (entN wh) k true) && goodBb (wr1 (entN wh) k small) c &&
  (if hidesW wh then !memb (wr1 (entN wh) k small c) 34 else goodb (wr1 (entN wh) k small) c) && escOf (escTab wh) [c] == wr1 (entN wh) 1 false c && escOf (escTab wh) (wr1 (entN wh) 1 small c) == wr1 (entN wh) 2 small c
theorem wok_keys : (List.range 5).all (fun wh => [1, 2].all fun k => [true, false].all fun sm => keys7.all fun c => okW wh k sm c) = true := by decide +kernel
theorem wok_of {wh k : Nat} {small : Bool} {c : Nat} (h : okW wh k small c = true) : WOk wh k small c := by
  unfold okW at h
  simp only [Bool.and_eq_true, beq_iff_eq] at h
  obtain ⟨⟨⟨⟨⟨⟨h1, h2⟩, h3⟩, h4⟩, h5⟩, h6⟩, h7⟩ := h
  refine ⟨Nat.ble_eq.mp h1, fun d hd => memb_iff.mp (List.all_eq_true.mp h2 d hd), h3, goodBb_iff h4, fun hw => ?_, fun hw hm => ?_, h6, h7⟩
  · rw [hw] at h5; exact goodb_iff h5
  · rw [hw, if_pos rfl, memb_iff.mpr hm] at h5; cases h5
theorem ent_keys : ∀ wh < 5, ∀ p ∈ entN wh, ∃ d ∈ keys7, p.1 = [d] := by decide
theorem tab_keys : ∀ wh < 5, ∀ d ∈ (escTab wh).map (·.1), d ∈ keys7 := by decide
theorem wr1_free {wh k : Nat} {small : Bool} {c : Nat} (hwh : wh < 5) (hc : c ∉ keys7) : wr1 (entN wh) k small c = [c] := by
  unfold wr1
  rw [List.find?_eq_none.mpr fun p hp => ?_]
  · rfl
  · obtain ⟨d, hd, he⟩ := ent_keys wh hwh p hp
    rw [he]
    intro h
    have : d = c := by simpa using h
    exact hc (this ▸ hd)
theorem prep_free : sig.all (fun c => memb keys7 c || (prep1 c).all fun d => !memb keys7 d) = true := by decide +kernel
theorem flatMap_id {g : Nat → List Nat} : ∀ {l : List Nat}, (∀ c ∈ l, g c = [c]) → l.flatMap g = l
  | [], _ => rfl
  | c :: r, h => by rw [List.flatMap_cons, h c List.mem_cons_self, flatMap_id fun d hd => h d (List.mem_cons_of_mem _ hd)]; rfl
theorem wok {wh k : Nat} {small : Bool} {c : Nat} (hwh : wh < 5) (hk : k = 1 ∨ k = 2) (hc : c ∈ sig) : WOk wh k small c := by
  by_cases hkey : c ∈ keys7
  · have h1 := List.all_eq_true.mp wok_keys wh (List.mem_range.mpr hwh)
    have h2 := List.all_eq_true.mp h1 k (by rcases hk with rfl | rfl <;> simp)
    have h3 := List.all_eq_true.mp h2 small (by cases small <;> simp)
    exact wok_of (List.all_eq_true.mp h3 c hkey)
  · have e : ∀ {k small}, wr1 (entN wh) k small c = [c] := wr1_free hwh hkey
    have hesc : escOf (escTab wh) [c] = [c] := escOf_free _ _ fun h => hkey (tab_keys wh hwh c h)
    have hp := List.all_eq_true.mp prep_free c hc
    rw [Bool.or_eq_true, memb_iff] at hp
    have hp := hp.resolve_left hkey
    refine ⟨by rw [e]; simp, fun d hd => ?_, ?_, ?_, fun _ => ?_, fun _ hm => ?_, by rw [e, hesc], by rw [e, e, hesc]⟩
    · rw [e] at hd
      rw [List.mem_singleton.mp hd]
      exact List.mem_append_left _ hc
    · have e3 : (prep1 c).flatMap (wr1 (entN wh) k true) = prep1 c := by
        refine flatMap_id fun d hd => wr1_free hwh fun hm => ?_
        have := List.all_eq_true.mp hp d hd
        rw [memb_iff.mpr hm] at this; cases this
      rw [e, e3]; simp
    · by_cases hb : c = 40 ∨ c = 41 ∨ c = 92
      · exact .inl ⟨hb, e⟩
      · have h1 : c ≠ 40 := fun x => hb (.inl x)
        have h2 : c ≠ 41 := fun x => hb (.inr (.inl x))
        have h3 : c ≠ 92 := fun x => hb (.inr (.inr x))
        refine .inr ⟨h1, h2, h3, by rw [e]; simp, ?_, ?_, ?_⟩ <;> rw [e] <;> simp <;> omega
    · by_cases h1 : c = 34
      · subst h1; exact .inl ⟨rfl, e⟩
      · by_cases h2 : c = 92
        · subst h2; exact .inr (.inl ⟨rfl, e⟩)
        · refine .inr (.inr ⟨h1, h2, by rw [e]; simp, ?_, ?_⟩) <;> rw [e] <;> simp <;> omega
    · rw [e] at hm
      have : c = 34 := (List.mem_singleton.mp hm).symm
      exact hkey (by rw [this]; decide)
/-! ### preparing -/
noncomputable def okGood (c : Nat) : Bool := goodb prep1 c
theorem prep_good : sig1.all okGood = true := by decide +kernel
theorem prep_sub {c : Nat} (hc : c ∈ sig) : ∀ d ∈ prep1 c, d ∈ sig1 := fun d hd => by
  have h := List.all_eq_true.mp prep_sig c hc
  unfold okPrep at h
  rw [Bool.and_eq_true] at h
  exact memb_iff.mp (List.all_eq_true.mp h.1 d hd)
theorem prepL_sub {l : List Nat} (h : ∀ c ∈ l, c ∈ sig) : ∀ d ∈ prepL l, d ∈ sig1 := fun d hd => by
  obtain ⟨c, hc, hm⟩ := List.mem_flatMap.mp hd
  exact prep_sub (h c hc) d hm
theorem sig1_sig {c : Nat} (h : c ∈ sig1) : c ∈ sig := List.mem_append_right _ h
theorem flatMap_congr' {f g : Nat → List Nat} : ∀ {l : List Nat}, (∀ c ∈ l, f c = g c) → l.flatMap f = l.flatMap g
  | [], _ => rfl
  | c :: r, h => by rw [List.flatMap_cons, List.flatMap_cons, h c List.mem_cons_self, flatMap_congr' fun d hd => h d (List.mem_cons_of_mem _ hd)]
theorem prep_thrice {l : List Nat} (h : ∀ c ∈ l, c ∈ sig) : prepL (prepL (prepL l)) = prepL (prepL l) := by
  have e1 : prepL (prepL l) = l.flatMap (fun c => (prep1 c).flatMap prep1) := by unfold prepL; rw [List.flatMap_assoc]
  have e2 : prepL (prepL (prepL l)) = l.flatMap (fun c => ((prep1 c).flatMap prep1).flatMap prep1) := by rw [e1]; unfold prepL; rw [List.flatMap_assoc]
  rw [e2, e1]
  refine flatMap_congr' fun c hc => ?_
  have h := List.all_eq_true.mp prep_sig c (h c hc)
  unfold okPrep at h
  rw [Bool.and_eq_true] at h
  exact eq_of_beq h.2
theorem prep_shear {l : List Nat} (h : ∀ c ∈ l, c ∈ sig1) : shearL (prepL l) = prepL (shearL l) := by
  rw [shearL_eq, shearL_eq]
  exact sh_map prep1 l false fun c hc => goodb_iff (List.all_eq_true.mp prep_good c (h c hc))
theorem shear_sub {l : List Nat} : ∀ c ∈ shearL l, c ∈ l := by rw [shearL_eq]; exact sh_mem l false
theorem shear_idem (l : List Nat) : shearL (shearL l) = shearL l := by rw [shearL_eq, shearL_eq, sh_idem]
theorem pgP_prep {l : List Nat} (h : ∀ c ∈ l, c ∈ sigX) : pgP l = prepL l := by
  unfold pgP prepL
  rw [← List.flatMap_def]
  induction l with
  | nil => rfl
  | cons c r ih =>
    have hf := (fold_sig (h c List.mem_cons_self)).2
    rw [List.filter_cons, List.flatMap_cons, ← ih fun d hd => h d (List.mem_cons_of_mem _ hd)]
    cases hb : b1L.contains c with
    | true =>
      rw [hb, if_pos rfl] at hf
      rw [if_neg (by simp), ← hf]; rfl
    | false =>
      rw [hb, if_neg (by simp)] at hf
      rw [if_pos (by simp), List.flatMap_cons, hf]
end
end Mine

end
section
open PySem PySem.W PyProof.Rows PySem.Calls PyProof.V
set_option Elab.async false
set_option maxRecDepth 100000
namespace Mine
noncomputable section

theorem tw_mem (c : Nat) : ∀ (l r : List Nat), c ∈ l → (l ++ r).takeWhile (· != c) = l.takeWhile (· != c) ∧ (l ++ r).dropWhile (· != c) = l.dropWhile (· != c) ++ r
  | [], _, h => by cases h
  | a :: l, r, h => by
    by_cases e : a = c
    · subst e; simp
    · have ha : (a != c) = true := by simpa using e
      have hm : c ∈ l := by
        rcases List.mem_cons.mp h with x | x
        · exact absurd x.symm e
        · exact x
      obtain ⟨h1, h2⟩ := tw_mem c l r hm
      simp only [List.cons_append, List.takeWhile_cons, List.dropWhile_cons, ha, if_true, h1, h2]
      exact ⟨trivial, trivial⟩
theorem tw_not (c : Nat) : ∀ (l r : List Nat), c ∉ l → (l ++ r).takeWhile (· != c) = l ++ r.takeWhile (· != c) ∧ (l ++ r).dropWhile (· != c) = r.dropWhile (· != c)
  | [], _, _ => ⟨rfl, rfl⟩
  | a :: l, r, h => by
    have e : a ≠ c := fun e => h (by simp [e])
    have ha : (a != c) = true := by simpa using e
    obtain ⟨h1, h2⟩ := tw_not c l r fun hm => h (List.mem_cons_of_mem _ hm)
    simp only [List.cons_append, List.takeWhile_cons, List.dropWhile_cons, ha, if_true, h1, h2]
    exact ⟨trivial, trivial⟩
theorem tw_drop (c : Nat) (l : List Nat) : l.drop (l.takeWhile (· != c)).length = l.dropWhile (· != c) := by
  have h := List.takeWhile_append_dropWhile (p := (· != c)) (l := l)
  conv => lhs; arg 2; rw [← h]
  rw [List.drop_left]

/-- what is left of a text after the hands E, np of them P's in all -/
noncomputable def leftG (t E : List Nat) (np : Nat) : List Nat :=
  let l1 := if 77 ∈ E.takeWhile (· != 80) then shearL t else t
  let l2 := if 0 < np then prepL l1 else l1
  let l3 := if 77 ∈ E.dropWhile (· != 80) then shearL l2 else l2
  if 1 < np then prepL l3 else l3
theorem leftL_G (wh : Nat) (t row : List Nat) : leftL wh t row = leftG t (earlyL wh row) (row.count 80) := by
  unfold leftL leftG
  dsimp only
  rw [tw_drop]
  have e : (80 ∈ row) = (0 < row.count 80) := propext ⟨fun h => List.count_pos_iff.mpr h, fun h => List.count_pos_iff.mp h⟩
  simp only [e]
theorem G_X (t E : List Nat) (np : Nat) : leftG t (E ++ [88]) np = leftG t E np := by
  unfold leftG
  by_cases h : 80 ∈ E
  · obtain ⟨h1, h2⟩ := tw_mem 80 E [88] h
    rw [h1, h2]
    simp
  · obtain ⟨h1, h2⟩ := tw_not 80 E [88] h
    obtain ⟨h3, h4⟩ := none_idx 80 E h
    rw [h1, h2, h3, h4]
    simp
theorem G_P' (t E : List Nat) (np : Nat) : leftG t (E ++ [80]) np = leftG t E np := by
  unfold leftG
  by_cases h : 80 ∈ E
  · obtain ⟨h1, h2⟩ := tw_mem 80 E [80] h
    rw [h1, h2]
    simp
  · obtain ⟨h1, h2⟩ := tw_not 80 E [80] h
    obtain ⟨h3, h4⟩ := none_idx 80 E h
    rw [h1, h2, h3, h4]
    simp
theorem l1_sub {t E : List Nat} (ht : ∀ c ∈ t, c ∈ sig) : ∀ c ∈ (if 77 ∈ E then shearL t else t), c ∈ sig := fun c hc => by
  split at hc
  · exact ht c (shear_sub c hc)
  · exact ht c hc
theorem G_P {t E : List Nat} {np : Nat} (ht : ∀ c ∈ t, c ∈ sig) (hE : 80 ∈ E → 0 < np) : leftG t E (np + 1) = prepL (leftG t E np) := by
  unfold leftG
  dsimp only
  rw [if_pos (Nat.succ_pos np)]
  have hs := l1_sub (E := E.takeWhile (· != 80)) ht
  generalize (if 77 ∈ E.takeWhile (· != 80) then shearL t else t) = l1 at *
  by_cases h0 : np = 0
  · subst h0
    have hn : 80 ∉ E := fun h => absurd (hE h) (Nat.lt_irrefl 0)
    rw [(none_idx 80 E hn).2]
    simp
  · have hp : 0 < np := Nat.pos_of_ne_zero h0
    rw [if_pos hp, if_pos (Nat.succ_lt_succ hp)]
    by_cases h1 : 1 < np
    · rw [if_pos h1]
      split
      · rw [← prep_shear (prepL_sub hs), ← prep_shear (fun c hc => prepL_sub (fun d hd => sig1_sig (prepL_sub hs d hd)) c hc), prep_thrice hs]
      · exact (prep_thrice hs).symm
    · rw [if_neg h1]
theorem G_M {t E : List Nat} {np : Nat} (ht : ∀ c ∈ t, c ∈ sig) (hE : 80 ∈ E ↔ 0 < np) : leftG t (E ++ [77]) np = shearL (leftG t E np) := by
  unfold leftG
  dsimp only
  by_cases h : 80 ∈ E
  · obtain ⟨h1, h2⟩ := tw_mem 80 E [77] h
    rw [h1, h2, if_pos (hE.mp h), if_pos (show 77 ∈ E.dropWhile (· != 80) ++ [77] by simp)]
    have hs := l1_sub (E := E.takeWhile (· != 80)) ht
    generalize (if 77 ∈ E.takeWhile (· != 80) then shearL t else t) = l1 at *
    have hps := prepL_sub hs
    have e : shearL (if 77 ∈ E.dropWhile (· != 80) then shearL (prepL l1) else prepL l1) = shearL (prepL l1) := by
      split
      · exact shear_idem _
      · rfl
    by_cases h1 : 1 < np
    · rw [if_pos h1, if_pos h1]
      have hs2 : ∀ c ∈ (if 77 ∈ E.dropWhile (· != 80) then shearL (prepL l1) else prepL l1), c ∈ sig1 := fun c hc => by
        split at hc
        · exact hps c (shear_sub c hc)
        · exact hps c hc
      rw [prep_shear hs2, e]
    · rw [if_neg h1, if_neg h1, e]
  · have h0 : ¬ 0 < np := fun x => h (hE.mpr x)
    obtain ⟨h1, h2⟩ := tw_not 80 E [77] h
    obtain ⟨h3, h4⟩ := none_idx 80 E h
    have h5 : ¬ 1 < np := by omega
    rw [h1, h2, h3, h4, if_neg h0, if_neg h0, if_neg h5, if_neg h5]
    have hm : 77 ∈ E ++ [77].takeWhile (· != 80) := by simp
    rw [if_pos hm]
    rw [show [77].dropWhile (· != 80) = [] from rfl]
    simp only [List.not_mem_nil, if_false]
    split
    · exact (shear_idem t).symm
    · rfl
theorem G_sub {t E : List Nat} {np : Nat} (ht : ∀ c ∈ t, c ∈ sig) : ∀ c ∈ leftG t E np, c ∈ sig := by
  unfold leftG
  dsimp only
  have hs := l1_sub (E := E.takeWhile (· != 80)) ht
  generalize (if 77 ∈ E.takeWhile (· != 80) then shearL t else t) = l1 at *
  have h2 : ∀ c ∈ (if 0 < np then prepL l1 else l1), c ∈ sig := fun c hc => by
    split at hc
    · exact sig1_sig (prepL_sub hs c hc)
    · exact hs c hc
  generalize (if 0 < np then prepL l1 else l1) = l2 at *
  have h3 : ∀ c ∈ (if 77 ∈ E.dropWhile (· != 80) then shearL l2 else l2), c ∈ sig := fun c hc => by
    split at hc
    · exact h2 c (shear_sub c hc)
    · exact h2 c hc
  generalize (if 77 ∈ E.dropWhile (· != 80) then shearL l2 else l2) = l3 at *
  intro c hc
  split at hc
  · exact sig1_sig (prepL_sub h3 c hc)
  · exact h3 c hc
theorem shearL_le (l : List Nat) : (shearL l).length ≤ l.length := by rw [shearL_eq]; exact sh_len l false
theorem prepL_le : ∀ l : List Nat, (prepL l).length ≤ 3 * l.length
  | [] => Nat.le_refl _
  | c :: r => by
    have h1 := prepL_le r
    have h2 := prep1_len c
    show (prep1 c ++ prepL r).length ≤ _
    rw [List.length_append, List.length_cons]; omega
theorem G_len (t E : List Nat) (np : Nat) : (leftG t E np).length ≤ 9 * t.length := by
  unfold leftG
  dsimp only
  have h1 : (if 77 ∈ E.takeWhile (· != 80) then shearL t else t).length ≤ t.length := by
    split
    · exact shearL_le t
    · exact Nat.le_refl _
  generalize (if 77 ∈ E.takeWhile (· != 80) then shearL t else t) = l1 at *
  have h2 : (if 0 < np then prepL l1 else l1).length ≤ 3 * t.length := by
    split
    · have := prepL_le l1; omega
    · omega
  generalize (if 0 < np then prepL l1 else l1) = l2 at *
  have h3 : (if 77 ∈ E.dropWhile (· != 80) then shearL l2 else l2).length ≤ 3 * t.length := by
    split
    · have := shearL_le l2; omega
    · omega
  generalize (if 77 ∈ E.dropWhile (· != 80) then shearL l2 else l2) = l3 at *
  split
  · have := prepL_le l3; omega
  · omega
end
end Mine

end
section
open PySem PySem.W PyProof.Rows PySem.Calls PyProof.V
set_option Elab.async false
set_option maxRecDepth 100000
namespace Mine
noncomputable section

theorem hidesB_eq (wh : Nat) (row : List Nat) : hidesB wh row = (hidesW wh && decide (88 ∈ row)) := by
  unfold hidesB
  congr 1
  rw [Bool.eq_iff_iff]
  simp [hidesW, memb_iff]
theorem early_hid {wh : Nat} {row : List Nat} (h : hidesB wh row = true) (x : Nat) : earlyL wh (row ++ [x]) = earlyL wh row := by
  have h' := h
  rw [hidesB_eq, Bool.and_eq_true] at h'
  have hm : 88 ∈ row := of_decide_eq_true h'.2
  unfold earlyL
  rw [h, hidesB_eq, h'.1]
  simp only [List.mem_append, hm, true_or, decide_true, Bool.and_self, if_true]
  exact (tw_mem 88 row [x] hm).1
theorem early_open {wh : Nat} {row : List Nat} (h : hidesB wh row = false) : earlyL wh row = row := by
  unfold earlyL; rw [h]; simp
theorem hides_snoc {wh : Nat} {row : List Nat} (h : hidesB wh row = false) {x : Nat} (hx : x ≠ 88) : hidesB wh (row ++ [x]) = false := by
  rw [hidesB_eq] at h ⊢
  rw [show decide (88 ∈ row ++ [x]) = decide (88 ∈ row) by rw [decide_eq_decide]; simp; omega]
  exact h
theorem early_80 {wh : Nat} {row : List Nat} (h : 80 ∈ earlyL wh row) : 0 < row.count 80 := by
  refine List.count_pos_iff.mpr ?_
  unfold earlyL at h
  split at h
  · exact (List.takeWhile_sublist _).subset h
  · exact h
theorem left_X {wh : Nat} {t row : List Nat} : leftL wh t (row ++ [88]) = leftL wh t row := by
  have hcnt : List.count 80 (row ++ [88]) = List.count 80 row := by rw [List.count_append]; rfl
  rw [leftL_G, leftL_G, hcnt]
  cases h : hidesB wh row with
  | true => rw [early_hid h]
  | false =>
    rw [early_open h]
    cases hw : hidesW wh with
    | true =>
      have hn : 88 ∉ row := by
        rw [hidesB_eq, hw, Bool.true_and] at h
        exact of_decide_eq_false h
      have e : earlyL wh (row ++ [88]) = row := by
        unfold earlyL
        rw [hidesB_eq, hw]
        simp only [List.mem_append, List.mem_singleton, or_true, decide_true, Bool.and_self, if_true]
        rw [(tw_not 88 row [88] hn).1]; simp
      rw [e]
    | false =>
      have e : earlyL wh (row ++ [88]) = row ++ [88] := early_open (by rw [hidesB_eq, hw]; rfl)
      rw [e, G_X]
theorem left_M {wh : Nat} {t row : List Nat} (ht : ∀ c ∈ t, c ∈ sig) : leftL wh t (row ++ [77]) = if hidesB wh row then leftL wh t row else shearL (leftL wh t row) := by
  have hcnt : List.count 80 (row ++ [77]) = List.count 80 row := by rw [List.count_append]; rfl
  rw [leftL_G, leftL_G, hcnt]
  cases h : hidesB wh row with
  | true => rw [early_hid h]; rfl
  | false =>
    rw [early_open h, early_open (hides_snoc h (by decide)), G_M ht ⟨fun h => List.count_pos_iff.mpr h, fun h => List.count_pos_iff.mp h⟩]; rfl
theorem left_P {wh : Nat} {t row : List Nat} (ht : ∀ c ∈ t, c ∈ sig) : leftL wh t (row ++ [80]) = prepL (leftL wh t row) := by
  have hcnt : List.count 80 (row ++ [80]) = List.count 80 row + 1 := by rw [List.count_append]; rfl
  rw [leftL_G, leftL_G, hcnt]
  cases h : hidesB wh row with
  | true => rw [early_hid h, G_P ht early_80]
  | false =>
    rw [early_open h, early_open (hides_snoc h (by decide)), G_P', G_P ht fun h => List.count_pos_iff.mpr h]
theorem small_snoc {row : List Nat} {x : Nat} (hx : x ≠ 80) : smallB (row ++ [x]) = smallB row := by
  unfold smallB
  by_cases hm : 88 ∈ row
  · rw [(tw_mem 88 row [x] hm).2]
    simp [hm, Ne.symm hx]
  · rw [(tw_not 88 row [x] hm).2]
    by_cases h8 : x = 88
    · subst h8; simp [hm]
    · simp [hm, Ne.symm h8]
theorem small_P {row : List Nat} : smallB (row ++ [80]) = decide (88 ∈ row) := by
  unfold smallB
  by_cases hm : 88 ∈ row
  · rw [(tw_mem 88 row [80] hm).2]; simp [hm]
  · rw [(tw_not 88 row [80] hm).2]; simp [hm]
theorem small_no {row : List Nat} (h : 88 ∉ row) : smallB row = false := by
  unfold smallB; simp [h]

/-- what a run keeps -/
structure Inv (wh : Nat) (t : List Nat) (st : List Nat × List Nat) : Prop where
  cnt : st.1.count 88 ≤ 2
  page : st.2 = wrL (entN wh) (st.1.count 88) (smallB st.1) (leftL wh t st.1)
theorem left_sub {wh : Nat} {t row : List Nat} (ht : ∀ c ∈ t, c ∈ sig) : ∀ c ∈ leftL wh t row, c ∈ sig := by rw [leftL_G]; exact G_sub ht
theorem kpos {row : List Nat} (h : row.count 88 ≠ 0) (h2 : row.count 88 ≤ 2) : row.count 88 = 1 ∨ row.count 88 = 2 := by omega
theorem wrL_0 (ps : List (List Nat × List Nat)) (sm : Bool) (l : List Nat) : wrL ps 0 sm l = l := rfl
theorem wrL_k {k : Nat} (hk : k ≠ 0) (ps : List (List Nat × List Nat)) (sm : Bool) (l : List Nat) : wrL ps k sm l = l.flatMap (wr1 ps k sm) := by unfold wrL; rw [if_neg hk]
theorem page_sub {wh k : Nat} {sm : Bool} {l : List Nat} (hwh : wh < 5) (hk : k ≤ 2) (hl : ∀ c ∈ l, c ∈ sig) : ∀ d ∈ wrL (entN wh) k sm l, d ∈ sigX := fun d hd => by
  by_cases h0 : k = 0
  · subst h0; exact List.mem_append_left _ (hl d hd)
  · rw [wrL_k h0] at hd
    obtain ⟨c, hc, hm⟩ := List.mem_flatMap.mp hd
    exact (wok hwh (by omega) (hl c hc)).sub d hm
theorem page_no34 {wh k : Nat} {sm : Bool} {l : List Nat} (hwh : wh < 5) (hk : k = 1 ∨ k = 2) (hl : ∀ c ∈ l, c ∈ sig) (hw : hidesW wh = true) : 34 ∉ wrL (entN wh) k sm l := fun hd => by
  rw [wrL_k (by omega)] at hd
  obtain ⟨c, hc, hm⟩ := List.mem_flatMap.mp hd
  exact (wok hwh hk (hl c hc)).hid hw hm
theorem page_shear {wh k : Nat} {sm : Bool} {l : List Nat} (hwh : wh < 5) (hk : k ≤ 2) (hl : ∀ c ∈ l, c ∈ sig) (hw : k ≠ 0 → hidesW wh = false) : shearL (wrL (entN wh) k sm l) = wrL (entN wh) k sm (shearL l) := by
  by_cases h0 : k = 0
  · subst h0; rfl
  · rw [wrL_k h0, wrL_k h0, shearL_eq, shearL_eq]
    exact sh_map _ l false fun c hc => (wok hwh (by omega) (hl c hc)).shr (hw h0)
theorem page_cancel {wh k : Nat} {sm : Bool} {l : List Nat} (hwh : wh < 5) (hk : k ≤ 2) (hl : ∀ c ∈ l, c ∈ sig) : cancL (wrL (entN wh) k sm l) = cancL l := by
  by_cases h0 : k = 0
  · subst h0; rfl
  · rw [wrL_k h0, cancL_eq, cancL_eq, bare_map _ l false fun c hc => (wok hwh (by omega) (hl c hc)).brk]
theorem inv_step {wh : Nat} {t : List Nat} {st : List Nat × List Nat} (hwh : wh < 5) (ht : ∀ c ∈ t, c ∈ sig) (I : Inv wh t st) (x : Nat) : Inv wh t (stepH wh st x) := by
  obtain ⟨row, page⟩ := st
  obtain ⟨hc, hp⟩ := I
  dsimp only at hc hp
  have hls := left_sub (wh := wh) (row := row) ht
  unfold stepH
  split
  · exact ⟨hc, hp⟩
  · rename_i hskip
    dsimp only at hskip ⊢
    have hhand : handC x = 80 ∨ handC x = 77 ∨ handC x = 88 ∨ handC x = 45 := by
      unfold handC
      have hx6 : x % 6 < 6 := Nat.mod_lt _ (by decide)
      generalize x % 6 = r at hx6
      match r, hx6 with
      | 0, _ => exact .inl rfl
      | 1, _ => exact .inl rfl
      | 2, _ => exact .inr (.inl rfl)
      | 3, _ => exact .inr (.inl rfl)
      | 4, _ => exact .inr (.inr (.inl rfl))
      | 5, _ => exact .inr (.inr (.inr rfl))
    generalize handC x = h at *
    rcases hhand with rfl | rfl | rfl | rfl
    · -- prepare
      have hcnt : (row ++ [80]).count 88 = row.count 88 := by rw [List.count_append]; rfl
      refine ⟨by dsimp only; rw [hcnt]; exact hc, ?_⟩
      dsimp only
      rw [hcnt, if_pos rfl, left_P ht, small_P, hp, pgP_prep (page_sub hwh hc hls)]
      by_cases h0 : row.count 88 = 0
      · rw [h0, wrL_0, wrL_0]
      · rw [decide_eq_true (List.count_pos_iff.mp (Nat.pos_of_ne_zero h0)), wrL_k h0, wrL_k h0]
        unfold prepL
        rw [List.flatMap_assoc, List.flatMap_assoc]
        exact flatMap_congr' fun c hcm => (wok hwh (kpos h0 hc) (hls c hcm)).prep
    · -- strip
      have hcnt : (row ++ [77]).count 88 = row.count 88 := by rw [List.count_append]; rfl
      refine ⟨by dsimp only; rw [hcnt]; exact hc, ?_⟩
      dsimp only
      rw [hcnt, if_neg (by decide), if_pos rfl, left_M ht, small_snoc (by decide), hp, stripL_eq, ← shearL_eq]
      cases hh : hidesB wh row with
      | true =>
        rw [if_pos rfl]
        rw [hidesB_eq, Bool.and_eq_true] at hh
        have hm : 88 ∈ row := of_decide_eq_true hh.2
        have h0 : row.count 88 ≠ 0 := Nat.ne_of_gt (List.count_pos_iff.mpr hm)
        rw [shearL_eq, sh_free _ _ (page_no34 hwh (kpos h0 hc) hls hh.1)]
      | false =>
        rw [if_neg (by decide)]
        refine page_shear hwh hc hls fun h0 => ?_
        rw [hidesB_eq, decide_eq_true (List.count_pos_iff.mp (Nat.pos_of_ne_zero h0)), Bool.and_true] at hh
        exact hh
    · -- escape
      have hcnt : (row ++ [88]).count 88 = row.count 88 + 1 := by rw [List.count_append]; rfl
      have hne : row.count 88 ≠ 2 := fun e => hskip (.inr ⟨rfl, e⟩)
      refine ⟨by dsimp only; rw [hcnt]; omega, ?_⟩
      dsimp only
      rw [hcnt, if_neg (by decide), if_neg (by decide), left_X, small_snoc (by decide), hp]
      rcases (show row.count 88 = 0 ∨ row.count 88 = 1 by omega) with h0 | h1
      · rw [h0, wrL_0, wrL_k (by decide), small_no (fun hm => absurd (List.count_pos_iff.mpr hm) (by omega)), escOf_each]
        exact flatMap_congr' fun c hcm => (wok (k := 1) (small := false) hwh (.inl rfl) (hls c hcm)).e1
      · rw [h1, wrL_k (by decide), wrL_k (by decide), escOf_flatMap]
        exact flatMap_congr' fun c hcm => (wok (k := 1) hwh (.inl rfl) (hls c hcm)).e2
    · exact absurd (.inl rfl) hskip
theorem inv_run {wh : Nat} {t : List Nat} (hwh : wh < 5) (ht : ∀ c ∈ t, c ∈ sig) : ∀ (xs : List Nat) (st : List Nat × List Nat), Inv wh t st → Inv wh t (xs.foldl (stepH wh) st)
  | [], _, I => I
  | x :: xs, st, I => inv_run hwh ht xs _ (inv_step hwh ht I x)
theorem inv0 (wh : Nat) (t : List Nat) : Inv wh t ([], t) := by
  refine ⟨Nat.zero_le _, ?_⟩
  show t = leftL wh t []
  unfold leftL earlyL
  simp
theorem runH_inv {wh : Nat} {t : List Nat} (hwh : wh < 5) (ht : ∀ c ∈ t, c ∈ sig) (xs : List Nat) : Inv wh t (runH wh t xs) := inv_run hwh ht xs _ (inv0 wh t)
theorem judge_true {wh : Nat} {t : List Nat} {st : List Nat × List Nat} (hwh : wh < 5) (ht : ∀ c ∈ t, c ∈ sig) (I : Inv wh t st) : judge wh t st.1 st.2 = true := by
  obtain ⟨row, page⟩ := st
  obtain ⟨hc, hp⟩ := I
  dsimp only at hc hp ⊢
  have hls := left_sub (wh := wh) (row := row) ht
  unfold judge
  rw [if_neg (by simpa using hp), hp, parenL_eq]
  cases hh : hidesB wh row with
  | true =>
    rw [if_pos rfl]
    rw [hidesB_eq, Bool.and_eq_true] at hh
    have hm : 88 ∈ row := of_decide_eq_true hh.2
    have h0 : row.count 88 ≠ 0 := Nat.ne_of_gt (List.count_pos_iff.mpr hm)
    rw [shearL_eq, sh_free _ _ (page_no34 hwh (kpos h0 hc) hls hh.1), page_cancel hwh hc hls]
    simp
  | false =>
    rw [if_neg (by decide), page_shear hwh hc hls (fun h0 => by
      rw [hidesB_eq, decide_eq_true (List.count_pos_iff.mp (Nat.pos_of_ne_zero h0)), Bool.and_true] at hh
      exact hh), page_cancel hwh hc fun c hcm => hls c (shear_sub c hcm)]
    simp

/-! ### the pieces -/
theorem getD_mem {l : List Nat} {i : Nat} (h : i < l.length) : l.getD i 0 ∈ l := by
  rw [List.getD_eq_getElem?_getD, List.getElem?_eq_getElem h]; exact List.getElem_mem h
theorem noth_sig (y : Nat) : noth y ∈ sig := by
  refine List.mem_append_left _ (getD_mem ?_)
  exact Nat.mod_lt _ (by decide)
theorem sigA_sig {c : Nat} (h : c ∈ sigA) : c ∈ sig := List.mem_append_right _ (List.mem_append_left _ h)
theorem piece_sig (x : Nat) : ∀ c ∈ pieceL x, c ∈ sig := by
  have a34 : 34 ∈ sig := sigA_sig (by decide)
  have a92 : 92 ∈ sig := sigA_sig (by decide)
  intro c hc
  unfold pieceL at hc
  split at hc
  · rw [List.mem_singleton.mp hc]; exact a34
  split at hc
  · rcases List.mem_cons.mp hc with rfl | hc
    · exact a92
    · rw [List.mem_singleton.mp hc]; exact noth_sig _
  split at hc
  · rw [List.mem_singleton.mp hc]; exact noth_sig _
  split at hc
  · rw [List.mem_singleton.mp hc]; exact a92
  split at hc
  · rw [List.mem_singleton.mp hc]
    have h : ∀ d ∈ [40, 41], d ∈ sigA := by decide
    exact sigA_sig (h _ (getD_mem (Nat.mod_lt _ (by decide))))
  split at hc
  · rw [List.mem_singleton.mp hc]
    have h : ∀ d ∈ [38, 60, 62, 13, 10, 9], d ∈ sigA := by decide
    exact sigA_sig (h _ (getD_mem (Nat.mod_lt _ (by decide))))
  split at hc
  · rw [List.mem_singleton.mp hc]
    refine List.mem_append_right _ (List.mem_append_right _ (List.mem_flatMap.mpr ⟨_, getD_mem (l := firstsL) (i := x / 12 % 11) (Nat.mod_lt _ (by decide)), ?_⟩))
    rw [List.mem_range'_1]
    have : x / 12 / 11 % 26 < 26 := Nat.mod_lt _ (by decide)
    omega
  split at hc
  · rw [List.mem_singleton.mp hc]
    have h : ∀ d ∈ ligL, d ∈ sigA := by decide
    exact sigA_sig (h _ (getD_mem (Nat.mod_lt _ (by decide))))
  split at hc
  · rw [List.mem_singleton.mp hc]
    have h : ∀ d ∈ [7838, 1017], d ∈ sigA := by decide
    exact sigA_sig (h _ (getD_mem (Nat.mod_lt _ (by decide))))
  split at hc
  · rcases List.mem_cons.mp hc with rfl | hc
    · exact a92
    rcases List.mem_cons.mp hc with rfl | hc
    · exact noth_sig _
    · rw [List.mem_singleton.mp hc]; exact a34
  · rw [List.mem_singleton.mp hc]
    refine sigA_sig (List.mem_append_right _ ?_)
    rw [List.mem_range'_1]
    have : x / 12 % 26 < 26 := Nat.mod_lt _ (by decide)
    omega
theorem piece_len (x : Nat) : (pieceL x).length ≤ 3 := by
  unfold pieceL
  repeat' split
  all_goals simp
theorem text_sig (cs : List Nat) : ∀ c ∈ textOf cs, c ∈ sig := fun c hc => by
  unfold textOf at hc
  obtain ⟨z, hz, hm⟩ := List.mem_flatten.mp hc
  obtain ⟨x, _, rfl⟩ := List.mem_map.mp hz
  exact piece_sig x c hm
theorem flat_len {xs : List Nat} : ((xs.map pieceL).flatten).length ≤ 3 * xs.length := by
  induction xs with
  | nil => exact Nat.le_refl _
  | cons x r ih =>
    have := piece_len x
    rw [List.map_cons, List.flatten_cons, List.length_append, List.length_cons]; omega
theorem evens_half {α : Type} : ∀ l : List α, 2 * (evens l).length ≤ l.length + 1
  | [] => by simp [evens]
  | [_] => by simp [evens]
  | a :: b :: r => by
    have := evens_half r
    show 2 * (evens r).length.succ ≤ _
    simp only [List.length_cons]; omega
theorem wrL_len {wh k : Nat} {sm : Bool} (hwh : wh < 5) (hk : k ≤ 2) : ∀ {l : List Nat}, (∀ c ∈ l, c ∈ sig) → (wrL (entN wh) k sm l).length ≤ 10 * l.length := by
  intro l hl
  by_cases h0 : k = 0
  · subst h0; rw [wrL_0]; omega
  · rw [wrL_k h0]
    induction l with
    | nil => exact Nat.le_refl _
    | cons c r ih =>
      have h1 := (wok (small := sm) hwh (show k = 1 ∨ k = 2 by omega) (hl c List.mem_cons_self)).len
      have h2 := ih fun d hd => hl d (List.mem_cons_of_mem _ hd)
      rw [List.flatMap_cons, List.length_append, List.length_cons]; omega
end
end Mine

end
section
open PySem PySem.W PyProof.Rows PySem.Calls PyProof.V
set_option Elab.async false
set_option maxRecDepth 100000
namespace Mine
noncomputable section

theorem law_true (sc : List Int) : lawV sc = true := by
  unfold lawV
  exact judge_true (whOf_lt sc) (text_sig _) (runH_inv (whOf_lt sc) (text_sig _) _)
theorem text_len (sc : List Int) : (textOf (cellsOf sc)).length ≤ 27 := by
  have h1 := evens_half (cellsOf sc)
  have h2 := flat_len (xs := evens (cellsOf sc))
  rw [cellsOf_len] at h1
  unfold textOf
  omega
theorem fits (sc : List Int) : Fits sc := by
  have hpage : ∀ xs, (runH (whOf sc) (textOf (cellsOf sc)) xs).2.length ≤ 3000 ∧ ∀ c ∈ (runH (whOf sc) (textOf (cellsOf sc)) xs).2, c ∈ sigX := fun xs => by
    obtain ⟨hc, hp⟩ := runH_inv (whOf_lt sc) (text_sig (cellsOf sc)) xs
    have hls := left_sub (wh := whOf sc) (row := (runH (whOf sc) (textOf (cellsOf sc)) xs).1) (text_sig (cellsOf sc))
    have ht := text_len sc
    have hl : (leftL (whOf sc) (textOf (cellsOf sc)) (runH (whOf sc) (textOf (cellsOf sc)) xs).1).length ≤ 243 := by
      rw [leftL_G]
      exact Nat.le_trans (G_len _ _ _) (by omega)
    rw [hp]
    refine ⟨?_, page_sub (whOf_lt sc) hc hls⟩
    have := wrL_len (sm := smallB (runH (whOf sc) (textOf (cellsOf sc)) xs).1) (whOf_lt sc) hc hls
    omega
  exact ⟨Nat.le_trans (text_len sc) (by decide), fun i => (hpage _).1, fun i c hc => (fold_sig ((hpage _).2 c hc)).1⟩
end
end Mine

end
section
open PySem PySem.W PyProof.Rows
set_option Elab.async false
set_option maxRecDepth 100000
namespace Mine
theorem post_ok (a b : List WData) : PySem.Challenge.rw_uq0018_01.row.claim.post a (WData.bool true) b = true := by kernel_rfl
end Mine
end
open PySem PySem.W PyProof.Rows
set_option maxRecDepth 100000 in
set_option maxHeartbeats 8000000 in
theorem PySem.Challenge.cw_uq0018_01_holds : PySem.Challenge.rw_uq0018_01.Holds := by
  w_on; o_law
  refine holds_open (q := Mine.qV) (loose := Mine.looseN) (Xt := fun _ => true) (XP := fun _ _ => True) (Yf := fun s => s.heap) (Ya := fun w => Mine.H1 w.params) (YP := Mine.Stands) (N := 30000) (d := Mine.dLaw) (kwd := []) Mine.head_left ?h1 ?h2 ?h3 ?h4 ?hd ?hp ?hk ?hR ?hw ?k1 ?ok ?hb ?hp2 ?hc
  case h1 => intro w s e b o h; rw [e]; exact h
  case h2 => intro w h h' y k b o e; exact k b o (y b o e)
  case h3 => intro _ _; trivial
  case h4 => intro _ _ _ _ _; trivial
  case hd => kernel_rfl
  case hp => kernel_rfl
  case hk => kernel_rfl
  case hR => intro s _; exact recFacts_nil rfl
  case hw => rfl
  case k1 => assumption
  case ok => decide +kernel
  case hb => exact ⟨rfl, rfl, rfl, rfl, rfl, by decide +kernel⟩
  case hp2 => w_witness2
  intro w s₀ s₁ mg mb G Y fa o pm cd doc dV kV ho hd hcd hD hmg hg args vals as hpre hlay hrd hwl hlo
  wrow_args hpre hlay hrd hwl hlo
  rename_i said w5 hs hlay0 hL1 hr1 hl2 w4 w3 D vs w0 hL ra w1 r0 hI hr hc1 hc2
  have hfa : fa = 188 := by
    obtain ⟨o1, es1, ep1, h1, h2, h3, h4⟩ := G.T.g
    obtain ⟨o2, es2, ep2, g1, g2, g3, g4⟩ := Y.main
    rw [h1] at g1; cases g1
    rw [h2] at g2; cases g2
    have e1 := h4 Mine.dLaw.name
    have e2 := g4 Mine.dLaw.name
    rw [hmg] at e1
    rw [e1] at e2
    have e3 : nsFind (Mine.mainEs w.params) Mine.dLaw.name = some (.ref 188) := by kernel_rfl
    have e4 : some (Value.ref fa) = some (Value.ref 188) := e2.trans e3
    cases e4; rfl
  subst hfa
  show wpAny (model Mine.pw w) callerA (call (.ref 188) [Value.ref D]) _ _ _
  refine Mine.call_of (Mine.law_call (script := w5) Y (by decide +kernel) rfl hL hI (by omega) (Mine.fits w5) fun s' Gr => ?_)
  rw [Mine.law_true]
  refine ⟨.inl ⟨_, .bool true, [], rfl, ?_, .bool true, ?_, ?_⟩, ?_, Gr.os, ?_⟩
  · intro cls; rfl
  · exact Mine.post_ok _ _
  · exact fun _ => ⟨.nil, fun a h => by cases h⟩
  · exact .of_keep Gr.keep
  · have := Gr.gens.bare (by rw [hg]; intro y h; simp at h)
    exact this
