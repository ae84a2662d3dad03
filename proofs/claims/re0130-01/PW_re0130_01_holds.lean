import PyProof.Rows.All
import Wide.All
import OpenK.AllK
import Wide.FinOn
import PySem.Challenge.RW_re0130_01
set_option Elab.async false
section
-- part HeadDefs
open PySem PySem.W PyProof.Rows
set_option maxRecDepth 100000
set_option maxHeartbeats 0
set_option linter.all false
namespace Mine
noncomputable abbrev pw : Program := PySem.Challenge.pw_re0130_01
noncomputable def bE : List Stmt := behindTheImports pw
noncomputable def stm (i : Nat) : Stmt := match (bE.drop i) with | s :: _ => s | [] => .Pass ⟨0, 0, 0, 0⟩
noncomputable def fPar (i : Nat) : Arguments := match stm i with | .FunctionDef _ a _ _ _ _ _ _ _ _ => a | _ => ⟨[], [], none, [], [], none, []⟩
noncomputable def fBod (i : Nat) : List Stmt := match stm i with | .FunctionDef _ _ b _ _ _ _ _ _ _ => b | _ => []
noncomputable def fScp (i : Nat) : Scope := match stm i with | .FunctionDef _ _ _ _ _ _ s _ _ _ => s | _ => default
/-- the table of b3: the written pairs -/
noncomputable def tabK : List (Option PySem.Expr) × List PySem.Expr := match stm 8 with | .Assign _ (.Dict ks vs _) _ => (ks, vs) | _ => ([], [])
noncomputable def litI : Option PySem.Expr → Int | some (.Constant (.int i) _ _) => i | _ => 0
noncomputable def litS : PySem.Expr → Str | .Constant (.str x) _ _ => x | _ => Str.ofString ""
noncomputable def tab : List (Int × Str) := (tabK.1.map litI).zip (tabK.2.map litS)
/-- the entries of a run of more than fifteen pairs (three tokens a pair), of a shorter one (two) -/
noncomputable def entL (tk : Nat) : List (Int × Str) → List DictEntry
  | [] => []
  | p :: r => ⟨p.1, .int p.1 tk, .str p.2 (tk + 1)⟩ :: entL (tk + 3) r
noncomputable def entS (tk : Nat) : List (Int × Str) → List DictEntry
  | [] => []
  | p :: r => ⟨p.1, .int p.1 tk, .str p.2 (tk + 1)⟩ :: entS (tk + 2) r
noncomputable def dob (es : List DictEntry) (n : Nat) : Obj := ⟨.type "dict", none, .dict es.toArray n, #[]⟩
noncomputable def ents : List DictEntry := entL 288 (tab.take 646) ++ entS 2226 (tab.drop 646)
noncomputable def ob3 (a : Nat) (_ : Params) : Obj := match a with
  | 49 => dob ents 650
  | 87 => dob (entS 2226 (tab.drop 646)) 4
  | a => dob (entL (288 + 51 * (a - 49)) ((tab.drop (17 * (a - 49))).take 17)) 17
-- state a: steps 12 toks 187 size 15 pos ⟨0, 0, 0, 0⟩ gens 0
noncomputable def o11xa (P : Params) : Obj := ⟨(.type "tuple"), none, (.seq #[] 0), #[]⟩
noncomputable def o12xa (P : Params) : Obj := ⟨.none, none, (.fields #[]), #[]⟩
noncomputable def o13xa (P : Params) : Obj := ⟨(.type "code"), none, (.fields #[(.str (Str.ofString "<module>") 182), (.str (Str.ofString "<module>") 183), (.str (Str.ofString "/claim/cut.py") 184), (.int 1 0), (.int 0 0), (.int 0 0), (.int 0 0), (.int 0 0), (.ref 11), (.bool false), (.int 181 0), (.ref 12), .none, .none, .none, .none, (.int 185 0), (.int 1 0), (.str (Str.ofString "/claim/cut.py") 186)]), #[]⟩
noncomputable def o14xa (P : Params) : Obj := ⟨(.type "frame"), none, .plain, #[(some (.ref 13)), (some (.ref 3)), (some (.ref 3)), none, (some (.str (Str.ofString "__main__") 164)), none, (some (.ref 0))]⟩
noncomputable def tra (P : Params) : BT := (.node (boot_o_0 P) (.node (boot_o_1 P) (.node (boot_o_3 P) (.node (boot_o_7 P) .nil .nil) (.node (o11xa P) .nil .nil)) (.node (boot_o_5 P) (.node (boot_o_9 P) .nil .nil) (.node (o13xa P) .nil .nil))) (.node (boot_o_2 P) (.node (boot_o_4 P) (.node (boot_o_8 P) .nil .nil) (.node (o12xa P) .nil .nil)) (.node (boot_o_6 P) (.node (boot_o_10 P) .nil .nil) (.node (o14xa P) .nil .nil))))
-- state b: steps 0 toks 187 size 15 pos ⟨0, 0, 0, 0⟩ gens 0
noncomputable def trb (P : Params) : BT := (.node (boot_o_0 P) (.node (boot_o_1 P) (.node (boot_o_3 P) (.node (boot_o_7 P) .nil .nil) (.node (o11xa P) .nil .nil)) (.node (boot_o_5 P) (.node (boot_o_9 P) .nil .nil) (.node (o13xa P) .nil .nil))) (.node (boot_o_2 P) (.node (boot_o_4 P) (.node (boot_o_8 P) .nil .nil) (.node (o12xa P) .nil .nil)) (.node (boot_o_6 P) (.node (boot_o_10 P) .nil .nil) (.node (o14xa P) .nil .nil))))
-- state 6: steps 9 toks 221 size 31 pos ⟨52, 0, 52, 8⟩ gens 0
noncomputable def o3x6 (P : Params) : Obj := ⟨(.type "dict"), none, (.dict #[⟨PyData.keyHash P (Str.ofString "__name__"), (.str (Str.ofString "__name__") 165), (.str (Str.ofString "cpy313.stringprep") 219)⟩, ⟨PyData.keyHash P (Str.ofString "__doc__"), (.str (Str.ofString "__doc__") 166), .none⟩, ⟨PyData.keyHash P (Str.ofString "__package__"), (.str (Str.ofString "__package__") 167), .none⟩, ⟨PyData.keyHash P (Str.ofString "__loader__"), (.str (Str.ofString "__loader__") 168), (.builtin "__main__.__loader__#opaque")⟩, ⟨PyData.keyHash P (Str.ofString "__spec__"), (.str (Str.ofString "__spec__") 169), .none⟩, ⟨PyData.keyHash P (Str.ofString "__annotations__"), (.str (Str.ofString "__annotations__") 170), (.ref 6)⟩, ⟨PyData.keyHash P (Str.ofString "__builtins__"), (.str (Str.ofString "__builtins__") 171), (.ref 4)⟩, ⟨PyData.keyHash P (Str.ofString "__file__"), (.str (Str.ofString "__file__") 173), (.str (Str.ofString "/claim/cut.py") 172)⟩, ⟨PyData.keyHash P (Str.ofString "__cached__"), (.str (Str.ofString "__cached__") 174), .none⟩, ⟨PyData.keyHash P (Str.ofString "ELLIPSIS_MARKER"), (.str (Str.ofString "ELLIPSIS_MARKER") 190), (.str (Str.ofString "...") 189)⟩, ⟨PyData.keyHash P (Str.ofString "_ellipsis_match"), (.str (Str.ofString "_ellipsis_match") 202), (.ref 21)⟩, ⟨PyData.keyHash P (Str.ofString "bisect_left"), (.str (Str.ofString "bisect_left") 218), (.ref 30)⟩] 12), #[]⟩
noncomputable def o12x6 (P : Params) : Obj := ⟨.none, none, (.fields #[(.int 3 0), (.int 0 0), (.ref 20), (.int 32 0), (.int 0 0), (.ref 29)]), #[]⟩
noncomputable def o15x6 (P : Params) : Obj := ⟨(.type "tuple"), none, (.seq #[] 0), #[]⟩
noncomputable def o16x6 (P : Params) : Obj := ⟨.none, none, (.fields #[]), #[]⟩
noncomputable def o17x6 (P : Params) : Obj := ⟨(.type "tuple"), none, (.seq #[(.str (Str.ofString "want") 194), (.str (Str.ofString "got") 195), (.str (Str.ofString "ws") 196), (.str (Str.ofString "startpos") 197), (.str (Str.ofString "endpos") 198), (.str (Str.ofString "w") 199)] 0), #[]⟩
noncomputable def o18x6 (P : Params) : Obj := ⟨(.type "tuple"), none, (.seq #[] 0), #[]⟩
noncomputable def o19x6 (P : Params) : Obj := ⟨.none, none, (.func ⟨(Str.ofString "_ellipsis_match"), (Str.ofString "_ellipsis_match"), fPar 2, .stmts (fBod 2), fScp 2, 0, [], .none, .none, .none, .none, none, .none, .none, 0⟩), #[]⟩
noncomputable def o20x6 (P : Params) : Obj := ⟨(.type "code"), none, (.fields #[(.str (Str.ofString "_ellipsis_match") 191), (.str (Str.ofString "_ellipsis_match") 192), (.str (Str.ofString "/claim/cut.py") 193), (.int 3 0), (.int 2 0), (.int 0 0), (.int 0 0), (.int 3 0), (.ref 15), (.bool true), (.int 181 0), (.ref 16), .none, (.ref 17), (.ref 18), (.ref 19), (.int 200 0), (.int 3 0), (.str (Str.ofString "/claim/cut.py") 201)]), #[]⟩
noncomputable def o21x6 (P : Params) : Obj := ⟨(.type "function"), none, (.func ⟨(Str.ofString "_ellipsis_match"), (Str.ofString "_ellipsis_match"), fPar 2, .stmts (fBod 2), fScp 2, 3, [], .none, .none, .none, (.str (Str.ofString "cpy313.doctest") 187), none, (.ref 20), .none, 0⟩), #[]⟩
noncomputable def o22x6 (P : Params) : Obj := ⟨(.type "tuple"), none, (.seq #[(.int 0 205), .none] 0), #[]⟩
noncomputable def o23x6 (P : Params) : Obj := ⟨(.type "dict"), none, (.dict #[⟨PyData.keyHash P (Str.ofString "key"), (.str (Str.ofString "key") 206), .none⟩] 1), #[]⟩
noncomputable def o24x6 (P : Params) : Obj := ⟨(.type "tuple"), none, (.seq #[] 0), #[]⟩
noncomputable def o25x6 (P : Params) : Obj := ⟨.none, none, (.fields #[]), #[]⟩
noncomputable def o26x6 (P : Params) : Obj := ⟨(.type "tuple"), none, (.seq #[(.str (Str.ofString "a") 210), (.str (Str.ofString "x") 211), (.str (Str.ofString "lo") 212), (.str (Str.ofString "hi") 213), (.str (Str.ofString "key") 214), (.str (Str.ofString "mid") 215)] 0), #[]⟩
noncomputable def o27x6 (P : Params) : Obj := ⟨(.type "tuple"), none, (.seq #[] 0), #[]⟩
noncomputable def o28x6 (P : Params) : Obj := ⟨.none, none, (.func ⟨(Str.ofString "bisect_left"), (Str.ofString "bisect_left"), fPar 4, .stmts (fBod 4), fScp 4, 0, [], .none, .none, .none, .none, none, .none, .none, 0⟩), #[]⟩
noncomputable def o29x6 (P : Params) : Obj := ⟨(.type "code"), none, (.fields #[(.str (Str.ofString "bisect_left") 207), (.str (Str.ofString "bisect_left") 208), (.str (Str.ofString "/claim/cut.py") 209), (.int 32 0), (.int 4 0), (.int 0 0), (.int 1 0), (.int 3 0), (.ref 24), (.bool true), (.int 181 0), (.ref 25), .none, (.ref 26), (.ref 27), (.ref 28), (.int 216 0), (.int 32 0), (.str (Str.ofString "/claim/cut.py") 217)]), #[]⟩
noncomputable def o30x6 (P : Params) : Obj := ⟨(.type "function"), none, (.func ⟨(Str.ofString "bisect_left"), (Str.ofString "bisect_left"), fPar 4, .stmts (fBod 4), fScp 4, 3, [], (.ref 22), (.ref 23), .none, (.str (Str.ofString "cpy313.bisect") 203), none, (.ref 29), .none, 0⟩), #[]⟩
noncomputable def tr6 (P : Params) : BT := (.node (boot_o_0 P) (.node (boot_o_1 P) (.node (o3x6 P) (.node (boot_o_7 P) (.node (o15x6 P) .nil .nil) (.node (o23x6 P) .nil .nil)) (.node (o11xa P) (.node (o19x6 P) .nil .nil) (.node (o27x6 P) .nil .nil))) (.node (boot_o_5 P) (.node (boot_o_9 P) (.node (o17x6 P) .nil .nil) (.node (o25x6 P) .nil .nil)) (.node (o13xa P) (.node (o21x6 P) .nil .nil) (.node (o29x6 P) .nil .nil)))) (.node (boot_o_2 P) (.node (boot_o_4 P) (.node (boot_o_8 P) (.node (o16x6 P) .nil .nil) (.node (o24x6 P) .nil .nil)) (.node (o12x6 P) (.node (o20x6 P) .nil .nil) (.node (o28x6 P) .nil .nil))) (.node (boot_o_6 P) (.node (boot_o_10 P) (.node (o18x6 P) .nil .nil) (.node (o26x6 P) .nil .nil)) (.node (o14xa P) (.node (o22x6 P) .nil .nil) (.node (o30x6 P) .nil .nil)))))
-- state 7: steps 998 toks 281 size 42 pos ⟨53, 0, 53, 6⟩ gens 0
noncomputable def o3x7 (P : Params) : Obj := ⟨(.type "dict"), none, (.dict #[⟨PyData.keyHash P (Str.ofString "__name__"), (.str (Str.ofString "__name__") 165), (.str (Str.ofString "cpy313.stringprep") 219)⟩, ⟨PyData.keyHash P (Str.ofString "__doc__"), (.str (Str.ofString "__doc__") 166), .none⟩, ⟨PyData.keyHash P (Str.ofString "__package__"), (.str (Str.ofString "__package__") 167), .none⟩, ⟨PyData.keyHash P (Str.ofString "__loader__"), (.str (Str.ofString "__loader__") 168), (.builtin "__main__.__loader__#opaque")⟩, ⟨PyData.keyHash P (Str.ofString "__spec__"), (.str (Str.ofString "__spec__") 169), .none⟩, ⟨PyData.keyHash P (Str.ofString "__annotations__"), (.str (Str.ofString "__annotations__") 170), (.ref 6)⟩, ⟨PyData.keyHash P (Str.ofString "__builtins__"), (.str (Str.ofString "__builtins__") 171), (.ref 4)⟩, ⟨PyData.keyHash P (Str.ofString "__file__"), (.str (Str.ofString "__file__") 173), (.str (Str.ofString "/claim/cut.py") 172)⟩, ⟨PyData.keyHash P (Str.ofString "__cached__"), (.str (Str.ofString "__cached__") 174), .none⟩, ⟨PyData.keyHash P (Str.ofString "ELLIPSIS_MARKER"), (.str (Str.ofString "ELLIPSIS_MARKER") 190), (.str (Str.ofString "...") 189)⟩, ⟨PyData.keyHash P (Str.ofString "_ellipsis_match"), (.str (Str.ofString "_ellipsis_match") 202), (.ref 21)⟩, ⟨PyData.keyHash P (Str.ofString "bisect_left"), (.str (Str.ofString "bisect_left") 218), (.ref 30)⟩, ⟨PyData.keyHash P (Str.ofString "b1_set"), (.str (Str.ofString "b1_set") 280), (.ref 38)⟩] 13), #[]⟩
noncomputable def o31x7 (P : Params) : Obj := ⟨(.type "list"), none, (.seq #[(.int 173 221), (.int 847 222), (.int 6150 223), (.int 6155 224), (.int 6156 225), (.int 6157 226), (.int 8203 227), (.int 8204 228), (.int 8205 229), (.int 8288 230), (.int 65279 231)] 0), #[]⟩
noncomputable def o32x7 (P : Params) : Obj := ⟨(.type "range"), none, (.fields #[(.int 65024 232), (.int 65040 233), (.int 1 234)]), #[]⟩
noncomputable def o33x7 (P : Params) : Obj := ⟨(.type "list"), none, (.seq #[(.int 65024 237), (.int 65025 238), (.int 65026 239), (.int 65027 240), (.int 65028 241), (.int 65029 242), (.int 65030 243), (.int 65031 244), (.int 65032 245), (.int 65033 246), (.int 65034 247), (.int 65035 248), (.int 65036 249), (.int 65037 250), (.int 65038 251), (.int 65039 252)] 18), #[]⟩
noncomputable def o34x7 (P : Params) : Obj := ⟨(.type "range_iterator"), none, (.fields #[(.int 65040 0), (.int 0 0), (.int 1 0)]), #[]⟩
noncomputable def o35x7 (P : Params) : Obj := ⟨(.type "tuple"), none, (.seq #[] 0), #[]⟩
noncomputable def o36x7 (P : Params) : Obj := ⟨(.type "StopIteration"), none, (.fields #[(.ref 35), .none, .none, .none, (.bool false), .none]), #[]⟩
noncomputable def o37x7 (P : Params) : Obj := ⟨(.type "list"), none, (.seq #[(.int 173 221), (.int 847 222), (.int 6150 223), (.int 6155 224), (.int 6156 225), (.int 6157 226), (.int 8203 227), (.int 8204 228), (.int 8205 229), (.int 8288 230), (.int 65279 231), (.int 65024 237), (.int 65025 238), (.int 65026 239), (.int 65027 240), (.int 65028 241), (.int 65029 242), (.int 65030 243), (.int 65031 244), (.int 65032 245), (.int 65033 246), (.int 65034 247), (.int 65035 248), (.int 65036 249), (.int 65037 250), (.int 65038 251), (.int 65039 252)] 0), #[]⟩
noncomputable def o38x7 (P : Params) : Obj := ⟨(.type "set"), none, (.set #[(65024, (.int 65024 237)), (65025, (.int 65025 238)), (65026, (.int 65026 239)), (65027, (.int 65027 240)), (65028, (.int 65028 241)), (65029, (.int 65029 242)), (6150, (.int 6150 223)), (65030, (.int 65030 243)), (65031, (.int 65031 244)), (65032, (.int 65032 245)), (65033, (.int 65033 246)), (6155, (.int 6155 224)), (6156, (.int 6156 225)), (6157, (.int 6157 226)), (8203, (.int 8203 227)), (8204, (.int 8204 228)), (8205, (.int 8205 229)), (65034, (.int 65034 247)), (65035, (.int 65035 248)), (65036, (.int 65036 249)), (65037, (.int 65037 250)), (65038, (.int 65038 251)), (65039, (.int 65039 252)), (173, (.int 173 221)), (847, (.int 847 222)), (8288, (.int 8288 230)), (65279, (.int 65279 231))] 29 ⟨127, #[0, 1, 2, 3, 4, 5, 6, 7, 8, 9, 10, 11, 12, 13, 14, 15, 16, 17, 18, 19, 20, 21, 22, 45, 79, 96, 127], #[], 0, !P.followText "set-order", 2, true⟩), #[]⟩
noncomputable def o39x7 (P : Params) : Obj := ⟨(.type "list_iterator"), none, (.fields #[.none, (.int 27 0)]), #[]⟩
noncomputable def o40x7 (P : Params) : Obj := ⟨(.type "tuple"), none, (.seq #[] 0), #[]⟩
noncomputable def o41x7 (P : Params) : Obj := ⟨(.type "StopIteration"), none, (.fields #[(.ref 40), .none, .none, .none, (.bool false), .none]), #[]⟩
noncomputable def tr7 (P : Params) : BT := (.node (boot_o_0 P) (.node (boot_o_1 P) (.node (o3x7 P) (.node (boot_o_7 P) (.node (o15x6 P) (.node (o31x7 P) .nil .nil) .nil) (.node (o23x6 P) (.node (o39x7 P) .nil .nil) .nil)) (.node (o11xa P) (.node (o19x6 P) (.node (o35x7 P) .nil .nil) .nil) (.node (o27x6 P) .nil .nil))) (.node (boot_o_5 P) (.node (boot_o_9 P) (.node (o17x6 P) (.node (o33x7 P) .nil .nil) .nil) (.node (o25x6 P) (.node (o41x7 P) .nil .nil) .nil)) (.node (o13xa P) (.node (o21x6 P) (.node (o37x7 P) .nil .nil) .nil) (.node (o29x6 P) .nil .nil)))) (.node (boot_o_2 P) (.node (boot_o_4 P) (.node (boot_o_8 P) (.node (o16x6 P) (.node (o32x7 P) .nil .nil) .nil) (.node (o24x6 P) (.node (o40x7 P) .nil .nil) .nil)) (.node (o12x6 P) (.node (o20x6 P) (.node (o36x7 P) .nil .nil) .nil) (.node (o28x6 P) .nil .nil))) (.node (boot_o_6 P) (.node (boot_o_10 P) (.node (o18x6 P) (.node (o34x7 P) .nil .nil) .nil) (.node (o26x6 P) .nil .nil)) (.node (o14xa P) (.node (o22x6 P) (.node (o38x7 P) .nil .nil) .nil) (.node (o30x6 P) .nil .nil)))))
-- state 8: steps 29 toks 288 size 49 pos ⟨54, 0, 55, 30⟩ gens 0
noncomputable def o3x8 (P : Params) : Obj := ⟨(.type "dict"), none, (.dict #[⟨PyData.keyHash P (Str.ofString "__name__"), (.str (Str.ofString "__name__") 165), (.str (Str.ofString "cpy313.stringprep") 219)⟩, ⟨PyData.keyHash P (Str.ofString "__doc__"), (.str (Str.ofString "__doc__") 166), .none⟩, ⟨PyData.keyHash P (Str.ofString "__package__"), (.str (Str.ofString "__package__") 167), .none⟩, ⟨PyData.keyHash P (Str.ofString "__loader__"), (.str (Str.ofString "__loader__") 168), (.builtin "__main__.__loader__#opaque")⟩, ⟨PyData.keyHash P (Str.ofString "__spec__"), (.str (Str.ofString "__spec__") 169), .none⟩, ⟨PyData.keyHash P (Str.ofString "__annotations__"), (.str (Str.ofString "__annotations__") 170), (.ref 6)⟩, ⟨PyData.keyHash P (Str.ofString "__builtins__"), (.str (Str.ofString "__builtins__") 171), (.ref 4)⟩, ⟨PyData.keyHash P (Str.ofString "__file__"), (.str (Str.ofString "__file__") 173), (.str (Str.ofString "/claim/cut.py") 172)⟩, ⟨PyData.keyHash P (Str.ofString "__cached__"), (.str (Str.ofString "__cached__") 174), .none⟩, ⟨PyData.keyHash P (Str.ofString "ELLIPSIS_MARKER"), (.str (Str.ofString "ELLIPSIS_MARKER") 190), (.str (Str.ofString "...") 189)⟩, ⟨PyData.keyHash P (Str.ofString "_ellipsis_match"), (.str (Str.ofString "_ellipsis_match") 202), (.ref 21)⟩, ⟨PyData.keyHash P (Str.ofString "bisect_left"), (.str (Str.ofString "bisect_left") 218), (.ref 30)⟩, ⟨PyData.keyHash P (Str.ofString "b1_set"), (.str (Str.ofString "b1_set") 280), (.ref 38)⟩, ⟨PyData.keyHash P (Str.ofString "in_table_b1"), (.str (Str.ofString "in_table_b1") 287), (.ref 48)⟩] 14), #[]⟩
noncomputable def o12x8 (P : Params) : Obj := ⟨.none, none, (.fields #[(.int 3 0), (.int 0 0), (.ref 20), (.int 32 0), (.int 0 0), (.ref 29), (.int 54 0), (.int 0 0), (.ref 47)]), #[]⟩
noncomputable def o42x8 (P : Params) : Obj := ⟨(.type "tuple"), none, (.seq #[] 0), #[]⟩
noncomputable def o43x8 (P : Params) : Obj := ⟨.none, none, (.fields #[]), #[]⟩
noncomputable def o44x8 (P : Params) : Obj := ⟨(.type "tuple"), none, (.seq #[(.str (Str.ofString "code") 284)] 0), #[]⟩
noncomputable def o45x8 (P : Params) : Obj := ⟨(.type "tuple"), none, (.seq #[] 0), #[]⟩
noncomputable def o46x8 (P : Params) : Obj := ⟨.none, none, (.func ⟨(Str.ofString "in_table_b1"), (Str.ofString "in_table_b1"), fPar 7, .stmts (fBod 7), fScp 7, 0, [], .none, .none, .none, .none, none, .none, .none, 0⟩), #[]⟩
noncomputable def o47x8 (P : Params) : Obj := ⟨(.type "code"), none, (.fields #[(.str (Str.ofString "in_table_b1") 281), (.str (Str.ofString "in_table_b1") 282), (.str (Str.ofString "/claim/cut.py") 283), (.int 54 0), (.int 1 0), (.int 0 0), (.int 0 0), (.int 3 0), (.ref 42), (.bool true), (.int 181 0), (.ref 43), .none, (.ref 44), (.ref 45), (.ref 46), (.int 285 0), (.int 54 0), (.str (Str.ofString "/claim/cut.py") 286)]), #[]⟩
noncomputable def o48x8 (P : Params) : Obj := ⟨(.type "function"), none, (.func ⟨(Str.ofString "in_table_b1"), (Str.ofString "in_table_b1"), fPar 7, .stmts (fBod 7), fScp 7, 3, [], .none, .none, .none, (.str (Str.ofString "cpy313.stringprep") 219), none, (.ref 47), .none, 0⟩), #[]⟩
noncomputable def tr8 (P : Params) : BT := (.node (boot_o_0 P) (.node (boot_o_1 P) (.node (o3x8 P) (.node (boot_o_7 P) (.node (o15x6 P) (.node (o31x7 P) .nil .nil) (.node (o47x8 P) .nil .nil)) (.node (o23x6 P) (.node (o39x7 P) .nil .nil) .nil)) (.node (o11xa P) (.node (o19x6 P) (.node (o35x7 P) .nil .nil) .nil) (.node (o27x6 P) (.node (o43x8 P) .nil .nil) .nil))) (.node (boot_o_5 P) (.node (boot_o_9 P) (.node (o17x6 P) (.node (o33x7 P) .nil .nil) .nil) (.node (o25x6 P) (.node (o41x7 P) .nil .nil) .nil)) (.node (o13xa P) (.node (o21x6 P) (.node (o37x7 P) .nil .nil) .nil) (.node (o29x6 P) (.node (o45x8 P) .nil .nil) .nil)))) (.node (boot_o_2 P) (.node (boot_o_4 P) (.node (boot_o_8 P) (.node (o16x6 P) (.node (o32x7 P) .nil .nil) (.node (o48x8 P) .nil .nil)) (.node (o24x6 P) (.node (o40x7 P) .nil .nil) .nil)) (.node (o12x8 P) (.node (o20x6 P) (.node (o36x7 P) .nil .nil) .nil) (.node (o28x6 P) (.node (o44x8 P) .nil .nil) .nil))) (.node (boot_o_6 P) (.node (boot_o_10 P) (.node (o18x6 P) (.node (o34x7 P) .nil .nil) .nil) (.node (o26x6 P) (.node (o42x8 P) .nil .nil) .nil)) (.node (o14xa P) (.node (o22x6 P) (.node (o38x7 P) .nil .nil) .nil) (.node (o30x6 P) (.node (o46x8 P) .nil .nil) .nil)))))
-- state 9: steps 12524 toks 2239 size 88 pos ⟨56, 0, 56, 13⟩ gens 0
noncomputable def o3x9 (P : Params) : Obj := ⟨(.type "dict"), none, (.dict #[⟨PyData.keyHash P (Str.ofString "__name__"), (.str (Str.ofString "__name__") 165), (.str (Str.ofString "cpy313.stringprep") 219)⟩, ⟨PyData.keyHash P (Str.ofString "__doc__"), (.str (Str.ofString "__doc__") 166), .none⟩, ⟨PyData.keyHash P (Str.ofString "__package__"), (.str (Str.ofString "__package__") 167), .none⟩, ⟨PyData.keyHash P (Str.ofString "__loader__"), (.str (Str.ofString "__loader__") 168), (.builtin "__main__.__loader__#opaque")⟩, ⟨PyData.keyHash P (Str.ofString "__spec__"), (.str (Str.ofString "__spec__") 169), .none⟩, ⟨PyData.keyHash P (Str.ofString "__annotations__"), (.str (Str.ofString "__annotations__") 170), (.ref 6)⟩, ⟨PyData.keyHash P (Str.ofString "__builtins__"), (.str (Str.ofString "__builtins__") 171), (.ref 4)⟩, ⟨PyData.keyHash P (Str.ofString "__file__"), (.str (Str.ofString "__file__") 173), (.str (Str.ofString "/claim/cut.py") 172)⟩, ⟨PyData.keyHash P (Str.ofString "__cached__"), (.str (Str.ofString "__cached__") 174), .none⟩, ⟨PyData.keyHash P (Str.ofString "ELLIPSIS_MARKER"), (.str (Str.ofString "ELLIPSIS_MARKER") 190), (.str (Str.ofString "...") 189)⟩, ⟨PyData.keyHash P (Str.ofString "_ellipsis_match"), (.str (Str.ofString "_ellipsis_match") 202), (.ref 21)⟩, ⟨PyData.keyHash P (Str.ofString "bisect_left"), (.str (Str.ofString "bisect_left") 218), (.ref 30)⟩, ⟨PyData.keyHash P (Str.ofString "b1_set"), (.str (Str.ofString "b1_set") 280), (.ref 38)⟩, ⟨PyData.keyHash P (Str.ofString "in_table_b1"), (.str (Str.ofString "in_table_b1") 287), (.ref 48)⟩, ⟨PyData.keyHash P (Str.ofString "b3_exceptions"), (.str (Str.ofString "b3_exceptions") 2238), (.ref 49)⟩] 15), #[]⟩
noncomputable def tr9 (P : Params) : BT := (.node (boot_o_0 P) (.node (boot_o_1 P) (.node (o3x9 P) (.node (boot_o_7 P) (.node (o15x6 P) (.node (o31x7 P) (.node (ob3 63 P) .nil .nil) .nil) (.node (o47x8 P) (.node (ob3 79 P) .nil .nil) .nil)) (.node (o23x6 P) (.node (o39x7 P) (.node (ob3 71 P) .nil .nil) .nil) (.node (ob3 55 P) (.node (ob3 87 P) .nil .nil) .nil))) (.node (o11xa P) (.node (o19x6 P) (.node (o35x7 P) (.node (ob3 67 P) .nil .nil) .nil) (.node (ob3 51 P) (.node (ob3 83 P) .nil .nil) .nil)) (.node (o27x6 P) (.node (o43x8 P) (.node (ob3 75 P) .nil .nil) .nil) (.node (ob3 59 P) .nil .nil)))) (.node (boot_o_5 P) (.node (boot_o_9 P) (.node (o17x6 P) (.node (o33x7 P) (.node (ob3 65 P) .nil .nil) .nil) (.node (ob3 49 P) (.node (ob3 81 P) .nil .nil) .nil)) (.node (o25x6 P) (.node (o41x7 P) (.node (ob3 73 P) .nil .nil) .nil) (.node (ob3 57 P) .nil .nil))) (.node (o13xa P) (.node (o21x6 P) (.node (o37x7 P) (.node (ob3 69 P) .nil .nil) .nil) (.node (ob3 53 P) (.node (ob3 85 P) .nil .nil) .nil)) (.node (o29x6 P) (.node (o45x8 P) (.node (ob3 77 P) .nil .nil) .nil) (.node (ob3 61 P) .nil .nil))))) (.node (boot_o_2 P) (.node (boot_o_4 P) (.node (boot_o_8 P) (.node (o16x6 P) (.node (o32x7 P) (.node (ob3 64 P) .nil .nil) .nil) (.node (o48x8 P) (.node (ob3 80 P) .nil .nil) .nil)) (.node (o24x6 P) (.node (o40x7 P) (.node (ob3 72 P) .nil .nil) .nil) (.node (ob3 56 P) .nil .nil))) (.node (o12x8 P) (.node (o20x6 P) (.node (o36x7 P) (.node (ob3 68 P) .nil .nil) .nil) (.node (ob3 52 P) (.node (ob3 84 P) .nil .nil) .nil)) (.node (o28x6 P) (.node (o44x8 P) (.node (ob3 76 P) .nil .nil) .nil) (.node (ob3 60 P) .nil .nil)))) (.node (boot_o_6 P) (.node (boot_o_10 P) (.node (o18x6 P) (.node (o34x7 P) (.node (ob3 66 P) .nil .nil) .nil) (.node (ob3 50 P) (.node (ob3 82 P) .nil .nil) .nil)) (.node (o26x6 P) (.node (o42x8 P) (.node (ob3 74 P) .nil .nil) .nil) (.node (ob3 58 P) .nil .nil))) (.node (o14xa P) (.node (o22x6 P) (.node (o38x7 P) (.node (ob3 70 P) .nil .nil) .nil) (.node (ob3 54 P) (.node (ob3 86 P) .nil .nil) .nil)) (.node (o30x6 P) (.node (o46x8 P) (.node (ob3 78 P) .nil .nil) .nil) (.node (ob3 62 P) .nil .nil))))))
-- state f: steps 1 toks 2303 size 138 pos ⟨102, 0, 131, 96⟩ gens 0
noncomputable def o3xf (P : Params) : Obj := ⟨(.type "dict"), none, (.dict #[⟨PyData.keyHash P (Str.ofString "__name__"), (.str (Str.ofString "__name__") 165), (.str (Str.ofString "law_re0130_01") 2247)⟩, ⟨PyData.keyHash P (Str.ofString "__doc__"), (.str (Str.ofString "__doc__") 166), .none⟩, ⟨PyData.keyHash P (Str.ofString "__package__"), (.str (Str.ofString "__package__") 167), .none⟩, ⟨PyData.keyHash P (Str.ofString "__loader__"), (.str (Str.ofString "__loader__") 168), (.builtin "__main__.__loader__#opaque")⟩, ⟨PyData.keyHash P (Str.ofString "__spec__"), (.str (Str.ofString "__spec__") 169), .none⟩, ⟨PyData.keyHash P (Str.ofString "__annotations__"), (.str (Str.ofString "__annotations__") 170), (.ref 6)⟩, ⟨PyData.keyHash P (Str.ofString "__builtins__"), (.str (Str.ofString "__builtins__") 171), (.ref 4)⟩, ⟨PyData.keyHash P (Str.ofString "__file__"), (.str (Str.ofString "__file__") 173), (.str (Str.ofString "/claim/cut.py") 172)⟩, ⟨PyData.keyHash P (Str.ofString "__cached__"), (.str (Str.ofString "__cached__") 174), .none⟩, ⟨PyData.keyHash P (Str.ofString "ELLIPSIS_MARKER"), (.str (Str.ofString "ELLIPSIS_MARKER") 190), (.str (Str.ofString "...") 189)⟩, ⟨PyData.keyHash P (Str.ofString "_ellipsis_match"), (.str (Str.ofString "_ellipsis_match") 202), (.ref 21)⟩, ⟨PyData.keyHash P (Str.ofString "bisect_left"), (.str (Str.ofString "bisect_left") 218), (.ref 30)⟩, ⟨PyData.keyHash P (Str.ofString "b1_set"), (.str (Str.ofString "b1_set") 280), (.ref 38)⟩, ⟨PyData.keyHash P (Str.ofString "in_table_b1"), (.str (Str.ofString "in_table_b1") 287), (.ref 48)⟩, ⟨PyData.keyHash P (Str.ofString "b3_exceptions"), (.str (Str.ofString "b3_exceptions") 2238), (.ref 49)⟩, ⟨PyData.keyHash P (Str.ofString "map_table_b3"), (.str (Str.ofString "map_table_b3") 2246), (.ref 94)⟩, ⟨PyData.keyHash P (Str.ofString "_law_sign"), (.str (Str.ofString "_law_sign") 2256), (.ref 101)⟩, ⟨PyData.keyHash P (Str.ofString "_law_nothing"), (.str (Str.ofString "_law_nothing") 2263), (.ref 108)⟩, ⟨PyData.keyHash P (Str.ofString "_law_spelled"), (.str (Str.ofString "_law_spelled") 2274), (.ref 115)⟩, ⟨PyData.keyHash P (Str.ofString "_law_dots"), (.str (Str.ofString "_law_dots") 2280), (.ref 120)⟩, ⟨PyData.keyHash P (Str.ofString "_law_holds"), (.str (Str.ofString "_law_holds") 2290), (.ref 127)⟩, ⟨PyData.keyHash P (Str.ofString "_law_ways"), (.str (Str.ofString "_law_ways") 2296), (.ref 132)⟩, ⟨PyData.keyHash P (Str.ofString "law"), (.str (Str.ofString "law") 2302), (.ref 137)⟩] 23), #[]⟩
noncomputable def o12xf (P : Params) : Obj := ⟨.none, none, (.fields #[(.int 3 0), (.int 0 0), (.ref 20), (.int 32 0), (.int 0 0), (.ref 29), (.int 54 0), (.int 0 0), (.ref 47), (.int 57 0), (.int 0 0), (.ref 93), (.int 63 0), (.int 0 0), (.ref 100), (.int 69 0), (.int 0 0), (.ref 107), (.int 71 0), (.int 0 0), (.ref 114), (.int 85 0), (.int 0 0), (.ref 119), (.int 87 0), (.int 0 0), (.ref 126), (.int 93 0), (.int 0 0), (.ref 131), (.int 102 0), (.int 0 0), (.ref 136)]), #[]⟩
noncomputable def o88xf (P : Params) : Obj := ⟨(.type "tuple"), none, (.seq #[] 0), #[]⟩
noncomputable def o89xf (P : Params) : Obj := ⟨.none, none, (.fields #[]), #[]⟩
noncomputable def o90xf (P : Params) : Obj := ⟨(.type "tuple"), none, (.seq #[(.str (Str.ofString "code") 2242), (.str (Str.ofString "r") 2243)] 0), #[]⟩
noncomputable def o91xf (P : Params) : Obj := ⟨(.type "tuple"), none, (.seq #[] 0), #[]⟩
noncomputable def o92xf (P : Params) : Obj := ⟨.none, none, (.func ⟨(Str.ofString "map_table_b3"), (Str.ofString "map_table_b3"), fPar 9, .stmts (fBod 9), fScp 9, 0, [], .none, .none, .none, .none, none, .none, .none, 0⟩), #[]⟩
noncomputable def o93xf (P : Params) : Obj := ⟨(.type "code"), none, (.fields #[(.str (Str.ofString "map_table_b3") 2239), (.str (Str.ofString "map_table_b3") 2240), (.str (Str.ofString "/claim/cut.py") 2241), (.int 57 0), (.int 1 0), (.int 0 0), (.int 0 0), (.int 3 0), (.ref 88), (.bool true), (.int 181 0), (.ref 89), .none, (.ref 90), (.ref 91), (.ref 92), (.int 2244 0), (.int 57 0), (.str (Str.ofString "/claim/cut.py") 2245)]), #[]⟩
noncomputable def o94xf (P : Params) : Obj := ⟨(.type "function"), none, (.func ⟨(Str.ofString "map_table_b3"), (Str.ofString "map_table_b3"), fPar 9, .stmts (fBod 9), fScp 9, 3, [], .none, .none, .none, (.str (Str.ofString "cpy313.stringprep") 219), none, (.ref 93), .none, 0⟩), #[]⟩
noncomputable def o95xf (P : Params) : Obj := ⟨(.type "tuple"), none, (.seq #[] 0), #[]⟩
noncomputable def o96xf (P : Params) : Obj := ⟨.none, none, (.fields #[]), #[]⟩
noncomputable def o97xf (P : Params) : Obj := ⟨(.type "tuple"), none, (.seq #[(.str (Str.ofString "letter") 2252), (.str (Str.ofString "form") 2253)] 0), #[]⟩
noncomputable def o98xf (P : Params) : Obj := ⟨(.type "tuple"), none, (.seq #[] 0), #[]⟩
noncomputable def o99xf (P : Params) : Obj := ⟨.none, none, (.func ⟨(Str.ofString "_law_sign"), (Str.ofString "_law_sign"), fPar 11, .stmts (fBod 11), fScp 11, 0, [], .none, .none, .none, .none, none, .none, .none, 0⟩), #[]⟩
noncomputable def o100xf (P : Params) : Obj := ⟨(.type "code"), none, (.fields #[(.str (Str.ofString "_law_sign") 2249), (.str (Str.ofString "_law_sign") 2250), (.str (Str.ofString "/claim/cut.py") 2251), (.int 63 0), (.int 2 0), (.int 0 0), (.int 0 0), (.int 3 0), (.ref 95), (.bool true), (.int 181 0), (.ref 96), .none, (.ref 97), (.ref 98), (.ref 99), (.int 2254 0), (.int 63 0), (.str (Str.ofString "/claim/cut.py") 2255)]), #[]⟩
noncomputable def o101xf (P : Params) : Obj := ⟨(.type "function"), none, (.func ⟨(Str.ofString "_law_sign"), (Str.ofString "_law_sign"), fPar 11, .stmts (fBod 11), fScp 11, 3, [], .none, .none, .none, (.str (Str.ofString "law_re0130_01") 2247), none, (.ref 100), .none, 0⟩), #[]⟩
noncomputable def o102xf (P : Params) : Obj := ⟨(.type "tuple"), none, (.seq #[] 0), #[]⟩
noncomputable def o103xf (P : Params) : Obj := ⟨.none, none, (.fields #[]), #[]⟩
noncomputable def o104xf (P : Params) : Obj := ⟨(.type "tuple"), none, (.seq #[(.str (Str.ofString "k") 2260)] 0), #[]⟩
noncomputable def o105xf (P : Params) : Obj := ⟨(.type "tuple"), none, (.seq #[] 0), #[]⟩
noncomputable def o106xf (P : Params) : Obj := ⟨.none, none, (.func ⟨(Str.ofString "_law_nothing"), (Str.ofString "_law_nothing"), fPar 12, .stmts (fBod 12), fScp 12, 0, [], .none, .none, .none, .none, none, .none, .none, 0⟩), #[]⟩
noncomputable def o107xf (P : Params) : Obj := ⟨(.type "code"), none, (.fields #[(.str (Str.ofString "_law_nothing") 2257), (.str (Str.ofString "_law_nothing") 2258), (.str (Str.ofString "/claim/cut.py") 2259), (.int 69 0), (.int 1 0), (.int 0 0), (.int 0 0), (.int 3 0), (.ref 102), (.bool true), (.int 181 0), (.ref 103), .none, (.ref 104), (.ref 105), (.ref 106), (.int 2261 0), (.int 69 0), (.str (Str.ofString "/claim/cut.py") 2262)]), #[]⟩
noncomputable def o108xf (P : Params) : Obj := ⟨(.type "function"), none, (.func ⟨(Str.ofString "_law_nothing"), (Str.ofString "_law_nothing"), fPar 12, .stmts (fBod 12), fScp 12, 3, [], .none, .none, .none, (.str (Str.ofString "law_re0130_01") 2247), none, (.ref 107), .none, 0⟩), #[]⟩
noncomputable def o109xf (P : Params) : Obj := ⟨(.type "tuple"), none, (.seq #[] 0), #[]⟩
noncomputable def o110xf (P : Params) : Obj := ⟨.none, none, (.fields #[]), #[]⟩
noncomputable def o111xf (P : Params) : Obj := ⟨(.type "tuple"), none, (.seq #[(.str (Str.ofString "word") 2267), (.str (Str.ofString "drawn") 2268), (.str (Str.ofString "signs") 2269), (.str (Str.ofString "i") 2270), (.str (Str.ofString "y") 2271)] 0), #[]⟩
noncomputable def o112xf (P : Params) : Obj := ⟨(.type "tuple"), none, (.seq #[] 0), #[]⟩
noncomputable def o113xf (P : Params) : Obj := ⟨.none, none, (.func ⟨(Str.ofString "_law_spelled"), (Str.ofString "_law_spelled"), fPar 13, .stmts (fBod 13), fScp 13, 0, [], .none, .none, .none, .none, none, .none, .none, 0⟩), #[]⟩
noncomputable def o114xf (P : Params) : Obj := ⟨(.type "code"), none, (.fields #[(.str (Str.ofString "_law_spelled") 2264), (.str (Str.ofString "_law_spelled") 2265), (.str (Str.ofString "/claim/cut.py") 2266), (.int 71 0), (.int 2 0), (.int 0 0), (.int 0 0), (.int 3 0), (.ref 109), (.bool true), (.int 181 0), (.ref 110), .none, (.ref 111), (.ref 112), (.ref 113), (.int 2272 0), (.int 71 0), (.str (Str.ofString "/claim/cut.py") 2273)]), #[]⟩
noncomputable def o115xf (P : Params) : Obj := ⟨(.type "function"), none, (.func ⟨(Str.ofString "_law_spelled"), (Str.ofString "_law_spelled"), fPar 13, .stmts (fBod 13), fScp 13, 3, [], .none, .none, .none, (.str (Str.ofString "law_re0130_01") 2247), none, (.ref 114), .none, 0⟩), #[]⟩
noncomputable def o116xf (P : Params) : Obj := ⟨(.type "tuple"), none, (.seq #[] 0), #[]⟩
noncomputable def o117xf (P : Params) : Obj := ⟨.none, none, (.fields #[]), #[]⟩
noncomputable def o118xf (P : Params) : Obj := ⟨.none, none, (.func ⟨(Str.ofString "_law_dots"), (Str.ofString "_law_dots"), fPar 14, .stmts (fBod 14), fScp 14, 0, [], .none, .none, .none, .none, none, .none, .none, 0⟩), #[]⟩
noncomputable def o119xf (P : Params) : Obj := ⟨(.type "code"), none, (.fields #[(.str (Str.ofString "_law_dots") 2275), (.str (Str.ofString "_law_dots") 2276), (.str (Str.ofString "/claim/cut.py") 2277), (.int 85 0), (.int 1 0), (.int 0 0), (.int 0 0), (.int 3 0), (.ref 116), (.bool true), (.int 181 0), (.ref 117), .none, .none, .none, (.ref 118), (.int 2278 0), (.int 85 0), (.str (Str.ofString "/claim/cut.py") 2279)]), #[]⟩
noncomputable def o120xf (P : Params) : Obj := ⟨(.type "function"), none, (.func ⟨(Str.ofString "_law_dots"), (Str.ofString "_law_dots"), fPar 14, .stmts (fBod 14), fScp 14, 3, [], .none, .none, .none, (.str (Str.ofString "law_re0130_01") 2247), none, (.ref 119), .none, 0⟩), #[]⟩
noncomputable def o121xf (P : Params) : Obj := ⟨(.type "tuple"), none, (.seq #[] 0), #[]⟩
noncomputable def o122xf (P : Params) : Obj := ⟨.none, none, (.fields #[]), #[]⟩
noncomputable def o123xf (P : Params) : Obj := ⟨(.type "tuple"), none, (.seq #[(.str (Str.ofString "low") 2284), (.str (Str.ofString "part") 2285), (.str (Str.ofString "k") 2286), (.str (Str.ofString "letter") 2287)] 0), #[]⟩
noncomputable def o124xf (P : Params) : Obj := ⟨(.type "tuple"), none, (.seq #[] 0), #[]⟩
noncomputable def o125xf (P : Params) : Obj := ⟨.none, none, (.func ⟨(Str.ofString "_law_holds"), (Str.ofString "_law_holds"), fPar 15, .stmts (fBod 15), fScp 15, 0, [], .none, .none, .none, .none, none, .none, .none, 0⟩), #[]⟩
noncomputable def o126xf (P : Params) : Obj := ⟨(.type "code"), none, (.fields #[(.str (Str.ofString "_law_holds") 2281), (.str (Str.ofString "_law_holds") 2282), (.str (Str.ofString "/claim/cut.py") 2283), (.int 87 0), (.int 2 0), (.int 0 0), (.int 0 0), (.int 3 0), (.ref 121), (.bool true), (.int 181 0), (.ref 122), .none, (.ref 123), (.ref 124), (.ref 125), (.int 2288 0), (.int 87 0), (.str (Str.ofString "/claim/cut.py") 2289)]), #[]⟩
noncomputable def o127xf (P : Params) : Obj := ⟨(.type "function"), none, (.func ⟨(Str.ofString "_law_holds"), (Str.ofString "_law_holds"), fPar 15, .stmts (fBod 15), fScp 15, 3, [], .none, .none, .none, (.str (Str.ofString "law_re0130_01") 2247), none, (.ref 126), .none, 0⟩), #[]⟩
noncomputable def o128xf (P : Params) : Obj := ⟨(.type "tuple"), none, (.seq #[] 0), #[]⟩
noncomputable def o129xf (P : Params) : Obj := ⟨.none, none, (.fields #[]), #[]⟩
noncomputable def o130xf (P : Params) : Obj := ⟨.none, none, (.func ⟨(Str.ofString "_law_ways"), (Str.ofString "_law_ways"), fPar 16, .stmts (fBod 16), fScp 16, 0, [], .none, .none, .none, .none, none, .none, .none, 0⟩), #[]⟩
noncomputable def o131xf (P : Params) : Obj := ⟨(.type "code"), none, (.fields #[(.str (Str.ofString "_law_ways") 2291), (.str (Str.ofString "_law_ways") 2292), (.str (Str.ofString "/claim/cut.py") 2293), (.int 93 0), (.int 2 0), (.int 0 0), (.int 0 0), (.int 3 0), (.ref 128), (.bool true), (.int 181 0), (.ref 129), .none, .none, .none, (.ref 130), (.int 2294 0), (.int 93 0), (.str (Str.ofString "/claim/cut.py") 2295)]), #[]⟩
noncomputable def o132xf (P : Params) : Obj := ⟨(.type "function"), none, (.func ⟨(Str.ofString "_law_ways"), (Str.ofString "_law_ways"), fPar 16, .stmts (fBod 16), fScp 16, 3, [], .none, .none, .none, (.str (Str.ofString "law_re0130_01") 2247), none, (.ref 131), .none, 0⟩), #[]⟩
noncomputable def o133xf (P : Params) : Obj := ⟨(.type "tuple"), none, (.seq #[] 0), #[]⟩
noncomputable def o134xf (P : Params) : Obj := ⟨.none, none, (.fields #[]), #[]⟩
noncomputable def o135xf (P : Params) : Obj := ⟨.none, none, (.func ⟨(Str.ofString "law"), (Str.ofString "law"), fPar 17, .stmts (fBod 17), fScp 17, 0, [], .none, .none, .none, .none, none, .none, .none, 0⟩), #[]⟩
noncomputable def o136xf (P : Params) : Obj := ⟨(.type "code"), none, (.fields #[(.str (Str.ofString "law") 2297), (.str (Str.ofString "law") 2298), (.str (Str.ofString "/claim/cut.py") 2299), (.int 102 0), (.int 1 0), (.int 0 0), (.int 0 0), (.int 3 0), (.ref 133), (.bool true), (.int 181 0), (.ref 134), .none, .none, .none, (.ref 135), (.int 2300 0), (.int 102 0), (.str (Str.ofString "/claim/cut.py") 2301)]), #[]⟩
noncomputable def o137xf (P : Params) : Obj := ⟨(.type "function"), none, (.func ⟨(Str.ofString "law"), (Str.ofString "law"), fPar 17, .stmts (fBod 17), fScp 17, 3, [], .none, .none, .none, (.str (Str.ofString "law_re0130_01") 2247), none, (.ref 136), .none, 0⟩), #[]⟩
noncomputable def trf (P : Params) : BT := (.node (boot_o_0 P) (.node (boot_o_1 P) (.node (o3xf P) (.node (boot_o_7 P) (.node (o15x6 P) (.node (o31x7 P) (.node (ob3 63 P) (.node (o127xf P) .nil .nil) .nil) (.node (o95xf P) .nil .nil)) (.node (o47x8 P) (.node (ob3 79 P) .nil .nil) (.node (o111xf P) .nil .nil))) (.node (o23x6 P) (.node (o39x7 P) (.node (ob3 71 P) (.node (o135xf P) .nil .nil) .nil) (.node (o103xf P) .nil .nil)) (.node (ob3 55 P) (.node (ob3 87 P) .nil .nil) (.node (o119xf P) .nil .nil)))) (.node (o11xa P) (.node (o19x6 P) (.node (o35x7 P) (.node (ob3 67 P) (.node (o131xf P) .nil .nil) .nil) (.node (o99xf P) .nil .nil)) (.node (ob3 51 P) (.node (ob3 83 P) .nil .nil) (.node (o115xf P) .nil .nil))) (.node (o27x6 P) (.node (o43x8 P) (.node (ob3 75 P) .nil .nil) (.node (o107xf P) .nil .nil)) (.node (ob3 59 P) (.node (o91xf P) .nil .nil) (.node (o123xf P) .nil .nil))))) (.node (boot_o_5 P) (.node (boot_o_9 P) (.node (o17x6 P) (.node (o33x7 P) (.node (ob3 65 P) (.node (o129xf P) .nil .nil) .nil) (.node (o97xf P) .nil .nil)) (.node (ob3 49 P) (.node (ob3 81 P) .nil .nil) (.node (o113xf P) .nil .nil))) (.node (o25x6 P) (.node (o41x7 P) (.node (ob3 73 P) (.node (o137xf P) .nil .nil) .nil) (.node (o105xf P) .nil .nil)) (.node (ob3 57 P) (.node (o89xf P) .nil .nil) (.node (o121xf P) .nil .nil)))) (.node (o13xa P) (.node (o21x6 P) (.node (o37x7 P) (.node (ob3 69 P) (.node (o133xf P) .nil .nil) .nil) (.node (o101xf P) .nil .nil)) (.node (ob3 53 P) (.node (ob3 85 P) .nil .nil) (.node (o117xf P) .nil .nil))) (.node (o29x6 P) (.node (o45x8 P) (.node (ob3 77 P) .nil .nil) (.node (o109xf P) .nil .nil)) (.node (ob3 61 P) (.node (o93xf P) .nil .nil) (.node (o125xf P) .nil .nil)))))) (.node (boot_o_2 P) (.node (boot_o_4 P) (.node (boot_o_8 P) (.node (o16x6 P) (.node (o32x7 P) (.node (ob3 64 P) (.node (o128xf P) .nil .nil) .nil) (.node (o96xf P) .nil .nil)) (.node (o48x8 P) (.node (ob3 80 P) .nil .nil) (.node (o112xf P) .nil .nil))) (.node (o24x6 P) (.node (o40x7 P) (.node (ob3 72 P) (.node (o136xf P) .nil .nil) .nil) (.node (o104xf P) .nil .nil)) (.node (ob3 56 P) (.node (o88xf P) .nil .nil) (.node (o120xf P) .nil .nil)))) (.node (o12xf P) (.node (o20x6 P) (.node (o36x7 P) (.node (ob3 68 P) (.node (o132xf P) .nil .nil) .nil) (.node (o100xf P) .nil .nil)) (.node (ob3 52 P) (.node (ob3 84 P) .nil .nil) (.node (o116xf P) .nil .nil))) (.node (o28x6 P) (.node (o44x8 P) (.node (ob3 76 P) .nil .nil) (.node (o108xf P) .nil .nil)) (.node (ob3 60 P) (.node (o92xf P) .nil .nil) (.node (o124xf P) .nil .nil))))) (.node (boot_o_6 P) (.node (boot_o_10 P) (.node (o18x6 P) (.node (o34x7 P) (.node (ob3 66 P) (.node (o130xf P) .nil .nil) .nil) (.node (o98xf P) .nil .nil)) (.node (ob3 50 P) (.node (ob3 82 P) .nil .nil) (.node (o114xf P) .nil .nil))) (.node (o26x6 P) (.node (o42x8 P) (.node (ob3 74 P) .nil .nil) (.node (o106xf P) .nil .nil)) (.node (ob3 58 P) (.node (o90xf P) .nil .nil) (.node (o122xf P) .nil .nil)))) (.node (o14xa P) (.node (o22x6 P) (.node (o38x7 P) (.node (ob3 70 P) (.node (o134xf P) .nil .nil) .nil) (.node (o102xf P) .nil .nil)) (.node (ob3 54 P) (.node (ob3 86 P) .nil .nil) (.node (o118xf P) .nil .nil))) (.node (o30x6 P) (.node (o46x8 P) (.node (ob3 78 P) .nil .nil) (.node (o110xf P) .nil .nil)) (.node (ob3 62 P) (.node (o94xf P) .nil .nil) (.node (o126xf P) .nil .nil)))))))
-- frame 14 code (.ref 13) framePos ⟨0, 0, 0, 0⟩ m0 11 ann (some (.ref 6)) drawn 0 0
-- pre pos ⟨0, 0, 0, 0⟩ block pos ⟨0, 0, 0, 0⟩ steps pre 12 block 0 fin 1 pieces [9, 9, 34, 9, 41, 9, 998, 29, 12524, 30, 9, 30, 29, 33, 26, 32, 26, 26] [⟨1, 0, 1, 8⟩, ⟨2, 0, 2, 15⟩, ⟨3, 0, 30, 15⟩, ⟨31, 0, 31, 8⟩, ⟨32, 0, 51, 13⟩, ⟨52, 0, 52, 8⟩, ⟨53, 0, 53, 6⟩, ⟨54, 0, 55, 30⟩, ⟨56, 0, 56, 13⟩, ⟨57, 0, 61, 23⟩, ⟨62, 0, 62, 8⟩, ⟨63, 0, 68, 87⟩, ⟨69, 0, 70, 114⟩, ⟨71, 0, 84, 25⟩, ⟨85, 0, 86, 63⟩, ⟨87, 0, 92, 24⟩, ⟨93, 0, 101, 19⟩, ⟨102, 0, 131, 96⟩]

noncomputable def tr9p (P : Params) : BT := (.node (boot_o_0 P) (.node (boot_o_1 P) (.node (o3x8 P) (.node (boot_o_7 P) (.node (o15x6 P) (.node (o31x7 P) (.node (ob3 63 P) .nil .nil) .nil) (.node (o47x8 P) (.node (ob3 79 P) .nil .nil) .nil)) (.node (o23x6 P) (.node (o39x7 P) (.node (ob3 71 P) .nil .nil) .nil) (.node (ob3 55 P) (.node (ob3 87 P) .nil .nil) .nil))) (.node (o11xa P) (.node (o19x6 P) (.node (o35x7 P) (.node (ob3 67 P) .nil .nil) .nil) (.node (ob3 51 P) (.node (ob3 83 P) .nil .nil) .nil)) (.node (o27x6 P) (.node (o43x8 P) (.node (ob3 75 P) .nil .nil) .nil) (.node (ob3 59 P) .nil .nil)))) (.node (boot_o_5 P) (.node (boot_o_9 P) (.node (o17x6 P) (.node (o33x7 P) (.node (ob3 65 P) .nil .nil) .nil) (.node (ob3 49 P) (.node (ob3 81 P) .nil .nil) .nil)) (.node (o25x6 P) (.node (o41x7 P) (.node (ob3 73 P) .nil .nil) .nil) (.node (ob3 57 P) .nil .nil))) (.node (o13xa P) (.node (o21x6 P) (.node (o37x7 P) (.node (ob3 69 P) .nil .nil) .nil) (.node (ob3 53 P) (.node (ob3 85 P) .nil .nil) .nil)) (.node (o29x6 P) (.node (o45x8 P) (.node (ob3 77 P) .nil .nil) .nil) (.node (ob3 61 P) .nil .nil))))) (.node (boot_o_2 P) (.node (boot_o_4 P) (.node (boot_o_8 P) (.node (o16x6 P) (.node (o32x7 P) (.node (ob3 64 P) .nil .nil) .nil) (.node (o48x8 P) (.node (ob3 80 P) .nil .nil) .nil)) (.node (o24x6 P) (.node (o40x7 P) (.node (ob3 72 P) .nil .nil) .nil) (.node (ob3 56 P) .nil .nil))) (.node (o12x8 P) (.node (o20x6 P) (.node (o36x7 P) (.node (ob3 68 P) .nil .nil) .nil) (.node (ob3 52 P) (.node (ob3 84 P) .nil .nil) .nil)) (.node (o28x6 P) (.node (o44x8 P) (.node (ob3 76 P) .nil .nil) .nil) (.node (ob3 60 P) .nil .nil)))) (.node (boot_o_6 P) (.node (boot_o_10 P) (.node (o18x6 P) (.node (o34x7 P) (.node (ob3 66 P) .nil .nil) .nil) (.node (ob3 50 P) (.node (ob3 82 P) .nil .nil) .nil)) (.node (o26x6 P) (.node (o42x8 P) (.node (ob3 74 P) .nil .nil) .nil) (.node (ob3 58 P) .nil .nil))) (.node (o14xa P) (.node (o22x6 P) (.node (o38x7 P) (.node (ob3 70 P) .nil .nil) .nil) (.node (ob3 54 P) (.node (ob3 86 P) .nil .nil) .nil)) (.node (o30x6 P) (.node (o46x8 P) (.node (ob3 78 P) .nil .nil) .nil) (.node (ob3 62 P) .nil .nil))))))
noncomputable def env : Env := { scope := pw.main.scope, locals := mainNs, globals := mainNs, cells := [], code := .ref 13, frame := some 14 }
noncomputable def cE : Code := .body bE env
noncomputable def p0 : Pos := ⟨0, 0, 0, 0⟩
noncomputable abbrev B0 : List Frame := [topFrame p0]
noncomputable abbrev ann : Option Value := some (.ref 6)
noncomputable def stT (t : Params → BT) (n k : Nat) (w : World) (os : OsState) : SharedT := ⟨t w.params, n, {}, #[], boot_drawn, k, os⟩
end Mine
end
section
-- part Head1
open PySem PySem.W PyProof.Rows
set_option maxRecDepth 100000
set_option maxHeartbeats 0
namespace Mine
theorem pc_pre (w : World) : (fun os => topGo treeTable pw w 11 ann 12 ⟨boot_heap w.params, #[], boot_drawn, boot_toks, os⟩ (topStub pw)) =
    fun os => some ((stT tra 15 187 w os).abs, ⟨denote treeTable cE, cE, p0, B0⟩) := by
  kernel_rfl!
theorem pc_6 (w : World) : (fun os => segRunT treeTable pw w 11 ann 1 112 (stT trb 15 187 w os) (piecesOf (bE.take 6) env cE p0 B0)) =
    fun os => some (.next, stT tr6 31 221 w os, cE, ⟨52, 0, 52, 8⟩) := by
  rw [Fast.te10110043849684766642, Fast.te14364793385576792824]
  kernel_rfl!
theorem pc_7 : ∀ w : World, (fun os => segRunT treeTable pw w 11 ann 1 1000 (stT tr6 31 221 w os) (piecesOf ((bE.drop 6).take 1) env cE ⟨52, 0, 52, 8⟩ B0)) =
    fun os => some (.next, stT tr7 42 281 w os, cE, ⟨53, 0, 53, 6⟩) := by
  rw [Fast.te10110043849684766642, Fast.te14364793385576792824]
  refine byRow2 "set-order" (byRow2 "special-get-raises" ?_ ?_) (byRow2 "special-get-raises" ?_ ?_)
  · intro w; kernel_rfl!
  · intro w; kernel_rfl!
  · intro w; kernel_rfl!
  · intro w; kernel_rfl!
theorem pc_8 (w : World) : (fun os => segRunT treeTable pw w 11 ann 1 30 (stT tr7 42 281 w os) (piecesOf ((bE.drop 7).take 1) env cE ⟨53, 0, 53, 6⟩ B0)) =
    fun os => some (.next, stT tr8 49 288 w os, cE, ⟨54, 0, 55, 30⟩) := by
  rw [Fast.te10110043849684766642, Fast.te14364793385576792824]
  kernel_rfl!
theorem pc_f (w : World) (pos : Pos) : (fun os => segRunT treeTable pw w 11 ann 1 250 (stT tr9 88 2239 w os) (piecesOf (bE.drop 9) env cE pos B0)) =
    fun os => some (.next, stT trf 138 2303 w os, cE, ⟨102, 0, 131, 96⟩) := by
  rw [Fast.te10110043849684766642, Fast.te14364793385576792824]
  kernel_rfl!
end Mine
end
section
-- part Head2
open PySem PySem.W PyProof.Rows
set_option maxRecDepth 100000
set_option maxHeartbeats 0
namespace Mine
noncomputable def q : Program := { pw with main := { pw.main with body := [stm 17] } }
def loose : List Str := ["ELLIPSIS_MARKER", "_ellipsis_match", "bisect_left", "b1_set", "in_table_b1", "b3_exceptions", "map_table_b3", "_law_sign", "_law_nothing", "_law_spelled", "_law_dots", "_law_holds", "_law_ways"]
noncomputable def Xt (s : Shared) : Bool := xlAt q [] s && recOk [] s
noncomputable def H1 (P : Params) : Heap := absHeap (trf P) 138 {}
noncomputable def Sf (w : World) (os : OsState) : Shared := (stT trf 138 2303 w os).abs
theorem lk0 (w : World) : staticsOk (importedModules pw.main.body) (boot_heap w.params) (H1 w.params) = true := by kernel_rfl!
theorem lk1 (w : World) : namesBound pw (H1 w.params) = true := by kernel_rfl!
theorem lk2 (w : World) : laidKept (boot_heap w.params) (H1 w.params) = true := by kernel_rfl!
theorem lk3 (w : World) (os : OsState) : openSeen q loose (importedModules pw.main.body) Xt true (Sf w os) = openGood q loose := by
  rw [Fast.te4187177175401517315]
  kernel_rfl!
end Mine
end
section
-- part Head3
open PySem PySem.W PyProof.Rows
set_option maxRecDepth 100000
set_option maxHeartbeats 0
set_option linter.all false
namespace Mine
/-- the top's run goes through x in at most n steps: from S to S', with the answer a -/
def T {α : Type} (w : World) (n : Nat) (x : Sem α) (S : Shared) (a : α) (S' : Shared) : Prop :=
  ∀ (K : α → Sem Fin) (H : Value → Sem Fin) (gd : Bool → Bool) (lv : List Value → List Value) (pos : Pos) (N : Nat) (r : Shared),
    (∀ pos', topRun treeTable pw w 11 ann N S' ⟨K a, cE, pos', B0⟩ = some r) → topRun treeTable pw w 11 ann (N + n) S ⟨x.wrap K H gd lv, cE, pos, B0⟩ = some r
section
variable {α β : Type} {w : World} {n m : Nat} {S S₁ S' : Shared} {a : α} {b : β}
theorem T.mono {x : Sem α} (h : T w n x S a S') (le : n ≤ m) : T w m x S a S' := fun K H gd lv pos N r hK => by
  have := topRun_mono (m - n) _ _ _ _ (h K H gd lv pos N r hK)
  rwa [Nat.add_assoc, Nat.add_sub_cancel' le] at this
theorem T.pure : T w 0 (.pure a : Sem α) S a S := fun K H gd lv pos N r hK => hK pos
theorem T.pure' : T w 0 (Pure.pure a : Sem α) S a S := T.pure
theorem T.wrap {x : Sem α} {f : α → Sem β} {H₁ gd₁ lv₁} (hx : T w n x S a S₁) (hf : T w m (f a) S₁ b S') : T w (n + m) (x.wrap f H₁ gd₁ lv₁) S b S' := fun K H gd lv pos N r hK => by
  rw [Sem.wrap_wrap]
  have := hx (fun a => (f a).wrap K H gd lv) (fun e => (H₁ e).wrap K H gd lv) (fun g => gd (gd₁ g)) (fun l => lv (lv₁ l)) pos (N + m) r fun pos' => hf K H gd lv pos' N r hK
  rwa [Nat.add_assoc, Nat.add_comm m n] at this
theorem T.bind {x : Sem α} {f : α → Sem β} (hx : T w n x S a S₁) (hf : T w m (f a) S₁ b S') : T w (n + m) (x >>= f) S b S' := by
  rw [Sem.bind_eq_wrap']; exact hx.wrap hf
theorem T.hold {x : Sem α} {vs : List Value} (hx : T w n x S a S') : T w n (holding vs x) S a S' := by
  rw [holding_eq_keep, Sem.keep_eq_wrap]; exact hx.wrap (m := 0) T.pure
theorem T.onRaise {x : Sem α} {h : Value → Sem Unit} (hx : T w n x S a S') : T w n (x.onRaise h) S a S' := by
  rw [Sem.onRaise_eq_wrap]; exact hx.wrap (m := 0) T.pure
theorem T.load {ad : Addr} {part : Option Value} {o : Obj} {k : Obj → Sem α} (h : S.heap.get? ad = some o) (hk : T w n (k o) S a S') : T w (n + 1) (.load ad part k) S a S' := fun K H gd lv pos N r hK => by
  have := hk K H gd lv pos N r hK
  show topRun treeTable pw w 11 ann (N + n + 1) S ⟨.load ad part fun x => (k x).wrap K H gd lv, cE, pos, B0⟩ = some r
  unfold topRun
  show (match step (denote treeTable) pw w S ⟨.load ad part fun x => (k x).wrap K H gd lv, cE, pos, B0⟩ with | .go s' t' => topRun treeTable pw w 11 ann (N + n) s' t' | .halt _ _ => none) = some r
  simp only [step, h]
  exact this
theorem T.update {ad : Addr} {part : Option Value} {f : Obj → Obj} {o : Obj} {k : Unit → Sem α} (h : S.heap.get? ad = some o) (le : 11 ≤ ad) (hk : T w n (k ()) { S with heap := S.heap.update ad f } a S') : T w (n + 1) (.update ad part f k) S a S' := fun K H gd lv pos N r hK => by
  have := hk K H gd lv pos N r hK
  show topRun treeTable pw w 11 ann (N + n + 1) S ⟨.update ad part f fun x => (k x).wrap K H gd lv, cE, pos, B0⟩ = some r
  have ok : stepOk 11 ann ⟨.update ad part f fun x => (k x).wrap K H gd lv, cE, pos, B0⟩ = true := by
    show (true && (Nat.ble 11 ad || _ || _ || _)) = true
    rw [Nat.ble_eq_true_of_le le]; rfl
  unfold topRun
  show (match stepOk 11 ann ⟨.update ad part f fun x => (k x).wrap K H gd lv, cE, pos, B0⟩ with | false => none | true => match step (denote treeTable) pw w S ⟨.update ad part f fun x => (k x).wrap K H gd lv, cE, pos, B0⟩ with | .go s' t' => topRun treeTable pw w 11 ann (N + n) s' t' | .halt _ _ => none) = some r
  rw [ok]
  simp only [step, h, Option.isSome_some, if_true]
  exact this
theorem T.alloc {o : Obj} {k : Addr → Sem α} (hk : T w n (k S.heap.objs.size) { S with heap := S.heap.push o } a S') : T w (n + 1) (.alloc o k) S a S' := fun K H gd lv pos N r hK => hk K H gd lv pos N r hK
theorem T.fresh {k : Tok → Sem α} (hk : T w n (k S.toks) { S with toks := S.toks + 1 } a S') : T w (n + 1) (.fresh k) S a S' := fun K H gd lv pos N r hK => hk K H gd lv pos N r hK
theorem T.rule {tag : String} {k : Unit → Sem α} (hk : T w n (k ()) S a S') : T w (n + 1) (.rule tag k) S a S' := fun K H gd lv pos N r hK => hk K H gd lv pos N r hK
theorem T.at {p : Pos} {k : Unit → Sem α} (hk : T w n (k ()) S a S') : T w (n + 1) (.at p k) S a S' := fun K H gd lv pos N r hK => hk K H gd lv p N r hK
theorem T.ask {k : Setting → Sem α} (hk : T w n (k ⟨pw, w.params⟩) S a S') : T w (n + 1) (.ask k) S a S' := fun K H gd lv pos N r hK => hk K H gd lv pos N r hK
end
theorem reduced_small {i : Int} (h0 : 0 ≤ i) (h1 : i < 2 ^ 60) : pyHashByItsType.reduced (rawHash i) = Pure.pure i := by
  have e : rawHash i = i := by
    unfold rawHash
    have hm : i % ((2 ^ 61 - 1 : Nat) : Int) = i := Int.emod_eq_of_lt h0 (by omega)
    have hn : (i.natAbs : Int) = i := by omega
    have h2 : ¬ i < 0 := by omega
    have h3 : (i == -1) = false := by simp; omega
    simp only [hn, hm, if_neg h2, h3]
    rfl
  rw [e]
  unfold pyHashByItsType.reduced
  rw [if_pos (by rw [decide_eq_true (by omega), decide_eq_true (by omega)]; rfl)]
  rw [if_neg (by simp; omega)]
theorem hash_run {h : Heap} {g : Array GenState} {d : Drawn} {tk : Nat} {os : OsState} {i : Int} {t : Tok} {K : Int → Sem PySem.Fin} {H : Value → Sem PySem.Fin} {gd : Bool → Bool} {lv : List Value → List Value} {pos : Pos} {N : Nat} :
    ∀ w : World, topRun treeTable pw w 11 ann (N + 5) ⟨h, g, d, tk, os⟩ ⟨(pyHash (.int i t)).wrap K H gd lv, cE, pos, B0⟩ = topRun treeTable pw w 11 ann N ⟨h, g, d, tk + 1, os⟩ ⟨(pyHashByItsType.reduced (rawHash i)).wrap K H gd lv, cE, pos, B0⟩ := by
  refine byRow2 "special-get-raises" ?_ ?_
  · intro w; kernel_rfl!
  · intro w; kernel_rfl!
theorem T.hash {w : World} {h g d tk os} {i : Int} {t : Tok} (h0 : 0 ≤ i) (h1 : i < 2 ^ 60) : T w 5 (pyHash (.int i t)) ⟨h, g, d, tk, os⟩ i ⟨h, g, d, tk + 1, os⟩ := fun K H gd lv pos N r hK => by
  rw [hash_run w, reduced_small h0 h1]
  exact hK pos
end Mine
end
section
-- part Head4
open PySem PySem.W PyProof.Rows
set_option maxRecDepth 100000
set_option maxHeartbeats 0
set_option linter.all false
namespace Mine
def hx (h : Heap) (ds : List Obj) : Heap := ⟨h.objs ++ ds.toArray, h.life⟩
theorem hx_get {h : Heap} {ds : List Obj} {j : Nat} {es n} (e : ds[j]? = some (dob es n)) : (hx h ds).get? (h.objs.size + j) = some (dob es n) := by
  have : (hx h ds).objs[h.objs.size + j]? = some (dob es n) := by
    unfold hx
    rw [Array.getElem?_append_right (Nat.le_add_right _ _), Nat.add_sub_cancel_left]
    simpa using e
  unfold Heap.get?
  rw [this]; rfl
theorem hx_push {h : Heap} {ds : List Obj} {o : Obj} : (hx h ds).push o = hx h (ds ++ [o]) := by
  show Heap.mk _ _ = Heap.mk _ _
  congr 1
  apply Array.ext'
  simp
theorem hx_size {h : Heap} {ds : List Obj} : (hx h ds).objs.size = h.objs.size + ds.length := by simp [hx]
theorem hx_update {h : Heap} {ds : List Obj} {j : Nat} {f : Obj → Obj} : (hx h ds).update (h.objs.size + j) f = hx h (ds.modify j f) := by
  show Heap.mk _ _ = Heap.mk _ _
  congr 1
  apply Array.ext_getElem?
  intro i
  rw [Array.getElem?_modify]
  by_cases hi : i < h.objs.size
  · rw [Array.getElem?_append_left hi, Array.getElem?_append_left hi, if_neg (by omega)]
  · rw [Array.getElem?_append_right (by omega), Array.getElem?_append_right (by omega)]
    simp only [List.getElem?_toArray, List.getElem?_modify]
    by_cases e : h.objs.size + j = i
    · subst e
      simp
    · have q : ¬ j = i - h.objs.size := by omega
      simp [e, q]
theorem dob_push (es n) (e : DictEntry) : Obj.mapDictKeys (·.push e) (dob es n) = dob (es ++ [e]) (n + 1) := by
  show Obj.mk _ _ (.dict _ _) _ = Obj.mk _ _ (.dict _ _) _
  simp
section
variable {w : World} {h : Heap} {g : Array GenState} {d : Drawn} {os : OsState}
abbrev St (h : Heap) (g : Array GenState) (d : Drawn) (os : OsState) (ds : List Obj) (tk : Nat) : Shared := ⟨hx h ds, g, d, tk, os⟩
theorem no_place {es : List DictEntry} {i : Int} (hn : ∀ e ∈ es, e.hash ≠ i) : placesWithHash es.toArray.size (fun j => es.toArray[j]?.map (·.hash)) i = [] := by
  unfold placesWithHash
  rw [List.filter_eq_nil_iff]
  intro j hj
  simp only [List.size_toArray, List.mem_range] at hj
  simp only [List.getElem?_toArray, List.getElem?_eq_getElem hj, Option.map_some, beq_iff_eq, Option.some.injEq]
  exact hn _ (List.getElem_mem hj)
theorem T.find {ds : List Obj} {tk j : Nat} {es n} {i : Int} {t : Tok} (e : ds[j]? = some (dob es n)) (hn : ∀ e ∈ es, e.hash ≠ i) :
    T w 1 (dictFind (h.objs.size + j) (.int i t) i) (St h g d os ds tk) none (St h g d os ds tk) := by
  unfold dictFind
  refine T.hold ?_
  unfold dictEntries loadPart
  refine T.bind (n := 1) (m := 0) (a := es.toArray) (S₁ := St h g d os ds tk) ?_ ?_
  · exact T.bind (n := 1) (m := 0) (T.load (hx_get e) T.pure) T.pure
  · simp only [no_place hn]
    exact T.pure
theorem T.putk {ds : List Obj} {tk j : Nat} {es n} {en : DictEntry} {part : Option Value} (e : ds[j]? = some (dob es n)) (hl : es.length < 1000) (le : 11 ≤ h.objs.size) :
    T w 3 (updateDictKeys (h.objs.size + j) (·.push en) part) (St h g d os ds tk) () (St h g d os (ds.set j (dob (es ++ [en]) (n + 1))) tk) := by
  have hm : ds.modify j (Obj.mapDictKeys (·.push en)) = ds.set j (dob (es ++ [en]) (n + 1)) := by
    apply List.ext_getElem?
    intro i
    rw [List.getElem?_modify, List.getElem?_set]
    by_cases q : j = i
    · subst q
      have lt : j < ds.length := by
        rcases Nat.lt_or_ge j ds.length with q | q
        · exact q
        · rw [List.getElem?_eq_none q] at e; cases e
      rw [if_pos rfl, if_pos lt, e]
      show some (if j = j then Obj.mapDictKeys _ _ else _) = _
      rw [if_pos rfl, dob_push]
    · simp [q]
  unfold updateDictKeys loadPart
  refine T.bind (n := 1) (m := 2) (a := dob es n) (S₁ := St h g d os ds tk) (T.load (hx_get e) T.pure) ?_
  show T w 2 (updatePart (h.objs.size + j) part (Obj.mapDictKeys (·.push en)) >>= fun _ => lookBehind (h.objs.size + j) part) _ _ _
  refine T.bind (n := 1) (m := 1) (a := ()) (S₁ := St h g d os (ds.set j (dob (es ++ [en]) (n + 1))) tk) ?_ ?_
  · refine T.update (hx_get e) (Nat.le_trans le (Nat.le_add_right _ _)) ?_
    rw [show ({ St h g d os ds tk with heap := (St h g d os ds tk).heap.update (h.objs.size + j) (Obj.mapDictKeys (·.push en)) } : Shared) = St h g d os (ds.set j (dob (es ++ [en]) (n + 1))) tk by
      show Shared.mk _ _ _ _ _ = Shared.mk _ _ _ _ _
      rw [← hm, ← hx_update]]
    exact T.pure
  · unfold lookBehind loadPart
    have lt : j < ds.length := by
      rcases Nat.lt_or_ge j ds.length with q | q
      · exact q
      · rw [List.getElem?_eq_none q] at e; cases e
    refine T.bind (n := 1) (m := 0) (a := dob (es ++ [en]) (n + 1)) (S₁ := St h g d os (ds.set j (dob (es ++ [en]) (n + 1))) tk) (T.load (hx_get (by simp [lt])) T.pure) ?_
    have : (dob (es ++ [en]) (n + 1)).data.pastItsLine = none := by
      unfold dob Data.pastItsLine
      dsimp only
      rw [if_neg]
      simp only [List.size_toArray, List.length_append, List.length_singleton, sizeLine]
      omega
    rw [this]
    exact T.pure
end
end Mine
end
section
-- part Head5
open PySem PySem.W PyProof.Rows
set_option maxRecDepth 100000
set_option maxHeartbeats 0
set_option linter.all false
namespace Mine
theorem T.forIn {ι β : Type} {w : World} {n : Nat} {f : ι → β → Sem (ForInStep β)} : ∀ (l : List ι) (inv : Nat → β × Shared),
    (∀ j x, l[j]? = some x → T w n (f x (inv j).1) (inv j).2 (.yield (inv (j + 1)).1) (inv (j + 1)).2) → T w (n * l.length) (forIn l (inv 0).1 f) (inv 0).2 (inv l.length).1 (inv l.length).2
  | [], inv, _ => by
    rw [List.forIn_nil]; exact T.pure
  | x :: l, inv, each => by
    rw [List.forIn_cons, List.length_cons, Nat.mul_add, Nat.mul_one, Nat.add_comm]
    refine T.bind (each 0 x rfl) ?_
    exact T.forIn l (fun j => inv (j + 1)) fun j y hy => each (j + 1) y (by simpa using hy)
section
variable {w : World} {h : Heap} {g : Array GenState} {d : Drawn} {os : OsState}
theorem T.set {ds : List Obj} {tk j : Nat} {es n} {i : Int} {t : Tok} {v : Value} (e : ds[j]? = some (dob es n)) (hl : es.length < 1000) (le : 11 ≤ h.objs.size) (hn : ∀ e ∈ es, e.hash ≠ i) (h0 : 0 ≤ i) (h1 : i < 2 ^ 60) :
    T w 10 (dictSet (h.objs.size + j) (.int i t) v) (St h g d os ds tk) () (St h g d os (ds.set j (dob (es ++ [⟨i, .int i t, v⟩]) (n + 1))) (tk + 1)) := by
  unfold dictSet
  refine T.hold (T.bind (n := 5) (m := 5) (T.hash h0 h1) ?_)
  unfold dictSetHashed
  refine T.hold (T.bind (n := 1) (m := 4) (T.find e hn) ?_)
  refine T.bind (n := 1) (m := 3) (T.rule T.pure) ?_
  exact T.putk e hl le
theorem T.key {S : Shared} {i : Int} : T w 1 (mkInt i) S (.int i S.toks) { S with toks := S.toks + 1 } := T.bind (n := 1) (m := 0) (T.fresh T.pure) T.pure
theorem T.text {S : Shared} {x : Str} : T w 1 (mkText x) S (.str x S.toks) { S with toks := S.toks + 1 } := T.bind (n := 1) (m := 0) (T.fresh T.pure) T.pure
noncomputable def posD : Pos := match stm 8 with | .Assign _ (.Dict _ _ p) _ => p | _ => p0
noncomputable def cv (p : Int × Str) : Sem Value × Sem Value := (mkInt p.1, do let x ← mkText p.2; standAt posD; pure x)
theorem T.val {S : Shared} {p : Int × Str} : T w 2 (cv p).2 S (.str p.2 S.toks) { S with toks := S.toks + 1 } :=
  T.bind (n := 1) (m := 1) T.text (T.bind (n := 1) (m := 0) (T.at T.pure) T.pure)
theorem entL_append (tk : Nat) (a b : List (Int × Str)) : entL tk (a ++ b) = entL tk a ++ entL (tk + 3 * a.length) b := by
  induction a generalizing tk with
  | nil => simp [entL]
  | cons p r ih => simp only [List.cons_append, entL, ih, List.length_cons]; congr 3; omega
theorem entL_hash {tk : Nat} {l : List (Int × Str)} {e : DictEntry} (he : e ∈ entL tk l) : ∃ p ∈ l, e.hash = p.1 := by
  induction l generalizing tk with
  | nil => cases he
  | cons p r ih =>
    rcases List.mem_cons.mp he with rfl | q
    · exact ⟨p, List.mem_cons_self, rfl⟩
    · obtain ⟨x, hx, e⟩ := ih q; exact ⟨x, List.mem_cons_of_mem _ hx, e⟩
theorem entL_length {tk : Nat} {l : List (Int × Str)} : (entL tk l).length = l.length := by
  induction l generalizing tk with
  | nil => rfl
  | cons p r ih => simp [entL, ih]
/-- keys that rise, within bounds -/
def Rise (l : List (Int × Str)) : Prop := l.Pairwise (fun a b => a.1 < b.1) ∧ ∀ p ∈ l, 0 ≤ p.1 ∧ p.1 < 2 ^ 60
theorem Rise.apart {a b : List (Int × Str)} {p : Int × Str} (r : Rise (a ++ p :: b)) : ∀ x ∈ a, x.1 ≠ p.1 := fun x hx => by
  have := (List.pairwise_append.mp r.1).2.2 x hx p List.mem_cons_self
  omega
theorem Rise.here {a b : List (Int × Str)} {p : Int × Str} (r : Rise (a ++ p :: b)) : 0 ≤ p.1 ∧ p.1 < 2 ^ 60 := r.2 p (by simp)
theorem take_succ' {α : Type} {l : List α} {j : Nat} {x : α} (h : l[j]? = some x) : l.take (j + 1) = l.take j ++ [x] ∧ l = l.take j ++ x :: l.drop (j + 1) := by
  obtain ⟨lt, rfl⟩ := List.getElem?_eq_some_iff.mp h
  refine ⟨by rw [List.take_succ, List.getElem?_eq_getElem lt]; rfl, ?_⟩
  conv => lhs; rw [← List.take_append_drop j l]
  rw [List.drop_eq_getElem_cons lt]
theorem set_last {α : Type} {ds : List α} {a b : α} : (ds ++ [a]).set ds.length b = ds ++ [b] := by simp
theorem T.sub {ds : List Obj} {tk : Nat} {ps : List (Int × Str)} (hlen : 15 < ps.length) (hl : ps.length < 1000) (le : 11 ≤ h.objs.size) (r : Rise ps) :
    T w (2 + 13 * ps.length) (subDict (ps.map cv)) (St h g d os ds tk) (h.objs.size + ds.length) (St h g d os (ds ++ [dob (entL tk ps) ps.length]) (tk + 3 * ps.length)) := by
  unfold subDict
  refine T.mono (n := 1 + (1 + 13 * ps.length)) ?_ (by omega)
  refine T.bind (n := 1) (m := 1 + 13 * ps.length) (a := h.objs.size + ds.length) (S₁ := St h g d os (ds ++ [dob [] 0]) tk) ?_ ?_
  · refine T.alloc ?_
    rw [show (St h g d os ds tk).heap.objs.size = h.objs.size + ds.length from hx_size]
    rw [show ({ St h g d os ds tk with heap := (St h g d os ds tk).heap.push { cls := .type "dict", data := .dict #[] } } : Shared) = St h g d os (ds ++ [dob [] 0]) tk by
      show Shared.mk _ _ _ _ _ = Shared.mk _ _ _ _ _
      rw [← hx_push]; rfl]
    exact T.pure
  · refine T.bind (n := 1 + 13 * ps.length) (m := 0) (a := ()) (T.hold ?_) T.pure
    rw [if_neg (by simp; omega)]
    refine T.bind (n := 1) (m := 13 * ps.length) (T.rule T.pure) ?_
    refine T.bind (n := 13 * ps.length) (m := 0) (a := PUnit.unit) ?_ T.pure
    have loop := T.forIn (w := w) (n := 13) (f := fun (x : Sem Value × Sem Value) (_ : PUnit) => (do
        let kv ← x.1
        let vv ← holding [kv] x.2
        holding [kv, vv] (dictSet (h.objs.size + ds.length) kv vv)
        Pure.pure (ForInStep.yield PUnit.unit) : Sem (ForInStep PUnit))) (ps.map cv) (fun j => (PUnit.unit, St h g d os (ds ++ [dob (entL tk (ps.take j)) j]) (tk + 3 * j))) fun j x hx => by
      rw [List.getElem?_map] at hx
      obtain ⟨p, hp, rfl⟩ := Option.map_eq_some_iff.mp hx
      obtain ⟨t1, t2⟩ := take_succ' hp
      have jl : (ps.take j).length = j := by rw [List.length_take]; have := (List.getElem?_eq_some_iff.mp hp).1; omega
      have rr : Rise (ps.take j ++ p :: ps.drop (j + 1)) := t2 ▸ r
      refine T.bind (n := 1) (m := 12) T.key ?_
      refine T.bind (n := 2) (m := 10) (T.hold T.val) ?_
      refine T.bind (n := 10) (m := 0) (T.hold (T.set (j := ds.length) (es := entL tk (ps.take j)) (n := j) (by simp) (by rw [entL_length]; have := (List.getElem?_eq_some_iff.mp hp).1; omega) le (fun e he => by
        obtain ⟨x, hx, e1⟩ := entL_hash he
        rw [e1]; exact rr.apart x hx) rr.here.1 rr.here.2)) ?_
      rw [t1, entL_append, jl, set_last]
      exact T.pure
    have z := loop
    simp only [List.length_map, List.take_length, List.take_zero, entL, Nat.mul_zero, Nat.add_zero] at z
    exact z
end
end Mine
end
section
-- part Head6
open PySem PySem.W PyProof.Rows
set_option maxRecDepth 100000
set_option maxHeartbeats 0
set_option linter.all false
namespace Mine
section
variable {w : World} {h : Heap} {g : Array GenState} {d : Drawn} {os : OsState}
def valS (tk : Nat) : List (Int × Str) → List (Value × Value)
  | [] => []
  | p :: r => (.int p.1 tk, .str p.2 (tk + 1)) :: valS (tk + 2) r
theorem entS_append (tk : Nat) (a b : List (Int × Str)) : entS tk (a ++ b) = entS tk a ++ entS (tk + 2 * a.length) b := by
  induction a generalizing tk with
  | nil => simp [entS]
  | cons p r ih => simp only [List.cons_append, entS, ih, List.length_cons]; congr 3; omega
theorem entS_hash {tk : Nat} {l : List (Int × Str)} {e : DictEntry} (he : e ∈ entS tk l) : ∃ p ∈ l, e.hash = p.1 := by
  induction l generalizing tk with
  | nil => cases he
  | cons p r ih =>
    rcases List.mem_cons.mp he with rfl | q
    · exact ⟨p, List.mem_cons_self, rfl⟩
    · obtain ⟨x, hx, e⟩ := ih q; exact ⟨x, List.mem_cons_of_mem _ hx, e⟩
theorem entS_length {tk : Nat} {l : List (Int × Str)} : (entS tk l).length = l.length := by
  induction l generalizing tk with
  | nil => rfl
  | cons p r ih => simp [entS, ih]
theorem valS_get {tk j : Nat} {l : List (Int × Str)} {v : Value × Value} (hv : (valS tk l)[j]? = some v) : ∃ p, l[j]? = some p ∧ v = (.int p.1 (tk + 2 * j), .str p.2 (tk + 2 * j + 1)) := by
  induction l generalizing tk j with
  | nil => simp [valS] at hv
  | cons p r ih =>
    cases j with
    | zero => simp [valS] at hv; exact ⟨p, rfl, by rw [← hv]; rfl⟩
    | succ j =>
      simp only [valS, List.getElem?_cons_succ] at hv
      obtain ⟨x, hx, e⟩ := ih hv
      refine ⟨x, by simpa using hx, ?_⟩
      rw [e]
      have : tk + 2 + 2 * j = tk + 2 * (j + 1) := by omega
      rw [this]
theorem valS_length {tk : Nat} {l : List (Int × Str)} : (valS tk l).length = l.length := by
  induction l generalizing tk with
  | nil => rfl
  | cons p r ih => simp [valS, ih]
theorem T.pairs {S : Shared} : ∀ (ps : List (Int × Str)) (S : Shared), T w (3 * ps.length) (evalPairs (ps.map cv)) S (valS S.toks ps) { S with toks := S.toks + 2 * ps.length }
  | [], S => T.pure
  | p :: r, S => by
    have ih := T.pairs (S := S) r { S with toks := S.toks + 2 }
    simp only [List.map_cons]
    unfold evalPairs
    simp only [List.length_cons]
    refine T.mono (n := 1 + (2 + (3 * r.length + 0))) ?_ (by omega)
    refine T.bind (n := 1) T.key (T.bind (n := 2) (T.hold T.val) (T.bind (n := 3 * r.length) (a := valS (S.toks + 2) r) (S₁ := { S with toks := S.toks + 2 + 2 * r.length }) (T.hold ?_) ?_))
    · exact ih
    · rw [show S.toks + 2 * (r.length + 1) = S.toks + 2 + 2 * r.length by omega]
      exact T.pure
theorem T.subS {ds : List Obj} {tk : Nat} {ps : List (Int × Str)} (hlen : ps.length ≤ 15) (le : 11 ≤ h.objs.size) (r : Rise ps) :
    T w (1 + 13 * ps.length) (subDict (ps.map cv)) (St h g d os ds tk) (h.objs.size + ds.length) (St h g d os (ds ++ [dob (entS tk ps) ps.length]) (tk + 3 * ps.length)) := by
  unfold subDict
  refine T.bind (n := 1) (m := 13 * ps.length) (a := h.objs.size + ds.length) (S₁ := St h g d os (ds ++ [dob [] 0]) tk) ?_ ?_
  · refine T.alloc ?_
    rw [show (St h g d os ds tk).heap.objs.size = h.objs.size + ds.length from hx_size]
    rw [show ({ St h g d os ds tk with heap := (St h g d os ds tk).heap.push { cls := .type "dict", data := .dict #[] } } : Shared) = St h g d os (ds ++ [dob [] 0]) tk by
      show Shared.mk _ _ _ _ _ = Shared.mk _ _ _ _ _
      rw [← hx_push]; rfl]
    exact T.pure
  · refine T.bind (n := 13 * ps.length) (m := 0) (a := ()) (T.hold ?_) T.pure
    rw [if_pos (by simpa using hlen)]
    refine T.mono (n := 3 * ps.length + 10 * ps.length) ?_ (by omega)
    refine T.bind (n := 3 * ps.length) (m := 10 * ps.length) (a := valS tk ps) (S₁ := St h g d os (ds ++ [dob [] 0]) (tk + 2 * ps.length)) (T.pairs (S := St h g d os (ds ++ [dob [] 0]) tk) ps (St h g d os (ds ++ [dob [] 0]) tk)) (T.hold ?_)
    refine T.bind (n := 10 * ps.length) (m := 0) (a := PUnit.unit) ?_ T.pure
    have loop := T.forIn (w := w) (n := 10) (f := fun (x : Value × Value) (_ : PUnit) => (do
        dictSet (h.objs.size + ds.length) x.1 x.2
        Pure.pure (ForInStep.yield PUnit.unit) : Sem (ForInStep PUnit))) (valS tk ps) (fun j => (PUnit.unit, St h g d os (ds ++ [dob (entS tk (ps.take j)) j]) (tk + 2 * ps.length + j))) fun j x hx => by
      obtain ⟨p, hp, rfl⟩ := valS_get hx
      obtain ⟨t1, t2⟩ := take_succ' hp
      have lt := (List.getElem?_eq_some_iff.mp hp).1
      have jl : (ps.take j).length = j := by rw [List.length_take]; omega
      have rr : Rise (ps.take j ++ p :: ps.drop (j + 1)) := t2 ▸ r
      refine T.bind (n := 10) (m := 0) (T.set (j := ds.length) (es := entS tk (ps.take j)) (n := j) (by simp) (by rw [entS_length]; omega) le (fun e he => by
        obtain ⟨x, hx, e1⟩ := entS_hash he
        rw [e1]; exact rr.apart x hx) rr.here.1 rr.here.2) ?_
      rw [t1, entS_append, jl, set_last]
      exact T.pure
    have z := loop
    simp only [valS_length, List.take_length, List.take_zero, entS, Nat.mul_zero, Nat.add_zero] at z
    rw [show tk + 3 * ps.length = tk + 2 * ps.length + ps.length by omega]
    exact z
theorem sub_dict_dict : isSubtype (.type "dict") (.type "dict") = Pure.pure true := by rw [isSubtype_type]; kernel_rfl
theorem iter_dict : typeLookup (.type "dict") "__iter__" = Pure.pure (some (.builtin "dict.__iter__")) := F.slot_dict_iter.lookup
theorem T.typeOf {ds : List Obj} {tk j : Nat} {es n} (e : ds[j]? = some (dob es n)) : T w 1 (typeOf (.ref (h.objs.size + j))) (St h g d os ds tk) (.type "dict") (St h g d os ds tk) := by
  unfold PySem.typeOf loadPart
  exact T.bind (n := 1) (m := 0) (a := dob es n) (T.load (hx_get e) T.pure) T.pure
theorem T.entries {ds : List Obj} {tk j : Nat} {es n part} (e : ds[j]? = some (dob es n)) : T w 1 (dictEntries (h.objs.size + j) part) (St h g d os ds tk) es.toArray (St h g d os ds tk) := by
  unfold dictEntries loadPart
  exact T.bind (n := 1) (m := 0) (a := dob es n) (T.load (hx_get e) T.pure) T.pure
theorem T.epoch {ds : List Obj} {tk j : Nat} {es n part} (e : ds[j]? = some (dob es n)) : T w 1 (dictEpoch (h.objs.size + j) part) (St h g d os ds tk) n (St h g d os ds tk) := by
  unfold dictEpoch loadPart
  exact T.bind (n := 1) (m := 0) (a := dob es n) (T.load (hx_get e) T.pure) T.pure
def IntEnts (es : List DictEntry) : Prop := ∀ e ∈ es, ∃ t, e.key = .int e.hash t
theorem T.merge {tk j : Nat} {es es2 n n2} {rest : List Obj} (e2 : rest[j]? = some (dob es2 n2)) (hne : es ≠ []) (hsys : h.objs.size + (j + 1) ≠ sysModules) (hl : es.length + es2.length < 1000) (le : 11 ≤ h.objs.size) (hi : IntEnts es2)
    (hp : (es ++ es2).Pairwise (fun a b => a.hash ≠ b.hash)) :
    T w (5 + 6 * es2.length) (mergeMapping (h.objs.size + 0) (.ref (h.objs.size + (j + 1))) false) (St h g d os (dob es n :: rest) tk) () (St h g d os (dob (es ++ es2) (n + es2.length) :: rest) tk) := by
  unfold mergeMapping
  dsimp only
  refine T.mono (n := 1 + (1 + (0 + (1 + (1 + (1 + (6 * es2.length + 0))))))) ?_ (by omega)
  refine T.bind (n := 1) (a := true) (S₁ := St h g d os (dob es n :: rest) tk) ?_ ?_
  · unfold isInstance
    refine T.bind (n := 1) (m := 0) (T.typeOf (ds := dob es n :: rest) (j := j + 1) (es := es2) (n := n2) (by simpa using e2)) ?_
    rw [sub_dict_dict]; exact T.pure
  refine T.bind (n := 1) (a := some (.builtin "dict.__iter__")) (S₁ := St h g d os (dob es n :: rest) tk) ?_ ?_
  · unfold specialOf
    refine T.bind (n := 1) (m := 0) (T.typeOf (ds := dob es n :: rest) (j := j + 1) (es := es2) (n := n2) (by simpa using e2)) ?_
    rw [iter_dict]; exact T.pure
  rw [show ((some (Value.builtin "dict.__iter__") == some (Value.builtin "dict.__iter__")) = true) by decide]
  refine T.bind (n := 0) T.pure ?_
  · have hs : (h.objs.size + (j + 1) == sysModules) = false := beq_eq_false_iff_ne.mpr hsys
    simp only [hs, Bool.false_eq_true, if_false]
    refine T.bind (n := 1) (T.entries (ds := dob es n :: rest) (j := 0) (es := es) (n := n) rfl) ?_
    have hz : es.toArray.isEmpty = false := by cases es with | nil => exact absurd rfl hne | cons => rfl
    simp only [hz, Bool.false_eq_true, if_false]
    refine T.bind (n := 1) (T.entries (ds := dob es n :: rest) (j := j + 1) (es := es2) (n := n2) (by simpa using e2)) ?_
    refine T.bind (n := 1) (T.epoch (ds := dob es n :: rest) (j := j + 1) (es := es2) (n := n2) (by simpa using e2)) ?_
    refine T.bind (n := 6 * es2.length) (m := 0) (a := PUnit.unit) ?_ T.pure
    have loop := T.forIn (w := w) (n := 6) (f := fun (i : Nat) (_ : PUnit) => (do
        let __do_lift ← dictEntries (h.objs.size + (j + 1))
        match __do_lift[i]? with
        | some e => do
          holding [e.key, e.val] (dictPut (h.objs.size + 0) e.hash e.key e.val)
          let __do_lift ← dictEpoch (h.objs.size + (j + 1))
          if (__do_lift != n2) = true then do
            unsupported "dict.changed-during-merge"
            Pure.pure (ForInStep.yield PUnit.unit)
          else Pure.pure (ForInStep.yield PUnit.unit)
        | _ => do
          unsupported "dict.changed-during-merge"
          Pure.pure (ForInStep.yield PUnit.unit) : Sem (ForInStep PUnit))) (List.range es2.length) (fun i => (PUnit.unit, St h g d os (dob (es ++ es2.take i) (n + i) :: rest) tk)) fun i x hx => by
      obtain ⟨lt, e0⟩ := List.getElem?_eq_some_iff.mp hx
      rw [List.getElem_range] at e0
      subst e0
      rw [List.length_range] at lt
      have he : es2[i]? = some es2[i] := List.getElem?_eq_getElem lt
      obtain ⟨t1, t2⟩ := take_succ' he
      obtain ⟨t, ht⟩ := hi _ (List.getElem_mem lt)
      refine T.bind (n := 1) (m := 5) (T.entries (ds := dob (es ++ es2.take i) (n + i) :: rest) (j := j + 1) (es := es2) (n := n2) (by simpa using e2)) ?_
      simp only [List.getElem?_toArray, he]
      refine T.bind (n := 4) (m := 1) (a := ()) (S₁ := St h g d os (dob (es ++ es2.take (i + 1)) (n + (i + 1)) :: rest) tk) (T.hold ?_) ?_
      · unfold dictPut
        rw [ht]
        refine T.bind (n := 1) (m := 3) (T.find (ds := dob (es ++ es2.take i) (n + i) :: rest) (j := 0) (es := es ++ es2.take i) (n := n + i) rfl fun x hx => ?_) ?_
        · have q : es ++ es2 = (es ++ es2.take i) ++ es2[i] :: es2.drop (i + 1) := by rw [List.append_assoc, ← t2]
          rw [q] at hp
          exact (List.pairwise_append.mp hp).2.2 x hx _ List.mem_cons_self
        · have z := T.putk (w := w) (h := h) (g := g) (d := d) (os := os) (tk := tk) (part := none) (ds := dob (es ++ es2.take i) (n + i) :: rest) (j := 0) (es := es ++ es2.take i) (n := n + i) (en := ⟨es2[i].hash, .int es2[i].hash t, es2[i].val⟩) rfl (by simp only [List.length_append, List.length_take]; omega) le
          rw [List.set_cons_zero, List.append_assoc] at z
          have en : (⟨es2[i].hash, .int es2[i].hash t, es2[i].val⟩ : DictEntry) = es2[i] := by rw [← ht]
          rw [t1, ← en]
          exact z
      · refine T.bind (n := 1) (m := 0) (T.epoch (ds := dob (es ++ es2.take (i + 1)) (n + (i + 1)) :: rest) (j := j + 1) (es := es2) (n := n2) (by simpa using e2)) ?_
        rw [if_neg (by simp)]
        exact T.pure
    have z := loop
    simp only [List.length_range, List.take_length, List.take_zero, List.append_nil, Nat.add_zero] at z
    simp only [List.size_toArray]
    exact z
end
end Mine
end
section
-- part Head7
open PySem PySem.W PyProof.Rows
set_option maxRecDepth 100000
set_option maxHeartbeats 0
set_option linter.all false
namespace Mine
section
variable {w : World} {h : Heap} {g : Array GenState} {d : Drawn} {os : OsState}
theorem Rise.sub {l m : List (Int × Str)} (r : Rise l) (s : m.Sublist l) : Rise m := ⟨r.1.sublist s, fun p hp => r.2 p (s.subset hp)⟩
theorem entL_ints {tk : Nat} {l : List (Int × Str)} : IntEnts (entL tk l) := by
  induction l generalizing tk with
  | nil => intro e he; cases he
  | cons p r ih =>
    intro e he
    rcases List.mem_cons.mp he with rfl | q
    · exact ⟨_, rfl⟩
    · exact ih e q
theorem entS_ints {tk : Nat} {l : List (Int × Str)} : IntEnts (entS tk l) := by
  induction l generalizing tk with
  | nil => intro e he; cases he
  | cons p r ih =>
    intro e he
    rcases List.mem_cons.mp he with rfl | q
    · exact ⟨_, rfl⟩
    · exact ih e q
theorem hashes_of {es : List DictEntry} {l : List (Int × Str)} (e : es.map (·.hash) = l.map (·.1)) (r : Rise l) : es.Pairwise (fun a b => a.hash ≠ b.hash) := by
  have : (es.map (·.hash)).Pairwise (fun a b => a ≠ b) := by
    rw [e]
    exact List.pairwise_map.mpr (r.1.imp fun h => Int.ne_of_lt h)
  exact List.pairwise_map.mp this
theorem entL_map {tk : Nat} {l : List (Int × Str)} : (entL tk l).map (·.hash) = l.map (·.1) := by
  induction l generalizing tk with
  | nil => rfl
  | cons p r ih => simp [entL, ih]
theorem entS_map {tk : Nat} {l : List (Int × Str)} : (entS tk l).map (·.hash) = l.map (·.1) := by
  induction l generalizing tk with
  | nil => rfl
  | cons p r ih => simp [entS, ih]
/-- the display's own fold, by its turns -/
noncomputable def subs (tk : Nat) (l : List (Int × Str)) (c : Nat) : List Obj := (List.range c).map fun i => dob (entL (tk + 51 * (i + 1)) ((l.drop (17 * (i + 1))).take 17)) 17
noncomputable def dsAt (tk : Nat) (l : List (Int × Str)) : Nat → List Obj
  | 0 => []
  | c + 1 => dob (entL tk (l.take (17 * (c + 1)))) (17 * (c + 1)) :: subs tk l c
theorem dsAt_length {tk l c} : (dsAt tk l c).length = c := by
  cases c with
  | zero => rfl
  | succ c => simp [dsAt, subs]
def mainAt (h : Heap) (c : Nat) : Option Addr := if c = 0 then none else some (h.objs.size + 0)
abbrev flushOf (run : List (Sem Value × Sem Value)) (main : Option Addr) : Sem (Option Addr) :=
  if run.isEmpty = true then Pure.pure main
  else match main with
    | none => do
      let __do_lift ← subDict run
      Pure.pure (some __do_lift)
    | some d => do
      let sub ← holding [Value.ref d] (subDict run)
      (holding [Value.ref d, Value.ref sub] (mergeMapping d (Value.ref sub) false)).onRaise fun x => do
        let _ ← holding [Value.ref d, x] (runValue (Code.builtin "proto.let_go" { }))
        Pure.pure ()
      Pure.pure (some d)
theorem T.flush {tk c : Nat} {l : List (Int × Str)} (hc : 17 * (c + 1) ≤ l.length) (hl : l.length < 700) (le : 11 ≤ h.objs.size) (r : Rise l) :
    T w 400 (flushOf (((l.drop (17 * c)).take 17).map cv) (mainAt h c)) (St h g d os (dsAt tk l c) (tk + 51 * c)) (mainAt h (c + 1)) (St h g d os (dsAt tk l (c + 1)) (tk + 51 * (c + 1))) := by
  have len : ((l.drop (17 * c)).take 17).length = 17 := by rw [List.length_take, List.length_drop]; omega
  have rs : Rise ((l.drop (17 * c)).take 17) := r.sub ((List.take_sublist _ _).trans (List.drop_sublist _ _))
  have ne : (((l.drop (17 * c)).take 17).map cv).isEmpty = false := by
    cases q : (((l.drop (17 * c)).take 17).map cv) with
    | nil => have := congrArg List.length q; rw [List.length_map, len] at this; cases this
    | cons => rfl
  have sub := T.sub (w := w) (h := h) (g := g) (d := d) (os := os) (ds := dsAt tk l c) (tk := tk + 51 * c) (ps := (l.drop (17 * c)).take 17) (by omega) (by omega) le rs
  rw [len, dsAt_length] at sub
  unfold flushOf
  rw [ne]
  simp only [Bool.false_eq_true, if_false]
  cases c with
  | zero =>
    refine T.mono (n := (2 + 13 * 17) + 0) ?_ (by omega)
    refine T.bind sub ?_
    rw [show tk + 51 * (0 + 1) = tk + 51 * 0 + 3 * 17 by omega]
    exact T.pure
  | succ c =>
    refine T.mono (n := (2 + 13 * 17) + ((5 + 6 * 17) + 0)) ?_ (by omega)
    refine T.bind (T.hold sub) ?_
    have tk' : tk + 51 * (c + 1) + 3 * 17 = tk + 51 * (c + 1 + 1) := by omega
    rw [tk']
    have e1 : (entL (tk + 51 * (c + 1)) ((l.drop (17 * (c + 1))).take 17)).length = 17 := by rw [entL_length, len]
    have app : entL tk (l.take (17 * (c + 1))) ++ entL (tk + 51 * (c + 1)) ((l.drop (17 * (c + 1))).take 17) = entL tk (l.take (17 * (c + 1 + 1))) := by
      rw [show 17 * (c + 1 + 1) = 17 * (c + 1) + 17 by omega, List.take_add, entL_append, List.length_take, Nat.min_eq_left (by omega), show 3 * (17 * (c + 1)) = 51 * (c + 1) by omega]
    have m := T.merge (w := w) (h := h) (g := g) (d := d) (os := os) (tk := tk + 51 * (c + 1 + 1)) (j := c) (es := entL tk (l.take (17 * (c + 1)))) (n := 17 * (c + 1))
      (es2 := entL (tk + 51 * (c + 1)) ((l.drop (17 * (c + 1))).take 17)) (n2 := 17) (rest := subs tk l c ++ [dob (entL (tk + 51 * (c + 1)) ((l.drop (17 * (c + 1))).take 17)) 17])
      (by rw [List.getElem?_append_right (by simp [subs])]; simp [subs]) (by
        intro z; have := congrArg List.length z; rw [entL_length, List.length_take, List.length_nil] at this; omega) (by
        show ¬ (h.objs.size + (c + 1) = 1); omega) (by rw [e1, entL_length, List.length_take]; omega) le entL_ints (by
        rw [app]; exact hashes_of entL_map (r.sub (List.take_sublist _ _)))
    rw [e1, app] at m
    refine T.bind (n := 5 + 6 * 17) (m := 0) (a := ()) (T.onRaise (T.hold ?_)) T.pure
    rw [show dsAt tk l (c + 1 + 1) = dob (entL tk (l.take (17 * (c + 1 + 1)))) (17 * (c + 1) + 17) :: (subs tk l c ++ [dob (entL (tk + 51 * (c + 1)) ((l.drop (17 * (c + 1))).take 17)) 17]) by
      show _ :: subs tk l (c + 1) = _
      unfold subs
      rw [List.range_succ, List.map_append]
      congr 2]
    exact m
end
end Mine
end
section
-- part Head8
open PySem PySem.W PyProof.Rows
set_option maxRecDepth 100000
set_option maxHeartbeats 0
set_option linter.all false
namespace Mine
section
variable {w : World} {h : Heap} {g : Array GenState} {d : Drawn} {os : OsState}
theorem T.flushS {tk c : Nat} {l : List (Int × Str)} (hc : 17 * (c + 1) + 4 = l.length) (hl : l.length < 700) (le : 11 ≤ h.objs.size) (r : Rise l) :
    T w 400 (flushOf ((l.drop (17 * (c + 1))).map cv) (mainAt h (c + 1))) (St h g d os (dsAt tk l (c + 1)) (tk + 51 * (c + 1))) (some (h.objs.size + 0))
      (St h g d os (dob (entL tk (l.take (17 * (c + 1))) ++ entS (tk + 51 * (c + 1)) (l.drop (17 * (c + 1)))) l.length :: (subs tk l c ++ [dob (entS (tk + 51 * (c + 1)) (l.drop (17 * (c + 1)))) 4])) (tk + 51 * (c + 1) + 12)) := by
  have len : (l.drop (17 * (c + 1))).length = 4 := by rw [List.length_drop]; omega
  have rs : Rise (l.drop (17 * (c + 1))) := r.sub (List.drop_sublist _ _)
  have ne : ((l.drop (17 * (c + 1))).map cv).isEmpty = false := by
    cases q : ((l.drop (17 * (c + 1))).map cv) with
    | nil => have := congrArg List.length q; rw [List.length_map, len] at this; cases this
    | cons => rfl
  have sub := T.subS (w := w) (h := h) (g := g) (d := d) (os := os) (ds := dsAt tk l (c + 1)) (tk := tk + 51 * (c + 1)) (ps := l.drop (17 * (c + 1))) (by omega) le rs
  rw [len, dsAt_length] at sub
  unfold flushOf
  rw [ne]
  simp only [Bool.false_eq_true, if_false]
  refine T.mono (n := (1 + 13 * 4) + ((5 + 6 * 4) + 0)) ?_ (by omega)
  refine T.bind (T.hold sub) ?_
  have e1 : (entS (tk + 51 * (c + 1)) (l.drop (17 * (c + 1)))).length = 4 := by rw [entS_length, len]
  have m := T.merge (w := w) (h := h) (g := g) (d := d) (os := os) (tk := tk + 51 * (c + 1) + 3 * 4) (j := c) (es := entL tk (l.take (17 * (c + 1)))) (n := 17 * (c + 1))
    (es2 := entS (tk + 51 * (c + 1)) (l.drop (17 * (c + 1)))) (n2 := 4) (rest := subs tk l c ++ [dob (entS (tk + 51 * (c + 1)) (l.drop (17 * (c + 1)))) 4])
    (by rw [List.getElem?_append_right (by simp [subs])]; simp [subs]) (by
      intro z; have := congrArg List.length z; rw [entL_length, List.length_take, List.length_nil] at this; omega) (by
      show ¬ (h.objs.size + (c + 1) = 1); omega) (by rw [e1, entL_length, List.length_take]; omega) le entS_ints (hashes_of (l := l) (by rw [List.map_append, entL_map, entS_map, ← List.map_append, List.take_append_drop]) r)
  rw [e1] at m
  refine T.bind (n := 5 + 6 * 4) (m := 0) (a := ()) (T.onRaise (T.hold ?_)) T.pure
  rw [← hc]
  exact m
theorem T.display {tk c : Nat} {l : List (Int × Str)} (hc : 17 * (c + 1) + 4 = l.length) (hl : l.length < 700) (le : 11 ≤ h.objs.size) (r : Rise l) :
    T w (400 * l.length + 400) (dictDisplay (l.map fun p => (some (cv p).1, (cv p).2))) (St h g d os [] tk) (.ref (h.objs.size + 0))
      (St h g d os (dob (entL tk (l.take (17 * (c + 1))) ++ entS (tk + 51 * (c + 1)) (l.drop (17 * (c + 1)))) l.length :: (subs tk l c ++ [dob (entS (tk + 51 * (c + 1)) (l.drop (17 * (c + 1)))) 4])) (tk + 51 * (c + 1) + 12)) := by
  have key : ∀ f : Option (Sem Value) × Sem Value → Option Addr × List (Sem Value × Sem Value) → Sem (ForInStep (Option Addr × List (Sem Value × Sem Value))),
      (∀ p s, f (some (cv p).1, (cv p).2) s = if ((s.2 ++ [((cv p).1, (cv p).2)]).length == 17) = true then do
              let main ← flushOf (s.2 ++ [((cv p).1, (cv p).2)]) s.1
              Pure.pure (ForInStep.yield (main, []))
            else Pure.pure (ForInStep.yield (s.1, s.2 ++ [((cv p).1, (cv p).2)]))) →
      T w (400 * l.length) (ForIn.forIn (l.map fun p => (some (cv p).1, (cv p).2)) ((none : Option Addr), ([] : List (Sem Value × Sem Value))) f) (St h g d os [] tk) (mainAt h (c + 1), (l.drop (17 * (c + 1))).map cv) (St h g d os (dsAt tk l (c + 1)) (tk + 51 * (c + 1))) := by
   intro f hf
   have loop := T.forIn (w := w) (n := 400) (f := f)
    (l.map fun p => (some (cv p).1, (cv p).2)) (fun j => ((mainAt h (j / 17), ((l.drop (17 * (j / 17))).take (j % 17)).map cv), St h g d os (dsAt tk l (j / 17)) (tk + 51 * (j / 17)))) fun j x hx => by
    rw [List.getElem?_map] at hx
    obtain ⟨p, hp, rfl⟩ := Option.map_eq_some_iff.mp hx
    have lt := (List.getElem?_eq_some_iff.mp hp).1
    have dm := Nat.div_add_mod j 17
    have ml := Nat.mod_lt j (by decide : 0 < 17)
    have hp' : (l.drop (17 * (j / 17)))[j % 17]? = some p := by rw [List.getElem?_drop, dm]; exact hp
    obtain ⟨t1, _⟩ := take_succ' hp'
    have run : ((l.drop (17 * (j / 17))).take (j % 17)).map cv ++ [((cv p).1, (cv p).2)] = ((l.drop (17 * (j / 17))).take (j % 17 + 1)).map cv := by rw [t1, List.map_append]; rfl
    have len : (((l.drop (17 * (j / 17))).take (j % 17 + 1)).map cv).length = j % 17 + 1 := by
      rw [List.length_map, List.length_take, List.length_drop]; omega
    dsimp only
    rw [hf p]
    dsimp only
    rw [run, len]
    by_cases q : j % 17 + 1 = 17
    · rw [if_pos (by rw [q]; rfl)]
      have d1 : (j + 1) / 17 = j / 17 + 1 := by omega
      have d2 : (j + 1) % 17 = 0 := by omega
      rw [d1, d2, q]
      refine T.bind (n := 400) (m := 0) (T.flush (c := j / 17) (by omega) hl le r) ?_
      exact T.pure
    · rw [if_neg (by simpa using q)]
      have d1 : (j + 1) / 17 = j / 17 := by omega
      have d2 : (j + 1) % 17 = j % 17 + 1 := by omega
      rw [d1, d2]
      exact T.mono T.pure (Nat.zero_le _)
   rw [List.length_map] at loop
   have q1 : l.length / 17 = c + 1 := by omega
   have q2 : l.length % 17 = 4 := by omega
   have tk4 : (l.drop (17 * (c + 1))).take 4 = l.drop (17 * (c + 1)) := List.take_of_length_le (by rw [List.length_drop]; omega)
   simp only [Nat.zero_div, Nat.zero_mod, List.take_zero, List.map_nil, Nat.mul_zero, Nat.add_zero, q1, q2, tk4] at loop
   exact loop
  unfold dictDisplay
  dsimp only
  refine T.bind (n := 400 * l.length) (m := 400) (key _ fun p s => rfl) ?_
  exact T.bind (n := 400) (m := 0) (T.flushS hc hl le r) T.pure
end
end Mine
end
section
-- part Head9
open PySem PySem.W PyProof.Rows
set_option maxRecDepth 100000
set_option maxHeartbeats 0
set_option linter.all false
namespace Mine
theorem tab_length : tab.length = 650 := by kernel_rfl!
def risesFrom : Int → List (Int × Str) → Bool
  | a, [] => decide (a < 2 ^ 60)
  | a, p :: r => decide (a < p.1) && risesFrom p.1 r
theorem rises_spec : ∀ {l : List (Int × Str)} {a : Int}, risesFrom a l = true → (∀ p ∈ l, a < p.1 ∧ p.1 < 2 ^ 60) ∧ l.Pairwise (fun x y => x.1 < y.1) ∧ a < 2 ^ 60
  | [], a, h => ⟨fun p hp => (nomatch hp), .nil, of_decide_eq_true h⟩
  | p :: r, a, h => by
    obtain ⟨h1, h2⟩ := Bool.and_eq_true_iff.mp h
    have h1 := of_decide_eq_true h1
    obtain ⟨i1, i2, i3⟩ := rises_spec h2
    refine ⟨fun x hx => ?_, .cons (fun x hx => (i1 x hx).1) i2, by omega⟩
    rcases List.mem_cons.mp hx with rfl | hx
    · exact ⟨h1, i3⟩
    · have := i1 x hx; exact ⟨by omega, this.2⟩
theorem tab_rise : Rise tab := by
  have : risesFrom 0 tab = true := by kernel_rfl!
  obtain ⟨a, b, _⟩ := rises_spec this
  exact ⟨b, fun p hp => ⟨by have := a p hp; omega, (a p hp).2⟩⟩
theorem shape8 : (evalEachOpt tabK.1 env).zip ((evalEach tabK.2 env).map fun v => do let x ← v; standAt posD; Pure.pure x) = tab.map fun p => (some (cv p).1, (cv p).2) := by kernel_rfl!
noncomputable def nm8 : Str := Str.ofString "b3_exceptions"
noncomputable def ps8 : Pos × Pos := match stm 8 with | .Assign [.Name _ a] _ b => (a, b) | _ => (p0, p0)
theorem stm8 : stm 8 = .Assign [.Name nm8 ps8.1] (.Dict tabK.1 tabK.2 posD) ps8.2 := by kernel_rfl!
noncomputable def H8 (P : Params) : Heap := absHeap (tr8 P) 49 {}
noncomputable def S8 (w : World) (os : OsState) : Shared := (stT tr8 49 288 w os).abs
theorem S8_eq (w : World) (os : OsState) : S8 w os = St (H8 w.params) #[] boot_drawn os [] 288 := by
  show Shared.mk _ _ _ _ _ = Shared.mk _ _ _ _ _
  congr 1
theorem H8_size (P : Params) : (H8 P).objs.size = 49 := by unfold H8; exact absHeap_size _ _ _
theorem heap9 (w : World) : hx (H8 w.params) (dob (entL 288 (tab.take (17 * (37 + 1))) ++ entS (288 + 51 * (37 + 1)) (tab.drop (17 * (37 + 1)))) 650 :: (subs 288 tab 37 ++ [dob (entS (288 + 51 * (37 + 1)) (tab.drop (17 * (37 + 1)))) 4])) = absHeap (tr9p w.params) 88 {} := by
  kernel_rfl!
theorem store_run {K : Unit → Sem PySem.Fin} {H : Value → Sem PySem.Fin} {gd : Bool → Bool} {lv : List Value → List Value} {pos : Pos} {N : Nat} (w : World) (os : OsState) :
    topRun treeTable pw w 11 ann (N + 6) (stT tr9p 88 2238 w os).abs ⟨(bindName env nm8 (.ref 49)).wrap K H gd lv, cE, pos, B0⟩ = topRun treeTable pw w 11 ann N (stT tr9 88 2239 w os).abs ⟨K (), cE, pos, B0⟩ := by
  kernel_rfl!
theorem T.store (w : World) (os : OsState) : T w 6 (bindName env nm8 (.ref 49)) (stT tr9p 88 2238 w os).abs () (stT tr9 88 2239 w os).abs := fun K H gd lv pos N r hK => by
  rw [store_run w os]; exact hK pos
theorem T.stm8 (w : World) (os : OsState) : T w 300000 (exec (stm 8) env) (S8 w os) .next (stT tr9 88 2239 w os).abs := by
  rw [Mine.stm8, exec_Assign_Name _ _ _ _ _ (by rfl)]
  refine T.mono (n := 1 + ((1 + (400 * 650 + 400)) + (1 + (6 + 0)))) ?_ (by omega)
  refine T.bind (n := 1) (T.at T.pure) ?_
  refine T.bind (a := .ref 49) (S₁ := (stT tr9p 88 2238 w os).abs) ?_ ?_
  · rw [arm_eval_Dict, shape8]
    refine T.bind (n := 1) (T.at T.pure) ?_
    have := T.display (w := w) (h := H8 w.params) (g := #[]) (d := boot_drawn) (os := os) (tk := 288) (c := 37) (l := tab) (by rw [tab_length]) (by rw [tab_length]; omega) (by rw [H8_size]; omega) tab_rise
    rw [tab_length, H8_size, ← S8_eq] at this
    rw [show (stT tr9p 88 2238 w os).abs = ⟨absHeap (tr9p w.params) 88 {}, #[], boot_drawn, 2238, os⟩ from rfl, ← heap9]
    exact this
  · refine T.bind (n := 1) (T.at T.pure) (T.bind (n := 6) (T.store w os) T.pure)
end Mine
end
section
-- part W0
open PySem PySem.W PyProof.Rows
set_option maxRecDepth 100000
set_option maxHeartbeats 0
set_option linter.all false
namespace Mine
/-- the objects that the top leaves stand in the heap -/
def Says (w : World) (h : Heap) : Prop := ∀ b o, (H1 w.params).get? b = some o → h.get? b = some o
def Fine (n : Nat) (A : Around) : Prop := A.handled = none ∧ A.depth + n ≤ 900 ∧ A.units + 100 * n ≤ 9000
theorem Fine.deeper {n : Nat} {A : Around} {env : Env} (h : Fine (n + 1) A) : Fine n (A.deeper env) := by
  obtain ⟨a, b, c⟩ := h
  refine ⟨a, ?_, ?_⟩
  · show A.depth + 1 + n ≤ 900; omega
  · show A.units + 3 + 100 * n ≤ 9000; omega
theorem Fine.room {n : Nat} {A : Around} (h : Fine n A) : A.depth < recursionLimit := by
  have := h.2.1; unfold recursionLimit; omega
theorem Fine.units {n : Nat} {A : Around} (h : Fine n A) : A.units < cLine := by
  have := h.2.2; unfold cLine; omega
theorem Says.keeps {w : World} {h h' : Heap} (Y : Says w h) (k : ∀ b o, h.get? b = some o → h'.get? b = some o) : Says w h' := fun b o e => k b o (Y b o e)
noncomputable def entsMain (P : Params) : Array DictEntry := match (o3xf P).data with | .dict es _ => es | _ => #[]
noncomputable def mgF (P : Params) (n : Str) : Option Value := nsFind (entsMain P) n
noncomputable def entsBlt (P : Params) : Array DictEntry := match (boot_o_0 P).data with | .dict es _ => es | _ => #[]
noncomputable def mbF (P : Params) (n : Str) : Option Value := nsFind (entsBlt P) n
theorem strKeys_of {es : Array DictEntry} (h : (es.toList.all fun e => match e.key with | .str .. => true | _ => false) = true) : StrKeys es := fun e he => by
  have := List.all_eq_true.mp h e (Array.mem_toList_iff.mpr he)
  revert this
  cases e.key <;> simp
theorem Says.g {w : World} {h : Heap} (Y : Says w h) : h.Ns mainGlobals (mgF w.params) :=
  ⟨o3xf w.params, entsMain w.params, 23, Y 3 _ (by kernel_rfl!), by rfl, strKeys_of (by kernel_rfl!), fun _ => rfl⟩
theorem Says.b {w : World} {h : Heap} (Y : Says w h) : h.Ns builtinsNs (mbF w.params) :=
  ⟨boot_o_0 w.params, entsBlt w.params, 159, Y 0 _ (by kernel_rfl!), by rfl, strKeys_of (by kernel_rfl!), fun _ => rfl⟩
theorem Says.nolimit {w : World} {h : Heap} (Y : Says w h) : h.NoLimit :=
  ⟨fun _ => none, ⟨boot_o_2 w.params, #[], 0, Y 2 _ (by kernel_rfl!), by rfl, strKeys_of rfl, fun _ => rfl⟩, rfl⟩
end Mine
end
section
-- part Head11
open PySem PySem.W PyProof.Rows
set_option maxRecDepth 100000
set_option maxHeartbeats 0
set_option linter.all false
namespace Mine
theorem pc_block (w : World) : (fun os => segRun treeTable pw w 11 ann 1 1 (stT tra 15 187 w os).abs (blockOf bE env cE p0 B0)) = fun os => some (.next, (stT trb 15 187 w os).abs, cE, p0) := by kernel_rfl!
theorem pc_fin (w : World) : (fun os => topRun treeTable pw w 11 ann 2 (stT trf 138 2303 w os).abs ⟨doneF .next, cE, ⟨102, 0, 131, 96⟩, B0⟩) = fun os => some (stT trf 138 2303 w os).abs := by kernel_rfl!
theorem cut_a : bE = bE.take 6 ++ bE.drop 6 := by kernel_rfl!
theorem cut_b : bE.drop 6 = (bE.drop 6).take 1 ++ bE.drop 7 := by kernel_rfl!
theorem cut_c : bE.drop 7 = (bE.drop 7).take 1 ++ bE.drop 8 := by kernel_rfl!
theorem cut_d : bE.drop 8 = stm 8 :: bE.drop 9 := by kernel_rfl!
theorem run_f (w : World) (os : OsState) (pos : Pos) : topRun treeTable pw w 11 ann (250 + 2) (stT tr9 88 2239 w os).abs (restOf (bE.drop 9) env cE pos B0) = some (stT trf 138 2303 w os).abs := by
  have := piece_app (rest := []) (segRun_of (congrFun (pc_f w pos) os)) (piece_nil (congrFun (pc_fin w) os))
  rwa [List.append_nil] at this
theorem run_8 (w : World) (os : OsState) (pos : Pos) : topRun treeTable pw w 11 ann (250 + 2 + 300000) (stT tr8 49 288 w os).abs (restOf (bE.drop 8) env cE pos B0) = some (stT trf 138 2303 w os).abs := by
  rw [cut_d]
  unfold restOf
  rw [execs_cons_wrap]
  exact T.stm8 w os _ _ _ _ pos (250 + 2) _ fun pos' => run_f w os pos'
theorem run_all (w : World) (os : OsState) : topRun treeTable pw w 11 ann (12 + (1 + (112 + (1000 + (30 + (250 + 2 + 300000)))))) ⟨boot_heap w.params, #[], boot_drawn, boot_toks, os⟩ (topStub pw) = some (stT trf 138 2303 w os).abs := by
  refine go_top (congrFun (pc_pre w) os) ?_
  refine piece_block (congrFun (pc_block w) os) ?_
  have e7 := piece_app (segRun_of (congrFun (pc_8 w) os)) (run_8 w os _)
  rw [← cut_c] at e7
  have e6 := piece_app (segRun_of (congrFun (pc_7 w) os)) e7
  rw [← cut_b] at e6
  have e0 := piece_app (segRun_of (congrFun (pc_6 w) os)) e6
  rw [← cut_a] at e0
  exact e0
noncomputable def hook : Hook where
  α := List (Option Obj)
  obs s := (List.range 138).map s.heap.get?
  val w := (List.range 138).map (H1 w.params).get?
  says := Says
  of w s e b o ho := by
    have lt : b < 138 := by
      have := Heap.lt_size ho
      rwa [show (H1 w.params).objs.size = 138 from absHeap_size _ _ _] at this
    have := congrArg (fun l : List (Option Obj) => l[b]?) e
    simp only [List.getElem?_map, List.getElem?_range lt, Option.map_some, Option.some.injEq] at this
    rw [this]; exact ho
  keeps w h h' s k b o ho := k b o (s b o ho)
theorem opening_pw : opening pw = plainProg pw.main.scope.names := by kernel_rfl!
theorem size0 (w : World) : ((boot_heap w.params).isNs mainGlobals && (#[] : Array GenState).size == 0, (boot_heap w.params).objs.size, (boot_heap w.params).nsMap mainGlobals "__annotations__") = (true, 11, ann) := by kernel_rfl!
theorem left : LeftO pw q loose Xt hook.obs hook.val 400000 := by
  refine LeftO.of_pieces (H₀ := boot_heap) (H₁ := H1) (gs₀ := #[]) (gs₁ := #[]) (d₀ := boot_drawn) (d₁ := boot_drawn) (k₀ := boot_toks) (k₁ := 2303) (m₀ := 11) (ann := ann) (M := 12 + (1 + (112 + (1000 + (30 + (250 + 2 + 300000)))))) (boot_open opening_pw (by decide) fun s => rfl) size0 run_all (by decide) fun w => ?_
  funext os
  refine looks_pair ?_ (looks_pair (lk3 w os) rfl)
  rw [lk0 w, lk1 w, lk2 w]
  rfl
end Mine
end
section
-- part W1
open PySem PySem.W PyProof.Rows
set_option maxRecDepth 100000
set_option maxHeartbeats 0
set_option linter.all false
namespace Mine
abbrev No : Value → Shared → Prop := fun _ _ => False
noncomputable abbrev M (w : World) : Model := model pw w
theorem kr (s : Shared) : Keeps s s := ⟨s.heap, s.toks, rfl, fun _ _ e => e⟩
theorem kt {a b c : Shared} (x : Keeps a b) (y : Keeps b c) : Keeps a c := by
  obtain ⟨h, t, rfl, k⟩ := x
  obtain ⟨h', t', rfl, k'⟩ := y
  exact ⟨h', t', rfl, fun b o e => k' b o (k b o e)⟩
theorem kg {a b : Shared} (x : Keeps a b) : ∀ i o, a.heap.get? i = some o → b.heap.get? i = some o := by
  obtain ⟨h, t, rfl, k⟩ := x; exact k
theorem ktok (s : Shared) (t : Nat) : Keeps s { s with toks := t } := ⟨s.heap, t, rfl, fun _ _ e => e⟩
theorem kpush (s : Shared) (o : Obj) (t : Nat) : Keeps s { s with heap := s.heap.push o, toks := t } := ⟨_, t, rfl, fun _ _ e => Heap.get?_push_of_some o e⟩
theorem Fr.kept {h₀ h h' : Heap} {L : Addr} {m : Str → Option Value} (F : Fr h₀ L h m) (k : ∀ b o, h.get? b = some o → h'.get? b = some o) : Fr h₀ L h' m :=
  ⟨F.ns.keeps k, fun b o e => k b o (F.keep b o e), F.above⟩
def Stb (C : Shared → Prop) : Prop := ∀ s s', C s → Keeps s s' → C s'
def Stb2 (P : Value → Shared → Prop) : Prop := ∀ v s s', P v s → Keeps s s' → P v s'
abbrev II (i : Int) : Value → Shared → Prop := fun v _ => ∃ t, v = .int i t
abbrev SS (x : Str) : Value → Shared → Prop := fun v _ => ∃ t, v = .str x t
abbrev BB (b : Bool) : Value → Shared → Prop := fun v _ => v = .bool b
abbrev VV (u : Value) : Value → Shared → Prop := fun v _ => v = u
theorem II.stb {i : Int} : Stb2 (II i) := fun _ _ _ h _ => h
theorem SS.stb {i : Str} : Stb2 (SS i) := fun _ _ _ h _ => h
theorem BB.stb {i : Bool} : Stb2 (BB i) := fun _ _ _ h _ => h
theorem VV.stb {u : Value} : Stb2 (VV u) := fun _ _ _ h _ => h
section
variable {w : World} {A : Around} {env : Env} {C : Shared → Prop} {P Pl Pr : Value → Shared → Prop}
/-- an expression's value, in a context that stands -/
structure Pe (w : World) (A : Around) (env : Env) (C : Shared → Prop) (e : PySem.Expr) (P : Value → Shared → Prop) : Prop where
  of ::
  f : ∀ s, C s → wpAny (M w) A (eval e env) (fun v s' => P v s' ∧ Keeps s s') No s
/-- a test's answer -/
structure Pt (w : World) (A : Around) (env : Env) (C : Shared → Prop) (e : PySem.Expr) (b : Bool) : Prop where
  of ::
  f : ∀ s, C s → wpAny (M w) A (isTrue e env (eval e env)) (fun v s' => v = b ∧ Keeps s s') No s
theorem Pe.mono {e : PySem.Expr} (h : Pe w A env C e P) (k : ∀ v s, P v s → Pl v s) : Pe w A env C e Pl := .of fun s hs => wpAny_mono (h.f s hs) (fun v s' x => ⟨k v s' x.1, x.2⟩) fun _ _ x => x
theorem Pe.two {l r : PySem.Expr} (hC : Stb C) (kl : Stb2 Pl) (hl : Pe w A env C l Pl) (hr : Pe w A env C r Pr) {s : Shared} (hs : C s) {α : Type} {t : Value → Value → Sem α} {Q : α → Shared → Prop}
    (ht : ∀ a b s', C s' → Pl a s' → Pr b s' → Keeps s s' → wpAny (M w) A (t a b) Q No s') :
    wpAny (M w) A (eval l env) (fun a s₁ => wpAny (M w) A (eval r env) (fun b s₂ => wpAny (M w) A (t a b) Q No s₂) No s₁) No s :=
  wpAny_mono (hl.f s hs) (fun a s₁ ⟨ha, k1⟩ => wpAny_mono (hr.f s₁ (hC _ _ hs k1)) (fun b s₂ ⟨hb, k2⟩ => ht a b s₂ (hC _ _ (hC _ _ hs k1) k2) (kl _ _ _ ha k2) hb (kt k1 k2)) fun _ _ x => x) fun _ _ x => x
theorem Pe.bin {l r : PySem.Expr} {op : Operator} {pos : Pos} (hC : Stb C) (kl : Stb2 Pl) (hl : Pe w A env C l Pl) (hr : Pe w A env C r Pr)
    (hop : ∀ a b s, C s → Pl a s → Pr b s → wpAny (M w) A (binaryOp op a b) (fun v s' => P v s' ∧ Keeps s s') No s) : Pe w A env C (.BinOp l op r pos) P := .of fun s hs =>
  wpAny_BinOp (Pe.two hC kl hl hr hs fun a b s' c x y k => wpAny_mono (hop a b s' c x y) (fun _ _ z => ⟨z.1, kt k z.2⟩) fun _ _ x => x)
theorem Pe.cmp {l r : PySem.Expr} {op : CmpOp} {pos : Pos} (hC : Stb C) (kl : Stb2 Pl) (hl : Pe w A env C l Pl) (hr : Pe w A env C r Pr)
    (hop : ∀ a b s, C s → Pl a s → Pr b s → wpAny (M w) A (compareOp op a b) (fun v s' => P v s' ∧ Keeps s s') No s) (hm : behindInMarks op r = false := by with_unfolding_all rfl) : Pe w A env C (.Compare l [op] [r] pos) P := .of fun s hs =>
  wpAny_Compare1 (Pe.two hC kl hl hr hs fun a b s' c x y k => wpAny_mono (hop a b s' c x y) (fun _ _ z => ⟨z.1, kt k z.2⟩) fun _ _ x => x) hm
theorem Pt.cmp {l r : PySem.Expr} {op : CmpOp} {pos : Pos} {b : Bool} (hC : Stb C) (kl : Stb2 Pl) (hl : Pe w A env C l Pl) (hr : Pe w A env C r Pr)
    (hop : ∀ x y s, C s → Pl x s → Pr y s → wpAny (M w) A (compareOp op x y) (fun v s' => v = .bool b ∧ Keeps s s') No s) (hm : behindInMarks op r = false := by with_unfolding_all rfl) : Pt w A env C (.Compare l [op] [r] pos) b := .of fun s hs =>
  wpAny_isTrue_Compare1 (Pe.two hC kl hl hr hs fun x y s' c hx hy k => wpAny_mono (hop x y s' c hx hy) (fun _ _ z => by obtain ⟨rfl, z⟩ := z; exact wpAny_truthy_bool ⟨rfl, kt k z⟩) fun _ _ x => x) hm
theorem Pe.int {i : Int} {k pos} : Pe w A env C (.Constant (.int i) k pos) (II i) := .of fun s _ => wpAny_Constant_int ⟨⟨_, rfl⟩, ktok _ _⟩
theorem Pe.str {x : Str} {k pos} : Pe w A env C (.Constant (.str x) k pos) (SS x) := .of fun s _ => wpAny_Constant_str ⟨⟨_, rfl⟩, ktok _ _⟩
theorem Pe.bool {b : Bool} {k pos} : Pe w A env C (.Constant (.bool b) k pos) (BB b) := .of fun s _ => wpAny_Constant_bool ⟨rfl, kr _⟩
theorem Pe.none {k pos} : Pe w A env C (.Constant .none k pos) (VV .none) := .of fun s _ => wpAny_Constant_none ⟨rfl, kr _⟩
section
variable {l r : PySem.Expr} {pos : Pos} {i j : Int} {x y : Str}
theorem Pe.addI (hC : Stb C) (hl : Pe w A env C l (II i)) (hr : Pe w A env C r (II j)) : Pe w A env C (.BinOp l .Add r pos) (II (i + j)) :=
  Pe.bin hC II.stb hl hr fun a b s _ ⟨_, ha⟩ ⟨_, hb⟩ => by subst ha hb; exact add_int ⟨⟨_, rfl⟩, ktok _ _⟩
theorem Pe.subI (hC : Stb C) (hl : Pe w A env C l (II i)) (hr : Pe w A env C r (II j)) : Pe w A env C (.BinOp l .Sub r pos) (II (i - j)) :=
  Pe.bin hC II.stb hl hr fun a b s _ ⟨_, ha⟩ ⟨_, hb⟩ => by subst ha hb; exact sub_int ⟨⟨_, rfl⟩, ktok _ _⟩
theorem Pe.divI (hC : Stb C) (hl : Pe w A env C l (II i)) (hr : Pe w A env C r (II j)) (h0 : j ≠ 0) (hp : Builtin.divisionGoesByPylong i j = false) : Pe w A env C (.BinOp l .FloorDiv r pos) (II (i.fdiv j)) :=
  Pe.bin hC II.stb hl hr fun a b s _ ⟨_, ha⟩ ⟨_, hb⟩ => by subst ha hb; exact floordiv_int h0 ⟨⟨_, rfl⟩, ktok _ _⟩ (.inl hp)
theorem Pe.modI (hC : Stb C) (hl : Pe w A env C l (II i)) (hr : Pe w A env C r (II j)) (h0 : j ≠ 0) : Pe w A env C (.BinOp l .Mod r pos) (II (i.fmod j)) :=
  Pe.bin hC II.stb hl hr fun a b s _ ⟨_, ha⟩ ⟨_, hb⟩ => by subst ha hb; exact mod_int' h0 ⟨⟨_, rfl⟩, ktok _ _⟩
theorem Pe.mulI (hC : Stb C) (hl : Pe w A env C l (II i)) (hr : Pe w A env C r (II j)) (hp : IntMulOk i j) : Pe w A env C (.BinOp l .Mult r pos) (II (i * j)) :=
  Pe.bin hC II.stb hl hr fun a b s _ ⟨_, ha⟩ ⟨_, hb⟩ => by subst ha hb; exact mul_int ⟨⟨_, rfl⟩, ktok _ _⟩ hp
theorem Pe.powI (hC : Stb C) (hl : Pe w A env C l (II i)) (hr : Pe w A env C r (II j)) (h0 : 0 ≤ j) (h1 : j ≤ 1000000) (h2 : i.natAbs < 2 ^ 64) : Pe w A env C (.BinOp l .Pow r pos) (II (i ^ j.toNat)) :=
  Pe.bin hC II.stb hl hr fun a b s _ ⟨_, ha⟩ ⟨_, hb⟩ => by subst ha hb; exact pow_int_small h0 h1 h2 ⟨⟨_, rfl⟩, ktok _ _⟩
theorem Pe.addS (hC : Stb C) (hl : Pe w A env C l (SS x)) (hr : Pe w A env C r (SS y)) (hz : x.length + y.length ≤ sizeLine) : Pe w A env C (.BinOp l .Add r pos) (SS (x ++ y)) :=
  Pe.bin hC SS.stb hl hr fun a b s _ ⟨_, ha⟩ ⟨_, hb⟩ => by subst ha hb; exact add_str (fun t' tk => ⟨⟨_, rfl⟩, ktok _ _⟩) hz
theorem Pt.ltI (hC : Stb C) (hl : Pe w A env C l (II i)) (hr : Pe w A env C r (II j)) (hm : behindInMarks .Lt r = false := by with_unfolding_all rfl) : Pt w A env C (.Compare l [.Lt] [r] pos) (decide (i < j)) :=
  Pt.cmp hC II.stb hl hr (fun a b s _ ⟨_, ha⟩ ⟨_, hb⟩ => by subst ha hb; exact lt_int ⟨rfl, kr _⟩) hm
theorem Pt.gtI (hC : Stb C) (hl : Pe w A env C l (II i)) (hr : Pe w A env C r (II j)) (hm : behindInMarks .Gt r = false := by with_unfolding_all rfl) : Pt w A env C (.Compare l [.Gt] [r] pos) (decide (j < i)) :=
  Pt.cmp hC II.stb hl hr (fun a b s _ ⟨_, ha⟩ ⟨_, hb⟩ => by subst ha hb; exact gt_int ⟨rfl, kr _⟩) hm
theorem Pt.eqI (hC : Stb C) (hl : Pe w A env C l (II i)) (hr : Pe w A env C r (II j)) (hm : behindInMarks .Eq r = false := by with_unfolding_all rfl) : Pt w A env C (.Compare l [.Eq] [r] pos) (i == j) :=
  Pt.cmp hC II.stb hl hr (fun a b s _ ⟨_, ha⟩ ⟨_, hb⟩ => by subst ha hb; exact eq_int ⟨rfl, kr _⟩) hm
theorem Pe.eqI (hC : Stb C) (hl : Pe w A env C l (II i)) (hr : Pe w A env C r (II j)) (hm : behindInMarks .Eq r = false := by with_unfolding_all rfl) : Pe w A env C (.Compare l [.Eq] [r] pos) (BB (i == j)) :=
  Pe.cmp hC II.stb hl hr (fun a b s _ ⟨_, ha⟩ ⟨_, hb⟩ => by subst ha hb; exact eq_int ⟨rfl, kr _⟩) hm
theorem Pt.eqS (hC : Stb C) (hl : Pe w A env C l (SS x)) (hr : Pe w A env C r (SS y)) (hm : behindInMarks .Eq r = false := by with_unfolding_all rfl) : Pt w A env C (.Compare l [.Eq] [r] pos) (x == y) :=
  Pt.cmp hC SS.stb hl hr (fun a b s _ ⟨_, ha⟩ ⟨_, hb⟩ => by subst ha hb; exact eq_str ⟨rfl, kr _⟩) hm
theorem Pt.neS (hC : Stb C) (hl : Pe w A env C l (SS x)) (hr : Pe w A env C r (SS y)) (hm : behindInMarks .NotEq r = false := by with_unfolding_all rfl) : Pt w A env C (.Compare l [.NotEq] [r] pos) (x != y) :=
  Pt.cmp hC SS.stb hl hr (fun a b s _ ⟨_, ha⟩ ⟨_, hb⟩ => by subst ha hb; exact ne_str ⟨rfl, kr _⟩) hm
theorem Pt.ltS (hC : Stb C) (hl : Pe w A env C l (SS x)) (hr : Pe w A env C r (SS y)) (hm : behindInMarks .Lt r = false := by with_unfolding_all rfl) : Pt w A env C (.Compare l [.Lt] [r] pos) (decide (x.cps.toList < y.cps.toList)) :=
  Pt.cmp hC SS.stb hl hr (fun a b s _ ⟨_, ha⟩ ⟨_, hb⟩ => by subst ha hb; exact lt_str ⟨rfl, kr _⟩) hm
theorem Pt.notInS (hC : Stb C) (hl : Pe w A env C l (SS x)) (hr : Pe w A env C r (SS y)) (hm : behindInMarks .NotIn r = false := by with_unfolding_all rfl) : Pt w A env C (.Compare l [.NotIn] [r] pos) (!!List.isEmpty (Builtin.Str.occurrences y x 0 y.length 1)) :=
  Pt.cmp hC SS.stb hl hr (fun a b s _ ⟨_, ha⟩ ⟨_, hb⟩ => by subst ha hb; exact notIn_str ⟨rfl, kr _⟩) hm
theorem Pt.and {b c : Bool} (hC : Stb C) (hl : Pt w A env C l b) (hr : b = true → Pt w A env C r c) : Pt w A env C (.BoolOp .And [l, r] pos) (b && c) := .of fun s hs =>
  wpAny_isTrue_BoolOp (wpAny_allTrue_And_cons (wpAny_mono (hl.f s hs) (fun v s₁ ⟨e, k⟩ => by
    subst e
    cases v with
    | false => exact ⟨rfl, k⟩
    | true => exact wpAny_allTrue_And_cons (wpAny_mono ((hr rfl).f s₁ (hC _ _ hs k)) (fun v s₂ ⟨e, k'⟩ => by
        subst e
        cases v with
        | false => exact ⟨rfl, kt k k'⟩
        | true => exact wpAny_allTrue_And_nil ⟨rfl, kt k k'⟩) fun _ _ x => x)) fun _ _ x => x))
theorem Pt.or {b c : Bool} (hC : Stb C) (hl : Pt w A env C l b) (hr : b = false → Pt w A env C r c) : Pt w A env C (.BoolOp .Or [l, r] pos) (b || c) := .of fun s hs =>
  wpAny_isTrue_BoolOp (wpAny_allTrue_Or_cons (wpAny_mono (hl.f s hs) (fun v s₁ ⟨e, k⟩ => by
    subst e
    cases v with
    | true => exact ⟨rfl, k⟩
    | false => exact wpAny_allTrue_Or_cons (wpAny_mono ((hr rfl).f s₁ (hC _ _ hs k)) (fun v s₂ ⟨e, k'⟩ => by
        subst e
        cases v with
        | true => exact ⟨rfl, kt k k'⟩
        | false => exact wpAny_allTrue_Or_nil ⟨rfl, kt k k'⟩) fun _ _ x => x)) fun _ _ x => x))
theorem Pt.not {b : Bool} (hl : Pt w A env C l b) : Pt w A env C (.UnaryOp .Not l pos) (!b) := .of fun s hs =>
  wpAny_isTrue_Not (wpAny_mono (hl.f s hs) (fun v s₁ ⟨e, k⟩ => ⟨by rw [e], k⟩) fun _ _ x => x)
end
end
end Mine
end
section
-- part W2
open PySem PySem.W PyProof.Rows
set_option maxRecDepth 100000
set_option maxHeartbeats 0
set_option linter.all false
namespace Mine
/-- within a call that began at s₀: the frame's names -/
def Fc (s₀ : Shared) (L : Addr) (l : List (Str × Value)) (s : Shared) : Prop :=
  ∃ h tk m, s = { s₀ with heap := h, toks := tk } ∧ Fr s₀.heap L h m ∧ ∀ p ∈ l, m p.1 = some p.2
theorem Fc.stb {s₀ : Shared} {L : Addr} {l : List (Str × Value)} : Stb (Fc s₀ L l) := by
  rintro s s' ⟨h, tk, m, rfl, F, hl⟩ ⟨h', tk', rfl, k⟩
  exact ⟨h', tk', m, rfl, Fr.kept F k, hl⟩
theorem Fc.keeps {s₀ : Shared} {L : Addr} {l : List (Str × Value)} {s : Shared} (x : Fc s₀ L l s) : Keeps s₀ s := by
  obtain ⟨h, tk, m, rfl, F, hl⟩ := x
  exact ⟨h, tk, rfl, F.keep⟩
theorem Fc.says {w : World} {s₀ : Shared} {L : Addr} {l : List (Str × Value)} {s : Shared} (x : Fc s₀ L l s) (Y : Says w s₀.heap) : Says w s.heap := Y.keeps (kg x.keeps)
theorem Fc.sub {s₀ : Shared} {L : Addr} {l l' : List (Str × Value)} {s : Shared} (x : Fc s₀ L l s) (h : ∀ p ∈ l', p ∈ l) : Fc s₀ L l' s := by
  obtain ⟨hh, tk, m, e, F, hl⟩ := x
  exact ⟨hh, tk, m, e, F, fun p hp => hl p (h p hp)⟩
theorem Fc.start {s : Shared} {h₁ : Heap} {L : Addr} {tk : Nat} {binds l : List (Str × Value)} (F : Fr s.heap L h₁ (fun x => binds.reverse.lookup x)) (hl : ∀ p ∈ l, binds.reverse.lookup p.1 = some p.2) : Fc s L l { s with heap := h₁, toks := tk } :=
  ⟨h₁, tk, _, rfl, F, hl⟩
section
variable {w : World} {A : Around} {C : Shared → Prop} {s₀ : Shared} {L : Addr} {l : List (Str × Value)} {cn : Str} {cs : Scope} {ca : Addr} {ccd : Value}
theorem Pe.loc {x : Str} {pos : Pos} {v : Value} (hF : ∀ s, C s → Fc s₀ L l s) (hx : (x, v) ∈ l) (hk : cs.kind = .function := by rfl) (hl : (envOf cn cs L ca ccd).kindOf x = some .local := by rfl)
    (hd : (x == ("__debug__" : Str)) = false := by decide) : Pe w A (envOf cn cs L ca ccd) C (.Name x pos) (VV v) := .of fun s hs => by
  obtain ⟨h, tk, m, rfl, F, hm⟩ := hF s hs
  exact ld F (hm _ hx) ⟨rfl, kr _⟩ hk hl hd
theorem Pe.locI {x : Str} {pos : Pos} {i : Int} {t : Tok} (hF : ∀ s, C s → Fc s₀ L l s) (hx : (x, Value.int i t) ∈ l) (hk : cs.kind = .function := by rfl) (hl : (envOf cn cs L ca ccd).kindOf x = some .local := by rfl)
    (hd : (x == ("__debug__" : Str)) = false := by decide) : Pe w A (envOf cn cs L ca ccd) C (.Name x pos) (II i) := (Pe.loc hF hx hk hl hd).mono fun _ _ e => ⟨t, e⟩
theorem Pe.locS {x : Str} {pos : Pos} {i : Str} {t : Tok} (hF : ∀ s, C s → Fc s₀ L l s) (hx : (x, Value.str i t) ∈ l) (hk : cs.kind = .function := by rfl) (hl : (envOf cn cs L ca ccd).kindOf x = some .local := by rfl)
    (hd : (x == ("__debug__" : Str)) = false := by decide) : Pe w A (envOf cn cs L ca ccd) C (.Name x pos) (SS i) := (Pe.loc hF hx hk hl hd).mono fun _ _ e => ⟨t, e⟩
theorem Pe.glob {x : Str} {pos : Pos} {v : Value} (hF : ∀ s, C s → Fc s₀ L l s) (Y : Says w s₀.heap) (hv : mgF w.params x = some v) (hk : cs.kind = .function := by rfl)
    (hx : (envOf cn cs L ca ccd).kindOf x = some .globalImplicit := by rfl) (hd : (x == ("__debug__" : Str)) = false := by decide) : Pe w A (envOf cn cs L ca ccd) C (.Name x pos) (VV v) := .of fun s hs => by
  obtain ⟨h, tk, m, rfl, F, hm⟩ := hF s hs
  exact ld_global_at F Y.g hv ⟨rfl, kr _⟩ hk hx hd
theorem Pe.blt {x : Str} {pos : Pos} {v : Value} (hF : ∀ s, C s → Fc s₀ L l s) (Y : Says w s₀.heap) (hv : mgF w.params x = Option.none ∧ mbF w.params x = some v) (hk : cs.kind = .function := by rfl)
    (hx : (envOf cn cs L ca ccd).kindOf x = some .globalImplicit := by rfl) (hd : (x == ("__debug__" : Str)) = false := by decide) : Pe w A (envOf cn cs L ca ccd) C (.Name x pos) (VV v) := .of fun s hs => by
  obtain ⟨h, tk, m, rfl, F, hm⟩ := hF s hs
  exact ld_builtin_at F Y.g hv.1 Y.b hv.2 ⟨rfl, kr _⟩ hk hx hd
/-- a store into a name of the frame -/
theorem Fc.store {x : Str} {v : Value} {l' : List (Str × Value)} {Q : Unit → Shared → Prop} {E : Value → Shared → Prop} {s : Shared} (hF : Fc s₀ L l s) (hl' : ∀ p ∈ l', p = (x, v) ∨ (p ∈ l ∧ p.1 ≠ x))
    (h : ∀ s', Fc s₀ L l' s' → (∀ b o, b ≠ L → s.heap.get? b = some o → s'.heap.get? b = some o) → Q () s')
    (hk : cs.kind = .function := by rfl) (hl : (envOf cn cs L ca ccd).kindOf x = some .local := by rfl) : wpAny (M w) A (storeName (envOf cn cs L ca ccd) x v) Q E s := by
  obtain ⟨hh, tk, m, rfl, F, hm⟩ := hF
  refine wpAny_storeName_local hl F.ns (fun h' hn hs => ?_) (by show (cs.kind == .class || (cs.kind == .module && L != mainGlobals)) = false; rw [hk]; rfl)
  refine h _ ⟨h', _, _, rfl, F.set hn hs, fun p hp => ?_⟩ fun b o hb e => hs.extBut b o hb e
  rcases hl' p hp with rfl | ⟨a, b⟩
  · simp
  · simp [b, hm p a]
end
section
variable {w : World} {A : Around} {env : Env} {C : Shared → Prop} {P P1 P2 P3 : Value → Shared → Prop}
theorem args1 {e : PySem.Expr} {pos : Pos} (he : Pe w A env C e P1) {s : Shared} (hs : C s) {Q : List Value → Shared → Prop} (h : ∀ a s', P1 a s' → Keeps s s' → Q [a] s')
    (h1 : starEach [e] env = (false, eval e env) :: starEach [] env := by rfl) : wpAny (M w) A (spliced (backTo pos (starEach [e] env))) Q No s :=
  wpAny_items_cons (wpAny_mono (he.f s hs) (fun a s₁ ⟨ha, k⟩ => wpAny_items_nil (h a s₁ ha k)) fun _ _ x => x) h1
theorem args2 {e f : PySem.Expr} {pos : Pos} (hC : Stb C) (k1 : Stb2 P1) (he : Pe w A env C e P1) (hf : Pe w A env C f P2) {s : Shared} (hs : C s) {Q : List Value → Shared → Prop} (h : ∀ a b s', P1 a s' → P2 b s' → Keeps s s' → Q [a, b] s')
    (h1 : starEach [e, f] env = (false, eval e env) :: starEach [f] env := by rfl) (h2 : starEach [f] env = (false, eval f env) :: starEach [] env := by rfl) : wpAny (M w) A (spliced (backTo pos (starEach [e, f] env))) Q No s :=
  wpAny_items_cons (wpAny_mono (he.f s hs) (fun a s₁ ⟨ha, k⟩ => wpAny_items_cons (wpAny_mono (hf.f s₁ (hC _ _ hs k)) (fun b s₂ ⟨hb, k'⟩ => wpAny_items_nil (h a b s₂ (k1 _ _ _ ha k') hb (kt k k'))) fun _ _ x => x) h2) fun _ _ x => x) h1
theorem Pe.call1 {f e : PySem.Expr} {id : String} {pos : Pos} (hC : Stb C) (hf : Pe w A env C f (VV (.builtin id))) (he : Pe w A env C e P1)
    (hc : ∀ a s, C s → P1 a s → wpAny (M w) A (call (.builtin id) [a]) (fun v s' => P v s' ∧ Keeps s s') No s)
    (h0 : eval (f.Call [e] [] pos) env = (do callWith pos (← eval f env) [] (backTo pos (starEach [e] env)) (backToKw pos (keywordEach [] env))) := by rfl)
    (h1 : starEach [e] env = (false, eval e env) :: starEach [] env := by rfl) : Pe w A env C (.Call f [e] [] pos) P := .of fun s hs =>
  Call_ (wpAny_mono (hf.f s hs) (fun v s₁ ⟨ev, k⟩ => by
    cases ev
    exact PyProof.Rows.callWith_builtin1 (args1 he (hC _ _ hs k) (fun a s₂ ha k' => wpAny_mono (hc a s₂ (hC _ _ (hC _ _ hs k) k') ha) (fun v s' x => ⟨x.1, kt (kt k k') x.2⟩) fun _ _ x => x) h1) h1 rfl) fun _ _ x => x) h0
theorem Pe.type1 {f e : PySem.Expr} {id : String} {pos : Pos} (hC : Stb C) (hf : Pe w A env C f (VV (.type id))) (he : Pe w A env C e P1)
    (hc : ∀ a s, C s → P1 a s → wpAny (M w) A (call (.type id) [a]) (fun v s' => P v s' ∧ Keeps s s') No s)
    (h0 : eval (f.Call [e] [] pos) env = (do callWith pos (← eval f env) [] (backTo pos (starEach [e] env)) (backToKw pos (keywordEach [] env))) := by rfl)
    (h1 : starEach [e] env = (false, eval e env) :: starEach [] env := by rfl) : Pe w A env C (.Call f [e] [] pos) P := .of fun s hs =>
  Call_ (wpAny_mono (hf.f s hs) (fun v s₁ ⟨ev, k⟩ => by
    cases ev
    exact PyProof.Rows.callWith_type1 (args1 he (hC _ _ hs k) (fun a s₂ ha k' => wpAny_mono (hc a s₂ (hC _ _ (hC _ _ hs k) k') ha) (fun v s' x => ⟨x.1, kt (kt k k') x.2⟩) fun _ _ x => x) h1) h1 rfl) fun _ _ x => x) h0
theorem Pe.def1 {f e : PySem.Expr} {g : Addr} {o : Obj} {fd : FuncData} {pos : Pos} (hC : Stb C) (hf : Pe w A env C f (VV (.ref g))) (ho : ∀ s, C s → s.heap.get? g = some o) (hd : o.data = .func fd) (he : Pe w A env C e P1)
    (hc : ∀ a s, C s → P1 a s → wpAny (M w) A (call (.ref g) [a]) (fun v s' => P v s' ∧ Keeps s s') No s)
    (h0 : eval (f.Call [e] [] pos) env = (do callWith pos (← eval f env) [] (backTo pos (starEach [e] env)) (backToKw pos (keywordEach [] env))) := by rfl)
    (h1 : starEach [e] env = (false, eval e env) :: starEach [] env := by rfl) : Pe w A env C (.Call f [e] [] pos) P := .of fun s hs =>
  Call_ (wpAny_mono (hf.f s hs) (fun v s₁ ⟨ev, k⟩ => by
    cases ev
    exact callWith_def_at (ho s hs) hd (args1 he (hC _ _ hs k) (fun a s₂ ha k' => ⟨ho s₂ (hC _ _ (hC _ _ hs k) k'), wpAny_mono (hc a s₂ (hC _ _ (hC _ _ hs k) k') ha) (fun v s' x => ⟨x.1, kt (kt k k') x.2⟩) fun _ _ x => x⟩) h1) h1) fun _ _ x => x) h0
theorem Pe.def2 {f e e' : PySem.Expr} {g : Addr} {o : Obj} {fd : FuncData} {pos : Pos} (hC : Stb C) (k1 : Stb2 P1) (hf : Pe w A env C f (VV (.ref g))) (ho : ∀ s, C s → s.heap.get? g = some o) (hd : o.data = .func fd) (he : Pe w A env C e P1) (he' : Pe w A env C e' P2)
    (hc : ∀ a b s, C s → P1 a s → P2 b s → wpAny (M w) A (call (.ref g) [a, b]) (fun v s' => P v s' ∧ Keeps s s') No s)
    (h0 : eval (f.Call [e, e'] [] pos) env = (do callWith pos (← eval f env) [] (backTo pos (starEach [e, e'] env)) (backToKw pos (keywordEach [] env))) := by rfl)
    (h1 : starEach [e, e'] env = (false, eval e env) :: starEach [e'] env := by rfl) (h2 : starEach [e'] env = (false, eval e' env) :: starEach [] env := by rfl) : Pe w A env C (.Call f [e, e'] [] pos) P := .of fun s hs =>
  Call_ (wpAny_mono (hf.f s hs) (fun v s₁ ⟨ev, k⟩ => by
    cases ev
    exact callWith_def_at (ho s hs) hd (args2 hC k1 he he' (hC _ _ hs k) (fun a b s₂ ha hb k' => ⟨ho s₂ (hC _ _ (hC _ _ hs k) k'), wpAny_mono (hc a b s₂ (hC _ _ (hC _ _ hs k) k') ha hb) (fun v s' x => ⟨x.1, kt (kt k k') x.2⟩) fun _ _ x => x⟩) h1 h2) h1) fun _ _ x => x) h0
theorem Pe.lenS {f e : PySem.Expr} {x : Str} {pos : Pos} (hC : Stb C) (hf : Pe w A env C f (VV (.builtin "len"))) (he : Pe w A env C e (SS x)) (hz : x.length < 2 ^ 60)
    (h0 : eval (f.Call [e] [] pos) env = (do callWith pos (← eval f env) [] (backTo pos (starEach [e] env)) (backToKw pos (keywordEach [] env))) := by rfl)
    (h1 : starEach [e] env = (false, eval e env) :: starEach [] env := by rfl) : Pe w A env C (.Call f [e] [] pos) (II x.length) :=
  Pe.call1 hC hf he (fun a s _ ⟨_, ha⟩ => by subst ha; exact len_str (by omega) ⟨⟨_, rfl⟩, ktok _ _⟩) h0 h1
/-- one sign of a text -/
theorem Pe.itemS {v sl : PySem.Expr} {x : Str} {i : Int} {c : Nat} {pos : Pos} (hC : Stb C) (hv : Pe w A env C v (SS x)) (hi : Pe w A env C sl (II i)) (h0 : 0 ≤ i) (hc : x.cps[i.toNat]? = some c) (hz : x.length < 2 ^ 60)
    (hs1 : ∀ (a b : Value), subscripted sl false a b = operate [a, b] (getItem a b) := by intro _ _; with_unfolding_all rfl)
    (hs2 : ∀ (a r : Value), letTemporaryGo v a r = Pure.pure () := by intro _ _; rfl) : Pe w A env C (.Subscript v sl pos) (SS ⟨#[c]⟩) := .of fun s hs => by
  refine Subscript_ (Pe.two hC SS.stb hv hi hs fun a b s' _ ⟨ta, ha⟩ ⟨tb, hb⟩ k => ?_)
  subst ha hb
  have lt : i.toNat < x.cps.size := by
    rcases Nat.lt_or_ge i.toNat x.cps.size with q | q
    · exact q
    · rw [Array.getElem?_eq_none q] at hc; cases hc
  have lt' : i < (x.length : Int) := by show i < (x.cps.size : Int); omega
  have q := item_str (prog := pw) (w := w) (A := A) (E := No) (s := s') (value := v) (slice := sl) (x := x) (t := ta) (i := i) (u := tb) (Q := fun v s' => SS ⟨#[c]⟩ v s' ∧ Keeps s s') (by unfold fitsSsize; simp; omega) (by omega) lt'
    (fun _ => ⟨⟨s'.toks, by rw [item_meets h0 hc]⟩, kt k (ktok _ _)⟩) (hs1 _ _) (hs2 _)
  exact q
end
theorem Pe.run {w : World} {A : Around} {env : Env} {C : Shared → Prop} {P : Value → Shared → Prop} {e : PySem.Expr} {s : Shared} {Q : Value → Shared → Prop} {E : Value → Shared → Prop} (hs : C s) (h : Pe w A env C e P) (k : ∀ v s', P v s' → C s' → Keeps s s' → Q v s') (hC : Stb C) : wpAny (M w) A (eval e env) Q E s :=
  wpAny_mono (h.f s hs) (fun v s' x => k v s' x.1 (hC _ _ hs x.2) x.2) fun _ _ x => x.elim
theorem Pt.run {w : World} {A : Around} {env : Env} {C : Shared → Prop} {b : Bool} {e : PySem.Expr} {s : Shared} {Q : Bool → Shared → Prop} {E : Value → Shared → Prop} (hs : C s) (h : Pt w A env C e b) (k : ∀ s', C s' → Keeps s s' → Q b s') (hC : Stb C) : wpAny (M w) A (isTrue e env (eval e env)) Q E s :=
  wpAny_mono (h.f s hs) (fun v s' x => by obtain ⟨rfl, y⟩ := x; exact k s' (hC _ _ hs y) y) fun _ _ x => x.elim
/-- a for over anything that walks: the turn's contract -/
theorem for_walk {w : World} {A : Around} {env : Env} {x : Str} {px pos : Pos} {iter : PySem.Expr} {body : List Stmt} {s : Shared} {Q : Flow → Shared → Prop}
    (h : wpAny (M w) A (eval iter env) (fun v s₁ => wpAny (M w) A (pyIter v) (fun it s₂ => ∃ I fp wr n P St, ∃ J : Nat → Shared → Prop, it = .ref I ∧ Walks pw w A I fp wr n P St ∧ St 0 s₂.heap ∧ J 0 s₂ ∧
        (∀ i s, J i s → ∀ h' tk, (∀ b o, b ∉ wr → s.heap.get? b = some o → h'.get? b = some o) → J i { s with heap := h', toks := tk }) ∧
        (∀ i v s, i < n → P i v → J i s → St (i + 1) s.heap → wpAny (M w) A (storeName env x v) (fun _ s₂ => wpAny (M w) A (execs body env) (fun f s₃ => match f with
          | .next | .cont => J (i + 1) s₃ ∧ St (i + 1) s₃.heap
          | .brk => Q .next s₃
          | .ret v => Q (.ret v) s₃) No s₂) No s) ∧
        (∀ s, J n s → Q .next s)) No s₁) No s)
    (hs : ∀ x, foldedSetIterable iter env x = Pure.pure x := by intro _; rfl) :
    wpAny (M w) A (exec (.For (.Name x px) iter body [] pos) env) Q No s := by
  refine wpAny_For (wpAny_mono h (fun v s₁ h₁ => wpAny_mono h₁ (fun it s₂ h₂ => ?_) fun _ _ e => e) fun _ _ e => e) hs
  obtain ⟨I, fp, wr, n, P, St, J, rfl, W, st0, j0, jf, turn, fin⟩ := h₂
  refine codeAny_forLoop (fun k s => ∃ i, i ≤ n ∧ k = n - i ∧ J i s ∧ St i s.heap) (fun k s hk => ?_) n ⟨0, Nat.zero_le _, rfl, j0, st0⟩
  obtain ⟨i, hi, rfl, ji, sti⟩ := hk
  rcases Nat.lt_or_ge i n with lt | ge
  · refine W.item i s _ _ lt sti fun v h' tk hp hst hkeep => ?_
    refine wpAny_assign_Name (wpAny_mono (turn i v _ lt hp (jf i s ji h' tk hkeep) hst) (fun _ s₂ h₂ => wpAny_mono h₂ (fun f s₃ h₃ => ?_) fun _ _ e => e.elim) fun _ _ e => e.elim)
    cases f with
    | next => exact ⟨n - (i + 1), by omega, i + 1, lt, rfl, h₃⟩
    | cont => exact ⟨n - (i + 1), by omega, i + 1, lt, rfl, h₃⟩
    | brk => exact h₃
    | ret v => exact h₃
  · obtain rfl : i = n := Nat.le_antisymm hi ge
    exact W.done s _ _ sti fun h' tk hkeep => wpAny_execs_nil (fin _ (jf i s ji h' tk hkeep))
end Mine
end
section
-- part W3
open PySem PySem.W PyProof.Rows
set_option maxRecDepth 100000
set_option maxHeartbeats 0
set_option linter.all false
namespace Mine
theorem Fc.frame {s₀ : Shared} {L I : Addr} {l : List (Str × Value)} {s : Shared} {h' : Heap} {tk : Nat} (x : Fc s₀ L l s) (hI : s₀.heap.get? I = none) (hL : I ≠ L) (k : ∀ b o, b ≠ I → s.heap.get? b = some o → h'.get? b = some o) :
    Fc s₀ L l { s with heap := h', toks := tk } := by
  obtain ⟨h, t, m, rfl, F, hl⟩ := x
  refine ⟨h', tk, m, rfl, ⟨F.ns.at' fun o e => k L o (Ne.symm hL) e, fun b o e => k b o ?_ (F.keep b o e), F.above⟩, hl⟩
  rintro rfl
  rw [hI] at e; cases e
theorem Fc.size {s₀ : Shared} {L : Addr} {l : List (Str × Value)} {s : Shared} (x : Fc s₀ L l s) : s₀.heap.objs.size ≤ L ∧ L < s.heap.objs.size := by
  obtain ⟨h, t, m, rfl, F, hl⟩ := x
  exact ⟨F.above, F.ns.lt⟩
theorem Fc.augI {w : World} {A : Around} {s₀ : Shared} {L : Addr} {l : List (Str × Value)} {cn : Str} {cs : Scope} {ca : Addr} {ccd : Value} {x : Str} {px pos : Pos} {value : PySem.Expr} {i j : Int} {t : Tok} {Q : Flow → Shared → Prop} {s : Shared} {l' : Tok → List (Str × Value)}
    (hF : Fc s₀ L l s) (hx : (x, Value.int i t) ∈ l) (he : Pe w A (envOf cn cs L ca ccd) (Fc s₀ L l) value (II j)) (hl' : ∀ tk, ∀ p ∈ l' tk, p = (x, Value.int (i + j) tk) ∨ (p ∈ l ∧ p.1 ≠ x))
    (h : ∀ s' tk, Fc s₀ L (l' tk) s' → (∀ b o, b ≠ L → s.heap.get? b = some o → s'.heap.get? b = some o) → Q .next s')
    (hk : cs.kind = .function := by rfl) (hl : (envOf cn cs L ca ccd).kindOf x = some .local := by rfl) :
    wpAny (M w) A (exec (.AugAssign (.Name x px) .Add value pos) (envOf cn cs L ca ccd)) Q No s := by
  refine wpAny_AugAssign_Name ?_
  obtain ⟨hh, tk, m, rfl, F, hm⟩ := hF
  refine ldn F (hm _ hx) ?_ hk hl
  refine Pe.run (C := Fc s₀ L l) ⟨hh, tk, m, rfl, F, hm⟩ he (fun v s₁ hv F₁ k => ?_) Fc.stb
  obtain ⟨tv, rfl⟩ := hv
  refine iadd_int ?_
  exact Fc.store (Fc.stb _ _ F₁ (ktok _ _)) (hl' _) (fun s' F' kk => h s' _ F' fun b o hb e => kk b o hb (kg k b o e)) hk hl
theorem blt_len (P : Params) : mgF P "len" = none ∧ mbF P "len" = some (.builtin "len") := ⟨by kernel_rfl!, by kernel_rfl!⟩
local macro_rules | `(tactic| walk_at "put") => `(tactic| ((repeat' (first | exact List.forall_mem_nil _ | refine List.forall_mem_cons.mpr ⟨?_, ?_⟩)) <;> first | exact Or.inl rfl | exact Or.inr ⟨by k_mem, by dsimp only; decide⟩))
local macro_rules | `(tactic| walk_at "sub") => `(tactic| (repeat' (first | exact List.forall_mem_nil _ | refine List.forall_mem_cons.mpr ⟨by k_mem, ?_⟩)))
section
variable {w : World} {A : Around} {E : Value → Shared → Prop} {s : Shared} {n : Nat}
theorem call_holds {v1 v2 : Value} {Q : Value → Shared → Prop} (Y : Says w s.heap) (hA : Fine (n + 1) A)
    (h : ∀ L s', Fc s L [(Str.ofString "low", v1), (Str.ofString "part", v2)] s' →
      wpAny (M w) (A.deeper (envOf "_law_holds" (fScp 15) L 127 (.ref 126))) (execs (fBod 15) (envOf "_law_holds" (fScp 15) L 127 (.ref 126))) (fun f s' => Q (match f with | .ret v => v | _ => .none) s') No s') :
    wpAny (M w) A (call (.ref 127) [v1, v2]) Q E s :=
  wpAny_call (call_plain_ret (name := "_law_holds") (params := fPar 15) (body := fBod 15) (scope := fScp 15) (pm := .str "law_re0130_01" 2247) (cd := .ref 126) (doc := .none) (binds := [(Str.ofString "low", v1), (Str.ofString "part", v2)])
    hA.room (Y 127 (o127xf w.params) (by kernel_rfl!)) (by rfl) Y.nolimit ⟨126, o126xf w.params, _, 2282, rfl, Y 126 _ (by kernel_rfl!), rfl, rfl⟩ (by rfl)
    (List.forall_mem_cons.mpr ⟨by kernel_rfl!, List.forall_mem_cons.mpr ⟨by kernel_rfl!, List.forall_mem_nil _⟩⟩)
    (fun h₁ F => h _ _ (Fc.start F (List.forall_mem_cons.mpr ⟨rfl, List.forall_mem_cons.mpr ⟨rfl, List.forall_mem_nil _⟩⟩))) (by rfl) (by rfl) (by rfl) (by decide +kernel))
def hk (low : List Nat) : Nat → List Nat → Nat
  | k, [] => k
  | k, c :: r => hk low (if low[k]? = some c then k + 1 else k) r
theorem hk_snoc (low : List Nat) (k : Nat) (l : List Nat) (c : Nat) : hk low k (l ++ [c]) = if low[hk low k l]? = some c then hk low k l + 1 else hk low k l := by
  induction l generalizing k with
  | nil => rfl
  | cons a r ih => exact ih _
theorem holds_ok {low part : Str} {t u : Tok} (Y : Says w s.heap) (hA : Fine (n + 1) A) (z1 : low.length < 1000) :
    wpAny (M w) A (call (.ref 127) [.str low t, .str part u]) (fun v s' => v = .bool (hk low.cps.toList 0 part.cps.toList == low.length) ∧ Keeps s s') No s := by
  refine call_holds Y hA fun L s₁ F => ?_
  have hB := hA.deeper (env := envOf "_law_holds" (fScp 15) L 127 (.ref 126))
  generalize A.deeper (envOf "_law_holds" (fScp 15) L 127 (.ref 126)) = B at hB ⊢
  refine wpAny_execs_cons (wpAny_Assign_Name (wpAny_Constant_int ?_))
  refine Fc.store (l' := [(Str.ofString "low", .str low t), (Str.ofString "part", .str part u), (Str.ofString "k", .int 0 s₁.toks)]) (F.stb _ _ (ktok _ _)) (by walk_at "put") (fun s₂ F₂ _ => ?_)
  refine wpAny_execs_cons (for_walk (Pe.run F₂ (Pe.locS (t := u) (fun _ h => h) (by k_mem)) (fun v s₃ hv F₃ _ => ?_) Fc.stb))
  obtain ⟨u', rfl⟩ := hv
  refine wpAny_pyIter_str fun o St W st0 => ?_
  have sz := F₃.size
  refine ⟨_, _, _, _, _, _, fun i s' => ∃ tk, Fc s L [(Str.ofString "low", .str low t), (Str.ofString "part", .str part u), (Str.ofString "k", .int (hk low.cps.toList 0 (part.cps.toList.take i)) tk)] s', rfl, W B hB.1, st0,
    ⟨_, Fc.stb _ _ F₃ (kpush _ _ _)⟩, ?_, ?_, ?_⟩
  · rintro i s' ⟨tk, x⟩ h' tk' kk
    exact ⟨tk, x.frame (by
      cases e : s.heap.get? s₃.heap.objs.size with
      | none => rfl
      | some o => exact absurd (Heap.lt_size (kg F₃.keeps _ _ e)) (Nat.lt_irrefl _)) (Nat.ne_of_gt sz.2) fun b o hb e => kk b o (by simpa using hb) e⟩
  · rintro i v s' lt ⟨c, uc, hc, rfl⟩ ⟨tk, x⟩ st
    refine Fc.store (l' := [(Str.ofString "low", .str low t), (Str.ofString "part", .str part u), (Str.ofString "k", .int (hk low.cps.toList 0 (part.cps.toList.take i)) tk), (Str.ofString "letter", .str ⟨#[c]⟩ uc)]) x (by walk_at "put") (fun s₄ F₄ kk => ?_)
    have st₄ : St (i + 1) s₄.heap := (W B hB.1).frame _ _ _ st fun b hb o e => kk b o (by rw [List.mem_singleton.mp hb]; exact Nat.ne_of_gt sz.2) e
    have hc' : part.cps.toList[i]? = some c := by simpa using hc
    have tk1 : part.cps.toList.take (i + 1) = part.cps.toList.take i ++ [c] := (take_succ' hc').1
    generalize hK : hk low.cps.toList 0 (part.cps.toList.take i) = K at F₄
    refine wpAny_execs_cons (wpAny_If ?_)
    have lenE : ∀ pos, Pe w B (envOf "_law_holds" (fScp 15) L 127 (.ref 126)) (Fc s L [(Str.ofString "low", .str low t), (Str.ofString "part", .str part u), (Str.ofString "k", .int K tk), (Str.ofString "letter", .str ⟨#[c]⟩ uc)]) (.Name "low" pos) (SS low) := fun pos => Pe.locS (t := t) (fun _ h => h) (by k_mem)
    rcases Nat.lt_or_ge K low.cps.size with lt' | ge
    · have hd : low.cps[K]? = some low.cps[K] := Array.getElem?_eq_getElem lt'
      refine Pt.run F₄ (Pt.and (b := decide ((K : Int) < low.length)) (c := ((⟨#[low.cps[K]]⟩ : Str) == ⟨#[c]⟩)) Fc.stb (Pt.ltI Fc.stb (Pe.locI (t := tk) (fun _ h => h) (by k_mem)) (Pe.lenS Fc.stb (Pe.blt (fun _ h => h) Y (blt_len _)) (lenE _) (by omega)))
        fun _ => Pt.eqS Fc.stb (Pe.itemS Fc.stb (lenE _) (Pe.locI (t := tk) (fun _ h => h) (by k_mem)) (Int.natCast_nonneg _) (by simpa using hd) (by omega)) (Pe.locS (t := uc) (fun _ h => h) (by k_mem))) (fun s₅ F₅ k₅ => ?_) Fc.stb
      have st₅ : St (i + 1) s₅.heap := (W B hB.1).frame _ _ _ st₄ fun b hb o e => kg k₅ b o e
      have e1 : decide ((K : Int) < low.length) = true := decide_eq_true (by show (K : Int) < (low.cps.size : Int); omega)
      rw [e1, Bool.true_and]
      by_cases q : low.cps[K] = c
      · rw [if_pos (by rw [q]; simp)]
        refine wpAny_execs_cons (Fc.augI (t := tk) (l' := fun tk' => [(Str.ofString "low", .str low t), (Str.ofString "part", .str part u), (Str.ofString "k", .int ((K : Int) + 1) tk')]) F₅ (by k_mem) Pe.int (by intro tk'; walk_at "put") (fun s₆ tk₆ F₆ kk₆ => ?_))
        refine wpAny_execs_nil (wpAny_execs_nil ⟨⟨tk₆, ?_⟩, (W B hB.1).frame _ _ _ st₅ fun b hb o e => kk₆ b o (by rw [List.mem_singleton.mp hb]; exact Nat.ne_of_gt sz.2) e⟩)
        rw [tk1, hk_snoc, hK, if_pos (by rw [← q]; simpa using hd)]
        exact F₆
      · rw [if_neg (by simpa using q)]
        refine wpAny_execs_nil (wpAny_execs_nil ⟨⟨tk, ?_⟩, st₅⟩)
        rw [tk1, hk_snoc, hK, if_neg (by simp [hd, q])]
        exact F₅.sub (by walk_at "sub")
    · have hd : low.cps[K]? = none := Array.getElem?_eq_none ge
      refine Pt.run F₄ (Pt.and (b := decide ((K : Int) < low.length)) (c := true) Fc.stb (Pt.ltI Fc.stb (Pe.locI (t := tk) (fun _ h => h) (by k_mem)) (Pe.lenS Fc.stb (Pe.blt (fun _ h => h) Y (blt_len _)) (lenE _) (by omega)))
        fun z => absurd (of_decide_eq_true z) (by show ¬ (K : Int) < (low.cps.size : Int); omega)) (fun s₅ F₅ k₅ => ?_) Fc.stb
      have st₅ : St (i + 1) s₅.heap := (W B hB.1).frame _ _ _ st₄ fun b hb o e => kg k₅ b o e
      have e1 : decide ((K : Int) < low.length) = false := decide_eq_false (by show ¬ (K : Int) < (low.cps.size : Int); omega)
      rw [e1, Bool.false_and, if_neg Bool.false_ne_true]
      refine wpAny_execs_nil (wpAny_execs_nil ⟨⟨tk, ?_⟩, st₅⟩)
      rw [tk1, hk_snoc, hK, if_neg (by simp [hd])]
      exact F₅.sub (by walk_at "sub")
  · rintro s' ⟨tk, x⟩
    refine wpAny_execs_cons (wpAny_Return_some ?_)
    refine Pe.run x (Pe.eqI Fc.stb (Pe.locI (t := tk) (fun _ h => h) (by k_mem)) (Pe.lenS Fc.stb (Pe.blt (fun _ h => h) Y (blt_len _)) (Pe.locS (t := t) (fun _ h => h) (by k_mem)) (by omega))) (fun v s'' hv F' _ => ?_) Fc.stb
    refine ⟨?_, F'.keeps⟩
    rw [hv, List.take_of_length_le (by simp)]
    show Value.bool _ = Value.bool _
    congr 1
    rw [Bool.eq_iff_iff]
    simp only [beq_iff_eq]
    omega
end
end Mine
end
section
-- part W4
open PySem PySem.W PyProof.Rows
set_option maxRecDepth 100000
set_option maxHeartbeats 0
set_option linter.all false
namespace Mine
abbrev Ex (h h' : Heap) : Prop := ∀ b o, h.get? b = some o → h'.get? b = some o
def HStb (R : Heap → Prop) : Prop := ∀ h h', R h → Ex h h' → R h'
/-- a context that speaks of the heap alone -/
abbrev Hc (R : Heap → Prop) : Shared → Prop := fun s => R s.heap
theorem HStb.stb {R : Heap → Prop} (h : HStb R) : Stb (Hc R) := fun s s' x k => h _ _ x (kg k)
theorem HStb.and {R S : Heap → Prop} (h : HStb R) (k : HStb S) : HStb fun x => R x ∧ S x := fun _ _ x e => ⟨h _ _ x.1 e, k _ _ x.2 e⟩
theorem says_stb {w : World} : HStb (Says w) := fun _ _ x e => x.keeps e
theorem list_stb {a : Addr} {items : Array Value} : HStb (fun h => h.IsList a items) := fun _ _ x e => x.at fun o => e a o
theorem ns_stb {L : Addr} {x : Str} {v : Value} : HStb (fun h => ∃ m, h.Ns L m ∧ m x = some v) := fun _ _ ⟨m, a, b⟩ e => ⟨m, a.keeps e, b⟩
section
variable {w : World} {A : Around} {env : Env} {C : Shared → Prop} {P P1 P2 P3 : Value → Shared → Prop}
theorem Pe.gLoc {x : Str} {pos : Pos} {v : Value} (hm : ∀ s, C s → ∃ m, s.heap.Ns env.locals m ∧ m x = some v) (hk : env.scope.kind = .function) (hl : env.kindOf x = some .local)
    (hd : (x == ("__debug__" : Str)) = false := by decide) : Pe w A env C (.Name x pos) (VV v) := .of fun s hs => by
  obtain ⟨m, a, b⟩ := hm s hs
  exact wpAny_Name (wpAny_loadName_local hk hl a b ⟨rfl, kr _⟩) hd
theorem Pe.gCell {x : Str} {pos : Pos} {v : Value} {c : Addr} (hm : ∀ s, C s → s.heap.IsCell c (some v)) (hc : env.cells.lookup x = some c) (hk : env.scope.kind = .function) (hl : env.kindOf x = some .cell)
    (hd : (x == ("__debug__" : Str)) = false := by decide) : Pe w A env C (.Name x pos) (VV v) := .of fun s hs =>
  wpAny_Name (wpAny_loadName_cell hk hl hc (hm s hs) ⟨rfl, kr _⟩) hd
theorem Pe.gGlob {x : Str} {pos : Pos} {v : Value} (Y : ∀ s, C s → Says w s.heap) (hv : mgF w.params x = some v) (hg : env.globals = mainGlobals) (hk : env.scope.kind = .function) (hl : env.kindOf x = some .globalImplicit)
    (hd : (x == ("__debug__" : Str)) = false := by decide) : Pe w A env C (.Name x pos) (VV v) := .of fun s hs =>
  Calls.Name_function_global hk hl (Calls.loadGlobal_global (env := env) (by rw [hg]; exact (Y s hs).g) hv ⟨rfl, kr _⟩) hd
theorem Pe.gBlt {x : Str} {pos : Pos} {v : Value} (Y : ∀ s, C s → Says w s.heap) (hv : mgF w.params x = Option.none ∧ mbF w.params x = some v) (hg : env.globals = mainGlobals) (hb : env.builtins = builtinsNs) (hk : env.scope.kind = .function) (hl : env.kindOf x = some .globalImplicit)
    (hd : (x == ("__debug__" : Str)) = false := by decide) : Pe w A env C (.Name x pos) (VV v) := .of fun s hs =>
  Calls.Name_function_global hk hl (Calls.loadGlobal_builtin (env := env) (by rw [hg]; exact (Y s hs).g) hv.1 (by rw [hb]; exact (Y s hs).b) hv.2 ⟨rfl, kr _⟩) hd
/-- what an iterable hands out -/
def Src (w : World) (A : Around) (env : Env) (C : Shared → Prop) (iter : PySem.Expr) (n : Nat) (Pv : Nat → Value → Prop) (Dp : Addr → Prop) : Prop :=
  ∀ s, C s → wpAny (M w) A (eval iter env) (fun xv s₁ => wpAny (M w) A (pyIter xv) (fun it s₂ => ∃ I fp wr St, it = .ref I ∧ (∀ A' : Around, A'.handled = Option.none → Walks pw w A' I fp wr n Pv St) ∧ St 0 s₂.heap ∧
    (∀ b ∈ fp, b < s₂.heap.objs.size) ∧ (∀ b ∈ wr, s.heap.get? b = Option.none) ∧ (∀ b ∈ fp, s.heap.get? b = Option.none ∨ Dp b) ∧ Keeps s s₂) No s₁) No s
theorem fresh_size {s s₁ : Shared} (k : Keeps s s₁) : s.heap.get? s₁.heap.objs.size = Option.none := by
  cases e : s.heap.get? s₁.heap.objs.size with
  | none => rfl
  | some o => exact absurd (Heap.lt_size (kg k _ _ e)) (Nat.lt_irrefl _)
theorem Src.str {e : PySem.Expr} {x : Str} {Dp : Addr → Prop} (he : Pe w A env C e (SS x)) : Src w A env C e x.cps.size (SignAt x) Dp := fun s hs =>
  wpAny_mono (he.f s hs) (fun v s₁ ⟨⟨t, hv⟩, k⟩ => by
    subst hv
    refine wpAny_pyIter_str fun o St W st0 => ⟨_, _, _, St, rfl, W, st0, ?_, ?_, ?_, kt k (kpush _ _ _)⟩
    · intro b hb; rw [List.mem_singleton.mp hb]; show _ < (s₁.heap.push o).objs.size; rw [Heap.size_push]; exact Nat.lt_succ_self _
    · intro b hb
      rw [List.mem_singleton.mp hb]
      exact fresh_size k
    · intro b hb
      rw [List.mem_singleton.mp hb]
      exact .inl (fresh_size k)) fun _ _ x => x
/-- a list's items -/
abbrev LL (items : Array Value) : Value → Shared → Prop := fun v s => ∃ a, v = .ref a ∧ s.heap.IsList a items
theorem LL.stb {items : Array Value} : Stb2 (LL items) := fun _ _ _ ⟨a, e, h⟩ k => ⟨a, e, h.at fun o => kg k a o⟩
theorem src_list {s s₁ : Shared} {a : Addr} {items : Array Value} {Dp : Addr → Prop} (hl : s₁.heap.IsList a items) (hD : Dp a) (k : Keeps s s₁) {n : Nat} (hn : n = items.size) {Pv : Nat → Value → Prop} (hp : ∀ (i : Nat) v, items[i]? = some v → Pv i v) :
    wpAny (M w) A (pyIter (.ref a)) (fun it s₂ => ∃ I fp wr St, it = .ref I ∧ (∀ A' : Around, A'.handled = Option.none → Walks pw w A' I fp wr n Pv St) ∧ St 0 s₂.heap ∧
    (∀ b ∈ fp, b < s₂.heap.objs.size) ∧ (∀ b ∈ wr, s.heap.get? b = Option.none) ∧ (∀ b ∈ fp, s.heap.get? b = Option.none ∨ Dp b) ∧ Keeps s s₂) No s₁ := by
  have lt : a < s₁.heap.objs.size := by obtain ⟨o, ho, _⟩ := hl; exact Heap.lt_size ho
  refine wpAny_pyIter_list hl ⟨_, [s₁.heap.objs.size, a], [s₁.heap.objs.size], fun i h => h.IsListIter s₁.heap.objs.size a i ∧ h.IsList a items, rfl, fun A' hA => ?_, ⟨⟨_, Heap.get?_push_size _ rfl, rfl, rfl⟩, hl.push _⟩, ?_, ?_, ?_, kt k (kpush _ _ _)⟩
  · have W := Walks.list (prog := pw) (w := w) hA s₁.heap.objs.size a (Nat.ne_of_lt lt) items
    rw [← hn] at W
    exact ⟨W.sub, W.frame, fun i s Q E hi' st hQ => W.item i s Q E hi' st fun v h' tk q => hQ v h' tk (hp i v q), W.done, W.self⟩
  · intro b hb
    show _ < (s₁.heap.push _).objs.size
    rw [Heap.size_push]
    rcases List.mem_cons.mp hb with rfl | hb
    · exact Nat.lt_succ_self _
    · rw [List.mem_singleton.mp hb]; exact Nat.lt_succ_of_lt lt
  · intro b hb
    rw [List.mem_singleton.mp hb]
    exact fresh_size k
  · intro b hb
    rcases List.mem_cons.mp hb with rfl | hb
    · exact .inl (fresh_size k)
    · rw [List.mem_singleton.mp hb]; exact .inr hD
theorem Src.range {f e : PySem.Expr} {N : Nat} {pos : Pos} {Dp : Addr → Prop} (hC : Stb C) (hf : Pe w A env C f (VV (.type "range"))) (he : Pe w A env C e (II N)) (hN : (N : Int) < 2 ^ 40)
    (h0 : eval (f.Call [e] [] pos) env = (do callWith pos (← eval f env) [] (backTo pos (starEach [e] env)) (backToKw pos (keywordEach [] env))) := by rfl)
    (h1 : starEach [e] env = (false, eval e env) :: starEach [] env := by rfl) : Src w A env C (.Call f [e] [] pos) N (fun i v => ∃ t, v = .int i t) Dp := fun s hs =>
  wpAny_mono ((Pe.type1 (P := fun v s => ∃ r t u v', v = .ref r ∧ IsRange s.heap r 0 N 1 t u v') hC hf he (fun a s _ ⟨t, ha⟩ => by
    subst ha
    exact call_range_1 ⟨⟨_, _, _, _, rfl, IsRange.new _ 0 N 1 _ _ _⟩, kpush _ _ _⟩) h0 h1).f s hs) (fun v s₁ ⟨⟨r, t, u, v', hv, hr⟩, k⟩ => by
    subst hv
    have rs : Builtin.Range.rangeSize 0 N 1 = N := by rw [rangeSize_one]; split <;> omega
    refine wpAny_pyIter_range hr (small_one (by decide) (by decide) (by omega) (by omega)) ⟨_, [s₁.heap.objs.size], [s₁.heap.objs.size], fun i h => IsRangeIter h s₁.heap.objs.size (0 + (i : Nat) * 1) ((N : Int) - (i : Nat)) 1, rfl, fun A' hA => ?_, ?_, ?_, ?_, ?_, kt k (kpush _ _ _)⟩
    rotate_left
    · rw [rs]
      show (s₁.heap.push _).get? _ = _
      rw [Heap.get?_push_size _ rfl]
      simp
    · intro b hb; rw [List.mem_singleton.mp hb]; show _ < (s₁.heap.push _).objs.size; rw [Heap.size_push]; exact Nat.lt_succ_self _
    · intro b hb
      rw [List.mem_singleton.mp hb]
      exact fresh_size k
    · intro b hb
      rw [List.mem_singleton.mp hb]
      exact .inl (fresh_size k)
    · have W := Walks.range (prog := pw) (w := w) hA s₁.heap.objs.size 0 1 N
      refine ⟨W.sub, W.frame, fun i s Q E hi st hQ => W.item i s Q E hi st fun v h' tk hp => hQ v h' tk ?_, W.done, W.self⟩
      obtain ⟨t, e⟩ := hp
      exact ⟨t, by rw [e]; congr 1; omega⟩) fun _ _ x => x
/-- a list comprehension with at most one test -/
theorem comp_run {elt iter : PySem.Expr} {x : Str} {px pos : Pos} {ifs : List PySem.Expr} {scope : Scope} {cl : List (Str × Addr)} {n : Nat} {Pv : Nat → Value → Prop} {R : Heap → Prop} (hR : HStb R) (hC : ∀ s, C s → R s.heap) (hA : A.handled = Option.none)
    {Dp : Addr → Prop} (src : Src w A env C iter n Pv Dp) (hn : n ≤ 1000000) (p : Value → Bool) (F : Value → Value → Prop)
    (hclos : closureFor scope env = Pure.pure cl) (hcell : ∀ y ∈ scope.names, y.2 ≠ .cell) (hkind : scope.kind = .function)
    (hnames : ∀ y ∈ scope.names, y.2 = .local → scope.names.lookup y.1 = some .local) (hx : scope.names.lookup x = some .local)
    (tests : ∀ Cn i v, Pv i v → ∀ s, (R s.heap ∧ ∃ m, s.heap.Ns Cn m ∧ m x = some v) → wpAny (M w) A (forIn ifs true fun c r => if r = true then do let ok ← isTrue c (compEnvC scope cl Cn env) (eval c (compEnvC scope cl Cn env)); Pure.pure (ForInStep.yield ok) else Pure.pure (ForInStep.yield r)) (fun ok s' => ok = p v ∧ Keeps s s') No s)
    (elts : ∀ Cn i v, Pv i v → p v = true → Pe w A (compEnvC scope cl Cn env) (Hc fun h => R h ∧ ∃ m, h.Ns Cn m ∧ m x = some v) elt (fun y _ => F v y))
    (hs : ∀ x, foldedSetIterable iter env x = Pure.pure x := by intro _; rfl) {s : Shared} (hsC : C s) :
    wpAny (M w) A (eval (.ListComp elt [⟨.Name x px, iter, ifs, 0⟩] scope pos) env) (fun v s' => ∃ D ys, ∃ vs : List Value, v = .ref D ∧ s'.heap.IsList D ys ∧ s'.heap.PlainList D ys ∧ s.heap.get? D = Option.none ∧ vs.length = n ∧ (∀ j v, vs[j]? = some v → Pv j v) ∧ Paired F (vs.filter p) ys.toList ∧ Keeps s s') No s := by
  refine wpAny_ListComp_free p F hclos hcell hkind hnames hx (wpAny_mono (src s hsC) (fun xv s₁ h₁ => wpAny_mono h₁ (fun it s₂ h₂ => ?_) fun _ _ e => e) fun _ _ e => e) hs
  obtain ⟨I, fp, wr, St, rfl, W, st0, hfp, hwr, _, k⟩ := h₂
  have old : ∀ {h' : Heap}, (∀ b o, b ∉ wr → s₂.heap.get? b = some o → h'.get? b = some o) → Ex s.heap h' := fun hh b o e => hh b o (fun hb => by rw [hwr b hb] at e; cases e) (kg k b o e)
  refine ⟨I, fp, wr, n, Pv, St, rfl, W A hA, by unfold sizeLine; omega, st0, hfp, ⟨fun Cn i v s₃ m₃ E' _ hp hns hm hk _ => ?_, fun Cn i v s₃ m₃ E' _ hp hpv hns hm hk _ => ?_⟩, fun D h' tk ys vs hD hl hpl hlen hP hF hk => ?_⟩
  · exact wpAny_mono (tests Cn i v hp s₃ ⟨hR _ _ (hC s hsC) (old hk), m₃, hns, hm⟩) (fun _ _ x => x) fun _ _ x => x.elim
  · exact wpAny_mono ((elts Cn i v hp hpv).f s₃ ⟨hR _ _ (hC s hsC) (old hk), m₃, hns, hm⟩) (fun _ _ x => x) fun _ _ x => x.elim
  · refine ⟨D, ys, vs, rfl, hl, hpl, ?_, hlen, hP, hF, ?_⟩
    · cases e : s.heap.get? D with
      | none => rfl
      | some o => have := kg k D o e; rw [hD] at this; cases this
    · obtain ⟨h2, t2, rfl, k2⟩ := k
      exact ⟨h', tk, rfl, old hk⟩
theorem tests_nil {Cn : Addr} {scope : Scope} {cl : List (Str × Addr)} {s : Shared} : wpAny (M w) A (forIn ([] : List PySem.Expr) true fun c r => if r = true then do let ok ← isTrue c (compEnvC scope cl Cn env) (eval c (compEnvC scope cl Cn env)); Pure.pure (ForInStep.yield ok) else Pure.pure (ForInStep.yield r)) (fun ok s' => ok = true ∧ Keeps s s') No s :=
  wpAny_tests_nil ⟨rfl, kr _⟩
theorem tests_one {c : PySem.Expr} {Cn : Addr} {scope : Scope} {cl : List (Str × Addr)} {b : Bool} {Cx : Shared → Prop} (h : Pt w A (compEnvC scope cl Cn env) Cx c b) {s : Shared} (hs : Cx s) : wpAny (M w) A (forIn [c] true fun c r => if r = true then do let ok ← isTrue c (compEnvC scope cl Cn env) (eval c (compEnvC scope cl Cn env)); Pure.pure (ForInStep.yield ok) else Pure.pure (ForInStep.yield r)) (fun ok s' => ok = b ∧ Keeps s s') No s :=
  wpAny_tests_one (h.f s hs)
end
end Mine
end
section
-- part W5
open PySem PySem.W PyProof.Rows
set_option maxRecDepth 100000
set_option maxHeartbeats 0
set_option linter.all false
namespace Mine
section
variable {w : World} {A : Around} {E : Value → Shared → Prop} {s : Shared} {n : Nat}
theorem call_ell {v1 v2 : Value} {Q : Value → Shared → Prop} (Y : Says w s.heap) (hA : Fine (n + 1) A)
    (h : ∀ L s', Fc s L [(Str.ofString "want", v1), (Str.ofString "got", v2)] s' → Fine n (A.deeper (envOf "_ellipsis_match" (fScp 2) L 21 (.ref 20))) →
      wpAny (M w) (A.deeper (envOf "_ellipsis_match" (fScp 2) L 21 (.ref 20))) (execs (fBod 2) (envOf "_ellipsis_match" (fScp 2) L 21 (.ref 20))) (fun f s' => Q (match f with | .ret v => v | _ => .none) s') No s') :
    wpAny (M w) A (call (.ref 21) [v1, v2]) Q E s :=
  wpAny_call (call_plain_ret (name := "_ellipsis_match") (params := fPar 2) (body := fBod 2) (scope := fScp 2) (pm := .str "cpy313.doctest" 187) (cd := .ref 20) (doc := .none) (binds := [(Str.ofString "want", v1), (Str.ofString "got", v2)])
    hA.room (Y 21 (o21x6 w.params) (by kernel_rfl!)) (by rfl) Y.nolimit ⟨20, o20x6 w.params, _, 192, rfl, Y 20 _ (by kernel_rfl!), rfl, rfl⟩ (by rfl)
    (List.forall_mem_cons.mpr ⟨by kernel_rfl!, List.forall_mem_cons.mpr ⟨by kernel_rfl!, List.forall_mem_nil _⟩⟩)
    (fun h₁ F => h _ _ (Fc.start F (List.forall_mem_cons.mpr ⟨rfl, List.forall_mem_cons.mpr ⟨rfl, List.forall_mem_nil _⟩⟩)) hA.deeper) (by rfl) (by rfl) (by rfl) (by decide +kernel))
theorem at_ell (Y : Says w s.heap) : s.heap.get? 21 = some (o21x6 w.params) := Y 21 _ (by kernel_rfl!)
theorem g_ell (P : Params) : mgF P "_ellipsis_match" = some (.ref 21) := by kernel_rfl!
theorem call_inb1 {v1 : Value} {Q : Value → Shared → Prop} (Y : Says w s.heap) (hA : Fine (n + 1) A)
    (h : ∀ L s', Fc s L [(Str.ofString "code", v1)] s' → Fine n (A.deeper (envOf "in_table_b1" (fScp 7) L 48 (.ref 47))) →
      wpAny (M w) (A.deeper (envOf "in_table_b1" (fScp 7) L 48 (.ref 47))) (execs (fBod 7) (envOf "in_table_b1" (fScp 7) L 48 (.ref 47))) (fun f s' => Q (match f with | .ret v => v | _ => .none) s') No s') :
    wpAny (M w) A (call (.ref 48) [v1]) Q E s :=
  wpAny_call (call_plain_ret (name := "in_table_b1") (params := fPar 7) (body := fBod 7) (scope := fScp 7) (pm := .str "cpy313.stringprep" 219) (cd := .ref 47) (doc := .none) (binds := [(Str.ofString "code", v1)])
    hA.room (Y 48 (o48x8 w.params) (by kernel_rfl!)) (by rfl) Y.nolimit ⟨47, o47x8 w.params, _, 282, rfl, Y 47 _ (by kernel_rfl!), rfl, rfl⟩ (by rfl)
    (List.forall_mem_cons.mpr ⟨by kernel_rfl!, List.forall_mem_nil _⟩)
    (fun h₁ F => h _ _ (Fc.start F (List.forall_mem_cons.mpr ⟨rfl, List.forall_mem_nil _⟩)) hA.deeper) (by rfl) (by rfl) (by rfl) (by decide +kernel))
theorem at_inb1 (Y : Says w s.heap) : s.heap.get? 48 = some (o48x8 w.params) := Y 48 _ (by kernel_rfl!)
theorem g_inb1 (P : Params) : mgF P "in_table_b1" = some (.ref 48) := by kernel_rfl!
theorem call_mapb3 {v1 : Value} {Q : Value → Shared → Prop} (Y : Says w s.heap) (hA : Fine (n + 1) A)
    (h : ∀ L s', Fc s L [(Str.ofString "code", v1)] s' → Fine n (A.deeper (envOf "map_table_b3" (fScp 9) L 94 (.ref 93))) →
      wpAny (M w) (A.deeper (envOf "map_table_b3" (fScp 9) L 94 (.ref 93))) (execs (fBod 9) (envOf "map_table_b3" (fScp 9) L 94 (.ref 93))) (fun f s' => Q (match f with | .ret v => v | _ => .none) s') No s') :
    wpAny (M w) A (call (.ref 94) [v1]) Q E s :=
  wpAny_call (call_plain_ret (name := "map_table_b3") (params := fPar 9) (body := fBod 9) (scope := fScp 9) (pm := .str "cpy313.stringprep" 219) (cd := .ref 93) (doc := .none) (binds := [(Str.ofString "code", v1)])
    hA.room (Y 94 (o94xf w.params) (by kernel_rfl!)) (by rfl) Y.nolimit ⟨93, o93xf w.params, _, 2240, rfl, Y 93 _ (by kernel_rfl!), rfl, rfl⟩ (by rfl)
    (List.forall_mem_cons.mpr ⟨by kernel_rfl!, List.forall_mem_nil _⟩)
    (fun h₁ F => h _ _ (Fc.start F (List.forall_mem_cons.mpr ⟨rfl, List.forall_mem_nil _⟩)) hA.deeper) (by rfl) (by rfl) (by rfl) (by decide +kernel))
theorem at_mapb3 (Y : Says w s.heap) : s.heap.get? 94 = some (o94xf w.params) := Y 94 _ (by kernel_rfl!)
theorem g_mapb3 (P : Params) : mgF P "map_table_b3" = some (.ref 94) := by kernel_rfl!
theorem call_sign {v1 v2 : Value} {Q : Value → Shared → Prop} (Y : Says w s.heap) (hA : Fine (n + 1) A)
    (h : ∀ L s', Fc s L [(Str.ofString "letter", v1), (Str.ofString "form", v2)] s' → Fine n (A.deeper (envOf "_law_sign" (fScp 11) L 101 (.ref 100))) →
      wpAny (M w) (A.deeper (envOf "_law_sign" (fScp 11) L 101 (.ref 100))) (execs (fBod 11) (envOf "_law_sign" (fScp 11) L 101 (.ref 100))) (fun f s' => Q (match f with | .ret v => v | _ => .none) s') No s') :
    wpAny (M w) A (call (.ref 101) [v1, v2]) Q E s :=
  wpAny_call (call_plain_ret (name := "_law_sign") (params := fPar 11) (body := fBod 11) (scope := fScp 11) (pm := .str "law_re0130_01" 2247) (cd := .ref 100) (doc := .none) (binds := [(Str.ofString "letter", v1), (Str.ofString "form", v2)])
    hA.room (Y 101 (o101xf w.params) (by kernel_rfl!)) (by rfl) Y.nolimit ⟨100, o100xf w.params, _, 2250, rfl, Y 100 _ (by kernel_rfl!), rfl, rfl⟩ (by rfl)
    (List.forall_mem_cons.mpr ⟨by kernel_rfl!, List.forall_mem_cons.mpr ⟨by kernel_rfl!, List.forall_mem_nil _⟩⟩)
    (fun h₁ F => h _ _ (Fc.start F (List.forall_mem_cons.mpr ⟨rfl, List.forall_mem_cons.mpr ⟨rfl, List.forall_mem_nil _⟩⟩)) hA.deeper) (by rfl) (by rfl) (by rfl) (by decide +kernel))
theorem at_sign (Y : Says w s.heap) : s.heap.get? 101 = some (o101xf w.params) := Y 101 _ (by kernel_rfl!)
theorem g_sign (P : Params) : mgF P "_law_sign" = some (.ref 101) := by kernel_rfl!
theorem call_nothing {v1 : Value} {Q : Value → Shared → Prop} (Y : Says w s.heap) (hA : Fine (n + 1) A)
    (h : ∀ L s', Fc s L [(Str.ofString "k", v1)] s' → Fine n (A.deeper (envOf "_law_nothing" (fScp 12) L 108 (.ref 107))) →
      wpAny (M w) (A.deeper (envOf "_law_nothing" (fScp 12) L 108 (.ref 107))) (execs (fBod 12) (envOf "_law_nothing" (fScp 12) L 108 (.ref 107))) (fun f s' => Q (match f with | .ret v => v | _ => .none) s') No s') :
    wpAny (M w) A (call (.ref 108) [v1]) Q E s :=
  wpAny_call (call_plain_ret (name := "_law_nothing") (params := fPar 12) (body := fBod 12) (scope := fScp 12) (pm := .str "law_re0130_01" 2247) (cd := .ref 107) (doc := .none) (binds := [(Str.ofString "k", v1)])
    hA.room (Y 108 (o108xf w.params) (by kernel_rfl!)) (by rfl) Y.nolimit ⟨107, o107xf w.params, _, 2258, rfl, Y 107 _ (by kernel_rfl!), rfl, rfl⟩ (by rfl)
    (List.forall_mem_cons.mpr ⟨by kernel_rfl!, List.forall_mem_nil _⟩)
    (fun h₁ F => h _ _ (Fc.start F (List.forall_mem_cons.mpr ⟨rfl, List.forall_mem_nil _⟩)) hA.deeper) (by rfl) (by rfl) (by rfl) (by decide +kernel))
theorem at_nothing (Y : Says w s.heap) : s.heap.get? 108 = some (o108xf w.params) := Y 108 _ (by kernel_rfl!)
theorem g_nothing (P : Params) : mgF P "_law_nothing" = some (.ref 108) := by kernel_rfl!
theorem call_spelled {v1 v2 : Value} {Q : Value → Shared → Prop} (Y : Says w s.heap) (hA : Fine (n + 1) A)
    (h : ∀ L s', Fc s L [(Str.ofString "word", v1), (Str.ofString "drawn", v2)] s' → Fine n (A.deeper (envOf "_law_spelled" (fScp 13) L 115 (.ref 114))) →
      wpAny (M w) (A.deeper (envOf "_law_spelled" (fScp 13) L 115 (.ref 114))) (execs (fBod 13) (envOf "_law_spelled" (fScp 13) L 115 (.ref 114))) (fun f s' => Q (match f with | .ret v => v | _ => .none) s') No s') :
    wpAny (M w) A (call (.ref 115) [v1, v2]) Q E s :=
  wpAny_call (call_plain_ret (name := "_law_spelled") (params := fPar 13) (body := fBod 13) (scope := fScp 13) (pm := .str "law_re0130_01" 2247) (cd := .ref 114) (doc := .none) (binds := [(Str.ofString "word", v1), (Str.ofString "drawn", v2)])
    hA.room (Y 115 (o115xf w.params) (by kernel_rfl!)) (by rfl) Y.nolimit ⟨114, o114xf w.params, _, 2265, rfl, Y 114 _ (by kernel_rfl!), rfl, rfl⟩ (by rfl)
    (List.forall_mem_cons.mpr ⟨by kernel_rfl!, List.forall_mem_cons.mpr ⟨by kernel_rfl!, List.forall_mem_nil _⟩⟩)
    (fun h₁ F => h _ _ (Fc.start F (List.forall_mem_cons.mpr ⟨rfl, List.forall_mem_cons.mpr ⟨rfl, List.forall_mem_nil _⟩⟩)) hA.deeper) (by rfl) (by rfl) (by rfl) (by decide +kernel))
theorem at_spelled (Y : Says w s.heap) : s.heap.get? 115 = some (o115xf w.params) := Y 115 _ (by kernel_rfl!)
theorem g_spelled (P : Params) : mgF P "_law_spelled" = some (.ref 115) := by kernel_rfl!
theorem call_dots {v1 : Value} {Q : Value → Shared → Prop} (Y : Says w s.heap) (hA : Fine (n + 1) A)
    (h : ∀ L s', Fc s L [(Str.ofString "part", v1)] s' → Fine n (A.deeper (envOf "_law_dots" (fScp 14) L 120 (.ref 119))) →
      wpAny (M w) (A.deeper (envOf "_law_dots" (fScp 14) L 120 (.ref 119))) (execs (fBod 14) (envOf "_law_dots" (fScp 14) L 120 (.ref 119))) (fun f s' => Q (match f with | .ret v => v | _ => .none) s') No s') :
    wpAny (M w) A (call (.ref 120) [v1]) Q E s :=
  wpAny_call (call_plain_ret (name := "_law_dots") (params := fPar 14) (body := fBod 14) (scope := fScp 14) (pm := .str "law_re0130_01" 2247) (cd := .ref 119) (doc := .none) (binds := [(Str.ofString "part", v1)])
    hA.room (Y 120 (o120xf w.params) (by kernel_rfl!)) (by rfl) Y.nolimit ⟨119, o119xf w.params, _, 2276, rfl, Y 119 _ (by kernel_rfl!), rfl, rfl⟩ (by rfl)
    (List.forall_mem_cons.mpr ⟨by kernel_rfl!, List.forall_mem_nil _⟩)
    (fun h₁ F => h _ _ (Fc.start F (List.forall_mem_cons.mpr ⟨rfl, List.forall_mem_nil _⟩)) hA.deeper) (by rfl) (by rfl) (by rfl) (by decide +kernel))
theorem at_dots (Y : Says w s.heap) : s.heap.get? 120 = some (o120xf w.params) := Y 120 _ (by kernel_rfl!)
theorem g_dots (P : Params) : mgF P "_law_dots" = some (.ref 120) := by kernel_rfl!
theorem call_ways {v1 v2 : Value} {Q : Value → Shared → Prop} (Y : Says w s.heap) (hA : Fine (n + 1) A)
    (h : ∀ L s', Fc s L [(Str.ofString "low", v1), (Str.ofString "part", v2)] s' → Fine n (A.deeper (envOf "_law_ways" (fScp 16) L 132 (.ref 131))) →
      wpAny (M w) (A.deeper (envOf "_law_ways" (fScp 16) L 132 (.ref 131))) (execs (fBod 16) (envOf "_law_ways" (fScp 16) L 132 (.ref 131))) (fun f s' => Q (match f with | .ret v => v | _ => .none) s') No s') :
    wpAny (M w) A (call (.ref 132) [v1, v2]) Q E s :=
  wpAny_call (call_plain_ret (name := "_law_ways") (params := fPar 16) (body := fBod 16) (scope := fScp 16) (pm := .str "law_re0130_01" 2247) (cd := .ref 131) (doc := .none) (binds := [(Str.ofString "low", v1), (Str.ofString "part", v2)])
    hA.room (Y 132 (o132xf w.params) (by kernel_rfl!)) (by rfl) Y.nolimit ⟨131, o131xf w.params, _, 2292, rfl, Y 131 _ (by kernel_rfl!), rfl, rfl⟩ (by rfl)
    (List.forall_mem_cons.mpr ⟨by kernel_rfl!, List.forall_mem_cons.mpr ⟨by kernel_rfl!, List.forall_mem_nil _⟩⟩)
    (fun h₁ F => h _ _ (Fc.start F (List.forall_mem_cons.mpr ⟨rfl, List.forall_mem_cons.mpr ⟨rfl, List.forall_mem_nil _⟩⟩)) hA.deeper) (by rfl) (by rfl) (by rfl) (by decide +kernel))
theorem at_ways (Y : Says w s.heap) : s.heap.get? 132 = some (o132xf w.params) := Y 132 _ (by kernel_rfl!)
theorem g_ways (P : Params) : mgF P "_law_ways" = some (.ref 132) := by kernel_rfl!
end
theorem blt_range (P : Params) : mgF P "range" = none ∧ mbF P "range" = some (.type "range") := ⟨by kernel_rfl!, by kernel_rfl!⟩
theorem blt_str (P : Params) : mgF P "str" = none ∧ mbF P "str" = some (.type "str") := ⟨by kernel_rfl!, by kernel_rfl!⟩
theorem blt_set (P : Params) : mgF P "set" = none ∧ mbF P "set" = some (.type "set") := ⟨by kernel_rfl!, by kernel_rfl!⟩
theorem blt_list (P : Params) : mgF P "list" = none ∧ mbF P "list" = some (.type "list") := ⟨by kernel_rfl!, by kernel_rfl!⟩
theorem blt_zip (P : Params) : mgF P "zip" = none ∧ mbF P "zip" = some (.type "zip") := ⟨by kernel_rfl!, by kernel_rfl!⟩
theorem blt_chr (P : Params) : mgF P "chr" = none ∧ mbF P "chr" = some (.builtin "chr") := ⟨by kernel_rfl!, by kernel_rfl!⟩
theorem blt_ord (P : Params) : mgF P "ord" = none ∧ mbF P "ord" = some (.builtin "ord") := ⟨by kernel_rfl!, by kernel_rfl!⟩
theorem blt_sorted (P : Params) : mgF P "sorted" = none ∧ mbF P "sorted" = some (.builtin "sorted") := ⟨by kernel_rfl!, by kernel_rfl!⟩
theorem blt_sum (P : Params) : mgF P "sum" = none ∧ mbF P "sum" = some (.builtin "sum") := ⟨by kernel_rfl!, by kernel_rfl!⟩
theorem g_marker (P : Params) : mgF P "ELLIPSIS_MARKER" = some (.str (Str.ofString "...") 189) := by kernel_rfl!
theorem g_b1 (P : Params) : mgF P "b1_set" = some (.ref 38) := by kernel_rfl!
theorem g_b3 (P : Params) : mgF P "b3_exceptions" = some (.ref 49) := by kernel_rfl!
theorem g_bisect (P : Params) : mgF P "bisect_left" = some (.ref 30) := by kernel_rfl!
theorem g_holds (P : Params) : mgF P "_law_holds" = some (.ref 127) := by kernel_rfl!
theorem at_holds {w : World} {s : Shared} (Y : Says w s.heap) : s.heap.get? 127 = some (o127xf w.params) := Y 127 _ (by kernel_rfl!)
end Mine
end
section
-- part W6
open PySem PySem.W PyProof.Rows
set_option maxRecDepth 100000
set_option maxHeartbeats 0
set_option linter.all false
namespace Mine
/-- a list of texts, of ints -/
abbrev TL (ys : List Str) : Value → Shared → Prop := fun v s => ∃ a items, v = .ref a ∧ s.heap.IsList a items ∧ StrsAre items.toList ys
abbrev IL (ns : List Int) : Value → Shared → Prop := fun v s => ∃ a items, v = .ref a ∧ s.heap.IsList a items ∧ IntsAre items.toList ns
theorem TL.stb {ys : List Str} : Stb2 (TL ys) := fun _ _ _ ⟨a, i, e, h, q⟩ k => ⟨a, i, e, h.at fun o => kg k a o, q⟩
theorem IL.stb {ys : List Int} : Stb2 (IL ys) := fun _ _ _ ⟨a, i, e, h, q⟩ k => ⟨a, i, e, h.at fun o => kg k a o, q⟩
def IsS (x : Str) (v : Value) : Prop := ∃ t, v = .str x t
def IsI (x : Int) (v : Value) : Prop := ∃ t, v = .int x t
def kS : Value → Str | .str y _ => y | _ => Str.ofString ""
def kI : Value → Int | .int y _ => y | _ => 0
theorem kS_is {x : Str} {v : Value} (h : IsS x v) : kS v = x := by obtain ⟨t, rfl⟩ := h; rfl
theorem kI_is {x : Int} {v : Value} (h : IsI x v) : kI v = x := by obtain ⟨t, rfl⟩ := h; rfl
theorem Paired.imp {α β : Type} {F G : α → β → Prop} (h : ∀ a b, F a b → G a b) : ∀ {l : List α} {m : List β}, Paired F l m → Paired G l m
  | _, _, .nil => .nil
  | _, _, .cons a b => .cons (h _ _ a) (Paired.imp h b)
theorem Paired.imp_mem {α β : Type} {F G : α → β → Prop} : ∀ {l : List α} {m : List β}, (∀ a ∈ l, ∀ b, F a b → G a b) → Paired F l m → Paired G l m
  | _, _, _, .nil => .nil
  | _, _, h, .cons a b => .cons (h _ (List.mem_cons_self) _ a) (Paired.imp_mem (fun x hx => h x (List.mem_cons_of_mem _ hx)) b)
theorem Paired.of_map {α β γ : Type} {F : α → β → Prop} {k : γ → α} : ∀ {l : List γ} {m : List β}, Paired (fun c b => F (k c) b) l m → Paired F (l.map k) m
  | _, _, .nil => .nil
  | _, _, .cons a b => .cons a (Paired.of_map b)
theorem strs_of_paired {α : Type} {g : α → Str} : ∀ {l : List α} {m : List Value}, Paired (fun a v => IsS (g a) v) l m → StrsAre m (l.map g)
  | _, _, .nil => .nil
  | _, _, .cons ⟨t, e⟩ b => by subst e; exact .cons _ t (strs_of_paired b)
theorem ints_of_paired {α : Type} {g : α → Int} : ∀ {l : List α} {m : List Value}, Paired (fun a v => IsI (g a) v) l m → IntsAre m (l.map g)
  | _, _, .nil => .nil
  | _, _, .cons ⟨t, e⟩ b => by subst e; exact .cons _ t (ints_of_paired b)
theorem StrsAre.get : ∀ {vs : List Value} {ys : List Str}, StrsAre vs ys → ∀ {i : Nat} {v : Value}, vs[i]? = some v → ∃ x, ys[i]? = some x ∧ IsS x v
  | _, _, .cons y t r, 0, v, h => by simp at h; exact ⟨y, rfl, t, h.symm⟩
  | _, _, .cons y t r, i + 1, v, h => by simp at h; simpa using StrsAre.get r h
theorem IntsAre.get : ∀ {vs : List Value} {ys : List Int}, IntsAre vs ys → ∀ {i : Nat} {v : Value}, vs[i]? = some v → ∃ x, ys[i]? = some x ∧ IsI x v
  | _, _, .cons y t r, 0, v, h => by simp at h; exact ⟨y, rfl, t, h.symm⟩
  | _, _, .cons y t r, i + 1, v, h => by simp at h; simpa using IntsAre.get r h
theorem StrsAre.len : ∀ {vs : List Value} {ys : List Str}, StrsAre vs ys → vs.length = ys.length
  | _, _, .nil => rfl
  | _, _, .cons _ _ r => by simp [StrsAre.len r]
theorem IntsAre.len : ∀ {vs : List Value} {ys : List Int}, IntsAre vs ys → vs.length = ys.length
  | _, _, .nil => rfl
  | _, _, .cons _ _ r => by simp [IntsAre.len r]
section
variable {w : World} {A : Around} {env : Env} {C : Shared → Prop} {P : Value → Shared → Prop}
/-- a source whose items are told: by their texts or ints -/
def SrcK {κ : Type} (Is : κ → Value → Prop) (w : World) (A : Around) (env : Env) (C : Shared → Prop) (iter : PySem.Expr) (L : List κ) (Dp : Addr → Prop) : Prop :=
  ∃ Pv, Src w A env C iter L.length Pv Dp ∧ ∀ i v, Pv i v → ∃ x, L[i]? = some x ∧ Is x v
def signs1 (x : Str) : List Str := x.cps.toList.map fun c => ⟨#[c]⟩
theorem SrcK.str {e : PySem.Expr} {x : Str} {Dp : Addr → Prop} (he : Pe w A env C e (SS x)) : SrcK IsS w A env C e (signs1 x) Dp :=
  ⟨SignAt x, by have := Src.str (Dp := Dp) he; simpa [signs1] using this, fun i v ⟨c, u, hc, e⟩ => ⟨⟨#[c]⟩, by simp [signs1, hc], u, e⟩⟩
theorem src_TL {e : PySem.Expr} {ys : List Str} (he : Pe w A env C e (TL ys)) : SrcK IsS w A env C e ys (fun _ => True) := by
  refine ⟨fun i v => ∃ x, ys[i]? = some x ∧ IsS x v, fun s hs => ?_, fun i v h => h⟩
  refine wpAny_mono (he.f s hs) (fun v s₁ ⟨⟨a, items, hv, hl, hi⟩, k⟩ => ?_) fun _ _ x => x
  subst hv
  exact src_list hl trivial k (by have := StrsAre.len hi; simpa using this.symm) fun i v q => StrsAre.get hi (by simpa using q)
theorem src_IL {e : PySem.Expr} {ys : List Int} (he : Pe w A env C e (IL ys)) : SrcK IsI w A env C e ys (fun _ => True) := by
  refine ⟨fun i v => ∃ x, ys[i]? = some x ∧ IsI x v, fun s hs => ?_, fun i v h => h⟩
  refine wpAny_mono (he.f s hs) (fun v s₁ ⟨⟨a, items, hv, hl, hi⟩, k⟩ => ?_) fun _ _ x => x
  subst hv
  exact src_list hl trivial k (by have := IntsAre.len hi; simpa using this.symm) fun i v q => IntsAre.get hi (by simpa using q)
/-- a list of texts at a known place -/
theorem src_TLat {e : PySem.Expr} {ys : List Str} {D : Addr} {items : Array Value} (he : Pe w A env C e (VV (.ref D))) (hC : Stb C) (hl : ∀ s, C s → s.heap.IsList D items) (hi : StrsAre items.toList ys) : SrcK IsS w A env C e ys (· = D) := by
  refine ⟨fun i v => ∃ x, ys[i]? = some x ∧ IsS x v, fun s hs => ?_, fun i v h => h⟩
  refine wpAny_mono (he.f s hs) (fun v s₁ ⟨hv, k⟩ => ?_) fun _ _ x => x
  cases hv
  exact src_list (Dp := (· = D)) (hl s₁ (hC _ _ hs k)) rfl k (by have := StrsAre.len hi; simpa using this.symm) fun i v q => StrsAre.get hi (by simpa using q)
def rangeI (N : Nat) : List Int := (List.range N).map fun (i : Nat) => (i : Int)
theorem src_range {f e : PySem.Expr} {N : Nat} {pos : Pos} {Dp : Addr → Prop} (hC : Stb C) (hf : Pe w A env C f (VV (.type "range"))) (he : Pe w A env C e (II N)) (hN : (N : Int) < 2 ^ 40)
    (h0 : eval (f.Call [e] [] pos) env = (do callWith pos (← eval f env) [] (backTo pos (starEach [e] env)) (backToKw pos (keywordEach [] env))) := by rfl)
    (h1 : starEach [e] env = (false, eval e env) :: starEach [] env := by rfl) : SrcK IsI w A env C (.Call f [e] [] pos) (rangeI N) Dp := by
  refine ⟨fun i v => i < N ∧ ∃ t, v = .int i t, ?_, fun i v ⟨hi, t, e⟩ => ⟨i, by simp [rangeI, hi], t, e⟩⟩
  have q := Src.range (Dp := Dp) hC hf he hN h0 h1
  intro s hs
  have ln : (rangeI N).length = N := by simp [rangeI]
  rw [ln]
  refine wpAny_mono (q s hs) (fun v s₁ h => wpAny_mono h (fun it s₂ h => ?_) fun _ _ x => x) fun _ _ x => x
  obtain ⟨I, fp, wr, St, e, W, r⟩ := h
  exact ⟨I, fp, wr, St, e, fun A' hA => have W := W A' hA; ⟨W.sub, W.frame, fun i s Q E hi' st hQ => W.item i s Q E hi' st fun v h' tk hp => hQ v h' tk ⟨hi', hp⟩, W.done, W.self⟩, r⟩
theorem comp_all {κ : Type} {Is : κ → Value → Prop} {Pv : Nat → Value → Prop} {L : List κ} {k : Value → κ} (hk : ∀ x v, Is x v → k v = x) (hL : ∀ i v, Pv i v → ∃ x, L[i]? = some x ∧ Is x v) {vs : List Value} (hn : vs.length = L.length) (hp : ∀ j v, vs[j]? = some v → Pv j v) : vs.map k = L := by
  apply List.ext_getElem?
  intro i
  rw [List.getElem?_map]
  rcases Nat.lt_or_ge i vs.length with lt | ge
  · have e := List.getElem?_eq_getElem lt
    obtain ⟨x, hx, q⟩ := hL i _ (hp i _ e)
    rw [e, hx, Option.map_some, hk x _ q]
  · rw [List.getElem?_eq_none ge, List.getElem?_eq_none (by omega)]; rfl
/-- a comprehension over such a source -/
theorem compK {κ : Type} {Is : κ → Value → Prop} {k : Value → κ} (hk : ∀ x v, Is x v → k v = x) {elt iter : PySem.Expr} {x : Str} {px pos : Pos} {ifs : List PySem.Expr} {scope : Scope} {cl : List (Str × Addr)} {L : List κ} {R : Heap → Prop} (hR : HStb R) (hC : ∀ s, C s → R s.heap) (hA : A.handled = none)
    (src : SrcK Is w A env C iter L fun _ => True) (hn : L.length ≤ 1000000) (p : κ → Bool) (G : κ → Value → Prop)
    (hclos : closureFor scope env = Pure.pure cl) (hcell : ∀ y ∈ scope.names, y.2 ≠ .cell) (hkind : scope.kind = .function)
    (hnames : ∀ y ∈ scope.names, y.2 = .local → scope.names.lookup y.1 = some .local) (hx : scope.names.lookup x = some .local)
    (tests : ∀ Cn a v, a ∈ L → Is a v → ∀ s, (R s.heap ∧ ∃ m, s.heap.Ns Cn m ∧ m x = some v) → wpAny (M w) A (forIn ifs true fun c r => if r = true then do let ok ← isTrue c (compEnvC scope cl Cn env) (eval c (compEnvC scope cl Cn env)); Pure.pure (ForInStep.yield ok) else Pure.pure (ForInStep.yield r)) (fun ok s' => ok = p a ∧ Keeps s s') No s)
    (elts : ∀ Cn a v, a ∈ L → Is a v → p a = true → Pe w A (compEnvC scope cl Cn env) (Hc fun h => R h ∧ ∃ m, h.Ns Cn m ∧ m x = some v) elt (fun y _ => G a y))
    (hs : ∀ x, foldedSetIterable iter env x = Pure.pure x := by intro _; rfl) {s : Shared} (hsC : C s) :
    wpAny (M w) A (eval (.ListComp elt [⟨.Name x px, iter, ifs, 0⟩] scope pos) env) (fun v s' => ∃ D ys, v = .ref D ∧ s'.heap.IsList D ys ∧ s'.heap.PlainList D ys ∧ s.heap.get? D = none ∧ Paired G (L.filter p) ys.toList ∧ Keeps s s') No s := by
  obtain ⟨Pv, sr, hL⟩ := src
  have mem : ∀ {i : Nat} {a : κ}, L[i]? = some a → a ∈ L := fun h => List.mem_of_getElem? h
  refine wpAny_mono (comp_run hR hC hA sr hn (fun v => p (k v)) (fun v y => G (k v) y) hclos hcell hkind hnames hx (fun Cn i v hv s hs => ?_) (fun Cn i v hv hp => ?_) hs hsC) (fun v s' h => ?_) fun _ _ x => x
  · obtain ⟨a, ha, q⟩ := hL i v hv
    rw [hk a v q]
    exact tests Cn a v (mem ha) q s hs
  · obtain ⟨a, ha, q⟩ := hL i v hv
    rw [hk a v q] at hp ⊢
    exact elts Cn a v (mem ha) q hp
  · obtain ⟨D, ys, vs, e, h1, h2, h3, h4, h5, h6, h7⟩ := h
    refine ⟨D, ys, e, h1, h2, h3, ?_, h7⟩
    have all := comp_all hk hL h4 h5
    have := Paired.of_map (F := G) (k := k) h6
    have fm : (vs.filter fun v => p (k v)).map k = (vs.map k).filter p := by rw [List.filter_map]; rfl
    rwa [fm, all] at this
/-- a for over such a source: J between the turns; the turn writes into Wb alone -/
theorem for_src {κ : Type} {Is : κ → Value → Prop} {x : Str} {px pos : Pos} {iter : PySem.Expr} {body : List Stmt} {Lk : List κ} {Dp : Addr → Prop} (hA : A.handled = none) (src : SrcK Is w A env C iter Lk Dp) {s : Shared} (hs : C s) (Wb : Addr → Prop)
    (hW : ∀ b, Wb b → s.heap.get? b ≠ none) (hD : ∀ b, Dp b → ¬ Wb b) (J : Nat → Shared → Prop) {Q : Flow → Shared → Prop} (start : ∀ s', Keeps s s' → J 0 s')
    (frame : ∀ i s', J i s' → ∀ h' tk, (∀ b o, s.heap.get? b ≠ none → s'.heap.get? b = some o → h'.get? b = some o) → J i { s' with heap := h', toks := tk })
    (turn : ∀ i a v s₁, Lk[i]? = some a → Is a v → J i s₁ → wpAny (M w) A (storeName env x v) (fun _ s₂ => wpAny (M w) A (execs body env) (fun f s₃ => match f with
          | .next | .cont => J (i + 1) s₃ ∧ ∀ b o, ¬ Wb b → s₁.heap.get? b = some o → s₃.heap.get? b = some o
          | .brk => Q .next s₃
          | .ret v => Q (.ret v) s₃) No s₂) No s₁)
    (fin : ∀ s', J Lk.length s' → Q .next s') (hf : ∀ x, foldedSetIterable iter env x = Pure.pure x := by intro _; rfl) :
    wpAny (M w) A (exec (.For (.Name x px) iter body [] pos) env) Q No s := by
  obtain ⟨Pv, sr, hL⟩ := src
  refine for_walk (wpAny_mono (sr s hs) (fun v s₁ h₁ => wpAny_mono h₁ (fun it s₂ h₂ => ?_) fun _ _ e => e) fun _ _ e => e) hf
  obtain ⟨I, fp, wr, St, rfl, W, st0, hfp, hwr, hdp, k⟩ := h₂
  refine ⟨I, fp, wr, Lk.length, Pv, St, J, rfl, W A hA, st0, start _ k, fun i s' ji h' tk kk => frame i s' ji h' tk fun b o hb e => kk b o (fun hm => hb (hwr b hm)) e, fun i v s' lt hv ji st => ?_, fin⟩
  obtain ⟨a, ha, q⟩ := hL i v hv
  refine wpAny_mono (turn i a v s' ha q ji) (fun _ s₂ h₂ => wpAny_mono h₂ (fun f s₃ h₃ => ?_) fun _ _ e => e) fun _ _ e => e
  have nw : ∀ b ∈ fp, ¬ Wb b := fun b hb hw => by
    rcases hdp b hb with q | q
    · exact hW b hw q
    · exact hD b q hw
  cases f with
  | next => exact ⟨h₃.1, (W A hA).frame _ _ _ st fun b hb o e => h₃.2 b o (nw b hb) e⟩
  | cont => exact ⟨h₃.1, (W A hA).frame _ _ _ st fun b hb o e => h₃.2 b o (nw b hb) e⟩
  | brk => exact h₃
  | ret v => exact h₃
/-- ''.join of a list of texts -/
theorem Pe.join {e : PySem.Expr} {x : Str} {ys : List Str} {k apos pos p1} (he : Pe w A env C e (TL ys)) (hC : Stb C) (hok : (ys.map (·.length)).sum + ys.length * x.length ≤ 16777216)
    (h1 : starEach [e] env = (false, eval e env) :: starEach [] env := by rfl)
    (h0 : ∃ pl, eval ((PySem.Expr.Attribute (.Constant (.str x) k p1) "join" apos).Call [e] [] pos) env = (do
          let ov ← eval (.Constant (.str x) k p1) env
          standAt apos.atName
          let (f, first) ← holding [ov] (getMethod ov "join" pl)
          callWith pos f first (backTo pos (starEach [e] env)) []) := by exact ⟨_, rfl⟩) :
    Pe w A env C (.Call (.Attribute (.Constant (.str x) k p1) "join" apos) [e] [] pos) (SS (Txt.join x ys)) := .of fun s hs => by
  obtain ⟨pl, h0⟩ := h0
  refine MethodCall_ (pl := pl) (wpAny_Constant_str (GM.join ?_)) h0
  refine callWith_method1 (args1 he (hC _ _ hs (ktok _ _)) (fun a s₂ ⟨D, items, ha, hl, hi⟩ k' => ?_) h1) h1 rfl
  subst ha
  exact join_list hl hi hok fun t' k => ⟨⟨_, rfl⟩, kt (kt (ktok _ _) k') (ktok _ _)⟩
end
end Mine
end
section
-- part W7
open PySem PySem.W PyProof.Rows
set_option maxRecDepth 100000
set_option maxHeartbeats 0
set_option linter.all false
namespace Mine
/-- within a call: the frame's names, told of the heap alone -/
def Fh (s₀ : Shared) (L : Addr) (l : List (Str × Value)) (h : Heap) : Prop := ∃ m, Fr s₀.heap L h m ∧ ∀ p ∈ l, m p.1 = some p.2
theorem Fh.stb {s₀ : Shared} {L : Addr} {l : List (Str × Value)} : HStb (Fh s₀ L l) := fun h h' ⟨m, F, hl⟩ e => ⟨m, Fr.kept F e, hl⟩
theorem Fc.h {s₀ : Shared} {L : Addr} {l : List (Str × Value)} {s : Shared} (x : Fc s₀ L l s) : Fh s₀ L l s.heap := by
  obtain ⟨h, tk, m, rfl, F, hl⟩ := x; exact ⟨m, F, hl⟩
theorem Fh.says {w : World} {s₀ : Shared} {L : Addr} {l : List (Str × Value)} {h : Heap} (x : Fh s₀ L l h) (Y : Says w s₀.heap) : Says w h := by
  obtain ⟨m, F, hl⟩ := x; exact Y.keeps F.keep
/-- a text's signs -/
abbrev sg (x : Str) : List Nat := x.cps.toList
theorem sg_inj {x y : Str} (h : sg x = sg y) : x = y := by
  cases x; cases y; simp only [Str.mk.injEq]; exact Array.toList_inj.mp h
theorem sg_append (x y : Str) : sg (x ++ y) = sg x ++ sg y := by
  show (Str.append x y).cps.toList = _
  simp [Str.append]
theorem sg_length (x : Str) : (sg x).length = x.length := by simp [sg]; rfl
theorem sg_join (ys : List Str) : sg (Txt.join (Str.ofString "") ys) = (ys.map sg).flatten := by
  have e : ∀ (l : List Str) (acc : Array Nat), (l.foldl (fun acc p => acc ++ (Str.ofString "").cps ++ p.cps) acc).toList = acc.toList ++ (l.map sg).flatten := by
    intro l
    induction l with
    | nil => intro acc; simp
    | cons a l ih =>
      intro acc
      rw [List.foldl_cons, ih]
      have : (Str.ofString "").cps = #[] := by decide
      simp [this]
  cases ys with
  | nil => rfl
  | cons a l =>
    show (l.foldl (fun acc p => acc ++ (Str.ofString "").cps ++ p.cps) a.cps).toList = _
    rw [e]; rfl
theorem len_join (ys : List Str) : (Txt.join (Str.ofString "") ys).length = (ys.map (·.length)).sum := by
  rw [← sg_length, sg_join, List.length_flatten, List.map_map]
  rfl
section
variable {w : World} {A : Around} {E : Value → Shared → Prop} {s : Shared} {n : Nat}
def d3 : Str := Str.ofString "..."
def dots (u : Str) : Str := d3 ++ Txt.join (Str.ofString "") ((signs1 u).map fun x => x ++ d3)
theorem signs1_length {u : Str} : (signs1 u).length = u.length := by simp [signs1]; rfl
theorem signs1_one {u x : Str} (h : x ∈ signs1 u) : x.length = 1 := by
  obtain ⟨c, _, rfl⟩ := List.mem_map.mp h; rfl
theorem sum_const {α : Type} {f : α → Nat} {k : Nat} : ∀ (l : List α), (∀ x ∈ l, f x ≤ k) → (l.map f).sum ≤ l.length * k
  | [], _ => by simp
  | a :: l, h => by
    have := sum_const l fun x hx => h x (List.mem_cons_of_mem _ hx)
    have := h a List.mem_cons_self
    simp only [List.map_cons, List.sum_cons, List.length_cons]
    rw [Nat.add_mul]; omega
theorem dots_ok {u : Str} {t : Tok} (Y : Says w s.heap) (hA : Fine (n + 1) A) (z : u.length < 1000) :
    wpAny (M w) A (call (.ref 120) [.str u t]) (fun v s' => SS (dots u) v s' ∧ Keeps s s') No s := by
  refine call_dots Y hA fun L s₁ F hB => ?_
  generalize A.deeper (envOf "_law_dots" (fScp 14) L 120 (.ref 119)) = B at hB ⊢
  have ok : (((signs1 u).map fun x => x ++ d3).map (·.length)).sum ≤ u.length * 4 := by
    have := sum_const (f := fun x : Str => x.length) (k := 4) ((signs1 u).map fun x => x ++ d3) (by
      intro x hx
      obtain ⟨y, hy, rfl⟩ := List.mem_map.mp hx
      rw [Str.length_append, signs1_one hy]; decide)
    rwa [List.length_map, signs1_length] at this
  refine wpAny_execs_cons (wpAny_Return_some ?_)
  refine Pe.run F (Pe.addS Fc.stb Pe.str (Pe.join (ys := (signs1 u).map fun x => x ++ d3) (.of fun s₂ F₂ => ?_) Fc.stb ?_) ?_) (fun v s' hv F' _ => ?_) Fc.stb
  · refine wpAny_mono (compK (κ := Str) (Is := IsS) (k := kS) (fun _ _ => kS_is) (L := signs1 u) (C := Fc s L _) (Fh.stb) (fun _ h => h.h) hB.1 (SrcK.str (Pe.locS (t := t) (fun _ h => h) (by k_mem))) (by rw [signs1_length]; omega) (fun _ => true) (fun x v => IsS (x ++ d3) v)
      (closureFor_none (by decide)) (by decide) rfl (by decide) rfl (fun Cn a v _ _ s hs => tests_nil) (fun Cn a v ha q _ => ?_) (hsC := F₂)) (fun v s' h => ?_) fun _ _ x => x
    · obtain ⟨tv, rfl⟩ := q
      refine (Pe.addS (Fh.stb.and ns_stb).stb ((Pe.gLoc (fun s h => h.2) rfl rfl).mono fun _ _ e => ⟨tv, e⟩) Pe.str (by rw [signs1_one ha]; decide)).mono fun v s h => h
    · obtain ⟨D, ys, e, h1, h2, h3, h4, h5⟩ := h
      rw [List.filter_eq_self.mpr (fun _ _ => rfl)] at h4
      exact ⟨⟨D, ys, e, h1, strs_of_paired h4⟩, h5⟩
  · rw [List.length_map, signs1_length]
    show _ + _ * 0 ≤ _
    omega
  · rw [len_join]
    show 3 + _ ≤ 2 ^ 24
    omega
  · exact ⟨hv, F'.keeps⟩
end
end Mine
end
section
-- part W8
open PySem PySem.W PyProof.Rows
open PySem.Builtin PySem.Builtin.Str PySem.StrLaws
set_option maxRecDepth 100000
set_option maxHeartbeats 0
set_option linter.all false
namespace Mine
theorem sg_d3 : sg d3 = [46, 46, 46] := by decide
def dotsL : List Nat → List Nat
  | [] => []
  | c :: r => c :: 46 :: 46 :: 46 :: dotsL r
theorem sg_dots (u : Str) : sg (dots u) = 46 :: 46 :: 46 :: dotsL (sg u) := by
  unfold dots
  rw [sg_append, sg_d3, sg_join, List.map_map]
  have : ∀ l : List Nat, ((l.map fun c => (⟨#[c]⟩ : Str)).map (sg ∘ fun x => x ++ d3)).flatten = dotsL l := by
    intro l
    induction l with
    | nil => rfl
    | cons c r ih =>
      simp only [List.map_cons, List.flatten_cons, Function.comp, dotsL]
      have e : sg ((⟨#[c]⟩ : Str) ++ d3) = [c, 46, 46, 46] := by rw [sg_append, sg_d3]; rfl
      rw [e]
      simp only [List.cons_append, List.nil_append]
      congr 4
  exact congrArg _ (this (sg u))
theorem dotsL_length (l : List Nat) : (dotsL l).length = 4 * l.length := by
  induction l with
  | nil => rfl
  | cons c r ih => simp [dotsL, ih]; omega
theorem len_dots (u : Str) : (dots u).length = 4 * u.length + 3 := by
  rw [← sg_length, sg_dots]; simp only [List.length_cons, dotsL_length, sg_length]
theorem dotsL_at : ∀ (l : List Nat) (i : Nat), i < 4 * l.length → (dotsL l)[i]? = if i % 4 = 0 then l[i / 4]? else some 46
  | [], i, h => by simp at h
  | c :: r, 0, _ => rfl
  | c :: r, 1, _ => rfl
  | c :: r, 2, _ => rfl
  | c :: r, 3, _ => rfl
  | c :: r, i + 4, h => by
    have e : (dotsL (c :: r))[i + 4]? = (dotsL r)[i]? := rfl
    rw [e, dotsL_at r i (by simp at h; omega)]
    have : (i + 4) % 4 = i % 4 := by omega
    have : (i + 4) / 4 = i / 4 + 1 := by omega
    simp [*]
theorem dots_at (u : Str) (i : Nat) (h : i < 4 * u.length + 3) : (sg (dots u))[i]? = if i % 4 = 3 then (sg u)[i / 4]? else some 46 := by
  rw [sg_dots]
  match i with
  | 0 => rfl
  | 1 => rfl
  | 2 => rfl
  | i + 3 =>
    show (dotsL (sg u))[i]? = _
    rw [dotsL_at _ _ (by rw [sg_length]; omega)]
    by_cases q : i % 4 = 0
    · rw [if_pos q, if_pos (by omega)]; congr 1; omega
    · rw [if_neg q, if_neg (by omega)]
theorem occ_dots {u : Str} (hu : ∀ c ∈ sg u, c ≠ 46) (k : Nat) : At (dots u) d3 (dots u).length k ↔ k % 4 = 0 ∧ k ≤ 4 * u.length := by
  have l3 : d3.length = 3 := by decide
  unfold At
  rw [l3, len_dots, subAt_eq, l3, show d3.cps.toList = [46, 46, 46] from sg_d3]
  simp only [beq_iff_eq]
  constructor
  · rintro ⟨h1, h2⟩
    refine ⟨?_, by omega⟩
    have g : ∀ j, j < 3 → (sg (dots u))[k + j]? = some 46 := by
      intro j hj
      have := congrArg (fun l : List Nat => l[j]?) h2
      simp only [List.getElem?_take, List.getElem?_drop, if_pos hj] at this
      rw [this]
      match j, hj with
      | 0, _ => rfl
      | 1, _ => rfl
      | 2, _ => rfl
    have n3 : ∀ j, j < 3 → (k + j) % 4 ≠ 3 := by
      intro j hj q
      have := g j hj
      rw [dots_at u _ (by omega), if_pos q] at this
      exact hu 46 (List.mem_of_getElem? this) rfl
    have a := n3 0 (by omega)
    have b := n3 1 (by omega)
    have c := n3 2 (by omega)
    omega
  · rintro ⟨h1, h2⟩
    refine ⟨by omega, ?_⟩
    apply List.ext_getElem?
    intro j
    rw [List.getElem?_take]
    by_cases hj : j < 3
    · rw [if_pos hj, List.getElem?_drop]
      show (sg (dots u))[k + j]? = _
      rw [dots_at u _ (by omega), if_neg (by omega)]
      match j, hj with
      | 0, _ => rfl
      | 1, _ => rfl
      | 2, _ => rfl
    · rw [if_neg hj]
      match j, hj with
      | j + 3, _ => rfl
theorem parts_dots {u : Str} (hu : ∀ c ∈ sg u, c ≠ 46) : ∀ (m j : Nat) (cuts : List Nat) (f : Nat), j + m = u.length → ChainG (dots u) d3 (dots u).length (4 * j + 3) cuts f → (∀ k, f ≤ k → ¬ At (dots u) d3 (dots u).length k) →
    partsFrom (dots u) 3 (4 * j + 3) cuts = ((sg u).drop j).map (fun c => (⟨#[c]⟩ : Str)) ++ [Str.ofString ""]
  | 0, j, cuts, f, e, ch, nf => by
    cases cuts with
    | nil =>
      have : (sg u).drop j = [] := List.drop_eq_nil_of_le (by rw [sg_length]; omega)
      rw [this]
      show [strSub (dots u) (4 * j + 3) (dots u).length] = _
      congr 1
      apply sg_inj
      show (strSub _ _ _).cps.toList = _
      rw [strSub_toList, len_dots, show 4 * u.length + 3 - (4 * j + 3) = 0 by omega]
      rfl
    | cons c r =>
      have := (occ_dots hu c).mp ch.2.1
      have := ch.1
      omega
  | m + 1, j, cuts, f, e, ch, nf => by
    cases cuts with
    | nil =>
      have e1 : f = 4 * j + 3 := ch
      exact absurd ((occ_dots hu (4 * (j + 1))).mpr ⟨by omega, by omega⟩) (nf _ (by omega))
    | cons c r =>
      obtain ⟨h1, h2, h3, h4⟩ := ch
      have hc := (occ_dots hu c).mp h2
      have ec : c = 4 * (j + 1) := by
        rcases Nat.lt_or_ge (4 * (j + 1)) c with lt | ge
        · exact absurd ((occ_dots hu (4 * (j + 1))).mpr ⟨by omega, by omega⟩) (h3 _ (by omega) lt)
        · omega
      subst ec
      have l3 : d3.length = 3 := by decide
      rw [l3] at h4
      have ih := parts_dots hu m (j + 1) r f (by omega) h4 nf
      show strSub (dots u) (4 * j + 3) (4 * (j + 1)) :: partsFrom (dots u) 3 (4 * (j + 1) + 3) r = _
      rw [ih]
      have lt : j < (sg u).length := by rw [sg_length]; omega
      rw [List.drop_eq_getElem_cons lt, List.map_cons, List.cons_append]
      congr 1
      apply sg_inj
      show (strSub _ _ _).cps.toList = _
      rw [strSub_toList, show 4 * (j + 1) - (4 * j + 3) = 1 by omega]
      apply List.ext_getElem?
      intro i
      rw [List.getElem?_take]
      by_cases hi : i < 1
      · have : i = 0 := by omega
        subst this
        rw [if_pos hi, List.getElem?_drop]
        show (sg (dots u))[4 * j + 3 + 0]? = _
        rw [dots_at u _ (by omega), if_pos (by omega), show (4 * j + 3 + 0) / 4 = j by omega, List.getElem?_eq_getElem lt]
        rfl
      · rw [if_neg hi]
        match i, hi with
        | i + 1, _ => rfl
theorem kind_pos (x : Str) : 1 ≤ Builtin.Str.strKind x := by unfold Builtin.Str.strKind; split <;> (try split) <;> omega
theorem split_dots {u : Str} (hu : ∀ c ∈ sg u, c ≠ 46) : Txt.split (dots u) d3 = Str.ofString "" :: (signs1 u ++ [Str.ofString ""]) := by
  have l3 : d3.length = 3 := by decide
  have k3 : Builtin.Str.strKind d3 = 1 := by decide +kernel
  unfold Txt.split
  rw [if_neg (by
    rw [l3, len_dots, k3]
    have := kind_pos (dots u)
    simp
    omega)]
  obtain ⟨f, ch, nf⟩ := occ_tight (dots u) d3 (by rw [l3]; omega)
  generalize occurrences (dots u) d3 0 (dots u).length ((dots u).length + 1) = cuts at ch
  have a0 := (occ_dots hu 0).mpr ⟨rfl, Nat.zero_le _⟩
  cases cuts with
  | nil =>
    have e1 : f = 0 := ch
    exact absurd a0 (nf 0 (by omega))
  | cons c r =>
    obtain ⟨h1, h2, h3, h4⟩ := ch
    have ec : c = 0 := by
      rcases Nat.eq_zero_or_pos c with q | q
      · exact q
      · exact absurd a0 (h3 0 (Nat.zero_le _) q)
    subst ec
    rw [if_neg (by simp), partsBetween_eq, l3]
    rw [l3] at h4
    show strSub (dots u) 0 0 :: partsFrom (dots u) 3 (0 + 3) r = _
    have := parts_dots hu u.length 0 r f (by omega) h4 nf
    rw [show 0 + 3 = 4 * 0 + 3 by rfl, this, List.drop_zero]
    show strSub (dots u) 0 0 :: (signs1 u ++ _) = _
    congr 1
    apply sg_inj
    show (strSub _ _ _).cps.toList = _
    rw [strSub_toList]
    rfl
end Mine
end
section
-- part W9
open PySem PySem.W PyProof.Rows
set_option maxRecDepth 100000
set_option maxHeartbeats 0
set_option linter.all false
namespace Mine
section
variable {w : World} {A : Around} {env : Env} {C : Shared → Prop} {P1 P2 P3 : Value → Shared → Prop}
theorem ex_kept {h : Heap} : KeptH (Ex h) := fun _ ob x b o e => Heap.get?_push_of_some ob (x b o e)
theorem strs_values : ∀ (l : List (Str × Tok)), StrsAre (strValues l) (l.map (·.1))
  | [] => .nil
  | (y, t) :: r => .cons y t (strs_values r)
theorem Pe.split {o e : PySem.Expr} {x y : Str} {apos pos : Pos} (hC : Stb C) (ho : Pe w A env C o (SS x)) (he : Pe w A env C e (SS y)) (hy : (y.length == 0) = false) (hz : x.length < 1000000)
    (h1 : starEach [e] env = (false, eval e env) :: starEach [] env := by rfl)
    (h0 : ∃ pl, eval ((PySem.Expr.Attribute o "split" apos).Call [e] [] pos) env = (do
          let ov ← eval o env
          standAt apos.atName
          let (f, first) ← holding [ov] (getMethod ov "split" pl)
          callWith pos f first (backTo pos (starEach [e] env)) []) := by exact ⟨_, rfl⟩) :
    Pe w A env C (.Call (.Attribute o "split" apos) [e] [] pos) (TL (Txt.split x y)) := .of fun s hs => by
  obtain ⟨pl, h0⟩ := h0
  refine MethodCall_ (pl := pl) (wpAny_mono (ho.f s hs) (fun ov s₁ ⟨⟨t, ev⟩, k⟩ => ?_) fun _ _ x => x) h0
  subst ev
  refine GM.split (callWith_method1 (args1 he (hC _ _ hs k) (fun a s₂ ⟨u, ha⟩ k' => ?_) h1) h1 rfl)
  subst ha
  have hn : (Builtin.Str.partsBetween x (Builtin.Str.occurrences x y 0 x.length (x.length + 1)) y.length).length ≤ sizeLine := by
    have e1 := StrLaws.occ_length_le x y 0 x.length (x.length + 1)
    rw [length_partsBetween]; unfold sizeLine; omega
  refine SCH.split1 (P := Ex s₂.heap) ex_kept (fun _ _ e => e) hy (fun D l h' tk el px hl => ⟨⟨D, _, rfl, hl, ?_⟩, kt (kt k k') ⟨h', tk, rfl, px⟩⟩) (by unfold sizeLine; omega) hn
  rw [← el]
  exact strs_values l
theorem Pe.lenT {f e : PySem.Expr} {ys : List Str} {pos : Pos} (hC : Stb C) (hf : Pe w A env C f (VV (.builtin "len"))) (he : Pe w A env C e (TL ys)) (hz : ys.length < 2 ^ 60)
    (h0 : eval (f.Call [e] [] pos) env = (do callWith pos (← eval f env) [] (backTo pos (starEach [e] env)) (backToKw pos (keywordEach [] env))) := by rfl)
    (h1 : starEach [e] env = (false, eval e env) :: starEach [] env := by rfl) : Pe w A env C (.Call f [e] [] pos) (II ys.length) :=
  Pe.call1 hC hf he (fun a s _ ⟨D, items, ha, hl, hi⟩ => by
    subst ha
    have ln : items.size = ys.length := by have := StrsAre.len hi; simpa using this
    exact len_list hl (by omega) ⟨⟨_, by rw [ln]⟩, ktok _ _⟩) h0 h1
theorem Pe.lenI {f e : PySem.Expr} {ys : List Int} {pos : Pos} (hC : Stb C) (hf : Pe w A env C f (VV (.builtin "len"))) (he : Pe w A env C e (IL ys)) (hz : ys.length < 2 ^ 60)
    (h0 : eval (f.Call [e] [] pos) env = (do callWith pos (← eval f env) [] (backTo pos (starEach [e] env)) (backToKw pos (keywordEach [] env))) := by rfl)
    (h1 : starEach [e] env = (false, eval e env) :: starEach [] env := by rfl) : Pe w A env C (.Call f [e] [] pos) (II ys.length) :=
  Pe.call1 hC hf he (fun a s _ ⟨D, items, ha, hl, hi⟩ => by
    subst ha
    have ln : items.size = ys.length := by have := IntsAre.len hi; simpa using this
    exact len_list hl (by omega) ⟨⟨_, by rw [ln]⟩, ktok _ _⟩) h0 h1
theorem Pt.geI {l r : PySem.Expr} {i j : Int} {pos : Pos} (hC : Stb C) (hl : Pe w A env C l (II i)) (hr : Pe w A env C r (II j)) (hm : behindInMarks .GtE r = false := by with_unfolding_all rfl) : Pt w A env C (.Compare l [.GtE] [r] pos) (decide (j ≤ i)) :=
  Pt.cmp hC II.stb hl hr (fun a b s _ ⟨_, ha⟩ ⟨_, hb⟩ => by subst ha hb; exact ge_int ⟨rfl, kr _⟩) hm
theorem Pe.neg {e : PySem.Expr} {i : Int} {pos : Pos} (he : Pe w A env C e (II i)) : Pe w A env C (.UnaryOp .USub e pos) (II (-i)) := .of fun s hs =>
  wpAny_UnaryOp (wpAny_mono (he.f s hs) (fun v s₁ ⟨⟨t, ev⟩, k⟩ => by subst ev; exact neg_int ⟨⟨_, rfl⟩, kt k (ktok _ _)⟩) fun _ _ x => x)
theorem str_at {vs : List Value} {ys : List Str} (h : StrsAre vs ys) {i : Nat} {y : Str} (hy : ys[i]? = some y) : ∃ t, vs[i]? = some (.str y t) := by
  have lt : i < vs.length := by rw [StrsAre.len h]; exact (List.getElem?_eq_some_iff.mp hy).1
  obtain ⟨x, hx, t, e⟩ := StrsAre.get h (List.getElem?_eq_getElem lt)
  rw [hy] at hx; cases hx
  exact ⟨t, by rw [List.getElem?_eq_getElem lt, e]⟩
theorem int_at {vs : List Value} {ys : List Int} (h : IntsAre vs ys) {i : Nat} {y : Int} (hy : ys[i]? = some y) : ∃ t, vs[i]? = some (.int y t) := by
  have lt : i < vs.length := by rw [IntsAre.len h]; exact (List.getElem?_eq_some_iff.mp hy).1
  obtain ⟨x, hx, t, e⟩ := IntsAre.get h (List.getElem?_eq_getElem lt)
  rw [hy] at hx; cases hx
  exact ⟨t, by rw [List.getElem?_eq_getElem lt, e]⟩
/-- an item of a list, from the front or from behind -/
theorem Pe.itemL {Pl : Value → Shared → Prop} {v sl : PySem.Expr} {i : Int} {pos : Pos} {R : Value → Prop} (hC : Stb C) (kl : Stb2 Pl) (hv : Pe w A env C v Pl) (hi : Pe w A env C sl (II i))
    (hP : ∀ a s, Pl a s → ∃ D items, ∃ x, a = .ref D ∧ s.heap.IsList D items ∧ items.size < 2 ^ 60 ∧ ((0 ≤ i ∧ items[i.toNat]? = some x) ∨ (i < 0 ∧ -(items.size : Int) ≤ i ∧ items[(i + items.size).toNat]? = some x)) ∧ R x)
    (hs1 : ∀ (a b : Value), subscripted sl false a b = operate [a, b] (getItem a b) := by intro _ _; with_unfolding_all rfl) : Pe w A env C (.Subscript v sl pos) (fun x _ => R x) := .of fun s hs => by
  refine Subscript_ (Pe.two hC kl hv hi hs fun a b s' _ ha ⟨tb, hb⟩ k => ?_)
  subst hb
  obtain ⟨D, items, x, rfl, hl, hz, hx, hR⟩ := hP a s' ha
  refine tail_any hl.typeIs slot_list_getitem.lookup ?_ (hs1 _ _)
  rcases hx with ⟨h0, hx⟩ | ⟨h0, h1, hx⟩
  · have lt : i.toNat < items.size := by
      rcases Nat.lt_or_ge i.toNat items.size with q | q
      · exact q
      · rw [Array.getElem?_eq_none q] at hx; cases hx
    exact wpAny_getItem_list hl h0 (by omega) hx ⟨hR, k⟩
  · exact wpAny_getItem_list_neg hl h0 h1 (by omega) hx ⟨hR, k⟩
theorem Pe.itemT {v sl : PySem.Expr} {ys : List Str} {i : Int} {y : Str} {pos : Pos} (hC : Stb C) (hv : Pe w A env C v (TL ys)) (hi : Pe w A env C sl (II i)) (hz : ys.length < 2 ^ 60)
    (hy : (0 ≤ i ∧ ys[i.toNat]? = some y) ∨ (i < 0 ∧ -(ys.length : Int) ≤ i ∧ ys[(i + ys.length).toNat]? = some y))
    (hs1 : ∀ (a b : Value), subscripted sl false a b = operate [a, b] (getItem a b) := by intro _ _; with_unfolding_all rfl) : Pe w A env C (.Subscript v sl pos) (SS y) :=
  Pe.itemL (R := fun x => ∃ t, x = .str y t) hC TL.stb hv hi (fun a s ⟨D, items, e, hl, hS⟩ => by
    have ln : items.size = ys.length := by have := StrsAre.len hS; simpa using this
    rcases hy with ⟨h0, hy⟩ | ⟨h0, h1, hy⟩
    · obtain ⟨t, q⟩ := str_at hS hy
      exact ⟨D, items, _, e, hl, by omega, .inl ⟨h0, by simpa using q⟩, t, rfl⟩
    · obtain ⟨t, q⟩ := str_at hS hy
      exact ⟨D, items, _, e, hl, by omega, .inr ⟨h0, by omega, by rw [ln]; simpa using q⟩, t, rfl⟩) hs1
theorem Pe.itemI {v sl : PySem.Expr} {ys : List Int} {i : Int} {y : Int} {pos : Pos} (hC : Stb C) (hv : Pe w A env C v (IL ys)) (hi : Pe w A env C sl (II i)) (hz : ys.length < 2 ^ 60)
    (hy : (0 ≤ i ∧ ys[i.toNat]? = some y) ∨ (i < 0 ∧ -(ys.length : Int) ≤ i ∧ ys[(i + ys.length).toNat]? = some y))
    (hs1 : ∀ (a b : Value), subscripted sl false a b = operate [a, b] (getItem a b) := by intro _ _; with_unfolding_all rfl) : Pe w A env C (.Subscript v sl pos) (II y) :=
  Pe.itemL (R := fun x => ∃ t, x = .int y t) hC IL.stb hv hi (fun a s ⟨D, items, e, hl, hS⟩ => by
    have ln : items.size = ys.length := by have := IntsAre.len hS; simpa using this
    rcases hy with ⟨h0, hy⟩ | ⟨h0, h1, hy⟩
    · obtain ⟨t, q⟩ := int_at hS hy
      exact ⟨D, items, _, e, hl, by omega, .inl ⟨h0, by simpa using q⟩, t, rfl⟩
    · obtain ⟨t, q⟩ := int_at hS hy
      exact ⟨D, items, _, e, hl, by omega, .inr ⟨h0, by omega, by rw [ln]; simpa using q⟩, t, rfl⟩) hs1
/-- the truth of a text -/
theorem Pt.truthS {e : PySem.Expr} {x : Str} (he : Pe w A env C e (SS x)) (hz : x.length < 2 ^ 60)
    (hp : isTrue e env (eval e env) = (do let v ← eval e env; standAt e.pos; holding [v] (truthy v)) := by rfl) : Pt w A env C e (decide (x.length ≠ 0)) := .of fun s hs => by
  refine wpAny_isTrue_value (wpAny_mono (he.f s hs) (fun v s₁ ⟨⟨t, ev⟩, k⟩ => ?_) fun _ _ x => x) hp
  subst ev
  refine P.truthy_str (by omega) ⟨?_, kt k (ktok _ _)⟩
  rw [Bool.eq_iff_iff]; simp
end
end Mine
end
section
-- part W10
open PySem PySem.W PyProof.Rows
set_option maxRecDepth 100000
set_option maxHeartbeats 0
set_option linter.all false
namespace Mine
local macro_rules | `(tactic| walk_at "put") => `(tactic| ((repeat' (first | exact List.forall_mem_nil _ | refine List.forall_mem_cons.mpr ⟨?_, ?_⟩)) <;> first | exact Or.inl rfl | exact Or.inr ⟨by k_mem, by dsimp only; decide⟩))
local macro_rules | `(tactic| walk_at "sub") => `(tactic| (repeat' (first | exact List.forall_mem_nil _ | refine List.forall_mem_cons.mpr ⟨by k_mem, ?_⟩)))
section
variable {w : World} {A : Around} {E : Value → Shared → Prop} {s : Shared} {n : Nat}
theorem Fc.ne_list {s₀ : Shared} {L D : Addr} {l : List (Str × Value)} {items : Array Value} {s : Shared} (x : Fc s₀ L l s) (h : s.heap.IsList D items) : D ≠ L := by
  obtain ⟨hh, tk, m, rfl, F, _⟩ := x
  obtain ⟨o, es, ep, ho, hd, _⟩ := F.ns
  obtain ⟨o', ho', _, n, hd'⟩ := h
  rintro rfl
  rw [ho] at ho'; cases ho'
  rw [hd] at hd'; cases hd'
theorem Stb.and {C C' : Shared → Prop} (h : Stb C) (k : Stb C') : Stb fun s => C s ∧ C' s := fun _ _ x e => ⟨h _ _ x.1 e, k _ _ x.2 e⟩
theorem isList_stb {D : Addr} {items : Array Value} : Stb fun s => s.heap.IsList D items := fun _ _ x k => x.at fun o => kg k D o
theorem Pe.monoC {env : Env} {C : Shared → Prop} {P P' : Value → Shared → Prop} {e : PySem.Expr} (h : Pe w A env C e P) (hC : Stb C) (k : ∀ v s, C s → P v s → P' v s) : Pe w A env C e P' := .of fun s hs => wpAny_mono (h.f s hs) (fun v s' x => ⟨k v s' (hC _ _ hs x.2) x.1, x.2⟩) fun _ _ x => x
/-- the search of the parts, one behind the other -/
def ellF (x : Str) : Int → List Str → Bool
  | _, [] => true
  | sp, y :: r => if Txt.find3 x y sp < 0 then false else ellF x (Txt.find3 x y sp + y.length) r
theorem args_find4 (a b c d : Value) : argsOk "str.find" ⟨[a, b, c, d], []⟩ := by unfold argsOk; kernel_rfl
theorem gives_find4 (x y : Str) (i j : Int) (t u v v' : Tok) : Gives (Builtin.«str.find» ⟨[.str x t, .str y u, .int i v, .int j v'], []⟩) (.int (match Builtin.Str.occurrences x y (fromIndex x.length i) (min (fromIndex x.length j) x.length) 1 with | k :: _ => (k : Int) | [] => -1)) := by
  show Gives (match Builtin.Str.occurrences x y (fromIndex x.length i) (min (fromIndex x.length j) x.length) 1 with | k :: _ => retInt k | [] => (do rule "str.find.not-found"; retInt (-1))) _
  cases Builtin.Str.occurrences x y (fromIndex x.length i) (min (fromIndex x.length j) x.length) 1 with
  | nil => exact .rule (.of_eq rfl)
  | cons k _ => exact .of_eq rfl
theorem find4 {x y : Str} {i : Int} {t u v v' : Tok} {Q : Value → Shared → Prop} (hq : Q (.int (Txt.find3 x y i) s.toks) { s with toks := s.toks + 1 }) :
    wpAny (M w) A (call (.builtin "str.find") [.str x t, .str y u, .int i v, .int x.length v']) Q E s := by
  have e : min (fromIndex x.length (x.length : Int)) x.length = x.length := by unfold fromIndex; split <;> omega
  refine call_gives F.slot_str_find (typeIs_str _ _ _) F.entry_str_find (args_find4 _ _ _ _) (gives_find4 x y i x.length t u v v') ?_
  rw [e]
  exact hq
theorem Fc.framed {s₀ sB s' : Shared} {L : Addr} {l l' : List (Str × Value)} {h' : Heap} {tk : Nat} (F : Fc s₀ L l sB) (x : Fc s₀ L l' s') (k : ∀ b o, sB.heap.get? b ≠ none → s'.heap.get? b = some o → h'.get? b = some o) :
    Fc s₀ L l' { s' with heap := h', toks := tk } := by
  have kb := kg F.keeps
  obtain ⟨h, t, m, rfl, Fx, hl⟩ := x
  obtain ⟨o, ho⟩ : ∃ o, sB.heap.get? L = some o := by
    obtain ⟨hh, tk, mm, rfl, G, _⟩ := F
    obtain ⟨o, es, ep, ho, hd, _⟩ := G.ns
    exact ⟨o, ho⟩
  exact ⟨h', tk, m, rfl, ⟨Fx.ns.at' fun o' e => k L o' (by rw [ho]; simp) e, fun b o' e => k b o' (by rw [kb b o' e]; simp) (Fx.keep b o' e), Fx.above⟩, hl⟩
theorem Fc.has {s₀ sB : Shared} {L : Addr} {l : List (Str × Value)} (F : Fc s₀ L l sB) : sB.heap.get? L ≠ none := by
  obtain ⟨hh, tk, mm, rfl, G, _⟩ := F
  obtain ⟨o, es, ep, ho, hd, _⟩ := G.ns
  show hh.get? L ≠ none
  rw [ho]; simp
theorem args3 {env : Env} {C : Shared → Prop} {P1 P2 P3 : Value → Shared → Prop} {e f g : PySem.Expr} {pos : Pos} (hC : Stb C) (k1 : Stb2 P1) (k2 : Stb2 P2) (he : Pe w A env C e P1) (hf : Pe w A env C f P2) (hg : Pe w A env C g P3) {s : Shared} (hs : C s) {Q : List Value → Shared → Prop} (h : ∀ a b c s', P1 a s' → P2 b s' → P3 c s' → Keeps s s' → Q [a, b, c] s')
    (h1 : starEach [e, f, g] env = (false, eval e env) :: starEach [f, g] env := by rfl) (h2 : starEach [f, g] env = (false, eval f env) :: starEach [g] env := by rfl) (h3 : starEach [g] env = (false, eval g env) :: starEach [] env := by rfl) : wpAny (M w) A (spliced (backTo pos (starEach [e, f, g] env))) Q No s :=
  wpAny_items_cons (wpAny_mono (he.f s hs) (fun a s₁ ⟨ha, k⟩ => wpAny_items_cons (wpAny_mono (hf.f s₁ (hC _ _ hs k)) (fun b s₂ ⟨hb, k'⟩ => wpAny_items_cons (wpAny_mono (hg.f s₂ (hC _ _ (hC _ _ hs k) k')) (fun c s₃ ⟨hc, k''⟩ => wpAny_items_nil (h a b c s₃ (k1 _ _ _ ha (kt k' k'')) (k2 _ _ _ hb k'') hc (kt (kt k k') k''))) fun _ _ x => x) h3) fun _ _ x => x) h2) fun _ _ x => x) h1
theorem Pe.find4 {env : Env} {C : Shared → Prop} {o e f g : PySem.Expr} {x y : Str} {i : Int} {apos pos : Pos} (hC : Stb C) (ho : Pe w A env C o (SS x)) (he : Pe w A env C e (SS y)) (hf : Pe w A env C f (II i)) (hg : Pe w A env C g (II x.length))
    (h1 : starEach [e, f, g] env = (false, eval e env) :: starEach [f, g] env := by rfl) (h2 : starEach [f, g] env = (false, eval f env) :: starEach [g] env := by rfl) (h3 : starEach [g] env = (false, eval g env) :: starEach [] env := by rfl)
    (h0 : ∃ pl, eval ((PySem.Expr.Attribute o "find" apos).Call [e, f, g] [] pos) env = (do
          let ov ← eval o env
          standAt apos.atName
          let (f', first) ← holding [ov] (getMethod ov "find" pl)
          callWith pos f' first (backTo pos (starEach [e, f, g] env)) []) := by exact ⟨_, rfl⟩)
    (h4 : (backTo pos (starEach [f, g] env)).any (·.1) = false := by rfl) :
    Pe w A env C (.Call (.Attribute o "find" apos) [e, f, g] [] pos) (II (Txt.find3 x y i)) := .of fun s hs => by
  obtain ⟨pl, h0⟩ := h0
  refine MethodCall_ (pl := pl) (wpAny_mono (ho.f s hs) (fun ov s₁ ⟨⟨t, ev⟩, k⟩ => ?_) fun _ _ x => x) h0
  subst ev
  refine GM.find (callWith_method1 (args3 hC SS.stb II.stb he hf hg (hC _ _ hs k) (fun a b c s₂ ⟨u, ha⟩ ⟨u', hb⟩ ⟨u'', hc⟩ k' => ?_) h1 h2 h3) h1 h4)
  subst ha hb hc
  exact Mine.find4 ⟨⟨_, rfl⟩, kt (kt k k') (ktok _ _)⟩
theorem ell_ok {u got : Str} {t t' : Tok} (Y : Says w s.heap) (hA : Fine (n + 1) A) (hu : ∀ c ∈ sg u, c ≠ 46) (z : u.length < 1000) (z' : got.length < 1000) :
    wpAny (M w) A (call (.ref 21) [.str (dots u) t, .str got t']) (fun v s' => BB (ellF got 0 (Str.ofString "" :: (signs1 u ++ [Str.ofString ""]))) v s' ∧ Keeps s s') No s := by
  have zd : (dots u).length < 10000 := by rw [len_dots]; omega
  refine call_ell Y hA fun L s₁ F hB => ?_
  generalize A.deeper (envOf "_ellipsis_match" (fScp 2) L 21 (.ref 20)) = B at hB ⊢
  refine wpAny_execs_cons (wpAny_If (Pt.run F (Pt.notInS (x := d3) (y := dots u) Fc.stb ((Pe.glob (fun _ h => h) Y (g_marker _)).mono fun _ _ e => ⟨189, e⟩) (Pe.locS (t := t) (fun _ h => h) (by k_mem))) (fun s₂ F₂ _ => ?_) Fc.stb))
  have ne : List.isEmpty (Builtin.Str.occurrences (dots u) d3 0 (dots u).length 1) = false := by
    rcases StrLaws.occ_head_from (dots u) d3 0 1 (Nat.le_refl 1) with ⟨_, hn⟩ | ⟨k, r, e, _⟩
    · exact absurd ((occ_dots hu 0).mpr ⟨rfl, Nat.zero_le _⟩) (hn 0 (Nat.le_refl _))
    · rw [e]; rfl
  rw [ne]
  refine wpAny_execs_nil ?_
  -- ws
  refine wpAny_execs_cons (wpAny_Assign_Name (Pe.run F₂ (Pe.split (x := dots u) (y := d3) Fc.stb (Pe.locS (t := t) (fun _ h => h) (by k_mem)) ((Pe.glob (fun _ h => h) Y (g_marker _)).mono fun _ _ e => ⟨189, e⟩) (by decide) (by omega)) (fun v s₃ hv F₃ _ => ?_) Fc.stb))
  obtain ⟨D, items, rfl, hl, hi⟩ := hv
  rw [split_dots hu] at hi
  have ld := F₃.ne_list hl
  refine Fc.store (l' := [(Str.ofString "want", .str (dots u) t), (Str.ofString "got", .str got t'), (Str.ofString "ws", .ref D)]) F₃ (by walk_at "put") (fun s₄ F₄ kk₄ => ?_)
  have hl₄ : s₄.heap.IsList D items := hl.at fun o e => kk₄ D o ld e
  have stb : ∀ l, Stb (fun s' => Fc s L l s' ∧ s'.heap.IsList D items) := fun l => Fc.stb.and isList_stb
  have ws : ∀ {l : List (Str × Value)} {pos : Pos}, (Str.ofString "ws", Value.ref D) ∈ l → Pe w B (envOf "_ellipsis_match" (fScp 2) L 21 (.ref 20)) (fun s' => Fc s L l s' ∧ s'.heap.IsList D items) (.Name "ws" pos) (TL (Str.ofString "" :: (signs1 u ++ [Str.ofString ""]))) := fun {l pos} hm =>
    Pe.monoC (Pe.loc (fun _ h => h.1) hm) (stb l) fun v s' c e => ⟨D, items, e, c.2, hi⟩
  have zl : (Str.ofString "" :: (signs1 u ++ [Str.ofString ""])).length = u.length + 2 := by simp [signs1_length]
  -- assert
  refine wpAny_execs_cons (wpAny_Assert_holds (Pt.run (C := fun s' => Fc s L _ s' ∧ s'.heap.IsList D items) ⟨F₄, hl₄⟩ (Pt.geI (stb _) (Pe.lenT (stb _) (Pe.blt (fun _ h => h.1) Y (blt_len _)) (ws (by k_mem)) (by omega)) Pe.int) (fun s₅ F₅ _ => ⟨by rw [zl]; simp; omega, ?_⟩) (stb _)))
  -- startpos, endpos
  refine wpAny_execs_cons (Assign_Tuple_swapped (names := ["startpos", "endpos"]) (wpAny_Tuple ?_))
  refine args2 (C := fun s' => Fc s L _ s' ∧ s'.heap.IsList D items) (stb _) II.stb Pe.int (Pe.lenS (x := got) (stb _) (Pe.blt (fun _ h => h.1) Y (blt_len _)) (Pe.locS (t := t') (fun _ h => h.1) (by k_mem)) (by omega)) F₅ (fun a b s₆ ha hb k₆ => ?_)
  obtain ⟨ta, rfl⟩ := ha
  obtain ⟨tb, rfl⟩ := hb
  have F₆ := stb _ _ _ F₅ k₆
  refine ⟨by show 2 ≤ 2 ^ 24; decide, ?_⟩
  refine unpackItems_tuple (items := #[.int 0 ta, .int got.length tb]) hB.1 ⟨_, Heap.get?_push_size _ rfl, rfl, 0, rfl⟩ fun h₇ he => ?_
  have k₇ : Keeps s₆ { s₆ with heap := h₇ } := ⟨h₇, s₆.toks, rfl, fun b o e => he b o (Nat.ne_of_lt (by rw [Heap.size_push]; exact Nat.lt_succ_of_lt (Heap.lt_size e))) (Heap.get?_push_of_some _ e)⟩
  have F₇ := stb _ _ _ F₆ k₇
  refine wpAny_bind (wpAny_holding (wpAny_bindName (Fc.store (l' := [(Str.ofString "want", .str (dots u) t), (Str.ofString "got", .str got t'), (Str.ofString "ws", .ref D), (Str.ofString "endpos", .int got.length tb)]) F₇.1 (by walk_at "put") (fun s₈ F₈ kk₈ => ?_))))
  refine wpAny_bind (wpAny_holding (wpAny_bindName (Fc.store (l' := [(Str.ofString "want", .str (dots u) t), (Str.ofString "got", .str got t'), (Str.ofString "ws", .ref D), (Str.ofString "endpos", .int got.length tb), (Str.ofString "startpos", .int 0 ta)]) F₈ (by walk_at "put") (fun s₉ F₉ kk₉ => ?_))))
  have hl₉ : s₉.heap.IsList D items := F₇.2.at fun o e => kk₉ D o ld (kk₈ D o ld e)
  refine wpAny_pure ?_
  -- w = ws[0]; if w
  refine wpAny_execs_cons (wpAny_Assign_Name (Pe.run (C := fun s' => Fc s L _ s' ∧ s'.heap.IsList D items) ⟨F₉, hl₉⟩ (Pe.itemT (y := Str.ofString "") (stb _) (ws (by k_mem)) Pe.int (by omega) (.inl ⟨by decide, rfl⟩)) (fun v s10 hv F10 _ => ?_) (stb _)))
  obtain ⟨tw, rfl⟩ := hv
  refine Fc.store (l' := [(Str.ofString "want", .str (dots u) t), (Str.ofString "got", .str got t'), (Str.ofString "ws", .ref D), (Str.ofString "endpos", .int got.length tb), (Str.ofString "startpos", .int 0 ta), (Str.ofString "w", .str (Str.ofString "") tw)]) F10.1 (by walk_at "put") (fun s11 F11 kk11 => ?_)
  have hl11 : s11.heap.IsList D items := F10.2.at fun o e => kk11 D o ld e
  refine wpAny_execs_cons (wpAny_If (Pt.run (C := fun s' => Fc s L _ s' ∧ s'.heap.IsList D items) ⟨F11, hl11⟩ (Pt.truthS (x := Str.ofString "") (Pe.locS (t := tw) (fun _ h => h.1) (by k_mem)) (by decide)) (fun s12 F12 _ => ?_) (stb _)))
  rw [if_neg (by decide)]
  refine wpAny_execs_nil ?_
  -- w = ws[-1]; if w
  have lastv : (Str.ofString "" :: (signs1 u ++ [Str.ofString ""]))[(-(1 : Int) + ((Str.ofString "" :: (signs1 u ++ [Str.ofString ""])).length : Int)).toNat]? = some (Str.ofString "") := by
    rw [zl, show (-(1 : Int) + ((u.length + 2 : Nat) : Int)).toNat = (signs1 u).length + 1 by rw [signs1_length]; omega]
    rw [List.getElem?_cons_succ, List.getElem?_append_right (Nat.le_refl _)]
    simp
  refine wpAny_execs_cons (wpAny_Assign_Name (Pe.run (C := fun s' => Fc s L _ s' ∧ s'.heap.IsList D items) F12 (Pe.itemT (y := Str.ofString "") (stb _) (ws (by k_mem)) (Pe.neg Pe.int) (by omega) (.inr ⟨by decide, by rw [zl]; omega, lastv⟩)) (fun v s13 hv F13 _ => ?_) (stb _)))
  obtain ⟨tx, rfl⟩ := hv
  refine Fc.store (l' := [(Str.ofString "want", .str (dots u) t), (Str.ofString "got", .str got t'), (Str.ofString "ws", .ref D), (Str.ofString "endpos", .int got.length tb), (Str.ofString "startpos", .int 0 ta), (Str.ofString "w", .str (Str.ofString "") tx)]) F13.1 (by walk_at "put") (fun s14 F14 kk14 => ?_)
  have hl14 : s14.heap.IsList D items := F13.2.at fun o e => kk14 D o ld e
  refine wpAny_execs_cons (wpAny_If (Pt.run (C := fun s' => Fc s L _ s' ∧ s'.heap.IsList D items) ⟨F14, hl14⟩ (Pt.truthS (x := Str.ofString "") (Pe.locS (t := tx) (fun _ h => h.1) (by k_mem)) (by decide)) (fun s15 F15 _ => ?_) (stb _)))
  rw [if_neg (by decide)]
  refine wpAny_execs_nil ?_
  -- if startpos > endpos
  refine wpAny_execs_cons (wpAny_If (Pt.run (C := fun s' => Fc s L _ s' ∧ s'.heap.IsList D items) F15 (Pt.gtI (stb _) (Pe.locI (t := ta) (fun _ h => h.1) (by k_mem)) (Pe.locI (t := tb) (fun _ h => h.1) (by k_mem))) (fun s16 F16 _ => ?_) (stb _)))
  rw [if_neg (by simp)]
  refine wpAny_execs_nil ?_
  have hD : ∀ b : Addr, b = D → ¬ b = L := fun b e e' => ld (e ▸ e')
  have yall : ∀ y ∈ (Str.ofString "" :: (signs1 u ++ [Str.ofString ""])), y.length < 2 ^ 60 := by
    intro y hy
    rcases List.mem_cons.mp hy with rfl | hy
    · decide
    · rcases List.mem_append.mp hy with hy | hy
      · rw [signs1_one hy]; decide
      · rw [List.mem_singleton.mp hy]; decide
  generalize hys : (Str.ofString "" :: (signs1 u ++ [Str.ofString ""])) = ys at hi yall ⊢
  refine wpAny_execs_cons (for_src hB.1 (src_TLat (D := D) (items := items) (Pe.loc (fun _ h => h.1) (by k_mem)) (stb _) (fun _ h => h.2) hi) F16 (· = L) (fun b e => e ▸ F16.1.has) hD
    (fun i s' => ∃ sp tk, Fc s L [(Str.ofString "want", .str (dots u) t), (Str.ofString "got", .str got t'), (Str.ofString "ws", .ref D), (Str.ofString "endpos", .int got.length tb), (Str.ofString "startpos", .int sp tk)] s' ∧ ellF got sp (ys.drop i) = ellF got 0 ys)
    (fun s' k => ⟨0, ta, Fc.stb _ _ (F16.1.sub (by walk_at "sub")) k, rfl⟩)
    (fun i s' ⟨sp, tk, x, hx⟩ h' tk' kk => ⟨sp, tk, F16.1.framed x kk, hx⟩) (fun i y v s₁ hy ⟨ty, hv⟩ ⟨sp, tk, x, hx⟩ => ?_) (fun s' ⟨sp, tk, x, hx⟩ => ?_))
  · subst hv
    refine Fc.store (l' := [(Str.ofString "want", .str (dots u) t), (Str.ofString "got", .str got t'), (Str.ofString "ws", .ref D), (Str.ofString "endpos", .int got.length tb), (Str.ofString "startpos", .int sp tk), (Str.ofString "w", .str y ty)]) x (by walk_at "put") (fun s17 F17 kk17 => ?_)
    refine wpAny_execs_cons (wpAny_Assign_Name (Pe.run F17 (Pe.find4 (x := got) (y := y) (i := sp) Fc.stb (Pe.locS (t := t') (fun _ h => h) (by k_mem)) (Pe.locS (t := ty) (fun _ h => h) (by k_mem)) (Pe.locI (t := tk) (fun _ h => h) (by k_mem)) (Pe.locI (t := tb) (fun _ h => h) (by k_mem))) (fun v s18 hv F18 k18 => ?_) Fc.stb))
    obtain ⟨tv, rfl⟩ := hv
    refine Fc.store (l' := [(Str.ofString "want", .str (dots u) t), (Str.ofString "got", .str got t'), (Str.ofString "ws", .ref D), (Str.ofString "endpos", .int got.length tb), (Str.ofString "startpos", .int (Txt.find3 got y sp) tv), (Str.ofString "w", .str y ty)]) F18 (by walk_at "put") (fun s19 F19 kk19 => ?_)
    refine wpAny_execs_cons (wpAny_If (Pt.run F19 (Pt.ltI Fc.stb (Pe.locI (t := tv) (fun _ h => h) (by k_mem)) Pe.int) (fun s20 F20 k20 => ?_) Fc.stb))
    have dr : ys.drop i = y :: ys.drop (i + 1) := by
      obtain ⟨lt, rfl⟩ := List.getElem?_eq_some_iff.mp hy
      exact List.drop_eq_getElem_cons lt
    rw [dr, ellF] at hx
    by_cases q : Txt.find3 got y sp < 0
    · rw [if_pos (by simpa using q)]
      refine wpAny_execs_cons (wpAny_Return_some (Pe.run F20 Pe.bool (fun v s21 hv F21 k21 => ?_) Fc.stb))
      rw [if_pos q] at hx
      exact ⟨by rw [hv, ← hx], F21.keeps⟩
    · rw [if_neg (by simpa using q)]
      rw [if_neg q] at hx
      have yz : y.length < 2 ^ 60 := yall y (List.mem_of_getElem? hy)
      refine wpAny_execs_nil (wpAny_execs_cons (Fc.augI (t := tv) (l' := fun tk' => [(Str.ofString "want", .str (dots u) t), (Str.ofString "got", .str got t'), (Str.ofString "ws", .ref D), (Str.ofString "endpos", .int got.length tb), (Str.ofString "startpos", .int (Txt.find3 got y sp + y.length) tk')]) F20 (by k_mem) (Pe.lenS (x := y) Fc.stb (Pe.blt (fun _ h => h) Y (blt_len _)) (Pe.locS (t := ty) (fun _ h => h) (by k_mem)) yz) (by intro tk'; walk_at "put") (fun s21 tk21 F21 kk21 => ?_)))
      exact wpAny_execs_nil ⟨⟨_, _, F21, hx⟩, fun b o hb e => kk21 b o hb (kg k20 b o (kk19 b o hb (kg k18 b o (kk17 b o hb e))))⟩
  · rw [List.drop_length] at hx
    refine wpAny_execs_cons (wpAny_Return_some (Pe.run x Pe.bool (fun v s21 hv F21 k21 => ?_) Fc.stb))
    exact ⟨by rw [hv, ← hx]; rfl, F21.keeps⟩
end
end Mine
end
section
-- part W11
open PySem PySem.W PyProof.Rows
set_option maxRecDepth 100000
set_option maxHeartbeats 0
set_option linter.all false
namespace Mine
local macro_rules | `(tactic| walk_at "put") => `(tactic| ((repeat' (first | exact List.forall_mem_nil _ | refine List.forall_mem_cons.mpr ⟨?_, ?_⟩)) <;> first | exact Or.inl rfl | exact Or.inr ⟨by k_mem, by dsimp only; decide⟩))
local macro_rules | `(tactic| walk_at "sub") => `(tactic| (repeat' (first | exact List.forall_mem_nil _ | refine List.forall_mem_cons.mpr ⟨by k_mem, ?_⟩)))
section
variable {w : World} {A : Around} {E : Value → Shared → Prop} {s : Shared} {n : Nat}
theorem while_no {env : Env} {test : PySem.Expr} {body : List Stmt} {pos : Pos} {Q : Flow → Shared → Prop} (I : Nat → Shared → Prop)
    (turn : ∀ n s, I n s → wpAny (M w) A (isTrue test env (eval test env)) (fun b s₂ => if b then wpAny (M w) A (execs body env) (fun f s₃ => match f with
            | .next | .cont => ∃ m, m < n ∧ I m s₃
            | .brk => Q .next s₃
            | .ret v => Q (.ret v) s₃) No s₂ else Q .next s₂) No s) (n : Nat) (h : I n s) :
    wpAny (M w) A (exec (.While test body [] pos) env) Q No s := by
  refine wpAny_While (codeAny_whileLoop I (fun n s hI => ?_) n h)
  refine wpAny_mono (turn n s hI) (fun b s₂ h₂ => ?_) fun _ _ x => x.elim
  cases b with
  | true =>
    rw [if_pos rfl] at h₂ ⊢
    refine wpAny_mono h₂ (fun f s₃ h₃ => ?_) fun _ _ x => x.elim
    cases f <;> exact h₃
  | false =>
    rw [if_neg Bool.false_ne_true] at h₂ ⊢
    exact wpAny_execs_nil h₂
noncomputable abbrev fd30 : FuncData := ⟨(Str.ofString "bisect_left"), (Str.ofString "bisect_left"), fPar 4, .stmts (fBod 4), fScp 4, 3, [], (.ref 22), (.ref 23), .none, (.str (Str.ofString "cpy313.bisect") 203), none, (.ref 29), .none, 0⟩
theorem bis_binds (Y : Says w s.heap) (v1 v2 : Value) : BindsTo s fd30 ⟨[v1, v2], []⟩ [(Str.ofString "a", v1), (Str.ofString "x", v2), (Str.ofString "lo", .int 0 205), (Str.ofString "hi", .none), (Str.ofString "key", .none)] := fun M A E Q hq => by
  have e1 : fd30.params.posonlyargs.map (·.arg) = [] := by kernel_rfl!
  have e2 : fd30.params.args.map (·.arg) = [Str.ofString "a", Str.ofString "x", Str.ofString "lo", Str.ofString "hi"] := by kernel_rfl!
  have e3 : fd30.params.kwonlyargs.map (·.arg) = [Str.ofString "key"] := by kernel_rfl!
  have e4 : fd30.params.vararg = none := by kernel_rfl!
  have e5 : fd30.params.kwarg = none := by kernel_rfl!
  have e6 : fd30.defaults = .ref 22 := rfl
  have e7 : fd30.kwdefaults = .ref 23 := rfl
  generalize fd30 = fd at e1 e2 e3 e4 e5 e6 e7 ⊢
  unfold bindArgs
  simp only [e1, e2, e3, e4, e5, e6, e7]
  show wpAny M A (seqItems? (.ref 22) >>= _) Q E s
  refine wpAny_bind (wpAny_seqItems (Y 22 (o22x6 w.params) (by kernel_rfl!)) rfl ?_)
  rw [if_neg (by simp)]
  have n1 : (Str.ofString "a" == Str.ofString "x") = false := by decide
  have n2 : (Str.ofString "x" == Str.ofString "a") = false := by decide
  have n3 : (Str.ofString "lo" == Str.ofString "a") = false := by decide
  have n4 : (Str.ofString "lo" == Str.ofString "x") = false := by decide
  have n5 : (Str.ofString "hi" == Str.ofString "a") = false := by decide
  have n6 : (Str.ofString "hi" == Str.ofString "x") = false := by decide
  have n7 : (Str.ofString "hi" == Str.ofString "lo") = false := by decide
  have n8 : (Str.ofString "key" == Str.ofString "a") = false := by decide
  have n9 : (Str.ofString "key" == Str.ofString "x") = false := by decide
  have n10 : (Str.ofString "key" == Str.ofString "lo") = false := by decide
  have n11 : (Str.ofString "key" == Str.ofString "hi") = false := by decide
  simp [List.lookup, n1, n2, n3, n4, n5, n6, n7, n8, n9, n10, n11]
  refine wpAny_bind (wpAny_nsGet (m := nsFind #[⟨PyData.keyHash w.params (Str.ofString "key"), (.str (Str.ofString "key") 206), .none⟩]) ⟨o23x6 w.params, _, 1, Y 23 _ (by kernel_rfl!), rfl, strKeys_of rfl, fun _ => rfl⟩ ?_)
  have nf : nsFind #[⟨PyData.keyHash w.params (Str.ofString "key"), (.str (Str.ofString "key") 206), .none⟩] (Str.ofString "key") = some .none := by kernel_rfl!
  rw [nf]
  simp [List.lookup, n1, n2, n3, n4, n5, n6, n7, n8, n9, n10, n11]
  exact wpAny_pure hq
theorem call_bis {v1 v2 : Value} {Q : Value → Shared → Prop} (Y : Says w s.heap) (hA : Fine (n + 1) A)
    (h : ∀ L s', Fc s L [(Str.ofString "a", v1), (Str.ofString "x", v2), (Str.ofString "lo", .int 0 205), (Str.ofString "hi", .none), (Str.ofString "key", .none)] s' → Fine n (A.deeper (envOf "bisect_left" (fScp 4) L 30 (.ref 29))) →
      wpAny (M w) (A.deeper (envOf "bisect_left" (fScp 4) L 30 (.ref 29))) (execs (fBod 4) (envOf "bisect_left" (fScp 4) L 30 (.ref 29))) (fun f s' => Q (match f with | .ret v => v | _ => .none) s') No s') :
    wpAny (M w) A (call (.ref 30) [v1, v2]) Q E s := by
  refine wpAny_call (codeAny_call_def (fd := fd30) (body := fBod 4) (binds := [(Str.ofString "a", v1), (Str.ofString "x", v2), (Str.ofString "lo", .int 0 205), (Str.ofString "hi", .none), (Str.ofString "key", .none)]) hA.room (Y 30 (o30x6 w.params) (by kernel_rfl!)) rfl Y.nolimit ⟨29, o29x6 w.params, _, 208, rfl, Y 29 _ (by kernel_rfl!), rfl, rfl⟩ rfl (bis_binds Y v1 v2) (by decide +kernel)
    (List.forall_mem_cons.mpr ⟨by kernel_rfl!, List.forall_mem_cons.mpr ⟨by kernel_rfl!, List.forall_mem_cons.mpr ⟨by kernel_rfl!, List.forall_mem_cons.mpr ⟨by kernel_rfl!, List.forall_mem_cons.mpr ⟨by kernel_rfl!, List.forall_mem_nil _⟩⟩⟩⟩⟩) (fun h₁ hns hkeep => ?_) (by rfl) (by rfl) (by rfl))
  refine wpAny_mono (h _ _ (Fc.start ⟨hns, hkeep, Nat.le_refl _⟩ (List.forall_mem_cons.mpr ⟨rfl, List.forall_mem_cons.mpr ⟨rfl, List.forall_mem_cons.mpr ⟨rfl, List.forall_mem_cons.mpr ⟨rfl, List.forall_mem_cons.mpr ⟨rfl, List.forall_mem_nil _⟩⟩⟩⟩⟩)) hA.deeper) (fun f s' x => x) fun _ _ x => x.elim
theorem at_bis (Y : Says w s.heap) : s.heap.get? 30 = some (o30x6 w.params) := Y 30 _ (by kernel_rfl!)
theorem Pt.isNone {env : Env} {C : Shared → Prop} {e r : PySem.Expr} {pos : Pos} (hC : Stb C) (he : Pe w A env C e (VV .none)) (hr : Pe w A env C r (VV .none)) (hm : behindInMarks .Is r = false := by with_unfolding_all rfl) : Pt w A env C (.Compare e [.Is] [r] pos) true :=
  Pt.cmp hC VV.stb he hr (fun a b s _ ha hb => by cases ha; cases hb; exact is_none_none ⟨rfl, kr _⟩) hm
/-- bisect_left over a list of texts, where the texts below x stand first -/
theorem bis_ok {D : Addr} {items : Array Value} {ys : List Str} {x : Str} {t : Tok} {k : Nat} (Y : Says w s.heap) (hA : Fine (n + 1) A) (hl : s.heap.IsList D items) (hi : StrsAre items.toList ys) (hz : ys.length < 1000000)
    (hk : k ≤ ys.length) (hp : ∀ (j : Nat) y, ys[j]? = some y → decide (y.cps.toList < x.cps.toList) = decide (j < k)) :
    wpAny (M w) A (call (.ref 30) [.ref D, .str x t]) (fun v s' => II k v s' ∧ Keeps s s') No s := by
  refine call_bis Y hA fun L s₁ F hB => ?_
  generalize A.deeper (envOf "bisect_left" (fScp 4) L 30 (.ref 29)) = B at hB ⊢
  have hl₁ : s₁.heap.IsList D items := hl.at fun o => kg F.keeps D o
  have ld := F.ne_list hl₁
  have stb : ∀ l, Stb (fun s' => Fc s L l s' ∧ s'.heap.IsList D items) := fun l => Fc.stb.and isList_stb
  have av : ∀ {l : List (Str × Value)} {pos : Pos}, (Str.ofString "a", Value.ref D) ∈ l → Pe w B (envOf "bisect_left" (fScp 4) L 30 (.ref 29)) (fun s' => Fc s L l s' ∧ s'.heap.IsList D items) (.Name "a" pos) (TL ys) := fun {l pos} hm =>
    Pe.monoC (Pe.loc (fun _ h => h.1) hm) (stb l) fun v s' c e => ⟨D, items, e, c.2, hi⟩
  refine wpAny_execs_cons (wpAny_If (Pt.run (C := fun s' => Fc s L _ s' ∧ s'.heap.IsList D items) ⟨F, hl₁⟩ (Pt.ltI (stb _) (Pe.locI (t := 205) (fun _ h => h.1) (by k_mem)) Pe.int) (fun s₂ F₂ _ => ?_) (stb _)))
  rw [if_neg (by decide)]
  refine wpAny_execs_nil ?_
  refine wpAny_execs_cons (wpAny_If (Pt.run F₂ (Pt.isNone (stb _) (Pe.loc (fun _ h => h.1) (by k_mem)) Pe.none) (fun s₃ F₃ _ => ?_) (stb _)))
  rw [if_pos rfl]
  refine wpAny_execs_cons (wpAny_Assign_Name (Pe.run F₃ (Pe.lenT (stb _) (Pe.blt (fun _ h => h.1) Y (blt_len _)) (av (by k_mem)) (by omega)) (fun v s₄ hv F₄ _ => ?_) (stb _)))
  obtain ⟨th, rfl⟩ := hv
  refine Fc.store (l' := [(Str.ofString "a", .ref D), (Str.ofString "x", .str x t), (Str.ofString "lo", .int 0 205), (Str.ofString "hi", .int ys.length th), (Str.ofString "key", .none)]) F₄.1 (by walk_at "put") (fun s₅ F₅ kk₅ => ?_)
  have hl₅ : s₅.heap.IsList D items := F₄.2.at fun o e => kk₅ D o ld e
  refine wpAny_execs_nil ?_
  refine wpAny_execs_cons (wpAny_If (Pt.run (C := fun s' => Fc s L _ s' ∧ s'.heap.IsList D items) ⟨F₅, hl₅⟩ (Pt.isNone (stb _) (Pe.loc (fun _ h => h.1) (by k_mem)) Pe.none) (fun s₆ F₆ _ => ?_) (stb _)))
  rw [if_pos rfl]
  refine wpAny_execs_cons (while_no (fun m s' => ∃ lo hi : Nat, ∃ tl th, m = hi - lo ∧ lo ≤ k ∧ k ≤ hi ∧ hi ≤ ys.length ∧ Fc s L [(Str.ofString "a", .ref D), (Str.ofString "x", .str x t), (Str.ofString "lo", .int lo tl), (Str.ofString "hi", .int hi th)] s' ∧ s'.heap.IsList D items) ?_ ys.length ⟨0, ys.length, 205, th, rfl, Nat.zero_le _, hk, Nat.le_refl _, F₆.1.sub (by walk_at "sub"), F₆.2⟩)
  rintro m s₇ ⟨lo, hi', tl, th', rfl, h1, h2, h3, F₇, hl₇⟩
  refine Pt.run (C := fun s' => Fc s L _ s' ∧ s'.heap.IsList D items) ⟨F₇, hl₇⟩ (Pt.ltI (stb _) (Pe.locI (t := tl) (fun _ h => h.1) (by k_mem)) (Pe.locI (t := th') (fun _ h => h.1) (by k_mem))) (fun s₈ F₈ _ => ?_) (stb _)
  by_cases q : lo < hi'
  · rw [if_pos (by simpa using q)]
    refine wpAny_execs_cons (wpAny_Assign_Name (Pe.run F₈ (Pe.divI (stb _) (Pe.addI (stb _) (Pe.locI (t := tl) (fun _ h => h.1) (by k_mem)) (Pe.locI (t := th') (fun _ h => h.1) (by k_mem))) Pe.int (by decide) (PyProof.noPylong_small (by decide))) (fun v s₉ hv F₉ _ => ?_) (stb _)))
    obtain ⟨tm, rfl⟩ := hv
    have em : ((lo : Int) + hi').fdiv 2 = (((lo + hi') / 2 : Nat) : Int) := by rw [Int.fdiv_eq_ediv_of_nonneg _ (by decide)]; omega
    rw [em]
    generalize hM : (lo + hi') / 2 = mid at *
    have hm1 : lo ≤ mid := by omega
    have hm2 : mid < hi' := by omega
    refine Fc.store (l' := [(Str.ofString "a", .ref D), (Str.ofString "x", .str x t), (Str.ofString "lo", .int lo tl), (Str.ofString "hi", .int hi' th'), (Str.ofString "mid", .int mid tm)]) F₉.1 (by walk_at "put") (fun s10 F10 kk10 => ?_)
    have hl10 : s10.heap.IsList D items := F₉.2.at fun o e => kk10 D o ld e
    have ey : ys[mid]? = some ys[mid] := List.getElem?_eq_getElem (by omega)
    refine wpAny_execs_cons (wpAny_If (Pt.run (C := fun s' => Fc s L _ s' ∧ s'.heap.IsList D items) ⟨F10, hl10⟩ (Pt.ltS (x := ys[mid]) (y := x) (stb _) (Pe.itemT (stb _) (av (by k_mem)) (Pe.locI (t := tm) (fun _ h => h.1) (by k_mem)) (by omega) (.inl ⟨Int.natCast_nonneg _, by simpa using ey⟩)) (Pe.locS (t := t) (fun _ h => h.1) (by k_mem))) (fun s11 F11 _ => ?_) (stb _)))
    rw [hp mid _ ey]
    by_cases q2 : mid < k
    · rw [if_pos (by simpa using q2)]
      refine wpAny_execs_cons (wpAny_Assign_Name (Pe.run F11 (Pe.addI (stb _) (Pe.locI (t := tm) (fun _ h => h.1) (by k_mem)) Pe.int) (fun v s12 hv F12 _ => ?_) (stb _)))
      obtain ⟨tn, rfl⟩ := hv
      refine Fc.store (l' := [(Str.ofString "a", .ref D), (Str.ofString "x", .str x t), (Str.ofString "lo", .int (mid + 1) tn), (Str.ofString "hi", .int hi' th')]) F12.1 (by walk_at "put") (fun s13 F13 kk13 => ?_)
      exact wpAny_execs_nil (wpAny_execs_nil ⟨hi' - (mid + 1), by omega, mid + 1, hi', tn, th', rfl, by omega, h2, h3, F13, F12.2.at fun o e => kk13 D o ld e⟩)
    · rw [if_neg (by simpa using q2)]
      refine wpAny_execs_cons (wpAny_Assign_Name (Pe.run F11 (Pe.loc (fun _ h => h.1) (by k_mem)) (fun v s12 hv F12 _ => ?_) (stb _)))
      cases hv
      refine Fc.store (l' := [(Str.ofString "a", .ref D), (Str.ofString "x", .str x t), (Str.ofString "lo", .int lo tl), (Str.ofString "hi", .int mid tm)]) F12.1 (by walk_at "put") (fun s13 F13 kk13 => ?_)
      exact wpAny_execs_nil (wpAny_execs_nil ⟨mid - lo, by omega, lo, mid, tl, tm, rfl, h1, by omega, by omega, F13, F12.2.at fun o e => kk13 D o ld e⟩)
  · rw [if_neg (by simpa using q)]
    refine wpAny_execs_nil ?_
    refine wpAny_execs_cons (wpAny_Return_some (Pe.run F₈ (Pe.loc (fun _ h => h.1) (by k_mem)) (fun v s₉ hv F₉ _ => ?_) (stb _)))
    cases hv
    exact ⟨⟨tl, by rw [show lo = k by omega]⟩, F₉.1.keeps⟩
end
end Mine
end
section
-- part W12
open PySem PySem.W PyProof.Rows
set_option maxRecDepth 100000
set_option maxHeartbeats 0
set_option linter.all false
namespace Mine
section
variable {w : World} {A : Around} {env : Env} {C : Shared → Prop} {P P1 P2 P3 : Value → Shared → Prop}
/-- a list of texts / ints that did not stand in the heap hb -/
abbrev TLf (hb : Heap) (ys : List Str) : Value → Shared → Prop := fun v s => ∃ a items, v = .ref a ∧ s.heap.IsList a items ∧ StrsAre items.toList ys ∧ hb.get? a = Option.none
abbrev ILf (hb : Heap) (ys : List Int) : Value → Shared → Prop := fun v s => ∃ a items, v = .ref a ∧ s.heap.IsList a items ∧ IntsAre items.toList ys ∧ hb.get? a = Option.none
theorem TLf.tl {hb : Heap} {ys : List Str} (v : Value) (s : Shared) : TLf hb ys v s → TL ys v s := fun ⟨a, i, e, h, q, _⟩ => ⟨a, i, e, h, q⟩
theorem ILf.il {hb : Heap} {ys : List Int} (v : Value) (s : Shared) : ILf hb ys v s → IL ys v s := fun ⟨a, i, e, h, q, _⟩ => ⟨a, i, e, h, q⟩
theorem fresh_of {h h' : Heap} {a : Addr} (e : Ex h h') (n : h'.get? a = Option.none) : h.get? a = Option.none := by
  cases q : h.get? a with
  | none => rfl
  | some o => rw [e a o q] at n; cases n
theorem size_none (h : Heap) : h.get? h.objs.size = Option.none := by
  cases e : h.get? h.objs.size with
  | none => rfl
  | some o => exact absurd (Heap.lt_size e) (Nat.lt_irrefl _)
theorem Pe.list0 {pos : Pos} {hb : Heap} (hC : ∀ s, C s → ∀ D, s.heap.get? D = Option.none → hb.get? D = Option.none) : Pe w A env C (.List [] pos) (fun v s => ILf hb [] v s ∧ TLf hb [] v s) := .of fun s hs =>
  wpAny_List (wpAny_items_nil ⟨by show 0 ≤ 2 ^ 24; decide, ⟨⟨_, #[], rfl, ⟨_, Heap.get?_push_size _ rfl, rfl, 0, rfl⟩, .nil, hC s hs _ (size_none _)⟩, ⟨_, #[], rfl, ⟨_, Heap.get?_push_size _ rfl, rfl, 0, rfl⟩, .nil, hC s hs _ (size_none _)⟩⟩, kpush _ _ _⟩)
theorem Pe.list1 {e : PySem.Expr} {i : Int} {pos : Pos} (he : Pe w A env C e (II i)) (h1 : starEach [e] env = (false, eval e env) :: starEach [] env := by rfl) : Pe w A env C (.List [e] pos) (IL [i]) := .of fun s hs =>
  wpAny_List (args1 he hs (fun a s' ⟨t, ha⟩ k => by
    subst ha
    exact ⟨by show 1 ≤ 2 ^ 24; decide, ⟨_, #[.int i t], rfl, ⟨_, Heap.get?_push_size _ rfl, rfl, 0, rfl⟩, .cons i t .nil⟩, kt k (kpush _ _ _)⟩) h1)
theorem add_listsK {l b : Addr} {xs ys : Array Value} {s : Shared} {E : Value → Shared → Prop} {Q : Value → Shared → Prop} (hl : s.heap.IsList l xs) (hb : s.heap.IsList b ys)
    (h : Q (.ref s.heap.objs.size) { s with heap := s.heap.push { cls := .type "list", data := .seq (xs ++ ys) } }) (hsz : xs.size + ys.size ≤ sizeLine) : wpAny (M w) A (binaryOp .Add (.ref l) (.ref b)) Q E s := by
  obtain ⟨⟨cls, dd, data, sl⟩, ho, hc, n, hd⟩ := id hl
  obtain ⟨⟨cls2, dd2, data2, sl2⟩, ho2, hc2, n2, hd2⟩ := id hb
  simp only at hc hd hc2 hd2
  subst hc hd hc2 hd2
  exact concat_meets ⟨_, ho, rfl⟩ ⟨_, ho2, rfl⟩ noFill_list_add seq_list_add PySem.F.slot_list_add PySem.F.entry_list_add (PySem.F.args_list_add_2 _ _) (list_addW l b xs ys n n2 dd dd2 sl sl2 hsz) ⟨ho, ho2, h⟩
theorem Pe.addIL {l r : PySem.Expr} {xs ys : List Int} {pos : Pos} {hb : Heap} (hC : Stb C) (hCb : ∀ s, C s → ∀ D, s.heap.get? D = Option.none → hb.get? D = Option.none) (hl : Pe w A env C l (IL xs)) (hr : Pe w A env C r (IL ys)) (hz : xs.length + ys.length ≤ 1000000) : Pe w A env C (.BinOp l .Add r pos) (ILf hb (xs ++ ys)) :=
  Pe.bin hC IL.stb hl hr fun a b s hs ⟨D, i1, e1, l1, q1⟩ ⟨D', i2, e2, l2, q2⟩ => by
    subst e1 e2
    have n1 := IntsAre.len q1
    have n2 := IntsAre.len q2
    rw [Array.length_toList] at n1 n2
    refine add_listsK l1 l2 ⟨⟨_, i1 ++ i2, rfl, ⟨_, Heap.get?_push_size _ rfl, rfl, 0, rfl⟩, ?_, hCb s hs _ (size_none _)⟩, kpush _ _ _⟩ (by unfold sizeLine; omega)
    rw [Array.toList_append]
    exact q1.append q2
theorem Pe.copyI {f e : PySem.Expr} {ys : List Int} {pos : Pos} {hb : Heap} (hC : Stb C) (hCb : ∀ s, C s → ∀ D, s.heap.get? D = Option.none → hb.get? D = Option.none) (hf : Pe w A env C f (VV (.type "list"))) (he : Pe w A env C e (IL ys)) (hz : ys.length ≤ 1000000)
    (h0 : eval (f.Call [e] [] pos) env = (do callWith pos (← eval f env) [] (backTo pos (starEach [e] env)) (backToKw pos (keywordEach [] env))) := by rfl)
    (h1 : starEach [e] env = (false, eval e env) :: starEach [] env := by rfl) : Pe w A env C (.Call f [e] [] pos) (ILf hb ys) :=
  Pe.type1 hC hf he (fun a s hs ⟨D, items, ha, hl, hi⟩ => by
    subst ha
    have ln := IntsAre.len hi
    rw [Array.length_toList] at ln
    obtain ⟨o, ho, hc, n, hd⟩ := hl
    refine call_list_seq (hsz := by unfold sizeLine; omega) D (.inl rfl) ho hc hd fun h' c' hk hD => ⟨⟨_, items, rfl, ⟨_, hD, rfl, c', rfl⟩, hi, hCb s hs _ (size_none _)⟩, h', s.toks, rfl, hk⟩) h0 h1
theorem Pe.ifExp {test a b : PySem.Expr} {pos : Pos} {c : Bool} (hC : Stb C) (ht : Pt w A env C test c) (ha : c = true → Pe w A env C a P) (hb : c = false → Pe w A env C b P) : Pe w A env C (.IfExp test a b pos) P := .of fun s hs =>
  wpAny_IfExp (wpAny_mono (ht.f s hs) (fun v s₁ ⟨e, k⟩ => by
    subst e
    cases v with
    | true => rw [if_pos rfl]; exact wpAny_mono ((ha rfl).f s₁ (hC _ _ hs k)) (fun v s' x => ⟨x.1, kt k x.2⟩) fun _ _ x => x
    | false => rw [if_neg Bool.false_ne_true]; exact wpAny_mono ((hb rfl).f s₁ (hC _ _ hs k)) (fun v s' x => ⟨x.1, kt k x.2⟩) fun _ _ x => x) fun _ _ x => x)
/-- comprehensions that make lists of ints and of texts -/
theorem Pe.compI {κ : Type} {Is : κ → Value → Prop} {k : Value → κ} (hk : ∀ x v, Is x v → k v = x) {elt iter : PySem.Expr} {x : Str} {px pos : Pos} {ifs : List PySem.Expr} {scope : Scope} {cl : List (Str × Addr)} {L : List κ} {R : Heap → Prop} {hb : Heap} (hR : HStb R) (hC : ∀ s, C s → R s.heap) (hCb : ∀ s, C s → ∀ D, s.heap.get? D = Option.none → hb.get? D = Option.none) (hA : A.handled = Option.none)
    (src : SrcK Is w A env C iter L fun _ => True) (hn : L.length ≤ 1000000) (p : κ → Bool) (g : κ → Int)
    (hclos : closureFor scope env = Pure.pure cl) (hcell : ∀ y ∈ scope.names, y.2 ≠ .cell) (hkind : scope.kind = .function)
    (hnames : ∀ y ∈ scope.names, y.2 = .local → scope.names.lookup y.1 = some .local) (hx : scope.names.lookup x = some .local)
    (tests : ∀ Cn a v, a ∈ L → Is a v → ∀ s, (R s.heap ∧ ∃ m, s.heap.Ns Cn m ∧ m x = some v) → wpAny (M w) A (forIn ifs true fun c r => if r = true then do let ok ← isTrue c (compEnvC scope cl Cn env) (eval c (compEnvC scope cl Cn env)); Pure.pure (ForInStep.yield ok) else Pure.pure (ForInStep.yield r)) (fun ok s' => ok = p a ∧ Keeps s s') No s)
    (elts : ∀ Cn a v, a ∈ L → Is a v → p a = true → Pe w A (compEnvC scope cl Cn env) (Hc fun h => R h ∧ ∃ m, h.Ns Cn m ∧ m x = some v) elt (II (g a)))
    (hs : ∀ x, foldedSetIterable iter env x = Pure.pure x := by intro _; rfl) :
    Pe w A env C (.ListComp elt [⟨.Name x px, iter, ifs, 0⟩] scope pos) (ILf hb ((L.filter p).map g)) := .of fun s hsC =>
  wpAny_mono (compK hk hR hC hA src hn p (fun a v => IsI (g a) v) hclos hcell hkind hnames hx tests elts hs hsC) (fun v s' h => by
    obtain ⟨D, ys, e, h1, h2, h3, h4, h5⟩ := h
    exact ⟨⟨D, ys, e, h1, ints_of_paired h4, hCb s hsC _ h3⟩, h5⟩) fun _ _ x => x
theorem Pe.compS {κ : Type} {Is : κ → Value → Prop} {k : Value → κ} (hk : ∀ x v, Is x v → k v = x) {elt iter : PySem.Expr} {x : Str} {px pos : Pos} {ifs : List PySem.Expr} {scope : Scope} {cl : List (Str × Addr)} {L : List κ} {R : Heap → Prop} {hb : Heap} (hR : HStb R) (hC : ∀ s, C s → R s.heap) (hCb : ∀ s, C s → ∀ D, s.heap.get? D = Option.none → hb.get? D = Option.none) (hA : A.handled = Option.none)
    (src : SrcK Is w A env C iter L fun _ => True) (hn : L.length ≤ 1000000) (p : κ → Bool) (g : κ → Str)
    (hclos : closureFor scope env = Pure.pure cl) (hcell : ∀ y ∈ scope.names, y.2 ≠ .cell) (hkind : scope.kind = .function)
    (hnames : ∀ y ∈ scope.names, y.2 = .local → scope.names.lookup y.1 = some .local) (hx : scope.names.lookup x = some .local)
    (tests : ∀ Cn a v, a ∈ L → Is a v → ∀ s, (R s.heap ∧ ∃ m, s.heap.Ns Cn m ∧ m x = some v) → wpAny (M w) A (forIn ifs true fun c r => if r = true then do let ok ← isTrue c (compEnvC scope cl Cn env) (eval c (compEnvC scope cl Cn env)); Pure.pure (ForInStep.yield ok) else Pure.pure (ForInStep.yield r)) (fun ok s' => ok = p a ∧ Keeps s s') No s)
    (elts : ∀ Cn a v, a ∈ L → Is a v → p a = true → Pe w A (compEnvC scope cl Cn env) (Hc fun h => R h ∧ ∃ m, h.Ns Cn m ∧ m x = some v) elt (SS (g a)))
    (hs : ∀ x, foldedSetIterable iter env x = Pure.pure x := by intro _; rfl) :
    Pe w A env C (.ListComp elt [⟨.Name x px, iter, ifs, 0⟩] scope pos) (TLf hb ((L.filter p).map g)) := .of fun s hsC =>
  wpAny_mono (compK hk hR hC hA src hn p (fun a v => IsS (g a) v) hclos hcell hkind hnames hx tests elts hs hsC) (fun v s' h => by
    obtain ⟨D, ys, e, h1, h2, h3, h4, h5⟩ := h
    exact ⟨⟨D, ys, e, h1, strs_of_paired h4, hCb s hsC _ h3⟩, h5⟩) fun _ _ x => x
/-- a source whose iterator stands as long as it walks -/
def SrcX {κ : Type} (Is : κ → Value → Prop) (w : World) (A : Around) (env : Env) (C : Shared → Prop) (iter : PySem.Expr) (L : List κ) (Dp : Addr → Prop) : Prop :=
  ∃ Pv : Nat → Value → Prop, (∀ s, C s → wpAny (M w) A (eval iter env) (fun xv s₁ => wpAny (M w) A (pyIter xv) (fun it s₂ => ∃ I fp wr St, it = .ref I ∧ (∀ A' : Around, A'.handled = Option.none → Walks pw w A' I fp wr L.length Pv St) ∧ St 0 s₂.heap ∧
    (∀ b ∈ wr, s.heap.get? b = Option.none) ∧ (∀ b ∈ fp, s.heap.get? b = Option.none ∨ Dp b) ∧ (∀ b ∈ fp, ∀ i h, St i h → h.get? b ≠ Option.none) ∧ Keeps s s₂) No s₁) No s) ∧ ∀ i v, Pv i v → ∃ x, L[i]? = some x ∧ Is x v
theorem srcX_at {κ : Type} {Is : κ → Value → Prop} {e : PySem.Expr} {ys : List κ} {D : Addr} {items : Array Value} (he : Pe w A env C e (VV (.ref D))) (hC : Stb C) (hl : ∀ s, C s → s.heap.IsList D items) (hn : ys.length = items.size) (hi : ∀ (i : Nat) v, items[i]? = some v → ∃ x, ys[i]? = some x ∧ Is x v) : SrcX Is w A env C e ys (· = D) := by
  refine ⟨fun i v => ∃ x, ys[i]? = some x ∧ Is x v, fun s hs => ?_, fun i v h => h⟩
  refine wpAny_mono (he.f s hs) (fun v s₁ ⟨hv, k⟩ => ?_) fun _ _ x => x
  cases hv
  have hl₁ := hl s₁ (hC _ _ hs k)
  have lt : D < s₁.heap.objs.size := by obtain ⟨o, ho, _⟩ := hl₁; exact Heap.lt_size ho
  refine wpAny_pyIter_list hl₁ ⟨_, [s₁.heap.objs.size, D], [s₁.heap.objs.size], fun i h => h.IsListIter s₁.heap.objs.size D i ∧ h.IsList D items, rfl, fun A' hA => ?_, ⟨⟨_, Heap.get?_push_size _ rfl, rfl, rfl⟩, hl₁.push _⟩, ?_, ?_, ?_, kt k (kpush _ _ _)⟩
  · have W := Walks.list (prog := pw) (w := w) hA s₁.heap.objs.size D (Nat.ne_of_lt lt) items
    rw [← hn] at W
    exact ⟨W.sub, W.frame, fun i s Q E hi' st hQ => W.item i s Q E hi' st fun v h' tk q => hQ v h' tk (hi i v q), W.done, W.self⟩
  · intro b hb
    rw [List.mem_singleton.mp hb]
    exact fresh_size k
  · intro b hb
    rcases List.mem_cons.mp hb with rfl | hb
    · exact .inl (fresh_size k)
    · rw [List.mem_singleton.mp hb]; exact .inr rfl
  · intro b hb i h st
    rcases List.mem_cons.mp hb with rfl | hb
    · obtain ⟨o, ho, _⟩ := st.1; rw [ho]; simp
    · rw [List.mem_singleton.mp hb]
      obtain ⟨o, ho, _⟩ := st.2; rw [ho]; simp
theorem srcX_range {f e : PySem.Expr} {N : Nat} {pos : Pos} {Dp : Addr → Prop} (hC : Stb C) (hf : Pe w A env C f (VV (.type "range"))) (he : Pe w A env C e (II N)) (hN : (N : Int) < 2 ^ 40)
    (h0 : eval (f.Call [e] [] pos) env = (do callWith pos (← eval f env) [] (backTo pos (starEach [e] env)) (backToKw pos (keywordEach [] env))) := by rfl)
    (h1 : starEach [e] env = (false, eval e env) :: starEach [] env := by rfl) : SrcX IsI w A env C (.Call f [e] [] pos) (rangeI N) Dp := by
  refine ⟨fun i v => ∃ x, (rangeI N)[i]? = some x ∧ IsI x v, fun s hs => ?_, fun i v h => h⟩
  refine wpAny_mono ((Pe.type1 (P := fun v s => ∃ r t u v', v = .ref r ∧ IsRange s.heap r 0 N 1 t u v') hC hf he (fun a s _ ⟨t, ha⟩ => by
    subst ha
    exact call_range_1 ⟨⟨_, _, _, _, rfl, IsRange.new _ 0 N 1 _ _ _⟩, kpush _ _ _⟩) h0 h1).f s hs) (fun v s₁ ⟨⟨r, t, u, v', hv, hr⟩, k⟩ => ?_) fun _ _ x => x
  subst hv
  have rs : Builtin.Range.rangeSize 0 N 1 = N := by rw [rangeSize_one]; split <;> omega
  have ln : (rangeI N).length = N := by simp [rangeI]
  refine wpAny_pyIter_range hr (small_one (by decide) (by decide) (by omega) (by omega)) ⟨_, [s₁.heap.objs.size], [s₁.heap.objs.size], fun i h => IsRangeIter h s₁.heap.objs.size (0 + (i : Nat) * 1) ((N : Int) - (i : Nat)) 1, rfl, fun A' hA => ?_, ?_, ?_, ?_, ?_, kt k (kpush _ _ _)⟩
  · have W := Walks.range (prog := pw) (w := w) hA s₁.heap.objs.size 0 1 N
    rw [ln]
    refine ⟨W.sub, W.frame, fun i s Q E hi st hQ => W.item i s Q E hi st fun v h' tk hp => hQ v h' tk ?_, W.done, W.self⟩
    obtain ⟨t, e⟩ := hp
    refine ⟨(i : Int), by simp [rangeI, hi], t, by rw [e]; congr 1; omega⟩
  · rw [rs]
    show (s₁.heap.push _).get? _ = _
    rw [Heap.get?_push_size _ rfl]
    simp
  · intro b hb
    rw [List.mem_singleton.mp hb]
    exact fresh_size k
  · intro b hb
    rw [List.mem_singleton.mp hb]
    exact .inl (fresh_size k)
  · intro b hb i h st
    rw [List.mem_singleton.mp hb]
    unfold IsRangeIter at st
    rw [st]; simp
/-- a for over such a source: what the turns make new stands too -/
theorem for_srcX {κ : Type} {Is : κ → Value → Prop} {x : Str} {px pos : Pos} {iter : PySem.Expr} {body : List Stmt} {Lk : List κ} {Dp : Addr → Prop} (hA : A.handled = Option.none) (src : SrcX Is w A env C iter Lk Dp) {s : Shared} (hs : C s) (Wb : Addr → Prop)
    (hD : ∀ b, Dp b → ¬ Wb b) (hW : ∀ b, Wb b → s.heap.get? b ≠ Option.none) (J : (Addr → Prop) → Nat → Shared → Prop) {Q : Flow → Shared → Prop} (start : ∀ (Wr : Addr → Prop) s', (∀ b, Wr b → s.heap.get? b = Option.none) → Keeps s s' → J Wr 0 s')
    (frame : ∀ (Wr : Addr → Prop) i s', (∀ b, Wr b → s.heap.get? b = Option.none) → J Wr i s' → ∀ h' tk, (∀ b o, ¬ Wr b → s'.heap.get? b = some o → h'.get? b = some o) → J Wr i { s' with heap := h', toks := tk })
    (turn : ∀ (Wr : Addr → Prop) i a v s₁, (∀ b, Wr b → s.heap.get? b = Option.none) → (∀ b, Wr b → s₁.heap.get? b ≠ Option.none) → Lk[i]? = some a → Is a v → J Wr i s₁ → wpAny (M w) A (storeName env x v) (fun _ s₂ => wpAny (M w) A (execs body env) (fun f s₃ => match f with
          | .next | .cont => J Wr (i + 1) s₃ ∧ ∀ b o, ¬ Wb b → s₁.heap.get? b = some o → s₃.heap.get? b = some o
          | .brk => Q .next s₃
          | .ret v => Q (.ret v) s₃) No s₂) No s₁)
    (fin : ∀ Wr s', J Wr Lk.length s' → Q .next s') (hf : ∀ x, foldedSetIterable iter env x = Pure.pure x := by intro _; rfl) :
    wpAny (M w) A (exec (.For (.Name x px) iter body [] pos) env) Q No s := by
  obtain ⟨Pv, sr, hL⟩ := src
  refine for_walk (wpAny_mono (sr s hs) (fun v s₁ h₁ => wpAny_mono h₁ (fun it s₂ h₂ => ?_) fun _ _ e => e) fun _ _ e => e) hf
  obtain ⟨I, fp, wr, St, rfl, W, st0, hwr, hdp, hex, k⟩ := h₂
  refine ⟨I, fp, wr, Lk.length, Pv, St, J (· ∈ wr), rfl, W A hA, st0, start _ _ hwr k, fun i s' ji h' tk kk => frame _ i s' hwr ji h' tk kk, fun i v s' lt hv ji st => ?_, fin _⟩
  obtain ⟨a, ha, q⟩ := hL i v hv
  refine wpAny_mono (turn _ i a v s' hwr (fun b hb => hex b ((W A hA).sub b hb) _ _ st) ha q ji) (fun _ s₂ h₂ => wpAny_mono h₂ (fun f s₃ h₃ => ?_) fun _ _ e => e) fun _ _ e => e
  have nw : ∀ b ∈ fp, ¬ Wb b := fun b hb hw => by
    rcases hdp b hb with q | q
    · exact hW b hw q
    · exact hD b q hw
  cases f with
  | next => exact ⟨h₃.1, (W A hA).frame _ _ _ st fun b hb o e => h₃.2 b o (nw b hb) e⟩
  | cont => exact ⟨h₃.1, (W A hA).frame _ _ _ st fun b hb o e => h₃.2 b o (nw b hb) e⟩
  | brk => exact h₃
  | ret v => exact h₃
end
end Mine
end
section
-- part W13
open PySem PySem.W PyProof.Rows
set_option maxRecDepth 100000
set_option maxHeartbeats 0
set_option linter.all false
namespace Mine
local macro_rules | `(tactic| walk_at "put") => `(tactic| ((repeat' (first | exact List.forall_mem_nil _ | refine List.forall_mem_cons.mpr ⟨?_, ?_⟩)) <;> first | exact Or.inl rfl | exact Or.inr ⟨by k_mem, by dsimp only; decide⟩))
local macro_rules | `(tactic| walk_at "sub") => `(tactic| (repeat' (first | exact List.forall_mem_nil _ | refine List.forall_mem_cons.mpr ⟨by k_mem, ?_⟩)))
/-- the ways to lay l along q that leave out no letter standing before its like (both words from behind) -/
def nrm : List Nat → List Nat → Int
  | [], l => if l = [] then 1 else 0
  | c :: q, l => (if q.head? = some c then 0 else nrm q l) + (match l with | [] => 0 | a :: l' => if a = c then nrm q l' else 0)
def wv (low part : List Nat) (i j : Nat) : Int := nrm (part.take i).reverse (low.take j).reverse
def wb (low part : List Nat) (i j : Nat) : Int := if 0 < i ∧ part[i]? = part[i - 1]? then 0 else wv low part i j
def wrow (low part : List Nat) (i : Nat) : List Int := (List.range (low.length + 1)).map (wv low part i)
def krow (low part : List Nat) (i j : Nat) : List Int := (List.range (low.length + 1)).map fun m => if m ≤ j then wv low part (i + 1) m else wb low part i m
theorem take_rev {l : List Nat} {i c : Nat} (h : l[i]? = some c) : (l.take (i + 1)).reverse = c :: (l.take i).reverse := by
  rw [(take_succ' h).1, List.reverse_append]; rfl
theorem take_rev_head {l : List Nat} {i c : Nat} (h : l[i]? = some c) : (l.take i).reverse.head? = some c ↔ 0 < i ∧ l[i]? = l[i - 1]? := by
  cases i with
  | zero => simp
  | succ k =>
    have lt : k < l.length := by have := (List.getElem?_eq_some_iff.mp h).1; omega
    rw [take_rev (List.getElem?_eq_getElem lt), h]
    simp [List.getElem?_eq_getElem lt, eq_comm]
theorem wv_zero {low part : List Nat} {i c : Nat} (h : part[i]? = some c) : wv low part (i + 1) 0 = wb low part i 0 := by
  unfold wb wv
  rw [take_rev h]
  simp only [List.take_zero, List.reverse_nil, nrm, Int.add_zero]
  by_cases q : 0 < i ∧ part[i]? = part[i - 1]?
  · rw [if_pos ((take_rev_head h).mpr q), if_pos q]
  · rw [if_neg (fun e => q ((take_rev_head h).mp e)), if_neg q]
theorem wv_succ {low part : List Nat} {i j c d : Nat} (h : part[i]? = some c) (hd : low[j]? = some d) : wv low part (i + 1) (j + 1) = wb low part i (j + 1) + if d = c then wv low part i j else 0 := by
  unfold wb wv
  rw [take_rev h, take_rev hd]
  simp only [nrm]
  congr 1
  by_cases q : 0 < i ∧ part[i]? = part[i - 1]?
  · rw [if_pos ((take_rev_head h).mpr q), if_pos q]
  · rw [if_neg (fun e => q ((take_rev_head h).mp e)), if_neg q]
theorem wrow_zero (low part : List Nat) : wrow low part 0 = 1 :: low.map fun _ => 0 := by
  unfold wrow
  rw [List.range_succ_eq_map, List.map_cons, List.map_map]
  congr 1
  apply List.ext_getElem?
  intro j
  by_cases h : j < low.length
  · rw [List.getElem?_map, List.getElem?_map, List.getElem?_range h, List.getElem?_eq_getElem h]
    simp only [Option.map_some, Function.comp_apply, wv, List.take_zero, List.reverse_nil, nrm]
    rw [if_neg]
    intro e
    have := congrArg List.length e
    simp only [List.length_reverse, List.length_take, List.length_nil, Nat.succ_eq_add_one] at this
    omega
  · rw [List.getElem?_eq_none (by simp; omega), List.getElem?_eq_none (by simp; omega)]
theorem krow_zero {low part : List Nat} {i c : Nat} (h : part[i]? = some c) : krow low part i 0 = (List.range (low.length + 1)).map (wb low part i) := by
  unfold krow
  apply List.map_congr_left
  intro m _
  by_cases q : m ≤ 0
  · rw [if_pos q, Nat.le_zero.mp q, wv_zero h]
  · rw [if_neg q]
theorem krow_last (low part : List Nat) (i : Nat) : krow low part i low.length = wrow low part (i + 1) := by
  unfold krow wrow
  apply List.map_congr_left
  intro m hm
  rw [if_pos (by have := List.mem_range.mp hm; omega)]
theorem krow_get {low part : List Nat} {i j : Nat} (h : j < low.length) : (krow low part i j)[j + 1]? = some (wb low part i (j + 1)) := by
  unfold krow
  rw [List.getElem?_map, List.getElem?_range (by omega), Option.map_some, if_neg (by omega)]
theorem wrow_get {low part : List Nat} {i j : Nat} (h : j ≤ low.length) : (wrow low part i)[j]? = some (wv low part i j) := by
  unfold wrow
  rw [List.getElem?_map, List.getElem?_range (by omega)]
  simp
theorem krow_set {low part : List Nat} {i j c : Nat} (h : part[i]? = some c) (hd : low[j]? = some c) : (krow low part i j).set (j + 1) (wb low part i (j + 1) + wv low part i j) = krow low part i (j + 1) := by
  have lt := (List.getElem?_eq_some_iff.mp hd).1
  apply List.ext_getElem?
  intro m
  rw [List.getElem?_set]
  unfold krow
  by_cases q : j + 1 = m
  · subst q
    rw [if_pos rfl, if_pos (by simp; omega), List.getElem?_map, List.getElem?_range (by omega)]
    simp only [Option.map_some, if_pos (Nat.le_refl _), wv_succ h hd, if_true]
  · rw [if_neg q, List.getElem?_map, List.getElem?_map]
    by_cases r : m < low.length + 1
    · rw [List.getElem?_range r]
      simp only [Option.map_some]
      by_cases z : m ≤ j
      · rw [if_pos z, if_pos (by omega)]
      · rw [if_neg z, if_neg (by omega)]
    · rw [List.getElem?_eq_none (by simp; omega)]; rfl
theorem krow_skip {low part : List Nat} {i j c d : Nat} (h : part[i]? = some c) (hd : low[j]? = some d) (ne : d ≠ c) : krow low part i j = krow low part i (j + 1) := by
  unfold krow
  apply List.map_congr_left
  intro m _
  by_cases q : m ≤ j
  · rw [if_pos q, if_pos (by omega)]
  · by_cases r : m = j + 1
    · subst r
      rw [if_neg q, if_pos (Nat.le_refl _), wv_succ h hd, if_neg ne, Int.add_zero]
    · rw [if_neg q, if_neg (by omega)]
theorem IntsAre.set : ∀ {vs : List Value} {ns : List Int}, IntsAre vs ns → ∀ (i : Nat) (x : Int) (t : Tok), IntsAre (vs.set i (.int x t)) (ns.set i x)
  | _, _, .nil, _, _, _ => .nil
  | _, _, .cons n t h, 0, x, u => .cons x u h
  | _, _, .cons n t h, i + 1, x, u => .cons n t (IntsAre.set h i x u)
section
variable {w : World} {A : Around} {E : Value → Shared → Prop} {s : Shared} {n : Nat}
/-- a context: the frame, some lists, and a heap that all stands but for the frame -/
def Cx (s₀ : Shared) (L : Addr) (l : List (Str × Value)) (Ls : List (Addr × Array Value)) (hb : Heap) (s : Shared) : Prop :=
  Fc s₀ L l s ∧ (∀ p ∈ Ls, s.heap.IsList p.1 p.2) ∧ ∀ b o, b ≠ L → hb.get? b = some o → s.heap.get? b = some o
theorem Cx.stb {s₀ : Shared} {L : Addr} {l : List (Str × Value)} {Ls : List (Addr × Array Value)} {hb : Heap} : Stb (Cx s₀ L l Ls hb) := fun _ _ ⟨a, b, c⟩ k =>
  ⟨Fc.stb _ _ a k, fun p hp => (b p hp).at fun o => kg k p.1 o, fun b o ne e => kg k b o (c b o ne e)⟩
theorem Cx.fresh {s₀ : Shared} {L : Addr} {l : List (Str × Value)} {Ls : List (Addr × Array Value)} {hb : Heap} (s : Shared) (x : Cx s₀ L l Ls hb s) (D : Addr) (h : s.heap.get? D = none) : hb.get? D = none := by
  cases e : hb.get? D with
  | none => rfl
  | some o =>
    by_cases q : D = L
    · subst q; exact absurd h x.1.has
    · rw [x.2.2 D o q e] at h; cases h
theorem Cx.store {s₀ : Shared} {L : Addr} {l : List (Str × Value)} {Ls : List (Addr × Array Value)} {hb : Heap} {cn : Str} {cs : Scope} {ca : Addr} {ccd : Value} {x : Str} {v : Value} {l' : List (Str × Value)} {Q : Unit → Shared → Prop} {E : Value → Shared → Prop} {s : Shared} (hF : Cx s₀ L l Ls hb s) (hl' : ∀ p ∈ l', p = (x, v) ∨ (p ∈ l ∧ p.1 ≠ x))
    (h : ∀ s', Cx s₀ L l' Ls hb s' → (∀ b o, b ≠ L → s.heap.get? b = some o → s'.heap.get? b = some o) → Q () s')
    (hk : cs.kind = .function := by rfl) (hl : (envOf cn cs L ca ccd).kindOf x = some .local := by rfl) : wpAny (M w) A (storeName (envOf cn cs L ca ccd) x v) Q E s :=
  Fc.store hF.1 hl' (fun s' F' kk => h s' ⟨F', fun p hp => (hF.2.1 p hp).at fun o e => kk p.1 o (hF.1.ne_list (hF.2.1 p hp)) e, fun b o ne e => kk b o ne (hF.2.2 b o ne e)⟩ kk) hk hl
theorem Cx.il {s₀ : Shared} {L : Addr} {l : List (Str × Value)} {Ls : List (Addr × Array Value)} {hb : Heap} {cn : Str} {cs : Scope} {ca : Addr} {ccd : Value} {x : Str} {D : Addr} {items : Array Value} {ns : List Int} {pos : Pos} (hx : (x, Value.ref D) ∈ l) (hD : (D, items) ∈ Ls) (hi : IntsAre items.toList ns)
    (hk : cs.kind = .function := by rfl) (hl : (envOf cn cs L ca ccd).kindOf x = some .local := by rfl) (hd : (x == ("__debug__" : Str)) = false := by decide) : Pe w A (envOf cn cs L ca ccd) (Cx s₀ L l Ls hb) (.Name x pos) (IL ns) :=
  Pe.monoC (Pe.loc (fun _ h => h.1) hx hk hl hd) Cx.stb fun v s' c e => ⟨D, items, e, c.2.1 _ hD, hi⟩
theorem Cx.framed {s₀ sB s' : Shared} {L : Addr} {l l' : List (Str × Value)} {Ls Ls' : List (Addr × Array Value)} {hb : Heap} {Wr : Addr → Prop} {h' : Heap} {tk : Nat} (xB : Cx s₀ L l Ls hb sB) (hWr : ∀ b, Wr b → sB.heap.get? b = none) (x : Cx s₀ L l' Ls' hb s') (nL : ∀ p ∈ Ls', ¬ Wr p.1)
    (kk : ∀ b o, ¬ Wr b → s'.heap.get? b = some o → h'.get? b = some o) : Cx s₀ L l' Ls' hb { s' with heap := h', toks := tk } :=
  ⟨xB.1.framed x.1 fun b o hb' e => kk b o (fun q => hb' (hWr b q)) e, fun p hp => (x.2.1 p hp).at fun o e => kk p.1 o (nL p hp) e, fun b o ne e => kk b o (fun q => by have := xB.2.2 b o ne e; rw [hWr b q] at this; cases this) (x.2.2 b o ne e)⟩
theorem Cx.rebase {s₀ s s' : Shared} {L : Addr} {l : List (Str × Value)} {Ls : List (Addr × Array Value)} {hb : Heap} (x : Cx s₀ L l Ls hb s') (kk : ∀ b o, b ≠ L → s.heap.get? b = some o → s'.heap.get? b = some o) : Cx s₀ L l Ls s.heap s' := ⟨x.1, x.2.1, kk⟩
theorem Cx.write {s₀ s : Shared} {L K : Addr} {l : List (Str × Value)} {Ls Ls' : List (Addr × Array Value)} {hb h' : Heap} {ik : Array Value} {tk : Nat} (x : Cx s₀ L l Ls hb s) (hK : hb.get? K = none) (hK0 : s₀.heap.get? K = none) (hL : K ≠ L) (hs : Heap.SameBut K s.heap h') (hl : h'.IsList K ik)
    (hLs : ∀ p ∈ Ls', p = (K, ik) ∨ (p ∈ Ls ∧ p.1 ≠ K)) : Cx s₀ L l Ls' hb { s with heap := h', toks := tk } := by
  have kk : ∀ b o, b ≠ K → s.heap.get? b = some o → h'.get? b = some o := fun b o ne e => (hs.2 b ne).trans e
  refine ⟨x.1.frame hK0 hL kk, fun p hp => ?_, fun b o ne e => kk b o (fun q => ?_) (x.2.2 b o ne e)⟩
  · rcases hLs p hp with rfl | ⟨hp, ne⟩
    · exact hl
    · exact (x.2.1 p hp).at fun o e => kk _ _ ne e
  · subst q; rw [hK] at e; cases e
theorem ways_ok {low part : Str} {t u : Tok} (Y : Says w s.heap) (hA : Fine (n + 1) A) (z1 : low.length < 1000) (z2 : part.length < 1000) :
    wpAny (M w) A (call (.ref 132) [.str low t, .str part u]) (fun v s' => II (nrm (sg part).reverse (sg low).reverse) v s' ∧ Keeps s s') No s := by
  refine call_ways Y hA fun L s₁ F hB => ?_
  generalize A.deeper (envOf "_law_ways" (fScp 16) L 132 (.ref 131)) = B at hB ⊢
  have C₁ : Cx s L [(Str.ofString "low", .str low t), (Str.ofString "part", .str part u)] [] s.heap s₁ := ⟨F, List.forall_mem_nil _, fun b o _ e => kg F.keeps b o e⟩
  have nl : (sg low).length = low.length := sg_length low
  have np : (sg part).length = part.length := sg_length part
  -- ways
  refine wpAny_execs_cons (wpAny_Assign_Name (Pe.run C₁ (Pe.addIL (xs := [1]) (ys := ((signs1 low).filter fun _ => true).map fun _ => 0) (hb := s.heap) Cx.stb Cx.fresh (Pe.list1 Pe.int) ((Pe.compI (hb := s.heap) (κ := Str) (Is := IsS) (k := kS) (fun _ _ => kS_is) (L := signs1 low) (R := Fh s L [(Str.ofString "low", .str low t), (Str.ofString "part", .str part u)]) Fh.stb (fun _ h => h.1.h) Cx.fresh hB.1 (SrcK.str (Pe.locS (t := t) (fun _ h => h.1) (by k_mem))) (by rw [signs1_length]; omega) (fun _ => true) (fun _ => 0)
      (closureFor_none (by decide)) (by decide) rfl (by decide) rfl (fun Cn a v _ _ s hs => tests_nil) (fun Cn a v ha q _ => Pe.int)).mono ILf.il) (by
        have := List.length_filter_le (fun _ => true) (signs1 low)
        simp only [List.length_map, List.length_cons, List.length_nil]; rw [signs1_length] at this; omega)) (fun v s₂ hv C₂ _ => ?_) Cx.stb))
  obtain ⟨Dw, iw, rfl, lw, qw, fw⟩ := hv
  have row0 : [1] ++ ((signs1 low).filter fun _ => true).map (fun _ => (0 : Int)) = wrow (sg low) (sg part) 0 := by
    rw [wrow_zero, List.filter_eq_self.mpr (fun _ _ => rfl)]
    simp [signs1]
  rw [row0] at qw
  refine Cx.store (l' := [(Str.ofString "low", .str low t), (Str.ofString "part", .str part u), (Str.ofString "ways", .ref Dw)]) (Ls := [(Dw, iw)]) ⟨C₂.1, List.forall_mem_cons.mpr ⟨lw, List.forall_mem_nil _⟩, C₂.2.2⟩ (by walk_at "put") (fun s₃ C₃ kk₃ => ?_)
  have zs : part.length < 2 ^ 60 := by omega
  refine wpAny_execs_cons (for_srcX hB.1 (srcX_range (N := part.length) (Dp := fun _ => False) Cx.stb (Pe.blt (fun _ h => h.1) Y (blt_range _)) (Pe.lenS Cx.stb (Pe.blt (fun _ h => h.1) Y (blt_len _)) (Pe.locS (t := u) (fun _ h => h.1) (by k_mem)) zs) (by omega)) C₃ (· = L) (fun _ h => h.elim) (fun b e => e ▸ C₃.1.has)
    (fun Wr i s' => ∃ Dw iw, Cx s L [(Str.ofString "low", .str low t), (Str.ofString "part", .str part u), (Str.ofString "ways", .ref Dw)] [(Dw, iw)] s.heap s' ∧ IntsAre iw.toList (wrow (sg low) (sg part) i) ∧ ¬ Wr Dw)
    (fun Wr s' hWr k => ⟨Dw, iw, Cx.stb _ _ C₃ k, qw, fun h => ?_⟩) (fun Wr i s' hWr ⟨Dw, iw, x, q, nw⟩ h' tk kk => ⟨Dw, iw, C₃.framed hWr x (List.forall_mem_cons.mpr ⟨nw, List.forall_mem_nil _⟩) kk, q, nw⟩) ?_ ?_)
  · have := hWr _ h
    obtain ⟨o, ho, _⟩ := C₃.2.1 _ List.mem_cons_self
    rw [ho] at this; cases this
  · clear qw lw fw C₂ kk₃ C₁
    rintro Wr i a v s₄ hWr hex ha ⟨ti, rfl⟩ ⟨Dw', iw', C₄, qw, nw⟩
    have hi : i < part.length := by
      have := (List.getElem?_eq_some_iff.mp ha).1
      simpa [rangeI] using this
    have ea : a = (i : Int) := by
      simp [rangeI, hi] at ha
      exact ha.symm
    subst ea
    have hc : (sg part)[i]? = some (sg part)[i] := List.getElem?_eq_getElem (by rw [np]; exact hi)
    generalize hcc : (sg part)[i] = c at hc
    refine Cx.store (l' := [(Str.ofString "low", .str low t), (Str.ofString "part", .str part u), (Str.ofString "ways", .ref Dw'), (Str.ofString "i", .int i ti)]) C₄ (by walk_at "put") (fun s₅ C₅ kk₅ => ?_)
    have C₅' := Cx.rebase C₅ kk₅
    have lw : ∀ i, (wrow (sg low) (sg part) i).length = low.length + 1 := fun i => by unfold wrow; rw [List.length_map, List.length_range, nl]
    -- kept
    have one : ∀ a b : Nat, ((⟨#[a]⟩ : Str) == ⟨#[b]⟩) = decide (a = b) := fun a b => by rw [Bool.eq_iff_iff]; simp
    have pI : ∀ {l : List (Str × Value)} {Ls : List (Addr × Array Value)} {hb : Heap} {pos : Pos}, (Str.ofString "i", Value.int i ti) ∈ l → Pe w B (envOf "_law_ways" (fScp 16) L 132 (.ref 131)) (Cx s L l Ls hb) (.Name "i" pos) (II i) := fun h => Pe.locI (t := ti) (fun _ h => h.1) h
    have pP : ∀ {l : List (Str × Value)} {Ls : List (Addr × Array Value)} {hb : Heap} {pos : Pos}, (Str.ofString "part", Value.str part u) ∈ l → Pe w B (envOf "_law_ways" (fScp 16) L 132 (.ref 131)) (Cx s L l Ls hb) (.Name "part" pos) (SS part) := fun h => Pe.locS (t := u) (fun _ h => h.1) h
    have pL : ∀ {l : List (Str × Value)} {Ls : List (Addr × Array Value)} {hb : Heap} {pos : Pos}, (Str.ofString "low", Value.str low t) ∈ l → Pe w B (envOf "_law_ways" (fScp 16) L 132 (.ref 131)) (Cx s L l Ls hb) (.Name "low" pos) (SS low) := fun h => Pe.locS (t := t) (fun _ h => h.1) h
    refine wpAny_execs_cons (wpAny_Assign_Name (Pe.run C₅' (Pe.ifExp (P := ILf s₄.heap (krow (sg low) (sg part) i 0)) (c := decide (0 < i ∧ (sg part)[i]? = (sg part)[i - 1]?)) Cx.stb ?_ ?_ ?_) (fun v s₆ hv C₆ _ => ?_) Cx.stb))
    · by_cases i0 : i = 0
      · rw [show decide (0 < i ∧ (sg part)[i]? = (sg part)[i - 1]?) = (decide ((0 : Int) < i) && true) by rw [Bool.eq_iff_iff]; simp; omega]
        exact Pt.and Cx.stb (Pt.gtI Cx.stb (pI (by k_mem)) Pe.int) fun h => absurd (of_decide_eq_true h) (by omega)
      · have hd : (sg part)[i - 1]? = some (sg part)[i - 1] := List.getElem?_eq_getElem (by rw [np]; omega)
        generalize (sg part)[i - 1] = d at hd
        rw [show decide (0 < i ∧ (sg part)[i]? = (sg part)[i - 1]?) = (decide ((0 : Int) < i) && ((⟨#[c]⟩ : Str) == ⟨#[d]⟩)) by rw [hc, hd, one, Bool.eq_iff_iff]; simp]
        exact Pt.and Cx.stb (Pt.gtI Cx.stb (pI (by k_mem)) Pe.int) fun h => Pt.eqS Cx.stb (Pe.itemS Cx.stb (pP (by k_mem)) (pI (by k_mem)) (by omega) (by simpa using hc) (by omega)) (Pe.itemS Cx.stb (pP (by k_mem)) (Pe.subI Cx.stb (pI (by k_mem)) Pe.int) (by omega) (by rw [show ((i : Int) - 1).toNat = i - 1 by omega]; simpa using hd) (by omega))
    · intro h
      have h := of_decide_eq_true h
      have e : krow (sg low) (sg part) i 0 = ((wrow (sg low) (sg part) i).filter fun _ => true).map fun _ => 0 := by
        rw [krow_zero hc, List.filter_eq_self.mpr (fun _ _ => rfl)]
        unfold wrow
        rw [List.map_map]
        apply List.map_congr_left
        intro m _
        unfold wb
        rw [if_pos h]; rfl
      rw [e]
      exact Pe.compI (κ := Int) (Is := IsI) (k := kI) (fun _ _ => kI_is) (R := fun _ => True) (fun _ _ _ _ => trivial) (fun _ _ => trivial) Cx.fresh hB.1 (src_IL (Cx.il (by k_mem) List.mem_cons_self qw)) (by rw [lw]; omega) (fun _ => true) (fun _ => 0)
        (closureFor_none (by decide)) (by decide) rfl (by decide) rfl (fun Cn a v _ _ s hs => tests_nil) (fun Cn a v ha q _ => Pe.int)
    · intro h
      have h := of_decide_eq_false h
      have e : krow (sg low) (sg part) i 0 = wrow (sg low) (sg part) i := by
        rw [krow_zero hc]
        unfold wrow
        apply List.map_congr_left
        intro m _
        unfold wb
        rw [if_neg h]
      rw [e]
      exact Pe.copyI Cx.stb Cx.fresh (Pe.blt (fun _ h => h.1) Y (blt_list _)) (Cx.il (by k_mem) List.mem_cons_self qw) (by rw [lw]; omega)
    obtain ⟨K, ik, rfl, lk, qk, fk⟩ := hv
    have oldW : s₄.heap.get? Dw' ≠ none := by obtain ⟨o, ho, _⟩ := C₄.2.1 _ List.mem_cons_self; rw [ho]; simp
    have kD : K ≠ Dw' := fun e => oldW (e ▸ fk)
    have kL : K ≠ L := C₆.1.ne_list lk
    have kS : s.heap.get? K = none := by
      cases e : s.heap.get? K with
      | none => rfl
      | some o => rw [C₄.2.2 K o kL e] at fk; cases fk
    have nWr : ¬ Wr K := fun h => hex K h fk
    refine Cx.store (l' := [(Str.ofString "low", .str low t), (Str.ofString "part", .str part u), (Str.ofString "ways", .ref Dw'), (Str.ofString "i", .int i ti), (Str.ofString "kept", .ref K)]) (Ls := [(Dw', iw'), (K, ik)]) ⟨C₆.1, List.forall_mem_cons.mpr ⟨C₆.2.1 _ List.mem_cons_self, List.forall_mem_cons.mpr ⟨lk, List.forall_mem_nil _⟩⟩, C₆.2.2⟩ (by walk_at "put") (fun s₇ C₇ kk₇ => ?_)
    have ex : ∀ {l : List (Str × Value)} {Ls : List (Addr × Array Value)} {hb : Heap} {s' : Shared}, Cx s L l Ls hb s' → ∀ p ∈ Ls, s'.heap.get? p.1 ≠ none := fun x p hp => by obtain ⟨o, ho, _⟩ := x.2.1 p hp; rw [ho]; simp
    refine wpAny_execs_cons (for_src hB.1 (src_range (N := low.length) (Dp := fun _ => False) Cx.stb (Pe.blt (fun _ h => h.1) Y (blt_range _)) (Pe.lenS Cx.stb (Pe.blt (fun _ h => h.1) Y (blt_len _)) (pL (by k_mem)) (by omega)) (by omega)) C₇ (fun b => b = L ∨ b = K) ?_ (fun _ h => h.elim)
      (fun j s' => ∃ ik, Cx s L [(Str.ofString "low", .str low t), (Str.ofString "part", .str part u), (Str.ofString "ways", .ref Dw'), (Str.ofString "i", .int i ti), (Str.ofString "kept", .ref K)] [(Dw', iw'), (K, ik)] s₄.heap s' ∧ IntsAre ik.toList (krow (sg low) (sg part) i j))
      (fun s' k => ⟨ik, Cx.stb _ _ C₇ k, qk⟩) ?_ ?_ ?_)
    · rintro b (rfl | rfl)
      · exact C₇.1.has
      · exact ex C₇ (_, ik) (by k_mem)
    · rintro j s' ⟨ik', x, q⟩ h' tk kk
      refine ⟨ik', ⟨C₇.1.framed x.1 kk, fun p hp => (x.2.1 p hp).at fun o e => kk _ _ ?_ e, fun b o ne e => kk b o (by rw [C₇.2.2 b o ne e]; simp) (x.2.2 b o ne e)⟩, q⟩
      rcases List.mem_cons.mp hp with rfl | hp
      · exact ex C₇ (Dw', iw') (by k_mem)
      · rw [List.mem_singleton.mp hp]
        exact ex C₇ (K, ik) (by k_mem)
    · rintro j a v s₈ ha ⟨tj, rfl⟩ ⟨ik', C₈, q₈⟩
      have hj : j < low.length := by
        have := (List.getElem?_eq_some_iff.mp ha).1
        simpa [rangeI] using this
      have ea : a = (j : Int) := by
        simp [rangeI, hj] at ha
        exact ha.symm
      subst ea
      have hd : (sg low)[j]? = some (sg low)[j] := List.getElem?_eq_getElem (by rw [nl]; exact hj)
      generalize (sg low)[j] = d at hd
      have kl : (krow (sg low) (sg part) i j).length = low.length + 1 := by unfold krow; rw [List.length_map, List.length_range, nl]
      have ks : ik'.size = low.length + 1 := by have := IntsAre.len q₈; rw [kl, Array.length_toList] at this; exact this
      refine Cx.store (l' := [(Str.ofString "low", .str low t), (Str.ofString "part", .str part u), (Str.ofString "ways", .ref Dw'), (Str.ofString "i", .int i ti), (Str.ofString "kept", .ref K), (Str.ofString "j", .int j tj)]) C₈ (by walk_at "put") (fun s₉ C₉ kk₉ => ?_)
      have pJ : ∀ {l : List (Str × Value)} {Ls : List (Addr × Array Value)} {hb : Heap} {pos : Pos}, (Str.ofString "j", Value.int j tj) ∈ l → Pe w B (envOf "_law_ways" (fScp 16) L 132 (.ref 131)) (Cx s L l Ls hb) (.Name "j" pos) (II j) := fun h => Pe.locI (t := tj) (fun _ h => h.1) h
      refine wpAny_execs_cons (wpAny_If (Pt.run C₉ (Pt.eqS Cx.stb (Pe.itemS Cx.stb (pL (by k_mem)) (pJ (by k_mem)) (by omega) (by simpa using hd) (by omega)) (Pe.itemS Cx.stb (pP (by k_mem)) (pI (by k_mem)) (by omega) (by simpa using hc) (by omega))) (fun s10 C10 k10 => ?_) Cx.stb))
      rw [one]
      by_cases q : d = c
      · rw [if_pos (by simpa using q)]
        subst q
        refine wpAny_execs_cons (wpAny_AugAssign_Subscript_any ?_)
        refine Pe.run C10 (Pe.loc (fun _ h => h.1) (by k_mem)) (fun v s11 hv C11 k11 => ?_) Cx.stb
        cases hv
        refine Pe.run C11 (Pe.addI Cx.stb (pJ (by k_mem)) Pe.int) (fun v s12 hv C12 k12 => ?_) Cx.stb
        obtain ⟨tv, rfl⟩ := hv
        obtain ⟨to, ho⟩ := int_at q₈ (krow_get (by rw [nl]; exact hj))
        refine wpAny_getItem_list (C12.2.1 (K, ik') (by k_mem)) (by omega) (by omega) (x := .int (wb (sg low) (sg part) i (j + 1)) to) (by rw [show ((j : Int) + 1).toNat = j + 1 by omega]; simpa using ho) ?_
        refine Pe.run C12 (Pe.itemI (y := wv (sg low) (sg part) i j) Cx.stb (Cx.il (by k_mem) List.mem_cons_self qw) (pJ (by k_mem)) (by rw [lw]; omega) (.inl ⟨by omega, by simpa using wrow_get (by omega)⟩)) (fun v s13 hv C13 k13 => ?_) Cx.stb
        obtain ⟨tx, rfl⟩ := hv
        refine iadd_int ?_
        have C13' := Cx.stb _ _ C13 (ktok _ (s13.toks + 1))
        refine wpAny_setItem_list (C13'.2.1 (K, ik') (by k_mem)) (by omega) (by omega) (by show (j : Int) + 1 < (ik'.size : Int); omega) fun h' hl' hs' => ?_
        rw [show ((j : Int) + 1).toNat = j + 1 by omega] at hl'
        generalize hG : Array.setIfInBounds _ _ _ = ik2 at hl'
        refine wpAny_execs_nil (wpAny_execs_nil ⟨⟨ik2, Cx.write (tk := s13.toks + 1) (Ls' := [(Dw', iw'), (K, ik2)]) ⟨C13'.1.sub (by walk_at "sub"), C13'.2.1, C13'.2.2⟩ fk kS kL hs' hl' ?_, ?_⟩, fun b o hb e => ?_⟩)
        · exact List.forall_mem_cons.mpr ⟨Or.inr ⟨by k_mem, Ne.symm kD⟩, List.forall_mem_cons.mpr ⟨Or.inl rfl, List.forall_mem_nil _⟩⟩
        · rw [← hG, Array.toList_setIfInBounds, ← krow_set hc hd]
          exact IntsAre.set q₈ _ _ _
        · have hb1 : b ≠ L := fun e => hb (.inl e)
          have hb2 : b ≠ K := fun e => hb (.inr e)
          exact (hs'.2 b hb2).trans (kg k13 b o (kg k12 b o (kg k11 b o (kg k10 b o (kk₉ b o hb1 e)))))
      · rw [if_neg (by simpa using q)]
        rw [krow_skip hc hd q] at q₈
        exact wpAny_execs_nil (wpAny_execs_nil ⟨⟨ik', ⟨C10.1.sub (by walk_at "sub"), C10.2.1, C10.2.2⟩, q₈⟩, fun b o hb e => kg k10 b o (kk₉ b o (fun e => hb (.inl e)) e)⟩)
    · rintro s₈ ⟨ik', C₈, q₈⟩
      have ln : (rangeI low.length).length = (sg low).length := by rw [nl]; simp [rangeI]
      rw [ln, krow_last] at q₈
      refine wpAny_execs_cons (wpAny_Assign_Name (Pe.run C₈ (Pe.loc (fun _ h => h.1) (by k_mem)) (fun v s₉ hv C₉ k₉ => ?_) Cx.stb))
      cases hv
      refine Cx.store (l' := [(Str.ofString "low", .str low t), (Str.ofString "part", .str part u), (Str.ofString "ways", .ref K)]) C₉ (by walk_at "put") (fun s10 C10 kk10 => ?_)
      exact wpAny_execs_nil ⟨⟨K, ik', ⟨C10.1, List.forall_mem_cons.mpr ⟨C10.2.1 (K, ik') (by k_mem), List.forall_mem_nil _⟩, fun b o ne e => kg C10.1.keeps b o e⟩, q₈, nWr⟩, fun b o hb e => C10.2.2 b o hb e⟩
  · rintro Wr s' ⟨Dw', iw', C₄, qw, nw⟩
    have ln : (rangeI part.length).length = part.length := by simp [rangeI]
    rw [ln] at qw
    have lw : (wrow (sg low) (sg part) part.length).length = low.length + 1 := by unfold wrow; rw [List.length_map, List.length_range, nl]
    refine wpAny_execs_cons (wpAny_Return_some (Pe.run C₄ (Pe.itemI (y := wv (sg low) (sg part) part.length low.length) Cx.stb (Cx.il (by k_mem) List.mem_cons_self qw) (Pe.neg Pe.int) (by omega) (.inr ⟨by decide, by omega, ?_⟩)) (fun v s₅ hv C₅ _ => ?_) Cx.stb))
    · rw [lw, show (-(1 : Int) + ((low.length + 1 : Nat) : Int)).toNat = low.length by omega]
      exact wrow_get (by omega)
    · refine ⟨?_, C₅.1.keeps⟩
      unfold wv at hv
      rwa [List.take_of_length_le (by omega), List.take_of_length_le (by omega)] at hv
end
end Mine
end
section
-- part W14
open PySem PySem.W PyProof.Rows
set_option maxRecDepth 100000
set_option maxHeartbeats 0
set_option linter.all false
namespace Mine
local macro_rules | `(tactic| walk_at "put") => `(tactic| ((repeat' (first | exact List.forall_mem_nil _ | refine List.forall_mem_cons.mpr ⟨?_, ?_⟩)) <;> first | exact Or.inl rfl | exact Or.inr ⟨by k_mem, by dsimp only; decide⟩))
local macro_rules | `(tactic| walk_at "sub") => `(tactic| (repeat' (first | exact List.forall_mem_nil _ | refine List.forall_mem_cons.mpr ⟨by k_mem, ?_⟩)))
def b1L : List Nat := [173, 847, 6150, 6155, 6156, 6157, 8203, 8204, 8205, 8288, 65279, 65024, 65025, 65026, 65027, 65028, 65029, 65030, 65031, 65032, 65033, 65034, 65035, 65036, 65037, 65038, 65039]
/-- the signs that stand for letters -/
def fsk : List Nat := [102, 115, 107]
def forms : List Nat := [0, 1, 2, 4, 7, 8, 9, 10, 11, 12]
def signF (c form : Nat) : Nat := if form = 0 then c else if form = 1 then c - 32 else 119711 + 52 * forms.getD (form - 2) 0 + c
def pairF (c : Nat) : Nat := if c = 102 then 64256 else if c = 115 then 223 else 13261
/-- signs that map_table_b3 finds in its table, with what it finds -/
def inTab : List (Nat × List Nat) := (fsk.flatMap fun c => (List.range 10).map fun i => (signF c (i + 2), [c])) ++ fsk.map fun c => (pairF c, [c, c])
def lowTab : List (Nat × List Nat) := fsk.flatMap fun c => [(c, [c]), (c - 32, [c])]
def okTab : List (Nat × List Nat) := inTab ++ lowTab
theorem ents_keys : (ents.all fun e => match e.key with | .int i _ => e.hash == hashInt i | _ => false) = true := by decide +kernel
def txtV (v : Value) (p : List Nat) : Bool := match v with | .str y _ => y.cps.toList == p | _ => false
theorem txtV_ok {v : Value} {p : List Nat} (h : txtV v p = true) : ∃ y t, v = .str y t ∧ y.cps.toList = p := by
  unfold txtV at h
  split at h
  · rename_i y t
    exact ⟨y, t, rfl, eq_of_beq h⟩
  · cases h
def txtO (r : Option DictEntry) (p : List Nat) : Bool := match r with | some e => txtV e.val p | none => false
theorem txtO_ok {r : Option DictEntry} {p : List Nat} (h : txtO r p = true) : ∃ e y t, r = some e ∧ e.val = .str y t ∧ y.cps.toList = p := by
  cases r with
  | none => cases h
  | some e =>
    obtain ⟨y, t, a, b⟩ := txtV_ok (show txtV e.val p = true from h)
    exact ⟨e, y, t, rfl, a, b⟩
theorem in_found : (inTab.all fun p => txtO (ents.find? (fun e => Value.isInt (p.1 : Int) e.key)) p.2) = true := by decide +kernel
theorem low_missed : (lowTab.all fun p => (ents.find? (fun e => Value.isInt (p.1 : Int) e.key)).isNone && ((Txt.lower ⟨#[p.1]⟩).cps.toList == p.2)) = true := by decide +kernel
theorem b1_not : (okTab.all fun p => !b1L.contains p.1) = true := by decide +kernel
noncomputable def b1E (P : Params) : List (Int × Value) := match (o38x7 P).data with | .set es _ _ => es.toList | _ => []
theorem b1E_ok (P : Params) : ((b1E P).all fun e => match e.2 with | .int i _ => e.1 == hashInt i | _ => false) = true := by kernel_rfl!
theorem b1E_ints (P : Params) : (b1E P).map (fun e => match e.2 with | .int i _ => i | _ => 0) = ([65024, 65025, 65026, 65027, 65028, 65029, 6150, 65030, 65031, 65032, 65033, 6155, 6156, 6157, 8203, 8204, 8205, 65034, 65035, 65036, 65037, 65038, 65039, 173, 847, 8288, 65279] : List Int) := by kernel_rfl!
theorem b1_set {w : World} {h : Heap} (Y : Says w h) : h.SetOf (intKind pw w) 38 (fun k => (b1E w.params).any fun e => Value.isInt k e.2) 27 := by
  refine ⟨o38x7 w.params, _, _, _, Y 38 _ (by kernel_rfl!), ⟨rfl, rfl, rfl⟩, rfl, ?_, ?_, by decide, by rfl, by rfl⟩
  · intro e he
    have := List.all_eq_true.mp (b1E_ok w.params) e he
    obtain ⟨a, v⟩ := e
    cases v with
    | int i t => exact ⟨⟨i, intKind_is pw w i t, eq_of_beq this⟩, rfl⟩
    | _ => simp at this
  · intro k
    show List.any _ _ = true ↔ _
    rw [List.any_eq_true]
    rfl
def b1N : List Nat := [65024, 65025, 65026, 65027, 65028, 65029, 6150, 65030, 65031, 65032, 65033, 6155, 6156, 6157, 8203, 8204, 8205, 65034, 65035, 65036, 65037, 65038, 65039, 173, 847, 8288, 65279]
theorem b1I_is : ([65024, 65025, 65026, 65027, 65028, 65029, 6150, 65030, 65031, 65032, 65033, 6155, 6156, 6157, 8203, 8204, 8205, 65034, 65035, 65036, 65037, 65038, 65039, 173, 847, 8288, 65279] : List Int) = b1N.map fun (n : Nat) => (n : Int) := by decide +kernel
theorem cast_has (c : Nat) : ∀ l : List Nat, (l.map fun (n : Nat) => (n : Int)).contains (c : Int) = l.contains c
  | [] => rfl
  | a :: r => by
    rw [List.map_cons, List.contains_cons, List.contains_cons, cast_has c r]
    congr 1
    rw [Bool.eq_iff_iff, beq_iff_eq, beq_iff_eq]
    omega
theorem b1_has {w : World} (c : Nat) : ((b1E w.params).any fun e => Value.isInt (c : Int) e.2) = b1L.contains c := by
  have e : ((b1E w.params).any fun e => Value.isInt (c : Int) e.2) = ((b1E w.params).map (fun e => match e.2 with | .int i _ => i | _ => 0)).contains (c : Int) := by
    rw [Bool.eq_iff_iff, List.any_eq_true, List.contains_iff_mem, List.mem_map]
    refine exists_congr fun e => and_congr_right fun he => ?_
    have := List.all_eq_true.mp (b1E_ok w.params) e he
    obtain ⟨a, v⟩ := e
    cases v with
    | int i t => simp only [Value.isInt, beq_iff_eq, decide_eq_true_eq]
    | _ => simp at this
  rw [e, b1E_ints, b1I_is, cast_has]
  have p : b1N.Perm b1L := List.isPerm_iff.mp (by decide +kernel)
  rw [Bool.eq_iff_iff, List.contains_iff_mem, List.contains_iff_mem]
  exact p.mem_iff
section
variable {w : World} {A : Around} {E : Value → Shared → Prop} {s : Shared} {n : Nat}
theorem Pe.ord1 {env : Env} {C : Shared → Prop} {f e : PySem.Expr} {c : Nat} {pos : Pos} (hC : Stb C) (hf : Pe w A env C f (VV (.builtin "ord"))) (he : Pe w A env C e (SS ⟨#[c]⟩))
    (h0 : eval (f.Call [e] [] pos) env = (do callWith pos (← eval f env) [] (backTo pos (starEach [e] env)) (backToKw pos (keywordEach [] env))) := by rfl)
    (h1 : starEach [e] env = (false, eval e env) :: starEach [] env := by rfl) : Pe w A env C (.Call f [e] [] pos) (II c) :=
  Pe.call1 hC hf he (fun a s _ ⟨t, ha⟩ => by subst ha; exact P.ord_of_char ⟨⟨_, rfl⟩, ktok _ _⟩) h0 h1
theorem Pe.chr1 {env : Env} {C : Shared → Prop} {f e : PySem.Expr} {i : Int} {pos : Pos} (hC : Stb C) (hf : Pe w A env C f (VV (.builtin "chr"))) (he : Pe w A env C e (II i)) (hi0 : 0 ≤ i) (hi1 : i ≤ 1114111)
    (h0 : eval (f.Call [e] [] pos) env = (do callWith pos (← eval f env) [] (backTo pos (starEach [e] env)) (backToKw pos (keywordEach [] env))) := by rfl)
    (h1 : starEach [e] env = (false, eval e env) :: starEach [] env := by rfl) : Pe w A env C (.Call f [e] [] pos) (SS ⟨#[i.toNat]⟩) :=
  Pe.call1 hC hf he (fun a s _ ⟨t, ha⟩ => by subst ha; exact chr_of_range hi0 hi1 ⟨⟨_, rfl⟩, ktok _ _⟩) h0 h1
theorem inb1_ok {c : Nat} {t : Tok} (Y : Says w s.heap) (hA : Fine (n + 1) A) :
    wpAny (M w) A (call (.ref 48) [.str ⟨#[c]⟩ t]) (fun v s' => BB (b1L.contains c) v s' ∧ Keeps s s') No s := by
  refine call_inb1 Y hA fun L s₁ F hB => ?_
  generalize A.deeper (envOf "in_table_b1" (fScp 7) L 48 (.ref 47)) = B at hB ⊢
  refine wpAny_execs_cons (wpAny_Return_some (Pe.run F (Pe.cmp (P := BB (b1L.contains c)) Fc.stb II.stb (Pe.ord1 (c := c) Fc.stb (Pe.blt (fun _ h => h) Y (blt_ord _)) (Pe.locS (t := t) (fun _ h => h) (by k_mem))) (Pe.glob (fun _ h => h) Y (g_b1 _)) (fun a b s' F' ⟨u, ha⟩ hb => ?_)) (fun v s' hv F' _ => ⟨hv, F'.keeps⟩) Fc.stb))
  subst ha; cases hb
  refine wpAny_inSet_of (knd := intKind pw w) (k := (c : Int)) (intKind_is pw w c u) rfl (b1_set (F'.says Y)) ⟨?_, ktok _ _⟩
  show Value.bool _ = Value.bool _
  rw [b1_has]
theorem b3_map {h : Heap} (Y : Says w h) : h.MapOf (intKind pw w) 49 (findBy Value.isInt ents.toArray) := by
  refine ⟨ob3 49 w.params, ents.toArray, 650, Y 49 _ (by kernel_rfl!), ⟨rfl, rfl, rfl⟩, rfl, ?_, fun _ => rfl⟩
  intro e he
  have := List.all_eq_true.mp ents_keys e (by simpa using he)
  obtain ⟨a, v, x⟩ := e
  cases v with
  | int i t => exact ⟨i, intKind_is pw w i t, eq_of_beq this⟩
  | _ => simp at this
theorem mapb3_ok {c : Nat} {y : List Nat} {t : Tok} (Y : Says w s.heap) (hA : Fine (n + 1) A) (hc : (c, y) ∈ okTab) :
    wpAny (M w) A (call (.ref 94) [.str ⟨#[c]⟩ t]) (fun v s' => SS ⟨y.toArray⟩ v s' ∧ Keeps s s') No s := by
  refine call_mapb3 Y hA fun L s₁ F hB => ?_
  generalize A.deeper (envOf "map_table_b3" (fScp 9) L 94 (.ref 93)) = B at hB ⊢
  have look : (findBy Value.isInt ents.toArray (c : Int)) = (ents.find? fun e => Value.isInt (c : Int) e.key).map (·.val) := by unfold findBy; rw [List.find?_toArray]
  refine wpAny_execs_cons (wpAny_Assign_Name (MethodCall_ (Pe.run F (Pe.glob (fun _ h => h) Y (g_b3 _)) (fun v s₂ hv F₂ k₂ => ?_) Fc.stb)))
  cases hv
  have m₂ := b3_map (F₂.says Y)
  refine getMethod_builtin m₂.typeIs PySem.F.plainAttrs_dict PySem.F.slot_dict_get PySem.F.type_dict_get m₂.noDict ?_
  refine callWith_method1 (args1 (Pe.ord1 (c := c) Fc.stb (Pe.blt (fun _ h => h) Y (blt_ord _)) (Pe.locS (t := t) (fun _ h => h) (by k_mem))) F₂ (fun a s₃ ⟨u, ha⟩ k₃ => ?_)) rfl rfl
  subst ha
  have F₃ := Fc.stb _ _ F₂ k₃
  have m₃ := b3_map (F₃.says Y)
  refine call_meetsIn PySem.F.slot_dict_get m₃.typeIs PySem.F.entry_dict_get (PySem.F.args_dict_get_2 _ _) (meets_dict_get (intKind pw w) 49 (intKind_is pw w c u) (by decide)) ⟨_, m₃, ?_⟩
  have F₄ := Fc.stb _ _ F₃ (ktok _ (s₃.toks + 1))
  rw [look]
  rcases List.mem_append.mp hc with hc | hc
  · have := List.all_eq_true.mp in_found _ hc
    simp only at this
    generalize (ents.find? fun e => Value.isInt (c : Int) e.key) = r at this
    obtain ⟨e, y', ty, er, ev, ey0⟩ := txtO_ok this
    subst er
    dsimp only [Option.map_some]
    rw [ev]
    have ey : y' = ⟨y.toArray⟩ := sg_inj ey0
    subst ey
    refine Fc.store (l' := [(Str.ofString "code", .str ⟨#[c]⟩ t), (Str.ofString "r", .str ⟨y.toArray⟩ ty)]) F₄ (by walk_at "put") (fun s₅ F₅ kk₅ => ?_)
    refine wpAny_execs_cons (wpAny_If (Pt.run F₅ (Pt.cmp (Pl := SS ⟨y.toArray⟩) (b := true) Fc.stb SS.stb (Pe.locS (t := ty) (fun _ h => h) (by k_mem)) Pe.none (fun a b s' _ ⟨_, ha⟩ hb => by subst ha; cases hb; exact isnot_str_none ⟨rfl, kr _⟩)) (fun s₆ F₆ _ => ?_) Fc.stb))
    rw [if_pos rfl]
    exact wpAny_execs_cons (wpAny_Return_some (Pe.run F₆ (Pe.locS (t := ty) (fun _ h => h) (by k_mem)) (fun v s₇ hv F₇ _ => ⟨hv, F₇.keeps⟩) Fc.stb))
  · have := List.all_eq_true.mp low_missed _ hc
    simp only [Bool.and_eq_true] at this
    obtain ⟨h1, h2⟩ := this
    generalize (ents.find? fun e => Value.isInt (c : Int) e.key) = r at h1
    obtain rfl := Option.isNone_iff_eq_none.mp h1
    have ey : Txt.lower ⟨#[c]⟩ = ⟨y.toArray⟩ := sg_inj (eq_of_beq (show ((Txt.lower ⟨#[c]⟩).cps.toList == y) = true from h2))
    refine Fc.store (l' := [(Str.ofString "code", .str ⟨#[c]⟩ t), (Str.ofString "r", .none)]) F₄ (by walk_at "put") (fun s₅ F₅ kk₅ => ?_)
    refine wpAny_execs_cons (wpAny_If (Pt.run F₅ (Pt.cmp (b := false) Fc.stb VV.stb (Pe.loc (fun _ h => h) (by k_mem)) Pe.none (fun a b s' _ ha hb => by cases ha; cases hb; exact isnot_none_none ⟨rfl, kr _⟩)) (fun s₆ F₆ _ => ?_) Fc.stb))
    rw [if_neg Bool.false_ne_true]
    refine wpAny_execs_nil (wpAny_execs_cons (wpAny_Return_some (MethodCall_ (Pe.run F₆ (Pe.locS (t := t) (fun _ h => h) (by k_mem)) (fun v s₇ hv F₇ _ => ?_) Fc.stb))))
    obtain ⟨tv, rfl⟩ := hv
    refine GM.lower (callWith_method0 (SCL.lower (by show 1 ≤ _; decide) fun _ => ⟨⟨_, by rw [ey]⟩, (Fc.stb _ _ F₇ (ktok _ _)).keeps⟩))
/-- lists and tuples of written ints -/
inductive Lits : List PySem.Expr → List Int → Prop
  | nil : Lits [] []
  | cons {i : Int} {k : Nat} {pos : Pos} {es : List PySem.Expr} {is : List Int} : Lits es is → Lits (.Constant (.int i) k pos :: es) (i :: is)
theorem Lits.args {env : Env} {pos : Pos} : ∀ {es : List PySem.Expr} {is : List Int}, Lits es is → ∀ {s : Shared} {Q : List Value → Shared → Prop}, (∀ vs s', IntsAre vs is → Keeps s s' → Q vs s') → wpAny (M w) A (spliced (backTo pos (starEach es env))) Q No s
  | _, _, .nil, s, Q, h => wpAny_items_nil (h [] s .nil (kr _))
  | _, _, .cons (i := i) hl, s, Q, h => wpAny_items_cons (wpAny_Constant_int (Lits.args hl fun vs s' hv k => h _ s' (.cons i _ hv) (kt (ktok _ _) k))) rfl
abbrev TI (ns : List Int) : Value → Shared → Prop := fun v s => ∃ a items, v = .ref a ∧ IsTup s.heap a items ∧ IntsAre items.toList ns
theorem TI.stb {ns : List Int} : Stb2 (TI ns) := fun _ _ _ ⟨a, i, e, ⟨o, ho, r⟩, q⟩ k => ⟨a, i, e, ⟨o, kg k a o ho, r⟩, q⟩
theorem Pe.lits {env : Env} {C : Shared → Prop} {es : List PySem.Expr} {is : List Int} {pos : Pos} {hb : Heap} (hC : ∀ s, C s → ∀ D, s.heap.get? D = Option.none → hb.get? D = Option.none) (hl : Lits es is) (hz : is.length ≤ 1000) : Pe w A env C (.List es pos) (ILf hb is) := .of fun s hs =>
  wpAny_List (Lits.args hl fun vs s' hv k => ⟨by have := IntsAre.len hv; unfold sizeLine; omega, ⟨_, vs.toArray, rfl, ⟨_, Heap.get?_push_size _ rfl, rfl, 0, rfl⟩, by simpa using hv, hC s hs _ (fresh_size k)⟩, kt k (kpush _ _ _)⟩)
theorem Pe.litsT {env : Env} {C : Shared → Prop} {es : List PySem.Expr} {is : List Int} {pos : Pos} {kx : Nat} (hl : Lits es is) (hz : is.length ≤ 1000) : Pe w A env C (.Tuple es kx pos) (TI is) := .of fun s hs =>
  wpAny_Tuple (Lits.args hl fun vs s' hv k => ⟨by have := IntsAre.len hv; unfold sizeLine; omega, ⟨_, vs.toArray, rfl, ⟨_, Heap.get?_push_size _ rfl, rfl, 0, rfl⟩, by simpa using hv⟩, kt k (kpush _ _ _)⟩)
theorem Pe.itemTI {env : Env} {C : Shared → Prop} {v sl : PySem.Expr} {ys : List Int} {i : Int} {y : Int} {pos : Pos} (hC : Stb C) (hv : Pe w A env C v (TI ys)) (hi : Pe w A env C sl (II i)) (hz : ys.length < 1000) (h0 : 0 ≤ i) (hy : ys[i.toNat]? = some y)
    (hs1 : ∀ (a b : Value), subscripted sl false a b = operate [a, b] (getItem a b) := by intro _ _; with_unfolding_all rfl) : Pe w A env C (.Subscript v sl pos) (II y) := .of fun s hs => by
  refine Subscript_ (Pe.two hC TI.stb hv hi hs fun a b s' _ ⟨D, items, e, ht, q⟩ ⟨tb, hb⟩ k => ?_)
  subst e hb
  obtain ⟨t, hx⟩ := int_at q hy
  have ln := IntsAre.len q
  rw [Array.length_toList] at ln
  have lt := (List.getElem?_eq_some_iff.mp hy).1
  refine tail_any ht.typeIs slot_tuple_getitem.lookup (getItem_tuple ht (by omega) (by omega) (j := i.toNat) ?_ (by simpa using hx) ⟨⟨t, rfl⟩, k⟩) (hs1 _ _)
  unfold seqIndex?
  simp; omega
theorem fsk_cases {c : Nat} (h : c ∈ fsk) : c = 102 ∨ c = 115 ∨ c = 107 := by simpa [fsk] using h
theorem sign_ok {c form : Nat} {t u : Tok} (Y : Says w s.heap) (hA : Fine (n + 1) A) (hc : c ∈ fsk) (hf : form < 12) :
    wpAny (M w) A (call (.ref 101) [.str ⟨#[c]⟩ t, .int form u]) (fun v s' => SS ⟨#[signF c form]⟩ v s' ∧ Keeps s s') No s := by
  refine call_sign Y hA fun L s₁ F hB => ?_
  generalize A.deeper (envOf "_law_sign" (fScp 11) L 101 (.ref 100)) = B at hB ⊢
  have hc3 := fsk_cases hc
  have ordE : ∀ {pos p1 p2}, Pe w B (envOf "_law_sign" (fScp 11) L 101 (.ref 100)) (Fc s L [(Str.ofString "letter", .str ⟨#[c]⟩ t), (Str.ofString "form", .int form u)]) (.Call (.Name "ord" p1) [.Name "letter" p2] [] pos) (II c) := Pe.ord1 Fc.stb (Pe.blt (fun _ h => h) Y (blt_ord _)) (Pe.locS (t := t) (fun _ h => h) (by k_mem))
  refine wpAny_execs_cons (wpAny_If (Pt.run F (Pt.eqI Fc.stb (Pe.locI (t := u) (fun _ h => h) (by k_mem)) Pe.int) (fun s₂ F₂ _ => ?_) Fc.stb))
  by_cases q0 : form = 0
  · rw [if_pos (by simp [q0])]
    refine wpAny_execs_cons (wpAny_Return_some (Pe.run F₂ (Pe.locS (t := t) (fun _ h => h) (by k_mem)) (fun v s₇ hv F₇ _ => ⟨?_, F₇.keeps⟩) Fc.stb))
    subst q0; exact hv
  rw [if_neg (by simpa using q0)]
  refine wpAny_execs_nil (wpAny_execs_cons (wpAny_If (Pt.run F₂ (Pt.eqI Fc.stb (Pe.locI (t := u) (fun _ h => h) (by k_mem)) Pe.int) (fun s₃ F₃ _ => ?_) Fc.stb)))
  by_cases q1 : form = 1
  · rw [if_pos (by simp [q1])]
    refine wpAny_execs_cons (wpAny_Return_some (Pe.run F₃ (Pe.chr1 Fc.stb (Pe.blt (fun _ h => h) Y (blt_chr _)) (Pe.subI Fc.stb ordE Pe.int) (by omega) (by omega)) (fun v s₇ hv F₇ _ => ⟨?_, F₇.keeps⟩) Fc.stb))
    subst q1
    rw [show ((c : Int) - 32).toNat = signF c 1 by unfold signF; simp; omega] at hv
    exact hv
  rw [if_neg (by simp; omega)]
  have hx : forms[form - 2]? = some (forms.getD (form - 2) 0) := by
    have : form - 2 < 10 := by omega
    rw [List.getD_eq_getElem?_getD, List.getElem?_eq_getElem (by simpa [forms] using this)]; rfl
  generalize hX : forms.getD (form - 2) 0 = x at hx
  have x12 : x ≤ 12 := by
    have := List.mem_of_getElem? hx
    simp [forms] at this; omega
  refine wpAny_execs_nil (wpAny_execs_cons (wpAny_Return_some (Pe.run F₃ (Pe.chr1 Fc.stb (Pe.blt (fun _ h => h) Y (blt_chr _)) (Pe.addI Fc.stb (Pe.addI Fc.stb Pe.int (Pe.mulI Fc.stb Pe.int (Pe.itemTI (y := (x : Int)) (ys := ([0, 1, 2, 4, 7, 8, 9, 10, 11, 12] : List Int)) Fc.stb (Pe.litsT (by repeat' (first | exact Lits.nil | refine Lits.cons ?_)) (by decide)) (Pe.subI Fc.stb (Pe.locI (t := u) (fun _ h => h) (by k_mem)) Pe.int) (by decide) (by omega) ?_) ?_)) ordE) (by omega) (by omega)) (fun v s₇ hv F₇ _ => ⟨?_, F₇.keeps⟩) Fc.stb)))
  · rw [show ([0, 1, 2, 4, 7, 8, 9, 10, 11, 12] : List Int) = forms.map (fun (n : Nat) => (n : Int)) from rfl, List.getElem?_map, show ((form : Int) - 2).toNat = form - 2 by omega, hx]; rfl
  · exact IntMulOk.of_left (by decide)
  · rw [show ((119711 : Int) + 52 * (x : Int) + c).toNat = signF c form by unfold signF; rw [if_neg q0, if_neg q1, hX]; omega] at hv
    exact hv
end
end Mine
end
section
-- part W15
open PySem PySem.W PyProof.Rows
set_option maxRecDepth 100000
set_option maxHeartbeats 0
set_option linter.all false

namespace Mine
local macro_rules | `(tactic| walk_at "put") => `(tactic| ((repeat' (first | exact List.forall_mem_nil _ | refine List.forall_mem_cons.mpr ⟨?_, ?_⟩)) <;> first | exact Or.inl rfl | exact Or.inr ⟨by k_mem, by dsimp only; decide⟩))
local macro_rules | `(tactic| walk_at "sub") => `(tactic| (repeat' (first | exact List.forall_mem_nil _ | refine List.forall_mem_cons.mpr ⟨by k_mem, ?_⟩)))
section
variable {w : World} {A : Around} {E : Value → Shared → Prop} {s : Shared} {n : Nat}
theorem ints_of_get : ∀ {vs : List Value} {ns : List Int}, vs.length = ns.length → (∀ (i : Nat) v, vs[i]? = some v → ∃ x, ns[i]? = some x ∧ IsI x v) → IntsAre vs ns
  | [], [], _, _ => .nil
  | v :: vs, [], h, _ => by simp at h
  | [], n :: ns, h, _ => by simp at h
  | v :: vs, n :: ns, h, k => by
    obtain ⟨x, hx, t, e⟩ := k 0 v rfl
    cases hx
    subst e
    exact .cons n t (ints_of_get (by simpa using h) fun i v hv => k (i + 1) v (by simpa using hv))
theorem nothing_ok {k : Nat} {u : Tok} (Y : Says w s.heap) (hA : Fine (n + 1) A) (hk : k < 27) :
    wpAny (M w) A (call (.ref 108) [.int k u]) (fun v s' => SS ⟨#[b1L.getD k 0]⟩ v s' ∧ Keeps s s') No s := by
  refine call_nothing Y hA fun L s₁ F hB => ?_
  generalize A.deeper (envOf "_law_nothing" (fScp 12) L 108 (.ref 107)) = B at hB ⊢
  have hx : b1L[k]? = some (b1L.getD k 0) := by
    rw [List.getD_eq_getElem?_getD, List.getElem?_eq_getElem (by simpa [b1L] using hk)]; rfl
  generalize hX : b1L.getD k 0 = x at hx ⊢
  have x12 : x ≤ 65279 := by
    have := List.mem_of_getElem? hx
    simp [b1L] at this; omega
  have C₁ : Cx s L [(Str.ofString "k", .int k u)] [] s.heap s₁ := ⟨F, List.forall_mem_nil _, fun b o _ e => kg F.keeps b o e⟩
  have rng : ∀ {pos p1 p2 p3 k2 k3 p4 p5}, Pe w B (envOf "_law_nothing" (fScp 12) L 108 (.ref 107)) (Cx s L [(Str.ofString "k", .int k u)] [] s.heap) (.Call (.Name "list" p1) [.Call (.Name "range" p2) [.Constant (.int 65024) k2 p3, .Constant (.int 65040) k3 p4] [] p5] [] pos) (IL ((List.range 16).map fun (i : Nat) => (65024 : Int) + i)) := fun {pos p1 p2 p3 k2 k3 p4 p5} => by
    refine Pe.type1 (P1 := fun v s => ∃ r t u v', v = .ref r ∧ IsRange s.heap r 65024 65040 1 t u v') Cx.stb (Pe.blt (fun _ h => h.1) Y (blt_list _)) (.of fun s hs => ?_) (fun a s hs ⟨r, t, u, v', ha, hr⟩ => ?_)
    · refine Call_ (Pe.run hs (Pe.blt (fun _ h => h.1) Y (blt_range _)) (fun v s₁ ev C₁ k => ?_) Cx.stb)
      cases ev
      refine PyProof.Rows.callWith_type1 (args2 (P1 := II 65024) (P2 := II 65040) Cx.stb II.stb Pe.int Pe.int C₁ (fun a b s' ⟨ta, ha⟩ ⟨tb, hb⟩ k' => ?_)) rfl rfl
      subst ha hb
      exact call_range_2 ⟨⟨_, _, _, _, rfl, IsRange.new _ 65024 65040 1 _ _ _⟩, kt k (kt k' (kpush _ _ _))⟩
    · subst ha
      refine call_list_range (n := 16) hB.1 hr (by decide +kernel) (by decide +kernel) (by decide) fun h' tk acc' c' hk' hS' hacc => ⟨⟨_, acc', rfl, ⟨_, hS', rfl, c', rfl⟩, ?_⟩, h', tk, rfl, hk'⟩
      refine ints_of_get (by rw [Array.length_toList, hacc.1]; simp) fun i v hv => ?_
      have hv' : acc'[i]? = some v := by simpa using hv
      obtain ⟨tv, e⟩ := hacc.2 i v hv'
      have lt : i < 16 := by have := (Array.getElem?_eq_some_iff.mp hv').1; rw [hacc.1] at this; exact this
      exact ⟨(65024 : Int) + i, by rw [List.getElem?_map, List.getElem?_range lt]; rfl, tv, by rw [e]; congr 1; omega⟩
  refine wpAny_execs_cons (wpAny_Return_some (Pe.run C₁ (Pe.chr1 Cx.stb (Pe.blt (fun _ h => h.1) Y (blt_chr _)) (Pe.itemI (y := (x : Int)) Cx.stb ((Pe.addIL (hb := s.heap) (xs := ([173, 847, 6150, 6155, 6156, 6157, 8203, 8204, 8205, 8288, 65279] : List Int)) Cx.stb Cx.fresh ((Pe.lits (hb := s.heap) Cx.fresh (by repeat' (first | exact Lits.nil | refine Lits.cons ?_)) (by decide)).mono ILf.il) rng (by decide)).mono ILf.il) (Pe.locI (t := u) (fun _ h => h.1) (by k_mem)) (by decide) (.inl ⟨by omega, ?_⟩)) (by omega) (by omega)) (fun v s₇ hv F₇ _ => ⟨hv, F₇.1.keeps⟩) Cx.stb))
  rw [show ([173, 847, 6150, 6155, 6156, 6157, 8203, 8204, 8205, 8288, 65279] : List Int) ++ ((List.range 16).map fun (i : Nat) => (65024 : Int) + i) = b1L.map (fun (n : Nat) => (n : Int)) by decide +kernel, List.getElem?_map, Int.toNat_natCast, hx]; rfl
end
end Mine
end
section
-- part W16
open PySem PySem.W PyProof.Rows
set_option maxRecDepth 100000
set_option maxHeartbeats 0
set_option linter.all false
namespace Mine
local macro_rules | `(tactic| walk_at "put") => `(tactic| ((repeat' (first | exact List.forall_mem_nil _ | refine List.forall_mem_cons.mpr ⟨?_, ?_⟩)) <;> first | exact Or.inl rfl | exact Or.inr ⟨by k_mem, by dsimp only; decide⟩))
local macro_rules | `(tactic| walk_at "sub") => `(tactic| (repeat' (first | exact List.forall_mem_nil _ | refine List.forall_mem_cons.mpr ⟨by k_mem, ?_⟩)))
section
variable {w : World} {A : Around} {env : Env} {C : Shared → Prop} {P P1 P2 P3 : Value → Shared → Prop} {s : Shared}
theorem plain_stb {D : Addr} {items : Array Value} : Stb fun s => s.heap.PlainList D items := fun _ _ x k => x.at fun o => kg k D o
/-- x.append(e) as a statement -/
theorem append_no {o e : PySem.Expr} {apos pos spos : Pos} {D : Addr} {items : Array Value} {Q : Flow → Shared → Prop} (hC : Stb C) (hs : C s) (ho : Pe w A env C o (VV (.ref D))) (he : Pe w A env C e P1) (hl : ∀ s', C s' → s'.heap.PlainList D items) (hz : items.size ≤ 1000000)
    (h : ∀ v s₁ h', P1 v s₁ → C s₁ → Keeps s s₁ → Heap.SameBut D s₁.heap h' → h'.PlainList D (items.push v) → Q .next { s₁ with heap := h' })
    (h1 : starEach [e] env = (false, eval e env) :: starEach [] env := by rfl)
    (h0 : ∃ pl, eval ((PySem.Expr.Attribute o "append" apos).Call [e] [] pos) env = (do
          let ov ← eval o env
          standAt apos.atName
          let (f, first) ← holding [ov] (getMethod ov "append" pl)
          callWith pos f first (backTo pos (starEach [e] env)) []) := by exact ⟨_, rfl⟩) 
    (hi : interactive env = false := by rfl) (hsw : swapsWith (.Call (.Attribute o "append" apos) [e] [] pos) Option.none spos.line env = Pure.pure false := by rfl) :
    wpAny (M w) A (exec (.Expr (.Call (.Attribute o "append" apos) [e] [] pos) spos) env) Q No s := by
  obtain ⟨pl, h0⟩ := h0
  refine wpAny_Expr_any (MethodCall_ (pl := pl) (Pe.run hs ho (fun v s₁ ev C₁ k₁ => ?_) hC) h0) hi hsw
  cases ev
  obtain ⟨n₁, g₁⟩ := hl s₁ C₁
  refine Calls.getMethod_list_append g₁ rfl rfl (callWith_method1 (args1 he C₁ (fun v s₂ hv k₂ => ?_) h1) h1 rfl)
  have C₂ := hC _ _ C₁ k₂
  obtain ⟨n₂, g₂⟩ := hl s₂ C₂
  refine call_meets PySem.F.slot_list_append ⟨_, g₂, rfl⟩ PySem.F.entry_list_append (PySem.F.args_list_append_2 _ _) (list_append D items n₂ v (by unfold sizeLine; omega)) ⟨g₂, ?_⟩
  refine h v s₂ _ hv C₂ (kt k₁ k₂) ⟨?_, fun a ne => Heap.get?_update_other _ _ (Ne.symm ne)⟩ ⟨_, Heap.get?_update_self _ g₂ rfl⟩
  exact Heap.size_update _ _ _
/-- slices of texts -/
theorem Pe.sliceS {v : PySem.Expr} {x : Str} {i j : Int} {pos p : Pos} {lo hi : PySem.Expr} (hC : Stb C) (hv : Pe w A env C v (SS x)) (hlo : Pe w A env C lo (II i)) (hhi : Pe w A env C hi (II j)) (hz : x.length ≤ 1000000)
    (hs1 : ∀ (a b : Value), subscripted (.Slice (some lo) (some hi) Option.none p) false a b = operate [b, a] (getItem a b) := by intro _ _; with_unfolding_all rfl)
    (hs2 : ∀ (a r : Value), letTemporaryGo v a r = Pure.pure () := by intro _ _; with_unfolding_all rfl) : Pe w A env C (.Subscript v (.Slice (some lo) (some hi) Option.none p) pos) (SS (Txt.slice x (some i) (some j))) := .of fun s hs => by
  refine Subscript_ (wpAny_mono (hv.f s hs) (fun a s₁ ⟨⟨t, ea⟩, k₁⟩ => ?_) fun _ _ x => x)
  subst ea
  have C₁ := hC _ _ hs k₁
  refine wpAny_Slice ?_
  show wpAny (M w) A (eval lo env) _ No s₁
  refine wpAny_mono (hlo.f s₁ C₁) (fun a s₂ ⟨⟨ti, ea⟩, k₂⟩ => ?_) fun _ _ x => x
  subst ea
  show wpAny (M w) A (eval hi env) _ No s₂
  refine wpAny_mono (hhi.f s₂ (hC _ _ C₁ k₂)) (fun a s₃ ⟨⟨tj, ea⟩, k₃⟩ => ?_) fun _ _ x => x
  subst ea
  refine wpAny_pure ?_
  exact tail_of_ItemOn (SBH.sliceItem_ss (P := Ex s₃.heap) ex_kept (fun _ _ e => e) (fun h' t' k px => ⟨⟨_, rfl⟩, kt (kt (kt k₁ k₂) k₃) ⟨h', k, rfl, px⟩⟩) (by unfold sizeLine; omega)) (hs1 _ _) (hs2 _)
theorem Pe.sliceFrom {v : PySem.Expr} {x : Str} {i : Int} {pos p : Pos} {lo : PySem.Expr} (hC : Stb C) (hv : Pe w A env C v (SS x)) (hlo : Pe w A env C lo (II i)) (hz : x.length ≤ 1000000)
    (hs1 : ∀ (a b : Value), subscripted (.Slice (some lo) Option.none Option.none p) false a b = operate [b, a] (getItem a b) := by intro _ _; with_unfolding_all rfl)
    (hs2 : ∀ (a r : Value), letTemporaryGo v a r = Pure.pure () := by intro _ _; with_unfolding_all rfl) : Pe w A env C (.Subscript v (.Slice (some lo) Option.none Option.none p) pos) (SS (Txt.slice x (some i) Option.none)) := .of fun s hs => by
  refine Subscript_ (wpAny_mono (hv.f s hs) (fun a s₁ ⟨⟨t, ea⟩, k₁⟩ => ?_) fun _ _ x => x)
  subst ea
  have C₁ := hC _ _ hs k₁
  refine wpAny_Slice ?_
  show wpAny (M w) A (eval lo env) _ No s₁
  refine wpAny_mono (hlo.f s₁ C₁) (fun a s₂ ⟨⟨ti, ea⟩, k₂⟩ => ?_) fun _ _ x => x
  subst ea
  refine wpAny_pure (wpAny_pure ?_)
  exact tail_of_ItemOn (SBH.sliceItem_sn (P := Ex s₂.heap) ex_kept (fun _ _ e => e) (fun h' t' k px => ⟨⟨_, rfl⟩, kt (kt k₁ k₂) ⟨h', k, rfl, px⟩⟩) (by unfold sizeLine; omega)) (hs1 _ _) (hs2 _)
/-- the table of the pairs' signs -/
theorem Pe.pairD {sl : PySem.Expr} {c : Nat} {pos p p1 p2 p3 p4 p5 p6 : Pos} {k1 k2 k3 k4 k5 k6 : Nat} (hC : Stb C) (hc : c ∈ fsk) (he : Pe w A env C sl (SS ⟨#[c]⟩))
    (hs1 : ∀ (a b : Value), subscripted sl false a b = operate [a, b] (getItem a b) := by intro _ _; with_unfolding_all rfl) :
    Pe w A env C (.Subscript (.Dict [some (.Constant (.str (Str.ofString "f")) k1 p1), some (.Constant (.str (Str.ofString "s")) k2 p2), some (.Constant (.str (Str.ofString "k")) k3 p3)] [.Constant (.int 64256) k4 p4, .Constant (.int 223) k5 p5, .Constant (.int 13261) k6 p6] p) sl pos) (II (pairF c)) := .of fun s hs => by
  refine Subscript_ (wpAny_Dict_walk (knd := strKind pw w) rfl rfl (by simp) (by simp) ?_)
  refine pairTrees_cons_walk (wpAny_Constant_str (wpAny_Constant_int (pairTrees_cons_walk (wpAny_Constant_str (wpAny_Constant_int (pairTrees_cons_walk (wpAny_Constant_str (wpAny_Constant_int (pairTrees_nil_walk ?_)))))))))
  refine ⟨[(Str.ofString "f", _), (Str.ofString "s", _), (Str.ofString "k", _)], ⟨strKind_is _ _ _ _, rfl, strKind_is _ _ _ _, rfl, strKind_is _ _ _ _, rfl, trivial⟩, Heap.DictOf.new s.heap, fun h' hd hsb => ?_⟩
  have k₁ : ∀ tk, Keeps s { s with heap := h', toks := tk } := fun tk => ⟨h', tk, rfl, fun b o e => (hsb.2 b (Nat.ne_of_lt (Heap.lt_size e))).trans (Heap.get?_push_of_some _ e)⟩
  refine wpAny_mono (he.f _ (hC _ _ hs (k₁ _))) (fun v s₂ ⟨⟨t, ev⟩, k₂⟩ => ?_) fun _ _ x => x
  subst ev
  have hd₂ : s₂.heap.DictOf (strKind pw w) s.heap.objs.size _ := hd.keep (kg k₂)
  refine tail_any hd₂.typeIs slot_dict_getitem.lookup ?_ (hs1 _ _)
  rcases fsk_cases hc with rfl | rfl | rfl
  · exact wpAny_getItem_of (strKind_is pw w _ t) hd₂.mapOf (by rfl) ⟨⟨_, rfl⟩, kt (k₁ _) (kt k₂ (ktok _ _))⟩
  · exact wpAny_getItem_of (strKind_is pw w _ t) hd₂.mapOf (by rfl) ⟨⟨_, rfl⟩, kt (k₁ _) (kt k₂ (ktok _ _))⟩
  · exact wpAny_getItem_of (strKind_is pw w _ t) hd₂.mapOf (by rfl) ⟨⟨_, rfl⟩, kt (k₁ _) (kt k₂ (ktok _ _))⟩
/-- a sign twice -/
theorem Pe.mul2 {l r : PySem.Expr} {x : Str} {pos : Pos} (hC : Stb C) (hl : Pe w A env C l (SS x)) (hr : Pe w A env C r (II 2)) (h1 : x.length = 1) : Pe w A env C (.BinOp l .Mult r pos) (SS (x ++ x)) :=
  Pe.bin hC SS.stb hl hr fun a b s _ ⟨t, ha⟩ ⟨u, hb⟩ => by
    subst ha hb
    refine P.mul_str (by decide) (fun _ _ => by rw [h1]; decide) (fun _ _ => by rw [h1]; decide) ?_
    rw [if_neg (by decide), if_neg (by rw [h1]; decide)]
    have e : ({ cps := List.foldl (fun x1 x2 => x1 ++ x2) #[] (List.replicate (Int.toNat 2) x.cps) } : Str) = x ++ x := by
      show ({ cps := (#[] ++ x.cps) ++ x.cps } : Str) = _
      rw [Array.empty_append]; rfl
    rw [e]
    exact ⟨by rw [Str.length_append, h1]; decide, ⟨_, rfl⟩, ktok _ _⟩
end
end Mine
end
section
-- part W17
open PySem PySem.W PyProof.Rows
set_option maxRecDepth 100000
set_option maxHeartbeats 0
set_option linter.all false
namespace Mine
local macro_rules | `(tactic| walk_at "put") => `(tactic| ((repeat' (first | exact List.forall_mem_nil _ | refine List.forall_mem_cons.mpr ⟨?_, ?_⟩)) <;> first | exact Or.inl rfl | exact Or.inr ⟨by k_mem, by dsimp only; decide⟩))
local macro_rules | `(tactic| walk_at "sub") => `(tactic| (repeat' (first | exact List.forall_mem_nil _ | refine List.forall_mem_cons.mpr ⟨by k_mem, ?_⟩)))
/-- what a sign stands for -/
def fold1 (c : Nat) : List Nat := if b1L.contains c then [] else (okTab.lookup c).getD []
def foldW (l : List Nat) : List Nat := l.flatMap fold1
def good (c : Nat) : Bool := b1L.contains c || (okTab.lookup c).isSome
theorem sign_fold : (fsk.all fun c => (List.range 12).all fun f => (fold1 (signF c f) == [c]) && good (signF c f)) = true := by decide +kernel
theorem pair_fold : (fsk.all fun c => (fold1 (pairF c) == [c, c]) && good (pairF c)) = true := by decide +kernel
theorem nothing_fold : ((List.range 27).all fun k => (fold1 (b1L.getD k 0) == []) && good (b1L.getD k 0)) = true := by decide +kernel
theorem one_inj (a b : Nat) : ((⟨#[a]⟩ : Str) == ⟨#[b]⟩) = decide (a = b) := by rw [Bool.eq_iff_iff]; simp
theorem foldW_snoc (l : List Nat) (c : Nat) : foldW (l ++ [c]) = foldW l ++ fold1 c := by simp [foldW]
theorem strs_snoc {vs : List Value} {ys : List Str} {y : Str} {t : Tok} (h : StrsAre vs ys) : StrsAre (vs ++ [.str y t]) (ys ++ [y]) := by
  induction h with
  | nil => exact .cons y t .nil
  | cons a b r ih => exact .cons a b ih
theorem slice_clip {x : Str} {i j : Int} (h : (x.length : Int) ≤ j) : Txt.slice x (some i) (some j) = Txt.slice x (some i) (some (x.length : Int)) := by
  have e : Builtin.Str.strSliceIndices (some i) (some j) 1 x.length = Builtin.Str.strSliceIndices (some i) (some (x.length : Int)) 1 x.length := by
    unfold Builtin.Str.strSliceIndices
    simp only [show (1 : Int) > 0 by decide, if_true]
    congr 1
    split <;> split <;> omega
  unfold Txt.slice
  rw [e]
theorem slice_sg {x : Str} {i : Nat} (h : i < x.length) (k : Nat) : sg (Txt.slice x (some (i : Int)) (some ((i : Int) + k))) = ((sg x).drop i).take k := by
  have nl : (sg x).length = x.length := sg_length x
  have key : ∀ j : Nat, i ≤ j → j ≤ x.length → sg (Txt.slice x (some (i : Int)) (some (j : Int))) = ((sg x).drop i).take (j - i) := fun j h1 h2 => by
    have := eq_of_beq (slice_closes (x := x) (i := i) (j := j) ⟨by omega, by omega, by rw [nl]; omega⟩)
    rw [this]
    show ((x.cps.toList.drop ((i : Int)).toNat).take ((j : Int) - i).toNat) = _
    rw [Int.toNat_natCast, show ((j : Int) - i).toNat = j - i by omega]
  by_cases q : i + k ≤ x.length
  · have := key (i + k) (by omega) q
    rw [show ((i + k : Nat) : Int) = (i : Int) + k by omega, show i + k - i = k by omega] at this
    exact this
  · rw [slice_clip (by omega), key x.length (by omega) (Nat.le_refl _), List.take_of_length_le (by rw [List.length_drop, nl]; omega), List.take_of_length_le (by rw [List.length_drop, nl]; omega)]
theorem Cx.augI {w : World} {A : Around} {s₀ : Shared} {L : Addr} {l : List (Str × Value)} {Ls : List (Addr × Array Value)} {hb : Heap} {cn : Str} {cs : Scope} {ca : Addr} {ccd : Value} {x : Str} {px pos : Pos} {value : PySem.Expr} {i j : Int} {t : Tok} {Q : Flow → Shared → Prop} {s : Shared} {l' : Tok → List (Str × Value)}
    (hF : Cx s₀ L l Ls hb s) (hx : (x, Value.int i t) ∈ l) (he : Pe w A (envOf cn cs L ca ccd) (Fc s₀ L l) value (II j)) (hl' : ∀ tk, ∀ p ∈ l' tk, p = (x, Value.int (i + j) tk) ∨ (p ∈ l ∧ p.1 ≠ x))
    (h : ∀ s' tk, Cx s₀ L (l' tk) Ls hb s' → (∀ b o, b ≠ L → s.heap.get? b = some o → s'.heap.get? b = some o) → Q .next s')
    (hk : cs.kind = .function := by rfl) (hl : (envOf cn cs L ca ccd).kindOf x = some .local := by rfl) :
    wpAny (M w) A (exec (.AugAssign (.Name x px) .Add value pos) (envOf cn cs L ca ccd)) Q No s :=
  Fc.augI hF.1 hx he hl' (fun s' tk F' kk => h s' tk ⟨F', fun p hp => (hF.2.1 p hp).at fun o e => kk p.1 o (hF.1.ne_list (hF.2.1 p hp)) e, fun b o ne e => kk b o ne (hF.2.2 b o ne e)⟩ kk) hk hl
section
variable {w : World} {A : Around} {E : Value → Shared → Prop} {s : Shared} {n : Nat}
theorem spelled_ok {word : Str} {D0 : Addr} {items : Array Value} {dr : List Int} {t : Tok} (Y : Says w s.heap) (hA : Fine (n + 2) A) (hw : ∀ c ∈ sg word, c ∈ fsk) (hz : word.length < 1000) (hl : s.heap.IsList D0 items) (hi : IntsAre items.toList dr) (hn : word.length ≤ dr.length) (hm : dr.length < 1000) :
    wpAny (M w) A (call (.ref 115) [.str word t, .ref D0]) (fun v s' => (∃ x t', v = .str x t' ∧ (∀ c ∈ sg x, good c = true) ∧ foldW (sg x) = sg word ∧ x.length ≤ 2000) ∧ Keeps s s') No s := by
  refine call_spelled Y hA fun L s₁ F hB => ?_
  generalize A.deeper (envOf "_law_spelled" (fScp 13) L 115 (.ref 114)) = B at hB ⊢
  have nw : (sg word).length = word.length := sg_length word
  have C₁ : Cx s L [(Str.ofString "word", .str word t), (Str.ofString "drawn", .ref D0)] [(D0, items)] s.heap s₁ := ⟨F, List.forall_mem_cons.mpr ⟨hl.at fun o => kg F.keeps D0 o, List.forall_mem_nil _⟩, fun b o _ e => kg F.keeps b o e⟩
  refine wpAny_execs_cons (wpAny_Assign_Name (wpAny_List (wpAny_items_nil ⟨by show 0 ≤ 2 ^ 24; decide, ?_⟩)))
  generalize hD : s₁.heap.objs.size = D
  have pl : (s₁.heap.push { cls := .type "list", data := .seq (([] : List Value).toArray) }).PlainList D #[] := ⟨0, by rw [← hD]; exact Heap.get?_push_size _ rfl⟩
  have C₂ := Cx.stb _ _ C₁ (kpush s₁ { cls := .type "list", data := .seq (([] : List Value).toArray) } s₁.toks)
  have DL : D ≠ L := C₂.1.ne_list pl.isList
  have D0n : s.heap.get? D = none := Cx.fresh _ C₁ _ (by rw [← hD]; exact size_none _)
  have DD : D ≠ D0 := fun e => by subst e; obtain ⟨o, ho, _⟩ := hl; rw [ho] at D0n; cases D0n
  refine Cx.store (l' := [(Str.ofString "word", .str word t), (Str.ofString "drawn", .ref D0), (Str.ofString "signs", .ref D)]) C₂ (by walk_at "put") (fun s₃ C₃ kk₃ => ?_)
  have pl₃ : s₃.heap.PlainList D #[] := pl.at fun o e => kk₃ D o DL e
  refine wpAny_execs_cons (wpAny_Assign_Name (wpAny_Constant_int ?_))
  refine Cx.store (l' := [(Str.ofString "word", .str word t), (Str.ofString "drawn", .ref D0), (Str.ofString "signs", .ref D), (Str.ofString "i", .int 0 s₃.toks)]) (Cx.stb _ _ C₃ (ktok _ _)) (by walk_at "put") (fun s₄ C₄ kk₄ => ?_)
  have pl₄ : s₄.heap.PlainList D #[] := pl₃.at fun o e => kk₄ D o DL e
  let K (l : List (Str × Value)) (its : Array Value) : Shared → Prop := fun s' => Cx s L l [(D0, items)] s.heap s' ∧ s'.heap.PlainList D its
  have stb : ∀ l its, Stb (K l its) := fun l its => Cx.stb.and plain_stb
  refine wpAny_execs_cons (while_no (fun m s' => ∃ (i : Nat) (ti : Tok) (its : Array Value) (cs : List Nat), m = word.length - i ∧ i ≤ word.length ∧ K [(Str.ofString "word", .str word t), (Str.ofString "drawn", .ref D0), (Str.ofString "signs", .ref D), (Str.ofString "i", .int i ti)] its s' ∧ StrsAre its.toList (cs.map fun c => ⟨#[c]⟩) ∧ foldW cs = (sg word).take i ∧ (∀ c ∈ cs, good c = true) ∧ cs.length ≤ 2 * i) ?_ word.length ⟨0, s₃.toks, #[], [], rfl, Nat.zero_le _, ⟨C₄, pl₄⟩, .nil, rfl, List.forall_mem_nil _, Nat.le_refl _⟩)
  rintro m s₅ ⟨i, ti, its, cs, rfl, hi', K₅, hst, hfo, hgo, hle⟩
  have pW : ∀ {l : List (Str × Value)} {its : Array Value} {pos : Pos}, (Str.ofString "word", Value.str word t) ∈ l → Pe w B (envOf "_law_spelled" (fScp 13) L 115 (.ref 114)) (K l its) (.Name "word" pos) (SS word) := fun h => Pe.locS (t := t) (fun _ h => h.1.1) h
  have pI : ∀ {l : List (Str × Value)} {its : Array Value} {pos : Pos}, (Str.ofString "i", Value.int i ti) ∈ l → Pe w B (envOf "_law_spelled" (fScp 13) L 115 (.ref 114)) (K l its) (.Name "i" pos) (II i) := fun h => Pe.locI (t := ti) (fun _ h => h.1.1) h
  refine Pt.run K₅ (Pt.ltI (stb _ _) (pI (by k_mem)) (Pe.lenS (stb _ _) (Pe.blt (fun _ h => h.1.1) Y (blt_len _)) (pW (by k_mem)) (by omega))) (fun s₆ K₆ _ => ?_) (stb _ _)
  by_cases q : i < word.length
  · rw [if_pos (by simpa using q)]
    have hx : dr[i]? = some dr[i] := List.getElem?_eq_getElem (by omega)
    have hc : (sg word)[i]? = some (sg word)[i] := List.getElem?_eq_getElem (by omega)
    have hcf : (sg word)[i] ∈ fsk := hw _ (List.getElem_mem _)
    generalize (sg word)[i] = c at hc hcf
    generalize dr[i] = x at hx
    refine wpAny_execs_cons (wpAny_Assign_Name (Pe.run K₆ (Pe.divI (stb _ _) (Pe.itemI (y := x) (stb _ _) (Pe.monoC (Pe.loc (fun _ h => h.1.1) (by k_mem)) (stb _ _) fun v s' c e => ⟨D0, items, e, c.1.2.1 _ List.mem_cons_self, hi⟩) (pI (by k_mem)) (by omega) (.inl ⟨by omega, by simpa using hx⟩)) Pe.int (by decide) (PyProof.noPylong_small (by decide))) (fun v s₇ hv K₇ _ => ?_) (stb _ _)))
    obtain ⟨ty, rfl⟩ := hv
    generalize x.fdiv 3 = y
    refine Cx.store (l' := [(Str.ofString "word", .str word t), (Str.ofString "drawn", .ref D0), (Str.ofString "signs", .ref D), (Str.ofString "i", .int i ti), (Str.ofString "y", .int y ty)]) K₇.1 (by walk_at "put") (fun s₈ C₈ kk₈ => ?_)
    have K₈ : K [(Str.ofString "word", .str word t), (Str.ofString "drawn", .ref D0), (Str.ofString "signs", .ref D), (Str.ofString "i", .int i ti), (Str.ofString "y", .int y ty)] its s₈ := ⟨C₈, K₇.2.at fun o e => kk₈ D o DL e⟩
    have app : ∀ {l : List (Str × Value)} {its : Array Value} {v : Value} {s₁ : Shared} {h' : Heap}, K l its s₁ → Heap.SameBut D s₁.heap h' → h'.PlainList D (its.push v) → K l (its.push v) { s₁ with heap := h' } := fun {l its v s₁ h'} x hs hp =>
      ⟨Cx.write (tk := s₁.toks) (Ls' := [(D0, items)]) x.1 D0n D0n DL hs hp.isList (List.forall_mem_cons.mpr ⟨Or.inr ⟨List.mem_cons_self, Ne.symm DD⟩, List.forall_mem_nil _⟩), hp⟩
    have pY : ∀ {l : List (Str × Value)} {its : Array Value} {pos : Pos}, (Str.ofString "y", Value.int y ty) ∈ l → Pe w B (envOf "_law_spelled" (fScp 13) L 115 (.ref 114)) (K l its) (.Name "y" pos) (II y) := fun h => Pe.locI (t := ty) (fun _ h => h.1.1) h
    have pC : ∀ {l : List (Str × Value)} {its : Array Value} {pos p1 p2 : Pos}, (Str.ofString "word", Value.str word t) ∈ l → (Str.ofString "i", Value.int i ti) ∈ l → Pe w B (envOf "_law_spelled" (fScp 13) L 115 (.ref 114)) (K l its) (.Subscript (.Name "word" p1) (.Name "i" p2) pos) (SS ⟨#[c]⟩) := fun h h' => Pe.itemS (stb _ _) (pW h) (pI h') (by omega) (by simpa using hc) (by omega)
    have isz : its.size ≤ 2000 := by have := StrsAre.len hst; rw [Array.length_toList, List.length_map] at this; omega
    -- the second half of a turn
    have tail : ∀ (i2 : Nat) (ti2 : Tok) (its2 : Array Value) (cs2 : List Nat) (s₉ : Shared), i < i2 → i2 ≤ word.length → K [(Str.ofString "word", .str word t), (Str.ofString "drawn", .ref D0), (Str.ofString "signs", .ref D), (Str.ofString "i", .int i2 ti2), (Str.ofString "y", .int y ty)] its2 s₉ → StrsAre its2.toList (cs2.map fun c => ⟨#[c]⟩) → foldW cs2 = (sg word).take i2 → (∀ c ∈ cs2, good c = true) → cs2.length + 1 ≤ 2 * i2 →
        wpAny (M w) B (execs ((fBod 13).drop 2 |>.head? |>.map (fun | .While _ b _ _ => b.drop 2 | _ => []) |>.getD []) (envOf "_law_spelled" (fScp 13) L 115 (.ref 114))) (fun f s₃ => match f with
            | .next | .cont => ∃ m, m < word.length - i ∧ ∃ (i : Nat) (ti : Tok) (its : Array Value) (cs : List Nat), m = word.length - i ∧ i ≤ word.length ∧ K [(Str.ofString "word", .str word t), (Str.ofString "drawn", .ref D0), (Str.ofString "signs", .ref D), (Str.ofString "i", .int i ti)] its s₃ ∧ StrsAre its.toList (cs.map fun c => ⟨#[c]⟩) ∧ foldW cs = (sg word).take i ∧ (∀ c ∈ cs, good c = true) ∧ cs.length ≤ 2 * i
            | .brk => False
            | .ret v => False) No s₉ := by
      intro i2 ti2 its2 cs2 s₉ h1 h2 K₉ hst2 hfo2 hgo2 hle2
      have isz2 : its2.size ≤ 2000 := by have := StrsAre.len hst2; rw [Array.length_toList, List.length_map] at this; omega
      obtain ⟨r, hr⟩ : ∃ r : Int, (y.fdiv 24).fmod 28 = r := ⟨_, rfl⟩
      have r0 : 0 ≤ r := hr ▸ Int.fmod_nonneg_of_pos _ (by decide)
      have r1 : r < 28 := hr ▸ Int.fmod_lt_of_pos _ (by decide)
      have pR : ∀ {its : Array Value} {p1 p2 p3 p4 p5 : Pos} {k1 k2 : Nat}, Pe w B (envOf "_law_spelled" (fScp 13) L 115 (.ref 114)) (K [(Str.ofString "word", .str word t), (Str.ofString "drawn", .ref D0), (Str.ofString "signs", .ref D), (Str.ofString "i", .int i2 ti2), (Str.ofString "y", .int y ty)] its) (.BinOp (.BinOp (.Name "y" p1) .FloorDiv (.Constant (.int 24) k1 p2) p3) .Mod (.Constant (.int 28) k2 p4) p5) (II r) := by
        intros
        rw [← hr]
        exact Pe.modI (stb _ _) (Pe.divI (stb _ _) (pY (by k_mem)) Pe.int (by decide) (PyProof.noPylong_small (by decide))) Pe.int (by decide)
      have fin : ∀ (its3 : Array Value) (cs3 : List Nat) (s10 : Shared), K [(Str.ofString "word", .str word t), (Str.ofString "drawn", .ref D0), (Str.ofString "signs", .ref D), (Str.ofString "i", .int i2 ti2), (Str.ofString "y", .int y ty)] its3 s10 → StrsAre its3.toList (cs3.map fun c => ⟨#[c]⟩) → foldW cs3 = (sg word).take i2 → (∀ c ∈ cs3, good c = true) → cs3.length ≤ 2 * i2 →
          ∃ m, m < word.length - i ∧ ∃ (i : Nat) (ti : Tok) (its : Array Value) (cs : List Nat), m = word.length - i ∧ i ≤ word.length ∧ K [(Str.ofString "word", .str word t), (Str.ofString "drawn", .ref D0), (Str.ofString "signs", .ref D), (Str.ofString "i", .int i ti)] its s10 ∧ StrsAre its.toList (cs.map fun c => ⟨#[c]⟩) ∧ foldW cs = (sg word).take i ∧ (∀ c ∈ cs, good c = true) ∧ cs.length ≤ 2 * i := fun its3 cs3 s10 x a b c d =>
        ⟨word.length - i2, by omega, i2, ti2, its3, cs3, rfl, h2, ⟨⟨x.1.1.sub (by walk_at "sub"), x.1.2.1, x.1.2.2⟩, x.2⟩, a, b, c, d⟩
      refine wpAny_execs_cons (wpAny_If (Pt.run K₉ (Pt.gtI (stb _ _) pR Pe.int) (fun s10 K10 _ => ?_) (stb _ _)))
      by_cases z : 0 < r
      · rw [if_pos (by simpa using z)]
        obtain ⟨k, hk⟩ : ∃ k : Nat, r - 1 = k := ⟨(r - 1).toNat, by omega⟩
        have hk27 : k < 27 := by omega
        have nf := List.all_eq_true.mp nothing_fold k (List.mem_range.mpr hk27)
        simp only [Bool.and_eq_true, beq_iff_eq] at nf
        refine wpAny_execs_cons (append_no (P1 := SS ⟨#[b1L.getD k 0]⟩) (stb _ _) K10 (Pe.loc (fun _ h => h.1.1) (by k_mem)) (Pe.def1 (stb _ _) (Pe.glob (fun _ h => h.1.1) Y (g_nothing _)) (fun _ h => at_nothing (h.1.1.says Y)) (by rfl) (Pe.subI (stb _ _) pR Pe.int) (fun a s' hs' ⟨u, ha⟩ => ?_)) (fun _ h => h.2) (by omega) (fun v s11 h' hv K11 k11 hsb hp => ?_))
        · subst ha
          rw [hk]
          exact nothing_ok (hs'.1.1.says Y) hB hk27
        · obtain ⟨tv, rfl⟩ := hv
          refine wpAny_execs_nil (wpAny_execs_nil (fin _ (cs2 ++ [b1L.getD k 0]) _ (app K11 hsb hp) ?_ ?_ ?_ ?_))
          · rw [Array.toList_push, List.map_append]; exact strs_snoc hst2
          · rw [foldW_snoc, nf.1, List.append_nil, hfo2]
          · intro c' hc'
            rcases List.mem_append.mp hc' with q | q
            · exact hgo2 c' q
            · rw [List.mem_singleton.mp q]; exact nf.2
          · rw [List.length_append]; simpa using hle2
      · rw [if_neg (by simpa using z)]
        exact wpAny_execs_nil (wpAny_execs_nil (fin _ cs2 _ K10 hst2 hfo2 hgo2 (by omega)))
    have tk1 : (sg word).take (i + 1) = (sg word).take i ++ [c] := (take_succ' hc).1
    refine wpAny_execs_cons (wpAny_If (Pt.run K₈ (Pt.and (b := (y.fmod 2 == 0)) (c := (Txt.slice word (some (i : Int)) (some ((i : Int) + 2)) == (⟨#[c]⟩ : Str) ++ ⟨#[c]⟩)) (stb _ _) (Pt.eqI (stb _ _) (Pe.modI (stb _ _) (pY (by k_mem)) Pe.int (by decide)) Pe.int)
      fun _ => Pt.eqS (stb _ _) (Pe.sliceS (stb _ _) (pW (by k_mem)) (pI (by k_mem)) (Pe.addI (stb _ _) (pI (by k_mem)) Pe.int) (by omega)) (Pe.mul2 (stb _ _) (pC (by k_mem) (by k_mem)) Pe.int rfl)) (fun s₉ K₉ _ => ?_) (stb _ _)))
    have sf := List.all_eq_true.mp sign_fold c hcf
    have pf := List.all_eq_true.mp pair_fold c hcf
    simp only [Bool.and_eq_true, beq_iff_eq] at pf
    by_cases z : ((y.fmod 2 == 0) && (Txt.slice word (some (i : Int)) (some ((i : Int) + 2)) == (⟨#[c]⟩ : Str) ++ ⟨#[c]⟩)) = true
    · rw [if_pos z]
      have z2 := eq_of_beq (Bool.and_eq_true_iff.mp z).2
      have z3 : ((sg word).drop i).take 2 = [c, c] := by
        have := slice_sg q 2
        rw [show ((2 : Nat) : Int) = 2 from rfl, z2] at this
        rw [← this]; rfl
      have i2 : i + 2 ≤ word.length := by
        have := congrArg List.length z3
        simp only [List.length_take, List.length_drop, nw, List.length_cons, List.length_nil] at this
        omega
      have tk2 : (sg word).take (i + 2) = (sg word).take i ++ [c, c] := by rw [List.take_add, z3]
      have pb : pairF c ≤ 64256 := by rcases fsk_cases hcf with rfl | rfl | rfl <;> decide
      refine wpAny_execs_cons (append_no (P1 := SS ⟨#[pairF c]⟩) (stb _ _) K₉ (Pe.loc (fun _ h => h.1.1) (by k_mem)) (Pe.chr1 (i := (pairF c : Int)) (stb _ _) (Pe.blt (fun _ h => h.1.1) Y (blt_chr _)) (Pe.pairD (stb _ _) hcf (pC (by k_mem) (by k_mem))) (by omega) (by omega)) (fun _ h => h.2) (by omega) (fun v s10 h' hv K10 k10 hsb hp => ?_))
      obtain ⟨tv, rfl⟩ := hv
      have K11 := app K10 hsb hp
      refine wpAny_execs_cons (Cx.augI (t := ti) (l' := fun tk' => [(Str.ofString "word", .str word t), (Str.ofString "drawn", .ref D0), (Str.ofString "signs", .ref D), (Str.ofString "i", .int ((i : Int) + 2) tk'), (Str.ofString "y", .int y ty)]) K11.1 (by k_mem) Pe.int (by intro tk'; walk_at "put") (fun s12 tk12 C12 kk12 => ?_))
      refine wpAny_execs_nil (wpAny_mono (tail (i + 2) tk12 _ (cs ++ [pairF c]) s12 (by omega) i2 ⟨C12, K11.2.at fun o e => kk12 D o DL e⟩ ?_ ?_ ?_ ?_) (fun f s' h => by cases f <;> first | exact h | exact h.elim) fun _ _ x => x)
      · rw [Array.toList_push, List.map_append]; exact strs_snoc hst
      · rw [foldW_snoc, pf.1, hfo, tk2]
      · intro c' hc'
        rcases List.mem_append.mp hc' with q | q
        · exact hgo c' q
        · rw [List.mem_singleton.mp q]; exact pf.2
      · rw [List.length_append, List.length_singleton]; omega
    · rw [if_neg z]
      obtain ⟨f, hf⟩ : ∃ f : Nat, (y.fdiv 2).fmod 12 = f := ⟨((y.fdiv 2).fmod 12).toNat, by have := Int.fmod_nonneg_of_pos (y.fdiv 2) (show (0:Int) < 12 by decide); omega⟩
      have f12 : f < 12 := by have := Int.fmod_lt_of_pos (y.fdiv 2) (show (0:Int) < 12 by decide); omega
      have sf' := List.all_eq_true.mp sf f (List.mem_range.mpr f12)
      simp only [Bool.and_eq_true, beq_iff_eq] at sf'
      refine wpAny_execs_cons (append_no (P1 := SS ⟨#[signF c f]⟩) (stb _ _) K₉ (Pe.loc (fun _ h => h.1.1) (by k_mem)) (Pe.def2 (P1 := SS ⟨#[c]⟩) (P2 := II ((y.fdiv 2).fmod 12)) (stb _ _) SS.stb (Pe.glob (fun _ h => h.1.1) Y (g_sign _)) (fun _ h => at_sign (h.1.1.says Y)) (by rfl) (pC (by k_mem) (by k_mem)) (Pe.modI (stb _ _) (Pe.divI (stb _ _) (pY (by k_mem)) Pe.int (by decide) (PyProof.noPylong_small (by decide))) Pe.int (by decide)) (fun a b s' hs' ⟨u, ha⟩ ⟨u', hb⟩ => ?_)) (fun _ h => h.2) (by omega) (fun v s10 h' hv K10 k10 hsb hp => ?_))
      · subst ha hb
        rw [hf]
        exact sign_ok (hs'.1.1.says Y) hB hcf f12
      obtain ⟨tv, rfl⟩ := hv
      have K11 := app K10 hsb hp
      refine wpAny_execs_cons (Cx.augI (t := ti) (l' := fun tk' => [(Str.ofString "word", .str word t), (Str.ofString "drawn", .ref D0), (Str.ofString "signs", .ref D), (Str.ofString "i", .int ((i : Int) + 1) tk'), (Str.ofString "y", .int y ty)]) K11.1 (by k_mem) Pe.int (by intro tk'; walk_at "put") (fun s12 tk12 C12 kk12 => ?_))
      refine wpAny_execs_nil (wpAny_mono (tail (i + 1) tk12 _ (cs ++ [signF c f]) s12 (by omega) (by omega) ⟨C12, K11.2.at fun o e => kk12 D o DL e⟩ ?_ ?_ ?_ ?_) (fun f s' h => by cases f <;> first | exact h | exact h.elim) fun _ _ x => x)
      · rw [Array.toList_push, List.map_append]; exact strs_snoc hst
      · rw [foldW_snoc, sf'.1, hfo, tk1]
      · intro c' hc'
        rcases List.mem_append.mp hc' with q | q
        · exact hgo c' q
        · rw [List.mem_singleton.mp q]; exact sf'.2
      · rw [List.length_append, List.length_singleton]; omega
  · rw [if_neg (by simpa using q)]
    have ei : i = word.length := by omega
    subst ei
    have sl : ((cs.map fun c => (⟨#[c]⟩ : Str)).map (·.length)).sum ≤ cs.length := by
      have := sum_const (f := fun x : Str => x.length) (k := 1) (cs.map fun c => (⟨#[c]⟩ : Str)) (by
        intro x hx
        obtain ⟨y, hy, rfl⟩ := List.mem_map.mp hx
        show 1 ≤ 1; decide)
      rw [List.length_map] at this; omega
    refine wpAny_execs_cons (wpAny_Return_some (Pe.run K₆ (Pe.join (ys := cs.map fun c => ⟨#[c]⟩) (Pe.monoC (Pe.loc (fun _ h => h.1.1) (by k_mem)) (stb _ _) fun v s' c e => ⟨D, its, e, c.2.isList, hst⟩) (stb _ _) (by show _ + _ * 0 ≤ _; omega)) (fun v s₇ hv K₇ _ => ?_) (stb _ _)))
    obtain ⟨tv, rfl⟩ := hv
    have es : sg (Txt.join (Str.ofString "") (cs.map fun c => ⟨#[c]⟩)) = cs := by
      rw [sg_join, List.map_map]
      clear hst hfo hgo hle sl K₇
      induction cs with
      | nil => rfl
      | cons a r ih => rw [List.map_cons, List.flatten_cons, ih]; rfl
    refine ⟨⟨_, tv, rfl, ?_, ?_, ?_⟩, K₇.1.1.keeps⟩
    · rw [es]; exact hgo
    · rw [es, hfo, List.take_of_length_le (by omega)]
    · rw [← sg_length, es]; omega
end
end Mine
end
section
-- part W18
open PySem PySem.W PyProof.Rows
set_option maxRecDepth 100000
set_option maxHeartbeats 0
set_option linter.all false
namespace Mine
theorem slot_si_next : Slot "set_iterator" "__next__" "set_iterator.__next__" :=
  .of (owner := "set_iterator") (n := "__next__") (by rw [typeLookup_type, builtinLookup_eq_fast]; kernel_rfl) (by decide +kernel) (by decide +kernel) (by decide +kernel)
    (by first | exact .inl (by decide +kernel) | exact .inr (by decide +kernel)) (by rw [isSubtype_type]; kernel_rfl)
theorem entry_si_next : entryFor table "set_iterator.__next__" = some Builtin.«set_iterator.__next__» := entryFor_of_tree (by kernel_rfl)
theorem owner_si : Manifest.owners.lookup (String.ofList ['r', 'o', 't', 'a', 'r', 'e', 't', 'i', '_', 't', 'e', 's'].reverse) = some Manifest.sig_set_iterator := by kernel_rfl
theorem args_si_next (a : Value) : argsOk "set_iterator.__next__" ⟨[a], []⟩ := by
  unfold argsOk; rw [signature?_of (id := "set_iterator.__next__") (n := ['_', '_', 't', 'x', 'e', 'n', '_', '_']) (o := ['r', 'o', 't', 'a', 'r', 'e', 't', 'i', '_', 't', 'e', 's']) (by kernel_rfl) owner_si]; kernel_rfl
theorem slot_si_iter : Slot "set_iterator" "__iter__" "set_iterator.__iter__" :=
  .of (owner := "set_iterator") (n := "__iter__") (by rw [typeLookup_type, builtinLookup_eq_fast]; kernel_rfl) (by decide +kernel) (by decide +kernel) (by decide +kernel)
    (by first | exact .inl (by decide +kernel) | exact .inr (by decide +kernel)) (by rw [isSubtype_type]; kernel_rfl)
theorem entry_si_iter : entryFor table "set_iterator.__iter__" = some Builtin.«dict_keyiterator.__iter__» :=
  entryFor_alias (id' := "dict_keyiterator.__iter__") (by kernel_rfl) rfl (by decide +kernel) (by kernel_rfl)
theorem args_si_iter (a : Value) : argsOk "set_iterator.__iter__" ⟨[a], []⟩ := by
  unfold argsOk; rw [signature?_of (id := "set_iterator.__iter__") (n := ['_', '_', 'r', 'e', 't', 'i', '_', '_']) (o := ['r', 'o', 't', 'a', 'r', 'e', 't', 'i', '_', 't', 'e', 's']) (by kernel_rfl) owner_si]; kernel_rfl
theorem entry_set_iter' : entryFor table "set.__iter__" = some Builtin.«frozenset.__iter__» :=
  entryFor_alias (id' := "frozenset.__iter__") (by kernel_rfl) rfl (by decide +kernel) (by kernel_rfl)
theorem perm_erase {α : Type} : ∀ {l : List α} {i : Nat} (h : i < l.length), (l[i] :: l.eraseIdx i).Perm l
  | a :: l, 0, _ => .refl _
  | a :: l, i + 1, h => by
    have := perm_erase (l := l) (i := i) (by simpa using h)
    simp only [List.getElem_cons_succ, List.eraseIdx_cons_succ]
    exact (List.Perm.swap a _ _).trans (this.cons a)
/-- an order drawn by a function is a turned list -/
theorem pick_perm {α : Type} (next : Nat → Nat) : ∀ (fuel k : Nat) (left : List α) (out : Array α), fuel = left.length → (pickOrder.go next fuel k left out).toList.Perm (out.toList ++ left)
  | 0, k, left, out, e => by
    have : left = [] := List.length_eq_zero_iff.mp e.symm
    subst this
    simp [pickOrder.go]
  | fuel + 1, k, left, out, e => by
    have lt : next k % left.length < left.length := Nat.mod_lt _ (by omega)
    unfold pickOrder.go
    rw [List.getElem?_eq_getElem lt]
    refine (pick_perm next fuel (k + 1) _ _ (by rw [List.length_eraseIdx, if_pos lt]; omega)).trans ?_
    rw [Array.toList_push, List.append_assoc]
    exact (perm_erase lt).append_left _
theorem pick_ok {α : Type} (next : Nat → Nat) (xs : Array α) : (pickOrder next xs).toList.Perm xs.toList := by
  have := pick_perm next xs.size 0 xs.toList #[] (by simp)
  simpa [pickOrder] using this
section
variable {w : World} {A : Around} {E : Value → Shared → Prop} {s : Shared}
theorem choose_ok {src : Source} {n : Nat} {Q : Nat → Shared → Prop} (hn : n ≠ 0) (h : ∀ i d, i < n → Q i { s with drawn := d }) : wpAny (M w) A (choose src n) Q E s := fun Γ p _ => by
  unfold choose; rw [Sem.wp_choose]; exact ⟨hn, by rw [Sem.wp_pure]; exact h _ _ (Nat.mod_lt _ (Nat.pos_of_ne_zero hn))⟩
theorem draw_ok {α : Type} : ∀ (n : Nat) (xs : List α) {s : Shared} {Q : List α → Shared → Prop}, n = xs.length → (∀ ys d, ys.Perm xs → Q ys { s with drawn := d }) → wpAny (M w) A (drawOrder n xs) Q E s
  | 0, xs, s, Q, e, h => by
    have : xs = [] := List.length_eq_zero_iff.mp e.symm
    subst this
    unfold drawOrder
    exact wpAny_pure (h [] s.drawn .nil)
  | n + 1, [], s, Q, e, h => by simp at e
  | n + 1, x :: xs, s, Q, e, h => by
    unfold drawOrder
    refine wpAny_bind (choose_ok (by simp) fun i d lt => ?_)
    rw [List.getElem?_eq_getElem lt]
    refine wpAny_bind (draw_ok n _ (by rw [List.length_eraseIdx, if_pos lt]; simp at e ⊢; omega) fun ys d' p => wpAny_pure (h _ d' ?_))
    exact (p.cons _).trans (perm_erase lt)
end
/-- a set's inside -/
def SetE (h : Heap) (a : Addr) (es : Array (Int × Value)) (ep : Nat) (t : SetTable) : Prop := ∃ o, h.get? a = some o ∧ o.ExactSet ∧ o.data = .set es ep t ∧ t.fits es.size = true
theorem SetE.at {h h' : Heap} {a : Addr} {es : Array (Int × Value)} {ep : Nat} {t : SetTable} (x : SetE h a es ep t) (e : ∀ o, h.get? a = some o → h'.get? a = some o) : SetE h' a es ep t := let ⟨o, ho, r⟩ := x; ⟨o, e _ ho, r⟩
theorem SetE.typeIs {s : Shared} {a : Addr} {es : Array (Int × Value)} {ep : Nat} {t : SetTable} (x : SetE s.heap a es ep t) : s.TypeIs (.ref a) "set" := let ⟨o, ho, e, _⟩ := x; ⟨o, ho, e.1⟩
theorem SetE.lt {h : Heap} {a : Addr} {es : Array (Int × Value)} {ep : Nat} {t : SetTable} (x : SetE h a es ep t) : a < h.objs.size := let ⟨o, ho, _⟩ := x; Heap.lt_size ho
def SiAt (h : Heap) (I : Addr) (first : Value) (i a n ep : Nat) : Prop := ∃ o, h.get? I = some o ∧ o.cls = .type "set_iterator" ∧ o.data = .fields #[first, .int i 0, .ref a, .int n 0, .int ep 0]
theorem SiAt.at {h h' : Heap} {I : Addr} {first : Value} {i a n ep : Nat} (x : SiAt h I first i a n ep) (e : ∀ o, h.get? I = some o → h'.get? I = some o) : SiAt h' I first i a n ep := let ⟨o, ho, r⟩ := x; ⟨o, e _ ho, r⟩
theorem SiAt.typeIs {s : Shared} {I : Addr} {first : Value} {i a n ep : Nat} (x : SiAt s.heap I first i a n ep) : s.TypeIs (.ref I) "set_iterator" := let ⟨o, ho, e, _⟩ := x; ⟨o, ho, e⟩
section
variable {w : World} {A : Around} {E : Value → Shared → Prop} {s : Shared} {a I : Addr} {es : Array (Int × Value)} {ep : Nat} {t : SetTable}
theorem byText_ok {Q : Bool → Shared → Prop} (h : Q (w.params.followText "set-order") s) : wpAny (M w) A setsByText Q E s := by
  unfold setsByText
  exact wpAny_bind (wpAny_askSetting (wpAny_pure h))
theorem setState_ok (x : SetE s.heap a es ep t) {Q : (Array (Int × Value) × Nat × SetTable) → Shared → Prop} (h : Q (es, ep, t) s) : wpAny (M w) A (setState a) Q E s :=
  let ⟨_, ho, _, hd, hf⟩ := x; wpAny_setState_of ho hd hf h
/-- the start of a walk over a set -/
theorem setIter_ok (x : SetE s.heap a es ep t) (hp : t.plain = false) (hn : 1 < es.size) (hz : es.size < scanBound) {Q : Value → Shared → Prop}
    (hb : w.params.followText "set-order" = true → Q (.ref s.heap.objs.size) { s with heap := s.heap.push { cls := .type "set_iterator", data := .fields #[.int 0 0, .int 0 0, .ref a, .int es.size 0, .int ep 0] } })
    (hd : w.params.followText "set-order" = false → ∀ (pl : List Nat) d, pl.Perm (List.range es.size) → Q (.ref (s.heap.objs.size + 1)) { s with heap := (s.heap.push { cls := .type "tuple", data := .seq (pl.map fun (i : Nat) => rawInt i).toArray }).push { cls := .type "set_iterator", data := .fields #[.ref s.heap.objs.size, .int 0 0, .ref a, .int es.size 0, .int ep 0] }, drawn := d }) :
    wpAny (M w) A (pyIter (.ref a)) Q E s := by
  refine wpAny_pyIter_slot x.typeIs PySem.F.slot_set_iter (wpAny_call_entry PySem.F.slot_set_iter x.typeIs entry_set_iter' ?_ (PySem.F.args_set_iter_1 _))
  unfold Builtin.«frozenset.__iter__»
  refine wpAny_bind ?_
  unfold Builtin.Frozenset.slot0
  refine wpAny_bind (wpAny_pure ?_)
  refine wpAny_pure ?_
  refine wpAny_bind ?_
  unfold Builtin.Frozenset.sizeOf
  refine wpAny_bind ?_
  unfold setEntries
  refine wpAny_bind (setState_ok x (wpAny_pure ?_))
  refine wpAny_pure ?_
  refine wpAny_bind ?_
  refine wpAny_bind (setState_ok x ?_)
  dsimp only
  refine wpAny_bind (byText_ok ?_)
  have dr : (!t.plain && decide (es.size > 1)) = true := by rw [hp]; simpa using hn
  have epo : ∀ {s' : Shared} {Q' : Nat → Shared → Prop}, SetE s'.heap a es ep t → Q' ep s' → wpAny (M w) A.in1 (setEpoch a) Q' E s' := fun y q => by
    unfold setEpoch
    exact wpAny_bind (setState_ok y (wpAny_pure q))
  cases hT : w.params.followText "set-order" with
  | true =>
    refine wpAny_pure ?_
    rw [if_neg (by simp)]
    refine wpAny_bind (wpAny_pure (wpAny_bind (epo x ?_)))
    refine wpAny_bind (wpAny_newObj_type ?_)
    exact wpAny_pure ⟨_, rfl, "set_iterator", _, ⟨_, Heap.get?_push_size _ rfl, rfl⟩, slot_si_next.lookup, hb hT⟩
  | false =>
    refine wpAny_pure ?_
    rw [if_pos (by exact dr)]
    refine wpAny_bind (draw_ok _ _ (by simp) fun pl d pp => ?_)
    refine wpAny_bind (wpAny_newTuple ?_ ?_)
    · refine wpAny_bind (epo (x.at fun o e => Heap.get?_push_of_some _ e) ?_)
      refine wpAny_bind (wpAny_newObj_type ?_)
      refine wpAny_pure ⟨_, rfl, "set_iterator", _, ⟨_, Heap.get?_push_size _ rfl, rfl⟩, slot_si_next.lookup, ?_⟩
      have := hd hT pl d pp
      rw [Heap.size_push]
      exact this
    · have e1 := pp.length_eq
      have e2 := fits_of_scanBound hz
      rw [List.length_map, e1, List.length_range]; exact e2
theorem setField_si {x : Value} {k : Nat} {vs : Array Value} (o : Obj) (ho : s.heap.get? I = some o) (hc : o.cls = .type "set_iterator") (hd : o.data = .fields vs) (hk : k < vs.size) {Q : Unit → Shared → Prop}
    (h : ∀ h' o', h'.get? I = some o' → o'.cls = .type "set_iterator" → o'.data = .fields (vs.setIfInBounds k x) → Heap.SameBut I s.heap h' → Q () { s with heap := h' }) : wpAny (M w) A (setField (.ref I) k x) Q E s := by
  refine wpAny_setField ho hd (by simpa using hk) ?_
  exact h _ _ (Heap.get?_update_self _ ho (Obj.isFreed_of_fields (Obj.data_mapFields hd _))) ((Obj.cls_mapFields ..).trans hc) (by rw [Obj.data_mapFields hd]) (Heap.SameBut.update ..)
theorem stop_ok {Q : Option Value → Shared → Prop} (hh : A.handled = none) (h : ∀ h', Ex s.heap h' → Q none { s with heap := h' }) :
    wpAny (M w) A.in1 (newExc (.type "StopIteration") [] >>= raiseNew) (fun fin s' =>
      ∃ v, fin = Fin.done (Flow.ret v) ∧ wpAny (M w) A (match (Except.ok (some v) : Except Value (Option Value)) with
            | Except.ok (some v) => pure (some v)
            | Except.ok none => unsupported "iter:the-iterator's-class-has-lost-its-__next__-amid-the-walk"
            | Except.error e => do
              let __do_lift ← isInstance e (Value.type "StopIteration")
              if __do_lift = true then pure none else throw e) Q E s')
      (fun e s' => wpAny (M w) A (match (Except.error e : Except Value (Option Value)) with
        | Except.ok (some v) => pure (some v)
        | Except.ok none => unsupported "iter:the-iterator's-class-has-lost-its-__next__-amid-the-walk"
        | Except.error e => do
          let __do_lift ← isInstance e (Value.type "StopIteration")
          if __do_lift = true then pure none else throw e) Q E s') s := by
  refine wpAny_bind ?_
  simp only [newExc, newTuple]
  refine wpAny_bind (wpAny_newObj_type ?_ (by size_fits))
  refine wpAny_bind (m := firstArgMember _ _) (wpAny_of_eq (a := Value.none) (by first | rfl | (simp only [firstArgMember]; rfl)) ?_)
  refine wpAny_newObj_type ?_ (by size_fits)
  simp only [raiseNew]
  refine wpAny_bind (wpAny_handled ?_)
  rw [show A.in1.handled = none from hh]
  refine wpAny_bind (wpAny_pure (wpAny_throw ?_))
  refine wpAny_bind (wpAny_isInstance (T := "StopIteration") (b := true) ⟨_, Heap.get?_push_size _ rfl, rfl⟩ isSubtype_stop ?_)
  exact wpAny_pure (h _ fun b o e => Heap.get?_push_of_some _ (Heap.get?_push_of_some _ e))
/-- a turn, where the world tells the order -/
theorem siNext_text {i : Nat} {hx : Int} {v : Value} (hT : w.params.followText "set-order" = true) (x : SetE s.heap a es ep t) (si : SiAt s.heap I (.int 0 0) i a es.size ep) (hi : (pickOrder (w.params.setOrder a ep) es)[i]? = some (hx, v)) {Q : Option Value → Shared → Prop}
    (h : ∀ h', SiAt h' I (.int 0 0) (i + 1) a es.size ep → Heap.SameBut I s.heap h' → Q (some v) { s with heap := h' }) : wpAny (M w) A (pyNext (.ref I)) Q E s := by
  obtain ⟨o, ho, hc, hd⟩ := id si
  unfold pyNext
  refine wpAny_bind (wpAny_attempt (wpAny_callSpecial?_slot (name := Str.ofString "__next__") si.typeIs slot_si_next
    (wpAny_call_entry slot_si_next si.typeIs entry_si_next ?_ (args_si_next _))))
  unfold Builtin.«set_iterator.__next__»
  refine wpAny_bind (wpAny_pure ?_)
  refine wpAny_bind (wpAny_fieldsOf ho hd ?_)
  show wpAny _ _ (setEntries a >>= _) _ _ s
  unfold setEntries
  refine wpAny_bind (wpAny_bind (setState_ok x (wpAny_pure ?_)))
  dsimp only
  rw [if_neg (by simp)]
  unfold setNext
  refine wpAny_bind (wpAny_bind (setState_ok x ?_))
  dsimp only
  refine wpAny_bind (byText_ok ?_)
  rw [hT, if_pos rfl, if_neg (by simp)]
  unfold setWalk
  refine wpAny_bind (wpAny_bind (setState_ok x ?_))
  dsimp only
  refine wpAny_bind (byText_ok ?_)
  rw [hT, if_pos rfl]
  refine wpAny_bind (wpAny_askSetting (wpAny_pure (wpAny_pure ?_)))
  show wpAny _ _ (match ((pickOrder (w.params.setOrder a ep) es)[i]?).map fun e => (e.2, (0 : Nat)) with | some (x, next) => _ | none => _) _ _ _
  rw [hi]
  show wpAny _ _ (setField (.ref I) 0 (rawInt 0) >>= fun _ => setField (.ref I) 1 (rawInt ((i : Int) + 1)) >>= fun _ => ret v) _ _ s
  refine wpAny_bind (setField_si o ho hc hd (by simp) fun h₁ o₁ ho₁ hc₁ hd₁ sb₁ => ?_)
  refine wpAny_bind (setField_si o₁ ho₁ hc₁ hd₁ (by simp) fun h₂ o₂ ho₂ hc₂ hd₂ sb₂ => ?_)
  exact wpAny_pure ⟨_, rfl, wpAny_pure (h h₂ ⟨o₂, ho₂, hc₂, by rw [hd₂]; rfl⟩ (sb₁.trans sb₂))⟩
/-- the end of a walk, where the world tells the order -/
theorem siEnd_text (hh : A.handled = none) (hT : w.params.followText "set-order" = true) (x : SetE s.heap a es ep t) (si : SiAt s.heap I (.int 0 0) es.size a es.size ep) {Q : Option Value → Shared → Prop}
    (h : ∀ h', Heap.ExtBut I s.heap h' → Q none { s with heap := h' }) : wpAny (M w) A (pyNext (.ref I)) Q E s := by
  obtain ⟨o, ho, hc, hd⟩ := id si
  unfold pyNext
  refine wpAny_bind (wpAny_attempt (wpAny_callSpecial?_slot (name := Str.ofString "__next__") si.typeIs slot_si_next
    (wpAny_call_entry slot_si_next si.typeIs entry_si_next ?_ (args_si_next _))))
  unfold Builtin.«set_iterator.__next__»
  refine wpAny_bind (wpAny_pure ?_)
  refine wpAny_bind (wpAny_fieldsOf ho hd ?_)
  show wpAny _ _ (setEntries a >>= _) _ _ s
  unfold setEntries
  refine wpAny_bind (wpAny_bind (setState_ok x (wpAny_pure ?_)))
  dsimp only
  rw [if_neg (by simp)]
  unfold setNext
  refine wpAny_bind (wpAny_bind (setState_ok x ?_))
  dsimp only
  refine wpAny_bind (byText_ok ?_)
  rw [hT, if_pos rfl, if_neg (by simp)]
  unfold setWalk
  refine wpAny_bind (wpAny_bind (setState_ok x ?_))
  dsimp only
  refine wpAny_bind (byText_ok ?_)
  rw [hT, if_pos rfl]
  refine wpAny_bind (wpAny_askSetting (wpAny_pure (wpAny_pure ?_)))
  show wpAny _ _ (match ((pickOrder (w.params.setOrder a ep) es)[es.size]?).map fun e => (e.2, (0 : Nat)) with | some (x, next) => _ | none => _) _ _ _
  rw [Array.getElem?_eq_none (by have := (pick_ok (w.params.setOrder a ep) es).length_eq; simp at this; omega)]
  show wpAny _ _ (setField (.ref I) 2 .none >>= fun _ => newExc (.type "StopIteration") [] >>= raiseNew) _ _ s
  refine wpAny_bind (setField_si o ho hc hd (by simp) fun h₁ o₁ ho₁ hc₁ hd₁ sb₁ => ?_)
  exact stop_ok hh fun h' k => h h' (fun b o ne e => k b o ((sb₁.2 b ne).trans e))
/-- a turn, where the order was drawn -/
theorem siNext_drawn {i j : Nat} {tp : Addr} {pl : List Nat} {hx : Int} {v : Value} (x : SetE s.heap a es ep t) (si : SiAt s.heap I (.ref tp) i a es.size ep) (tu : IsTup s.heap tp (pl.map fun (i : Nat) => rawInt i).toArray) (hj : pl[i]? = some j) (hi : es[j]? = some (hx, v)) {Q : Option Value → Shared → Prop}
    (h : ∀ h', SiAt h' I (.ref tp) (i + 1) a es.size ep → Heap.SameBut I s.heap h' → Q (some v) { s with heap := h' }) : wpAny (M w) A (pyNext (.ref I)) Q E s := by
  obtain ⟨o, ho, hc, hd⟩ := id si
  unfold pyNext
  refine wpAny_bind (wpAny_attempt (wpAny_callSpecial?_slot (name := Str.ofString "__next__") si.typeIs slot_si_next
    (wpAny_call_entry slot_si_next si.typeIs entry_si_next ?_ (args_si_next _))))
  unfold Builtin.«set_iterator.__next__»
  refine wpAny_bind (wpAny_pure ?_)
  refine wpAny_bind (wpAny_fieldsOf ho hd ?_)
  show wpAny _ _ (setEntries a >>= _) _ _ s
  unfold setEntries
  refine wpAny_bind (wpAny_bind (setState_ok x (wpAny_pure ?_)))
  dsimp only
  rw [if_neg (by simp)]
  obtain ⟨ot, hot, hct, nt, hdt⟩ := tu
  refine wpAny_bind (wpAny_seqItems hot hdt ?_)
  dsimp only
  rw [show (((pl.map fun (i : Nat) => rawInt i).toArray)[((i : Int)).toNat]?) = some (.int j 0) by simp [hj, rawInt]]
  dsimp only
  unfold setNextDrawn
  refine wpAny_bind (wpAny_bind (setState_ok x ?_))
  dsimp only
  rw [if_neg (by simp), Int.toNat_natCast, hi]
  refine wpAny_bind (wpAny_pure (wpAny_pure ?_))
  show wpAny _ _ (setField (.ref I) 1 (rawInt ((i : Int) + 1)) >>= fun _ => ret v) _ _ s
  refine wpAny_bind (setField_si o ho hc hd (by simp) fun h₂ o₂ ho₂ hc₂ hd₂ sb₂ => ?_)
  exact wpAny_pure ⟨_, rfl, wpAny_pure (h h₂ ⟨o₂, ho₂, hc₂, by rw [hd₂]; rfl⟩ sb₂)⟩
theorem siEnd_drawn (hh : A.handled = none) {tp : Addr} {pl : List Nat} (hl : pl.length = es.size) (x : SetE s.heap a es ep t) (si : SiAt s.heap I (.ref tp) es.size a es.size ep) (tu : IsTup s.heap tp (pl.map fun (i : Nat) => rawInt i).toArray) {Q : Option Value → Shared → Prop}
    (h : ∀ h', Heap.ExtBut I s.heap h' → Q none { s with heap := h' }) : wpAny (M w) A (pyNext (.ref I)) Q E s := by
  obtain ⟨o, ho, hc, hd⟩ := id si
  unfold pyNext
  refine wpAny_bind (wpAny_attempt (wpAny_callSpecial?_slot (name := Str.ofString "__next__") si.typeIs slot_si_next
    (wpAny_call_entry slot_si_next si.typeIs entry_si_next ?_ (args_si_next _))))
  unfold Builtin.«set_iterator.__next__»
  refine wpAny_bind (wpAny_pure ?_)
  refine wpAny_bind (wpAny_fieldsOf ho hd ?_)
  show wpAny _ _ (setEntries a >>= _) _ _ s
  unfold setEntries
  refine wpAny_bind (wpAny_bind (setState_ok x (wpAny_pure ?_)))
  dsimp only
  rw [if_neg (by simp)]
  obtain ⟨ot, hot, hct, nt, hdt⟩ := tu
  refine wpAny_bind (wpAny_seqItems hot hdt ?_)
  dsimp only
  rw [Array.getElem?_eq_none (by simp [hl])]
  dsimp only
  show wpAny _ _ (setField (.ref I) 0 (rawInt 0) >>= fun _ => setField (.ref I) 2 .none >>= fun _ => newExc (.type "StopIteration") [] >>= raiseNew) _ _ s
  refine wpAny_bind (setField_si o ho hc hd (by simp) fun h₁ o₁ ho₁ hc₁ hd₁ sb₁ => ?_)
  refine wpAny_bind (setField_si o₁ ho₁ hc₁ hd₁ (by simp) fun h₂ o₂ ho₂ hc₂ hd₂ sb₂ => ?_)
  exact stop_ok hh fun h' k => h h' (fun b o ne e => k b o ((sb₂.2 b ne).trans ((sb₁.2 b ne).trans e)))
end
end Mine
end
section
-- part W19
open PySem PySem.W PyProof.Rows
set_option maxRecDepth 100000
set_option maxHeartbeats 0
set_option linter.all false
namespace Mine
section
variable {w : World} {A : Around} {E : Value → Shared → Prop} {s : Shared} {a I : Addr} {es : Array (Int × Value)} {ep : Nat} {t : SetTable}
theorem siIter_ok {first : Value} {i n : Nat} (si : SiAt s.heap I first i a n ep) {Q : Value → Shared → Prop} (h : Q (.ref I) s) : wpAny (M w) A (pyIter (.ref I)) Q E s := by
  refine wpAny_pyIter_slot si.typeIs slot_si_iter (wpAny_call_entry slot_si_iter si.typeIs entry_si_iter ?_ (args_si_iter _))
  show wpAny _ _ (ret (.ref I)) _ _ s
  exact wpAny_pure ⟨_, rfl, "set_iterator", _, si.typeIs, slot_si_next.lookup, h⟩
theorem walks_text (hh : A.handled = none) (hT : w.params.followText "set-order" = true) (hne : a ≠ I) :
    Walks pw w A I [I, a] [I] es.size (fun i v => ∃ hx, (pickOrder (w.params.setOrder a ep) es)[i]? = some (hx, v)) (fun i h => SiAt h I (.int 0 0) i a es.size ep ∧ SetE h a es ep t) where
  sub := fun b hb => by simp at hb; simp [hb]
  frame := fun _ _ _ st hk => ⟨st.1.at fun o e => hk I (by simp) o e, st.2.at fun o e => hk a (by simp) o e⟩
  item := fun i s Q E hi st hQ => by
    have sz : (pickOrder (w.params.setOrder a ep) es).size = es.size := by have := (pick_ok (w.params.setOrder a ep) es).length_eq; simpa using this
    obtain ⟨⟨hx, v⟩, e⟩ : ∃ p, (pickOrder (w.params.setOrder a ep) es)[i]? = some p := ⟨_, Array.getElem?_eq_getElem (by omega)⟩
    refine siNext_text hT st.2 st.1 e fun h' si' sb => ?_
    exact hQ v h' s.toks ⟨hx, e⟩ ⟨si', st.2.at fun o e => (sb.2 a hne).trans e⟩ fun b o hb e => (sb.2 b (fun h => hb (by simp [h]))).trans e
  done := fun s Q E st hQ => siEnd_text hh hT st.2 st.1 fun h' k => hQ h' s.toks fun b o hb e => k b o (fun h => hb (by simp [h])) e
  self := fun _ _ _ _ st hQ => siIter_ok st.1 hQ
theorem isTup_at {h h' : Heap} {tp : Addr} {items : Array Value} (x : IsTup h tp items) (e : ∀ o, h.get? tp = some o → h'.get? tp = some o) : IsTup h' tp items := let ⟨o, ho, r⟩ := x; ⟨o, e _ ho, r⟩
theorem walks_drawn (hh : A.handled = none) {tp : Addr} {pl : List Nat} (hpl : pl.Perm (List.range es.size)) (hne : a ≠ I) (hnt : tp ≠ I) :
    Walks pw w A I [I, a, tp] [I] es.size (fun i v => ∃ j hx, pl[i]? = some j ∧ es[j]? = some (hx, v)) (fun i h => SiAt h I (.ref tp) i a es.size ep ∧ SetE h a es ep t ∧ IsTup h tp (pl.map fun (i : Nat) => rawInt i).toArray) where
  sub := fun b hb => by simp at hb; simp [hb]
  frame := fun _ _ _ st hk => ⟨st.1.at fun o e => hk I (by simp) o e, st.2.1.at fun o e => hk a (by simp) o e, isTup_at st.2.2 fun o e => hk tp (by simp) o e⟩
  item := fun i s Q E hi st hQ => by
    have ln : pl.length = es.size := by have := hpl.length_eq; simpa using this
    have ej : pl[i]? = some pl[i] := List.getElem?_eq_getElem (by omega)
    have lt : pl[i] < es.size := List.mem_range.mp (hpl.mem_iff.mp (List.getElem_mem _))
    generalize pl[i] = j at ej lt
    obtain ⟨⟨hx, v⟩, e⟩ : ∃ p, es[j]? = some p := ⟨_, Array.getElem?_eq_getElem lt⟩
    refine siNext_drawn st.2.1 st.1 st.2.2 ej e fun h' si' sb => ?_
    exact hQ v h' s.toks ⟨j, hx, ej, e⟩ ⟨si', st.2.1.at fun o e => (sb.2 a hne).trans e, isTup_at st.2.2 fun o e => (sb.2 tp hnt).trans e⟩ fun b o hb e => (sb.2 b (fun h => hb (by simp [h]))).trans e
  done := fun s Q E st hQ => siEnd_drawn hh (by have := hpl.length_eq; simpa using this) st.2.1 st.1 st.2.2 fun h' k => hQ h' s.toks fun b o hb e => k b o (fun h => hb (by simp [h])) e
  self := fun _ _ _ _ st hQ => siIter_ok st.1 hQ
theorem set_hint {r : Addr} {Q : Bool → Shared → Prop} (hT : s.TypeIs (.ref r) "set") (h : Q false s) : wpAny (M w) A (Builtin.List.listLengthHint (.ref r)) Q E s := by
  unfold Builtin.List.listLengthHint
  refine wpAny_bind (wpAny_specialOf hT PySem.F.slot_set_len.lookup ?_)
  generalize hid : ("set.__len__" : String) = id0
  wp_delta
  rw [show splitId id0 = some ("set", "__len__") from by subst hid; decide +kernel]
  subst hid
  refine wpAny_bind (wpAny_isInstance (T := "set") (b := true) hT (by rw [isSubtype_type]; kernel_rfl) ?_)
  refine wpAny_ite_split (fun hab => absurd hab (by decide)) (fun _ => ?_)
  refine wpAny_ite_split (fun _ => ?_) (fun hab => absurd (by decide +kernel) hab)
  refine wpAny_bind (wpAny_typeOf hT ?_)
  exact wpAny_pure h
/-- a list that a set's walk fills -/
theorem extend_set {R : Result → Shared → Prop} (x : SetE s.heap a es ep t) (hp : t.plain = false) (hn : 1 < es.size) (hz : es.size < scanBound) (hh : A.handled = none) (S : Addr) (hSa : S ≠ a) (res : Value) (c₀ : Nat) (hS : s.heap.get? S = some { cls := .type "list", data := .seq #[] c₀ })
    (hR : ∀ h' tk d acc' c', (∀ b o, b ≠ S → s.heap.get? b = some o → h'.get? b = some o) → h'.get? S = some { cls := .type "list", dict := none, data := .seq acc' c', slots := #[] } → acc'.toList.Perm (es.toList.map (·.2)) → R (.ok (.ret res)) { s with heap := h', toks := tk, drawn := d }) :
    wpAny (M w) A.in1 (Builtin.List.listExtendWith (.ref S) (.ref a) res)
      (fun fin s' => match fin with | .done f => R (.ok f) s' | .again c' => c'.quiet = true ∧ codeAny (M w) A c' R s') (fun e s' => R (.error e) s') s := by
  have hSl : S < s.heap.objs.size := Heap.lt_size hS
  have hal := x.lt
  -- what a walk leaves
  have fin : ∀ (I : Addr) (fp : List Addr) (h₁ : Heap) (d : _) (P : Nat → Value → Prop) (St : Nat → Heap → Prop), Ex s.heap h₁ → s.heap.objs.size ≤ I → S ∉ fp → Walks pw w A.in1 I fp [I] es.size P St → St 0 h₁ →
      (∀ acc : Array Value, ItemsOf P acc es.size → acc.toList.Perm (es.toList.map (·.2))) →
      wpAny (M w) A.in1 (do
        let room ← holding [.ref I] (Builtin.List.listLengthHint (.ref a))
        if (room || ["set", "frozenset", "dict", "dict_keys", "dict_values", "dict_items"].any (Value.type "set" == .type ·)) = true then rule "list.extend.makes-room"; Builtin.List.listTouch (.ref S)
        again (.builtin "list.extend.loop" ⟨[.ref S, .ref I, res], []⟩))
      (fun fin s' => match fin with | .done f => R (.ok f) s' | .again c' => c'.quiet = true ∧ codeAny (M w) A c' R s') (fun e s' => R (.error e) s') { s with heap := h₁, drawn := d } := by
    intro I fp h₁ d P St hx hI hSf W st hP
    have hS₁ := hx S _ hS
    refine wpAny_bind (wpAny_holding (set_hint (x.at fun o => hx a o).typeIs ?_))
    rw [if_pos (by decide)]
    refine wpAny_bind (wpAny_rule ?_)
    refine wpAny_bind ?_
    show wpAny _ _ (updateSeq S (·.push .none) >>= fun _ => updateSeq S (·.pop)) _ _ _
    refine wpAny_bind (wpAny_updateSeq hS₁ rfl ?_)
    have hS₂ := Heap.get?_update_self (Obj.mapSeq (·.push Value.none)) hS₁ rfl
    refine wpAny_updateSeq (hz := by seq_fits) hS₂ rfl ?_
    have hS₃ := Heap.get?_update_self (Obj.mapSeq (·.pop)) hS₂ rfl
    have oth : ∀ b o, b ≠ S → h₁.get? b = some o → ((h₁.update S (Obj.mapSeq (·.push Value.none))).update S (Obj.mapSeq (·.pop))).get? b = some o := fun b o hb e =>
      (Heap.get?_update_other _ _ (Ne.symm hb)).trans ((Heap.get?_update_other _ _ (Ne.symm hb)).trans e)
    refine wpAny_pure ⟨plainId_quiet PySem.F.plain_extend_loop _, ?_⟩
    refine codeAny_extend_loopS W.toS (fits_of_scanBound hz) S hSf res es.size 0 _ #[] _ rfl (Nat.zero_le _) (W.frame 0 _ _ st fun b hb o e => oth b o (fun h => hSf (h ▸ hb)) e) hS₃ (ItemsOf.nil _) fun s' acc' c' hm hS' hacc => ?_
    rw [Moved.eq_with hm]
    refine hR s'.heap s'.toks d acc' c' (fun b o hb e => hm.heap b o (fun hmem => ?_) (oth b o hb (hx b o e))) hS' (hP acc' hacc)
    rcases List.mem_cons.mp hmem with e' | hmem
    · exact hb e'
    · have := Heap.lt_size e
      rw [List.mem_singleton.mp hmem] at this
      exact absurd this (Nat.not_lt.mpr hI)
  unfold Builtin.List.listExtendWith
  refine wpAny_bind (wpAny_typeOf (T := "set") x.typeIs ?_)
  have h1 : Builtin.List.listSameRef (.ref S) (.ref a) = false := by simp [Builtin.List.listSameRef, hSa]
  simp only [h1, show (Value.type "set" == Value.type "list") = false by decide, show (Value.type "set" == Value.type "tuple") = false by decide, Bool.or_false, Bool.false_eq_true, if_false]
  refine wpAny_bind (setIter_ok x hp hn hz (fun hT => ?_) fun hT pl d pp => ?_)
  · refine fin _ [s.heap.objs.size, a] _ s.drawn _ _ (fun b o e => Heap.get?_push_of_some _ e) (Nat.le_refl _) ?_ (walks_text (t := t) hh hT (Nat.ne_of_lt hal)) ⟨⟨_, Heap.get?_push_size _ rfl, rfl, rfl⟩, x.at fun o e => Heap.get?_push_of_some _ e⟩ fun acc hacc => ?_
    · simp only [List.mem_cons, List.not_mem_nil, or_false, not_or]; exact ⟨Nat.ne_of_lt hSl, hSa⟩
    · have pk := pick_ok (w.params.setOrder a ep) es
      have sz : (pickOrder (w.params.setOrder a ep) es).size = es.size := by have := pk.length_eq; simpa using this
      refine List.Perm.trans (List.Perm.of_eq ?_) (pk.map (·.2))
      apply List.ext_getElem?
      intro i
      rcases Nat.lt_or_ge i es.size with lt | ge
      · have e := Array.getElem?_eq_getElem (xs := acc) (i := i) (by rw [hacc.1]; exact lt)
        obtain ⟨hx, e'⟩ := hacc.2 i _ e
        rw [Array.getElem?_toList, e, List.getElem?_map, Array.getElem?_toList, e']; rfl
      · rw [List.getElem?_eq_none (by simp [hacc.1, ge]), List.getElem?_eq_none (by simp [sz, ge])]
  · refine fin _ [s.heap.objs.size + 1, a, s.heap.objs.size] _ d _ _ (fun b o e => Heap.get?_push_of_some _ (Heap.get?_push_of_some _ e)) (Nat.le_succ _) ?_ (walks_drawn (w := w) (A := A.in1) (a := a) (I := s.heap.objs.size + 1) (es := es) (ep := ep) (t := t) (tp := s.heap.objs.size) hh pp (Nat.ne_of_lt (Nat.lt_succ_of_lt hal)) (Nat.ne_of_lt (Nat.lt_succ_self _))) ⟨⟨{ cls := .type "set_iterator", data := .fields #[.ref s.heap.objs.size, .int 0 0, .ref a, .int es.size 0, .int ep 0] }, ?_, rfl, rfl⟩, x.at fun o e => Heap.get?_push_of_some _ (Heap.get?_push_of_some _ e), ⟨_, Heap.get?_push_of_some _ (Heap.get?_push_size _ rfl), rfl, 0, rfl⟩⟩ fun acc hacc => ?_
    · simp only [List.mem_cons, List.not_mem_nil, or_false, not_or]; exact ⟨Nat.ne_of_lt (Nat.lt_succ_of_lt hSl), hSa, Nat.ne_of_lt hSl⟩
    · have := Heap.get?_push_size (s.heap.push { cls := .type "tuple", data := .seq (pl.map fun (i : Nat) => rawInt i).toArray }) (o := { cls := .type "set_iterator", data := .fields #[.ref s.heap.objs.size, .int 0 0, .ref a, .int es.size 0, .int ep 0] }) rfl
      rwa [Heap.size_push] at this
    · have ln : pl.length = es.size := by have := pp.length_eq; simpa using this
      refine List.Perm.trans (List.Perm.of_eq (l₂ := pl.map fun j => (es[j]?.map (·.2)).getD .none) ?_) ((pp.map _).trans (List.Perm.of_eq ?_))
      · apply List.ext_getElem?
        intro i
        rcases Nat.lt_or_ge i es.size with lt | ge
        · have e := Array.getElem?_eq_getElem (xs := acc) (i := i) (by rw [hacc.1]; exact lt)
          obtain ⟨j, hx, e', e''⟩ := hacc.2 i _ e
          rw [Array.getElem?_toList, e, List.getElem?_map, e', Option.map_some, e'']; rfl
        · rw [List.getElem?_eq_none (by simp [hacc.1, ge]), List.getElem?_eq_none (by simp [ln, ge])]
      · apply List.ext_getElem?
        intro i
        rcases Nat.lt_or_ge i es.size with lt | ge
        · rw [List.getElem?_map, List.getElem?_range lt, List.getElem?_map, Array.getElem?_toList, Array.getElem?_eq_getElem lt]
          simp [Array.getElem?_eq_getElem lt]
        · rw [List.getElem?_eq_none (by simp [ge]), List.getElem?_eq_none (by simp [ge])]
theorem collect_set {R : List Value → Shared → Prop} (x : SetE s.heap a es ep t) (hp : t.plain = false) (hn : 1 < es.size) (hz : es.size < scanBound) (hh : A.handled = none)
    (h : ∀ (h' : Heap) (tk : Nat) d (vs : List Value), Ex s.heap h' → vs.Perm (es.toList.map (·.2)) → R vs { s with heap := h', toks := tk, drawn := d }) :
    wpAny (M w) A (collect (.ref a)) R E s := by
  have hlt := x.lt
  unfold collect
  refine wpAny_bind (wpAny_runValue (codeAny_builtin entry_proto_collect' ?_))
  rw [Around.under_plainId PySem.F.plain_proto_collect _]
  show wpAny _ A.in1 (newList [] >>= fun l => again (.builtin "list.__iadd__" ⟨[l, .ref a], []⟩)) _ _ s
  refine wpAny_bind (wpAny_newObj_type ?_)
  refine wpAny_pure ⟨plainId_quiet PySem.F.plain_list_iadd _, codeAny_builtin entry_list_iadd' ?_⟩
  rw [Around.under_plainId PySem.F.plain_list_iadd _]
  have hS₁ : (s.heap.push { cls := .type "list", data := .seq ([] : List Value).toArray }).get? s.heap.objs.size = some { cls := .type "list", data := .seq #[] } := Heap.get?_push_size _ rfl
  show wpAny _ A.in1 (Builtin.List.listExtendWith (.ref s.heap.objs.size) (.ref a) (.ref s.heap.objs.size)) _ _ _
  have key := extend_set (w := w) (A := A) (s := { s with heap := s.heap.push { cls := .type "list", data := .seq ([] : List Value).toArray } })
    (R := fun (q : Result) (s' : Shared) => ∃ (h' : Heap) (tk : Nat) (d : _) (acc' : Array Value) (c' : Nat), q = .ok (.ret (.ref s.heap.objs.size)) ∧ s' = { s with heap := h', toks := tk, drawn := d } ∧
      Ex s.heap h' ∧ h'.get? s.heap.objs.size = some { cls := .type "list", dict := none, data := .seq acc' c', slots := #[] } ∧ acc'.toList.Perm (es.toList.map (·.2)))
    (x.at fun o e => Heap.get?_push_of_some _ e) hp hn hz hh s.heap.objs.size (Nat.ne_of_gt hlt) (.ref s.heap.objs.size) 0 hS₁
    (fun h' tk d acc' c' hk hS' hacc => ⟨h', tk, d, acc', c', rfl, rfl, fun b o e => hk b o (Nat.ne_of_lt (Heap.lt_size e)) (Heap.get?_push_of_some _ e), hS', hacc⟩)
  refine wpAny_mono key (fun fin s' x => ?_) fun e s' x => ?_
  · cases fin with
    | done f =>
      obtain ⟨h', tk, d, acc', c', e, rfl, hk, hS', hacc⟩ := x
      cases e
      show wpAny _ A (load s.heap.objs.size >>= _) _ _ _
      refine wpAny_bind (wpAny_load hS' ?_)
      exact wpAny_pure (h h' tk d _ hk hacc)
    | again c₁ =>
      refine ⟨x.1, codeAny_mono x.2 fun q s₂ y => ?_⟩
      obtain ⟨h', tk, d, acc', c', rfl, rfl, hk, hS', hacc⟩ := y
      show wpAny _ A (load s.heap.objs.size >>= _) _ _ _
      refine wpAny_bind (wpAny_load hS' ?_)
      exact wpAny_pure (h h' tk d _ hk hacc)
  · obtain ⟨_, _, _, _, _, e', _⟩ := x
    cases e'
/-- sorted of a set of texts -/
theorem sorted_set {ss : List Str} (x : SetE s.heap a es ep t) (hp : t.plain = false) (hn : 1 < es.size) (hz : es.size < 64) (hh : A.handled = none) (hS : ∃ l, l.Perm ss ∧ StrsAre (es.toList.map (·.2)) l) {Q : Value → Shared → Prop}
    (h : ∀ (D : Addr) (h' : Heap) (tk : Nat) d (out : Array Value) (ss' : List Str), Ex s.heap h' → h'.IsList D out → StrsAre out.toList ss' → ss'.Perm ss → sortedS ss' = true → Q (.ref D) { s with heap := h', toks := tk, drawn := d }) :
    wpAny (M w) A (call (.builtin "sorted") [.ref a]) Q E s := by
  refine Calls.call_function_entry kind_sorted plain_sorted entry_sorted (args_sorted1 _) ?_
  unfold Builtin.«sorted»
  refine wpAny_bind (m := checkCount "sorted" 1 1 _) (wpAny_pure ?_)
  refine wpAny_bind (collect_set x hp hn (by unfold scanBound; omega) hh fun h' tk d vs hx hv => ?_)
  obtain ⟨l, hl, hs⟩ := hS
  have all : ∀ v, v ∈ vs → ∃ x t, v = .str x t := fun v hm => hs.all v (hv.mem_iff.mp hm)
  have hs' := strsAre_map vs all
  have pm : (vs.map strOf).Perm ss := by
    refine (hv.map strOf).trans ?_
    rw [hs.strs]; exact hl
  have ln : vs.length < 64 := by have := hv.length_eq; simp at this; omega
  refine wpAny_bind (wpAny_newList ?_ (by unfold sizeLine; omega))
  have hoL : (h'.push (seqObj "list" vs.toArray 0)).get? h'.objs.size = some (seqObj "list" vs.toArray 0) := Heap.get?_push_size _ rfl
  refine wpAny_bind (wpAny_holding (wpAny_call_entry slot_list_sort ⟨_, hoL, rfl⟩ entry_list_sort (list_sort_treeK strKind_oneLt hoL hs'.keysOf (fun v₁ v₂ rest e => keyKind_strs (by rw [← e]; exact hs')) ln fun st' a1 a2 => ⟨_, rfl, ?_⟩) (args_list_sort _)))
  obtain ⟨ss', q1, q2, q3⟩ := sorted_out_str hs' a1 a2
  obtain ⟨e, he⟩ := sortedHeap_at (out := (arrOf st').map (·.2)) hoL
  refine wpAny_pure ⟨_, rfl, h h'.objs.size _ tk d _ ss' (fun b o e' => ?_) ⟨_, he, rfl, _, rfl⟩ q1 (q2.trans pm) q3⟩
  have lt := Heap.lt_size (hx b o e')
  rw [sortedHeap_old (Nat.ne_of_lt lt) (by rw [Heap.size_push]; exact Nat.lt_succ_of_lt lt)]
  exact Heap.get?_push_of_some _ (hx b o e')
end
end Mine
end
section
-- part W20
open PySem PySem.W PyProof.Rows
set_option maxRecDepth 100000
set_option maxHeartbeats 0
set_option linter.all false
namespace Mine
noncomputable abbrev sk (w : World) : KeyKind pw w Str := PySem.strKind pw w
/-- the entries' texts are these, in some order -/
def TextsOf (l : List (Int × Value)) (ss : List Str) : Prop := ∃ m, m.Perm ss ∧ StrsAre (l.map (·.2)) m
/-- a set that holds these texts, each once -/
def SetT (w : World) (h : Heap) (a : Addr) (ss : List Str) : Prop := ∃ es ep t, SetE h a es ep t ∧ ElemsOf (sk w) es.toList ∧ TextsOf es.toList ss ∧ (ss ≠ [] → t.plain = false)
theorem SetT.at {w : World} {h h' : Heap} {a : Addr} {ss : List Str} (x : SetT w h a ss) (e : ∀ o, h.get? a = some o → h'.get? a = some o) : SetT w h' a ss := let ⟨es, ep, t, hE, r⟩ := x; ⟨es, ep, t, hE.at e, r⟩
def addF (ss : List Str) (x : Str) : List Str := if x ∈ ss then ss else ss ++ [x]
theorem strs_perm {vs vs' : List Value} {ss : List Str} (h : StrsAre vs ss) (p : vs'.Perm vs) : ∃ m, m.Perm ss ∧ StrsAre vs' m :=
  ⟨vs'.map strOf, by have := p.map strOf; rwa [h.strs] at this, strsAre_map vs' fun v hv => h.all v (p.mem_iff.mp hv)⟩
theorem TextsOf.perm {l l' : List (Int × Value)} {ss : List Str} (h : TextsOf l ss) (p : l'.Perm l) : TextsOf l' ss := by
  obtain ⟨m, hm, hs⟩ := h
  obtain ⟨m', hm', hs'⟩ := strs_perm hs (p.map (·.2))
  exact ⟨m', hm'.trans hm, hs'⟩
theorem TextsOf.len {l : List (Int × Value)} {ss : List Str} (h : TextsOf l ss) : l.length = ss.length := by
  obtain ⟨m, hm, hs⟩ := h
  rw [← hm.length_eq, ← StrsAre.len hs, List.length_map]
theorem TextsOf.push {l : List (Int × Value)} {ss : List Str} (h : TextsOf l ss) (k : Int) (x : Str) (t : Tok) : TextsOf (l ++ [(k, .str x t)]) (ss ++ [x]) := by
  obtain ⟨m, hm, hs⟩ := h
  exact ⟨m ++ [x], hm.append_right _, by rw [List.map_append]; exact strs_snoc hs⟩
theorem strs_get' {vs : List Value} {ys : List Str} (h : StrsAre vs ys) {x : Str} : (∃ v ∈ vs, Value.isStrOf x v = true) ↔ x ∈ ys := by
  induction h with
  | nil => simp
  | cons y t r ih =>
    rw [List.mem_cons, ← ih]
    constructor
    · rintro ⟨v, hv, e⟩
      rcases List.mem_cons.mp hv with rfl | hv
      · obtain ⟨u, hu⟩ := Value.isStrOf_shape e
        cases hu; exact .inl rfl
      · exact .inr ⟨v, hv, e⟩
    · rintro (rfl | ⟨v, hv, e⟩)
      · exact ⟨_, List.mem_cons_self, by simp [Value.isStrOf]⟩
      · exact ⟨v, List.mem_cons_of_mem _ hv, e⟩
theorem relay_plain (t : SetTable) (es : Array (Int × Value)) (n : Nat) (h : t.plain = false) : (relayAll t es n).2.1.plain = false := by
  unfold relayAll
  split
  · rename_i t' order e
    have : t'.plain = false := by
      unfold SetTable.relaid SetTable.laid at e
      simp only [Option.bind_eq_bind, Option.bind_eq_some_iff, Option.pure_def, Option.some.injEq, Prod.mk.injEq] at e
      obtain ⟨_, _, e, _⟩ := e
      rw [← e]; exact h
    dsimp only
    split
    · exact this
    · rfl
  · rfl
section
variable {w : World} {A : Around} {E : Value → Shared → Prop} {s : Shared} {a : Addr}
theorem storeT {h : Heap} {o : Obj} {es : Array (Int × Value)} {ep : Nat} {t : SetTable} (ho : h.get? a = some o) (hex : o.ExactSet) (hd : o.data = .set es ep t) {es' : Array (Int × Value)} {t' : SetTable} (hf : t'.fits es'.size = true) :
    (h.update a (Obj.putSet es' t')).get? a = some { o with data := .set es' (ep + 1) t' } ∧ SetE (h.update a (Obj.putSet es' t')) a es' (ep + 1) t' := by
  have hg := Heap.get?_update_self (Obj.putSet es' t') ho (by rw [putSet_of es' t' hd]; rfl)
  rw [putSet_of es' t' hd] at hg
  exact ⟨hg, _, hg, hex, rfl, hf⟩
theorem tailT {g : Bool → Sem Unit} (hg : ∀ (b : Bool) (s₁ : Shared) (Q' : Unit → Shared → Prop), Q' () s₁ → wpAny (M w) A (g b) Q' E s₁)
    {o : Obj} {es : Array (Int × Value)} {ep : Nat} {t : SetTable} (ho : s.heap.get? a = some o) (hex : o.ExactSet) (hd : o.data = .set es ep t)
    {es1 : Array (Int × Value)} {t2 : SetTable} {ss : List Str} (hel : ElemsOf (sk w) es1.toList) (hT : TextsOf es1.toList ss) (hb : es1.size < scanBound) (hf : t2.fits es1.size = true) (hp : t2.plain = false) {wd : Bool} {R : Option Bool → Shared → Prop}
    (h : ∀ h', Heap.SameBut a s.heap h' → SetT w h' a ss → R (some true) { s with heap := h' }) :
    wpAny (M w) A (do
        storeSet a es1 t2
        if (!wd && t2.tooFull) = true then do
            g (relayAll t2 es1 (SetTable.grown es1.size)).2.2
            storeSet a (relayAll t2 es1 (SetTable.grown es1.size)).1 (relayAll t2 es1 (SetTable.grown es1.size)).2.1
            pure (some true)
          else pure (some true)) R E s := by
  refine wpAny_bind (wpAny_storeSet_of ho hd ?_ (fits_of_scanBound hb))
  obtain ⟨ho1, hE1⟩ := storeT ho hex hd hf
  have sb1 := Heap.SameBut.update s.heap a (Obj.putSet es1 t2)
  split
  · have pp := relayAll_perm t2 es1 (SetTable.grown es1.size)
    have ff := relayAll_fits t2 es1 (SetTable.grown es1.size)
    have lp := relay_plain t2 es1 (SetTable.grown es1.size) hp
    generalize relayAll t2 es1 (SetTable.grown es1.size) = Rl at pp ff lp ⊢
    obtain ⟨es2, t3, gave2⟩ := Rl
    dsimp only at pp ff lp ⊢
    have hb2 : es2.size < scanBound := by have := pp.length_eq; simp at this; omega
    refine wpAny_bind (hg _ _ _ ?_)
    refine wpAny_bind (wpAny_storeSet_of ho1 rfl ?_ (fits_of_scanBound hb2))
    obtain ⟨_, hE2⟩ := storeT (o := { o with data := .set es1 (ep + 1) t2 }) ho1 hex rfl ff
    exact wpAny_pure (h _ (sb1.trans (Heap.SameBut.update _ a _)) ⟨es2, _, t3, hE2, hel.perm pp, hT.perm pp, fun _ => lp⟩)
  · exact wpAny_pure (h _ sb1 ⟨es1, _, t2, hE1, hel, hT, fun _ => hp⟩)
theorem addT {ss : List Str} {x : Str} {u : Tok} {Q : Bool → Shared → Prop} (hS : SetT w s.heap a ss) (hroom : ss.length + 1 < scanBound)
    (h : ∀ b h', Heap.SameBut a s.heap h' → SetT w h' a (addF ss x) → Q b { s with heap := h' }) : wpAny (M w) A (setAddHashed a (.str x u) ((sk w).hash x)) Q E s := by
  obtain ⟨es, ep, t, ⟨o, ho, hex, hd, hf⟩, hel, hT, hpl⟩ := hS
  have hsz : es.size = ss.length := by have := hT.len; simpa using this
  have hkey : (sk w).is x (.str x u) = true := strKind_is pw w x u
  have hsc : (Value.str x u).scannable = true := rfl
  have hmem : (∃ e ∈ es.toList, (sk w).is x e.2 = true) ↔ x ∈ ss := by
    obtain ⟨m, hm, hs⟩ := hT
    rw [← hm.mem_iff, ← strs_get' hs]
    constructor
    · rintro ⟨e, he, q⟩; exact ⟨e.2, List.mem_map_of_mem he, q⟩
    · rintro ⟨v, hv, q⟩
      obtain ⟨e, he, rfl⟩ := List.mem_map.mp hv
      exact ⟨e, he, q⟩
  unfold setAddHashed setAddHashedIn
  refine wpAny_holding (wpAny_bind (wpAny_setState_of ho hd hf ?_))
  dsimp only
  rw [byScan_of hsc (by omega) hel]
  simp only [↓reduceIte]
  unfold setAddByScan
  refine wpAny_bind ?_
  refine wpAny_bind (wpAny_rule ?_)
  refine wpAny_bind (wpAny_setScan_of hkey ho hd hf hel ?_)
  cases hr : List.findIdx? (fun e => (sk w).is x e.2) es.toList with
  | some j =>
    dsimp only
    obtain ⟨hj, hpj, _⟩ := List.findIdx?_eq_some_iff_getElem.mp hr
    have hx : x ∈ ss := hmem.mp ⟨es.toList[j], List.getElem_mem hj, hpj⟩
    refine wpAny_pure (wpAny_pure ?_)
    exact h _ s.heap (Heap.SameBut.refl a s.heap) ⟨es, ep, t, ⟨o, ho, hex, hd, hf⟩, hel, by unfold addF; rw [if_pos hx]; exact hT, by unfold addF; rw [if_pos hx]; exact hpl⟩
  | none =>
    dsimp only
    have hx : x ∉ ss := fun hm => by
      obtain ⟨e, he, q⟩ := hmem.mpr hm
      have := List.findIdx?_eq_none_iff.mp hr e he
      rw [q] at this; cases this
    have hgw : ∀ (b : Bool) {s₁ : Shared} {Q' : Unit → Shared → Prop}, Q' () s₁ → wpAny (M w) A (match b with | true => rule "set.scan.the-table-gave-way" | false => pure ()) Q' E s₁ :=
      fun b s₁ Q' hq => by cases b <;> first | exact wpAny_pure hq | exact wpAny_rule hq
    have pp := layNew_perm t es ((sk w).hash x) (.str x u)
    have ff := layNew_fits t es ((sk w).hash x) (.str x u)
    generalize layNew t es ((sk w).hash x) (.str x u) = Ln at pp ff ⊢
    obtain ⟨es1, t1, wd, gave⟩ := Ln
    dsimp only at pp ff ⊢
    rw [Array.toList_push] at pp
    have hel1 : ElemsOf (sk w) es1.toList := (hel.push hkey hsc).perm pp
    have hT1 : TextsOf es1.toList (addF ss x) := by unfold addF; rw [if_neg hx]; exact (hT.push _ x u).perm pp
    have hb1 : es1.size < scanBound := by have := pp.length_eq; simp at this; omega
    refine wpAny_bind (hgw _ ?_)
    cases hp1 : t1.plain with
    | true =>
      rw [if_pos rfl]
      refine wpAny_bind ?_
      rw [hashByValue_scannable 8 hsc]
      refine wpAny_pure ?_
      rw [if_neg (show ¬ (plainKind (Value.str x u) = true) from Bool.false_ne_true)]
      refine tailT (w := w) ?_ ho hex hd hel1 hT1 hb1 (SetTable.fits_plain_off ff) rfl ?_
      · intro b s₁ Q' hq; cases b <;> first | exact wpAny_pure hq | exact wpAny_rule hq
      · intro h' sb hS'; dsimp only; exact wpAny_pure (h _ h' sb hS')
    | false =>
      rw [if_neg (by simp)]
      refine wpAny_bind (wpAny_pure ?_)
      rw [if_pos rfl]
      refine tailT (w := w) ?_ ho hex hd hel1 hT1 hb1 ff hp1 ?_
      · intro b s₁ Q' hq; cases b <;> first | exact wpAny_pure hq | exact wpAny_rule hq
      · intro h' sb hS'; dsimp only; exact wpAny_pure (h _ h' sb hS')
def metF (val : Nat → Str) (i : Nat) : List Str := ((List.range i).map val).foldl addF []
theorem metF_succ (val : Nat → Str) (i : Nat) : metF val (i + 1) = addF (metF val i) (val i) := by
  unfold metF; rw [List.range_succ, List.map_append, List.foldl_append]; rfl
theorem addF_length (ss : List Str) (x : Str) : (addF ss x).length ≤ ss.length + 1 := by unfold addF; split <;> simp
theorem metF_length (val : Nat → Str) : ∀ i, (metF val i).length ≤ i
  | 0 => Nat.zero_le _
  | i + 1 => by rw [metF_succ]; have := addF_length (metF val i) (val i); have := metF_length val i; omega
theorem upd_loop {R : Result → Shared → Prop} {I : Addr} {fp wr : List Addr} {n : Nat} {P : Nat → Value → Prop} {St : Nat → Heap → Prop} (W : Walks pw w A.in1 I fp wr n P St) (S : Addr) (hSf : S ∉ fp) (val : Nat → Str) (hval : ∀ i v, P i v → ∃ t, v = .str (val i) t) (hb : n + 1 < scanBound) :
    ∀ (k i : Nat) (s : Shared), n - i = k → i ≤ n → St i s.heap → SetT w s.heap S (metF val i) →
      (∀ h' tk, (∀ b o, b ∉ S :: wr → s.heap.get? b = some o → h'.get? b = some o) → SetT w h' S (metF val n) → R (.ok (.ret .none)) { s with heap := h', toks := tk }) →
      codeAny (M w) A (.builtin "set.update.loop" ⟨[.ref S, .ref I], []⟩) R s := by
  have hSw : S ∉ wr := fun h => hSf (W.sub _ h)
  intro k
  induction k with
  | zero =>
    intro i s hk hi hst hS hR
    have hin : i = n := by omega
    subst hin
    refine codeAny_builtin PyProof.Rows.F.entry_set_update_loop ?_
    rw [Around.under_plainId PyProof.Rows.F.plain_set_update_loop _]
    show wpAny _ A.in1 (pyNext (.ref I) >>= _) _ _ s
    refine wpAny_bind (W.done s _ _ hst fun h' tk hm => ?_)
    show wpAny _ A.in1 (ret Value.none) _ _ _
    exact wpAny_pure (hR h' tk (fun b o hb e => hm b o (fun h => hb (List.mem_cons_of_mem _ h)) e) (hS.at fun o e => hm S o hSw e))
  | succ k ih =>
    intro i s hk hi hst hS hR
    have hlt : i < n := by omega
    refine codeAny_builtin PyProof.Rows.F.entry_set_update_loop ?_
    rw [Around.under_plainId PyProof.Rows.F.plain_set_update_loop _]
    show wpAny _ A.in1 (pyNext (.ref I) >>= _) _ _ s
    refine wpAny_bind (W.item i s _ _ hlt hst fun v h₁ tk hP hst' hm => ?_)
    obtain ⟨t, rfl⟩ := hval i v hP
    have hS₁ : SetT w h₁ S (metF val i) := hS.at fun o e => hm S o hSw e
    show wpAny _ A.in1 (holding [Value.str (val i) t] (setAdd S (.str (val i) t)) >>= _) _ _ _
    refine wpAny_bind (wpAny_holding ?_)
    unfold setAdd
    refine wpAny_holding ?_
    refine wpAny_bind ((sk w).pyHash (k := val i) (strKind_is pw w _ _) ?_)
    refine addT (w := w) hS₁ (by have := metF_length val i; omega) fun b h₂ sb hS₂ => ?_
    rw [← metF_succ] at hS₂
    refine wpAny_pure ⟨plainId_quiet PyProof.Rows.F.plain_set_update_loop _, ih (i + 1) _ (by omega) hlt (W.frame _ _ _ hst' fun b hb o e => ?_) hS₂ fun h' tk' hk' hS' => ?_⟩
    · exact (sb.2 b (fun h : b = S => hSf (by rw [← h]; exact hb))).trans e
    · refine hR h' tk' (fun b o hb e => hk' b o hb ?_) hS'
      exact (sb.2 b (fun h : b = S => hb (by rw [h]; exact List.mem_cons_self))).trans (hm b o (fun h => hb (List.mem_cons_of_mem _ h)) e)
/-- set of a list of texts -/
theorem call_setS {l : Addr} {items : Array Value} {ys : List Str} {Q : Value → Shared → Prop}
    (hh : A.handled = none) (hl : s.heap.IsList l items) (hi : StrsAre items.toList ys) (hb : items.size + 1 < scanBound)
    (h : ∀ (S : Addr) (h' : Heap) (tk : Nat), SetT w h' S (ys.foldl addF []) → Ex s.heap h' → Q (.ref S) { s with heap := h', toks := tk }) :
    wpAny (M w) A (call (.type "set") [.ref l]) Q E s := by
  obtain ⟨c, tl, hmro⟩ := PySem.F.called_set.mro
  have hmade := PySem.F.called_set.made
  have hsub := PySem.F.called_set.sub
  refine wpAny_call (codeAny_of_tree ?_)
  show wpAny _ _ (callAny (.type "set") _) _ _ _
  refine wpAny_pure ⟨Code.quiet_builtin _ (by decide +kernel), codeAny_builtin PySem.F.entry_type_call ?_⟩
  rw [Around.under_plain (weight_type_call_type "set" [.ref l] []) rfl]
  have h1 := PySem.F.called_set.notType
  have h2 := PySem.F.called_set.canCreate
  have hct := PySem.F.typeCall_set_1 (.ref l)
  repeat (any_goals (first | assumption | wp_step))
  refine codeAny_mono (code_set_new_1 (.ref l) (E := E) (Q₁ := fun obj s₁ => ∃ led : Bool, obj = .ref s.heap.objs.size ∧ s₁ = { s with heap := s.heap.push { cls := .type "set", dict := none, data := .set #[] 0 (.fresh 0 0 led) } }) fun led => ⟨led, rfl, rfl⟩) fun r s₁ hr => ?_
  cases r with
  | error e => exact hr
  | ok fl =>
    cases fl with
    | next => exact hr
    | brk => exact hr
    | cont => exact hr
    | ret obj =>
      obtain ⟨led, rfl, rfl⟩ := hr
      have hS : (s.heap.push { cls := .type "set", dict := none, data := .set #[] 0 (.fresh 0 0 led) }).get? s.heap.objs.size = some { cls := .type "set", dict := none, data := .set #[] 0 (.fresh 0 0 led) } := Heap.get?_push_size _ rfl
      have hT : Shared.TypeIs { s with heap := s.heap.push { cls := .type "set", dict := none, data := .set #[] 0 (.fresh 0 0 led) } } (.ref s.heap.objs.size) "set" := ⟨_, hS, rfl⟩
      have hli := PySem.F.called_set.init.lookup
      have hbi := PySem.F.called_set.init.bind (.ref s.heap.objs.size)
      repeat (any_goals (first | assumption | wp_step))
      refine codeAny_mono (codeAny_call_builtin (R := wants (fun r s₂ => r = .none ∧ ∃ h' tk, s₂ = { s with heap := h', toks := tk } ∧ SetT w h' s.heap.objs.size (ys.foldl addF []) ∧ Ex s.heap h') E) PySem.F.called_set.init.plain PySem.F.entry_set_init (check_set_init_1 hT ?_)) fun r₂ s₂ hr₂ => ?_
      · obtain ⟨ol, hol, hcl, nl, hdl⟩ := hl
        obtain ⟨ocls, odict, odata, oslots⟩ := ol
        simp only at hcl hdl
        subst hcl; subst hdl
        have hol' : (s.heap.push { cls := .type "set", dict := none, data := .set #[] 0 (.fresh 0 0 led) }).get? l = some { cls := .type "list", dict := odict, data := .seq items nl, slots := oslots } := Heap.get?_push_of_some _ hol
        have hsls := PySem.F.sub_list_set
        have hslf := PySem.F.sub_list_frozenset
        have hne : (Value.type "list" == Value.type "dict") = false := by decide
        have hl1 : (s.heap.push { cls := .type "set", dict := none, data := .set #[] 0 (.fresh 0 0 led) }).IsList l items := ⟨_, hol', rfl, nl, rfl⟩
        unfold Builtin.«set.__init__» noKeywords Builtin.Frozenset.updateFrom
        generalize hPI : pyIter = PI
        wp_walk
        subst hPI
        refine wpAny_pyIter_list hl1 ?_
        refine wpAny_bind (wpAny_runValue ?_)
        have hlS : l < s.heap.objs.size := Heap.lt_size hol
        have hh3 : A.in1.in1.in1.handled = none := by simp [hh]
        have hneI : l ≠ (s.heap.push { cls := .type "set", dict := none, data := .set #[] 0 (.fresh 0 0 led) }).objs.size := by
          rw [Heap.size_push]; exact Nat.ne_of_lt (Nat.lt_succ_of_lt hlS)
        have hSf : s.heap.objs.size ∉ [(s.heap.push { cls := .type "set", dict := none, data := .set #[] 0 (.fresh 0 0 led) }).objs.size, l] := by
          rw [Heap.size_push]; simp only [List.mem_cons, List.mem_singleton, List.not_mem_nil, or_false, not_or]
          exact ⟨Nat.ne_of_lt (Nat.lt_succ_self _), Nat.ne_of_gt hlS⟩
        have hval : ∀ (i : Nat) (v : Value), items[i]? = some v → ∃ t, v = .str (ys.getD i (Str.ofString "")) t := fun i v hv => by
          obtain ⟨x, hx, t, e⟩ := StrsAre.get hi (i := i) (v := v) (by rw [Array.getElem?_toList]; exact hv)
          exact ⟨t, by rw [e, List.getD_eq_getElem?_getD, hx]; rfl⟩
        have eF : metF (fun i => ys.getD i (Str.ofString "")) items.size = ys.foldl addF [] := by
          unfold metF
          congr 1
          have ln : ys.length = items.size := by have := StrsAre.len hi; simpa using this.symm
          apply List.ext_getElem?
          intro i
          rcases Nat.lt_or_ge i items.size with lt | ge
          · rw [List.getElem?_map, List.getElem?_range lt, Option.map_some, List.getD_eq_getElem?_getD, List.getElem?_eq_getElem (by omega)]; rfl
          · rw [List.getElem?_eq_none (by simpa using ge), List.getElem?_eq_none (by omega)]
        refine upd_loop (Walks.list hh3 _ l hneI items) s.heap.objs.size hSf (fun i => ys.getD i (Str.ofString "")) hval hb (items.size - 0) 0 _ (by omega) (Nat.zero_le _)
          ⟨⟨_, Heap.get?_push_size _ rfl, rfl, rfl⟩, (hl1.push _)⟩ ?hS0 ?hR
        case hS0 =>
          have hget : ((s.heap.push { cls := .type "set", dict := none, data := .set #[] 0 (.fresh 0 0 led) }).push { cls := .type "list_iterator", data := .fields #[.ref l, .int 0 0] }).get? s.heap.objs.size
              = some { cls := .type "set", dict := none, data := .set #[] 0 (.fresh 0 0 led) } := Heap.get?_push_of_some _ hS
          exact ⟨#[], 0, _, ⟨_, hget, ⟨rfl, rfl, rfl⟩, rfl, by rfl⟩, fun e he => by simp at he, ⟨[], .nil, .nil⟩, fun h => absurd rfl h⟩
        case hR =>
          intro h' tk' hk' hS'
          rw [eF] at hS'
          show wpAny _ _ _ _ _ _
          refine wpAny_pure ?_
          show wpAny _ _ (ret Value.none) _ _ _
          refine wpAny_pure ⟨rfl, h', tk', rfl, hS', fun b o e => ?_⟩
          have lt := Heap.lt_size e
          have hb1 : b ≠ s.heap.objs.size := Nat.ne_of_lt lt
          have hb2 : b ≠ (s.heap.push { cls := .type "set", dict := none, data := .set #[] 0 (.fresh 0 0 led) }).objs.size := by
            rw [Heap.size_push]; exact Nat.ne_of_lt (Nat.lt_succ_of_lt lt)
          exact hk' b o (by simp only [List.mem_cons, List.mem_singleton, List.not_mem_nil, or_false, not_or]; exact ⟨hb1, hb2⟩) (Heap.get?_push_of_some _ (Heap.get?_push_of_some _ e))
      · cases r₂ with
        | error e => exact hr₂
        | ok fl₂ =>
          cases fl₂ with
          | next => exact hr₂
          | brk => exact hr₂
          | cont => exact hr₂
          | ret r =>
            obtain ⟨rfl, h', tk, rfl, hS', hk'⟩ := hr₂
            repeat (any_goals (first | assumption | wp_step))
            exact h _ _ _ hS' hk'
end
end Mine
end
section
-- part W21
open PySem PySem.W PyProof.Rows
set_option maxRecDepth 100000
set_option maxHeartbeats 0
set_option linter.all false
namespace Mine
theorem StrsAre.drop' : ∀ {vs : List Value} {ys : List Str}, StrsAre vs ys → ∀ k : Nat, StrsAre (vs.drop k) (ys.drop k)
  | _, _, h, 0 => h
  | _, _, .nil, _ + 1 => .nil
  | _, _, .cons _ _ h, k + 1 => StrsAre.drop' h k
section
variable {w : World} {A : Around} {env : Env} {C : Shared → Prop} {P P1 P2 P3 : Value → Shared → Prop}
/-- a list's end -/
theorem lFrom {v lo : PySem.Expr} {R : Array Value → Prop} {k : Nat} {pos p : Pos} (hC : Stb C) (hv : Pe w A env C v (fun v s => ∃ D items, v = .ref D ∧ s.heap.IsList D items ∧ R items)) (hlo : Pe w A env C lo (II k)) (hz : ∀ items, R items → items.size ≤ 1000)
    (hs1 : ∀ (a b : Value), subscripted (.Slice (some lo) Option.none Option.none p) false a b = operate [b, a] (getItem a b) := by intro _ _; with_unfolding_all rfl)
    (hs2 : ∀ (a r : Value), letTemporaryGo v a r = Pure.pure () := by intro _ _; with_unfolding_all rfl) :
    Pe w A env C (.Subscript v (.Slice (some lo) Option.none Option.none p) pos) (fun v s => ∃ D items, v = .ref D ∧ s.heap.IsList D (items.toList.drop k).toArray ∧ R items) := .of fun s hs => by
  refine Subscript_ (wpAny_mono (hv.f s hs) (fun a s₁ ⟨⟨D, items, ea, hl, hR⟩, k₁⟩ => ?_) fun _ _ x => x)
  subst ea
  refine wpAny_Slice ?_
  show wpAny (M w) A (eval lo env) _ No s₁
  refine wpAny_mono (hlo.f s₁ (hC _ _ hs k₁)) (fun a s₂ ⟨⟨ti, ea⟩, k₂⟩ => ?_) fun _ _ x => x
  subst ea
  refine wpAny_pure (wpAny_pure ?_)
  have hl₂ : s₂.heap.IsList D items := hl.at fun o => kg k₂ D o
  refine subscriptTail_ops (Heap.IsList.typeIs (s := { s₂ with heap := s₂.heap.push { cls := .type "slice", data := .fields #[.int k ti, .none, .none] } }) (hl₂.push _)) list_getitem_lookup
    (wpAny_getItem_list_slice (hl₂.push _) (Heap.IsSliceOf.new ..) (.int _ _) .none .none (by simp) ?_ (by have := hz _ hR; unfold sizeLine; omega)) (hs1 _ _) (hs2 _)
  rw [slicePick_from']
  exact ⟨⟨_, items, rfl, ⟨_, Heap.get?_push_size _ rfl, rfl, 0, rfl⟩, hR⟩, kt (kt k₁ k₂) (kt (kpush _ _ _) (kpush _ _ _))⟩
theorem lUpto {v hi : PySem.Expr} {R : Array Value → Prop} {k : Nat} {pos p : Pos} (hC : Stb C) (hv : Pe w A env C v (fun v s => ∃ D items, v = .ref D ∧ s.heap.IsList D items ∧ R items)) (hhi : Pe w A env C hi (II k)) (hz : ∀ items, R items → items.size ≤ 1000)
    (hs1 : ∀ (a b : Value), subscripted (.Slice Option.none (some hi) Option.none p) false a b = operate [b, a] (getItem a b) := by intro _ _; with_unfolding_all rfl)
    (hs2 : ∀ (a r : Value), letTemporaryGo v a r = Pure.pure () := by intro _ _; with_unfolding_all rfl) :
    Pe w A env C (.Subscript v (.Slice Option.none (some hi) Option.none p) pos) (fun v s => ∃ D items, v = .ref D ∧ s.heap.IsList D (items.toList.take k).toArray ∧ R items) := .of fun s hs => by
  refine Subscript_ (wpAny_mono (hv.f s hs) (fun a s₁ ⟨⟨D, items, ea, hl, hR⟩, k₁⟩ => ?_) fun _ _ x => x)
  subst ea
  refine wpAny_Slice (wpAny_pure ?_)
  show wpAny (M w) A (eval hi env) _ No s₁
  refine wpAny_mono (hhi.f s₁ (hC _ _ hs k₁)) (fun a s₂ ⟨⟨ti, ea⟩, k₂⟩ => ?_) fun _ _ x => x
  subst ea
  refine wpAny_pure ?_
  have hl₂ : s₂.heap.IsList D items := hl.at fun o => kg k₂ D o
  refine subscriptTail_ops (Heap.IsList.typeIs (s := { s₂ with heap := s₂.heap.push { cls := .type "slice", data := .fields #[.none, .int k ti, .none] } }) (hl₂.push _)) list_getitem_lookup
    (wpAny_getItem_list_slice (hl₂.push _) (Heap.IsSliceOf.new ..) .none (.int _ _) .none (by simp) ?_ (by have := hz _ hR; unfold sizeLine; omega)) (hs1 _ _) (hs2 _)
  rw [slicePick_upto']
  exact ⟨⟨_, items, rfl, ⟨_, Heap.get?_push_size _ rfl, rfl, 0, rfl⟩, hR⟩, kt (kt k₁ k₂) (kt (kpush _ _ _) (kpush _ _ _))⟩
theorem Pe.fromI {v lo : PySem.Expr} {ys : List Int} {k : Nat} {pos p : Pos} (hC : Stb C) (hv : Pe w A env C v (IL ys)) (hlo : Pe w A env C lo (II k)) (hz : ys.length ≤ 1000)
    (hs1 : ∀ (a b : Value), subscripted (.Slice (some lo) Option.none Option.none p) false a b = operate [b, a] (getItem a b) := by intro _ _; with_unfolding_all rfl)
    (hs2 : ∀ (a r : Value), letTemporaryGo v a r = Pure.pure () := by intro _ _; with_unfolding_all rfl) : Pe w A env C (.Subscript v (.Slice (some lo) Option.none Option.none p) pos) (IL (ys.drop k)) :=
  (lFrom (R := fun items => IntsAre items.toList ys) hC hv hlo (fun items h => by have := IntsAre.len h; rw [Array.length_toList] at this; omega) hs1 hs2).mono fun v s ⟨D, items, e, hl, hi⟩ => ⟨D, _, e, hl, by simpa using hi.drop k⟩
theorem Pe.uptoI {v lo : PySem.Expr} {ys : List Int} {k : Nat} {pos p : Pos} (hC : Stb C) (hv : Pe w A env C v (IL ys)) (hlo : Pe w A env C lo (II k)) (hz : ys.length ≤ 1000)
    (hs1 : ∀ (a b : Value), subscripted (.Slice Option.none (some lo) Option.none p) false a b = operate [b, a] (getItem a b) := by intro _ _; with_unfolding_all rfl)
    (hs2 : ∀ (a r : Value), letTemporaryGo v a r = Pure.pure () := by intro _ _; with_unfolding_all rfl) : Pe w A env C (.Subscript v (.Slice Option.none (some lo) Option.none p) pos) (IL (ys.take k)) :=
  (lUpto (R := fun items => IntsAre items.toList ys) hC hv hlo (fun items h => by have := IntsAre.len h; rw [Array.length_toList] at this; omega) hs1 hs2).mono fun v s ⟨D, items, e, hl, hi⟩ => ⟨D, _, e, hl, by simpa using hi.take k⟩
theorem Pe.fromT {v lo : PySem.Expr} {ys : List Str} {k : Nat} {pos p : Pos} (hC : Stb C) (hv : Pe w A env C v (TL ys)) (hlo : Pe w A env C lo (II k)) (hz : ys.length ≤ 1000)
    (hs1 : ∀ (a b : Value), subscripted (.Slice (some lo) Option.none Option.none p) false a b = operate [b, a] (getItem a b) := by intro _ _; with_unfolding_all rfl)
    (hs2 : ∀ (a r : Value), letTemporaryGo v a r = Pure.pure () := by intro _ _; with_unfolding_all rfl) : Pe w A env C (.Subscript v (.Slice (some lo) Option.none Option.none p) pos) (TL (ys.drop k)) :=
  (lFrom (R := fun items => StrsAre items.toList ys) hC hv hlo (fun items h => by have := StrsAre.len h; rw [Array.length_toList] at this; omega) hs1 hs2).mono fun v s ⟨D, items, e, hl, hi⟩ => ⟨D, _, e, hl, by simpa using StrsAre.drop' hi k⟩
/-- the text of a small number -/
theorem Pe.strI {f e : PySem.Expr} {i : Int} {pos : Pos} (hC : Stb C) (hf : Pe w A env C f (VV (.type "str"))) (he : Pe w A env C e (II i)) (hz : i.natAbs.log2 < 1920)
    (h0 : eval (f.Call [e] [] pos) env = (do callWith pos (← eval f env) [] (backTo pos (starEach [e] env)) (backToKw pos (keywordEach [] env))) := by rfl)
    (h1 : starEach [e] env = (false, eval e env) :: starEach [] env := by rfl) : Pe w A env C (.Call f [e] [] pos) (SS (Str.ofString (toString i))) :=
  Pe.type1 hC hf he (fun a s _ ⟨t, ha⟩ => by subst ha; exact P.str_of_int hz ⟨⟨_, rfl⟩, ktok _ _⟩) h0 h1
theorem Pt.notInT {l r : PySem.Expr} {i : Int} {ns : List Int} {pos : Pos} (hC : Stb C) (hl : Pe w A env C l (II i)) (hr : Pe w A env C r (TI ns)) (hm : behindInMarks .NotIn r = false := by with_unfolding_all rfl) : Pt w A env C (.Compare l [.NotIn] [r] pos) (!(ns.any (· == i))) :=
  Pt.cmp hC II.stb hl hr (fun a b s _ ⟨_, ha⟩ ⟨D, items, e, ht, hi⟩ => by subst ha e; exact notin_tuple_ints ht hi ⟨rfl, kr _⟩) hm
theorem Pe.tup3 {e f g : PySem.Expr} {x y z : Int} {pos : Pos} {kx : Nat} (hC : Stb C) (he : Pe w A env C e (II x)) (hf : Pe w A env C f (II y)) (hg : Pe w A env C g (II z))
    (h1 : starEach [e, f, g] env = (false, eval e env) :: starEach [f, g] env := by rfl) (h2 : starEach [f, g] env = (false, eval f env) :: starEach [g] env := by rfl) (h3 : starEach [g] env = (false, eval g env) :: starEach [] env := by rfl) : Pe w A env C (.Tuple [e, f, g] kx pos) (TI [x, y, z]) := .of fun s hs =>
  wpAny_Tuple (args3 hC II.stb II.stb he hf hg hs (fun a b c s' ⟨ta, ha⟩ ⟨tb, hb⟩ ⟨tc, hc⟩ k => by
    subst ha hb hc
    exact ⟨by show 3 ≤ 2 ^ 24; decide, ⟨_, #[.int x ta, .int y tb, .int z tc], rfl, ⟨_, Heap.get?_push_size _ rfl, rfl, 0, rfl⟩, .cons x ta (.cons y tb (.cons z tc .nil))⟩, kt k (kpush _ _ _)⟩) h1 h2 h3)
theorem all_true {n : Nat} : (List.range n).all (fun _ => true) = true := by simp
/-- lists that are alike -/
theorem Pt.neT {l r : PySem.Expr} {ys : List Str} {n : Nat} {pos : Pos} (hC : Stb C) (hA : Fine n A) (hl : Pe w A env C l (TL ys)) (hr : Pe w A env C r (TL ys)) (hm : behindInMarks .NotEq r = false := by with_unfolding_all rfl) : Pt w A env C (.Compare l [.NotEq] [r] pos) false :=
  Pt.cmp hC TL.stb hl hr (fun a b s _ ⟨D, i1, e, h1, q1⟩ ⟨D', i2, e', h2, q2⟩ => by
    subst e e'
    have l1 := StrsAre.len q1
    have l2 := StrsAre.len q2
    rw [Array.length_toList] at l1 l2
    refine (SeqAt.RcNeAt.lists (e := fun _ => true) h1 h2 (by omega) hA.units fun j a b => ?_) pw w No _ ⟨by rw [all_true]; rfl, kr _⟩
    obtain ⟨x, hx, t, e⟩ := StrsAre.get q1 (i := j) (v := i1[j]) (by simp [a])
    obtain ⟨x', hx', t', e'⟩ := StrsAre.get q2 (i := j) (v := i2[j]) (by simp [b])
    rw [hx] at hx'; cases hx'
    rw [e, e']
    have := SeqAt.EqAt.str_str (A := A.in1) (s := s) x t x t'
    rwa [beq_self_eq_true] at this) hm
theorem Pe.eqI' {l r : PySem.Expr} {ys : List Int} {n : Nat} {pos : Pos} (hC : Stb C) (hA : Fine n A) (hl : Pe w A env C l (IL ys)) (hr : Pe w A env C r (IL ys)) (hm : behindInMarks .Eq r = false := by with_unfolding_all rfl) : Pe w A env C (.Compare l [.Eq] [r] pos) (BB true) :=
  Pe.cmp hC IL.stb hl hr (fun a b s _ ⟨D, i1, e, h1, q1⟩ ⟨D', i2, e', h2, q2⟩ => by
    subst e e'
    have l1 := IntsAre.len q1
    have l2 := IntsAre.len q2
    rw [Array.length_toList] at l1 l2
    refine SeqAt.eq_listAt (e := fun _ => true) h1 h2 (by omega) hA.units (fun j a b => ?_) ⟨by rw [all_true], kr _⟩
    obtain ⟨x, hx, t, e⟩ := IntsAre.get q1 (i := j) (v := i1[j]) (by simp [a])
    obtain ⟨x', hx', t', e'⟩ := IntsAre.get q2 (i := j) (v := i2[j]) (by simp [b])
    rw [hx] at hx'; cases hx'
    rw [e, e']
    have := SeqAt.EqAt.int_int (A := A.in1) (s := s) x t x t'
    rwa [beq_self_eq_true] at this) hm
theorem preSum_list (ns : List Int) : ∀ j, j ≤ ns.length → preSum (fun i => ns.getD i 0) j = (ns.take j).sum
  | 0, _ => by simp [preSum]
  | j + 1, h => by
    rw [preSum, preSum_list ns j (by omega), List.take_succ, List.getElem?_eq_getElem (by omega), List.sum_append, List.getD_eq_getElem?_getD, List.getElem?_eq_getElem (by omega)]
    simp
theorem Pe.sum {f e : PySem.Expr} {ns : List Int} {pos : Pos} (hC : Stb C) (hh : A.handled = Option.none) (hf : Pe w A env C f (VV (.builtin "sum"))) (he : Pe w A env C e (IL ns))
    (h0 : eval (f.Call [e] [] pos) env = (do callWith pos (← eval f env) [] (backTo pos (starEach [e] env)) (backToKw pos (keywordEach [] env))) := by rfl)
    (h1 : starEach [e] env = (false, eval e env) :: starEach [] env := by rfl) : Pe w A env C (.Call f [e] [] pos) (II ns.sum) :=
  Pe.call1 hC hf he (fun a s _ ⟨D, items, ha, hl, hi⟩ => by
    subst ha
    have ln := IntsAre.len hi
    rw [Array.length_toList] at ln
    have lt : D < s.heap.objs.size := by obtain ⟨o, ho, _⟩ := hl; exact Heap.lt_size ho
    refine call_sum_walkG (wpAny_pyIter_list hl ⟨_, _, _, _, _, _, fun i => ns.getD i 0, rfl, Walks.list (A := A.in1) hh s.heap.objs.size D (Nat.ne_of_lt lt) items, ⟨⟨_, Heap.get?_push_size _ rfl, rfl, rfl⟩, hl.push _⟩, ?_, ?_, fun h' tk t' hk => ⟨⟨t', ?_⟩, h', tk, rfl, fun b o e => hk b o ?_ (Heap.get?_push_of_some _ e)⟩⟩)
    · intro b hb
      show b < (s.heap.push _).objs.size
      rw [Heap.size_push]
      rcases List.mem_cons.mp hb with rfl | hb
      · exact Nat.lt_succ_self _
      · rw [List.mem_singleton.mp hb]; exact Nat.lt_succ_of_lt lt
    · intro i v hv
      obtain ⟨x, hx, t, e⟩ := IntsAre.get hi (i := i) (v := v) (by rw [Array.getElem?_toList]; exact hv)
      exact ⟨t, by rw [e]; show Value.int x t = Value.int (ns.getD i 0) t; rw [List.getD_eq_getElem?_getD, hx]; rfl⟩
    · rw [preSum_list ns _ (by omega), List.take_of_length_le (by omega)]
    · intro hm
      rw [List.mem_singleton.mp hm] at e
      exact absurd (Heap.lt_size e) (Nat.lt_irrefl _)) h0 h1
end
end Mine
end
section
-- part W22
open PySem PySem.W PyProof.Rows
set_option maxRecDepth 100000
set_option maxHeartbeats 0
set_option linter.all false
namespace Mine
local macro_rules | `(tactic| walk_at "put") => `(tactic| ((repeat' (first | exact List.forall_mem_nil _ | refine List.forall_mem_cons.mpr ⟨?_, ?_⟩)) <;> first | exact Or.inl rfl | exact Or.inr ⟨by k_mem, by dsimp only; decide⟩))
local macro_rules | `(tactic| walk_at "sub") => `(tactic| (repeat' (first | exact List.forall_mem_nil _ | refine List.forall_mem_cons.mpr ⟨by k_mem, ?_⟩)))
noncomputable abbrev lawE (L : Addr) : Env := envOfC "law" (fScp 17) L 137 (.ref 136)
def CellsAt (L : Addr) (c : Nat → Option Value) (h : Heap) : Prop := ∀ j : Nat, 1 ≤ j → j ≤ 6 → h.IsCell (L + j : Nat) (c j)
def upd (c : Nat → Option Value) (j : Nat) (v : Option Value) : Nat → Option Value := fun i => if i = j then v else c i
theorem upd_self {c : Nat → Option Value} {j : Nat} {v : Option Value} : upd c j v j = v := by simp [upd]
theorem upd_other {c : Nat → Option Value} {i j : Nat} {v u : Option Value} (h : c i = u) (ne : i ≠ j) : upd c j v i = u := by simp [upd, ne, h]
/-- within law: its frame's names, its cells, some lists, and a heap that stands but where W allows -/
def Lc (s₀ : Shared) (L : Addr) (l : List (Str × Value)) (c : Nat → Option Value) (Ls Ps : List (Addr × Array Value)) (hb : Heap) (W : Addr → Prop) (s : Shared) : Prop :=
  Fc s₀ L l s ∧ CellsAt L c s.heap ∧ (∀ p ∈ Ls, s.heap.IsList p.1 p.2) ∧ (∀ p ∈ Ps, s.heap.PlainList p.1 p.2) ∧ ∀ b o, ¬ W b → hb.get? b = some o → s.heap.get? b = some o
theorem list_ne_cell {h : Heap} {D a : Addr} {items : Array Value} {v : Option Value} (x : h.IsList D items) (y : h.IsCell a v) : D ≠ a := by
  rintro rfl
  obtain ⟨o, ho, _, n, hd⟩ := x
  obtain ⟨o', ho', hd'⟩ := y
  rw [ho] at ho'; cases ho'
  rw [hd] at hd'; cases hd'
theorem cell_at {h h' : Heap} {a : Addr} {v : Option Value} (x : h.IsCell a v) (e : ∀ o, h.get? a = some o → h'.get? a = some o) : h'.IsCell a v := let ⟨o, ho, hd⟩ := x; ⟨o, e o ho, hd⟩
section
variable {w : World} {A : Around} {E : Value → Shared → Prop} {s₀ s : Shared} {L : Addr} {l : List (Str × Value)} {c : Nat → Option Value} {Ls Ps : List (Addr × Array Value)} {hb : Heap} {W : Addr → Prop}
theorem Lc.stb : Stb (Lc s₀ L l c Ls Ps hb W) := fun _ _ ⟨a, b, d, e, f⟩ k =>
  ⟨Fc.stb _ _ a k, fun j h1 h2 => cell_at (b j h1 h2) fun o => kg k _ o, fun p hp => (d p hp).at fun o => kg k p.1 o, fun p hp => (e p hp).at fun o => kg k p.1 o, fun b o ne x => kg k b o (f b o ne x)⟩
theorem Lc.sub {l' : List (Str × Value)} {Ls' Ps' : List (Addr × Array Value)} (x : Lc s₀ L l c Ls Ps hb W s) (h : ∀ p ∈ l', p ∈ l) (h' : ∀ p ∈ Ls', p ∈ Ls ∨ p ∈ Ps) (h'' : ∀ p ∈ Ps', p ∈ Ps) : Lc s₀ L l' c Ls' Ps' hb W s :=
  ⟨x.1.sub h, x.2.1, fun p hp => (h' p hp).elim (x.2.2.1 p) fun q => (x.2.2.2.1 p q).isList, fun p hp => x.2.2.2.1 p (h'' p hp), x.2.2.2.2⟩
theorem Lc.addL {D : Addr} {items : Array Value} (x : Lc s₀ L l c Ls Ps hb W s) (h : s.heap.IsList D items) : Lc s₀ L l c ((D, items) :: Ls) Ps hb W s :=
  ⟨x.1, x.2.1, List.forall_mem_cons.mpr ⟨h, x.2.2.1⟩, x.2.2.2⟩
theorem Lc.addP {D : Addr} {items : Array Value} (x : Lc s₀ L l c Ls Ps hb W s) (h : s.heap.PlainList D items) : Lc s₀ L l c Ls ((D, items) :: Ps) hb W s :=
  ⟨x.1, x.2.1, x.2.2.1, List.forall_mem_cons.mpr ⟨h, x.2.2.2.1⟩, x.2.2.2.2⟩
theorem Lc.here {W' : Addr → Prop} (x : Lc s₀ L l c Ls Ps hb W s) : Lc s₀ L l c Ls Ps s.heap W' s := ⟨x.1, x.2.1, x.2.2.1, x.2.2.2.1, fun _ _ _ e => e⟩
theorem Lc.base {W' : Addr → Prop} (x : Lc s₀ L l c Ls Ps hb W s) : Lc s₀ L l c Ls Ps s₀.heap W' s := ⟨x.1, x.2.1, x.2.2.1, x.2.2.2.1, fun b o _ e => kg x.1.keeps b o e⟩
theorem Lc.redraw {d : Drawn} (x : Lc s₀ L l c Ls Ps hb W s) : Lc { s₀ with drawn := d } L l c Ls Ps hb W { s with drawn := d } := by
  obtain ⟨⟨h, t, m, rfl, F, hl⟩, r⟩ := x
  exact ⟨⟨h, t, m, rfl, F, hl⟩, r⟩
theorem Lc.says (x : Lc s₀ L l c Ls Ps hb W s) (Y : Says w s₀.heap) : Says w s.heap := x.1.says Y
/-- a store into a local name -/
theorem Lc.stL {x : Str} {v : Value} {l' : List (Str × Value)} {Q : Unit → Shared → Prop} (hF : Lc s₀ L l c Ls Ps hb W s) (hW : W L) (hl' : ∀ p ∈ l', p = (x, v) ∨ (p ∈ l ∧ p.1 ≠ x))
    (h : ∀ s', Lc s₀ L l' c Ls Ps hb W s' → Q () s') (hl : (lawE L).kindOf x = some .local := by rfl) : wpAny (M w) A (storeName (lawE L) x v) Q E s := by
  obtain ⟨hFc, hc, hls, hps, hbk⟩ := hF
  have nl : ∀ {D items}, s.heap.IsList D items → D ≠ L := fun h => hFc.ne_list h
  obtain ⟨hh, tk, m, rfl, F, hm⟩ := hFc
  refine wpAny_storeName_local hl F.ns (fun h' hn hs => ?_) (by rfl)
  have other : ∀ b o, b ≠ L → hh.get? b = some o → h'.get? b = some o := fun b o ne e => hs.extBut b o ne e
  refine h _ ⟨⟨h', _, _, rfl, F.set hn hs, fun p hp => ?_⟩, fun j h1 h2 => cell_at (hc j h1 h2) fun o => other _ o (Nat.ne_of_gt (Nat.lt_add_of_pos_right h1)), fun p hp => (hls p hp).at fun o => other _ o (nl (hls p hp)), fun p hp => (hps p hp).at fun o => other _ o (nl (hps p hp).isList),
    fun b o nw e => other b o (fun q => nw (q ▸ hW)) (hbk b o nw e)⟩
  rcases hl' p hp with rfl | ⟨a, b⟩
  · simp
  · simp [b, hm p a]
/-- a store into a cell -/
theorem Lc.stC {x : Str} {v : Value} {j : Nat} {Q : Unit → Shared → Prop} (hF : Lc s₀ L l c Ls Ps hb W s) (h1 : 1 ≤ j) (h6 : j ≤ 6) (hW : W (L + j : Nat))
    (h : ∀ s', Lc s₀ L l (upd c j (some v)) Ls Ps hb W s' → Q () s') (hc : (lawE L).cells.lookup x = some (L + j : Nat) := by rfl) (hl : (lawE L).kindOf x = some .cell := by rfl) : wpAny (M w) A (storeName (lawE L) x v) Q E s := by
  obtain ⟨hFc, hcs, hls, hps, hbk⟩ := hF
  have hcj := hcs j h1 h6
  have nl : ∀ {D items}, s.heap.IsList D items → D ≠ (L + j : Nat) := fun h => list_ne_cell h hcj
  obtain ⟨hh, tk, m, rfl, F, hm⟩ := hFc
  refine wpAny_storeName_cell rfl hl hc hcj fun h' hv hs => ?_
  have hLc : L < (L + j : Nat) := Nat.lt_add_of_pos_right h1
  have other : ∀ b o, b ≠ (L + j : Nat) → hh.get? b = some o → h'.get? b = some o := fun b o ne e => (hs.2 b ne).trans e
  refine h _ ⟨⟨h', tk, m, rfl, ⟨F.ns.sameBut hs (Nat.ne_of_lt hLc), fun b o e => other b o (Nat.ne_of_lt (Nat.lt_trans (Nat.lt_of_lt_of_le (Heap.lt_size e) F.above) hLc)) (F.keep b o e), F.above⟩, hm⟩, fun i a b => ?_,
    fun p hp => (hls p hp).at fun o => other _ o (nl (hls p hp)), fun p hp => (hps p hp).at fun o => other _ o (nl (hps p hp).isList), fun b o nw e => other b o (fun q => nw (q ▸ hW)) (hbk b o nw e)⟩
  by_cases q : i = j
  · subst q; rw [upd_self]; exact hv
  · rw [upd_other rfl q]
    exact cell_at (hcs i a b) fun o => other _ o fun e => q (Nat.add_left_cancel e)
theorem Lc.framed {sB s' : Shared} {l' : List (Str × Value)} {c' : Nat → Option Value} {Ls' Ps' : List (Addr × Array Value)} {h' : Heap} {tk : Nat} (xB : Lc s₀ L l c Ls Ps hb W sB) (x : Lc s₀ L l' c' Ls' Ps' s₀.heap W s') (nL : ∀ p ∈ Ls', sB.heap.get? p.1 ≠ none) (nP : ∀ p ∈ Ps', sB.heap.get? p.1 ≠ none)
    (kk : ∀ b o, sB.heap.get? b ≠ none → s'.heap.get? b = some o → h'.get? b = some o) : Lc s₀ L l' c' Ls' Ps' s₀.heap W { s' with heap := h', toks := tk } :=
  ⟨xB.1.framed x.1 kk, fun j h1 h2 => cell_at (x.2.1 j h1 h2) fun o => kk _ o (by obtain ⟨o', ho', _⟩ := xB.2.1 j h1 h2; rw [ho']; simp), fun p hp => (x.2.2.1 p hp).at fun o => kk _ o (nL p hp), fun p hp => (x.2.2.2.1 p hp).at fun o => kk _ o (nP p hp),
    fun b o nw e => kk b o (by rw [kg xB.1.keeps b o e]; simp) (x.2.2.2.2 b o nw e)⟩
/-- names -/
theorem Pe.lL {x : Str} {v : Value} {pos : Pos} (hx : (x, v) ∈ l) (hl : (lawE L).kindOf x = some .local := by rfl) (hd : (x == ("__debug__" : Str)) = false := by decide) : Pe w A (lawE L) (Lc s₀ L l c Ls Ps hb W) (.Name x pos) (VV v) :=
  Pe.gLoc (fun s h => by obtain ⟨hh, tk, m, rfl, F, hm⟩ := h.1; exact ⟨m, F.ns, hm _ hx⟩) rfl hl hd
theorem Pe.lC {x : Str} {v : Value} {j : Nat} {pos : Pos} (h1 : 1 ≤ j) (h6 : j ≤ 6) (hv : c j = some v) (hc : (lawE L).cells.lookup x = some (L + j : Nat) := by rfl) (hl : (lawE L).kindOf x = some .cell := by rfl) (hd : (x == ("__debug__" : Str)) = false := by decide) : Pe w A (lawE L) (Lc s₀ L l c Ls Ps hb W) (.Name x pos) (VV v) :=
  Pe.gCell (fun s h => hv ▸ h.2.1 j h1 h6) hc rfl hl hd
theorem Pe.lG {x : Str} {v : Value} {pos : Pos} (Y : Says w s₀.heap) (hv : mgF w.params x = some v) (hl : (lawE L).kindOf x = some .globalImplicit := by rfl) (hd : (x == ("__debug__" : Str)) = false := by decide) : Pe w A (lawE L) (Lc s₀ L l c Ls Ps hb W) (.Name x pos) (VV v) :=
  Pe.gGlob (fun s h => h.says Y) hv rfl rfl hl hd
theorem Pe.lB {x : Str} {v : Value} {pos : Pos} (Y : Says w s₀.heap) (hv : mgF w.params x = Option.none ∧ mbF w.params x = some v) (hl : (lawE L).kindOf x = some .globalImplicit := by rfl) (hd : (x == ("__debug__" : Str)) = false := by decide) : Pe w A (lawE L) (Lc s₀ L l c Ls Ps hb W) (.Name x pos) (VV v) :=
  Pe.gBlt (fun s h => h.says Y) hv rfl rfl rfl hl hd
theorem Pe.lTL {x : Str} {D : Addr} {items : Array Value} {ys : List Str} {pos : Pos} (hx : (x, Value.ref D) ∈ l) (hD : (D, items) ∈ Ls ∨ (D, items) ∈ Ps) (hi : StrsAre items.toList ys) (hl : (lawE L).kindOf x = some .local := by rfl) (hd : (x == ("__debug__" : Str)) = false := by decide) : Pe w A (lawE L) (Lc s₀ L l c Ls Ps hb W) (.Name x pos) (TL ys) :=
  Pe.monoC (Pe.lL hx hl hd) Lc.stb fun v s' h e => ⟨D, items, e, hD.elim (h.2.2.1 _) fun q => (h.2.2.2.1 _ q).isList, hi⟩
theorem Pe.lIL {x : Str} {D : Addr} {items : Array Value} {ys : List Int} {pos : Pos} (hx : (x, Value.ref D) ∈ l) (hD : (D, items) ∈ Ls ∨ (D, items) ∈ Ps) (hi : IntsAre items.toList ys) (hl : (lawE L).kindOf x = some .local := by rfl) (hd : (x == ("__debug__" : Str)) = false := by decide) : Pe w A (lawE L) (Lc s₀ L l c Ls Ps hb W) (.Name x pos) (IL ys) :=
  Pe.monoC (Pe.lL hx hl hd) Lc.stb fun v s' h e => ⟨D, items, e, hD.elim (h.2.2.1 _) fun q => (h.2.2.2.1 _ q).isList, hi⟩
/-- what a comprehension within law sees -/
def Rc (w : World) (L : Addr) (c : Nat → Option Value) (Ls : List (Addr × Array Value)) (h : Heap) : Prop := Says w h ∧ CellsAt L c h ∧ ∀ p ∈ Ls, h.IsList p.1 p.2
theorem Rc.stb : HStb (Rc w L c Ls) := fun h h' ⟨a, b, d⟩ e => ⟨a.keeps e, fun j h1 h2 => cell_at (b j h1 h2) fun o => e _ o, fun p hp => (d p hp).at fun o => e _ o⟩
theorem Lc.rc (x : Lc s₀ L l c Ls Ps hb W s) (Y : Says w s₀.heap) : Rc w L c Ls s.heap := ⟨x.says Y, x.2.1, x.2.2.1⟩
/-- the call of law -/
theorem call_law {v1 : Value} {n : Nat} {Q : Value → Shared → Prop} (Y : Says w s.heap) (hA : Fine (n + 1) A)
    (h : ∀ L c s', Lc s L [(Str.ofString "script", v1)] c [] [] s.heap (fun _ => False) s' → Fine n (A.deeper (lawE L)) →
      wpAny (M w) (A.deeper (lawE L)) (execs (fBod 17) (lawE L)) (fun f s' => Q (match f with | .ret v => v | _ => .none) s') No s') :
    wpAny (M w) A (call (.ref 137) [v1]) Q E s :=
  wpAny_call (call_cells_ret (name := "law") (params := fPar 17) (body := fBod 17) (scope := fScp 17) (pm := .str "law_re0130_01" 2247) (cd := .ref 136) (doc := .none) (binds := [(Str.ofString "script", v1)])
    hA.room (Y 137 (o137xf w.params) (by kernel_rfl!)) (by rfl) Y.nolimit ⟨136, o136xf w.params, _, _, rfl, Y 136 _ (by kernel_rfl!), rfl, rfl⟩ (by rfl)
    (List.forall_mem_cons.mpr ⟨.inl (by kernel_rfl!), List.forall_mem_nil _⟩)
    (fun h₁ tk F X => h _ _ _ ⟨⟨h₁, tk, _, rfl, F, List.forall_mem_cons.mpr ⟨by rfl, List.forall_mem_nil _⟩⟩, fun j h1 h2 => (by
        have q : ∀ n a, (cellsFrom (s.heap.objs.size + 1) (fScp 17).names []).lookup n = some a → h₁.IsCell a none := fun n a e => X.cell n a e
        match j, h1, h2 with
        | 1, _, _ => exact q (Str.ofString "word") _ (by rfl)
        | 2, _, _ => exact q (Str.ofString "told") _ (by rfl)
        | 3, _, _ => exact q (Str.ofString "choice") _ (by rfl)
        | 4, _, _ => exact q (Str.ofString "part") _ (by rfl)
        | 5, _, _ => exact q (Str.ofString "out") _ (by rfl)
        | 6, _, _ => exact q (Str.ofString "low") _ (by rfl) : h₁.IsCell (s.heap.objs.size + j : Nat) ((fun _ => none) j)), List.forall_mem_nil _, List.forall_mem_nil _, fun b o _ e => F.keep b o e⟩ hA.deeper)
    (by rfl) (by rfl) (by rfl))
end
end Mine
end
section
-- part W23
open PySem PySem.W PyProof.Rows
set_option maxRecDepth 100000
set_option maxHeartbeats 0
set_option linter.all false
namespace Mine
section
variable {w : World} {A : Around} {E : Value → Shared → Prop} {env : Env} {C : Shared → Prop} {s₀ s : Shared} {L : Addr} {l : List (Str × Value)} {c : Nat → Option Value} {Ls Ps : List (Addr × Array Value)} {hb : Heap} {W : Addr → Prop}
/-- what a comprehension that is stored into a local name leaves -/
theorem Lc.after {y : Str} {D : Addr} {s₂ : Shared} {wr : List Addr} {h' : Heap} {tk : Nat} {l' : List (Str × Value)} {ys : Array Value} {m' : Str → Option Value} (x : Lc s₀ L l c Ls Ps hb W s) (k : Keeps s s₂) (hW : W L) (hwr : ∀ b ∈ wr, s.heap.get? b = none)
    (hm' : ∀ p ∈ l, p.1 ≠ y → m' p.1 = some p.2) (hy : m' y = some (.ref D)) (hl' : ∀ p ∈ l', p = (y, .ref D) ∨ (p ∈ l ∧ p.1 ≠ y)) (hns : h'.Ns L m') (hl : h'.IsList D ys) (hk : ∀ b o, b ≠ L → b ∉ wr → s₂.heap.get? b = some o → h'.get? b = some o) :
    Lc s₀ L l' c ((D, ys) :: Ls) Ps hb W { s₂ with heap := h', toks := tk } := by
  have other : ∀ b o, b ≠ L → s.heap.get? b = some o → h'.get? b = some o := fun b o ne e => hk b o ne (fun hb => by rw [hwr b hb] at e; cases e) (kg k b o e)
  obtain ⟨hF, hc, hls, hps, hbk⟩ := x
  have nl : ∀ {D items}, s.heap.IsList D items → D ≠ L := fun h => hF.ne_list h
  obtain ⟨hh, t, m, rfl, F, hm⟩ := hF
  obtain ⟨h2, t2, rfl, k2⟩ := k
  refine ⟨⟨h', tk, m', rfl, ⟨hns, fun b o e => other b o (Nat.ne_of_lt (Nat.lt_of_lt_of_le (Heap.lt_size e) F.above)) (F.keep b o e), F.above⟩, fun p hp => ?_⟩, fun j h1 h2 => cell_at (hc j h1 h2) fun o => other _ o (Nat.ne_of_gt (Nat.lt_add_of_pos_right h1)), List.forall_mem_cons.mpr ⟨hl, fun p hp => (hls p hp).at fun o => other _ o (nl (hls p hp))⟩, fun p hp => (hps p hp).at fun o => other _ o (nl (hps p hp).isList),
    fun b o nw e => other b o (fun q => nw (q ▸ hW)) (hbk b o nw e)⟩
  rcases hl' p hp with rfl | ⟨a, b⟩
  · exact hy
  · exact hm' p a b
/-- name = [.. for x in ..] -/
theorem Lc.asgComp {κ : Type} {Is : κ → Value → Prop} {k : Value → κ} (hk : ∀ x v, Is x v → k v = x) {elt iter : PySem.Expr} {x y : Str} {px py pos spos : Pos} {ifs : List PySem.Expr} {scope : Scope} {cl : List (Str × Addr)} {Lk : List κ} (hW : W L) (Y : Says w s₀.heap) (hA : A.handled = none)
    (src : SrcK Is w A (lawE L) (Lc s₀ L l c Ls Ps hb W) iter Lk fun _ => True) (hn : Lk.length ≤ 1000000) (p : κ → Bool) (G : κ → Value → Prop)
    (hsw : swapsWith (.ListComp elt [⟨.Name x px, iter, ifs, 0⟩] scope pos) (some (.Name y py)) spos.line (lawE L) = pure true)
    (hclos : closureFor scope (lawE L) = Pure.pure cl) (hcell : ∀ y ∈ scope.names, y.2 ≠ .cell) (hkind : scope.kind = .function)
    (hnames : ∀ y ∈ scope.names, y.2 = .local → scope.names.lookup y.1 = some .local) (hx : scope.names.lookup x = some .local)
    (tests : ∀ Cn a v, a ∈ Lk → Is a v → ∀ s, (Rc w L c Ls s.heap ∧ ∃ m, s.heap.Ns Cn m ∧ m x = some v) → wpAny (M w) A (forIn ifs true fun c r => if r = true then do let ok ← isTrue c (compEnvC scope cl Cn (lawE L)) (eval c (compEnvC scope cl Cn (lawE L))); Pure.pure (ForInStep.yield ok) else Pure.pure (ForInStep.yield r)) (fun ok s' => ok = p a ∧ Keeps s s') No s)
    (elts : ∀ Cn a v, a ∈ Lk → Is a v → p a = true → Pe w A (compEnvC scope cl Cn (lawE L)) (Hc fun h => Rc w L c Ls h ∧ ∃ m, h.Ns Cn m ∧ m x = some v) elt (fun y _ => G a y))
    {l' : Addr → List (Str × Value)} (hl' : ∀ D, ∀ p ∈ l' D, p = (y, .ref D) ∨ (p ∈ l ∧ p.1 ≠ y)) (hsC : Lc s₀ L l c Ls Ps hb W s) {Q : Flow → Shared → Prop}
    (h : ∀ D ys s', Lc s₀ L (l' D) c ((D, ys) :: Ls) Ps hb W s' → Paired G (Lk.filter p) ys.toList → Q .next s')
    (hy : (lawE L).kindOf y = some .local := by rfl) (hs : ∀ x, foldedSetIterable iter (lawE L) x = Pure.pure x := by intro _; rfl) :
    wpAny (M w) A (exec (.Assign [.Name y py] (.ListComp elt [⟨.Name x px, iter, ifs, 0⟩] scope pos) spos) (lawE L)) Q No s := by
  obtain ⟨Pv, sr, hL⟩ := src
  have mem : ∀ {i : Nat} {a : κ}, Lk[i]? = some a → a ∈ Lk := fun h => List.mem_of_getElem? h
  refine wpAny_Assign_ListComp_free (fun v => p (k v)) (fun v y => G (k v) y) hsw hclos hcell hkind hnames hx hy (by rfl) (wpAny_mono (sr s hsC) (fun xv s₁ h₁ => wpAny_mono h₁ (fun it s₂ h₂ => ?_) fun _ _ e => e) fun _ _ e => e) hs
  obtain ⟨I, fp, wr, St, rfl, Wk, st0, hfp, hwr, _, kk⟩ := h₂
  have old : ∀ {h' : Heap}, (∀ b o, b ∉ wr → s₂.heap.get? b = some o → h'.get? b = some o) → Ex s.heap h' := fun hh b o e => hh b o (fun hb => by rw [hwr b hb] at e; cases e) (kg kk b o e)
  have C₂ := Lc.stb _ _ hsC kk
  obtain ⟨h2, t2, m2, e2, F2, hm2⟩ := id C₂.1
  have hns : s₂.heap.Ns L m2 := by rw [e2]; exact F2.ns
  refine ⟨I, fp, wr, Lk.length, Pv, St, m2, rfl, Wk A hA, by unfold sizeLine; omega, st0, hfp, fun hm => hsC.1.has (hwr _ hm), hns, ⟨fun Cn i v s₃ m₃ E' _ hp hns hm hk' _ => ?_, fun Cn i v s₃ m₃ E' _ hp hpv hns hm hk' _ => ?_⟩, fun D h' tk ys vs hD hl hpl hlen hP hF hns' hk' => ?_⟩
  · obtain ⟨a, ha, q⟩ := hL i v hp
    refine wpAny_mono (tests Cn a v (mem ha) q s₃ ⟨Rc.stb _ _ (hsC.rc Y) (old hk'), m₃, hns, hm⟩) (fun _ _ x => ?_) fun _ _ x => x.elim
    rw [hk a v q]; exact x
  · obtain ⟨a, ha, q⟩ := hL i v hp
    rw [hk a v q] at hpv
    refine wpAny_mono ((elts Cn a v (mem ha) q hpv).f s₃ ⟨Rc.stb _ _ (hsC.rc Y) (old hk'), m₃, hns, hm⟩) (fun _ _ x => ?_) fun _ _ x => x.elim
    rw [hk a v q]; exact x
  · refine h D ys _ (hsC.after (m' := fun z => if z = y then some (.ref D) else m2 z) kk hW hwr (fun p hp ne => by simp [ne, hm2 p hp]) (by simp) (hl' D) hns' hl hk') ?_
    have all := comp_all hk hL hlen hP
    have := Paired.of_map (F := G) (k := k) hF
    have fm : (vs.filter fun v => p (k v)).map k = (vs.map k).filter p := by rw [List.filter_map]; rfl
    rwa [fm, all] at this
/-- a comprehension over a text that is known but by what is true of it -/
theorem compE {elt iter : PySem.Expr} {x : Str} {px pos : Pos} {ifs : List PySem.Expr} {scope : Scope} {cl : List (Str × Addr)} {R : Heap → Prop} {G : Str → Prop} (hR : HStb R) (hC : ∀ s, C s → R s.heap) (hA : A.handled = none)
    (he : Pe w A env C iter (fun v _ => ∃ x t, v = .str x t ∧ G x)) (hn : ∀ x, G x → x.length ≤ 1000000) (p : Str → Bool) (F : Str → Value → Prop)
    (hclos : closureFor scope env = Pure.pure cl) (hcell : ∀ y ∈ scope.names, y.2 ≠ .cell) (hkind : scope.kind = .function)
    (hnames : ∀ y ∈ scope.names, y.2 = .local → scope.names.lookup y.1 = some .local) (hx : scope.names.lookup x = some .local)
    (tests : ∀ Cn z cc u, G z → cc ∈ sg z → ∀ s, (R s.heap ∧ ∃ m, s.heap.Ns Cn m ∧ m x = some (.str ⟨#[cc]⟩ u)) → wpAny (M w) A (forIn ifs true fun c r => if r = true then do let ok ← isTrue c (compEnvC scope cl Cn env) (eval c (compEnvC scope cl Cn env)); Pure.pure (ForInStep.yield ok) else Pure.pure (ForInStep.yield r)) (fun ok s' => ok = p ⟨#[cc]⟩ ∧ Keeps s s') No s)
    (elts : ∀ Cn z cc u, G z → cc ∈ sg z → p ⟨#[cc]⟩ = true → Pe w A (compEnvC scope cl Cn env) (Hc fun h => R h ∧ ∃ m, h.Ns Cn m ∧ m x = some (.str ⟨#[cc]⟩ u)) elt (fun y _ => F ⟨#[cc]⟩ y))
    (hs : ∀ x, foldedSetIterable iter env x = Pure.pure x := by intro _; rfl) :
    Pe w A env C (.ListComp elt [⟨.Name x px, iter, ifs, 0⟩] scope pos) (fun v s' => ∃ z D ys, G z ∧ v = .ref D ∧ s'.heap.IsList D ys ∧ Paired F ((signs1 z).filter p) ys.toList) := .of fun s hsC => by
  refine wpAny_ListComp_free (fun v => p (kS v)) (fun v y => F (kS v) y) hclos hcell hkind hnames hx (wpAny_mono (he.f s hsC) (fun xv s₁ h₁ => ?_) fun _ _ e => e) hs
  obtain ⟨⟨z, t, rfl, hG⟩, k⟩ := h₁
  refine wpAny_pyIter_str fun o St Wk st0 => ?_
  have old : ∀ {h' : Heap}, (∀ b o', b ∉ [s₁.heap.objs.size] → (s₁.heap.push o).get? b = some o' → h'.get? b = some o') → Ex s.heap h' := fun hh b o' e => hh b o' (fun hb => by
    rw [List.mem_singleton.mp hb] at e
    rw [fresh_size k] at e; cases e) (Heap.get?_push_of_some _ (kg k b o' e))
  refine ⟨_, _, _, _, _, St, rfl, Wk A hA, by have := hn z hG; unfold sizeLine; show z.length ≤ _; omega, st0, fun b hb => ?_, ⟨fun Cn i v s₃ m₃ E' _ hp hns hm hk' _ => ?_, fun Cn i v s₃ m₃ E' _ hp hpv hns hm hk' _ => ?_⟩, fun D h' tk ys vs hD hl hpl hlen hP hF hk' => ?_⟩
  · rw [List.mem_singleton.mp hb]; show _ < (s₁.heap.push o).objs.size; rw [Heap.size_push]; exact Nat.lt_succ_self _
  · obtain ⟨cc, u, hcc, rfl⟩ := hp
    exact wpAny_mono (tests Cn z cc u hG (List.mem_of_getElem? (by rw [Array.getElem?_toList]; exact hcc)) s₃ ⟨hR _ _ (hC s hsC) (old hk'), m₃, hns, hm⟩) (fun _ _ x => x) fun _ _ x => x.elim
  · obtain ⟨cc, u, hcc, rfl⟩ := hp
    exact wpAny_mono ((elts Cn z cc u hG (List.mem_of_getElem? (by rw [Array.getElem?_toList]; exact hcc)) hpv).f s₃ ⟨hR _ _ (hC s hsC) (old hk'), m₃, hns, hm⟩) (fun _ _ x => x) fun _ _ x => x.elim
  · have all : vs.map kS = signs1 z := comp_all (Is := IsS) (Pv := SignAt z) (fun _ _ => kS_is) (fun i v ⟨cc, u, hcc, e⟩ => ⟨⟨#[cc]⟩, by simp [signs1, hcc], u, e⟩) (by rw [hlen, signs1_length]; rfl) hP
    have := Paired.of_map (F := F) (k := kS) hF
    have fm : (vs.filter fun v => p (kS v)).map kS = (vs.map kS).filter p := by rw [List.filter_map]; rfl
    rw [fm, all] at this
    obtain ⟨h1, t1, rfl, k1⟩ := k
    exact ⟨⟨z, D, ys, hG, rfl, hl, this⟩, h', tk, rfl, old hk'⟩
theorem Pe.joinE {e : PySem.Expr} {x : Str} {H : List Str → Prop} {k apos pos p1} (he : Pe w A env C e (fun v s => ∃ ys, H ys ∧ TL ys v s)) (hC : Stb C) (hok : ∀ ys, H ys → (ys.map (·.length)).sum + ys.length * x.length ≤ 16777216)
    (h1 : starEach [e] env = (false, eval e env) :: starEach [] env := by rfl)
    (h0 : ∃ pl, eval ((PySem.Expr.Attribute (.Constant (.str x) k p1) "join" apos).Call [e] [] pos) env = (do
          let ov ← eval (.Constant (.str x) k p1) env
          standAt apos.atName
          let (f, first) ← holding [ov] (getMethod ov "join" pl)
          callWith pos f first (backTo pos (starEach [e] env)) []) := by exact ⟨_, rfl⟩) :
    Pe w A env C (.Call (.Attribute (.Constant (.str x) k p1) "join" apos) [e] [] pos) (fun v _ => ∃ ys, H ys ∧ ∃ t, v = .str (Txt.join x ys) t) := .of fun s hs => by
  obtain ⟨pl, h0⟩ := h0
  refine MethodCall_ (pl := pl) (wpAny_Constant_str (GM.join ?_)) h0
  refine callWith_method1 (args1 he (hC _ _ hs (ktok _ _)) (fun a s₂ ⟨ys, hH, D, items, ha, hl, hi⟩ k' => ?_) h1) h1 rfl
  subst ha
  exact join_list hl hi (hok ys hH) fun t' k => ⟨⟨ys, hH, _, rfl⟩, kt (kt (ktok _ _) k') (ktok _ _)⟩
/-- x.insert(k, e) as a statement -/
theorem insert_no {o i e : PySem.Expr} {apos pos spos : Pos} {D : Addr} {items : Array Value} {k : Nat} {P1 : Value → Shared → Prop} {Q : Flow → Shared → Prop} (hC : Stb C) (hs : C s) (ho : Pe w A env C o (VV (.ref D))) (hi : Pe w A env C i (II k)) (he : Pe w A env C e P1) (hl : ∀ s', C s' → s'.heap.PlainList D items) (hz : items.size ≤ 1000) (hk : k ≤ items.size)
    (h : ∀ v s₁ h', P1 v s₁ → C s₁ → Keeps s s₁ → Heap.SameBut D s₁.heap h' → h'.PlainList D (items.toList.take k ++ v :: items.toList.drop k).toArray → Q .next { s₁ with heap := h' })
    (h1 : starEach [i, e] env = (false, eval i env) :: starEach [e] env := by rfl) (h2 : starEach [e] env = (false, eval e env) :: starEach [] env := by rfl)
    (h3 : (backTo pos (starEach [e] env)).any (·.1) = false := by rfl)
    (h0 : ∃ pl, eval ((PySem.Expr.Attribute o "insert" apos).Call [i, e] [] pos) env = (do
          let ov ← eval o env
          standAt apos.atName
          let (f, first) ← holding [ov] (getMethod ov "insert" pl)
          callWith pos f first (backTo pos (starEach [i, e] env)) []) := by exact ⟨_, rfl⟩)
    (hin : interactive env = false := by rfl) (hsw : swapsWith (.Call (.Attribute o "insert" apos) [i, e] [] pos) Option.none spos.line env = Pure.pure false := by rfl) :
    wpAny (M w) A (exec (.Expr (.Call (.Attribute o "insert" apos) [i, e] [] pos) spos) env) Q No s := by
  obtain ⟨pl, h0⟩ := h0
  refine wpAny_Expr_any (MethodCall_ (pl := pl) (Pe.run hs ho (fun v s₁ ev C₁ k₁ => ?_) hC) h0) hin hsw
  cases ev
  obtain ⟨n₁, g₁⟩ := hl s₁ C₁
  refine getMethod_builtin ⟨_, g₁, rfl⟩ PySem.F.plainAttrs_list PySem.F.slot_list_insert PySem.F.type_list_insert (fun b q => by injection q with q; subst q; exact ⟨_, g₁, rfl⟩) (callWith_method1 (args2 hC II.stb hi he C₁ (fun a v s₂ ⟨u, ha⟩ hv k₂ => ?_) h1 h2) h1 h3)
  subst ha
  have C₂ := hC _ _ C₁ k₂
  obtain ⟨n₂, g₂⟩ := hl s₂ C₂
  have szi : items.size ≤ sizeLine := by unfold sizeLine; omega
  obtain ⟨i', hi'⟩ : ∃ i' : Int, (k : Int) = i' := ⟨_, rfl⟩
  rw [hi']
  have fit : Builtin.List.listFitsIndex i' = true := by
    unfold Builtin.List.listFitsIndex
    rw [Bool.and_eq_true, decide_eq_true_eq, decide_eq_true_eq]
    omega
  have nf : ¬ (!Builtin.List.listFitsIndex i') = true := by rw [fit]; exact Bool.false_ne_true
  refine call_meets PySem.F.slot_list_insert ⟨_, g₂, rfl⟩ PySem.F.entry_list_insert (PySem.F.args_list_insert_3 _ _ _) (@PySem.AutoSeq1.list_insert_list_int_val_1 D items n₂ i' u v nf szi) ⟨g₂, ?_⟩
  refine h v s₂ _ hv C₂ (kt k₁ k₂) ⟨?_, fun a ne => Heap.get?_update_other _ _ (Ne.symm ne)⟩ ⟨if ((items.toList.take k ++ v :: items.toList.drop k).toArray.size == items.size) = true then n₂ else n₂ + 1, ?_⟩
  · exact Heap.size_update _ _ _
  · rw [Heap.get?_update_self _ g₂ (by rfl)]
    have i0 : ¬ i' < 0 := by omega
    have ik : min i'.toNat items.size = k := by omega
    have e : (items.extract 0 k).push v ++ items.extract k = (items.toList.take k ++ v :: items.toList.drop k).toArray := by
      apply Array.toList_inj.mp
      rw [Array.toList_append, Array.toList_push, Array.toList_extract, Array.toList_extract, List.extract_eq_take_drop, List.extract_eq_take_drop, List.append_assoc]
      simp [List.take_of_length_le]
    unfold Obj.mapSeq
    dsimp only
    rw [if_neg i0, ik, e]
end
end Mine
end
section
-- part W24
open PySem PySem.W PyProof.Rows
set_option maxRecDepth 100000
set_option maxHeartbeats 0
set_option linter.all false
namespace Mine
section
variable {w : World} {A : Around} {E : Value → Shared → Prop} {s₀ s : Shared} {L : Addr} {l : List (Str × Value)} {c : Nat → Option Value} {Ls Ps : List (Addr × Array Value)} {hb : Heap} {W : Addr → Prop}
theorem take_zip_succ {α β : Type} {xs : List α} {ys : List β} {i : Nat} {x : α} {y : β} (hx : xs[i]? = some x) (hy : ys[i]? = some y) : (xs.zip ys).take (i + 1) = (xs.zip ys).take i ++ [(x, y)] := by
  rw [List.take_succ, List.getElem?_zip_eq_some (z := (x, y)).mpr ⟨hx, hy⟩]; rfl
/-- y = [b for a, b in zip(e1, e2) if tst]: texts and ints -/
theorem Lc.asgZip {e1 e2 fz tst : PySem.Expr} {a b y : Str} {pa pb tp py pv pc pos spos : Pos} {kk : Nat} {scope : Scope} {cl : List (Str × Addr)} {D1 D2 : Addr} {i1 i2 : Array Value} {xs : List Str} {ns : List Int} (hW : W L) (Y : Says w s₀.heap) (hA : A.handled = none)
    (hf : Pe w A (lawE L) (Lc s₀ L l c Ls Ps hb W) fz (VV (.type "zip"))) (he1 : Pe w A (lawE L) (Lc s₀ L l c Ls Ps hb W) e1 (VV (.ref D1))) (he2 : Pe w A (lawE L) (Lc s₀ L l c Ls Ps hb W) e2 (VV (.ref D2)))
    (h1 : (D1, i1) ∈ Ls ∨ (D1, i1) ∈ Ps) (h2 : (D2, i2) ∈ Ls ∨ (D2, i2) ∈ Ps) (hx : StrsAre i1.toList xs) (hn : IntsAre i2.toList ns) (hz : i1.size ≤ 1000) (p : Str × Int → Bool)
    (hsw : swapsWith (.ListComp (.Name b pv) [⟨.Tuple [.Name a pa, .Name b pb] kk tp, .Call fz [e1, e2] [] pc, [tst], 0⟩] scope pos) (some (.Name y py)) spos.line (lawE L) = pure true)
    (hclos : closureFor scope (lawE L) = Pure.pure cl) (hcell : ∀ y ∈ scope.names, y.2 ≠ .cell) (hkind : scope.kind = .function)
    (hnames : ∀ y ∈ scope.names, y.2 = .local → scope.names.lookup y.1 = some .local) (hxa : scope.names.lookup a = some .local) (hxb : scope.names.lookup b = some .local) (hab : ¬ a = b) (hdb : (b == ("__debug__" : Str)) = false)
    (test : ∀ Cn x t n u, x ∈ xs → Pt w A (compEnvC scope cl Cn (lawE L)) (Hc fun h => Rc w L c Ls h ∧ ∃ m, h.Ns Cn m ∧ m a = some (.str x t) ∧ m b = some (.int n u)) tst (p (x, n)))
    {l' : Addr → List (Str × Value)} (hl' : ∀ D, ∀ p ∈ l' D, p = (y, .ref D) ∨ (p ∈ l ∧ p.1 ≠ y)) (hsC : Lc s₀ L l c Ls Ps hb W s) {Q : Flow → Shared → Prop}
    (h : ∀ D ys s', Lc s₀ L (l' D) c ((D, ys) :: Ls) Ps hb W s' → IntsAre ys.toList (((xs.zip ns).filter p).map (·.2)) → Q .next s')
    (hy : (lawE L).kindOf y = some .local := by rfl) (hs : ∀ x, foldedSetIterable (.Call fz [e1, e2] [] pc) (lawE L) x = Pure.pure x := by intro _; rfl)
    (q0 : eval (fz.Call [e1, e2] [] pc) (lawE L) = (do callWith pc (← eval fz (lawE L)) [] (backTo pc (starEach [e1, e2] (lawE L))) (backToKw pc (keywordEach [] (lawE L)))) := by rfl)
    (q1 : starEach [e1, e2] (lawE L) = (false, eval e1 (lawE L)) :: starEach [e2] (lawE L) := by rfl) (q2 : starEach [e2] (lawE L) = (false, eval e2 (lawE L)) :: starEach [] (lawE L) := by rfl) (q3 : (backTo pc (starEach [e2] (lawE L))).any (·.1) = false := by rfl) :
    wpAny (M w) A (exec (.Assign [.Name y py] (.ListComp (.Name b pv) [⟨.Tuple [.Name a pa, .Name b pb] kk tp, .Call fz [e1, e2] [] pc, [tst], 0⟩] scope pos) spos) (lawE L)) Q No s := by
  have lx := StrsAre.len hx
  have ln := IntsAre.len hn
  rw [Array.length_toList] at lx ln
  rw [exec_Assign_Name_used _ _ _ _ hsw]
  refine wpAny_bind (wpAny_standAt (wpAny_bind ?_))
  show wpAny _ A (do let _ ← comprehension (.ListComp (.Name b pv) [⟨.Tuple [.Name a pa, .Name b pb] kk tp, .Call fz [e1, e2] [] pc, [tst], 0⟩] scope pos) scope (lawE L) _ (newList []) false (eval (.Call fz [e1, e2] [] pc) (lawE L)) (some (assign (.Name y py) (lawE L)))) _ _ s
  refine wpAny_bind (wpAny_mono (wpAny_comprehension_free (use := some (assign (.Name y py) (lawE L))) (Q := fun _ s' => Q .next s') rfl hs hclos hkind hnames
    (Call_ (Pe.run hsC hf (fun v s₁ ev C₁ k₁ => ?_) Lc.stb) q0)) (fun _ s' hq => wpAny_pure (wpAny_pure hq)) fun _ _ e => e)
  cases ev
  refine PyProof.Rows.callWith_type1 (args2 Lc.stb VV.stb he1 he2 C₁ (fun va vb s₂ ha hb' k₂ => ?_) q1 q2) q1 q3
  cases ha; cases hb'
  have C₂ := Lc.stb _ _ C₁ k₂
  have k12 := kt k₁ k₂
  have isl : ∀ {D i}, ((D, i) ∈ Ls ∨ (D, i) ∈ Ps) → s₂.heap.IsList D i := fun q => q.elim (C₂.2.2.1 _) fun q => (C₂.2.2.2.1 _ q).isList
  have hl1 := isl h1
  have hl2 := isl h2
  have lt1 : D1 < s₂.heap.objs.size := by obtain ⟨o, ho, _⟩ := hl1; exact Heap.lt_size ho
  have lt2 : D2 < s₂.heap.objs.size := by obtain ⟨o, ho, _⟩ := hl2; exact Heap.lt_size ho
  refine call_zip_2 hl1 hl2 fun H hz' hTI hTO hit1 hit2 hsz hk => ?_
  have Wk := WalksT.zip2 (prog := pw) (w := w) hA (s₂.heap.objs.size + 4) (s₂.heap.objs.size + 2) (s₂.heap.objs.size + 3) s₂.heap.objs.size (s₂.heap.objs.size + 1) D1 D2 (zipApart_new lt1 lt2) i1 i2
  refine Wk.self 0 _ _ _ ⟨hz', hTI, ⟨_, _, hTO⟩, hit1, hit2, hl1.at fun o => hk _ o, hl2.at fun o => hk _ o⟩ ?_
  refine wpAny_newObj_type (wpAny_newFunctionEnv hcell (by intro y hy; simp at hy) (fun h₁ hns₁ hsb₁ => ?_) hkind)
  dsimp only at hns₁ hsb₁ ⊢
  generalize hN : s₂.heap.objs.size = N at *
  generalize hH2 : H.push { cls := .type "list", dict := none, data := .seq ([] : List Value).toArray } = H2 at hns₁ hsb₁ ⊢
  have hC6 : H2.objs.size = N + 6 := by rw [← hH2, Heap.size_push, hsz]
  rw [hC6] at hns₁ hsb₁ ⊢
  rw [hsz]
  have old₁ : ∀ b o, s₂.heap.get? b = some o → h₁.get? b = some o := fun b o e => by
    have lt := Heap.lt_size e
    rw [hN] at lt
    refine hsb₁.extBut b o (Nat.ne_of_lt (Nat.lt_of_lt_of_le lt (Nat.le_add_right _ _))) (Heap.get?_push_of_some _ (hH2 ▸ Heap.get?_push_of_some _ (hk b o e)))
  have hacc : h₁.get? (N + 5) = some { cls := .type "list", data := .seq (([] : List Value).toArray) } := by
    refine hsb₁.extBut _ _ (Nat.ne_of_lt (Nat.lt_succ_self _)) (Heap.get?_push_of_some _ ?_)
    rw [← hH2, ← hsz]; exact Heap.get?_push_size _ rfl
  have inN : ∀ {b o}, s₂.heap.get? b = some o → b < N := fun e => hN ▸ Heap.lt_size e
  -- the addresses that a turn writes
  have fpOk : ∀ b ∈ [N + 4, N + 2, N + 3, N, N + 1, D1, D2], b ≠ N + 5 ∧ b ≠ N + 6 := fun b hb => by
    have t1 : (D1 : Nat) < N := lt1
    have t2 : (D2 : Nat) < N := lt2
    simp only [List.mem_cons, List.not_mem_nil, or_false] at hb
    rcases hb with rfl | rfl | rfl | rfl | rfl | rfl | rfl
    · exact ⟨Nat.ne_of_lt (Nat.lt_succ_self _), Nat.ne_of_lt (Nat.lt_of_lt_of_le (Nat.lt_succ_self _) (Nat.le_succ _))⟩
    · exact ⟨Nat.ne_of_lt (Nat.add_lt_add_left (by decide) _), Nat.ne_of_lt (Nat.add_lt_add_left (by decide) _)⟩
    · exact ⟨Nat.ne_of_lt (Nat.add_lt_add_left (by decide) _), Nat.ne_of_lt (Nat.add_lt_add_left (by decide) _)⟩
    · exact ⟨Nat.ne_of_lt (Nat.lt_add_of_pos_right (by decide)), Nat.ne_of_lt (Nat.lt_add_of_pos_right (by decide))⟩
    · exact ⟨Nat.ne_of_lt (Nat.add_lt_add_left (by decide) _), Nat.ne_of_lt (Nat.add_lt_add_left (by decide) _)⟩
    · exact ⟨Nat.ne_of_lt (Nat.lt_of_lt_of_le t1 (Nat.le_add_right _ _)), Nat.ne_of_lt (Nat.lt_of_lt_of_le t1 (Nat.le_add_right _ _))⟩
    · exact ⟨Nat.ne_of_lt (Nat.lt_of_lt_of_le t2 (Nat.le_add_right _ _)), Nat.ne_of_lt (Nat.lt_of_lt_of_le t2 (Nat.le_add_right _ _))⟩
  have wrOld : ∀ {b o}, s₂.heap.get? b = some o → b ∉ [N + 4, N + 3, N, N + 1] := fun {b o} e hb => by
    have lt : (b : Nat) < N := inN e
    simp only [List.mem_cons, List.not_mem_nil, or_false] at hb
    rcases hb with rfl | rfl | rfl | rfl
    · exact absurd lt (Nat.not_lt.mpr (Nat.le_add_right _ _))
    · exact absurd lt (Nat.not_lt.mpr (Nat.le_add_right _ _))
    · exact absurd lt (Nat.lt_irrefl _)
    · exact absurd lt (Nat.not_lt.mpr (Nat.le_add_right _ _))
  have wr5 : (N + 5 : Nat) ∉ [N + 4, N + 3, N, N + 1] := fun hm => (fpOk (N + 5) (by simp only [List.mem_cons, List.not_mem_nil, or_false] at hm ⊢; rcases hm with h | h | h | h <;> simp [h])).1 rfl
  have wr6 : (N + 6 : Nat) ∉ [N + 4, N + 3, N, N + 1] := fun hm => (fpOk (N + 6) (by simp only [List.mem_cons, List.not_mem_nil, or_false] at hm ⊢; rcases hm with h | h | h | h <;> simp [h])).2 rfl
  have st₁ := Wk.frame 0 H h₁ ⟨hz', hTI, ⟨_, _, hTO⟩, hit1, hit2, hl1.at fun o => hk _ o, hl2.at fun o => hk _ o⟩ fun b hb' o e => hsb₁.extBut b o (fpOk b hb').2 (Heap.get?_push_of_some _ (hH2 ▸ Heap.get?_push_of_some _ e))
  have D5C : (N + 5 : Nat) ≠ N + 6 := Nat.ne_of_lt (Nat.lt_succ_self _)
  have mn : min i1.size i2.size = (xs.zip ns).length := by rw [List.length_zip, lx, ln]
  have loop : ∀ s₃ : Shared, s₃ = { s₂ with heap := h₁, toks := s₂.toks + ([] : List (Str × Value)).length } →
      codeAny (M w) A (.compLoop (.ListComp (.Name b pv) [⟨.Tuple [.Name a pa, .Name b pb] kk tp, .Call fz [e1, e2] [] pc, [tst], 0⟩] scope pos) 0 (.ref (N + 4 : Nat)) (.ref (N + 5 : Nat)) (compEnvC scope cl (N + 6 : Nat) (lawE L)))
        (compPost (M w) A No (some (assign (.Name y py) (lawE L))) (fun x s' => Q .next s') (.ref (N + 5 : Nat)) (N + 6 : Nat)) s₃ := by
    rintro s₃ rfl
    refine kct_loop (fun k s' => ∃ h' tk i m' ys cc, s' = { s₂ with heap := h', toks := tk } ∧ i ≤ min i1.size i2.size ∧ k = min i1.size i2.size + 1 - i ∧
        (IsZip h' (N + 4 : Nat) (N + 2 : Nat) (N + 3 : Nat) .none ∧ IsPair h' (N + 2 : Nat) (.ref N) (.ref (N + 1 : Nat)) ∧ (∃ a b, IsPair h' (N + 3 : Nat) a b) ∧ h'.IsListIter N D1 i ∧ h'.IsListIter (N + 1 : Nat) D2 i ∧ h'.IsList D1 i1 ∧ h'.IsList D2 i2) ∧
        Ex s₂.heap h' ∧ h'.Ns (N + 6 : Nat) m' ∧ h'.get? (N + 5 : Nat) = some { cls := .type "list", data := .seq ys cc } ∧ ys.size ≤ i ∧ IntsAre ys.toList ((((xs.zip ns).take i).filter p).map (·.2))) ?_ (min i1.size i2.size + 1)
      ⟨h₁, _, 0, _, #[], 0, rfl, Nat.zero_le _, rfl, st₁, old₁, hns₁, hacc, Nat.le_refl _, .nil⟩
    rintro k s' ⟨h', tk, i, m', ys, cc, rfl, hi, rfl, hst, hex, hns', hD, hys, hI⟩
    by_cases hlt : i < min i1.size i2.size
    · refine Wk.item i _ _ _ hlt hst fun T vals h₂ tk₂ hP hT hIT hMd hk₂ => ?_
      obtain ⟨vx, vy, hvx, hvy, rfl⟩ := hP
      have hTw := Wk.apart i T _ hMd
      refine Wk.go _ kk tp i T _ _ _ hMd fun h₃ hst₃ hk₃ => ?_
      have up₃ : ∀ b o, b ∉ [N + 4, N + 3, N, N + 1] → h'.get? b = some o → h₃.get? b = some o := fun b o hb e => hk₃ b o hb (hk₂ b o hb e)
      have hIT₃ : h₃.IsTuple T #[vx, vy] := by obtain ⟨o, ho, r⟩ := hIT; exact ⟨o, hk₃ T o hTw ho, r⟩
      refine kcp_assign (env := compEnvC scope cl (N + 6 : Nat) (lawE L)) hA hIT₃ (lookup_relabel_local hxa) (lookup_relabel_local hxb) (by simp [compEnvC, relabel, hkind]) (hns'.at' fun o e => up₃ _ o wr6 e) fun h₄ tk₄ hns₄ hk₄ => ?_
      obtain ⟨x, hx', t, rfl⟩ := StrsAre.get hx (i := i) (v := vx) (by rw [Array.getElem?_toList]; exact hvx)
      obtain ⟨n, hn', u, rfl⟩ := IntsAre.get hn (i := i) (v := vy) (by rw [Array.getElem?_toList]; exact hvy)
      have ex₄ : Ex s₂.heap h₄ := fun b o e => hk₄ b o (fun q => by
          have := inN e
          rw [q] at this
          exact absurd this (Nat.not_lt.mpr (Nat.le_add_right _ _))) (up₃ b o (wrOld e) (hex b o e))
      have R₄ : Rc w L c Ls h₄ := Rc.stb _ _ (C₂.rc Y) ex₄
      have sel : ((xs.zip ns).take (i + 1)).filter p = ((xs.zip ns).take i).filter p ++ if p (x, n) = true then [(x, n)] else [] := by
        rw [take_zip_succ hx' hn', List.filter_append]
        congr 1
        cases hpp : p (x, n) <;> simp [hpp]
      refine wpAny_mono ((test (N + 6 : Nat) x t n u (List.mem_of_getElem? hx')).f _ ⟨R₄, _, hns₄, by simp [hab], by simp⟩) (fun ok s₅ ⟨eok, k₅⟩ => ?_) fun _ _ x => x.elim
      subst eok
      obtain ⟨h₅, t₅, rfl, k₅⟩ := k₅
      have st₅ := Wk.frame (i + 1) _ h₅ hst₃ fun b hb' o e => k₅ b o (hk₄ b o (fpOk b hb').2 e)
      have hD₅ : h₅.get? (N + 5 : Nat) = some { cls := .type "list", data := .seq ys cc } := k₅ _ _ (hk₄ _ _ D5C (up₃ _ _ wr5 hD))
      have ex₅ : Ex s₂.heap h₅ := fun b o e => k₅ b o (ex₄ b o e)
      have ns₅ := hns₄.keeps k₅
      cases hpp : p (x, n) with
      | false =>
        rw [if_neg Bool.false_ne_true]
        refine ⟨min i1.size i2.size + 1 - (i + 1), by omega, h₅, t₅, i + 1, _, ys, cc, rfl, hlt, rfl, st₅, ex₅, ns₅, hD₅, by omega, ?_⟩
        rw [sel, hpp, if_neg Bool.false_ne_true, List.append_nil]; exact hI
      | true =>
        rw [if_pos rfl]
        refine wpAny_Name (wpAny_loadName_local (by simp [compEnvC, relabel, hkind]) (lookup_relabel_local hxb) ns₅ (v := .int n u) (by simp) ?_) hdb
        refine append_at (hsz := by unfold sizeLine; omega) hD₅ fun h₆ sb₆ hD₆ => ?_
        refine ⟨min i1.size i2.size + 1 - (i + 1), by omega, h₆, t₅, i + 1, _, ys.push (.int n u), cc + 1, rfl, hlt, rfl, Wk.frame (i + 1) _ h₆ st₅ fun b hb' o e => (sb₆.2 b (fpOk b hb').1).trans e, fun b o e => (sb₆.2 b (fun q => ?_)).trans (ex₅ b o e), ns₅.sameBut sb₆ (Ne.symm D5C), hD₆, by rw [Array.size_push]; omega, ?_⟩
        · have := inN e
          rw [q] at this
          exact absurd this (Nat.not_lt.mpr (Nat.le_add_right _ _))
        · rw [sel, hpp, if_pos rfl, List.map_append, Array.toList_push]
          exact hI.append (.cons n u .nil)
    · have hin : i = min i1.size i2.size := Nat.le_antisymm hi (Nat.not_lt.mp hlt)
      subst hin
      refine Wk.done _ _ _ hst fun h₂ tk₂ hk₂ => ?_
      show wpAny (M w) A (assign (.Name y py) (lawE L) (.ref (N + 5 : Nat))) _ No _
      have ex₂ : Ex s₂.heap h₂ := fun b o e => hk₂ b o (wrOld e) (hex b o e)
      obtain ⟨g2, t2, m2, e2, F2, hm2⟩ := id C₂.1
      have hnsL : h₂.Ns L m2 := by
        have : s₂.heap.Ns L m2 := by rw [e2]; exact F2.ns
        exact this.keeps ex₂
      have hLN : L < N := by have := (C₂.1.size).2; rw [hN] at this; exact this
      refine wpAny_assign_Name (wpAny_storeName_local hy hnsL (fun h₃ hn₃ hs₃ => ?_) (by rfl))
      have L5 : (N + 5 : Nat) ≠ L := Nat.ne_of_gt (Nat.lt_of_lt_of_le hLN (Nat.le_add_right _ _))
      have L6 : (N + 6 : Nat) ≠ L := Nat.ne_of_gt (Nat.lt_of_lt_of_le hLN (Nat.le_add_right _ _))
      refine ⟨m', (hns'.at' fun o e => hk₂ _ o wr6 e).sameBut hs₃ L6, fun h₄ sb₄ => ?_⟩
      refine h (N + 5 : Nat) ys { s₂ with heap := h₄, toks := _ } (Lc.after (s₂ := s₂) (wr := []) (m' := fun z => if z = y then some (.ref (N + 5 : Nat)) else m2 z) hsC k12 hW (fun _ h => absurd h List.not_mem_nil) (fun p hp ne => by simp [ne, hm2 p hp]) (by simp) (hl' _) (hn₃.sameBut sb₄ (Ne.symm L6)) ⟨_, (sb₄.2 _ D5C).trans (hs₃.extBut _ _ L5 (hk₂ _ _ wr5 hD)), rfl, _, rfl⟩ fun b o ne _ e => ?_) ?_
      · refine (sb₄.2 b (fun q => ?_)).trans (hs₃.extBut b o ne (ex₂ b o e))
        have := inN e
        rw [q] at this
        exact absurd this (Nat.not_lt.mpr (Nat.le_add_right _ _))
      · rw [mn, List.take_length] at hI
        exact hI
  exact codeAny_compStart_list (loop _ rfl) (Wk.self 0 _ _ _ st₁ (loop _ rfl))
end
end Mine
end
section
-- part W25
open PySem PySem.W PyProof.Rows
set_option maxRecDepth 100000
set_option maxHeartbeats 0
set_option linter.all false
namespace Mine
/-! the row: texts in rising order, each once -/
theorem tri {a b : List Nat} (h : ¬ a < b) (n : a ≠ b) : b < a := Std.lt_of_le_of_ne h (id (Ne.symm n))
abbrev SL (x y : Str) : Prop := sg x < sg y
def posS (row : List Str) (x : Str) : Nat := (row.takeWhile fun y => decide (sg y < sg x)).length
theorem pos_le : ∀ (row : List Str) (x : Str), posS row x ≤ row.length
  | [], _ => Nat.le_refl _
  | a :: r, x => by
    unfold posS
    rw [List.takeWhile_cons]
    split
    · have := pos_le r x
      unfold posS at this
      simp only [List.length_cons]; omega
    · simp
theorem pos_ok (x : Str) : ∀ {row : List Str}, row.Pairwise SL → ∀ (j : Nat) y, row[j]? = some y → decide (sg y < sg x) = decide (j < posS row x)
  | [], _, j, y, h => by simp at h
  | a :: r, hp, j, y, h => by
    obtain ⟨h1, h2⟩ := List.pairwise_cons.mp hp
    by_cases q : sg a < sg x
    · have e : posS (a :: r) x = posS r x + 1 := by unfold posS; rw [List.takeWhile_cons, if_pos (by simpa using q)]; rfl
      rw [e]
      cases j with
      | zero => simp at h; subst h; simp [q]
      | succ j =>
        simp only [List.getElem?_cons_succ] at h
        rw [pos_ok x h2 j y h]
        simp
    · have e : posS (a :: r) x = 0 := by unfold posS; rw [List.takeWhile_cons, if_neg (by simpa using q)]; rfl
      rw [e]
      have : ¬ sg y < sg x := by
        cases j with
        | zero => simp at h; subst h; exact q
        | succ j =>
          simp only [List.getElem?_cons_succ] at h
          exact fun z => q (List.lt_trans (h1 y (List.mem_of_getElem? h)) z)
      simp [this]
def insS (row : List Str) (x : Str) : List Str := if row[posS row x]? = some x then row else row.take (posS row x) ++ x :: row.drop (posS row x)
theorem ins_sorted {row : List Str} (x : Str) (hp : row.Pairwise SL) : (insS row x).Pairwise SL := by
  unfold insS
  split
  · exact hp
  · rename_i nx
    have ok := pos_ok x hp
    have hsp := hp
    rw [← List.take_append_drop (posS row x) row, List.pairwise_append] at hsp
    have up : ∀ y ∈ row.drop (posS row x), sg x < sg y := by
      intro y hy
      obtain ⟨i, hi⟩ := List.mem_iff_getElem?.mp hy
      rw [List.getElem?_drop] at hi
      have n1 : ¬ sg y < sg x := by
        intro hlt
        have := ok _ y hi
        rw [decide_eq_true hlt] at this
        have := of_decide_eq_true this.symm
        omega
      refine tri n1 fun e => ?_
      have e := sg_inj e
      subst e
      cases i with
      | zero => exact nx hi
      | succ i =>
        have lt : posS row y < row.length := by have := (List.getElem?_eq_some_iff.mp hi).1; omega
        have e0 := List.getElem?_eq_getElem lt
        have n0 : ¬ sg row[posS row y] < sg y := by
          intro hlt
          have := ok _ _ e0
          rw [decide_eq_true hlt] at this
          have := of_decide_eq_true this.symm
          omega
        refine n0 ?_
        have pw := List.pairwise_iff_getElem.mp hp (posS row y) (posS row y + (i + 1)) lt (List.getElem?_eq_some_iff.mp hi).1 (by omega)
        have := (List.getElem?_eq_some_iff.mp hi).2
        rw [this] at pw
        exact pw
    have dn : ∀ y ∈ row.take (posS row x), sg y < sg x := by
      intro y hy
      obtain ⟨i, hi⟩ := List.mem_iff_getElem?.mp hy
      rw [List.getElem?_take] at hi
      split at hi
      · rename_i lt
        have := ok _ y hi
        simp [lt] at this; exact this
      · cases hi
    rw [List.pairwise_append]
    refine ⟨hsp.1, List.pairwise_cons.mpr ⟨up, hsp.2.1⟩, fun a ha b hb => ?_⟩
    rcases List.mem_cons.mp hb with rfl | hb
    · exact dn a ha
    · exact hsp.2.2 a ha b hb
theorem ins_mem {row : List Str} {x y : Str} : y ∈ insS row x ↔ y ∈ row ∨ y = x := by
  unfold insS
  split
  · rename_i h
    exact ⟨.inl, fun q => q.elim id fun e => e ▸ List.mem_of_getElem? h⟩
  · rw [List.mem_append, List.mem_cons]
    have : y ∈ row ↔ y ∈ row.take (posS row x) ∨ y ∈ row.drop (posS row x) := by
      rw [← List.mem_append, List.take_append_drop]
    rw [this]
    constructor
    · rintro (h | h | h)
      · exact .inl (.inl h)
      · exact .inr h
      · exact .inl (.inr h)
    · rintro ((h | h) | h)
      · exact .inl h
      · exact .inr (.inr h)
      · exact .inr (.inl h)
theorem ins_length (row : List Str) (x : Str) : (insS row x).length ≤ row.length + 1 := by
  unfold insS
  split
  · omega
  · simp only [List.length_append, List.length_cons, List.length_take, List.length_drop]; omega
def rowF (ns : List Str) : List Str := ns.foldl insS []
theorem fold_ins : ∀ (ns row : List Str), row.Pairwise SL → (ns.foldl insS row).Pairwise SL ∧ (∀ y, y ∈ ns.foldl insS row ↔ y ∈ row ∨ y ∈ ns) ∧ (ns.foldl insS row).length ≤ row.length + ns.length
  | [], row, h => ⟨h, fun y => by simp, by simp⟩
  | x :: r, row, h => by
    obtain ⟨a, b, c⟩ := fold_ins r (insS row x) (ins_sorted x h)
    refine ⟨a, fun y => ?_, ?_⟩
    · rw [List.foldl_cons, b, ins_mem, List.mem_cons, or_assoc]
    · have := ins_length row x
      simp only [List.foldl_cons, List.length_cons]; omega
theorem rowF_sorted (ns : List Str) : (rowF ns).Pairwise SL := (fold_ins ns [] .nil).1
theorem rowF_mem (ns : List Str) (y : Str) : y ∈ rowF ns ↔ y ∈ ns := by unfold rowF; have := (fold_ins ns [] .nil).2.1 y; simpa using this
theorem rowF_length (ns : List Str) : (rowF ns).length ≤ ns.length := by unfold rowF; have := (fold_ins ns [] .nil).2.2; simpa using this
theorem rowF_take (ns : List Str) {i : Nat} {x : Str} (h : ns[i]? = some x) : rowF (ns.take (i + 1)) = insS (rowF (ns.take i)) x := by
  unfold rowF
  rw [(take_succ' h).1, List.foldl_append]; rfl
theorem sl_irrefl (x : Str) : ¬ SL x x := List.lt_irrefl _
theorem sorted_eq : ∀ {l m : List Str}, l.Pairwise SL → m.Pairwise SL → (∀ x, x ∈ l ↔ x ∈ m) → l = m
  | [], [], _, _, _ => rfl
  | [], b :: m, _, _, h => by have := (h b).mpr List.mem_cons_self; cases this
  | a :: l, [], _, _, h => by have := (h a).mp List.mem_cons_self; cases this
  | a :: l, b :: m, h1, h2, h => by
    obtain ⟨p1, q1⟩ := List.pairwise_cons.mp h1
    obtain ⟨p2, q2⟩ := List.pairwise_cons.mp h2
    have e : a = b := by
      rcases List.mem_cons.mp ((h a).mp List.mem_cons_self) with e | ha
      · exact e
      · rcases List.mem_cons.mp ((h b).mpr List.mem_cons_self) with e | hb
        · exact e.symm
        · exact absurd (p1 b hb) (List.lt_asymm (p2 a ha))
    subst e
    rw [sorted_eq q1 q2 fun x => ?_]
    constructor
    · intro hx
      rcases List.mem_cons.mp ((h x).mp (List.mem_cons_of_mem _ hx)) with e | hm
      · exact absurd (e ▸ p1 x hx) (sl_irrefl _)
      · exact hm
    · intro hx
      rcases List.mem_cons.mp ((h x).mpr (List.mem_cons_of_mem _ hx)) with e | hm
      · exact absurd (e ▸ p2 x hx) (sl_irrefl _)
      · exact hm
theorem fold_add : ∀ (ns ss : List Str), ss.Nodup → (ns.foldl addF ss).Nodup ∧ ∀ y, y ∈ ns.foldl addF ss ↔ y ∈ ss ∨ y ∈ ns
  | [], ss, h => ⟨h, fun y => by simp⟩
  | x :: r, ss, h => by
    have h' : (addF ss x).Nodup := by
      unfold addF
      split
      · exact h
      · rename_i nx
        rw [List.nodup_append]
        exact ⟨h, by simp, fun a ha b hb => by rw [List.mem_singleton.mp hb]; rintro rfl; exact nx ha⟩
    obtain ⟨a, b⟩ := fold_add r _ h'
    refine ⟨a, fun y => ?_⟩
    rw [List.foldl_cons, b, List.mem_cons]
    unfold addF
    split
    · rename_i hx
      constructor
      · rintro (q | q)
        · exact .inl q
        · exact .inr (.inr q)
      · rintro (q | q | q)
        · exact .inl q
        · exact .inl (q ▸ hx)
        · exact .inr q
    · rw [List.mem_append, List.mem_singleton, or_assoc]
theorem strict_of_sorted : ∀ {l : List Str}, sortedS l = true → l.Nodup → l.Pairwise SL
  | [], _, _ => .nil
  | [a], _, _ => List.pairwise_cons.mpr ⟨fun _ h => absurd h List.not_mem_nil, .nil⟩
  | a :: b :: r, h, hn => by
    have h' : (!PySem.Spec.ltCps b.cps.toList a.cps.toList && risingS b r) = true := h
    rw [Bool.and_eq_true, ltCps_eq] at h'
    obtain ⟨h1, h2⟩ := h'
    obtain ⟨n1, n2⟩ := List.nodup_cons.mp hn
    have ih := strict_of_sorted (l := b :: r) h2 n2
    have ab : sg a < sg b := by
      have nb : ¬ sg b < sg a := by simpa using h1
      exact tri nb fun e => n1 (by rw [sg_inj e]; exact List.mem_cons_self)
    refine List.pairwise_cons.mpr ⟨fun y hy => ?_, ih⟩
    rcases List.mem_cons.mp hy with rfl | hy
    · exact ab
    · exact List.lt_trans ab ((List.pairwise_cons.mp ih).1 y hy)
theorem sorted_is_row {ns ss : List Str} (hp : ss.Perm (ns.foldl addF [])) (hs : sortedS ss = true) : ss = rowF ns := by
  obtain ⟨a, b⟩ := fold_add ns [] .nil
  refine sorted_eq (strict_of_sorted hs (hp.nodup_iff.mpr a)) (rowF_sorted ns) fun x => ?_
  rw [hp.mem_iff, b, rowF_mem]; simp
/-! the names -/
def subs5 (ch : Nat) (l : List Nat) : List Nat := ((List.range 5).filter fun i => ch / 2 ^ i % 2 == 1).map fun i => l.getD i 0
def nmL (p : List Nat) : List Nat := (48 + p.length) :: p
def mkS (l : List Nat) : Str := ⟨l.toArray⟩
theorem sg_mk (l : List Nat) : sg (mkS l) = l := rfl
theorem mk_sg (x : Str) : mkS (sg x) = x := sg_inj rfl
def nameS (p : List Nat) : Str := mkS (nmL p)
theorem str_name {p : List Nat} (h : p.length ≤ 5) : Str.ofString (toString (p.length : Int)) ++ mkS p = nameS p := by
  apply sg_inj
  rw [sg_append]
  show sg (Str.ofString (toString (p.length : Int))) ++ p = (48 + p.length) :: p
  have : ∀ n, n ≤ 5 → sg (Str.ofString (toString ((n : Nat) : Int))) = [48 + n] := by
    intro n hn
    match n, hn with
    | 0, _ => decide +kernel
    | 1, _ => decide +kernel
    | 2, _ => decide +kernel
    | 3, _ => decide +kernel
    | 4, _ => decide +kernel
    | 5, _ => decide +kernel
  rw [this _ h]; rfl
theorem str_digit {n : Nat} (h : n ≤ 5) : Str.ofString (toString (n : Int)) = mkS [48 + n] := by
  apply sg_inj
  match n, h with
  | 0, _ => decide +kernel
  | 1, _ => decide +kernel
  | 2, _ => decide +kernel
  | 3, _ => decide +kernel
  | 4, _ => decide +kernel
  | 5, _ => decide +kernel
def selB : List Bool → List Nat → List Nat
  | b :: bs, a :: l => if b then a :: selB bs l else selB bs l
  | _, _ => []
theorem sel_of_sub : ∀ {l p : List Nat}, p.Sublist l → ∃ bs : List Bool, bs.length = l.length ∧ selB bs l = p
  | [], p, h => ⟨[], rfl, by rw [List.sublist_nil.mp h]; rfl⟩
  | a :: l, p, h => by
    rcases List.sublist_cons_iff.mp h with h' | ⟨r, rfl, h'⟩
    · obtain ⟨bs, e1, e2⟩ := sel_of_sub h'
      exact ⟨false :: bs, by simp [e1], by simp [selB, e2]⟩
    · obtain ⟨bs, e1, e2⟩ := sel_of_sub h'
      exact ⟨true :: bs, by simp [e1], by simp [selB, e2]⟩
theorem sub_of_sel : ∀ (bs : List Bool) (l : List Nat), (selB bs l).Sublist l
  | [], l => List.nil_sublist _
  | b :: bs, [] => List.nil_sublist _
  | true :: bs, a :: l => by show (a :: selB bs l).Sublist _; exact (sub_of_sel bs l).cons_cons a
  | false :: bs, a :: l => (sub_of_sel bs l).cons a
def bitsOf (ch : Nat) : List Bool := (List.range 5).map fun i => ch / 2 ^ i % 2 == 1
theorem subs5_sel (ch a b c d e : Nat) : subs5 ch [a, b, c, d, e] = selB (bitsOf ch) [a, b, c, d, e] := by
  have r5 : List.range 5 = [0, 1, 2, 3, 4] := by decide
  unfold subs5 bitsOf
  rw [r5]
  simp only [List.map_cons, List.map_nil, List.filter_cons, List.filter_nil]
  generalize (ch / 2 ^ 0 % 2 == 1) = b0
  generalize (ch / 2 ^ 1 % 2 == 1) = b1
  generalize (ch / 2 ^ 2 % 2 == 1) = b2
  generalize (ch / 2 ^ 3 % 2 == 1) = b3
  generalize (ch / 2 ^ 4 % 2 == 1) = b4
  cases b0 <;> cases b1 <;> cases b2 <;> cases b3 <;> cases b4 <;> rfl
theorem bits_all : ∀ bs : List Bool, bs.length = 5 → ∃ ch, ch < 32 ∧ bitsOf ch = bs := by
  intro bs h
  match bs, h with
  | [b0, b1, b2, b3, b4], _ =>
    refine ⟨b0.toNat + 2 * b1.toNat + 4 * b2.toNat + 8 * b3.toNat + 16 * b4.toNat, ?_, ?_⟩ <;> cases b0 <;> cases b1 <;> cases b2 <;> cases b3 <;> cases b4 <;> decide
theorem five {l : List Nat} (h : l.length = 5) : ∃ a b c d e, l = [a, b, c, d, e] := by
  match l, h with
  | [a, b, c, d, e], _ => exact ⟨a, b, c, d, e, rfl⟩
theorem sub_mem {l p : List Nat} (h : l.length = 5) : p ∈ (List.range 32).map (fun ch => subs5 ch l) ↔ p.Sublist l := by
  obtain ⟨a, b, c, d, e, rfl⟩ := five h
  rw [List.mem_map]
  constructor
  · rintro ⟨ch, _, rfl⟩
    rw [subs5_sel]; exact sub_of_sel _ _
  · intro hs
    obtain ⟨bs, e1, e2⟩ := sel_of_sub hs
    obtain ⟨ch, lt, eb⟩ := bits_all bs (e1.trans rfl)
    exact ⟨ch, List.mem_range.mpr lt, by rw [subs5_sel, eb, e2]⟩
def namesF (l : List Nat) : List Str := (List.range 32).map fun ch => nameS (subs5 ch l)
theorem name_mem {l : List Nat} (h : l.length = 5) {x : Str} : x ∈ namesF l ↔ ∃ p, p.Sublist l ∧ x = nameS p := by
  unfold namesF
  rw [List.mem_map]
  constructor
  · rintro ⟨ch, hc, rfl⟩
    exact ⟨_, (sub_mem h).mp (List.mem_map_of_mem hc), rfl⟩
  · rintro ⟨p, hp, rfl⟩
    obtain ⟨ch, hc, e⟩ := List.mem_map.mp ((sub_mem h).mpr hp)
    exact ⟨ch, hc, by rw [e]⟩
end Mine
end
section
-- part W26
open PySem PySem.W PyProof.Rows
open PySem.Builtin PySem.Builtin.Str PySem.StrLaws
set_option maxRecDepth 100000
set_option maxHeartbeats 0
set_option linter.all false
namespace Mine
/-! the tests: a word within a word -/
theorem hk_sub (low : List Nat) : ∀ (p : List Nat) (k : Nat), k ≤ low.length → (hk low k p == low.length) = (low.drop k).isSublist p
  | [], k, h => by
    show (k == low.length) = _
    by_cases e : k = low.length
    · rw [e, List.drop_length]; simp [List.isSublist]
    · have lt : k < low.length := by omega
      rw [List.drop_eq_getElem_cons lt]
      simp [List.isSublist, e]
  | c :: r, k, h => by
    show (hk low (if low[k]? = some c then k + 1 else k) r == low.length) = _
    by_cases e : k = low.length
    · have n : low[k]? = none := List.getElem?_eq_none (by omega)
      rw [n, if_neg (by simp), hk_sub low r k h, e, List.drop_length]
      simp [List.isSublist]
    · have lt : k < low.length := by omega
      rw [List.getElem?_eq_getElem lt, List.drop_eq_getElem_cons lt]
      by_cases q : low[k] = c
      · rw [if_pos (by rw [q]), hk_sub low r (k + 1) lt]
        simp [List.isSublist, q]
      · rw [if_neg (by simp [q]), hk_sub low r k h]
        have : (low[k] == c) = false := by simpa using q
        rw [List.drop_eq_getElem_cons lt]
        simp [List.isSublist, this]
theorem find_empty {x : Str} {sp : Nat} (h : sp ≤ x.length) : Txt.find3 x (Str.ofString "") sp = sp := by
  have e0 : (Str.ofString "").length = 0 := by decide
  have fi : fromIndex x.length (sp : Int) = sp := by unfold fromIndex; split <;> omega
  unfold Txt.find3
  rw [fi]
  have at0 : ∀ i, i ≤ x.length → At x (Str.ofString "") x.length i := fun i hi => ⟨by rw [e0]; omega, by rw [subAt_eq, e0]; simp; decide⟩
  rcases occ_head_from x (Str.ofString "") sp 1 (Nat.le_refl 1) with ⟨_, hn⟩ | ⟨k, r, e, hk1, _, hk3⟩
  · exact absurd (at0 sp h) (hn sp (Nat.le_refl _))
  · rw [e]
    rcases Nat.lt_or_ge sp k with lt | ge
    · exact absurd (at0 sp h) (hk3 sp (Nat.le_refl _) lt)
    · show (k : Int) = sp
      omega
theorem at_one {x : Str} {c i : Nat} : At x ⟨#[c]⟩ x.length i ↔ (sg x)[i]? = some c := by
  have l1 : (⟨#[c]⟩ : Str).length = 1 := rfl
  have nl : (sg x).length = x.length := sg_length x
  unfold At
  rw [subAt_eq, l1]
  show _ ∧ (((sg x).drop i).take 1 == [c]) = true ↔ _
  rw [beq_iff_eq]
  constructor
  · rintro ⟨_, h⟩
    have := congrArg (fun l : List Nat => l[0]?) h
    simpa using this
  · intro h
    have lt := (List.getElem?_eq_some_iff.mp h).1
    refine ⟨by omega, ?_⟩
    rw [List.drop_eq_getElem_cons lt]
    have := (List.getElem?_eq_some_iff.mp h).2
    simp [this]
theorem sub_skip {c : Nat} {u : List Nat} : ∀ {l : List Nat} {i : Nat}, l[i]? = some c → (∀ j, j < i → l[j]? ≠ some c) → (c :: u).isSublist l = u.isSublist (l.drop (i + 1))
  | [], i, h, _ => by simp at h
  | a :: l, 0, h, _ => by simp at h; simp [List.isSublist, h]
  | a :: l, i + 1, h, n => by
    have na : (c == a) = false := by
      have := n 0 (by omega)
      simp at this
      simpa using fun e : c = a => this e.symm
    have ih := sub_skip (u := u) (l := l) (i := i) (by simpa using h) fun j hj => by have := n (j + 1) (by omega); simpa using this
    show (if c == a then _ else (c :: u).isSublist l) = _
    rw [na, if_neg Bool.false_ne_true, ih]; rfl
theorem sub_none {c : Nat} {u : List Nat} : ∀ {l : List Nat}, c ∉ l → (c :: u).isSublist l = false
  | [], _ => rfl
  | a :: l, h => by
    have na : (c == a) = false := by simpa using fun e : c = a => h (e ▸ List.mem_cons_self)
    show (if c == a then _ else (c :: u).isSublist l) = _
    rw [na, if_neg Bool.false_ne_true]
    exact sub_none fun hm => h (List.mem_cons_of_mem _ hm)
theorem ell_sub (x : Str) : ∀ (u : List Nat) (sp : Nat), sp ≤ x.length → ellF x sp ((u.map fun c => (⟨#[c]⟩ : Str)) ++ [Str.ofString ""]) = u.isSublist ((sg x).drop sp)
  | [], sp, h => by
    show (if Txt.find3 x (Str.ofString "") sp < 0 then false else true) = _
    rw [find_empty h, if_neg (by omega)]
    cases (sg x).drop sp <;> rfl
  | c :: u, sp, h => by
    have fi : fromIndex x.length (sp : Int) = sp := by unfold fromIndex; split <;> omega
    have nl : (sg x).length = x.length := sg_length x
    show (if Txt.find3 x ⟨#[c]⟩ sp < 0 then false else ellF x (Txt.find3 x ⟨#[c]⟩ sp + (⟨#[c]⟩ : Str).length) ((u.map fun c => (⟨#[c]⟩ : Str)) ++ [Str.ofString ""])) = _
    unfold Txt.find3
    rw [fi]
    rcases occ_head_from x ⟨#[c]⟩ sp 1 (Nat.le_refl 1) with ⟨e, hn⟩ | ⟨k, r, e, hk1, hk2, hk3⟩
    · rw [e]
      show (if (-1 : Int) < 0 then false else _) = _
      rw [if_pos (by decide), sub_none]
      intro hm
      obtain ⟨i, hi⟩ := List.mem_iff_getElem?.mp hm
      rw [List.getElem?_drop] at hi
      exact hn (sp + i) (by omega) (at_one.mpr hi)
    · rw [e]
      show (if (k : Int) < 0 then false else ellF x ((k : Int) + (1 : Nat)) _) = _
      rw [if_neg (by omega)]
      have hk2' := at_one.mp hk2
      have lt := (List.getElem?_eq_some_iff.mp hk2').1
      have := ell_sub x u (k + 1) (by omega)
      rw [show (k : Int) + ((1 : Nat) : Int) = ((k + 1 : Nat) : Int) by omega, this]
      have sk := sub_skip (c := c) (u := u) (l := (sg x).drop sp) (i := k - sp) (by rw [List.getElem?_drop, show sp + (k - sp) = k by omega]; exact hk2') fun j hj q => by
        rw [List.getElem?_drop] at q
        exact hk3 (sp + j) (by omega) (by omega) (at_one.mpr q)
      rw [sk, List.drop_drop, show sp + (k - sp + 1) = k + 1 by omega]
theorem ell_is (x u : Str) : ellF x 0 (Str.ofString "" :: (signs1 u ++ [Str.ofString ""])) = (sg u).isSublist (sg x) := by
  show (if Txt.find3 x (Str.ofString "") ((0 : Nat) : Int) < 0 then false else ellF x (Txt.find3 x (Str.ofString "") ((0 : Nat) : Int) + ((Str.ofString "").length : Nat)) (signs1 u ++ [Str.ofString ""])) = _
  have e0 : (Str.ofString "").length = 0 := by decide
  rw [find_empty (Nat.zero_le _), if_neg (by omega), e0]
  have := ell_sub x (sg u) 0 (Nat.zero_le _)
  rw [List.drop_zero] at this
  exact this
theorem slice1 {x : Str} (h : 1 ≤ x.length) : Txt.slice x (some 1) none = mkS (sg x).tail := by
  have nl : (sg x).length = x.length := sg_length x
  have := eq_of_beq (slice_closes_from (x := x) (i := 1) ⟨by omega, by rw [nl]; omega⟩)
  rw [this]
  apply sg_inj
  show ((sg x).drop (1 : Int).toNat).take _ = (sg x).tail
  rw [show (1 : Int).toNat = 1 from rfl, List.drop_one, List.take_of_length_le (by rw [List.length_tail]; show (sg x).length - 1 ≤ (((sg x).length : Int) - 1).toNat; omega)]
/-! Bjorner's theorem -/
def subsD : List Nat → List (List Nat)
  | [] => [[]]
  | d :: p => ((subsD p).filter fun q => q.head? != some d) ++ (subsD p).map (d :: ·)
theorem subsD_mem : ∀ {p q : List Nat}, q ∈ subsD p ↔ q.Sublist p
  | [], q => by simp [subsD]
  | d :: p, q => by
    unfold subsD
    rw [List.mem_append, List.mem_filter, List.mem_map, List.sublist_cons_iff, subsD_mem]
    constructor
    · rintro (⟨h, _⟩ | ⟨r, h, rfl⟩)
      · exact .inl h
      · exact .inr ⟨r, rfl, subsD_mem.mp h⟩
    · rintro (h | ⟨r, rfl, h⟩)
      · by_cases e : q.head? = some d
        · obtain ⟨r, rfl⟩ : ∃ r, q = d :: r := by
            cases q with
            | nil => simp at e
            | cons a r => simp at e; exact ⟨r, by rw [e]⟩
          exact .inr ⟨r, subsD_mem.mpr ((List.sublist_cons_self d r).trans h), rfl⟩
        · exact .inl ⟨h, by simpa using e⟩
      · exact .inr ⟨r, subsD_mem.mpr h, rfl⟩
theorem subsD_nodup : ∀ p : List Nat, (subsD p).Nodup
  | [] => by simp [subsD]
  | d :: p => by
    unfold subsD
    rw [List.nodup_append]
    refine ⟨(subsD_nodup p).filter _, ?_, ?_⟩
    · rw [List.Nodup, List.pairwise_map]
      exact (subsD_nodup p).imp fun h e => h (by injection e)
    · intro a ha b hb e
      subst e
      obtain ⟨_, h⟩ := List.mem_filter.mp ha
      obtain ⟨r, _, rfl⟩ := List.mem_map.mp hb
      simp at h
def sgn (n : Nat) : Int := (-1) ^ n
theorem sgn_succ (n : Nat) : sgn (n + 1) = -sgn n := by unfold sgn; rw [Int.pow_succ]; omega
/-- the signed numbers of ways along all that is left of p -/
def bj (l p : List Nat) : Int := ((subsD p).map fun q => sgn q.length * nrm q l).sum
theorem sum_split {α : Type} (f : α → Int) (t : α → Bool) : ∀ l : List α, (l.map f).sum = ((l.filter t).map f).sum + (l.map fun a => if t a then 0 else f a).sum
  | [] => by simp
  | a :: l => by
    have ih := sum_split f t l
    simp only [List.map_cons, List.sum_cons, List.filter_cons]
    cases h : t a with
    | true => simp only [if_true, List.map_cons, List.sum_cons]; omega
    | false => simp only [Bool.false_eq_true, if_false]; omega
theorem sum_add' {α : Type} (f g : α → Int) : ∀ l : List α, (l.map fun a => f a + g a).sum = (l.map f).sum + (l.map g).sum
  | [] => rfl
  | a :: l => by simp only [List.map_cons, List.sum_cons, sum_add' f g l]; omega
theorem sum_neg' {α : Type} (f : α → Int) : ∀ l : List α, (l.map fun a => -f a).sum = -(l.map f).sum
  | [] => rfl
  | a :: l => by simp only [List.map_cons, List.sum_cons, sum_neg' f l]; omega
theorem bj_nil (l : List Nat) : bj l [] = if l = [] then 1 else 0 := by
  unfold bj
  simp only [subsD, List.map_cons, List.map_nil, List.sum_cons, List.sum_nil, nrm, List.length_nil]
  split <;> simp [sgn]
theorem filt_sum (d : Nat) (l : List Nat) (L : List (List Nat)) : ((L.filter fun q => q.head? != some d).map fun q => sgn q.length * nrm q l).sum = (L.map fun q => sgn q.length * (if q.head? = some d then 0 else nrm q l)).sum := by
  induction L with
  | nil => rfl
  | cons q L ih =>
    rw [List.filter_cons]
    by_cases e : q.head? = some d
    · rw [if_neg (by simp [e]), ih, List.map_cons, List.sum_cons, if_pos e]; omega
    · rw [if_pos (by simpa using e), List.map_cons, List.map_cons, List.sum_cons, List.sum_cons, ih, if_neg e]
theorem bj_cons (l : List Nat) (d : Nat) (p : List Nat) : bj l (d :: p) = match l with | [] => 0 | a :: l' => if a = d then -bj l' p else 0 := by
  unfold bj
  rw [subsD, List.map_append, List.sum_append, List.map_map, filt_sum]
  have e : ((subsD p).map ((fun q => sgn q.length * nrm q l) ∘ (d :: ·))) = (subsD p).map fun q => -(sgn q.length * (if q.head? = some d then 0 else nrm q l)) + -(sgn q.length * (match l with | [] => 0 | a :: l' => if a = d then nrm q l' else 0)) := by
    apply List.map_congr_left
    intro q _
    show sgn (q.length + 1) * ((if q.head? = some d then 0 else nrm q l) + (match l with | [] => 0 | a :: l' => if a = d then nrm q l' else 0)) = _
    rw [sgn_succ, Int.mul_add, Int.neg_mul, Int.neg_mul]
  rw [e, sum_add', sum_neg', sum_neg']
  clear e
  have : ((subsD p).map fun q => sgn q.length * (match l with | [] => 0 | a :: l' => if a = d then nrm q l' else 0)).sum = match l with | [] => 0 | a :: l' => if a = d then ((subsD p).map fun q => sgn q.length * nrm q l').sum else 0 := by
    cases l with
    | nil =>
      simp only [Int.mul_zero]
      induction subsD p with
      | nil => rfl
      | cons a r ih => simp only [List.map_cons, List.sum_cons, ih]; rfl
    | cons a l' =>
      by_cases q : a = d
      · simp only [if_pos q]
      · simp only [if_neg q, Int.mul_zero]
        induction subsD p with
        | nil => rfl
        | cons a r ih => simp only [List.map_cons, List.sum_cons, ih]; rfl
  rw [this]
  cases l with
  | nil => dsimp only; omega
  | cons a l' =>
    by_cases q : a = d
    · simp only [if_pos q]; omega
    · simp only [if_neg q]; omega
theorem bj_is : ∀ (p l : List Nat), bj l p = if l = p then sgn p.length else 0
  | [], l => by rw [bj_nil]; rfl
  | d :: p, l => by
    rw [bj_cons]
    cases l with
    | nil => simp
    | cons a l' =>
      by_cases q : a = d
      · subst q
        simp only [if_true]
        rw [bj_is p l']
        by_cases e : l' = p
        · subst e; rw [if_pos rfl, if_pos rfl, List.length_cons, sgn_succ]
        · rw [if_neg e, if_neg (fun h => e (by injection h))]; rfl
      · simp only [if_neg q]
        rw [if_neg (fun h => q (by injection h))]
theorem nrm_sub : ∀ {q l : List Nat}, nrm q l ≠ 0 → l.Sublist q
  | [], l, h => by
    unfold nrm at h
    split at h
    · rename_i e; rw [e]; exact List.Sublist.refl _
    · exact absurd rfl h
  | c :: q, [], _ => List.nil_sublist _
  | c :: q, a :: l', h => by
    simp only [nrm] at h
    by_cases e : a = c
    · subst e
      rw [if_pos rfl] at h
      by_cases z : nrm q l' = 0
      · rw [z] at h
        have : nrm q (a :: l') ≠ 0 := fun w => h (by split <;> simp [w])
        exact (nrm_sub this).cons a
      · exact (nrm_sub z).cons_cons a
    · rw [if_neg e] at h
      have : nrm q (a :: l') ≠ 0 := fun w => h (by split <;> simp [w])
      exact (nrm_sub this).cons c
theorem nrm_self : ∀ l : List Nat, nrm l l = 1
  | [] => rfl
  | c :: q => by
    simp only [nrm, if_true]
    rw [nrm_self q]
    have : nrm q (c :: q) = 0 := by
      by_cases z : nrm q (c :: q) = 0
      · exact z
      · have := (nrm_sub z).length_le
        simp at this; omega
    rw [this]
    split <;> rfl
theorem perm_sum {l m : List Int} (h : l.Perm m) : l.sum = m.sum := by
  induction h with
  | nil => rfl
  | cons a _ ih => simp only [List.sum_cons, ih]
  | swap a b l => simp only [List.sum_cons]; omega
  | trans _ _ h1 h2 => exact h1.trans h2
theorem sgn_add (m n : Nat) : sgn (m + n) = sgn m * sgn n := by unfold sgn; rw [Int.pow_add]
theorem sgn_sq (n : Nat) : sgn n * sgn n = 1 := by
  induction n with
  | zero => rfl
  | succ n ih => rw [sgn_succ, Int.neg_mul_neg]; exact ih
def mu (low p : List Nat) : Int := sgn (p.length - low.length) * nrm p.reverse low.reverse
/-- Bjorner: the values of all that lies between make nought together -/
theorem mu_sum {low part : List Nat} (ne : low ≠ part) {S : List (List Nat)} (hn : S.Nodup) (hm : ∀ q, q ∈ S ↔ low.Sublist q ∧ q.Sublist part) : (S.map (mu low)).sum = 0 := by
  have b := bj_is part.reverse low.reverse
  rw [if_neg (fun e => ne (List.reverse_inj.mp e))] at b
  have sp := sum_split (fun q => sgn q.length * nrm q low.reverse) (fun q => low.reverse.isSublist q) (subsD part.reverse)
  have z : ((subsD part.reverse).map fun q => if low.reverse.isSublist q then 0 else sgn q.length * nrm q low.reverse).sum = 0 := by
    have : ((subsD part.reverse).map fun q => if low.reverse.isSublist q then 0 else sgn q.length * nrm q low.reverse) = (subsD part.reverse).map fun _ => 0 := by
      apply List.map_congr_left
      intro q _
      split
      · rfl
      · rename_i h
        have : nrm q low.reverse = 0 := by
          by_cases w : nrm q low.reverse = 0
          · exact w
          · exact absurd (List.isSublist_iff_sublist.mpr (nrm_sub w)) h
        rw [this]; simp
    rw [this]
    induction subsD part.reverse with
    | nil => rfl
    | cons a r ih => simp only [List.map_cons, List.sum_cons, ih]; rfl
  unfold bj at b
  rw [sp, z, Int.add_zero] at b
  have pr : (S.map List.reverse).Perm ((subsD part.reverse).filter fun q => low.reverse.isSublist q) := by
    refine (List.perm_ext_iff_of_nodup ?_ ((subsD_nodup _).filter _)).mpr fun r => ?_
    · rw [List.Nodup, List.pairwise_map]
      exact hn.imp fun h e => h (List.reverse_inj.mp e)
    · rw [List.mem_map, List.mem_filter, subsD_mem, List.isSublist_iff_sublist]
      constructor
      · rintro ⟨q, hq, rfl⟩
        obtain ⟨h1, h2⟩ := (hm q).mp hq
        exact ⟨List.reverse_sublist.mpr h2, List.reverse_sublist.mpr h1⟩
      · rintro ⟨h1, h2⟩
        refine ⟨r.reverse, (hm _).mpr ⟨?_, ?_⟩, List.reverse_reverse r⟩
        · have := List.reverse_sublist.mpr h2; rwa [List.reverse_reverse] at this
        · have := List.reverse_sublist.mpr h1; rwa [List.reverse_reverse] at this
  have e := perm_sum (pr.map fun q => sgn q.length * nrm q low.reverse)
  rw [b, List.map_map] at e
  have f : S.map ((fun q => sgn q.length * nrm q low.reverse) ∘ List.reverse) = S.map fun q => sgn low.length * mu low q := by
    apply List.map_congr_left
    intro q hq
    have := ((hm q).mp hq).1.length_le
    show sgn q.reverse.length * nrm q.reverse low.reverse = sgn low.length * (sgn (q.length - low.length) * nrm q.reverse low.reverse)
    rw [← Int.mul_assoc, ← sgn_add, List.length_reverse]
    congr 2
    omega
  rw [f] at e
  have g : ∀ (c : Int) (L : List (List Nat)), (L.map fun q => c * mu low q).sum = c * (L.map (mu low)).sum := by
    intro c L
    induction L with
    | nil => simp
    | cons a r ih => simp only [List.map_cons, List.sum_cons, ih]; rw [Int.mul_add]
  rw [g] at e
  have := congrArg (sgn low.length * ·) e
  simp only [← Int.mul_assoc, sgn_sq, Int.one_mul, Int.mul_zero] at this
  exact this
/-! the words of the row -/
def wordsF (l : List Nat) : List (List Nat) := (rowF (namesF l)).map fun x => (sg x).tail
theorem row_mem {l : List Nat} (h : l.length = 5) (x : Str) : x ∈ rowF (namesF l) ↔ ∃ p, p.Sublist l ∧ x = nameS p := by rw [rowF_mem, name_mem h]
theorem words_mem {l : List Nat} (h : l.length = 5) (p : List Nat) : p ∈ wordsF l ↔ p.Sublist l := by
  unfold wordsF
  rw [List.mem_map]
  constructor
  · rintro ⟨x, hx, rfl⟩
    obtain ⟨p, hp, rfl⟩ := (row_mem h x).mp hx
    exact hp
  · intro hp
    exact ⟨nameS p, (row_mem h _).mpr ⟨p, hp, rfl⟩, rfl⟩
theorem row_words {l : List Nat} (h : l.length = 5) : rowF (namesF l) = (wordsF l).map nameS := by
  unfold wordsF
  rw [List.map_map]
  conv => lhs; rw [← List.map_id (rowF (namesF l))]
  apply List.map_congr_left
  intro x hx
  obtain ⟨p, _, rfl⟩ := (row_mem h x).mp hx
  rfl
theorem words_pair {l : List Nat} (h : l.length = 5) : (wordsF l).Pairwise fun p q => nmL p < nmL q := by
  have := rowF_sorted (namesF l)
  rw [row_words h, List.pairwise_map] at this
  exact this
theorem words_nodup {l : List Nat} (h : l.length = 5) : (wordsF l).Nodup := (words_pair h).imp fun {a b} q e => by subst e; exact List.lt_irrefl _ q
theorem nm_len {p q : List Nat} (h : nmL p < nmL q) : p.length ≤ q.length := by
  unfold nmL at h
  rcases List.cons_lt_cons_iff.mp h with h | ⟨h, _⟩ <;> omega
def betw (l low : List Nat) : List (List Nat) := (wordsF l).filter fun p => low.isSublist p
theorem betw_mem {l low : List Nat} (h : l.length = 5) (p : List Nat) : p ∈ betw l low ↔ p.Sublist l ∧ low.Sublist p := by
  unfold betw
  rw [List.mem_filter, words_mem h, List.isSublist_iff_sublist]
theorem betw_drop {l low : List Nat} {k : Nat} (h : l.length = 5) (hk : ∀ (j : Nat) y, (rowF (namesF l))[j]? = some y → decide (sg y < [48 + low.length]) = decide (j < k)) : ((wordsF l).drop k).filter (fun p => low.isSublist p) = betw l low := by
  unfold betw
  conv => rhs; rw [← List.take_append_drop k (wordsF l)]
  rw [List.filter_append]
  have : ((wordsF l).take k).filter (fun p => low.isSublist p) = [] := by
    rw [List.filter_eq_nil_iff]
    intro p hp hs
    obtain ⟨j, hj⟩ := List.mem_iff_getElem?.mp hp
    rw [List.getElem?_take] at hj
    split at hj
    · rename_i lt
      have e : (rowF (namesF l))[j]? = some (nameS p) := by rw [row_words h, List.getElem?_map, hj]; rfl
      have := hk j _ e
      rw [decide_eq_true lt] at this
      have lt2 : nmL p < [48 + low.length] := of_decide_eq_true this
      unfold nmL at lt2
      have len := (List.isSublist_iff_sublist.mp hs).length_le
      rcases List.cons_lt_cons_iff.mp lt2 with q | ⟨_, q⟩
      · omega
      · exact List.not_lt_nil _ q
    · cases hj
  rw [this, List.nil_append]
def lessF (low part : List Nat) (q : List Nat) : Bool := decide (q.length < part.length) && q.isSublist part
theorem mu_step {l low part : List Nat} {i : Nat} (h : l.length = 5) (hi : (betw l low)[i]? = some part) : (if part = low then 1 else -((((betw l low).take i).filter (lessF low part)).map (mu low)).sum) = mu low part := by
  by_cases e : part = low
  · subst e
    rw [if_pos rfl]
    unfold mu
    rw [Nat.sub_self, nrm_self]; rfl
  · rw [if_neg e]
    have hB := (words_pair h).filter fun p => low.isSublist p
    have hN := (words_nodup h).filter fun p => low.isSublist p
    have hp := (betw_mem h part).mp (List.mem_of_getElem? hi)
    generalize hBe : betw l low = B at hi
    have mem : ∀ p, p ∈ B ↔ p.Sublist l ∧ low.Sublist p := fun p => hBe ▸ betw_mem h p
    have hB : B.Pairwise fun p q => nmL p < nmL q := hBe ▸ hB
    have hN : B.Nodup := hBe ▸ hN
    have pr : (B.filter fun q => q.isSublist part).Perm ((B.take i).filter (lessF low part) ++ [part]) := by
      refine (List.perm_ext_iff_of_nodup (hN.filter _) ?_).mpr fun q => ?_
      · rw [List.nodup_append]
        refine ⟨(hN.sublist (List.take_sublist _ _)).filter _, by simp, fun a ha b hb => ?_⟩
        rw [List.mem_singleton.mp hb]
        rintro rfl
        have := (List.mem_filter.mp ha).2
        simp [lessF] at this
      · rw [List.mem_filter, List.mem_append, List.mem_filter, List.mem_singleton, List.isSublist_iff_sublist]
        constructor
        · rintro ⟨hq, hs⟩
          by_cases z : q = part
          · exact .inr z
          · left
            have lt : q.length < part.length := by
              rcases Nat.lt_or_ge q.length part.length with w | w
              · exact w
              · exact absurd (hs.eq_of_length (Nat.le_antisymm hs.length_le w)) z
            refine ⟨?_, by simp [lessF, lt, hs]⟩
            obtain ⟨j, hj⟩ := List.mem_iff_getElem?.mp hq
            rcases Nat.lt_or_ge j i with w | w
            · exact List.mem_iff_getElem?.mpr ⟨j, by rw [List.getElem?_take, if_pos w]; exact hj⟩
            · have ji : i ≠ j := fun e => z (by subst e; rw [hi] at hj; cases hj; rfl)
              obtain ⟨li, ei⟩ := List.getElem?_eq_some_iff.mp hi
              obtain ⟨lj, ej⟩ := List.getElem?_eq_some_iff.mp hj
              have := List.pairwise_iff_getElem.mp hB i j li lj (by omega)
              rw [ei, ej] at this
              have := nm_len this
              omega
        · rintro (⟨h1, h2⟩ | rfl)
          · unfold lessF at h2
            rw [Bool.and_eq_true] at h2
            exact ⟨List.mem_of_mem_take h1, List.isSublist_iff_sublist.mp h2.2⟩
          · exact ⟨List.mem_of_getElem? hi, List.Sublist.refl _⟩
    have s0 := mu_sum (low := low) (part := part) (fun q => e q.symm) (hN.filter fun q => q.isSublist part) fun q => by
      rw [List.mem_filter, mem, List.isSublist_iff_sublist]
      exact ⟨fun x => ⟨x.1.2, x.2⟩, fun x => ⟨⟨x.2.trans hp.1, x.1⟩, x.2⟩⟩
    rw [perm_sum (pr.map (mu low)), List.map_append, List.sum_append] at s0
    simp only [List.map_cons, List.map_nil, List.sum_cons, List.sum_nil] at s0
    omega
end Mine
end
section
-- part W27
open PySem PySem.W PyProof.Rows
set_option maxRecDepth 100000
set_option maxHeartbeats 0
set_option linter.all false
namespace Mine
local macro_rules | `(tactic| walk_at "put") => `(tactic| ((repeat' (first | exact List.forall_mem_nil _ | refine List.forall_mem_cons.mpr ⟨?_, ?_⟩)) <;> first | exact Or.inl rfl | exact Or.inr ⟨by k_mem, by dsimp only; decide⟩))
local macro_rules | `(tactic| walk_at "sub") => `(tactic| (repeat' (first | exact List.forall_mem_nil _ | refine List.forall_mem_cons.mpr ⟨by k_mem, ?_⟩)))
section
variable {w : World} {A : Around} {env : Env} {C : Shared → Prop}
theorem Pt.ofB {e : PySem.Expr} {b : Bool} (he : Pe w A env C e (BB b)) (hp : isTrue e env (eval e env) = (do let v ← eval e env; standAt e.pos; holding [v] (truthy v)) := by rfl) : Pt w A env C e b := .of fun s hs => by
  refine wpAny_isTrue_value (wpAny_mono (he.f s hs) (fun v s₁ ⟨ev, k⟩ => ?_) fun _ _ x => x) hp
  cases ev
  exact wpAny_truthy_bool ⟨rfl, k⟩
/-- one sign of a text, whatever is read -/
theorem Pe.itemSc {v sl : PySem.Expr} {x : Str} {i : Int} {c : Nat} {pos : Pos} (hC : Stb C) (hv : Pe w A env C v (SS x)) (hi : Pe w A env C sl (II i)) (h0 : 0 ≤ i) (hc : x.cps[i.toNat]? = some c) (hz : x.length < 2 ^ 60)
    (hs1 : ∀ (a b : Value), subscripted sl false a b = operate [a, b] (getItem a b) := by intro _ _; with_unfolding_all rfl)
    (hs2 : ∀ (y : Str) (t : Tok) (r : Value), letTemporaryGo v (.str y t) r = Pure.pure () := by intro _ _ _; with_unfolding_all rfl) : Pe w A env C (.Subscript v sl pos) (SS ⟨#[c]⟩) := .of fun s hs => by
  refine Subscript_ (Pe.two hC SS.stb hv hi hs fun a b s' _ ⟨ta, ha⟩ ⟨tb, hb⟩ k => ?_)
  subst ha hb
  have lt : i.toNat < x.cps.size := by
    rcases Nat.lt_or_ge i.toNat x.cps.size with q | q
    · exact q
    · rw [Array.getElem?_eq_none q] at hc; cases hc
  have lt' : i < (x.length : Int) := by show i < (x.cps.size : Int); omega
  exact item_str (prog := pw) (w := w) (A := A) (E := No) (s := s') (value := v) (slice := sl) (x := x) (t := ta) (i := i) (u := tb) (Q := fun v s' => SS ⟨#[c]⟩ v s' ∧ Keeps s s') (by unfold fitsSsize; simp; omega) (by omega) lt'
    (fun _ => ⟨⟨s'.toks, by rw [item_meets h0 hc]⟩, kt k (ktok _ _)⟩) (hs1 _ _) (hs2 _ _)
end
theorem good_tab {cc : Nat} (h : good cc = true) (n : b1L.contains cc = false) : (cc, fold1 cc) ∈ okTab := by
  unfold good at h
  rw [n, Bool.false_or] at h
  obtain ⟨y, hy⟩ := Option.isSome_iff_exists.mp h
  unfold fold1
  rw [n, if_neg Bool.false_ne_true, hy]
  have : ∀ (T : List (Nat × List Nat)), T.lookup cc = some y → (cc, y) ∈ T := by
    intro T
    induction T with
    | nil => intro e; cases e
    | cons p r ih =>
      obtain ⟨a, b⟩ := p
      intro e
      rw [List.lookup_cons] at e
      cases q : cc == a with
      | true => rw [q] at e; cases e; rw [eq_of_beq q]; exact List.mem_cons_self
      | false => rw [q] at e; exact List.mem_cons_of_mem _ (ih e)
  exact this _ hy
theorem fold_flat (z : List Nat) : List.flatten ((((z.map fun c => (⟨#[c]⟩ : Str)).filter fun a => !(b1L.contains ((sg a).headD 0))).map fun a => mkS (foldW (sg a))).map sg) = foldW z := by
  induction z with
  | nil => rfl
  | cons a r ih =>
    rw [List.map_cons, List.filter_cons]
    show _ = fold1 a ++ foldW r
    have e : (sg (⟨#[a]⟩ : Str)).headD 0 = a := rfl
    rw [e]
    cases q : b1L.contains a with
    | true =>
      rw [if_neg (by simp [q])]
      rw [ih]
      unfold fold1
      rw [q, if_pos rfl]; rfl
    | false =>
      rw [if_pos (by simp [q]), List.map_cons, List.map_cons, List.flatten_cons, ih]
      congr 1
      show foldW [a] = fold1 a
      unfold foldW
      simp
def restL : List Int := [72, 3, 7, 1958, 0, 116]
def shortF (xs : List Int) : List Int := (xs.take 6).map fun a => a.fmod ((10 : Int) ^ (6 : Int).toNat)
def drF (xs : List Int) : List Int := shortF xs ++ restL.drop (shortF xs).length
theorem short_len (xs : List Int) : (shortF xs).length ≤ 6 := by unfold shortF; rw [List.length_map, List.length_take]; omega
theorem dr_len (xs : List Int) : (drF xs).length = 6 := by
  have := short_len xs
  unfold drF
  rw [List.length_append, List.length_drop]
  show _ + (6 - _) = 6
  omega
def fskAt (a : Int) : Nat := fsk.getD (a.fmod 3).toNat 0
theorem fskAt_ok (a : Int) : fsk[(a.fmod 3).toNat]? = some (fskAt a) ∧ fskAt a ∈ fsk := by
  have h0 := Int.fmod_nonneg_of_pos a (show (0 : Int) < 3 by decide)
  have h1 := Int.fmod_lt_of_pos a (show (0 : Int) < 3 by decide)
  unfold fskAt
  obtain ⟨r, hr⟩ : ∃ r : Nat, (a.fmod 3).toNat = r := ⟨_, rfl⟩
  rw [hr]
  have : r < 3 := by omega
  match r, this with
  | 0, _ => exact ⟨rfl, by decide⟩
  | 1, _ => exact ⟨rfl, by decide⟩
  | 2, _ => exact ⟨rfl, by decide⟩
/-- the word's letters -/
def wlF (xs : List Int) : List Nat := ((drF xs).take 5).map fskAt
theorem wl_len (xs : List Int) : (wlF xs).length = 5 := by unfold wlF; rw [List.length_map, List.length_take, dr_len]; rfl
theorem wl_fsk (xs : List Int) : ∀ c ∈ wlF xs, c ∈ fsk := fun c hc => by
  obtain ⟨a, _, rfl⟩ := List.mem_map.mp hc
  exact (fskAt_ok a).2
def wordF (xs : List Int) : Str := mkS (wlF xs)
theorem word_len (xs : List Int) : (wordF xs).length = 5 := by rw [← sg_length]; exact wl_len xs
section
variable {w : World} {A : Around} {s₀ s : Shared} {L : Addr} {c : Nat → Option Value} {hb : Heap} {W : Addr → Prop} {n : Nat}
theorem Lc.fr {l : List (Str × Value)} {Ls Ps : List (Addr × Array Value)} (s : Shared) (x : Lc s₀ L l c Ls Ps hb W s) (D : Addr) (h : s.heap.get? D = none) : s₀.heap.get? D = none := fresh_of (kg x.1.keeps) h
theorem Pe.lCS {l : List (Str × Value)} {Ls Ps : List (Addr × Array Value)} {x y : Str} {t : Tok} {j : Nat} {pos : Pos} (h1 : 1 ≤ j) (h6 : j ≤ 6) (hv : c j = some (.str y t)) (hc : (lawE L).cells.lookup x = some (L + j : Nat) := by rfl) (hl : (lawE L).kindOf x = some .cell := by rfl) (hd : (x == ("__debug__" : Str)) = false := by decide) : Pe w A (lawE L) (Lc s₀ L l c Ls Ps hb W) (.Name x pos) (SS y) :=
  (Pe.lC h1 h6 hv hc hl hd).mono fun _ _ e => ⟨t, e⟩
theorem stageA {xs : List Int} {D0 : Addr} {i0 : Array Value} {Q : Flow → Shared → Prop} (Y : Says w s₀.heap) (hA : Fine (n + 2) A) (hW : W L) (hW1 : W (L + 1 : Nat)) (hW2 : W (L + 2 : Nat)) (hi : IntsAre i0.toList xs) (hz : xs.length ≤ 100)
    (C₁ : Lc s₀ L [(Str.ofString "script", .ref D0)] c [(D0, i0)] [] hb W s)
    (h : ∀ D3 i3 c' t1 t2 s', IntsAre i3.toList (drF xs) → c' 1 = some (.str (wordF xs) t1) → c' 2 = some (.str (wordF xs) t2) → Lc s₀ L [(Str.ofString "drawn", .ref D3)] c' [(D3, i3)] [] hb W s' → wpAny (M w) A (execs ((fBod 17).drop 6) (lawE L)) Q No s') :
    wpAny (M w) A (execs (fBod 17) (lawE L)) Q No s := by
  refine wpAny_execs_cons (wpAny_Assign_Name (Pe.run C₁ ((Pe.lits (is := restL) (hb := s₀.heap) Lc.fr (by unfold restL; repeat' (first | exact Lits.nil | refine Lits.cons ?_)) (by decide)).mono ILf.il) (fun v s₂ hv C₂ _ => ?_) Lc.stb))
  obtain ⟨D1, i1, rfl, l1, q1⟩ := hv
  refine Lc.stL (l' := [(Str.ofString "script", .ref D0), (Str.ofString "rest", .ref D1)]) (C₂.addL l1) hW (by walk_at "put") (fun s₃ C₃ => ?_)
  refine wpAny_execs_cons (Lc.asgComp (κ := Int) (Is := IsI) (k := kI) (fun _ _ => kI_is) (Lk := xs.take 6) (l' := fun D => [(Str.ofString "rest", .ref D1), (Str.ofString "short", .ref D)]) hW Y hA.1
    (src_IL (Pe.uptoI (k := 6) Lc.stb (Pe.lIL (by k_mem) (.inl (by k_mem)) hi) Pe.int (by omega))) (by rw [List.length_take]; omega) (fun _ => true) (fun a v => IsI (a.fmod ((10 : Int) ^ (6 : Int).toNat)) v)
    (by with_unfolding_all rfl) (by rfl) (by decide) rfl (by decide) rfl (fun Cn a v _ _ s hs => tests_nil) (fun Cn a v ha q _ => ?_) (by intro D; walk_at "put") C₃ (fun D2 i2 s₄ C₄ hP => ?_))
  · obtain ⟨tv, rfl⟩ := q
    exact (Pe.modI (Rc.stb.and ns_stb).stb ((Pe.gLoc (fun s h => h.2) rfl rfl).mono fun _ _ e => ⟨tv, e⟩) (Pe.powI (Rc.stb.and ns_stb).stb Pe.int Pe.int (by decide) (by decide) (by decide)) (by decide)).mono fun v s h => h
  · have q2 := ints_of_paired (g := fun a : Int => a.fmod ((10 : Int) ^ (6 : Int).toNat)) hP
    rw [List.filter_eq_self.mpr (fun _ _ => rfl)] at q2
    have q2 : IntsAre i2.toList (shortF xs) := q2
    have sl := short_len xs
    refine wpAny_execs_cons (wpAny_Assign_Name (Pe.run C₄ ((Pe.addIL (hb := s₀.heap) (xs := shortF xs) (ys := restL.drop (shortF xs).length) Lc.stb Lc.fr (Pe.lIL (by k_mem) (.inl (by k_mem)) q2) (Pe.fromI Lc.stb (Pe.lIL (by k_mem) (.inl (by k_mem)) q1) (Pe.lenI Lc.stb (Pe.lB Y (blt_len _)) (Pe.lIL (by k_mem) (.inl (by k_mem)) q2) (by omega)) (by decide)) (by rw [List.length_drop]; show _ + (6 - _) ≤ _; omega)).mono ILf.il) (fun v s₅ hv C₅ _ => ?_) Lc.stb))
    obtain ⟨D3, i3, rfl, l3, q3⟩ := hv
    have q3 : IntsAre i3.toList (drF xs) := q3
    refine Lc.stL (l' := [(Str.ofString "drawn", .ref D3)]) (C₅.addL l3) hW (by walk_at "put") (fun s₆ C₆ => ?_)
    replace C₆ : Lc s₀ L [(Str.ofString "drawn", .ref D3)] c [(D3, i3)] [] hb W s₆ := C₆.sub (by walk_at "sub") (fun p hp => by rw [List.mem_singleton.mp hp]; exact .inl List.mem_cons_self) (List.forall_mem_nil _)
    have wlen := word_len xs
    have dlen := dr_len xs
    -- word
    refine wpAny_execs_cons (wpAny_Assign_Name (Pe.run C₆ (Pe.join (ys := ((drF xs).take 5).map fun a => ⟨#[fskAt a]⟩) (((Pe.compS (hb := s₀.heap) (κ := Int) (Is := IsI) (k := kI) (fun _ _ => kI_is) (L := (drF xs).take 5) (R := Rc w L c [(D3, i3)]) Rc.stb (fun _ h => h.rc Y) Lc.fr hA.1
      (src_IL (Pe.uptoI (k := 5) Lc.stb (Pe.lIL (by k_mem) (.inl (by k_mem)) q3) Pe.int (by omega))) (by rw [List.length_take]; omega) (fun _ => true) (fun a => ⟨#[fskAt a]⟩)
      (by rfl) (by decide) rfl (by decide) rfl (fun Cn a v _ _ s hs => tests_nil) (fun Cn a v ha q _ => ?_))).mono (fun v s h => by rw [List.filter_eq_self.mpr (fun _ _ => rfl)] at h; exact TLf.tl v s h)) Lc.stb ?_) (fun v s₇ hv C₇ _ => ?_) Lc.stb))
    · obtain ⟨tv, rfl⟩ := q
      have hf := (fskAt_ok a).1
      refine Pe.itemSc (x := Str.ofString "fsk") (Rc.stb.and ns_stb).stb Pe.str (Pe.modI (Rc.stb.and ns_stb).stb ((Pe.gLoc (fun s h => h.2) rfl rfl).mono fun _ _ e => ⟨tv, e⟩) Pe.int (by decide)) (Int.fmod_nonneg_of_pos _ (by decide)) ?_ (by decide)
      rw [← hf]
      have : (Str.ofString "fsk").cps = fsk.toArray := by decide
      rw [this]; simp
    · rw [List.map_map]
      have := sum_const (f := fun a : Int => (1 : Nat)) (k := 1) ((drF xs).take 5) (fun _ _ => Nat.le_refl _)
      rw [List.length_take] at this
      show (((drF xs).take 5).map fun a => 1).sum + _ * 0 ≤ _
      omega
    obtain ⟨t1, rfl⟩ := hv
    have ew : Txt.join (Str.ofString "") (((drF xs).take 5).map fun a => (⟨#[fskAt a]⟩ : Str)) = wordF xs := by
      apply sg_inj
      rw [sg_join, List.map_map]
      show _ = wlF xs
      unfold wlF
      induction (drF xs).take 5 with
      | nil => rfl
      | cons a r ih => rw [List.map_cons, List.flatten_cons, ih]; rfl
    rw [ew]
    refine Lc.stC (j := 1) C₇ (by decide) (by decide) hW1 (fun s₈ C₈ => ?_)
    have k1 : upd c 1 (some (.str (wordF xs) t1)) 1 = some (.str (wordF xs) t1) := upd_self
    generalize upd c 1 (some (.str (wordF xs) t1)) = c1 at C₈ k1
    -- told
    refine wpAny_execs_cons (wpAny_Assign_Name (Pe.run C₈ (Pe.joinE (H := fun ys => (ys.map sg).flatten = wlF xs) ((compE (G := fun x => (∀ c ∈ sg x, good c = true) ∧ foldW (sg x) = wlF xs ∧ x.length ≤ 2000) (R := Rc w L c1 [(D3, i3)]) Rc.stb (fun _ h => h.rc Y) hA.1
      (Pe.def2 (P1 := SS (wordF xs)) (P2 := VV (.ref D3)) Lc.stb SS.stb (Pe.lG Y (g_spelled _)) (fun _ h => at_spelled (h.says Y)) (by rfl) (Pe.lCS (j := 1) (by decide) (by decide) k1) (Pe.lL (by k_mem)) (fun a b s' hs' ⟨u, ha⟩ hb' => ?_)) (fun x hx => by omega)
      (fun a => !(b1L.contains ((sg a).headD 0))) (fun a v => IsS (mkS (foldW (sg a))) v) (by rfl) (by decide) rfl (by decide) rfl (fun Cn z cc u hG hcc s hs => ?_) (fun Cn z cc u hG hcc hp => ?_)).mono (fun v s h => ?_)) Lc.stb (fun ys hy => ?_)) (fun v s₉ hv C₉ _ => ?_) Lc.stb))
    · subst ha
      cases hb'
      exact wpAny_mono (spelled_ok (hs'.says Y) hA (wl_fsk xs) (by omega) (hs'.2.2.1 (D3, i3) (by k_mem)) q3 (by omega) (by omega)) (fun v s h => ⟨by obtain ⟨⟨x, t', e, h1, h2, h3⟩, _⟩ := h; exact ⟨x, t', e, h1, h2, h3⟩, h.2⟩) fun _ _ x => x
    · exact tests_one (Pt.not (Pt.ofB (Pe.def1 (P1 := SS ⟨#[cc]⟩) (P := BB (b1L.contains cc)) (Rc.stb.and ns_stb).stb (Pe.gGlob (fun s h => h.1.1) (g_inb1 _) rfl rfl rfl) (fun _ h => at_inb1 h.1.1) (by rfl) ((Pe.gLoc (fun s h => h.2) rfl rfl).mono fun _ _ e => ⟨u, e⟩) (fun a s' hs' ⟨u, ha⟩ => by subst ha; exact inb1_ok hs'.1.1 hA)))) hs
    · have hp' : (!b1L.contains cc) = true := hp
      have nb : b1L.contains cc = false := by simpa using hp'
      refine (Pe.def1 (P1 := SS ⟨#[cc]⟩) (P := SS ⟨(fold1 cc).toArray⟩) (Rc.stb.and ns_stb).stb (Pe.gGlob (fun s h => h.1.1) (g_mapb3 _) rfl rfl rfl) (fun _ h => at_mapb3 h.1.1) (by rfl) ((Pe.gLoc (fun s h => h.2) rfl rfl).mono fun _ _ e => ⟨u, e⟩) (fun a s' hs' ⟨u, ha⟩ => by subst ha; exact mapb3_ok hs'.1.1 hA (good_tab (hG.1 cc hcc) nb))).mono fun v s hv => ?_
      have e : mkS (foldW (sg (⟨#[cc]⟩ : Str))) = ⟨(fold1 cc).toArray⟩ := by
        apply sg_inj
        show foldW [cc] = fold1 cc
        unfold foldW
        simp
      rw [e]; exact hv
    · obtain ⟨z, D, ys, hG, e, hl, hP⟩ := h
      have hS := strs_of_paired (g := fun a => mkS (foldW (sg a))) hP
      refine ⟨_, ?_, D, ys, e, hl, hS⟩
      have := fold_flat (sg z)
      show List.flatten _ = wlF xs
      rw [← hG.2.1]
      exact this
    · have : (ys.map (·.length)).sum = 5 := by
        have e := congrArg List.length hy
        rw [wl_len, List.length_flatten, List.map_map] at e
        exact e
      show _ + _ * 0 ≤ _
      omega
    obtain ⟨ys, hy, t2, rfl⟩ := hv
    have et : Txt.join (Str.ofString "") ys = wordF xs := sg_inj (by rw [sg_join]; exact hy)
    rw [et]
    refine Lc.stC (j := 2) C₉ (by decide) (by decide) hW2 (fun s10 C10 => ?_)
    have k2 : upd c1 2 (some (.str (wordF xs) t2)) 2 = some (.str (wordF xs) t2) := upd_self
    have k1 : upd c1 2 (some (.str (wordF xs) t2)) 1 = some (.str (wordF xs) t1) := upd_other k1 (by decide)
    generalize upd c1 2 (some (.str (wordF xs) t2)) = c2 at C10 k1 k2
    refine wpAny_execs_cons (wpAny_If (Pt.run C10 (Pt.neS Lc.stb (Pe.lCS (j := 2) (by decide) (by decide) k2) (Pe.lCS (j := 1) (by decide) (by decide) k1)) (fun s11 C11 _ => ?_) Lc.stb))
    rw [if_neg (by simp)]
    exact wpAny_execs_nil (h D3 i3 c2 t1 t2 s11 q3 k1 k2 (C11.sub (by walk_at "sub") (fun p hp => by rw [List.mem_singleton.mp hp]; exact .inl List.mem_cons_self) (List.forall_mem_nil _)))
end
end Mine
end
section
-- part W28
open PySem PySem.W PyProof.Rows
set_option maxRecDepth 100000
set_option maxHeartbeats 1000000
set_option linter.all false
namespace Mine
local macro_rules | `(tactic| walk_at "put") => `(tactic| ((repeat' (first | exact List.forall_mem_nil _ | refine List.forall_mem_cons.mpr ⟨?_, ?_⟩)) <;> first | exact Or.inl rfl | exact Or.inr ⟨by k_mem, by dsimp only; decide⟩))
local macro_rules | `(tactic| walk_at "sub") => `(tactic| (repeat' (first | exact List.forall_mem_nil _ | refine List.forall_mem_cons.mpr ⟨by k_mem, ?_⟩)))
def pickP (ch : Int) (a : Int) : Bool := (ch.fdiv ((2 : Int) ^ a.toNat)).fmod 2 == 1
theorem pick_subs (ch : Nat) (l : List Nat) : ((rangeI 5).filter (pickP ch)).map (fun a => l.getD a.toNat 0) = subs5 ch l := by
  unfold rangeI subs5
  rw [List.filter_map, List.map_map]
  have e : (pickP ch ∘ fun (i : Nat) => (i : Int)) = fun i => ch / 2 ^ i % 2 == 1 := by
    funext i
    show (((ch : Int).fdiv ((2 : Int) ^ ((i : Int)).toNat)).fmod 2 == 1) = _
    rw [Int.toNat_natCast, show ((2 : Int) ^ i) = ((2 ^ i : Nat) : Int) by simp, ← Int.ofNat_fdiv, show (2 : Int) = ((2 : Nat) : Int) from rfl, ← Int.ofNat_fmod, Bool.eq_iff_iff]
    simp only [beq_iff_eq]
    omega
  rw [e]; rfl
theorem subs5_len (ch : Nat) (l : List Nat) : (subs5 ch l).length ≤ 5 := by
  unfold subs5
  rw [List.length_map]
  exact Nat.le_trans (List.length_filter_le _ _) (by simp)
theorem mem_range5 {a : Int} (h : a ∈ rangeI 5) : ∃ i : Nat, i < 5 ∧ a = i := by
  obtain ⟨i, hi, e⟩ := List.mem_map.mp h
  exact ⟨i, List.mem_range.mp hi, e.symm⟩
theorem pow_small {m : Nat} (h : m < 5) : ((2 : Int) ^ m).natAbs < 1073741824 := by
  match m, h with
  | 0, _ => decide
  | 1, _ => decide
  | 2, _ => decide
  | 3, _ => decide
  | 4, _ => decide
theorem log_small {k : Nat} (h : k ≤ 5) : k.log2 < 1920 := by
  match k, h with
  | 0, _ => decide
  | 1, _ => decide
  | 2, _ => decide
  | 3, _ => decide
  | 4, _ => decide
  | 5, _ => decide
/-- where law's loops write -/
def Wl (L D : Addr) (b : Addr) : Prop := b = L ∨ (∃ j : Nat, 1 ≤ j ∧ j ≤ 6 ∧ b = (L + j : Nat)) ∨ b = D
theorem Wl.cell {L D : Addr} {j : Nat} (h1 : 1 ≤ j) (h6 : j ≤ 6) : Wl L D (L + j : Nat) := .inr (.inl ⟨j, h1, h6, rfl⟩)
section
variable {w : World} {A : Around} {s₀ s : Shared} {L : Addr} {c : Nat → Option Value} {hb : Heap} {W : Addr → Prop} {n : Nat}
theorem Lc.has {D : Addr} {its : Array Value} {l : List (Str × Value)} {Ls Ps : List (Addr × Array Value)} (x : Lc s₀ L l c Ls ((D, its) :: Ps) hb W s) : ∀ b, Wl L D b → s.heap.get? b ≠ none := by
  rintro b (rfl | ⟨j, h1, h6, rfl⟩ | rfl)
  · exact x.1.has
  · obtain ⟨o, ho, _⟩ := x.2.1 j h1 h6; rw [ho]; simp
  · obtain ⟨n, hn⟩ := x.2.2.2.1 _ List.mem_cons_self; rw [hn]; simp
theorem Lc.write {D : Addr} {its its' : Array Value} {l : List (Str × Value)} {Ls Ps : List (Addr × Array Value)} {h' : Heap} (x : Lc s₀ L l c Ls ((D, its) :: Ps) hb W s) (hW : W D) (h0 : s₀.heap.get? D = none) (nL : ∀ p ∈ Ls, p.1 ≠ D) (nP : ∀ p ∈ Ps, p.1 ≠ D) (hs : Heap.SameBut D s.heap h') (hp : h'.PlainList D its') :
    Lc s₀ L l c Ls ((D, its') :: Ps) hb W { s with heap := h' } := by
  have pl := x.2.2.2.1 _ List.mem_cons_self
  have DL : D ≠ L := x.1.ne_list pl.isList
  have kk : ∀ b o, b ≠ D → s.heap.get? b = some o → h'.get? b = some o := fun b o ne e => (hs.2 b ne).trans e
  refine ⟨x.1.frame (tk := s.toks) h0 DL kk, fun j h1 h2 => cell_at (x.2.1 j h1 h2) fun o => kk _ o (list_ne_cell pl.isList (x.2.1 j h1 h2)).symm, fun p hp => (x.2.2.1 p hp).at fun o => kk _ o (nL p hp), List.forall_mem_cons.mpr ⟨hp, fun p hp => (x.2.2.2.1 p (List.mem_cons_of_mem _ hp)).at fun o => kk _ o (nP p hp)⟩, fun b o nw e => kk b o (fun q => nw (q ▸ hW)) (x.2.2.2.2 b o nw e)⟩
/-- name = [] -/
theorem Lc.newList {l : List (Str × Value)} {Ls Ps : List (Addr × Array Value)} {x : Str} {pos px pl : Pos} {l' : Addr → List (Str × Value)} {Q : Flow → Shared → Prop} (C₁ : Lc s₀ L l c Ls Ps hb W s) (hW : W L) (hl' : ∀ D, ∀ p ∈ l' D, p = (x, .ref D) ∨ (p ∈ l ∧ p.1 ≠ x))
    (h : ∀ D s', s₀.heap.get? D = none → (∀ p ∈ Ls, p.1 ≠ D) → (∀ p ∈ Ps, p.1 ≠ D) → Lc s₀ L (l' D) c Ls ((D, #[]) :: Ps) hb W s' → Q .next s') (hl : (lawE L).kindOf x = some .local := by rfl) :
    wpAny (M w) A (exec (.Assign [.Name x px] (.List [] pl) pos) (lawE L)) Q No s := by
  refine wpAny_Assign_Name (wpAny_List (wpAny_items_nil ⟨by show 0 ≤ 2 ^ 24; decide, ?_⟩)) (by rfl)
  have pl : (s.heap.push { cls := .type "list", data := .seq (([] : List Value).toArray) }).PlainList s.heap.objs.size #[] := ⟨0, Heap.get?_push_size _ rfl⟩
  have C₂ := (Lc.stb _ _ C₁ (kpush s { cls := .type "list", data := .seq (([] : List Value).toArray) } s.toks)).addP pl
  refine Lc.stL (l' := l' s.heap.objs.size) C₂ hW (hl' _) (fun s' C' => ?_) hl
  refine h _ s' (Lc.fr _ C₁ _ (size_none _)) (fun p hp e => ?_) (fun p hp e => ?_) C'
  · obtain ⟨o, ho, _⟩ := C₁.2.2.1 p hp
    rw [e, size_none] at ho; cases ho
  · obtain ⟨m, ho⟩ := C₁.2.2.2.1 p hp
    rw [e, size_none] at ho; cases ho
theorem stageB {xs : List Int} {D3 : Addr} {i3 : Array Value} {t1 t2 : Tok} {Q : Flow → Shared → Prop} (Y : Says w s₀.heap) (hA : Fine (n + 2) A) (hW : W L) (k1 : c 1 = some (.str (wordF xs) t1)) (k2 : c 2 = some (.str (wordF xs) t2))
    (C₁ : Lc s₀ L [(Str.ofString "drawn", .ref D3)] c [(D3, i3)] [] hb W s)
    (h : ∀ D its c' s', s₀.heap.get? D = none → D3 ≠ D → c' 1 = some (.str (wordF xs) t1) → StrsAre its.toList (namesF (wlF xs)) → Lc s₀ L [(Str.ofString "drawn", .ref D3), (Str.ofString "names", .ref D)] c' [(D3, i3)] [(D, its)] s₀.heap (Wl L D) s' → wpAny (M w) A (execs ((fBod 17).drop 8) (lawE L)) Q No s') :
    wpAny (M w) A (execs ((fBod 17).drop 6) (lawE L)) Q No s := by
  have wlen := word_len xs
  have nlen : (namesF (wlF xs)).length = 32 := by unfold namesF; rw [List.length_map, List.length_range]
  refine wpAny_execs_cons (Lc.newList (l' := fun D => [(Str.ofString "drawn", .ref D3), (Str.ofString "names", .ref D)]) C₁ hW (by intro D; walk_at "put") (fun D s₂ D0n nL _ C₂ => ?_))
  have D3D : D3 ≠ D := nL (D3, i3) (by k_mem)
  refine wpAny_execs_cons (for_src hA.1 (src_range (N := 32) (Dp := fun _ => False) Lc.stb (Pe.lB Y (blt_range _)) Pe.int (by decide)) C₂ (Wl L D) C₂.has (fun _ h => h.elim)
    (fun i s' => ∃ c' its, c' 1 = some (.str (wordF xs) t1) ∧ c' 2 = some (.str (wordF xs) t2) ∧ StrsAre its.toList ((namesF (wlF xs)).take i) ∧ Lc s₀ L [(Str.ofString "drawn", .ref D3), (Str.ofString "names", .ref D)] c' [(D3, i3)] [(D, its)] s₀.heap (Wl L D) s')
    (fun s' k => ⟨c, #[], k1, k2, .nil, (Lc.stb _ _ C₂ k).base⟩) ?_ ?_ ?_)
  · rintro i s' ⟨c', its, a, b, d, x⟩ h' tk kk
    refine ⟨c', its, a, b, d, C₂.base.framed x (List.forall_mem_cons.mpr ⟨?_, List.forall_mem_nil _⟩) (List.forall_mem_cons.mpr ⟨?_, List.forall_mem_nil _⟩) kk⟩
    · obtain ⟨o, ho, _⟩ := C₂.2.2.1 (D3, i3) (by k_mem); rw [ho]; simp
    · exact C₂.has D (.inr (.inr rfl))
  · rintro i a v s₃ ha ⟨ti, rfl⟩ ⟨c', its, k1, k2, hst, C₃⟩
    have hi : i < 32 := by have := (List.getElem?_eq_some_iff.mp ha).1; simpa [rangeI] using this
    have ea : a = (i : Int) := by simp [rangeI, hi] at ha; exact ha.symm
    subst ea
    have isz : its.size ≤ 32 := by have := StrsAre.len hst; rw [Array.length_toList, List.length_take] at this; omega
    refine Lc.stC (j := 3) (C₃.here (W' := Wl L D)) (by decide) (by decide) (Wl.cell (by decide) (by decide)) (fun s₄ C₄ => ?_)
    replace k1 : upd c' 3 (some (.int i ti)) 1 = some (.str (wordF xs) t1) := upd_other k1 (by decide)
    replace k2 : upd c' 3 (some (.int i ti)) 2 = some (.str (wordF xs) t2) := upd_other k2 (by decide)
    have k3 : upd c' 3 (some (.int i ti)) 3 = some (.int i ti) := upd_self
    generalize upd c' 3 (some (.int i ti)) = c3 at C₄ k1 k2 k3
    refine wpAny_execs_cons (wpAny_Assign_Name (Pe.run C₄ (Pe.join (ys := ((rangeI 5).filter (pickP i)).map fun a => ⟨#[(wlF xs).getD a.toNat 0]⟩) ((Pe.compS (hb := s₀.heap) (κ := Int) (Is := IsI) (k := kI) (fun _ _ => kI_is) (L := rangeI 5) (R := Rc w L c3 [(D3, i3)]) Rc.stb (fun _ h => h.rc Y) Lc.fr hA.1
      (src_range (N := 5) Lc.stb (Pe.lB Y (blt_range _)) Pe.int (by decide)) (by decide) (pickP i) (fun a => ⟨#[(wlF xs).getD a.toNat 0]⟩)
      (by rfl) (by decide) rfl (by decide) rfl (fun Cn a v ha q s hs => ?_) (fun Cn a v ha q _ => ?_)).mono TLf.tl) Lc.stb ?_) (fun v s₅ hv C₅ _ => ?_) Lc.stb))
    · obtain ⟨tv, rfl⟩ := q
      obtain ⟨m, hm, rfl⟩ := mem_range5 ha
      refine tests_one (Pt.eqI (i := ((i : Int).fdiv ((2 : Int) ^ ((m : Int)).toNat)).fmod 2) (j := 1) (Rc.stb.and ns_stb).stb (Pe.modI (Rc.stb.and ns_stb).stb (Pe.divI (Rc.stb.and ns_stb).stb ((Pe.gCell (fun s h => k3 ▸ h.1.2.1 3 (by decide) (by decide)) rfl rfl rfl).mono fun _ _ e => ⟨ti, e⟩) (Pe.powI (Rc.stb.and ns_stb).stb Pe.int ((Pe.gLoc (fun s h => h.2) rfl rfl).mono fun _ _ e => ⟨tv, e⟩) (by omega) (by omega) (by decide)) ?_ ?_) Pe.int (by decide)) Pe.int) hs
      · rw [Int.toNat_natCast]; exact Int.pow_ne_zero (by decide)
      · rw [Int.toNat_natCast]; exact PyProof.noPylong_small (pow_small hm)
    · obtain ⟨tv, rfl⟩ := q
      obtain ⟨m, hm, rfl⟩ := mem_range5 ha
      refine Pe.itemS (x := wordF xs) (Rc.stb.and ns_stb).stb ((Pe.gCell (fun s h => k2 ▸ h.1.2.1 2 (by decide) (by decide)) rfl rfl rfl).mono fun _ _ e => ⟨t2, e⟩) ((Pe.gLoc (fun s h => h.2) rfl rfl).mono fun _ _ e => ⟨tv, e⟩) (by omega) ?_ (by omega)
      have wl := wl_len xs
      rw [Int.toNat_natCast, List.getD_eq_getElem?_getD, List.getElem?_eq_getElem (by omega)]
      show (wlF xs).toArray[m]? = _
      rw [List.getElem?_toArray, List.getElem?_eq_getElem (by omega)]; rfl
    · have l5 : ((rangeI 5).filter (pickP i)).length ≤ 5 := Nat.le_trans (List.length_filter_le _ _) (by decide)
      have := sum_const (f := fun a : Int => (1 : Nat)) (k := 1) ((rangeI 5).filter (pickP i)) (fun _ _ => Nat.le_refl _)
      rw [List.map_map]
      show (((rangeI 5).filter (pickP i)).map fun a => 1).sum + _ * 0 ≤ _
      omega
    obtain ⟨t4, rfl⟩ := hv
    have ep : Txt.join (Str.ofString "") (((rangeI 5).filter (pickP i)).map fun a => (⟨#[(wlF xs).getD a.toNat 0]⟩ : Str)) = mkS (subs5 i (wlF xs)) := by
      apply sg_inj
      rw [sg_join, List.map_map, sg_mk, ← pick_subs]
      induction (rangeI 5).filter (pickP i) with
      | nil => rfl
      | cons a r ih => rw [List.map_cons, List.flatten_cons, ih]; rfl
    rw [ep]
    have plen := subs5_len i (wlF xs)
    refine Lc.stC (j := 4) C₅ (by decide) (by decide) (Wl.cell (by decide) (by decide)) (fun s₆ C₆ => ?_)
    replace k1 : upd c3 4 (some (.str (mkS (subs5 i (wlF xs))) t4)) 1 = some (.str (wordF xs) t1) := upd_other k1 (by decide)
    replace k2 : upd c3 4 (some (.str (mkS (subs5 i (wlF xs))) t4)) 2 = some (.str (wordF xs) t2) := upd_other k2 (by decide)
    have k4 : upd c3 4 (some (.str (mkS (subs5 i (wlF xs))) t4)) 4 = some (.str (mkS (subs5 i (wlF xs))) t4) := upd_self
    generalize upd c3 4 (some (.str (mkS (subs5 i (wlF xs))) t4)) = c4 at C₆ k1 k2 k4
    have ml : (mkS (subs5 i (wlF xs))).length = (subs5 i (wlF xs)).length := rfl
    have hnat : ((mkS (subs5 i (wlF xs))).length : Int).natAbs.log2 < 1920 := log_small (by omega)
    have hdig : (Str.ofString (toString ((subs5 i (wlF xs)).length : Int))).length = 1 := by rw [str_digit plen]; rfl
    refine wpAny_execs_cons (append_no (items := its) (P1 := SS (nameS (subs5 i (wlF xs)))) Lc.stb C₆ (Pe.lL (by k_mem)) ?_ (fun _ h => h.2.2.2.1 (D, its) (by k_mem)) (by omega) (fun v s₇ h' hv C₇ k₇ hsb hp => ?_))
    · rw [← str_name plen]
      exact Pe.addS Lc.stb (Pe.strI Lc.stb (Pe.lB Y (blt_str _)) (Pe.lenS Lc.stb (Pe.lB Y (blt_len _)) (Pe.lCS (j := 4) (by decide) (by decide) k4) (by omega)) hnat) (Pe.lCS (j := 4) (by decide) (by decide) k4) (by rw [hdig]; unfold sizeLine; omega)
    · obtain ⟨tv, rfl⟩ := hv
      have C₈ := C₇.write (.inr (.inr rfl)) D0n (List.forall_mem_cons.mpr ⟨D3D, List.forall_mem_nil _⟩) (List.forall_mem_nil _) hsb hp
      refine wpAny_execs_nil ⟨⟨c4, _, k1, k2, ?_, C₈.base⟩, fun b o nw e => C₈.2.2.2.2 b o nw e⟩
      have hx : (namesF (wlF xs))[i]? = some (nameS (subs5 i (wlF xs))) := by
        unfold namesF
        rw [List.getElem?_map, List.getElem?_range hi]; rfl
      rw [Array.toList_push, (take_succ' hx).1]
      exact strs_snoc hst
  · rintro s' ⟨c', its, k1, k2, hst, C₃⟩
    have l32 : (rangeI 32).length = 32 := by simp [rangeI]
    rw [l32, List.take_of_length_le (by omega)] at hst
    exact h D its c' s' D0n D3D k1 hst C₃
end
end Mine
end
section
-- part W29
open PySem PySem.W PyProof.Rows
set_option maxRecDepth 100000
set_option maxHeartbeats 1000000
set_option linter.all false
namespace Mine
local macro_rules | `(tactic| walk_at "put") => `(tactic| ((repeat' (first | exact List.forall_mem_nil _ | refine List.forall_mem_cons.mpr ⟨?_, ?_⟩)) <;> first | exact Or.inl rfl | exact Or.inr ⟨by k_mem, by dsimp only; decide⟩))
local macro_rules | `(tactic| walk_at "sub") => `(tactic| (repeat' (first | exact List.forall_mem_nil _ | refine List.forall_mem_cons.mpr ⟨by k_mem, ?_⟩)))
theorem fold_add_len : ∀ (ns ss : List Str), (ns.foldl addF ss).length ≤ ss.length + ns.length
  | [], ss => by simp
  | x :: r, ss => by
    have := fold_add_len r (addF ss x)
    have := addF_length ss x
    simp only [List.foldl_cons, List.length_cons]; omega
theorem two_of {l : List Str} {a b : Str} (ha : a ∈ l) (hb : b ∈ l) (ne : a ≠ b) : 1 < l.length := by
  match l, ha, hb with
  | [x], ha, hb => exact absurd ((List.mem_singleton.mp ha).trans (List.mem_singleton.mp hb).symm) ne
  | _ :: _ :: _, _, _ => simp
theorem names_two {l : List Nat} (h : l.length = 5) : 1 < ((namesF l).foldl addF []).length := by
  have m := (fold_add (namesF l) [] .nil).2
  refine two_of (a := nameS []) (b := nameS l) ((m _).mpr (.inr ((name_mem h).mpr ⟨[], List.nil_sublist _, rfl⟩))) ((m _).mpr (.inr ((name_mem h).mpr ⟨l, List.Sublist.refl _, rfl⟩))) fun e => ?_
  have := congrArg (fun x : Str => (sg x).length) e
  simp only [nameS, sg_mk, nmL, List.length_cons, List.length_nil, h] at this
  omega
section
variable {w : World} {A : Around} {s₀ s : Shared} {L : Addr} {c : Nat → Option Value} {hb : Heap} {W : Addr → Prop} {n : Nat}
/-- row != sorted(set(names)) -/
theorem set_test {p1 p2 p3 p4 p5 p6 p7 : Pos} {ns : List Str} {D D2 : Addr} {its its2 : Array Value} {l : List (Str × Value)} {Ls Ps : List (Addr × Array Value)} (Y : Says w s₀.heap) (hA : Fine n A) (nlen : ns.length = 32) (h2 : 1 < (ns.foldl addF []).length) (hN : (Str.ofString "names", Value.ref D) ∈ l) (hR : (Str.ofString "row", Value.ref D2) ∈ l) (hD : (D, its) ∈ Ps) (hD2 : (D2, its2) ∈ Ps)
    (hS : StrsAre its.toList ns) (hS2 : StrsAre its2.toList (rowF ns)) (C₁ : Lc s₀ L l c Ls Ps hb W s) :
    wpAny (M w) A (isTrue (.Compare (.Name "row" p1) [.NotEq] [.Call (.Name "sorted" p2) [.Call (.Name "set" p3) [.Name "names" p4] [] p5] [] p6] p7) (lawE L) (eval (.Compare (.Name "row" p1) [.NotEq] [.Call (.Name "sorted" p2) [.Call (.Name "set" p3) [.Name "names" p4] [] p5] [] p6] p7) (lawE L)))
      (fun b s' => b = false ∧ ∃ d, Lc { s₀ with drawn := d } L l c Ls Ps s₀.heap W s') No s := by
  have il := StrsAre.len hS
  rw [Array.length_toList] at il
  refine wpAny_isTrue_Compare1 (Pe.run C₁ (Pe.lL hR) (fun va s₂ eva C₂ _ => ?_) Lc.stb) (by with_unfolding_all rfl)
  cases eva
  have inner : Pe w A (lawE L) (Lc s₀ L l c Ls Ps hb W) (.Call (.Name "set" p3) [.Name "names" p4] [] p5) (fun v s => ∃ S, v = .ref S ∧ SetT w s.heap S (ns.foldl addF [])) :=
    Pe.type1 (P1 := VV (.ref D)) Lc.stb (Pe.lB Y (blt_set _)) (Pe.lL hN) (fun a s hs ha => by
      cases ha
      exact call_setS hA.1 (hs.2.2.2.1 _ hD).isList hS (by show its.size + 1 < 4096; omega) fun S h' tk hST hx => ⟨⟨S, rfl, hST⟩, h', tk, rfl, hx⟩)
  refine Call_ (Pe.run C₂ (Pe.lB Y (blt_sorted _)) (fun v s₃ ev C₃ _ => ?_) Lc.stb)
  cases ev
  refine PyProof.Rows.callWith_builtin1 (args1 inner C₃ (fun a s₄ ⟨S, ea, hST⟩ k₄ => ?_)) rfl rfl
  subst ea
  have C₄ := Lc.stb _ _ C₃ k₄
  obtain ⟨es, ep, t, hE, hel, hT, hpl⟩ := hST
  have esz : es.size = (ns.foldl addF []).length := by have := hT.len; simpa using this
  have e32 := fold_add_len ns []
  rw [nlen] at e32
  simp only [List.length_nil] at e32
  refine sorted_set hE (hpl (by intro e; rw [e] at h2; simp at h2)) (by omega) (by omega) hA.1 hT fun D' h' tk d out ss' hx hl hso hpm hsrt => ?_
  have er : ss' = rowF ns := sorted_is_row hpm hsrt
  rw [er] at hso
  have hl2 : h'.IsList D2 its2 := ((C₄.2.2.2.1 _ hD2).isList).at fun o => hx D2 o
  have l1 := StrsAre.len hS2
  have l2 := StrsAre.len hso
  rw [Array.length_toList] at l1 l2
  refine (SeqAt.RcNeAt.lists (A := A) (s := { s₄ with heap := h', toks := tk, drawn := d }) (e := fun _ => true) hl2 hl (by omega) hA.units fun j a b => ?_) pw w No _ ?_
  · obtain ⟨x, hx', t, e⟩ := StrsAre.get hS2 (i := j) (v := its2[j]) (by simp [a])
    obtain ⟨x', hx'', t', e'⟩ := StrsAre.get hso (i := j) (v := out[j]) (by simp [b])
    rw [hx'] at hx''; cases hx''
    rw [e, e']
    have := SeqAt.EqAt.str_str (A := A.in1) (s := { s₄ with heap := h', toks := tk, drawn := d }) x t x t'
    rwa [beq_self_eq_true] at this
  · rw [all_true]
    refine wpAny_truthy_bool ⟨rfl, d, ?_⟩
    exact (Lc.stb { s₄ with drawn := d } { s₄ with heap := h', toks := tk, drawn := d } (C₄.redraw (d := d)) ⟨h', tk, rfl, hx⟩).base
theorem stageC {xs : List Int} {D3 D : Addr} {i3 its : Array Value} {t1 : Tok} {Q : Flow → Shared → Prop} (Y : Says w s₀.heap) (hA : Fine (n + 2) A) (D0n : s₀.heap.get? D = none) (D3D : D3 ≠ D) (k1 : c 1 = some (.str (wordF xs) t1)) (hS : StrsAre its.toList (namesF (wlF xs)))
    (C₁ : Lc s₀ L [(Str.ofString "drawn", .ref D3), (Str.ofString "names", .ref D)] c [(D3, i3)] [(D, its)] s₀.heap (Wl L D) s)
    (h : ∀ D2 its2 d s', StrsAre its2.toList (rowF (namesF (wlF xs))) → Lc { s₀ with drawn := d } L [(Str.ofString "drawn", .ref D3), (Str.ofString "row", .ref D2)] c [(D3, i3), (D2, its2)] [] s₀.heap (Wl L D2) s' → wpAny (M w) A (execs ((fBod 17).drop 11) (lawE L)) Q No s') :
    wpAny (M w) A (execs ((fBod 17).drop 8) (lawE L)) Q No s := by
  have nlen : (namesF (wlF xs)).length = 32 := by unfold namesF; rw [List.length_map, List.length_range]
  have h2 := names_two (wl_len xs)
  generalize hns : namesF (wlF xs) = ns at *
  refine wpAny_execs_cons (Lc.newList (l' := fun D2 => [(Str.ofString "drawn", .ref D3), (Str.ofString "names", .ref D), (Str.ofString "row", .ref D2)]) C₁ (.inl rfl) (by intro D; walk_at "put") (fun D2 s₂ D2n nL nP C₂ => ?_))
  have D3D2 : D3 ≠ D2 := nL (D3, i3) (by k_mem)
  have DD2 : D ≠ D2 := nP (D, its) (by k_mem)
  have C₂' : Lc s₀ L [(Str.ofString "drawn", .ref D3), (Str.ofString "names", .ref D), (Str.ofString "row", .ref D2)] c [(D3, i3)] [(D2, #[]), (D, its)] s₀.heap (Wl L D2) s₂ := C₂.base
  have nD : ∀ b, b = D → ¬ Wl L D2 b := by
    rintro b rfl (e | ⟨j, j1, j6, e⟩ | e)
    · exact C₂'.1.ne_list (C₂'.2.2.2.1 (b, its) (by k_mem)).isList e
    · exact list_ne_cell (C₂'.2.2.2.1 (b, its) (by k_mem)).isList (C₂'.2.1 j j1 j6) e
    · exact DD2 e
  refine wpAny_execs_cons (for_src hA.1 (src_TLat (ys := ns) (D := D) (items := its) (Pe.lL (by k_mem)) Lc.stb (fun s h => (h.2.2.2.1 (D, its) (by k_mem)).isList) hS) C₂' (Wl L D2) C₂'.has nD
    (fun i s' => ∃ its2, StrsAre its2.toList (rowF (ns.take i)) ∧ Lc s₀ L [(Str.ofString "drawn", .ref D3), (Str.ofString "names", .ref D), (Str.ofString "row", .ref D2)] c [(D3, i3)] [(D2, its2), (D, its)] s₀.heap (Wl L D2) s')
    (fun s' k => ⟨#[], .nil, Lc.stb _ _ C₂' k⟩) ?_ ?_ ?_)
  · rintro i s' ⟨its2, a, x⟩ h' tk kk
    refine ⟨its2, a, C₂'.framed x (List.forall_mem_cons.mpr ⟨?_, List.forall_mem_nil _⟩) (List.forall_mem_cons.mpr ⟨?_, List.forall_mem_cons.mpr ⟨?_, List.forall_mem_nil _⟩⟩) kk⟩
    · obtain ⟨o, ho, _⟩ := C₂'.2.2.1 (D3, i3) (by k_mem); rw [ho]; simp
    · exact C₂'.has D2 (.inr (.inr rfl))
    · obtain ⟨m, ho⟩ := C₂'.2.2.2.1 (D, its) (by k_mem); rw [ho]; simp
  · rintro i x v s₃ hx ⟨tx, rfl⟩ ⟨its2, hst, C₃⟩
    have isz := StrsAre.len hst
    rw [Array.length_toList] at isz
    have rl := rowF_length (ns.take i)
    have rs := rowF_sorted (ns.take i)
    have rt := rowF_take ns hx
    rw [List.length_take] at rl
    generalize rowF (ns.take i) = row at hst isz rl rs rt
    rw [rt]
    have ple := pos_le row x
    have pok := pos_ok x rs
    unfold insS
    generalize posS row x = k at ple pok
    refine Lc.stL (l' := [(Str.ofString "drawn", .ref D3), (Str.ofString "names", .ref D), (Str.ofString "row", .ref D2), (Str.ofString "name", .str x tx)]) (C₃.here (W' := Wl L D2)) (.inl rfl) (by walk_at "put") (fun s₄ C₄ => ?_)
    refine wpAny_execs_cons (wpAny_Assign_Name (Pe.run C₄ (Pe.def2 (P1 := VV (.ref D2)) (P2 := SS x) (P := II k) Lc.stb VV.stb (Pe.lG Y (g_bisect _)) (fun _ h => at_bis (h.says Y)) (by rfl) (Pe.lL (by k_mem)) ((Pe.lL (by k_mem)).mono fun _ _ e => ⟨tx, e⟩) (fun a b s' hs' ha ⟨u, hb'⟩ => ?_)) (fun v s₅ hv C₅ _ => ?_) Lc.stb))
    · cases ha; subst hb'
      exact bis_ok (hs'.says Y) hA (hs'.2.2.2.1 (D2, its2) (by k_mem)).isList hst (by omega) ple pok
    obtain ⟨tk, rfl⟩ := hv
    refine Lc.stL (l' := [(Str.ofString "drawn", .ref D3), (Str.ofString "names", .ref D), (Str.ofString "row", .ref D2), (Str.ofString "name", .str x tx), (Str.ofString "k", .int k tk)]) C₅ (.inl rfl) (by walk_at "put") (fun s₆ C₆ => ?_)
    have pK : ∀ {pos : Pos}, Pe w A (lawE L) (Lc s₀ L [(Str.ofString "drawn", .ref D3), (Str.ofString "names", .ref D), (Str.ofString "row", .ref D2), (Str.ofString "name", .str x tx), (Str.ofString "k", .int k tk)] c [(D3, i3)] [(D2, its2), (D, its)] s₃.heap (Wl L D2)) (.Name "k" pos) (II k) := (Pe.lL (by k_mem)).mono fun _ _ e => ⟨tk, e⟩
    have pN : ∀ {pos : Pos}, Pe w A (lawE L) (Lc s₀ L [(Str.ofString "drawn", .ref D3), (Str.ofString "names", .ref D), (Str.ofString "row", .ref D2), (Str.ofString "name", .str x tx), (Str.ofString "k", .int k tk)] c [(D3, i3)] [(D2, its2), (D, its)] s₃.heap (Wl L D2)) (.Name "name" pos) (SS x) := (Pe.lL (by k_mem)).mono fun _ _ e => ⟨tx, e⟩
    have pR : ∀ {pos : Pos}, Pe w A (lawE L) (Lc s₀ L [(Str.ofString "drawn", .ref D3), (Str.ofString "names", .ref D), (Str.ofString "row", .ref D2), (Str.ofString "name", .str x tx), (Str.ofString "k", .int k tk)] c [(D3, i3)] [(D2, its2), (D, its)] s₃.heap (Wl L D2)) (.Name "row" pos) (TL row) := Pe.lTL (by k_mem) (.inr (by k_mem)) hst
    obtain ⟨y, hy⟩ : ∃ y : Str, k < row.length → row[k]? = some y := by
      rcases Nat.lt_or_ge k row.length with lt | ge
      · exact ⟨row[k], fun _ => List.getElem?_eq_getElem lt⟩
      · exact ⟨x, fun lt => absurd lt (by omega)⟩
    refine wpAny_execs_cons (wpAny_If (Pt.run C₆ (Pt.or (b := ((k : Int) == (row.length : Int))) (c := (y != x)) Lc.stb (Pt.eqI Lc.stb pK (Pe.lenT Lc.stb (Pe.lB Y (blt_len _)) pR (by omega))) (fun hne => Pt.neS Lc.stb (Pe.itemT Lc.stb pR pK (by omega) (.inl ⟨by omega, ?_⟩)) pN)) (fun s₇ C₇ _ => ?_) Lc.stb))
    · rw [Int.toNat_natCast]
      refine hy ?_
      have : ¬ ((k : Int) = (row.length : Int)) := by simpa using hne
      omega
    by_cases z : row[k]? = some x
    · have lt : k < row.length := (List.getElem?_eq_some_iff.mp z).1
      have e := hy lt
      rw [z] at e; cases e
      rw [if_neg (by
        have : ¬ ((k : Int) = (row.length : Int)) := by omega
        simp [this]), if_pos z]
      exact wpAny_execs_nil (wpAny_execs_nil ⟨⟨its2, hst, (C₇.sub (by walk_at "sub") (fun p hp => .inl hp) (fun p hp => hp)).base⟩, fun b o nw e => C₇.2.2.2.2 b o nw e⟩)
    · rw [if_pos (by
        rcases Nat.lt_or_ge k row.length with lt | ge
        · have e := hy lt
          have : y ≠ x := fun q => z (q ▸ e)
          simp [this]
        · have : (k : Int) = (row.length : Int) := by omega
          simp [this]), if_neg z]
      refine wpAny_execs_cons (insert_no (D := D2) (items := its2) (k := k) (P1 := SS x) Lc.stb C₇ (Pe.lL (by k_mem)) pK pN (fun _ h => h.2.2.2.1 (D2, its2) (by k_mem)) (by omega) (by omega) (fun v s₈ h' hv C₈ k₈ hsb hp => ?_))
      obtain ⟨tv, rfl⟩ := hv
      have C₉ := C₈.write (.inr (.inr rfl)) D2n (List.forall_mem_cons.mpr ⟨D3D2, List.forall_mem_nil _⟩) (List.forall_mem_cons.mpr ⟨DD2, List.forall_mem_nil _⟩) hsb hp
      refine wpAny_execs_nil (wpAny_execs_nil ⟨⟨_, ?_, (C₉.sub (by walk_at "sub") (fun p hp => .inl hp) (fun p hp => hp)).base⟩, fun b o nw e => C₉.2.2.2.2 b o nw e⟩)
      show StrsAre (its2.toList.take k ++ .str x tv :: its2.toList.drop k) _
      exact PyProof.Rows.StrsAre.append' (PyProof.Rows.StrsAre.take' hst k) (.cons x tv (PyProof.Rows.StrsAre.drop' hst k))
  · rintro s' ⟨its2, hst, C₃⟩
    rw [List.take_of_length_le (by omega)] at hst
    refine wpAny_execs_cons (wpAny_If (wpAny_mono (set_test Y hA nlen h2 (by k_mem) (by k_mem) (D := D) (its := its) (D2 := D2) (its2 := its2) (by k_mem) (by k_mem) hS hst C₃) (fun b s₄ ⟨eb, d, C₄⟩ => ?_) fun _ _ x => x.elim))
    subst eb
    rw [if_neg Bool.false_ne_true]
    refine wpAny_execs_nil (h D2 its2 d s₄ hst (C₄.sub (by walk_at "sub") (fun p hp => ?_) (List.forall_mem_nil _)))
    rcases List.mem_cons.mp hp with rfl | hp
    · exact .inl (by k_mem)
    · rw [List.mem_singleton.mp hp]; exact .inr (by k_mem)
end
end Mine
end
section
-- part W30
open PySem PySem.W PyProof.Rows
set_option maxRecDepth 100000
set_option maxHeartbeats 1000000
set_option linter.all false
namespace Mine
local macro_rules | `(tactic| walk_at "put") => `(tactic| ((repeat' (first | exact List.forall_mem_nil _ | refine List.forall_mem_cons.mpr ⟨?_, ?_⟩)) <;> first | exact Or.inl rfl | exact Or.inr ⟨by k_mem, by dsimp only; decide⟩))
local macro_rules | `(tactic| walk_at "sub") => `(tactic| (repeat' (first | exact List.forall_mem_nil _ | refine List.forall_mem_cons.mpr ⟨by k_mem, ?_⟩)))
def d5F (xs : List Int) : Int := (drF xs).getD 5 0
def outF (xs : List Int) : List Int := [(d5F xs).fmod 5, ((d5F xs).fdiv 5).fmod 5, ((d5F xs).fdiv 25).fmod 5]
def lowP (xs : List Int) (a : Int) : Bool := !((outF xs).any (· == a))
def lowL (xs : List Int) : List Nat := ((rangeI 5).filter (lowP xs)).map fun a => (wlF xs).getD a.toNat 0
theorem low_len (xs : List Int) : (lowL xs).length ≤ 5 := by
  unfold lowL
  rw [List.length_map]
  exact Nat.le_trans (List.length_filter_le _ _) (by decide)
theorem low_fsk (xs : List Int) : ∀ c ∈ lowL xs, c ∈ fsk := fun c hc => by
  obtain ⟨a, ha, rfl⟩ := List.mem_map.mp hc
  obtain ⟨m, hm, rfl⟩ := mem_range5 (List.mem_filter.mp ha).1
  have wl := wl_len xs
  rw [Int.toNat_natCast, List.getD_eq_getElem?_getD, List.getElem?_eq_getElem (by omega)]
  exact wl_fsk xs _ (List.getElem_mem _)
theorem fsk_dot {l : List Nat} (h : ∀ c ∈ l, c ∈ fsk) : ∀ c ∈ l, c ≠ 46 := fun c hc e => by
  have := h c hc
  rw [e] at this
  exact absurd this (by decide)
def tlS (x : Str) : Str := mkS (sg x).tail
theorem tl_name (p : List Nat) : tlS (nameS p) = mkS p := rfl
theorem names_drop {l low : List Nat} (h : l.length = 5) (k : Nat) : (((rowF (namesF l)).drop k).filter fun x => low.isSublist (sg (tlS x))).map tlS = (((wordsF l).drop k).filter fun p => low.isSublist p).map mkS := by
  rw [row_words h, ← List.map_drop, List.filter_map, List.map_map]; rfl
section
variable {w : World} {A : Around} {s₀ s : Shared} {L : Addr} {c : Nat → Option Value} {hb : Heap} {W : Addr → Prop} {n : Nat}
theorem tup_ne_cell {h : Heap} {D a : Addr} {items : Array Value} {v : Option Value} (x : IsTup h D items) (y : h.IsCell a v) : D ≠ a := by
  rintro rfl
  obtain ⟨o, ho, _, n, hd⟩ := x
  obtain ⟨o', ho', hd'⟩ := y
  rw [ho] at ho'; cases ho'
  rw [hd] at hd'; cases hd'
theorem isTup_stb {D : Addr} {items : Array Value} : HStb (fun h => IsTup h D items) := fun _ _ x e => isTup_at x fun o => e D o
theorem stageD1 {xs : List Int} {D2 D3 : Addr} {its2 i3 : Array Value} {t1 : Tok} {Q : Flow → Shared → Prop} (Y : Says w s₀.heap) (hA : Fine (n + 2) A) (k1 : c 1 = some (.str (wordF xs) t1)) (h3 : IntsAre i3.toList (drF xs))
    (C₁ : Lc s₀ L [(Str.ofString "drawn", .ref D3), (Str.ofString "row", .ref D2)] c [(D3, i3), (D2, its2)] [] hb W s)
    (h : ∀ c' t6 s', c' 6 = some (.str (mkS (lowL xs)) t6) → Lc s₀ L [(Str.ofString "drawn", .ref D3), (Str.ofString "row", .ref D2)] c' [(D3, i3), (D2, its2)] [] s₀.heap (fun b => b = L) s' → wpAny (M w) A (execs ((fBod 17).drop 13) (lawE L)) Q No s') :
    wpAny (M w) A (execs ((fBod 17).drop 11) (lawE L)) Q No s := by
  have dl := dr_len xs
  have wlen := word_len xs
  have h5 : (drF xs)[5]? = some (d5F xs) := by
    unfold d5F
    rw [List.getD_eq_getElem?_getD, List.getElem?_eq_getElem (by omega)]; rfl
  have p5 : ∀ {p1 p2 p3 : Pos} {kk : Nat}, Pe w A (lawE L) (Lc s₀ L [(Str.ofString "drawn", .ref D3), (Str.ofString "row", .ref D2)] c [(D3, i3), (D2, its2)] [] hb W) (.Subscript (.Name "drawn" p1) (.Constant (.int 5) kk p2) p3) (II (d5F xs)) := Pe.itemI Lc.stb (Pe.lIL (by k_mem) (.inl (by k_mem)) h3) Pe.int (by omega) (.inl ⟨by decide, h5⟩)
  refine wpAny_execs_cons (wpAny_Assign_Name (Pe.run C₁ (Pe.tup3 Lc.stb (Pe.modI Lc.stb p5 Pe.int (by decide)) (Pe.modI Lc.stb (Pe.divI Lc.stb p5 Pe.int (by decide) (PyProof.noPylong_small (by decide))) Pe.int (by decide)) (Pe.modI Lc.stb (Pe.divI Lc.stb p5 Pe.int (by decide) (PyProof.noPylong_small (by decide))) Pe.int (by decide))) (fun v s₂ hv C₂ _ => ?_) Lc.stb))
  obtain ⟨T, iT, rfl, hT, hTI⟩ := hv
  have TL5 : T ≠ (L + 5 : Nat) := tup_ne_cell hT (C₂.2.1 5 (by decide) (by decide))
  refine Lc.stC (j := 5) (C₂.here (W' := fun b => b = (L + 5 : Nat))) (by decide) (by decide) rfl (fun s₃ C₃ => ?_)
  have hT₃ : IsTup s₃.heap T iT := isTup_at hT fun o e => C₃.2.2.2.2 T o TL5 e
  replace k1 : upd c 5 (some (.ref T)) 1 = some (.str (wordF xs) t1) := upd_other k1 (by decide)
  have k5 : upd c 5 (some (.ref T)) 5 = some (.ref T) := upd_self
  generalize upd c 5 (some (.ref T)) = c5 at C₃ k1 k5
  have C₃ := C₃.base (W' := fun b => b = (L + 6 : Nat))
  have st : Stb (fun s => Lc s₀ L [(Str.ofString "drawn", .ref D3), (Str.ofString "row", .ref D2)] c5 [(D3, i3), (D2, its2)] [] s₀.heap (fun b => b = (L + 6 : Nat)) s ∧ IsTup s.heap T iT) := Lc.stb.and fun _ _ x k => isTup_at x fun o => kg k T o
  have Rs : HStb (fun h => Rc w L c5 [(D3, i3), (D2, its2)] h ∧ IsTup h T iT) := Rc.stb.and isTup_stb
  refine wpAny_execs_cons (wpAny_Assign_Name (Pe.run (C := fun s => Lc s₀ L [(Str.ofString "drawn", .ref D3), (Str.ofString "row", .ref D2)] c5 [(D3, i3), (D2, its2)] [] s₀.heap (fun b => b = (L + 6 : Nat)) s ∧ IsTup s.heap T iT) ⟨C₃, hT₃⟩ (Pe.join (ys := ((rangeI 5).filter (lowP xs)).map fun a => ⟨#[(wlF xs).getD a.toNat 0]⟩) ((Pe.compS (hb := s₀.heap) (κ := Int) (Is := IsI) (k := kI) (fun _ _ => kI_is) (L := rangeI 5) (R := fun h => Rc w L c5 [(D3, i3), (D2, its2)] h ∧ IsTup h T iT) Rs (fun _ h => ⟨h.1.rc Y, h.2⟩) (fun s x => Lc.fr s x.1) hA.1
      (src_range (N := 5) st (Pe.gBlt (fun s h => h.1.says Y) (blt_range _) rfl rfl rfl rfl) Pe.int (by decide)) (by decide) (lowP xs) (fun a => ⟨#[(wlF xs).getD a.toNat 0]⟩)
      (by rfl) (by decide) rfl (by decide) rfl (fun Cn a v ha q s hs => ?_) (fun Cn a v ha q _ => ?_)).mono TLf.tl) st ?_) (fun v s₄ hv C₄ _ => ?_) st))
  · obtain ⟨tv, rfl⟩ := q
    exact tests_one (Pt.notInT (ns := outF xs) (Rs.and ns_stb).stb ((Pe.gLoc (fun s h => h.2) rfl rfl).mono fun _ _ e => ⟨tv, e⟩) (Pe.monoC (Pe.gCell (fun s h => k5 ▸ h.1.1.2.1 5 (by decide) (by decide)) rfl rfl rfl) (Rs.and ns_stb).stb fun v s hs e => ⟨T, iT, e, hs.1.2, hTI⟩)) hs
  · obtain ⟨tv, rfl⟩ := q
    obtain ⟨m, hm, rfl⟩ := mem_range5 ha
    refine Pe.itemS (x := wordF xs) (Rs.and ns_stb).stb ((Pe.gCell (fun s h => k1 ▸ h.1.1.2.1 1 (by decide) (by decide)) rfl rfl rfl).mono fun _ _ e => ⟨t1, e⟩) ((Pe.gLoc (fun s h => h.2) rfl rfl).mono fun _ _ e => ⟨tv, e⟩) (by omega) ?_ (by omega)
    have wl := wl_len xs
    rw [Int.toNat_natCast, List.getD_eq_getElem?_getD, List.getElem?_eq_getElem (by omega)]
    show (wlF xs).toArray[m]? = _
    rw [List.getElem?_toArray, List.getElem?_eq_getElem (by omega)]; rfl
  · have l5 : ((rangeI 5).filter (lowP xs)).length ≤ 5 := Nat.le_trans (List.length_filter_le _ _) (by decide)
    have := sum_const (f := fun a : Int => (1 : Nat)) (k := 1) ((rangeI 5).filter (lowP xs)) (fun _ _ => Nat.le_refl _)
    rw [List.map_map]
    show (((rangeI 5).filter (lowP xs)).map fun a => 1).sum + _ * 0 ≤ _
    omega
  obtain ⟨t6, rfl⟩ := hv
  have ep : Txt.join (Str.ofString "") (((rangeI 5).filter (lowP xs)).map fun a => (⟨#[(wlF xs).getD a.toNat 0]⟩ : Str)) = mkS (lowL xs) := by
    apply sg_inj
    rw [sg_join, List.map_map, sg_mk]
    unfold lowL
    induction (rangeI 5).filter (lowP xs) with
    | nil => rfl
    | cons a r ih => rw [List.map_cons, List.flatten_cons, ih]; rfl
  rw [ep]
  refine Lc.stC (j := 6) C₄.1 (by decide) (by decide) rfl (fun s₅ C₅ => ?_)
  exact h _ t6 s₅ upd_self C₅.base
theorem stageD2 {xs : List Int} {D2 D3 : Addr} {its2 i3 : Array Value} {t6 : Tok} {Q : Flow → Shared → Prop} (Y : Says w s₀.heap) (hA : Fine (n + 2) A) (k6 : c 6 = some (.str (mkS (lowL xs)) t6)) (h2 : StrsAre its2.toList (rowF (namesF (wlF xs)))) (hW : W L)
    (C₁ : Lc s₀ L [(Str.ofString "drawn", .ref D3), (Str.ofString "row", .ref D2)] c [(D3, i3), (D2, its2)] [] hb W s)
    (h : ∀ D5 i5 s', StrsAre i5.toList ((betw (wlF xs) (lowL xs)).map mkS) → Lc s₀ L [(Str.ofString "row", .ref D2), (Str.ofString "between", .ref D5)] c [(D5, i5), (D2, its2)] [] hb W s' → wpAny (M w) A (execs ((fBod 17).drop 15) (lawE L)) Q No s') :
    wpAny (M w) A (execs ((fBod 17).drop 13) (lawE L)) Q No s := by
  have wl := wl_len xs
  have nlen : (namesF (wlF xs)).length = 32 := by unfold namesF; rw [List.length_map, List.length_range]
  have rl := rowF_length (namesF (wlF xs))
  have rs := rowF_sorted (namesF (wlF xs))
  have ll := low_len xs
  have lf := fsk_dot (low_fsk xs)
  have ple := pos_le (rowF (namesF (wlF xs))) (mkS [48 + (lowL xs).length])
  have pok := pos_ok (mkS [48 + (lowL xs).length]) rs
  have bd := betw_drop (low := lowL xs) (k := posS (rowF (namesF (wlF xs))) (mkS [48 + (lowL xs).length])) wl pok
  have nd := names_drop (l := wlF xs) (low := lowL xs) wl (posS (rowF (namesF (wlF xs))) (mkS [48 + (lowL xs).length]))
  rw [bd] at nd
  have rm : ∀ x ∈ rowF (namesF (wlF xs)), ∃ p : List Nat, p.length ≤ 5 ∧ x = nameS p := fun x hx => by
    obtain ⟨p, hp, e⟩ := (row_mem wl x).mp hx
    exact ⟨p, by have := hp.length_le; omega, e⟩
  generalize betw (wlF xs) (lowL xs) = B at nd h
  generalize posS (rowF (namesF (wlF xs))) (mkS [48 + (lowL xs).length]) = k at *
  generalize rowF (namesF (wlF xs)) = row at *
  generalize lowL xs = low at *
  have ml : (mkS low).length = low.length := rfl
  refine wpAny_execs_cons (wpAny_Assign_Name (Pe.run C₁ (Pe.def2 (P1 := VV (.ref D2)) (P2 := SS (mkS [48 + low.length])) (P := II k) Lc.stb VV.stb (Pe.lG Y (g_bisect _)) (fun _ h => at_bis (h.says Y)) (by rfl) (Pe.lL (by k_mem)) (by
      rw [← str_digit ll]
      exact Pe.strI Lc.stb (Pe.lB Y (blt_str _)) (Pe.lenS (x := mkS low) Lc.stb (Pe.lB Y (blt_len _)) (Pe.lCS (j := 6) (by decide) (by decide) k6) (by omega)) (log_small (by omega))) (fun a b s' hs' ha ⟨u, hb'⟩ => ?_)) (fun v s₂ hv C₂ _ => ?_) Lc.stb))
  · cases ha; subst hb'
    exact bis_ok (hs'.says Y) hA (hs'.2.2.1 (D2, its2) (by k_mem)) h2 (by omega) ple pok
  obtain ⟨tk, rfl⟩ := hv
  refine Lc.stL (l' := [(Str.ofString "row", .ref D2), (Str.ofString "begin", .int k tk)]) C₂ hW (by walk_at "put") (fun s₃ C₃ => ?_)
  replace C₃ : Lc s₀ L [(Str.ofString "row", .ref D2), (Str.ofString "begin", .int k tk)] c [(D2, its2)] [] hb W s₃ := C₃.sub (by walk_at "sub") (fun p hp => by rw [List.mem_singleton.mp hp]; exact .inl (by k_mem)) (List.forall_mem_nil _)
  refine wpAny_execs_cons (Lc.asgComp (κ := Str) (Is := IsS) (k := kS) (fun _ _ => kS_is) (Lk := row.drop k) (l' := fun D => [(Str.ofString "row", .ref D2), (Str.ofString "between", .ref D)]) hW Y hA.1
    (src_TL (Pe.fromT Lc.stb (Pe.lTL (by k_mem) (.inl (by k_mem)) h2) ((Pe.lL (by k_mem)).mono fun _ _ e => ⟨tk, e⟩) (by omega))) (by rw [List.length_drop]; omega) (fun x => low.isSublist (sg (tlS x))) (fun x v => IsS (tlS x) v)
    (by with_unfolding_all rfl) (by rfl) (by decide) rfl (by decide) rfl (fun Cn x v hx q s hs => ?_) (fun Cn x v hx q _ => ?_) (by intro D; walk_at "put") C₃ (fun D5 i5 s₄ C₄ hP => ?_))
  · obtain ⟨tv, rfl⟩ := q
    obtain ⟨p, hp, rfl⟩ := rm x (List.mem_of_mem_drop hx)
    have nl : (nameS p).length = p.length + 1 := rfl
    have tl : (tlS (nameS p)).length = p.length := rfl
    have arg2 : ∀ {p1 p2 p3 p4 : Pos} {kk : Nat}, Pe w A (compEnvC { kind := .function, names := [(Str.ofString ".0", .local), (Str.ofString "name", .local), (Str.ofString "_ellipsis_match", .globalImplicit), (Str.ofString "_law_dots", .globalImplicit), (Str.ofString "low", .free)], isGenerator := false, isCoroutine := false } [(Str.ofString "low", (L + 6 : Nat))] Cn (lawE L)) (Hc fun h => Rc w L c [(D2, its2)] h ∧ ∃ m, h.Ns Cn m ∧ m (Str.ofString "name") = some (.str (nameS p) tv)) (.Subscript (.Name "name" p1) (.Slice (some (.Constant (.int 1) kk p2)) Option.none Option.none p3) p4) (SS (tlS (nameS p))) := by
      intros
      have e : Txt.slice (nameS p) (some 1) none = tlS (nameS p) := slice1 (by omega)
      rw [← e]
      exact Pe.sliceFrom (Rc.stb.and ns_stb).stb ((Pe.gLoc (fun s h => h.2) rfl rfl).mono fun _ _ e => ⟨tv, e⟩) Pe.int (by omega)
    refine tests_one (Pt.ofB (Pe.def2 (P1 := SS (dots (mkS low))) (P2 := SS (tlS (nameS p))) (P := BB (low.isSublist (sg (tlS (nameS p))))) (Rc.stb.and ns_stb).stb SS.stb (Pe.gGlob (fun s h => h.1.1) (g_ell _) rfl rfl rfl) (fun _ h => at_ell h.1.1) (by rfl)
      (Pe.def1 (P1 := SS (mkS low)) (P := SS (dots (mkS low))) (Rc.stb.and ns_stb).stb (Pe.gGlob (fun s h => h.1.1) (g_dots _) rfl rfl rfl) (fun _ h => at_dots h.1.1) (by rfl) ((Pe.gCell (fun s h => k6 ▸ h.1.2.1 6 (by decide) (by decide)) rfl rfl rfl).mono fun _ _ e => ⟨t6, e⟩) (fun a s' hs' ⟨u, ha⟩ => by subst ha; exact dots_ok hs'.1.1 hA (by omega)))
      arg2 (fun a b s' hs' ⟨u, ha⟩ ⟨u', hb'⟩ => ?_))) hs
    subst ha hb'
    refine wpAny_mono (ell_ok hs'.1.1 hA lf (by omega) (by omega)) (fun v s h => ⟨?_, h.2⟩) fun _ _ x => x
    rw [h.1, ell_is]; rfl
  · obtain ⟨tv, rfl⟩ := q
    obtain ⟨p, hp, rfl⟩ := rm x (List.mem_of_mem_drop hx)
    have nl : (nameS p).length = p.length + 1 := rfl
    have e : Txt.slice (nameS p) (some 1) none = tlS (nameS p) := slice1 (by omega)
    refine (Pe.sliceFrom (Rc.stb.and ns_stb).stb ((Pe.gLoc (fun s h => h.2) rfl rfl).mono fun _ _ e => ⟨tv, e⟩) Pe.int (by omega)).mono fun v s hv => ?_
    rw [e] at hv; exact hv
  · have hS := strs_of_paired (g := tlS) hP
    rw [nd] at hS
    exact h D5 i5 s₄ hS C₄
end
end Mine
end
section
-- part W31
open PySem PySem.W PyProof.Rows
set_option maxRecDepth 100000
set_option maxHeartbeats 1000000
set_option linter.all false
namespace Mine
local macro_rules | `(tactic| walk_at "put") => `(tactic| ((repeat' (first | exact List.forall_mem_nil _ | refine List.forall_mem_cons.mpr ⟨?_, ?_⟩)) <;> first | exact Or.inl rfl | exact Or.inr ⟨by k_mem, by dsimp only; decide⟩))
local macro_rules | `(tactic| walk_at "sub") => `(tactic| (repeat' (first | exact List.forall_mem_nil _ | refine List.forall_mem_cons.mpr ⟨by k_mem, ?_⟩)))
theorem zip_take (f : List Nat → Int) : ∀ (B : List (List Nat)) (i : Nat), (B.map mkS).zip ((B.take i).map f) = (B.take i).map fun q => (mkS q, f q)
  | [], i => by simp
  | b :: B, 0 => by simp
  | b :: B, i + 1 => by
    simp only [List.map_cons, List.take_succ_cons, List.zip_cons_cons]
    rw [zip_take f B i]
theorem zip_less (f : List Nat → Int) (low part : List Nat) (B : List (List Nat)) (i : Nat) : ((((B.map mkS).zip ((B.take i).map f)).filter fun x : Str × Int => decide (x.1.length < part.length) && (sg x.1).isSublist part).map (·.2)) = ((B.take i).filter (lessF low part)).map f := by
  rw [zip_take, List.filter_map, List.map_map]
  rfl
theorem sgn_nat (m : Nat) : (sgn m).natAbs = 1 := by
  induction m with
  | zero => rfl
  | succ m ih => rw [sgn_succ, Int.natAbs_neg]; exact ih
section
variable {w : World} {A : Around} {s₀ s : Shared} {L : Addr} {c : Nat → Option Value} {hb : Heap} {W : Addr → Prop} {n : Nat}
theorem stageE1 {xs : List Int} {D2 D5 : Addr} {its2 i5 : Array Value} {t6 : Tok} {Q : Flow → Shared → Prop} (Y : Says w s₀.heap) (hA : Fine (n + 2) A) (k6 : c 6 = some (.str (mkS (lowL xs)) t6)) (h5 : StrsAre i5.toList ((betw (wlF xs) (lowL xs)).map mkS)) (hW : W L)
    (C₁ : Lc s₀ L [(Str.ofString "row", .ref D2), (Str.ofString "between", .ref D5)] c [(D5, i5), (D2, its2)] [] hb W s)
    (h : ∀ DV its c' s', c' 6 = some (.str (mkS (lowL xs)) t6) → IntsAre its.toList ((betw (wlF xs) (lowL xs)).map (mu (lowL xs))) → Lc s₀ L [(Str.ofString "row", .ref D2), (Str.ofString "between", .ref D5), (Str.ofString "values", .ref DV)] c' [(D5, i5), (D2, its2), (DV, its)] [] s₀.heap (Wl L DV) s' → wpAny (M w) A (execs ((fBod 17).drop 17) (lawE L)) Q No s') :
    wpAny (M w) A (execs ((fBod 17).drop 15) (lawE L)) Q No s := by
  have wl := wl_len xs
  have ll := low_len xs
  have step : ∀ i part, (betw (wlF xs) (lowL xs))[i]? = some part → _ := fun i part h => mu_step (low := lowL xs) (part := part) (i := i) wl h
  have bm : ∀ p ∈ betw (wlF xs) (lowL xs), p.length ≤ 5 ∧ ∀ c ∈ p, c ≠ 46 := fun p hp => by
    have hs := ((betw_mem wl p).mp hp).1
    exact ⟨by have := hs.length_le; omega, fsk_dot fun c hc => wl_fsk xs c (hs.subset hc)⟩
  have bl : (betw (wlF xs) (lowL xs)).length ≤ 32 := by
    unfold betw
    refine Nat.le_trans (List.length_filter_le _ _) ?_
    unfold wordsF
    rw [List.length_map]
    refine Nat.le_trans (rowF_length _) ?_
    unfold namesF
    rw [List.length_map, List.length_range]; exact Nat.le_refl _
  generalize betw (wlF xs) (lowL xs) = B at *
  generalize lowL xs = low at *
  have l5 := StrsAre.len h5
  rw [Array.length_toList, List.length_map] at l5
  have ml : (mkS low).length = low.length := rfl
  refine wpAny_execs_cons (Lc.newList (l' := fun DV => [(Str.ofString "row", .ref D2), (Str.ofString "between", .ref D5), (Str.ofString "values", .ref DV)]) C₁ hW (by intro D; walk_at "put") (fun DV s₂ DVn nL _ C₂ => ?_))
  have D5V : D5 ≠ DV := nL (D5, i5) (by k_mem)
  have D2V : D2 ≠ DV := nL (D2, its2) (by k_mem)
  have C₂' : Lc s₀ L [(Str.ofString "row", .ref D2), (Str.ofString "between", .ref D5), (Str.ofString "values", .ref DV)] c [(D5, i5), (D2, its2)] [(DV, #[])] s₀.heap (Wl L DV) s₂ := C₂.base
  have nD : ∀ b, b = D5 → ¬ Wl L DV b := by
    rintro b rfl (e | ⟨j, j1, j6, e⟩ | e)
    · exact C₂'.1.ne_list (C₂'.2.2.1 (b, i5) (by k_mem)) e
    · exact list_ne_cell (C₂'.2.2.1 (b, i5) (by k_mem)) (C₂'.2.1 j j1 j6) e
    · exact D5V e
  refine wpAny_execs_cons (for_src hA.1 (src_TLat (ys := B.map mkS) (D := D5) (items := i5) (Pe.lL (by k_mem)) Lc.stb (fun s h => h.2.2.1 (D5, i5) (by k_mem)) h5) C₂' (Wl L DV) C₂'.has nD
    (fun i s' => ∃ c' its, c' 6 = some (.str (mkS low) t6) ∧ IntsAre its.toList ((B.take i).map (mu low)) ∧ Lc s₀ L [(Str.ofString "row", .ref D2), (Str.ofString "between", .ref D5), (Str.ofString "values", .ref DV)] c' [(D5, i5), (D2, its2)] [(DV, its)] s₀.heap (Wl L DV) s')
    (fun s' k => ⟨c, #[], k6, .nil, Lc.stb _ _ C₂' k⟩) ?_ ?_ ?_)
  · rintro i s' ⟨c', its, a, b, x⟩ h' tk kk
    refine ⟨c', its, a, b, C₂'.framed x (List.forall_mem_cons.mpr ⟨?_, List.forall_mem_cons.mpr ⟨?_, List.forall_mem_nil _⟩⟩) (List.forall_mem_cons.mpr ⟨?_, List.forall_mem_nil _⟩) kk⟩
    · obtain ⟨o, ho, _⟩ := C₂'.2.2.1 (D5, i5) (by k_mem); rw [ho]; simp
    · obtain ⟨o, ho, _⟩ := C₂'.2.2.1 (D2, its2) (by k_mem); rw [ho]; simp
    · exact C₂'.has DV (.inr (.inr rfl))
  · rintro i x v s₃ hx ⟨tx, rfl⟩ ⟨c', its, k6, hst, C₃⟩
    obtain ⟨part, hpart, rfl⟩ : ∃ part, B[i]? = some part ∧ mkS part = x := by
      rw [List.getElem?_map] at hx
      obtain ⟨part, e1, e2⟩ := Option.map_eq_some_iff.mp hx
      exact ⟨part, e1, e2⟩
    have hstep := step i part hpart
    have hpm := bm part (List.mem_of_getElem? hpart)
    have pl : (mkS part).length = part.length := rfl
    have isz := IntsAre.len hst
    rw [Array.length_toList, List.length_map, List.length_take] at isz
    refine Lc.stC (j := 4) (C₃.here (W' := Wl L DV)) (by decide) (by decide) (Wl.cell (by decide) (by decide)) (fun s₄ C₄ => ?_)
    replace k6 : upd c' 4 (some (.str (mkS part) tx)) 6 = some (.str (mkS low) t6) := upd_other k6 (by decide)
    have k4 : upd c' 4 (some (.str (mkS part) tx)) 4 = some (.str (mkS part) tx) := upd_self
    generalize upd c' 4 (some (.str (mkS part) tx)) = c4 at C₄ k6 k4
    refine wpAny_execs_cons (Lc.asgZip (D1 := D5) (D2 := DV) (i1 := i5) (i2 := its) (xs := B.map mkS) (ns := (B.take i).map (mu low)) (l' := fun D => [(Str.ofString "row", .ref D2), (Str.ofString "between", .ref D5), (Str.ofString "values", .ref DV), (Str.ofString "lesser", .ref D)]) (.inl rfl) Y hA.1
      (Pe.lB Y (blt_zip _)) (Pe.lL (by k_mem)) (Pe.lL (by k_mem)) (.inl (by k_mem)) (.inr (by k_mem)) h5 hst (by omega) (fun x : Str × Int => decide (x.1.length < part.length) && (sg x.1).isSublist part)
      (by with_unfolding_all rfl) (by rfl) (by decide) rfl (by decide) rfl rfl (by decide) (by decide) (fun Cn x t m u hx => ?_) (by intro D; walk_at "put") C₄ (fun D6 i6 s₅ C₅ h6 => ?_))
    · obtain ⟨q, hq, rfl⟩ := List.mem_map.mp hx
      have hqm := bm q hq
      have ql : (mkS q).length = q.length := rfl
      have st : Stb (Hc fun h => Rc w L c4 [(D5, i5), (D2, its2)] h ∧ ∃ mm, h.Ns Cn mm ∧ mm (Str.ofString "one") = some (.str (mkS q) t) ∧ mm (Str.ofString "value") = some (.int m u)) := HStb.stb (Rc.stb.and fun _ _ ⟨mm, a, b⟩ e => ⟨mm, a.keeps e, b⟩)
      have one : ∀ {p : Pos}, Pe w A (compEnvC { kind := .function, names := [(Str.ofString ".0", .local), (Str.ofString "one", .local), (Str.ofString "value", .local), (Str.ofString "len", .globalImplicit), (Str.ofString "_ellipsis_match", .globalImplicit), (Str.ofString "_law_dots", .globalImplicit), (Str.ofString "part", .free)], isGenerator := false, isCoroutine := false } [(Str.ofString "part", (L + 4 : Nat))] Cn (lawE L)) (Hc fun h => Rc w L c4 [(D5, i5), (D2, its2)] h ∧ ∃ mm, h.Ns Cn mm ∧ mm (Str.ofString "one") = some (.str (mkS q) t) ∧ mm (Str.ofString "value") = some (.int m u)) (.Name "one" p) (SS (mkS q)) := fun {p} => (Pe.gLoc (fun s h => by obtain ⟨mm, a, b, _⟩ := h.2; exact ⟨mm, a, b⟩) rfl rfl).mono fun _ _ e => ⟨t, e⟩
      have prt : ∀ {p : Pos}, Pe w A (compEnvC { kind := .function, names := [(Str.ofString ".0", .local), (Str.ofString "one", .local), (Str.ofString "value", .local), (Str.ofString "len", .globalImplicit), (Str.ofString "_ellipsis_match", .globalImplicit), (Str.ofString "_law_dots", .globalImplicit), (Str.ofString "part", .free)], isGenerator := false, isCoroutine := false } [(Str.ofString "part", (L + 4 : Nat))] Cn (lawE L)) (Hc fun h => Rc w L c4 [(D5, i5), (D2, its2)] h ∧ ∃ mm, h.Ns Cn mm ∧ mm (Str.ofString "one") = some (.str (mkS q) t) ∧ mm (Str.ofString "value") = some (.int m u)) (.Name "part" p) (SS (mkS part)) := fun {p} => (Pe.gCell (fun s h => k4 ▸ h.1.2.1 4 (by decide) (by decide)) rfl rfl rfl).mono fun _ _ e => ⟨tx, e⟩
      have len : ∀ {p : Pos}, Pe w A (compEnvC { kind := .function, names := [(Str.ofString ".0", .local), (Str.ofString "one", .local), (Str.ofString "value", .local), (Str.ofString "len", .globalImplicit), (Str.ofString "_ellipsis_match", .globalImplicit), (Str.ofString "_law_dots", .globalImplicit), (Str.ofString "part", .free)], isGenerator := false, isCoroutine := false } [(Str.ofString "part", (L + 4 : Nat))] Cn (lawE L)) (Hc fun h => Rc w L c4 [(D5, i5), (D2, its2)] h ∧ ∃ mm, h.Ns Cn mm ∧ mm (Str.ofString "one") = some (.str (mkS q) t) ∧ mm (Str.ofString "value") = some (.int m u)) (.Name "len" p) (VV (.builtin "len")) := fun {p} => Pe.gBlt (fun s h => h.1.1) (blt_len _) rfl rfl rfl rfl
      have e : (decide ((mkS q).length < part.length) && (sg (mkS q)).isSublist part) = (decide (((mkS q).length : Int) < ((mkS part).length : Int)) && q.isSublist part) := by
        rw [ql, pl, Bool.eq_iff_iff]
        simp [sg_mk]
      show Pt w A _ _ _ (decide ((mkS q).length < part.length) && (sg (mkS q)).isSublist part)
      rw [e]
      refine Pt.and st (Pt.ltI st (Pe.lenS st len one (by omega)) (Pe.lenS st len prt (by omega))) fun _ => Pt.ofB (Pe.def2 (P1 := SS (dots (mkS q))) (P2 := SS (mkS part)) (P := BB (q.isSublist part)) st SS.stb (Pe.gGlob (fun s h => h.1.1) (g_ell _) rfl rfl rfl) (fun _ h => at_ell h.1.1) (by rfl)
        (Pe.def1 (P1 := SS (mkS q)) (P := SS (dots (mkS q))) st (Pe.gGlob (fun s h => h.1.1) (g_dots _) rfl rfl rfl) (fun _ h => at_dots h.1.1) (by rfl) one (fun a s' hs' ⟨u, ha⟩ => by subst ha; exact dots_ok hs'.1.1 hA (by omega)))
        prt (fun a b s' hs' ⟨u, ha⟩ ⟨u', hb'⟩ => ?_))
      subst ha hb'
      refine wpAny_mono (ell_ok hs'.1.1 hA hqm.2 (by omega) (by omega)) (fun v s h => ⟨?_, h.2⟩) fun _ _ x => x
      rw [h.1, ell_is]; rfl
    · rw [zip_less (mu low) low part B i] at h6
      have pS : ∀ {e : PySem.Expr}, Pe w A (lawE L) (Lc s₀ L [(Str.ofString "row", .ref D2), (Str.ofString "between", .ref D5), (Str.ofString "values", .ref DV), (Str.ofString "lesser", .ref D6)] c4 [(D6, i6), (D5, i5), (D2, its2)] [(DV, its)] s₃.heap (Wl L DV)) e (II (if part = low then 1 else -((((B.take i).filter (lessF low part)).map (mu low)).sum))) → Pe w A (lawE L) (Lc s₀ L [(Str.ofString "row", .ref D2), (Str.ofString "between", .ref D5), (Str.ofString "values", .ref DV), (Str.ofString "lesser", .ref D6)] c4 [(D6, i6), (D5, i5), (D2, its2)] [(DV, its)] s₃.heap (Wl L DV)) e (II (mu low part)) := fun h => by rw [hstep] at h; exact h
      refine wpAny_execs_cons (append_no (items := its) (P1 := II (mu low part)) Lc.stb C₅ (Pe.lL (by k_mem)) (pS (Pe.ifExp (c := (mkS part == mkS low)) Lc.stb (Pt.eqS Lc.stb (Pe.lCS (j := 4) (by decide) (by decide) k4) (Pe.lCS (j := 6) (by decide) (by decide) k6)) (fun hc => ?_) (fun hc => ?_))) (fun _ h => h.2.2.2.1 (DV, its) (by k_mem)) (by omega) (fun v s₆ h' hv C₆ k₆ hsb hp => ?_))
      · have e : part = low := by have := congrArg sg (eq_of_beq hc); exact this
        rw [if_pos e]
        exact Pe.int
      · have e : part ≠ low := fun q => by rw [q, beq_self_eq_true] at hc; cases hc
        rw [if_neg e]
        exact Pe.neg (Pe.sum Lc.stb hA.1 (Pe.lB Y (blt_sum _)) (Pe.lIL (by k_mem) (.inl (by k_mem)) h6))
      · obtain ⟨tv, rfl⟩ := hv
        have C₇ := (C₆.sub (l' := [(Str.ofString "row", .ref D2), (Str.ofString "between", .ref D5), (Str.ofString "values", .ref DV)]) (Ls' := [(D5, i5), (D2, its2)]) (Ps' := [(DV, its)]) (by walk_at "sub") (fun p hp => .inl (List.mem_cons_of_mem _ hp)) (fun p hp => hp)).write (.inr (.inr rfl)) DVn (List.forall_mem_cons.mpr ⟨D5V, List.forall_mem_cons.mpr ⟨D2V, List.forall_mem_nil _⟩⟩) (List.forall_mem_nil _) hsb hp
        refine wpAny_execs_nil ⟨⟨c4, _, k6, ?_, C₇.base⟩, fun b o nw e => C₇.2.2.2.2 b o nw e⟩
        rw [Array.toList_push, (take_succ' hpart).1, List.map_append]
        exact hst.append (.cons _ tv .nil)
  · rintro s' ⟨c', its, k6, hst, C₃⟩
    rw [List.length_map, List.take_length] at hst
    refine h DV its c' s' k6 hst (C₃.sub (by walk_at "sub") (fun p hp => ?_) (List.forall_mem_nil _))
    rcases List.mem_cons.mp hp with rfl | hp
    · exact .inl (by k_mem)
    rcases List.mem_cons.mp hp with rfl | hp
    · exact .inl (by k_mem)
    · rw [List.mem_singleton.mp hp]; exact .inr (by k_mem)
end
end Mine
end
section
-- part W32
open PySem PySem.W PyProof.Rows
set_option maxRecDepth 100000
set_option maxHeartbeats 1000000
set_option linter.all false
namespace Mine
local macro_rules | `(tactic| walk_at "put") => `(tactic| ((repeat' (first | exact List.forall_mem_nil _ | refine List.forall_mem_cons.mpr ⟨?_, ?_⟩)) <;> first | exact Or.inl rfl | exact Or.inr ⟨by k_mem, by dsimp only; decide⟩))
local macro_rules | `(tactic| walk_at "sub") => `(tactic| (repeat' (first | exact List.forall_mem_nil _ | refine List.forall_mem_cons.mpr ⟨by k_mem, ?_⟩)))
theorem names_all {l low : List Nat} (h : l.length = 5) : ((rowF (namesF l)).filter fun x => low.isSublist (sg (tlS x))).map tlS = (betw l low).map mkS := by
  have := names_drop (low := low) h 0
  rwa [List.drop_zero, List.drop_zero] at this
theorem bits_sgn (m : Nat) : Builtin.Int.intBits (sgn m) ≤ 64 := by
  have : sgn m = 1 ∨ sgn m = -1 := by
    have := sgn_nat m
    omega
  rcases this with e | e <;> rw [e] <;> decide
section
variable {w : World} {A : Around} {s₀ s : Shared} {L : Addr} {c : Nat → Option Value} {hb : Heap} {W : Addr → Prop} {n : Nat}
theorem stageE2 {xs : List Int} {D2 D5 DV : Addr} {its2 i5 its : Array Value} {t6 : Tok} {Q : Flow → Shared → Prop} (Y : Says w s₀.heap) (hA : Fine (n + 2) A) (k6 : c 6 = some (.str (mkS (lowL xs)) t6)) (h2 : StrsAre its2.toList (rowF (namesF (wlF xs)))) (h5 : StrsAre i5.toList ((betw (wlF xs) (lowL xs)).map mkS)) (hV : IntsAre its.toList ((betw (wlF xs) (lowL xs)).map (mu (lowL xs))))
    (C₁ : Lc s₀ L [(Str.ofString "row", .ref D2), (Str.ofString "between", .ref D5), (Str.ofString "values", .ref DV)] c [(D5, i5), (D2, its2), (DV, its)] [] hb W s)
    (h : ∀ s', Keeps s₀ s' → Q (.ret (.bool true)) s') :
    wpAny (M w) A (execs ((fBod 17).drop 17) (lawE L)) Q No s := by
  have wl := wl_len xs
  have ll := low_len xs
  have bm : ∀ p ∈ betw (wlF xs) (lowL xs), p.length ≤ 5 ∧ (lowL xs).length ≤ p.length := fun p hp => by
    have hs := (betw_mem wl p).mp hp
    exact ⟨by have := hs.1.length_le; omega, hs.2.length_le⟩
  have bl : (betw (wlF xs) (lowL xs)).length ≤ 32 := by
    unfold betw
    refine Nat.le_trans (List.length_filter_le _ _) ?_
    unfold wordsF
    rw [List.length_map]
    refine Nat.le_trans (rowF_length _) ?_
    unfold namesF
    rw [List.length_map, List.length_range]; exact Nat.le_refl _
  have rl : (rowF (namesF (wlF xs))).length ≤ 32 := by
    refine Nat.le_trans (rowF_length _) ?_
    unfold namesF
    rw [List.length_map, List.length_range]; exact Nat.le_refl _
  have nd := names_all (low := lowL xs) wl
  have rm : ∀ x ∈ rowF (namesF (wlF xs)), ∃ p : List Nat, p.length ≤ 5 ∧ x = nameS p := fun x hx => by
    obtain ⟨p, hp, e⟩ := (row_mem wl x).mp hx
    exact ⟨p, by have := hp.length_le; omega, e⟩
  generalize betw (wlF xs) (lowL xs) = B at *
  generalize rowF (namesF (wlF xs)) = row at *
  generalize lowL xs = low at *
  have ml : (mkS low).length = low.length := rfl
  refine wpAny_execs_cons (wpAny_If (Pt.run C₁ (Pt.neT (ys := B.map mkS) Lc.stb hA (Pe.lTL (by k_mem) (.inl (by k_mem)) h5) (by
      rw [← nd]
      exact (Pe.compS (hb := s₀.heap) (κ := Str) (Is := IsS) (k := kS) (fun _ _ => kS_is) (L := row) (R := Rc w L c [(D5, i5), (D2, its2), (DV, its)]) Rc.stb (fun _ h => h.rc Y) Lc.fr hA.1
        (src_TL (Pe.lTL (by k_mem) (.inl (by k_mem)) h2)) (by omega) (fun x => low.isSublist (sg (tlS x))) tlS (by rfl) (by decide) rfl (by decide) rfl (fun Cn x v hx q s hs => by
          obtain ⟨tv, rfl⟩ := q
          obtain ⟨p, hp, rfl⟩ := rm x hx
          have nl : (nameS p).length = p.length + 1 := rfl
          have e : Txt.slice (nameS p) (some 1) none = tlS (nameS p) := slice1 (by omega)
          refine tests_one (Pt.ofB (Pe.def2 (P1 := SS (mkS low)) (P2 := SS (Txt.slice (nameS p) (some 1) none)) (P := BB (low.isSublist (sg (tlS (nameS p))))) (Rc.stb.and ns_stb).stb SS.stb (Pe.gGlob (fun s h => h.1.1) (g_holds _) rfl rfl rfl) (fun _ h => at_holds h.1.1) (by rfl)
            ((Pe.gCell (fun s h => k6 ▸ h.1.2.1 6 (by decide) (by decide)) rfl rfl rfl).mono fun _ _ e => ⟨t6, e⟩) (Pe.sliceFrom (Rc.stb.and ns_stb).stb ((Pe.gLoc (fun s h => h.2) rfl rfl).mono fun _ _ e => ⟨tv, e⟩) Pe.int (by omega)) (fun a b s' hs' ⟨u, ha⟩ ⟨u', hb'⟩ => by
              subst ha hb'
              refine wpAny_mono (holds_ok (n := n + 1) hs'.1.1 hA (by omega)) (fun v s h => ⟨?_, h.2⟩) fun _ _ x => x
              rw [h.1, e]
              show Value.bool _ = Value.bool _
              congr 1
              exact hk_sub low (sg (tlS (nameS p))) 0 (Nat.zero_le _)))) hs) (fun Cn x v hx q _ => by
          obtain ⟨tv, rfl⟩ := q
          obtain ⟨p, hp, rfl⟩ := rm x hx
          have nl : (nameS p).length = p.length + 1 := rfl
          have e : Txt.slice (nameS p) (some 1) none = tlS (nameS p) := slice1 (by omega)
          rw [← e]
          exact Pe.sliceFrom (Rc.stb.and ns_stb).stb ((Pe.gLoc (fun s h => h.2) rfl rfl).mono fun _ _ e => ⟨tv, e⟩) Pe.int (by omega))).mono TLf.tl)) (fun s₂ C₂ _ => ?_) Lc.stb))
  rw [if_neg Bool.false_ne_true]
  refine wpAny_execs_nil (wpAny_execs_cons (wpAny_Return_some (Pe.run C₂ (Pe.eqI' (ys := B.map (mu low)) Lc.stb hA (Pe.lIL (by k_mem) (.inl (by k_mem)) hV) ?_) (fun v s₃ hv C₃ _ => ?_) Lc.stb)))
  · have e : B.map (mu low) = (((B.map mkS).filter fun _ => true).map fun x => sgn ((sg x).length - low.length) * nrm (sg x).reverse low.reverse) := by
      rw [List.filter_eq_self.mpr (fun _ _ => rfl), List.map_map]; rfl
    rw [e]
    refine (Pe.compI (hb := s₀.heap) (κ := Str) (Is := IsS) (k := kS) (fun _ _ => kS_is) (L := B.map mkS) (R := Rc w L c [(D5, i5), (D2, its2), (DV, its)]) Rc.stb (fun _ h => h.rc Y) Lc.fr hA.1
      (src_TL (Pe.lTL (by k_mem) (.inl (by k_mem)) h5)) (by rw [List.length_map]; omega) (fun _ => true) (fun x => sgn ((sg x).length - low.length) * nrm (sg x).reverse low.reverse) (by rfl) (by decide) rfl (by decide) rfl (fun Cn a v _ _ s hs => tests_nil) (fun Cn x v hx q _ => ?_)).mono ILf.il
    obtain ⟨tv, rfl⟩ := q
    obtain ⟨p, hp, rfl⟩ := List.mem_map.mp hx
    have pm := bm p hp
    have pl : (mkS p).length = p.length := rfl
    have prt : ∀ {q : Pos}, Pe w A (compEnvC { kind := .function, names := [(Str.ofString ".0", .local), (Str.ofString "part", .local), (Str.ofString "len", .globalImplicit), (Str.ofString "_law_ways", .globalImplicit), (Str.ofString "low", .free)], isGenerator := false, isCoroutine := false } [(Str.ofString "low", (L + 6 : Nat))] Cn (lawE L)) (Hc fun h => Rc w L c [(D5, i5), (D2, its2), (DV, its)] h ∧ ∃ m, h.Ns Cn m ∧ m (Str.ofString "part") = some (.str (mkS p) tv)) (.Name "part" q) (SS (mkS p)) := fun {q} => (Pe.gLoc (fun s h => h.2) rfl rfl).mono fun _ _ e => ⟨tv, e⟩
    have lw : ∀ {q : Pos}, Pe w A (compEnvC { kind := .function, names := [(Str.ofString ".0", .local), (Str.ofString "part", .local), (Str.ofString "len", .globalImplicit), (Str.ofString "_law_ways", .globalImplicit), (Str.ofString "low", .free)], isGenerator := false, isCoroutine := false } [(Str.ofString "low", (L + 6 : Nat))] Cn (lawE L)) (Hc fun h => Rc w L c [(D5, i5), (D2, its2), (DV, its)] h ∧ ∃ m, h.Ns Cn m ∧ m (Str.ofString "part") = some (.str (mkS p) tv)) (.Name "low" q) (SS (mkS low)) := fun {q} => (Pe.gCell (fun s h => k6 ▸ h.1.2.1 6 (by decide) (by decide)) rfl rfl rfl).mono fun _ _ e => ⟨t6, e⟩
    have len : ∀ {q : Pos}, Pe w A (compEnvC { kind := .function, names := [(Str.ofString ".0", .local), (Str.ofString "part", .local), (Str.ofString "len", .globalImplicit), (Str.ofString "_law_ways", .globalImplicit), (Str.ofString "low", .free)], isGenerator := false, isCoroutine := false } [(Str.ofString "low", (L + 6 : Nat))] Cn (lawE L)) (Hc fun h => Rc w L c [(D5, i5), (D2, its2), (DV, its)] h ∧ ∃ m, h.Ns Cn m ∧ m (Str.ofString "part") = some (.str (mkS p) tv)) (.Name "len" q) (VV (.builtin "len")) := fun {q} => Pe.gBlt (fun s h => h.1.1) (blt_len _) rfl rfl rfl rfl
    have tn : (((mkS p).length : Int) - ((mkS low).length : Int)).toNat = (sg (mkS p)).length - low.length := by
      rw [sg_mk, pl, ml]; omega
    have ep : ((-1 : Int)) ^ (((mkS p).length : Int) - ((mkS low).length : Int)).toNat = sgn ((sg (mkS p)).length - low.length) := by rw [tn]; rfl
    rw [← ep]
    refine Pe.mulI (Rc.stb.and ns_stb).stb (Pe.powI (Rc.stb.and ns_stb).stb (Pe.neg Pe.int) (Pe.subI (Rc.stb.and ns_stb).stb (Pe.lenS (Rc.stb.and ns_stb).stb len prt (by omega)) (Pe.lenS (Rc.stb.and ns_stb).stb len lw (by omega))) (by omega) (by omega) (by decide)) (Pe.def2 (P1 := SS (mkS low)) (P2 := SS (mkS p)) (P := II (nrm (sg (mkS p)).reverse low.reverse)) (Rc.stb.and ns_stb).stb SS.stb (Pe.gGlob (fun s h => h.1.1) (g_ways _) rfl rfl rfl) (fun _ h => at_ways h.1.1) (by rfl) lw prt (fun a b s' hs' ⟨u, ha⟩ ⟨u', hb'⟩ => ?_)) ?_
    · subst ha hb'
      exact ways_ok (n := n + 1) hs'.1.1 hA (by omega) (by omega)
    · rw [ep]
      exact IntMulOk.of_left (bits_sgn _)
  · cases hv
    exact h s₃ C₃.1.keeps
/-- law returns True -/
theorem law_ok {xs : List Int} {D0 : Addr} {i0 : Array Value} (Y : Says w s.heap) (hA : Fine (n + 3) A) (hi : IntsAre i0.toList xs) (hz : xs.length ≤ 100) (hl : s.heap.IsList D0 i0) {E : Value → Shared → Prop} {Q : Value → Shared → Prop}
    (h : ∀ h' tk d, Ex s.heap h' → Q (.bool true) { s with heap := h', toks := tk, drawn := d }) :
    wpAny (M w) A (call (.ref 137) [.ref D0]) Q E s := by
  refine call_law Y hA fun L c s₁ C₁ hB => ?_
  generalize A.deeper (lawE L) = B at hB ⊢
  have C₁ := ((C₁.addL (hl.at fun o => kg C₁.1.keeps D0 o)).base (W' := fun _ => True))
  refine stageA Y hB trivial trivial trivial hi hz C₁ fun D3 i3 c2 t1 t2 s₂ h3 k1 k2 C₂ => ?_
  refine stageB Y hB trivial k1 k2 C₂ fun D its c3 s₃ D0n D3D k1 hS C₃ => ?_
  refine stageC Y hB D0n D3D k1 hS C₃ fun D2 its2 d s₄ h2 C₄ => ?_
  refine stageD1 (s₀ := { s with drawn := d }) Y hB k1 h3 C₄ fun c5 t6 s₅ k6 C₅ => ?_
  refine stageD2 (W := fun b => b = L) (s₀ := { s with drawn := d }) Y hB k6 h2 rfl C₅ fun D5 i5 s₆ h5 C₆ => ?_
  refine stageE1 (W := fun b => b = L) (s₀ := { s with drawn := d }) Y hB k6 h5 rfl C₆ fun DV iv c6 s₇ k6 hV C₇ => ?_
  refine stageE2 (s₀ := { s with drawn := d }) Y hB k6 h2 h5 hV C₇ fun s₈ k => ?_
  obtain ⟨h', tk, rfl, hx⟩ := k
  exact h h' tk d hx
end
end Mine
end
section
-- part Fin2
open PySem PySem.W PyProof.Rows
set_option maxRecDepth 100000
set_option maxHeartbeats 4000000
set_option linter.all false
namespace Mine
theorem ns_same {h : Heap} {a : Addr} {m m' : Str → Option Value} (x : h.Ns a m) (y : h.Ns a m') (k : Str) : m k = m' k := by
  obtain ⟨o, es, ep, ho, hd, _, hm⟩ := x
  obtain ⟨o', es', ep', ho', hd', _, hm'⟩ := y
  rw [ho] at ho'; cases ho'
  rw [hd] at hd'; cases hd'
  rw [← hm, ← hm']
theorem g_law (P : Params) : mgF P "law" = some (.ref 137) := by kernel_rfl!
theorem fine_caller : Fine 4 callerA := ⟨rfl, by decide +kernel, by decide +kernel⟩
theorem post_ok (xs : List Int) : PySem.Challenge.rw_re0130_01.row.claim.post [ofPy (PyData.list (xs.map PyData.int))] (.bool true) [ofPy (PyData.list (xs.map PyData.int))] = true := by
  generalize ofPy (PyData.list (xs.map PyData.int)) = z
  refine postW_of (X := true) ?_ ?_ rfl
  · with_unfolding_all rfl
  · with_unfolding_all rfl
theorem main : PySem.Challenge.rw_re0130_01.Holds := by
  w_on; o_law
  refine W.holds_open (q := q) (loose := loose) (Xt := Xt) (XP := XL q []) (Yf := hook.obs) (Ya := hook.val) (YP := hook.says) (N := 400000) left hook.of hook.keeps (fun s e => xl_of s (Bool.and_eq_true_iff.mp e).1) XL.keeps (by rfl) (by rfl) (by rfl) (fun s e => recFacts_of (Bool.and_eq_true_iff.mp e).2) (by rfl) (by assumption) (by decide +kernel) ⟨rfl, rfl, rfl, rfl, rfl, by decide +kernel⟩ ?hw ?hc
  case hw => w_witness2
  case hc =>
    intro w s₀ s₁ mg mb G Y fa o pm cd doc dV kV ho hd hcd hD hmg hg args vals as hpre hlay hrd hwl hlo
    have e137 : fa = 137 := by
      have e1 := ns_same G.T.g (Says.g (w := w) Y) (Str.ofString "law")
      have e2 : mg (Str.ofString "law") = some (.ref fa) := hmg
      rw [e2, g_law] at e1
      injection e1 with e1
      injection e1
    clear hmg hcd hD hd ho
    refine Ground.open G ?_
    intro T B D TE TW
    wrow_args hpre hlay hrd hwl hlo
    subst e137
    rename_i xs a1 a2 a3 a4 a5 w4 w3 D0 vs w0 hL ra ww r0 hI hr hcond hc2
    have hz : xs.length ≤ 100 := by omega
    clear hc2 hcond hr r0 ww ra a1 a2 a3 a4 a5 TW TE D B T
    refine law_ok (s := s₁) (n := 1) (i0 := vs.toArray) Y fine_caller (by simpa using hI) hz hL fun h' tk d hx => ?_
    exact GoodW.toG ⟨.inl ⟨_, .bool true, [], rfl, fun _ => rfl, .bool true, post_ok xs, fun _ => ⟨.nil, fun _ h => absurd h List.not_mem_nil⟩⟩, hx, rfl, hg⟩
end Mine
end
theorem PySem.Challenge.cw_re0130_01_holds : PySem.Challenge.rw_re0130_01.Holds :=
  Mine.main
