import PyProof.Rows.All
import Wide.All
import OpenK.AllK
import Wide.FinOn
import Lean
import PySem.Challenge.RW_rs0059_01
set_option Elab.async false
section
open PySem PySem.W PyProof.Rows
set_option maxRecDepth 100000
set_option linter.unusedVariables false
namespace Mine
noncomputable section
abbrev pw : Program := PySem.Challenge.pw_rs0059_01
def nthS (k : Nat) (b : List Stmt) : Stmt := match b.drop k with
  | s :: _ => s
  | _ => .Pass default
def fdBody (s : Stmt) : List Stmt := match s with | .FunctionDef _ _ b _ _ _ _ _ _ _ => b | .ClassDef _ _ _ b _ _ _ _ _ _ _ => b | .For _ _ b _ _ => b | _ => []
def fdArgs (s : Stmt) : Arguments := match s with | .FunctionDef _ a _ _ _ _ _ _ _ _ => a | _ => default
def fdScope (s : Stmt) : Scope := match s with | .FunctionDef _ _ _ _ _ _ sc _ _ _ => sc | _ => default
def asVal (s : Stmt) : Expr := match s with | .Assign _ v _ => v | _ => default
def forTgt (s : Stmt) : Expr := match s with | .For t _ _ _ _ => t | _ => default
def mainB : List Stmt := pw.main.body
noncomputable def ss (x : String) (t : Tok) : Value := .str (Str.ofString x) t
noncomputable def en (P : Params) (x : String) (t : Tok) (v : Value) : DictEntry := ⟨PyData.keyHash P (Str.ofString x), .str (Str.ofString x) t, v⟩
noncomputable def fO (n q : String) (s : Stmt) (gl : Addr) (dV kV pm cd ct : Value) (bl : Addr) : FuncData :=
  { name := Str.ofString n, qualname := Str.ofString q, params := fdArgs s, body := .stmts (fdBody s), scope := fdScope s, globals := gl, closure := [], defaults := dV, kwdefaults := kV, pyModule := pm, code := cd, closureTuple := ct, builtins := bl }
noncomputable def hexD (d : Nat) : Nat := match Nat.blt d 10 with | true => 48 + d | false => 55 + d
noncomputable def hexV (i : Nat) : Value := .str ⟨#[61, hexD (i / 16), hexD (i % 16)]⟩ (202 + 4 * i)
noncomputable def look (i : Nat) : List (Nat × Value) → Value
  | [] => hexV i
  | (c, v) :: r => match Nat.beq c i with | true => v | false => look i r
noncomputable def mk256 (m : List (Nat × Value)) : Obj := { cls := .type "list", data := .seq ((List.range 256).map fun i => look i m).toArray 0 }
noncomputable def chL (t : Nat) : List Nat → List (Nat × Value)
  | [] => []
  | c :: r => (c, .str ⟨#[c]⟩ t) :: chL (t + 3) r
noncomputable def hdrB : List Nat := [45, 33, 42, 43, 47, 97, 98, 99, 100, 101, 102, 103, 104, 105, 106, 107, 108, 109, 110, 111, 112, 113, 114, 115, 116, 117, 118, 119, 120, 121, 122, 65, 66, 67, 68, 69, 70, 71, 72, 73, 74, 75, 76, 77, 78, 79, 80, 81, 82, 83, 84, 85, 86, 87, 88, 89, 90, 48, 49, 50, 51, 52, 53, 54, 55, 56, 57]
noncomputable def bodB : List Nat := [32, 33, 34, 35, 36, 37, 38, 39, 40, 41, 42, 43, 44, 45, 46, 47, 48, 49, 50, 51, 52, 53, 54, 55, 56, 57, 58, 59, 60, 62, 63, 64, 65, 66, 67, 68, 69, 70, 71, 72, 73, 74, 75, 76, 77, 78, 79, 80, 81, 82, 83, 84, 85, 86, 87, 88, 89, 90, 91, 92, 93, 94, 95, 96, 97, 98, 99, 100, 101, 102, 103, 104, 105, 106, 107, 108, 109, 110, 111, 112, 113, 114, 115, 116, 117, 118, 119, 120, 121, 122, 123, 124, 125, 126, 9]
/-- the heap as a tree, from the list of the objects -/
noncomputable def treeOf (f : Nat → Obj) (n : Nat) : Nat → Nat → Nat → BT
  | 0, _, _ => .nil
  | k + 1, a, b => match Nat.blt b n with
    | true => .node (f b) (treeOf f n k (2 * a) (a + b)) (treeOf f n k (2 * a) (2 * a + b))
    | false => .nil
noncomputable def at_ (l : List Obj) (i : Nat) : Obj := match l.drop i with | o :: _ => o | _ => default
noncomputable def bt (l : List Obj) : BT := treeOf (at_ l) l.length 9 1 0
noncomputable def a11 (P : Params) : Obj := { cls := .type "tuple", data := .seq #[] 0 }
noncomputable def a12 (P : Params) : Obj := { cls := .none, data := .fields #[] }
noncomputable def a13 (P : Params) : Obj := { cls := .type "code", data := .fields #[ss "<module>" 182, ss "<module>" 183, ss "/claim/cut.py" 184, .int 1 0, .int 0 0, .int 0 0, .int 0 0, .int 0 0, .ref 11, .bool false, .int 181 0, .ref 12, .none, .none, .none, .none, .int 185 0, .int 1 0, ss "/claim/cut.py" 186] }
noncomputable def a14 (P : Params) : Obj := { cls := .type "frame", data := .plain, slots := #[some (.ref 13), some (.ref 3), some (.ref 3), none, some (ss "__main__" 164), none, some (.ref 0)] }
noncomputable def l_a (P : Params) : List Obj := [boot_o_0 P, boot_o_1 P, boot_o_2 P, boot_o_3 P, boot_o_4 P, boot_o_5 P, boot_o_6 P, boot_o_7 P, boot_o_8 P, boot_o_9 P, boot_o_10 P, a11 P, a12 P, a13 P, a14 P]
noncomputable def s_a (P : Params) (os : OsState) : SharedT := ⟨bt (l_a P), 15, {}, #[], {}, 187, os⟩
abbrev p_a : Pos := ⟨0, 0, 0, 0⟩
noncomputable def b3E (P : Params) : List DictEntry := [en P "__name__" 165 (ss "__main__" 164), en P "__doc__" 166 .none, en P "__package__" 167 .none, en P "__loader__" 168 (.builtin "__main__.__loader__#opaque"), en P "__spec__" 169 .none, en P "__annotations__" 170 (.ref 6), en P "__builtins__" 171 (.ref 4), en P "__file__" 173 (ss "/claim/cut.py" 172), en P "__cached__" 174 .none, en P "_wall" 193 (.ref 21), en P "NL" 195 (ss "\n" 194)]
noncomputable def b3 (P : Params) : Obj := { cls := .type "dict", data := .dict (b3E P).toArray 11 }
noncomputable def b12 (P : Params) : Obj := { cls := .none, data := .fields #[.int 1 0, .int 0 0, .ref 20] }
noncomputable def b15 (P : Params) : Obj := { cls := .type "tuple", data := .seq #[] 0 }
noncomputable def b16 (P : Params) : Obj := { cls := .none, data := .fields #[] }
noncomputable def b17 (P : Params) : Obj := { cls := .type "tuple", data := .seq #[ss "k" 190] 0 }
noncomputable def b18 (P : Params) : Obj := { cls := .type "tuple", data := .seq #[] 0 }
noncomputable def b19 (P : Params) : Obj := { cls := .none, data := .func (fO "_wall" "_wall" (nthS 0 mainB) 0 .none .none .none .none .none 0) }
noncomputable def b20 (P : Params) : Obj := { cls := .type "code", data := .fields #[ss "_wall" 187, ss "_wall" 188, ss "/claim/cut.py" 189, .int 1 0, .int 1 0, .int 0 0, .int 0 0, .int 3 0, .ref 15, .bool true, .int 181 0, .ref 16, .none, .ref 17, .ref 18, .ref 19, .int 191 0, .int 1 0, ss "/claim/cut.py" 192] }
noncomputable def b21 (P : Params) : Obj := { cls := .type "function", data := .func (fO "_wall" "_wall" (nthS 0 mainB) 3 .none .none (ss "__main__" 164) (.ref 20) .none 0) }
noncomputable def l_b (P : Params) : List Obj := [boot_o_0 P, boot_o_1 P, boot_o_2 P, b3 P, boot_o_4 P, boot_o_5 P, boot_o_6 P, boot_o_7 P, boot_o_8 P, boot_o_9 P, boot_o_10 P, a11 P, b12 P, a13 P, a14 P, b15 P, b16 P, b17 P, b18 P, b19 P, b20 P, b21 P]
noncomputable def s_b (P : Params) (os : OsState) : SharedT := ⟨bt (l_b P), 22, {}, #[], {}, 196, os⟩
abbrev p_b : Pos := ⟨4, 0, 4, 2⟩
noncomputable def c3E (P : Params) : List DictEntry := [en P "__name__" 165 (ss "__main__" 164), en P "__doc__" 166 .none, en P "__package__" 167 .none, en P "__loader__" 168 (.builtin "__main__.__loader__#opaque"), en P "__spec__" 169 .none, en P "__annotations__" 170 (.ref 6), en P "__builtins__" 171 (.ref 4), en P "__file__" 173 (ss "/claim/cut.py" 172), en P "__cached__" 174 .none, en P "_wall" 193 (.ref 21), en P "NL" 195 (ss "\n" 194), en P "_QUOPRI_MAP" 1223 (.ref 24)]
noncomputable def c3 (P : Params) : Obj := { cls := .type "dict", data := .dict (c3E P).toArray 12 }
noncomputable def c22 (P : Params) : Obj := { cls := .type "range", data := .fields #[.int 0 197, .int 256 196, .int 1 198] }
noncomputable def c23 (P : Params) : Obj := { cls := .type "range_iterator", data := .fields #[.int 256 0, .int 0 0, .int 1 0] }
noncomputable def c24 (P : Params) : Obj := { cls := .type "list", data := .seq #[ss "=00" 202, ss "=01" 206, ss "=02" 210, ss "=03" 214, ss "=04" 218, ss "=05" 222, ss "=06" 226, ss "=07" 230, ss "=08" 234, ss "=09" 238, ss "=0A" 242, ss "=0B" 246, ss "=0C" 250, ss "=0D" 254, ss "=0E" 258, ss "=0F" 262, ss "=10" 266, ss "=11" 270, ss "=12" 274, ss "=13" 278, ss "=14" 282, ss "=15" 286, ss "=16" 290, ss "=17" 294, ss "=18" 298, ss "=19" 302, ss "=1A" 306, ss "=1B" 310, ss "=1C" 314, ss "=1D" 318, ss "=1E" 322, ss "=1F" 326, ss "=20" 330, ss "=21" 334, ss "=22" 338, ss "=23" 342, ss "=24" 346, ss "=25" 350, ss "=26" 354, ss "=27" 358, ss "=28" 362, ss "=29" 366, ss "=2A" 370, ss "=2B" 374, ss "=2C" 378, ss "=2D" 382, ss "=2E" 386, ss "=2F" 390, ss "=30" 394, ss "=31" 398, ss "=32" 402, ss "=33" 406, ss "=34" 410, ss "=35" 414, ss "=36" 418, ss "=37" 422, ss "=38" 426, ss "=39" 430, ss "=3A" 434, ss "=3B" 438, ss "=3C" 442, ss "=3D" 446, ss "=3E" 450, ss "=3F" 454, ss "=40" 458, ss "=41" 462, ss "=42" 466, ss "=43" 470, ss "=44" 474, ss "=45" 478, ss "=46" 482, ss "=47" 486, ss "=48" 490, ss "=49" 494, ss "=4A" 498, ss "=4B" 502, ss "=4C" 506, ss "=4D" 510, ss "=4E" 514, ss "=4F" 518, ss "=50" 522, ss "=51" 526, ss "=52" 530, ss "=53" 534, ss "=54" 538, ss "=55" 542, ss "=56" 546, ss "=57" 550, ss "=58" 554, ss "=59" 558, ss "=5A" 562, ss "=5B" 566, ss "=5C" 570, ss "=5D" 574, ss "=5E" 578, ss "=5F" 582, ss "=60" 586, ss "=61" 590, ss "=62" 594, ss "=63" 598, ss "=64" 602, ss "=65" 606, ss "=66" 610, ss "=67" 614, ss "=68" 618, ss "=69" 622, ss "=6A" 626, ss "=6B" 630, ss "=6C" 634, ss "=6D" 638, ss "=6E" 642, ss "=6F" 646, ss "=70" 650, ss "=71" 654, ss "=72" 658, ss "=73" 662, ss "=74" 666, ss "=75" 670, ss "=76" 674, ss "=77" 678, ss "=78" 682, ss "=79" 686, ss "=7A" 690, ss "=7B" 694, ss "=7C" 698, ss "=7D" 702, ss "=7E" 706, ss "=7F" 710, ss "=80" 714, ss "=81" 718, ss "=82" 722, ss "=83" 726, ss "=84" 730, ss "=85" 734, ss "=86" 738, ss "=87" 742, ss "=88" 746, ss "=89" 750, ss "=8A" 754, ss "=8B" 758, ss "=8C" 762, ss "=8D" 766, ss "=8E" 770, ss "=8F" 774, ss "=90" 778, ss "=91" 782, ss "=92" 786, ss "=93" 790, ss "=94" 794, ss "=95" 798, ss "=96" 802, ss "=97" 806, ss "=98" 810, ss "=99" 814, ss "=9A" 818, ss "=9B" 822, ss "=9C" 826, ss "=9D" 830, ss "=9E" 834, ss "=9F" 838, ss "=A0" 842, ss "=A1" 846, ss "=A2" 850, ss "=A3" 854, ss "=A4" 858, ss "=A5" 862, ss "=A6" 866, ss "=A7" 870, ss "=A8" 874, ss "=A9" 878, ss "=AA" 882, ss "=AB" 886, ss "=AC" 890, ss "=AD" 894, ss "=AE" 898, ss "=AF" 902, ss "=B0" 906, ss "=B1" 910, ss "=B2" 914, ss "=B3" 918, ss "=B4" 922, ss "=B5" 926, ss "=B6" 930, ss "=B7" 934, ss "=B8" 938, ss "=B9" 942, ss "=BA" 946, ss "=BB" 950, ss "=BC" 954, ss "=BD" 958, ss "=BE" 962, ss "=BF" 966, ss "=C0" 970, ss "=C1" 974, ss "=C2" 978, ss "=C3" 982, ss "=C4" 986, ss "=C5" 990, ss "=C6" 994, ss "=C7" 998, ss "=C8" 1002, ss "=C9" 1006, ss "=CA" 1010, ss "=CB" 1014, ss "=CC" 1018, ss "=CD" 1022, ss "=CE" 1026, ss "=CF" 1030, ss "=D0" 1034, ss "=D1" 1038, ss "=D2" 1042, ss "=D3" 1046, ss "=D4" 1050, ss "=D5" 1054, ss "=D6" 1058, ss "=D7" 1062, ss "=D8" 1066, ss "=D9" 1070, ss "=DA" 1074, ss "=DB" 1078, ss "=DC" 1082, ss "=DD" 1086, ss "=DE" 1090, ss "=DF" 1094, ss "=E0" 1098, ss "=E1" 1102, ss "=E2" 1106, ss "=E3" 1110, ss "=E4" 1114, ss "=E5" 1118, ss "=E6" 1122, ss "=E7" 1126, ss "=E8" 1130, ss "=E9" 1134, ss "=EA" 1138, ss "=EB" 1142, ss "=EC" 1146, ss "=ED" 1150, ss "=EE" 1154, ss "=EF" 1158, ss "=F0" 1162, ss "=F1" 1166, ss "=F2" 1170, ss "=F3" 1174, ss "=F4" 1178, ss "=F5" 1182, ss "=F6" 1186, ss "=F7" 1190, ss "=F8" 1194, ss "=F9" 1198, ss "=FA" 1202, ss "=FB" 1206, ss "=FC" 1210, ss "=FD" 1214, ss "=FE" 1218, ss "=FF" 1222] 256 }
noncomputable def c25 (P : Params) : Obj := { cls := .type "dict", data := .dict #[] 2 }
noncomputable def c26 (P : Params) : Obj := { cls := .type "tuple", data := .seq #[] 0 }
noncomputable def c27 (P : Params) : Obj := { cls := .type "StopIteration", data := .fields #[.ref 26, .none, .none, .none, .bool false, .none] }
noncomputable def l_c (P : Params) : List Obj := [boot_o_0 P, boot_o_1 P, boot_o_2 P, c3 P, boot_o_4 P, boot_o_5 P, boot_o_6 P, boot_o_7 P, boot_o_8 P, boot_o_9 P, boot_o_10 P, a11 P, b12 P, a13 P, a14 P, b15 P, b16 P, b17 P, b18 P, b19 P, b20 P, b21 P, c22 P, c23 P, c24 P, c25 P, c26 P, c27 P]
noncomputable def s_c (P : Params) (os : OsState) : SharedT := ⟨bt (l_c P), 28, {}, #[], {}, 1224, os⟩
abbrev p_c : Pos := ⟨5, 0, 5, 11⟩
noncomputable def d3E (P : Params) : List DictEntry := [en P "__name__" 165 (ss "cpy313.email.quoprimime" 1239), en P "__doc__" 166 .none, en P "__package__" 167 .none, en P "__loader__" 168 (.builtin "__main__.__loader__#opaque"), en P "__spec__" 169 .none, en P "__annotations__" 170 (.ref 6), en P "__builtins__" 171 (.ref 4), en P "__file__" 173 (ss "/claim/cut.py" 172), en P "__cached__" 174 .none, en P "_wall" 193 (.ref 21), en P "NL" 195 (ss "\n" 194), en P "_QUOPRI_MAP" 1223 (.ref 24), en P "_QUOPRI_HEADER_MAP" 1224 (.ref 29), en P "_QUOPRI_BODY_MAP" 1225 (.ref 31), en P "ascii_lowercase" 1227 (ss "abcdefghijklmnopqrstuvwxyz" 1226), en P "ascii_uppercase" 1229 (ss "ABCDEFGHIJKLMNOPQRSTUVWXYZ" 1228), en P "ascii_letters" 1231 (ss "abcdefghijklmnopqrstuvwxyzABCDEFGHIJKLMNOPQRSTUVWXYZ" 1230), en P "digits" 1233 (ss "0123456789" 1232), en P "hexdigits" 1238 (ss "0123456789abcdefABCDEF" 1237)]
noncomputable def d3 (P : Params) : Obj := { cls := .type "dict", data := .dict (d3E P).toArray 19 }
noncomputable def d28 (P : Params) : Obj := { cls := .type "slice", data := .fields #[.none, .none, .none] }
noncomputable def d29 (_ : Params) : Obj := mk256 []
noncomputable def d30 (P : Params) : Obj := { cls := .type "slice", data := .fields #[.none, .none, .none] }
noncomputable def d31 (_ : Params) : Obj := mk256 []
noncomputable def l_d (P : Params) : List Obj := [boot_o_0 P, boot_o_1 P, boot_o_2 P, d3 P, boot_o_4 P, boot_o_5 P, boot_o_6 P, boot_o_7 P, boot_o_8 P, boot_o_9 P, boot_o_10 P, a11 P, b12 P, a13 P, a14 P, b15 P, b16 P, b17 P, b18 P, b19 P, b20 P, b21 P, c22 P, c23 P, c24 P, c25 P, c26 P, c27 P, d28 P, d29 P, d30 P, d31 P]
noncomputable def s_d (P : Params) (os : OsState) : SharedT := ⟨bt (l_d P), 32, {}, #[], {}, 1241, os⟩
abbrev p_d : Pos := ⟨13, 0, 13, 8⟩
noncomputable def e3E (P : Params) : List DictEntry := [en P "__name__" 165 (ss "cpy313.email.quoprimime" 1239), en P "__doc__" 166 .none, en P "__package__" 167 .none, en P "__loader__" 168 (.builtin "__main__.__loader__#opaque"), en P "__spec__" 169 .none, en P "__annotations__" 170 (.ref 6), en P "__builtins__" 171 (.ref 4), en P "__file__" 173 (ss "/claim/cut.py" 172), en P "__cached__" 174 .none, en P "_wall" 193 (.ref 21), en P "NL" 195 (ss "\n" 194), en P "_QUOPRI_MAP" 1223 (.ref 24), en P "_QUOPRI_HEADER_MAP" 1224 (.ref 29), en P "_QUOPRI_BODY_MAP" 1225 (.ref 31), en P "ascii_lowercase" 1227 (ss "abcdefghijklmnopqrstuvwxyz" 1226), en P "ascii_uppercase" 1229 (ss "ABCDEFGHIJKLMNOPQRSTUVWXYZ" 1228), en P "ascii_letters" 1231 (ss "abcdefghijklmnopqrstuvwxyzABCDEFGHIJKLMNOPQRSTUVWXYZ" 1230), en P "digits" 1233 (ss "0123456789" 1232), en P "hexdigits" 1238 (ss "0123456789abcdefABCDEF" 1237), en P "c" 1249 (.int 57 1446)]
noncomputable def e3 (P : Params) : Obj := { cls := .type "dict", data := .dict (e3E P).toArray 20 }
noncomputable def e29 (_ : Params) : Obj := mk256 (chL 1250 hdrB)
noncomputable def e32 (P : Params) : Obj := { cls := .type "bytes_iterator", data := .fields #[.none, .int 67 0] }
noncomputable def e33 (P : Params) : Obj := { cls := .type "tuple", data := .seq #[] 0 }
noncomputable def e34 (P : Params) : Obj := { cls := .type "StopIteration", data := .fields #[.ref 33, .none, .none, .none, .bool false, .none] }
noncomputable def l_e (P : Params) : List Obj := [boot_o_0 P, boot_o_1 P, boot_o_2 P, e3 P, boot_o_4 P, boot_o_5 P, boot_o_6 P, boot_o_7 P, boot_o_8 P, boot_o_9 P, boot_o_10 P, a11 P, b12 P, a13 P, a14 P, b15 P, b16 P, b17 P, b18 P, b19 P, b20 P, b21 P, c22 P, c23 P, c24 P, c25 P, c26 P, c27 P, d28 P, e29 P, d30 P, d31 P, e32 P, e33 P, e34 P]
noncomputable def s_e (P : Params) (os : OsState) : SharedT := ⟨bt (l_e P), 35, {}, #[], {}, 1449, os⟩
abbrev p_e : Pos := ⟨14, 9, 14, 74⟩
noncomputable def f29 (_ : Params) : Obj := mk256 ((32, .str ⟨#[95]⟩ 1449) :: chL 1250 hdrB)
noncomputable def l_f (P : Params) : List Obj := [boot_o_0 P, boot_o_1 P, boot_o_2 P, e3 P, boot_o_4 P, boot_o_5 P, boot_o_6 P, boot_o_7 P, boot_o_8 P, boot_o_9 P, boot_o_10 P, a11 P, b12 P, a13 P, a14 P, b15 P, b16 P, b17 P, b18 P, b19 P, b20 P, b21 P, c22 P, c23 P, c24 P, c25 P, c26 P, c27 P, d28 P, f29 P, d30 P, d31 P, e32 P, e33 P, e34 P]
noncomputable def s_f (P : Params) (os : OsState) : SharedT := ⟨bt (l_f P), 35, {}, #[], {}, 1452, os⟩
abbrev p_f : Pos := ⟨16, 0, 16, 28⟩
noncomputable def g3E (P : Params) : List DictEntry := [en P "__name__" 165 (ss "cpy313.email.quoprimime" 1239), en P "__doc__" 166 .none, en P "__package__" 167 .none, en P "__loader__" 168 (.builtin "__main__.__loader__#opaque"), en P "__spec__" 169 .none, en P "__annotations__" 170 (.ref 6), en P "__builtins__" 171 (.ref 4), en P "__file__" 173 (ss "/claim/cut.py" 172), en P "__cached__" 174 .none, en P "_wall" 193 (.ref 21), en P "NL" 195 (ss "\n" 194), en P "_QUOPRI_MAP" 1223 (.ref 24), en P "_QUOPRI_HEADER_MAP" 1224 (.ref 29), en P "_QUOPRI_BODY_MAP" 1225 (.ref 31), en P "ascii_lowercase" 1227 (ss "abcdefghijklmnopqrstuvwxyz" 1226), en P "ascii_uppercase" 1229 (ss "ABCDEFGHIJKLMNOPQRSTUVWXYZ" 1228), en P "ascii_letters" 1231 (ss "abcdefghijklmnopqrstuvwxyzABCDEFGHIJKLMNOPQRSTUVWXYZ" 1230), en P "digits" 1233 (ss "0123456789" 1232), en P "hexdigits" 1238 (ss "0123456789abcdefABCDEF" 1237), en P "c" 1249 (.int 9 1735)]
noncomputable def g3 (P : Params) : Obj := { cls := .type "dict", data := .dict (g3E P).toArray 20 }
noncomputable def g31 (_ : Params) : Obj := mk256 (chL 1455 bodB)
noncomputable def g35 (P : Params) : Obj := { cls := .type "bytes_iterator", data := .fields #[.none, .int 95 0] }
noncomputable def g36 (P : Params) : Obj := { cls := .type "tuple", data := .seq #[] 0 }
noncomputable def g37 (P : Params) : Obj := { cls := .type "StopIteration", data := .fields #[.ref 36, .none, .none, .none, .bool false, .none] }
noncomputable def l_g (P : Params) : List Obj := [boot_o_0 P, boot_o_1 P, boot_o_2 P, g3 P, boot_o_4 P, boot_o_5 P, boot_o_6 P, boot_o_7 P, boot_o_8 P, boot_o_9 P, boot_o_10 P, a11 P, b12 P, a13 P, a14 P, b15 P, b16 P, b17 P, b18 P, b19 P, b20 P, b21 P, c22 P, c23 P, c24 P, c25 P, c26 P, c27 P, d28 P, f29 P, d30 P, g31 P, e32 P, e33 P, e34 P, g35 P, g36 P, g37 P]
noncomputable def s_g (P : Params) (os : OsState) : SharedT := ⟨bt (l_g P), 38, {}, #[], {}, 1738, os⟩
abbrev p_g : Pos := ⟨17, 9, 17, 110⟩
noncomputable def h3E (P : Params) : List DictEntry := [en P "__name__" 165 (ss "cpy313.email.quoprimime" 1239), en P "__doc__" 166 .none, en P "__package__" 167 .none, en P "__loader__" 168 (.builtin "__main__.__loader__#opaque"), en P "__spec__" 169 .none, en P "__annotations__" 170 (.ref 6), en P "__builtins__" 171 (.ref 4), en P "__file__" 173 (ss "/claim/cut.py" 172), en P "__cached__" 174 .none, en P "_wall" 193 (.ref 21), en P "NL" 195 (ss "\n" 194), en P "_QUOPRI_MAP" 1223 (.ref 24), en P "_QUOPRI_HEADER_MAP" 1224 (.ref 29), en P "_QUOPRI_BODY_MAP" 1225 (.ref 31), en P "ascii_lowercase" 1227 (ss "abcdefghijklmnopqrstuvwxyz" 1226), en P "ascii_uppercase" 1229 (ss "ABCDEFGHIJKLMNOPQRSTUVWXYZ" 1228), en P "ascii_letters" 1231 (ss "abcdefghijklmnopqrstuvwxyzABCDEFGHIJKLMNOPQRSTUVWXYZ" 1230), en P "digits" 1233 (ss "0123456789" 1232), en P "hexdigits" 1238 (ss "0123456789abcdefABCDEF" 1237), en P "c" 1249 (.int 10 1757), en P "unquote" 1744 (.ref 44), en P "quote" 1751 (.ref 51), en P "_QUOPRI_BODY_ENCODE_MAP" 1752 (.ref 53)]
noncomputable def h3 (P : Params) : Obj := { cls := .type "dict", data := .dict (h3E P).toArray 23 }
noncomputable def h12 (P : Params) : Obj := { cls := .none, data := .fields #[.int 1 0, .int 0 0, .ref 20, .int 19 0, .int 0 0, .ref 43, .int 21 0, .int 0 0, .ref 50] }
noncomputable def h38 (P : Params) : Obj := { cls := .type "tuple", data := .seq #[] 0 }
noncomputable def h39 (P : Params) : Obj := { cls := .none, data := .fields #[] }
noncomputable def h40 (P : Params) : Obj := { cls := .type "tuple", data := .seq #[ss "s" 1741] 0 }
noncomputable def h41 (P : Params) : Obj := { cls := .type "tuple", data := .seq #[] 0 }
noncomputable def h42 (P : Params) : Obj := { cls := .none, data := .func (fO "unquote" "unquote" (nthS 14 mainB) 0 .none .none .none .none .none 0) }
noncomputable def h43 (P : Params) : Obj := { cls := .type "code", data := .fields #[ss "unquote" 1738, ss "unquote" 1739, ss "/claim/cut.py" 1740, .int 19 0, .int 1 0, .int 0 0, .int 0 0, .int 3 0, .ref 38, .bool true, .int 181 0, .ref 39, .none, .ref 40, .ref 41, .ref 42, .int 1742 0, .int 19 0, ss "/claim/cut.py" 1743] }
noncomputable def h44 (P : Params) : Obj := { cls := .type "function", data := .func (fO "unquote" "unquote" (nthS 14 mainB) 3 .none .none (ss "cpy313.email.quoprimime" 1239) (.ref 43) .none 0) }
noncomputable def h45 (P : Params) : Obj := { cls := .type "tuple", data := .seq #[] 0 }
noncomputable def h46 (P : Params) : Obj := { cls := .none, data := .fields #[] }
noncomputable def h47 (P : Params) : Obj := { cls := .type "tuple", data := .seq #[ss "c" 1748] 0 }
noncomputable def h48 (P : Params) : Obj := { cls := .type "tuple", data := .seq #[] 0 }
noncomputable def h49 (P : Params) : Obj := { cls := .none, data := .func (fO "quote" "quote" (nthS 15 mainB) 0 .none .none .none .none .none 0) }
noncomputable def h50 (P : Params) : Obj := { cls := .type "code", data := .fields #[ss "quote" 1745, ss "quote" 1746, ss "/claim/cut.py" 1747, .int 21 0, .int 1 0, .int 0 0, .int 0 0, .int 3 0, .ref 45, .bool true, .int 181 0, .ref 46, .none, .ref 47, .ref 48, .ref 49, .int 1749 0, .int 21 0, ss "/claim/cut.py" 1750] }
noncomputable def h51 (P : Params) : Obj := { cls := .type "function", data := .func (fO "quote" "quote" (nthS 15 mainB) 3 .none .none (ss "cpy313.email.quoprimime" 1239) (.ref 50) .none 0) }
noncomputable def h52 (P : Params) : Obj := { cls := .type "slice", data := .fields #[.none, .none, .none] }
noncomputable def h53 (_ : Params) : Obj := mk256 ((13, .str ⟨#[13]⟩ 1756) :: (10, .str ⟨#[10]⟩ 1759) :: chL 1455 bodB)
noncomputable def h54 (P : Params) : Obj := { cls := .type "bytes_iterator", data := .fields #[.none, .int 2 0] }
noncomputable def h55 (P : Params) : Obj := { cls := .type "tuple", data := .seq #[] 0 }
noncomputable def h56 (P : Params) : Obj := { cls := .type "StopIteration", data := .fields #[.ref 55, .none, .none, .none, .bool false, .none] }
noncomputable def l_h (P : Params) : List Obj := [boot_o_0 P, boot_o_1 P, boot_o_2 P, h3 P, boot_o_4 P, boot_o_5 P, boot_o_6 P, boot_o_7 P, boot_o_8 P, boot_o_9 P, boot_o_10 P, a11 P, h12 P, a13 P, a14 P, b15 P, b16 P, b17 P, b18 P, b19 P, b20 P, b21 P, c22 P, c23 P, c24 P, c25 P, c26 P, c27 P, d28 P, f29 P, d30 P, g31 P, e32 P, e33 P, e34 P, g35 P, g36 P, g37 P, h38 P, h39 P, h40 P, h41 P, h42 P, h43 P, h44 P, h45 P, h46 P, h47 P, h48 P, h49 P, h50 P, h51 P, h52 P, h53 P, h54 P, h55 P, h56 P]
noncomputable def s_h (P : Params) (os : OsState) : SharedT := ⟨bt (l_h P), 57, {}, #[], {}, 1760, os⟩
abbrev p_h : Pos := ⟨24, 9, 24, 16⟩
noncomputable def i3E (P : Params) : List DictEntry := [en P "__name__" 165 (ss "cpy313.netrc" 1773), en P "__doc__" 166 .none, en P "__package__" 167 .none, en P "__loader__" 168 (.builtin "__main__.__loader__#opaque"), en P "__spec__" 169 .none, en P "__annotations__" 170 (.ref 6), en P "__builtins__" 171 (.ref 4), en P "__file__" 173 (ss "/claim/cut.py" 172), en P "__cached__" 174 .none, en P "_wall" 193 (.ref 21), en P "NL" 195 (ss "\n" 194), en P "_QUOPRI_MAP" 1223 (.ref 24), en P "_QUOPRI_HEADER_MAP" 1224 (.ref 29), en P "_QUOPRI_BODY_MAP" 1225 (.ref 31), en P "ascii_lowercase" 1227 (ss "abcdefghijklmnopqrstuvwxyz" 1226), en P "ascii_uppercase" 1229 (ss "ABCDEFGHIJKLMNOPQRSTUVWXYZ" 1228), en P "ascii_letters" 1231 (ss "abcdefghijklmnopqrstuvwxyzABCDEFGHIJKLMNOPQRSTUVWXYZ" 1230), en P "digits" 1233 (ss "0123456789" 1232), en P "hexdigits" 1238 (ss "0123456789abcdefABCDEF" 1237), en P "unquote" 1744 (.ref 44), en P "quote" 1751 (.ref 51), en P "_QUOPRI_BODY_ENCODE_MAP" 1752 (.ref 53), en P "decode" 1772 (.ref 64)]
noncomputable def i3 (P : Params) : Obj := { cls := .type "dict", data := .dict (i3E P).toArray 25 }
noncomputable def i12 (P : Params) : Obj := { cls := .none, data := .fields #[.int 1 0, .int 0 0, .ref 20, .int 19 0, .int 0 0, .ref 43, .int 21 0, .int 0 0, .ref 50, .int 27 0, .int 0 0, .ref 63] }
noncomputable def i57 (P : Params) : Obj := { cls := .type "tuple", data := .seq #[ss "\n" 194] 0 }
noncomputable def i58 (P : Params) : Obj := { cls := .type "tuple", data := .seq #[] 0 }
noncomputable def i59 (P : Params) : Obj := { cls := .none, data := .fields #[] }
noncomputable def i60 (P : Params) : Obj := { cls := .type "tuple", data := .seq #[ss "encoded" 1763, ss "eol" 1764, ss "decoded" 1765, ss "line" 1766, ss "i" 1767, ss "n" 1768, ss "c" 1769] 0 }
noncomputable def i61 (P : Params) : Obj := { cls := .type "tuple", data := .seq #[] 0 }
noncomputable def i62 (P : Params) : Obj := { cls := .none, data := .func (fO "decode" "decode" (nthS 19 mainB) 0 .none .none .none .none .none 0) }
noncomputable def i63 (P : Params) : Obj := { cls := .type "code", data := .fields #[ss "decode" 1760, ss "decode" 1761, ss "/claim/cut.py" 1762, .int 27 0, .int 2 0, .int 0 0, .int 0 0, .int 3 0, .ref 58, .bool true, .int 181 0, .ref 59, .none, .ref 60, .ref 61, .ref 62, .int 1770 0, .int 27 0, ss "/claim/cut.py" 1771] }
noncomputable def i64 (P : Params) : Obj := { cls := .type "function", data := .func (fO "decode" "decode" (nthS 19 mainB) 3 (.ref 57) .none (ss "cpy313.email.quoprimime" 1239) (.ref 63) .none 0) }
noncomputable def l_i (P : Params) : List Obj := [boot_o_0 P, boot_o_1 P, boot_o_2 P, i3 P, boot_o_4 P, boot_o_5 P, boot_o_6 P, boot_o_7 P, boot_o_8 P, boot_o_9 P, boot_o_10 P, a11 P, i12 P, a13 P, a14 P, b15 P, b16 P, b17 P, b18 P, b19 P, b20 P, b21 P, c22 P, c23 P, c24 P, c25 P, c26 P, c27 P, d28 P, f29 P, d30 P, g31 P, e32 P, e33 P, e34 P, g35 P, g36 P, g37 P, h38 P, h39 P, h40 P, h41 P, h42 P, h43 P, h44 P, h45 P, h46 P, h47 P, h48 P, h49 P, h50 P, h51 P, h52 P, h53 P, h54 P, h55 P, h56 P, i57 P, i58 P, i59 P, i60 P, i61 P, i62 P, i63 P, i64 P]
noncomputable def s_i (P : Params) (os : OsState) : SharedT := ⟨bt (l_i P), 65, {}, #[], {}, 1775, os⟩
abbrev p_i : Pos := ⟨57, 0, 57, 8⟩
noncomputable def j3E (P : Params) : List DictEntry := [en P "__name__" 165 (ss "cpy313.netrc" 1773), en P "__doc__" 166 .none, en P "__package__" 167 .none, en P "__loader__" 168 (.builtin "__main__.__loader__#opaque"), en P "__spec__" 169 .none, en P "__annotations__" 170 (.ref 6), en P "__builtins__" 171 (.ref 4), en P "__file__" 173 (ss "/claim/cut.py" 172), en P "__cached__" 174 .none, en P "_wall" 193 (.ref 21), en P "NL" 195 (ss "\n" 194), en P "_QUOPRI_MAP" 1223 (.ref 24), en P "_QUOPRI_HEADER_MAP" 1224 (.ref 29), en P "_QUOPRI_BODY_MAP" 1225 (.ref 31), en P "ascii_lowercase" 1227 (ss "abcdefghijklmnopqrstuvwxyz" 1226), en P "ascii_uppercase" 1229 (ss "ABCDEFGHIJKLMNOPQRSTUVWXYZ" 1228), en P "ascii_letters" 1231 (ss "abcdefghijklmnopqrstuvwxyzABCDEFGHIJKLMNOPQRSTUVWXYZ" 1230), en P "digits" 1233 (ss "0123456789" 1232), en P "hexdigits" 1238 (ss "0123456789abcdefABCDEF" 1237), en P "unquote" 1744 (.ref 44), en P "quote" 1751 (.ref 51), en P "_QUOPRI_BODY_ENCODE_MAP" 1752 (.ref 53), en P "decode" 1772 (.ref 64), en P "_netrclex" 1832 (.ref 102)]
noncomputable def j3 (P : Params) : Obj := { cls := .type "dict", data := .dict (j3E P).toArray 26 }
noncomputable def j12 (P : Params) : Obj := { cls := .none, data := .fields #[.int 1 0, .int 0 0, .ref 20, .int 19 0, .int 0 0, .ref 43, .int 21 0, .int 0 0, .ref 50, .int 27 0, .int 0 0, .ref 63, .int 58 0, .int 0 0, .ref 70] }
noncomputable def j65 (P : Params) : Obj := { cls := .type "tuple", data := .seq #[] 0 }
noncomputable def j66 (P : Params) : Obj := { cls := .type "builtin_function_or_method", data := .fields #[.builtin "type.__prepare__", .type "type"] }
noncomputable def j67 (P : Params) : Obj := { cls := .type "dict", data := .dict #[en P "__module__" 1782 (ss "cpy313.netrc" 1773), en P "__qualname__" 1784 (ss "_netrclex" 1783), en P "__firstlineno__" 1786 (.int 58 1785), en P "__init__" 1794 (.ref 78), en P "_read_char" 1802 (.ref 85), en P "get_token" 1812 (.ref 92), en P "push_token" 1820 (.ref 99), en P "__static_attributes__" 1825 (.ref 100)] 8 }
noncomputable def j68 (P : Params) : Obj := { cls := .type "tuple", data := .seq #[] 0 }
noncomputable def j69 (P : Params) : Obj := { cls := .none, data := .fields #[.int 60 0, .int 4 0, .ref 77, .int 66 0, .int 4 0, .ref 84, .int 72 0, .int 4 0, .ref 91, .int 99 0, .int 4 0, .ref 98] }
noncomputable def j70 (P : Params) : Obj := { cls := .type "code", data := .fields #[ss "_netrclex" 1777, ss "_netrclex" 1778, ss "/claim/cut.py" 1779, .int 58 0, .int 0 0, .int 0 0, .int 0 0, .int 0 0, .ref 68, .bool false, .int 181 0, .ref 69, .none, .none, .none, .none, .int 1780 0, .int 58 0, ss "/claim/cut.py" 1781] }
noncomputable def j71 (P : Params) : Obj := { cls := .type "frame", data := .plain, slots := #[some (.ref 70), some (.ref 3), some (.ref 67), none, some (ss "cpy313.netrc" 1773), none, some (.ref 0)] }
noncomputable def j72 (P : Params) : Obj := { cls := .type "tuple", data := .seq #[] 0 }
noncomputable def j73 (P : Params) : Obj := { cls := .none, data := .fields #[] }
noncomputable def j74 (P : Params) : Obj := { cls := .type "tuple", data := .seq #[ss "self" 1790, ss "fp" 1791] 0 }
noncomputable def j75 (P : Params) : Obj := { cls := .type "tuple", data := .seq #[] 0 }
noncomputable def j76 (P : Params) : Obj := { cls := .none, data := .func (fO "__init__" "_netrclex.__init__" (nthS 0 (fdBody (nthS 21 mainB))) 0 .none .none .none .none .none 0) }
noncomputable def j77 (P : Params) : Obj := { cls := .type "code", data := .fields #[ss "__init__" 1787, ss "_netrclex.__init__" 1788, ss "/claim/cut.py" 1789, .int 60 0, .int 2 0, .int 0 0, .int 0 0, .int 3 0, .ref 72, .bool true, .int 181 0, .ref 73, .none, .ref 74, .ref 75, .ref 76, .int 1792 0, .int 60 0, ss "/claim/cut.py" 1793] }
noncomputable def j78 (P : Params) : Obj := { cls := .type "function", data := .func (fO "__init__" "_netrclex.__init__" (nthS 0 (fdBody (nthS 21 mainB))) 3 .none .none (ss "cpy313.netrc" 1773) (.ref 77) .none 0) }
noncomputable def j79 (P : Params) : Obj := { cls := .type "tuple", data := .seq #[] 0 }
noncomputable def j80 (P : Params) : Obj := { cls := .none, data := .fields #[] }
noncomputable def j81 (P : Params) : Obj := { cls := .type "tuple", data := .seq #[ss "self" 1798, ss "ch" 1799] 0 }
noncomputable def j82 (P : Params) : Obj := { cls := .type "tuple", data := .seq #[] 0 }
noncomputable def j83 (P : Params) : Obj := { cls := .none, data := .func (fO "_read_char" "_netrclex._read_char" (nthS 1 (fdBody (nthS 21 mainB))) 0 .none .none .none .none .none 0) }
noncomputable def j84 (P : Params) : Obj := { cls := .type "code", data := .fields #[ss "_read_char" 1795, ss "_netrclex._read_char" 1796, ss "/claim/cut.py" 1797, .int 66 0, .int 1 0, .int 0 0, .int 0 0, .int 3 0, .ref 79, .bool true, .int 181 0, .ref 80, .none, .ref 81, .ref 82, .ref 83, .int 1800 0, .int 66 0, ss "/claim/cut.py" 1801] }
noncomputable def j85 (P : Params) : Obj := { cls := .type "function", data := .func (fO "_read_char" "_netrclex._read_char" (nthS 1 (fdBody (nthS 21 mainB))) 3 .none .none (ss "cpy313.netrc" 1773) (.ref 84) .none 0) }
noncomputable def j86 (P : Params) : Obj := { cls := .type "tuple", data := .seq #[] 0 }
noncomputable def j87 (P : Params) : Obj := { cls := .none, data := .fields #[] }
noncomputable def j88 (P : Params) : Obj := { cls := .type "tuple", data := .seq #[ss "self" 1806, ss "token" 1807, ss "fiter" 1808, ss "ch" 1809] 0 }
noncomputable def j89 (P : Params) : Obj := { cls := .type "tuple", data := .seq #[] 0 }
noncomputable def j90 (P : Params) : Obj := { cls := .none, data := .func (fO "get_token" "_netrclex.get_token" (nthS 2 (fdBody (nthS 21 mainB))) 0 .none .none .none .none .none 0) }
noncomputable def j91 (P : Params) : Obj := { cls := .type "code", data := .fields #[ss "get_token" 1803, ss "_netrclex.get_token" 1804, ss "/claim/cut.py" 1805, .int 72 0, .int 1 0, .int 0 0, .int 0 0, .int 3 0, .ref 86, .bool true, .int 181 0, .ref 87, .none, .ref 88, .ref 89, .ref 90, .int 1810 0, .int 72 0, ss "/claim/cut.py" 1811] }
noncomputable def j92 (P : Params) : Obj := { cls := .type "function", data := .func (fO "get_token" "_netrclex.get_token" (nthS 2 (fdBody (nthS 21 mainB))) 3 .none .none (ss "cpy313.netrc" 1773) (.ref 91) .none 0) }
noncomputable def j93 (P : Params) : Obj := { cls := .type "tuple", data := .seq #[] 0 }
noncomputable def j94 (P : Params) : Obj := { cls := .none, data := .fields #[] }
noncomputable def j95 (P : Params) : Obj := { cls := .type "tuple", data := .seq #[ss "self" 1816, ss "token" 1817] 0 }
noncomputable def j96 (P : Params) : Obj := { cls := .type "tuple", data := .seq #[] 0 }
noncomputable def j97 (P : Params) : Obj := { cls := .none, data := .func (fO "push_token" "_netrclex.push_token" (nthS 3 (fdBody (nthS 21 mainB))) 0 .none .none .none .none .none 0) }
noncomputable def j98 (P : Params) : Obj := { cls := .type "code", data := .fields #[ss "push_token" 1813, ss "_netrclex.push_token" 1814, ss "/claim/cut.py" 1815, .int 99 0, .int 2 0, .int 0 0, .int 0 0, .int 3 0, .ref 93, .bool true, .int 181 0, .ref 94, .none, .ref 95, .ref 96, .ref 97, .int 1818 0, .int 99 0, ss "/claim/cut.py" 1819] }
noncomputable def j99 (P : Params) : Obj := { cls := .type "function", data := .func (fO "push_token" "_netrclex.push_token" (nthS 3 (fdBody (nthS 21 mainB))) 3 .none .none (ss "cpy313.netrc" 1773) (.ref 98) .none 0) }
noncomputable def j100 (P : Params) : Obj := { cls := .type "tuple", data := .seq #[ss "instream" 1821, ss "lineno" 1822, ss "pushback" 1823, ss "whitespace" 1824] 0 }
noncomputable def j101 (P : Params) : Obj := { cls := .type "dict", data := .dict #[en P "__module__" 1782 (ss "cpy313.netrc" 1773), en P "__firstlineno__" 1786 (.int 58 1785), en P "__init__" 1794 (.ref 78), en P "_read_char" 1802 (.ref 85), en P "get_token" 1812 (.ref 92), en P "push_token" 1820 (.ref 99), en P "__static_attributes__" 1825 (.ref 100), en P "__dict__" 1827 (.ref 103), en P "__weakref__" 1829 (.ref 104), en P "__doc__" 1830 .none] 4 }
noncomputable def j102 (P : Params) : Obj := { cls := .type "type", data := .cls { name := Str.ofString "_netrclex", bases := [.type "object"], mro := [.ref 102, .type "object"], ns := 101, qualname := Str.ofString "_netrclex" }, slots := #[none, none, some (ss "_netrclex" 1775), some (ss "_netrclex" 1783), some (.builtin "object.__new__"), some (.bool true)] }
noncomputable def j103 (P : Params) : Obj := { cls := .type "getset_descriptor", data := .fields #[ss "__dict__" 1826, .ref 102, .builtin "function.__dict__", .builtin "function.__dict__#set"] }
noncomputable def j104 (P : Params) : Obj := { cls := .type "getset_descriptor", data := .fields #[ss "__weakref__" 1828, .ref 102, .builtin "ExceptionGroup.__weakref__", .none] }
noncomputable def j105 (P : Params) : Obj := { cls := .type "super", data := .fields #[.ref 102, .ref 102, .ref 102] }
noncomputable def j106 (P : Params) : Obj := { cls := .type "builtin_function_or_method", data := .fields #[.builtin "object.__init_subclass__", .ref 102] }
noncomputable def l_j (P : Params) : List Obj := [boot_o_0 P, boot_o_1 P, boot_o_2 P, j3 P, boot_o_4 P, boot_o_5 P, boot_o_6 P, boot_o_7 P, boot_o_8 P, boot_o_9 P, boot_o_10 P, a11 P, j12 P, a13 P, a14 P, b15 P, b16 P, b17 P, b18 P, b19 P, b20 P, b21 P, c22 P, c23 P, c24 P, c25 P, c26 P, c27 P, d28 P, f29 P, d30 P, g31 P, e32 P, e33 P, e34 P, g35 P, g36 P, g37 P, h38 P, h39 P, h40 P, h41 P, h42 P, h43 P, h44 P, h45 P, h46 P, h47 P, h48 P, h49 P, h50 P, h51 P, h52 P, h53 P, h54 P, h55 P, h56 P, i57 P, i58 P, i59 P, i60 P, i61 P, i62 P, i63 P, i64 P, j65 P, j66 P, j67 P, j68 P, j69 P, j70 P, j71 P, j72 P, j73 P, j74 P, j75 P, j76 P, j77 P, j78 P, j79 P, j80 P, j81 P, j82 P, j83 P, j84 P, j85 P, j86 P, j87 P, j88 P, j89 P, j90 P, j91 P, j92 P, j93 P, j94 P, j95 P, j96 P, j97 P, j98 P, j99 P, j100 P, j101 P, j102 P, j103 P, j104 P, j105 P, j106 P]
noncomputable def s_j (P : Params) (os : OsState) : SharedT := ⟨bt (l_j P), 107, {}, #[], {}, 1833, os⟩
abbrev p_j : Pos := ⟨58, 0, 100, 16⟩
noncomputable def k3E (P : Params) : List DictEntry := [en P "__name__" 165 (ss "law_rs0059_01" 1833), en P "__doc__" 166 .none, en P "__package__" 167 .none, en P "__loader__" 168 (.builtin "__main__.__loader__#opaque"), en P "__spec__" 169 .none, en P "__annotations__" 170 (.ref 6), en P "__builtins__" 171 (.ref 4), en P "__file__" 173 (ss "/claim/cut.py" 172), en P "__cached__" 174 .none, en P "_wall" 193 (.ref 21), en P "NL" 195 (ss "\n" 194), en P "_QUOPRI_MAP" 1223 (.ref 24), en P "_QUOPRI_HEADER_MAP" 1224 (.ref 29), en P "_QUOPRI_BODY_MAP" 1225 (.ref 31), en P "ascii_lowercase" 1227 (ss "abcdefghijklmnopqrstuvwxyz" 1226), en P "ascii_uppercase" 1229 (ss "ABCDEFGHIJKLMNOPQRSTUVWXYZ" 1228), en P "ascii_letters" 1231 (ss "abcdefghijklmnopqrstuvwxyzABCDEFGHIJKLMNOPQRSTUVWXYZ" 1230), en P "digits" 1233 (ss "0123456789" 1232), en P "hexdigits" 1238 (ss "0123456789abcdefABCDEF" 1237), en P "unquote" 1744 (.ref 44), en P "quote" 1751 (.ref 51), en P "_QUOPRI_BODY_ENCODE_MAP" 1752 (.ref 53), en P "decode" 1772 (.ref 64), en P "_netrclex" 1832 (.ref 102), en P "_law_tape" 1844 (.ref 113), en P "_law_word" 1852 (.ref 120), en P "_law_told" 1863 (.ref 127), en P "law" 1869 (.ref 132)]
noncomputable def k3 (P : Params) : Obj := { cls := .type "dict", data := .dict (k3E P).toArray 30 }
noncomputable def k12 (P : Params) : Obj := { cls := .none, data := .fields #[.int 1 0, .int 0 0, .ref 20, .int 19 0, .int 0 0, .ref 43, .int 21 0, .int 0 0, .ref 50, .int 27 0, .int 0 0, .ref 63, .int 58 0, .int 0 0, .ref 70, .int 102 0, .int 0 0, .ref 112, .int 112 0, .int 0 0, .ref 119, .int 118 0, .int 0 0, .ref 126, .int 131 0, .int 0 0, .ref 131] }
noncomputable def k107 (P : Params) : Obj := { cls := .type "tuple", data := .seq #[] 0 }
noncomputable def k108 (P : Params) : Obj := { cls := .none, data := .fields #[] }
noncomputable def k109 (P : Params) : Obj := { cls := .type "tuple", data := .seq #[ss "read" 1838, ss "stream" 1839] 0 }
noncomputable def k110 (P : Params) : Obj := { cls := .type "tuple", data := .seq #[ss "place" 1840, ss "tape" 1841] 0 }
noncomputable def k111 (P : Params) : Obj := { cls := .none, data := .func (fO "_law_tape" "_law_tape" (nthS 23 mainB) 0 .none .none .none .none .none 0) }
noncomputable def k112 (P : Params) : Obj := { cls := .type "code", data := .fields #[ss "_law_tape" 1835, ss "_law_tape" 1836, ss "/claim/cut.py" 1837, .int 102 0, .int 0 0, .int 0 0, .int 0 0, .int 3 0, .ref 107, .bool true, .int 181 0, .ref 108, .none, .ref 109, .ref 110, .ref 111, .int 1842 0, .int 102 0, ss "/claim/cut.py" 1843] }
noncomputable def k113 (P : Params) : Obj := { cls := .type "function", data := .func (fO "_law_tape" "_law_tape" (nthS 23 mainB) 3 .none .none (ss "law_rs0059_01" 1833) (.ref 112) .none 0) }
noncomputable def k114 (P : Params) : Obj := { cls := .type "tuple", data := .seq #[] 0 }
noncomputable def k115 (P : Params) : Obj := { cls := .none, data := .fields #[] }
noncomputable def k116 (P : Params) : Obj := { cls := .type "tuple", data := .seq #[ss "sign" 1848, ss "manner" 1849] 0 }
noncomputable def k117 (P : Params) : Obj := { cls := .type "tuple", data := .seq #[] 0 }
noncomputable def k118 (P : Params) : Obj := { cls := .none, data := .func (fO "_law_word" "_law_word" (nthS 24 mainB) 0 .none .none .none .none .none 0) }
noncomputable def k119 (P : Params) : Obj := { cls := .type "code", data := .fields #[ss "_law_word" 1845, ss "_law_word" 1846, ss "/claim/cut.py" 1847, .int 112 0, .int 2 0, .int 0 0, .int 0 0, .int 3 0, .ref 114, .bool true, .int 181 0, .ref 115, .none, .ref 116, .ref 117, .ref 118, .int 1850 0, .int 112 0, ss "/claim/cut.py" 1851] }
noncomputable def k120 (P : Params) : Obj := { cls := .type "function", data := .func (fO "_law_word" "_law_word" (nthS 24 mainB) 3 .none .none (ss "law_rs0059_01" 1833) (.ref 119) .none 0) }
noncomputable def k121 (P : Params) : Obj := { cls := .type "tuple", data := .seq #[] 0 }
noncomputable def k122 (P : Params) : Obj := { cls := .none, data := .fields #[] }
noncomputable def k123 (P : Params) : Obj := { cls := .type "tuple", data := .seq #[ss "place" 1856, ss "row" 1857, ss "way" 1858, ss "sign" 1859, ss "figure" 1860] 0 }
noncomputable def k124 (P : Params) : Obj := { cls := .type "tuple", data := .seq #[] 0 }
noncomputable def k125 (P : Params) : Obj := { cls := .none, data := .func (fO "_law_told" "_law_told" (nthS 25 mainB) 0 .none .none .none .none .none 0) }
noncomputable def k126 (P : Params) : Obj := { cls := .type "code", data := .fields #[ss "_law_told" 1853, ss "_law_told" 1854, ss "/claim/cut.py" 1855, .int 118 0, .int 2 0, .int 0 0, .int 0 0, .int 3 0, .ref 121, .bool true, .int 181 0, .ref 122, .none, .ref 123, .ref 124, .ref 125, .int 1861 0, .int 118 0, ss "/claim/cut.py" 1862] }
noncomputable def k127 (P : Params) : Obj := { cls := .type "function", data := .func (fO "_law_told" "_law_told" (nthS 25 mainB) 3 .none .none (ss "law_rs0059_01" 1833) (.ref 126) .none 0) }
noncomputable def k128 (P : Params) : Obj := { cls := .type "tuple", data := .seq #[] 0 }
noncomputable def k129 (P : Params) : Obj := { cls := .none, data := .fields #[] }
noncomputable def k130 (P : Params) : Obj := { cls := .none, data := .func (fO "law" "law" (nthS 26 mainB) 0 .none .none .none .none .none 0) }
noncomputable def k131 (P : Params) : Obj := { cls := .type "code", data := .fields #[ss "law" 1864, ss "law" 1865, ss "/claim/cut.py" 1866, .int 131 0, .int 1 0, .int 0 0, .int 0 0, .int 3 0, .ref 128, .bool true, .int 181 0, .ref 129, .none, .none, .none, .ref 130, .int 1867 0, .int 131 0, ss "/claim/cut.py" 1868] }
noncomputable def k132 (P : Params) : Obj := { cls := .type "function", data := .func (fO "law" "law" (nthS 26 mainB) 3 .none .none (ss "law_rs0059_01" 1833) (.ref 131) .none 0) }
noncomputable def l_k (P : Params) : List Obj := [boot_o_0 P, boot_o_1 P, boot_o_2 P, k3 P, boot_o_4 P, boot_o_5 P, boot_o_6 P, boot_o_7 P, boot_o_8 P, boot_o_9 P, boot_o_10 P, a11 P, k12 P, a13 P, a14 P, b15 P, b16 P, b17 P, b18 P, b19 P, b20 P, b21 P, c22 P, c23 P, c24 P, c25 P, c26 P, c27 P, d28 P, f29 P, d30 P, g31 P, e32 P, e33 P, e34 P, g35 P, g36 P, g37 P, h38 P, h39 P, h40 P, h41 P, h42 P, h43 P, h44 P, h45 P, h46 P, h47 P, h48 P, h49 P, h50 P, h51 P, h52 P, h53 P, h54 P, h55 P, h56 P, i57 P, i58 P, i59 P, i60 P, i61 P, i62 P, i63 P, i64 P, j65 P, j66 P, j67 P, j68 P, j69 P, j70 P, j71 P, j72 P, j73 P, j74 P, j75 P, j76 P, j77 P, j78 P, j79 P, j80 P, j81 P, j82 P, j83 P, j84 P, j85 P, j86 P, j87 P, j88 P, j89 P, j90 P, j91 P, j92 P, j93 P, j94 P, j95 P, j96 P, j97 P, j98 P, j99 P, j100 P, j101 P, j102 P, j103 P, j104 P, j105 P, j106 P, k107 P, k108 P, k109 P, k110 P, k111 P, k112 P, k113 P, k114 P, k115 P, k116 P, k117 P, k118 P, k119 P, k120 P, k121 P, k122 P, k123 P, k124 P, k125 P, k126 P, k127 P, k128 P, k129 P, k130 P, k131 P, k132 P]
noncomputable def s_k (P : Params) (os : OsState) : SharedT := ⟨bt (l_k P), 133, {}, #[], {}, 1870, os⟩
abbrev p_k : Pos := ⟨131, 0, 149, 70⟩
noncomputable def KK (P : Params) : Frag := (nat_lit 2, boot_o_2 P) :: (nat_lit 3, k3 P) :: (nat_lit 6, boot_o_6 P) :: (nat_lit 15, b15 P) :: (nat_lit 17, b17 P) :: (nat_lit 18, b18 P) :: (nat_lit 20, b20 P) :: (nat_lit 21, b21 P) :: (nat_lit 24, c24 P) :: (nat_lit 38, h38 P) :: (nat_lit 40, h40 P) :: (nat_lit 41, h41 P) :: (nat_lit 43, h43 P) :: (nat_lit 44, h44 P) :: (nat_lit 45, h45 P) :: (nat_lit 47, h47 P) :: (nat_lit 48, h48 P) :: (nat_lit 50, h50 P) :: (nat_lit 51, h51 P) :: (nat_lit 57, i57 P) :: (nat_lit 58, i58 P) :: (nat_lit 60, i60 P) :: (nat_lit 61, i61 P) :: (nat_lit 63, i63 P) :: (nat_lit 64, i64 P) :: (nat_lit 72, j72 P) :: (nat_lit 74, j74 P) :: (nat_lit 75, j75 P) :: (nat_lit 77, j77 P) :: (nat_lit 78, j78 P) :: (nat_lit 79, j79 P) :: (nat_lit 81, j81 P) :: (nat_lit 82, j82 P) :: (nat_lit 84, j84 P) :: (nat_lit 85, j85 P) :: (nat_lit 86, j86 P) :: (nat_lit 88, j88 P) :: (nat_lit 89, j89 P) :: (nat_lit 91, j91 P) :: (nat_lit 92, j92 P) :: (nat_lit 93, j93 P) :: (nat_lit 95, j95 P) :: (nat_lit 96, j96 P) :: (nat_lit 98, j98 P) :: (nat_lit 99, j99 P) :: (nat_lit 100, j100 P) :: (nat_lit 101, j101 P) :: (nat_lit 102, j102 P) :: (nat_lit 103, j103 P) :: (nat_lit 104, j104 P) :: (nat_lit 107, k107 P) :: (nat_lit 109, k109 P) :: (nat_lit 110, k110 P) :: (nat_lit 112, k112 P) :: (nat_lit 113, k113 P) :: (nat_lit 114, k114 P) :: (nat_lit 116, k116 P) :: (nat_lit 117, k117 P) :: (nat_lit 119, k119 P) :: (nat_lit 120, k120 P) :: (nat_lit 121, k121 P) :: (nat_lit 123, k123 P) :: (nat_lit 124, k124 P) :: (nat_lit 126, k126 P) :: (nat_lit 127, k127 P) :: (nat_lit 128, k128 P) :: (nat_lit 131, k131 P) :: (nat_lit 132, k132 P) :: []
def KKa : List Addr := [2, 3, 6, 15, 17, 18, 20, 21, 24, 38, 40, 41, 43, 44, 45, 47, 48, 50, 51, 57, 58, 60, 61, 63, 64, 72, 74, 75, 77, 78, 79, 81, 82, 84, 85, 86, 88, 89, 91, 92, 93, 95, 96, 98, 99, 100, 101, 102, 103, 104, 107, 109, 110, 112, 113, 114, 116, 117, 119, 120, 121, 123, 124, 126, 127, 128, 131, 132]
/-- the loops' states -/
noncomputable def cIt (k : Nat) : Obj := { cls := .type "range_iterator", data := .fields #[.int (k : Nat) 0, .int (256 - k : Nat) 0, .int 1 0] }
noncomputable def cLst (k : Nat) : Obj := { cls := .type "list", data := .seq ((List.range k).map hexV).toArray k }
noncomputable def cNs (P : Params) (k : Nat) : Obj := { cls := .type "dict", data := match k with | 0 => .dict #[] 0 | j + 1 => .dict #[en P "c" 200 (.int (j : Nat) (199 + 4 * j))] 1 }
noncomputable def sC (P : Params) (os : OsState) (k : Nat) : SharedT := ⟨bt (l_b P ++ [c22 P, cIt k, cLst k, cNs P k]), 26, {}, #[], {}, 199 + 4 * k, os⟩
noncomputable def cEx : Expr := asVal (nthS 2 mainB)
noncomputable def cEnv : Env := { scope := match cEx with | .ListComp _ _ s _ => s | _ => default, locals := 25, globals := 3, cells := [], code := .ref 13, frame := some 14 }
noncomputable def cCode : Code := .compLoop cEx 0 (.ref 23) (.ref 24) cEnv
noncomputable def envT : Env := { scope := pw.main.scope, locals := mainNs, globals := mainNs, cells := [], code := .ref 13, frame := some 14 }
noncomputable def bodyC : Code := .body (behindTheImports pw) envT
abbrev topF : List Frame := [topFrame ⟨0, 0, 0, 0⟩]
abbrev Kont := Result → Sem PySem.Fin
noncomputable def tCd (d : Sem PySem.Fin) (K : Kont) (k : Nat) : Thread := ⟨d, cCode, match k with | 0 => ⟨5, 36, 5, 46⟩ | _ => ⟨5, 15, 5, 26⟩, .ret K none true [.ref 25, .ref 24] bodyC ⟨5, 36, 5, 46⟩ [] :: topF⟩
noncomputable def tC (K : Kont) (k : Nat) : Thread := tCd (denote treeTable cCode) K k
noncomputable def byIt (b : List Nat) (t k : Nat) : Obj := { cls := .type "bytes_iterator", data := .fields #[.bytes (b.map UInt8.ofNat).toArray t, .int (k : Nat) 0] }
noncomputable def nthN (b : List Nat) (k : Nat) : Nat := match b.drop k with | c :: _ => c | _ => 0
noncomputable def set2 (l : List Obj) (i : Nat) (o : Obj) (j : Nat) (o' : Obj) : List Obj := (l.set i o).set j o'
noncomputable def ns3 (P : Params) (b : List Nat) (v0 t0 t : Nat) (k : Nat) : Obj := { cls := .type "dict", data := .dict (d3E P ++ [en P "c" 1249 (match k with | 0 => .int (v0 : Nat) t0 | j + 1 => .int (nthN b j : Nat) (t + 3 * j))]).toArray 20 }
noncomputable def sH (P : Params) (os : OsState) (k : Nat) : SharedT := ⟨bt (set2 (l_d P) 3 (match k with | 0 => d3 P | _ => ns3 P hdrB 0 0 1248 k) 29 (mk256 (chL 1250 (hdrB.take k))) ++ [byIt hdrB 1247 k]), 33, {}, #[], {}, 1248 + 3 * k, os⟩
noncomputable def sB (P : Params) (os : OsState) (k : Nat) : SharedT := ⟨bt (set2 (l_f P) 3 (ns3 P bodB 57 1446 1453 k) 31 (mk256 (chL 1455 (bodB.take k))) ++ [byIt bodB 1452 k]), 36, {}, #[], {}, 1453 + 3 * k, os⟩
noncomputable def fCode (i : Nat) (it : Addr) : Code := .forLoop (forTgt (nthS i mainB)) (.ref it) (fdBody (nthS i mainB)) [] envT
noncomputable def tHd (d : Sem PySem.Fin) (K : Kont) (k : Nat) : Thread := ⟨d, fCode 11 32, match k with | 0 => ⟨14, 9, 14, 74⟩ | _ => ⟨15, 4, 15, 25⟩, .ret K none false [] bodyC ⟨14, 9, 14, 74⟩ [] :: topF⟩
noncomputable def tH (K : Kont) (k : Nat) : Thread := tHd (denote treeTable (fCode 11 32)) K k
noncomputable def tBd (d : Sem PySem.Fin) (K : Kont) (k : Nat) : Thread := ⟨d, fCode 13 35, match k with | 0 => ⟨17, 9, 17, 110⟩ | _ => ⟨18, 4, 18, 23⟩, .ret K none false [] bodyC ⟨17, 9, 17, 110⟩ [] :: topF⟩
noncomputable def tB (K : Kont) (k : Nat) : Thread := tBd (denote treeTable (fCode 13 35)) K k
/-- the frame's way on, read off a run -/
noncomputable def kOf (o : Option (SharedT × Thread)) : Kont := match o with | some (_, ⟨_, _, _, .ret k _ _ _ _ _ _ :: _⟩) => k | _ => fun _ => .unsupported ""
theorem tC_eq (K : Kont) (k : Nat) : tC K k = tCd (PySem.W.Fast.tw11892475500146522536 PySem.W.Fast.tw14364793385576792824 cCode) K k := by unfold tC; rw [PySem.W.Fast.te11892475500146522536, PySem.W.Fast.te14364793385576792824]
theorem tH_eq (K : Kont) (k : Nat) : tH K k = tHd (PySem.W.Fast.tw11892475500146522536 PySem.W.Fast.tw14364793385576792824 (fCode 11 32)) K k := by unfold tH; rw [PySem.W.Fast.te11892475500146522536, PySem.W.Fast.te14364793385576792824]
theorem tB_eq (K : Kont) (k : Nat) : tB K k = tBd (PySem.W.Fast.tw11892475500146522536 PySem.W.Fast.tw14364793385576792824 (fCode 13 35)) K k := by unfold tB; rw [PySem.W.Fast.te11892475500146522536, PySem.W.Fast.te14364793385576792824]
noncomputable def slice (i n : Nat) : List Stmt := (mainB.drop i).take n
abbrev ann : Option Value := some (.ref 6)
noncomputable def hEnd (P : Params) : Heap := ⟨(l_k P).toArray, {}⟩
end
end Mine
end
section
open PySem PySem.W PyProof.Rows
set_option maxRecDepth 100000
set_option maxHeartbeats 0
set_option linter.unusedVariables false
namespace Mine
variable {w : World} {os : OsState}
theorem h_opn : ∀ w : World, (importEnds treeTable (opening pw) w 600 (start (opening pw)).1 (start (opening pw)).2).map (fun s => (s.heap, s.gens, s.drawn, s.toks)) = some (boot_heap w.params, Array.mk [], boot_drawn, boot_toks) := by intro w; kernel_rfl
theorem h_fen : ∀ s, fenceModules? pw s = some s := by intro s; kernel_rfl
theorem h_size : ∀ w : World, ((boot_heap w.params).isNs mainGlobals && (Array.mk [] : Array GenState).size == 0, (boot_heap w.params).objs.size, (boot_heap w.params).nsMap mainGlobals "__annotations__") = (true, 11, ann) := by intro w; kernel_rfl
theorem h_pre (w : World) (os : OsState) : topGo treeTable pw w 11 ann 12 ⟨boot_heap w.params, Array.mk [], boot_drawn, boot_toks, os⟩ (topStub pw) = some ((s_a w.params os).abs, ⟨denote treeTable bodyC, bodyC, p_a, topF⟩) := by
  rw [PySem.W.Fast.te15667345088766844465, PySem.W.Fast.te14364793385576792824, PySem.W.Fast.te11892475500146522536]; kernel_rfl
theorem h_blk (w : World) (os : OsState) : segRun treeTable pw w 11 ann 1 1 (s_a w.params os).abs (blockOf (behindTheImports pw) envT bodyC p_a topF) = some (.next, (s_a w.params os).abs, bodyC, p_a) := by kernel_rfl
theorem h_b (w : World) (os : OsState) : segRunT treeTable pw w 11 ann 1 39 (s_a w.params os) (piecesOf (slice 0 2) envT bodyC p_a topF) = some (.next, s_b w.params os, bodyC, p_b) := by
  rw [PySem.W.Fast.te10110043849684766642, PySem.W.Fast.te14364793385576792824]; kernel_rfl
theorem h_d (w : World) (os : OsState) : segRunT treeTable pw w 11 ann 1 133 (s_c w.params os) (piecesOf (slice 3 8) envT bodyC p_c topF) = some (.next, s_d w.params os, bodyC, p_d) := by
  rw [PySem.W.Fast.te10110043849684766642, PySem.W.Fast.te14364793385576792824]; kernel_rfl
theorem h_f (w : World) (os : OsState) : segRunT treeTable pw w 11 ann 1 25 (s_e w.params os) (piecesOf (slice 12 1) envT bodyC p_e topF) = some (.next, s_f w.params os, bodyC, p_f) := by
  rw [PySem.W.Fast.te10110043849684766642, PySem.W.Fast.te14364793385576792824]; kernel_rfl
theorem h_i (w : World) (os : OsState) : segRunT treeTable pw w 11 ann 1 54 (s_h w.params os) (piecesOf (slice 18 3) envT bodyC p_h topF) = some (.next, s_i w.params os, bodyC, p_i) := by
  rw [PySem.W.Fast.te10110043849684766642, PySem.W.Fast.te14364793385576792824]; kernel_rfl
theorem h_j (w : World) (os : OsState) : segRunT treeTable pw w 11 ann 1 324 (s_i w.params os) (piecesOf (slice 21 1) envT bodyC p_i topF) = some (.next, s_j w.params os, bodyC, p_j) := by
  rw [PySem.W.Fast.te10110043849684766642, PySem.W.Fast.te14364793385576792824]; kernel_rfl
theorem h_k (w : World) (os : OsState) : segRunT treeTable pw w 11 ann 1 131 (s_j w.params os) (piecesOf (slice 22 5) envT bodyC p_j topF) = some (.next, s_k w.params os, bodyC, p_k) := by
  rw [PySem.W.Fast.te10110043849684766642, PySem.W.Fast.te14364793385576792824]; kernel_rfl
theorem h_fin (w : World) (os : OsState) : topRun treeTable pw w 11 ann 2 (s_k w.params os).abs ⟨doneF .next, bodyC, p_k, topF⟩ = some ⟨hEnd w.params, #[], {}, 1870, os⟩ := by kernel_rfl
end Mine
end
section
open PySem PySem.W PyProof.Rows
set_option maxRecDepth 100000
set_option maxHeartbeats 0
set_option linter.unusedVariables false
namespace Mine
theorem c_0 (w : World) (os : OsState) (K : Kont) : segGoT treeTable pw w 11 ann 1 592 (sC w.params os 0) (tC K 0) = some (sC w.params os 16, tC K 16) := by
  rw [PySem.W.Fast.te10295753902157049106, PySem.W.Fast.te14364793385576792824, tC_eq, tC_eq]; kernel_rfl
theorem c_16 (w : World) (os : OsState) (K : Kont) : segGoT treeTable pw w 11 ann 1 592 (sC w.params os 16) (tC K 16) = some (sC w.params os 32, tC K 32) := by
  rw [PySem.W.Fast.te10295753902157049106, PySem.W.Fast.te14364793385576792824, tC_eq, tC_eq]; kernel_rfl
theorem c_32 (w : World) (os : OsState) (K : Kont) : segGoT treeTable pw w 11 ann 1 592 (sC w.params os 32) (tC K 32) = some (sC w.params os 48, tC K 48) := by
  rw [PySem.W.Fast.te10295753902157049106, PySem.W.Fast.te14364793385576792824, tC_eq, tC_eq]; kernel_rfl
theorem c_48 (w : World) (os : OsState) (K : Kont) : segGoT treeTable pw w 11 ann 1 592 (sC w.params os 48) (tC K 48) = some (sC w.params os 64, tC K 64) := by
  rw [PySem.W.Fast.te10295753902157049106, PySem.W.Fast.te14364793385576792824, tC_eq, tC_eq]; kernel_rfl
theorem c_64 (w : World) (os : OsState) (K : Kont) : segGoT treeTable pw w 11 ann 1 592 (sC w.params os 64) (tC K 64) = some (sC w.params os 80, tC K 80) := by
  rw [PySem.W.Fast.te10295753902157049106, PySem.W.Fast.te14364793385576792824, tC_eq, tC_eq]; kernel_rfl
theorem c_80 (w : World) (os : OsState) (K : Kont) : segGoT treeTable pw w 11 ann 1 592 (sC w.params os 80) (tC K 80) = some (sC w.params os 96, tC K 96) := by
  rw [PySem.W.Fast.te10295753902157049106, PySem.W.Fast.te14364793385576792824, tC_eq, tC_eq]; kernel_rfl
theorem c_96 (w : World) (os : OsState) (K : Kont) : segGoT treeTable pw w 11 ann 1 592 (sC w.params os 96) (tC K 96) = some (sC w.params os 112, tC K 112) := by
  rw [PySem.W.Fast.te10295753902157049106, PySem.W.Fast.te14364793385576792824, tC_eq, tC_eq]; kernel_rfl
theorem c_112 (w : World) (os : OsState) (K : Kont) : segGoT treeTable pw w 11 ann 1 592 (sC w.params os 112) (tC K 112) = some (sC w.params os 128, tC K 128) := by
  rw [PySem.W.Fast.te10295753902157049106, PySem.W.Fast.te14364793385576792824, tC_eq, tC_eq]; kernel_rfl
theorem c_128 (w : World) (os : OsState) (K : Kont) : segGoT treeTable pw w 11 ann 1 592 (sC w.params os 128) (tC K 128) = some (sC w.params os 144, tC K 144) := by
  rw [PySem.W.Fast.te10295753902157049106, PySem.W.Fast.te14364793385576792824, tC_eq, tC_eq]; kernel_rfl
theorem c_144 (w : World) (os : OsState) (K : Kont) : segGoT treeTable pw w 11 ann 1 592 (sC w.params os 144) (tC K 144) = some (sC w.params os 160, tC K 160) := by
  rw [PySem.W.Fast.te10295753902157049106, PySem.W.Fast.te14364793385576792824, tC_eq, tC_eq]; kernel_rfl
theorem c_160 (w : World) (os : OsState) (K : Kont) : segGoT treeTable pw w 11 ann 1 592 (sC w.params os 160) (tC K 160) = some (sC w.params os 176, tC K 176) := by
  rw [PySem.W.Fast.te10295753902157049106, PySem.W.Fast.te14364793385576792824, tC_eq, tC_eq]; kernel_rfl
theorem c_176 (w : World) (os : OsState) (K : Kont) : segGoT treeTable pw w 11 ann 1 592 (sC w.params os 176) (tC K 176) = some (sC w.params os 192, tC K 192) := by
  rw [PySem.W.Fast.te10295753902157049106, PySem.W.Fast.te14364793385576792824, tC_eq, tC_eq]; kernel_rfl
theorem c_192 (w : World) (os : OsState) (K : Kont) : segGoT treeTable pw w 11 ann 1 592 (sC w.params os 192) (tC K 192) = some (sC w.params os 208, tC K 208) := by
  rw [PySem.W.Fast.te10295753902157049106, PySem.W.Fast.te14364793385576792824, tC_eq, tC_eq]; kernel_rfl
theorem c_208 (w : World) (os : OsState) (K : Kont) : segGoT treeTable pw w 11 ann 1 592 (sC w.params os 208) (tC K 208) = some (sC w.params os 224, tC K 224) := by
  rw [PySem.W.Fast.te10295753902157049106, PySem.W.Fast.te14364793385576792824, tC_eq, tC_eq]; kernel_rfl
theorem c_224 (w : World) (os : OsState) (K : Kont) : segGoT treeTable pw w 11 ann 1 592 (sC w.params os 224) (tC K 224) = some (sC w.params os 240, tC K 240) := by
  rw [PySem.W.Fast.te10295753902157049106, PySem.W.Fast.te14364793385576792824, tC_eq, tC_eq]; kernel_rfl
theorem c_240 (w : World) (os : OsState) (K : Kont) : segGoT treeTable pw w 11 ann 1 592 (sC w.params os 240) (tC K 240) = some (sC w.params os 256, tC K 256) := by
  rw [PySem.W.Fast.te10295753902157049106, PySem.W.Fast.te14364793385576792824, tC_eq, tC_eq]; kernel_rfl
theorem h_0 (w : World) (os : OsState) (K : Kont) : segGoT treeTable pw w 11 ann 1 765 (sH w.params os 0) (tH K 0) = some (sH w.params os 17, tH K 17) := by
  rw [PySem.W.Fast.te10295753902157049106, PySem.W.Fast.te14364793385576792824, tH_eq, tH_eq]; kernel_rfl
theorem h_17 (w : World) (os : OsState) (K : Kont) : segGoT treeTable pw w 11 ann 1 765 (sH w.params os 17) (tH K 17) = some (sH w.params os 34, tH K 34) := by
  rw [PySem.W.Fast.te10295753902157049106, PySem.W.Fast.te14364793385576792824, tH_eq, tH_eq]; kernel_rfl
theorem h_34 (w : World) (os : OsState) (K : Kont) : segGoT treeTable pw w 11 ann 1 765 (sH w.params os 34) (tH K 34) = some (sH w.params os 51, tH K 51) := by
  rw [PySem.W.Fast.te10295753902157049106, PySem.W.Fast.te14364793385576792824, tH_eq, tH_eq]; kernel_rfl
theorem h_51 (w : World) (os : OsState) (K : Kont) : segGoT treeTable pw w 11 ann 1 720 (sH w.params os 51) (tH K 51) = some (sH w.params os 67, tH K 67) := by
  rw [PySem.W.Fast.te10295753902157049106, PySem.W.Fast.te14364793385576792824, tH_eq, tH_eq]; kernel_rfl
theorem b_0 (w : World) (os : OsState) (K : Kont) : segGoT treeTable pw w 11 ann 1 720 (sB w.params os 0) (tB K 0) = some (sB w.params os 16, tB K 16) := by
  rw [PySem.W.Fast.te10295753902157049106, PySem.W.Fast.te14364793385576792824, tB_eq, tB_eq]; kernel_rfl
theorem b_16 (w : World) (os : OsState) (K : Kont) : segGoT treeTable pw w 11 ann 1 720 (sB w.params os 16) (tB K 16) = some (sB w.params os 32, tB K 32) := by
  rw [PySem.W.Fast.te10295753902157049106, PySem.W.Fast.te14364793385576792824, tB_eq, tB_eq]; kernel_rfl
theorem b_32 (w : World) (os : OsState) (K : Kont) : segGoT treeTable pw w 11 ann 1 720 (sB w.params os 32) (tB K 32) = some (sB w.params os 48, tB K 48) := by
  rw [PySem.W.Fast.te10295753902157049106, PySem.W.Fast.te14364793385576792824, tB_eq, tB_eq]; kernel_rfl
theorem b_48 (w : World) (os : OsState) (K : Kont) : segGoT treeTable pw w 11 ann 1 720 (sB w.params os 48) (tB K 48) = some (sB w.params os 64, tB K 64) := by
  rw [PySem.W.Fast.te10295753902157049106, PySem.W.Fast.te14364793385576792824, tB_eq, tB_eq]; kernel_rfl
theorem b_64 (w : World) (os : OsState) (K : Kont) : segGoT treeTable pw w 11 ann 1 720 (sB w.params os 64) (tB K 64) = some (sB w.params os 80, tB K 80) := by
  rw [PySem.W.Fast.te10295753902157049106, PySem.W.Fast.te14364793385576792824, tB_eq, tB_eq]; kernel_rfl
theorem b_80 (w : World) (os : OsState) (K : Kont) : segGoT treeTable pw w 11 ann 1 675 (sB w.params os 80) (tB K 80) = some (sB w.params os 95, tB K 95) := by
  rw [PySem.W.Fast.te10295753902157049106, PySem.W.Fast.te14364793385576792824, tB_eq, tB_eq]; kernel_rfl
def Pc (w : World) : Prop := ∀ os, ∃ n K, n ≤ 60 ∧ segGoT treeTable pw w 11 ann 1 n (s_b w.params os) (piecesOf (slice 2 1) envT bodyC p_b topF) = some (sC w.params os 0, tC K 0) ∧
  segRunT treeTable pw w 11 ann 1 28 (sC w.params os 256) (tC K 256) = some (.next, s_c w.params os, bodyC, p_c)
def Ph (w : World) : Prop := ∀ os, ∃ n K, n ≤ 60 ∧ segGoT treeTable pw w 11 ann 1 n (s_d w.params os) (piecesOf (slice 11 1) envT bodyC p_d topF) = some (sH w.params os 0, tH K 0) ∧
  segRunT treeTable pw w 11 ann 1 18 (sH w.params os 67) (tH K 67) = some (.next, s_e w.params os, bodyC, p_e)
def Pb (w : World) : Prop := ∀ os, ∃ n K, n ≤ 60 ∧ segGoT treeTable pw w 11 ann 1 n (s_f w.params os) (piecesOf (slice 13 1) envT bodyC p_f topF) = some (sB w.params os 0, tB K 0) ∧
  segRunT treeTable pw w 11 ann 1 18 (sB w.params os 95) (tB K 95) = some (.next, s_g w.params os, bodyC, p_g)
theorem Pc_0 (w : World) : Pc ((w.withFollow "special-get-raises" false).withFollow "comprehension-iter-twice" false) := fun os => ⟨52, kOf (segGoT treeTable pw ((w.withFollow "special-get-raises" false).withFollow "comprehension-iter-twice" false) 11 ann 1 52 (s_b (((w.withFollow "special-get-raises" false).withFollow "comprehension-iter-twice" false)).params os) (piecesOf (slice 2 1) envT bodyC p_b topF)), by decide, by rw [PySem.W.Fast.te10295753902157049106, PySem.W.Fast.te14364793385576792824, tC_eq]; kernel_rfl, by rw [PySem.W.Fast.te10110043849684766642, PySem.W.Fast.te10295753902157049106, PySem.W.Fast.te14364793385576792824, tC_eq]; kernel_rfl⟩
theorem Pc_1 (w : World) : Pc ((w.withFollow "special-get-raises" true).withFollow "comprehension-iter-twice" false) := fun os => ⟨52, kOf (segGoT treeTable pw ((w.withFollow "special-get-raises" true).withFollow "comprehension-iter-twice" false) 11 ann 1 52 (s_b (((w.withFollow "special-get-raises" true).withFollow "comprehension-iter-twice" false)).params os) (piecesOf (slice 2 1) envT bodyC p_b topF)), by decide, by rw [PySem.W.Fast.te10295753902157049106, PySem.W.Fast.te14364793385576792824, tC_eq]; kernel_rfl, by rw [PySem.W.Fast.te10110043849684766642, PySem.W.Fast.te10295753902157049106, PySem.W.Fast.te14364793385576792824, tC_eq]; kernel_rfl⟩
theorem Pc_2 (w : World) : Pc ((w.withFollow "special-get-raises" false).withFollow "comprehension-iter-twice" true) := fun os => ⟨42, kOf (segGoT treeTable pw ((w.withFollow "special-get-raises" false).withFollow "comprehension-iter-twice" true) 11 ann 1 42 (s_b (((w.withFollow "special-get-raises" false).withFollow "comprehension-iter-twice" true)).params os) (piecesOf (slice 2 1) envT bodyC p_b topF)), by decide, by rw [PySem.W.Fast.te10295753902157049106, PySem.W.Fast.te14364793385576792824, tC_eq]; kernel_rfl, by rw [PySem.W.Fast.te10110043849684766642, PySem.W.Fast.te10295753902157049106, PySem.W.Fast.te14364793385576792824, tC_eq]; kernel_rfl⟩
theorem Pc_3 (w : World) : Pc ((w.withFollow "special-get-raises" true).withFollow "comprehension-iter-twice" true) := fun os => ⟨42, kOf (segGoT treeTable pw ((w.withFollow "special-get-raises" true).withFollow "comprehension-iter-twice" true) 11 ann 1 42 (s_b (((w.withFollow "special-get-raises" true).withFollow "comprehension-iter-twice" true)).params os) (piecesOf (slice 2 1) envT bodyC p_b topF)), by decide, by rw [PySem.W.Fast.te10295753902157049106, PySem.W.Fast.te14364793385576792824, tC_eq]; kernel_rfl, by rw [PySem.W.Fast.te10110043849684766642, PySem.W.Fast.te10295753902157049106, PySem.W.Fast.te14364793385576792824, tC_eq]; kernel_rfl⟩
theorem Pc_all : ∀ w, Pc w := byRow2 "comprehension-iter-twice" (byRow2 "special-get-raises" (P := fun w => Pc (w.withFollow "comprehension-iter-twice" false)) Pc_0 Pc_1) (byRow2 "special-get-raises" (P := fun w => Pc (w.withFollow "comprehension-iter-twice" true)) Pc_2 Pc_3)
theorem Ph_0 (w : World) : Ph (w.withFollow "special-get-raises" false) := fun os => ⟨44, kOf (segGoT treeTable pw (w.withFollow "special-get-raises" false) 11 ann 1 44 (s_d ((w.withFollow "special-get-raises" false)).params os) (piecesOf (slice 11 1) envT bodyC p_d topF)), by decide, by rw [PySem.W.Fast.te10295753902157049106, PySem.W.Fast.te14364793385576792824, tH_eq]; kernel_rfl, by rw [PySem.W.Fast.te10110043849684766642, PySem.W.Fast.te10295753902157049106, PySem.W.Fast.te14364793385576792824, tH_eq]; kernel_rfl⟩
theorem Ph_1 (w : World) : Ph (w.withFollow "special-get-raises" true) := fun os => ⟨44, kOf (segGoT treeTable pw (w.withFollow "special-get-raises" true) 11 ann 1 44 (s_d ((w.withFollow "special-get-raises" true)).params os) (piecesOf (slice 11 1) envT bodyC p_d topF)), by decide, by rw [PySem.W.Fast.te10295753902157049106, PySem.W.Fast.te14364793385576792824, tH_eq]; kernel_rfl, by rw [PySem.W.Fast.te10110043849684766642, PySem.W.Fast.te10295753902157049106, PySem.W.Fast.te14364793385576792824, tH_eq]; kernel_rfl⟩
theorem Ph_all : ∀ w, Ph w := byRow2 "special-get-raises" Ph_0 Ph_1
theorem Pb_0 (w : World) : Pb (w.withFollow "special-get-raises" false) := fun os => ⟨10, kOf (segGoT treeTable pw (w.withFollow "special-get-raises" false) 11 ann 1 10 (s_f ((w.withFollow "special-get-raises" false)).params os) (piecesOf (slice 13 1) envT bodyC p_f topF)), by decide, by rw [PySem.W.Fast.te10295753902157049106, PySem.W.Fast.te14364793385576792824, tB_eq]; kernel_rfl, by rw [PySem.W.Fast.te10110043849684766642, PySem.W.Fast.te10295753902157049106, PySem.W.Fast.te14364793385576792824, tB_eq]; kernel_rfl⟩
theorem Pb_1 (w : World) : Pb (w.withFollow "special-get-raises" true) := fun os => ⟨10, kOf (segGoT treeTable pw (w.withFollow "special-get-raises" true) 11 ann 1 10 (s_f ((w.withFollow "special-get-raises" true)).params os) (piecesOf (slice 13 1) envT bodyC p_f topF)), by decide, by rw [PySem.W.Fast.te10295753902157049106, PySem.W.Fast.te14364793385576792824, tB_eq]; kernel_rfl, by rw [PySem.W.Fast.te10110043849684766642, PySem.W.Fast.te10295753902157049106, PySem.W.Fast.te14364793385576792824, tB_eq]; kernel_rfl⟩
theorem Pb_all : ∀ w, Pb w := byRow2 "special-get-raises" Pb_0 Pb_1
theorem h_h0 (w : World) : ∀ os, segRunT treeTable pw (w.withFollow "special-get-raises" false) 11 ann 1 203 (s_g (w.withFollow "special-get-raises" false).params os) (piecesOf (slice 14 4) envT bodyC p_g topF) = some (.next, s_h (w.withFollow "special-get-raises" false).params os, bodyC, p_h) := by
  intro os; rw [PySem.W.Fast.te10110043849684766642, PySem.W.Fast.te14364793385576792824]; kernel_rfl
theorem h_h1 (w : World) : ∀ os, segRunT treeTable pw (w.withFollow "special-get-raises" true) 11 ann 1 203 (s_g (w.withFollow "special-get-raises" true).params os) (piecesOf (slice 14 4) envT bodyC p_g topF) = some (.next, s_h (w.withFollow "special-get-raises" true).params os, bodyC, p_h) := by
  intro os; rw [PySem.W.Fast.te10110043849684766642, PySem.W.Fast.te14364793385576792824]; kernel_rfl
theorem h_h (w : World) (os : OsState) : segRunT treeTable pw w 11 ann 1 203 (s_g w.params os) (piecesOf (slice 14 4) envT bodyC p_g topF) = some (.next, s_h w.params os, bodyC, p_h) :=
  byRow2 "special-get-raises" (P := fun w => ∀ os, segRunT treeTable pw w 11 ann 1 203 (s_g w.params os) (piecesOf (slice 14 4) envT bodyC p_g topF) = some (.next, s_h w.params os, bodyC, p_h)) h_h0 h_h1 w os
end Mine
end
section
open PySem PySem.W PyProof.Rows
set_option maxRecDepth 100000
set_option maxHeartbeats 0
set_option linter.unusedVariables false
namespace Mine
theorem seg_ex {w : World} {n N : Nat} {s s' : SharedT} {t t' : Thread} {r : Flow × Shared × Code × Pos} (h : segGoT treeTable pw w 11 ann 1 n s t = some (s', t')) (k : segRun treeTable pw w 11 ann 1 N s'.abs t' = some r) :
    segRun treeTable pw w 11 ann 1 (n + N) s.abs t = some r := seg_go (segGo_of h) k
theorem run_c (w : World) (os : OsState) : ∃ N, N ≤ 9600 ∧ segRun treeTable pw w 11 ann 1 N (s_b w.params os).abs (piecesOf (slice 2 1) envT bodyC p_b topF) = some (.next, (s_c w.params os).abs, bodyC, p_c) := by
  obtain ⟨n, K, hn, h1, h2⟩ := Pc_all w os
  refine ⟨_, ?_, seg_ex h1 (seg_ex (c_0 w os K) (seg_ex (c_16 w os K) (seg_ex (c_32 w os K) (seg_ex (c_48 w os K) (seg_ex (c_64 w os K) (seg_ex (c_80 w os K) (seg_ex (c_96 w os K) (seg_ex (c_112 w os K) (seg_ex (c_128 w os K) (seg_ex (c_144 w os K) (seg_ex (c_160 w os K) (seg_ex (c_176 w os K) (seg_ex (c_192 w os K) (seg_ex (c_208 w os K) (seg_ex (c_224 w os K) (seg_ex (c_240 w os K) (segRun_of h2)))))))))))))))))⟩
  omega
theorem run_h (w : World) (os : OsState) : ∃ N, N ≤ 3200 ∧ segRun treeTable pw w 11 ann 1 N (s_d w.params os).abs (piecesOf (slice 11 1) envT bodyC p_d topF) = some (.next, (s_e w.params os).abs, bodyC, p_e) := by
  obtain ⟨n, K, hn, h1, h2⟩ := Ph_all w os
  refine ⟨_, ?_, seg_ex h1 (seg_ex (h_0 w os K) (seg_ex (h_17 w os K) (seg_ex (h_34 w os K) (seg_ex (h_51 w os K) (segRun_of h2)))))⟩
  omega
theorem run_b (w : World) (os : OsState) : ∃ N, N ≤ 4400 ∧ segRun treeTable pw w 11 ann 1 N (s_f w.params os).abs (piecesOf (slice 13 1) envT bodyC p_f topF) = some (.next, (s_g w.params os).abs, bodyC, p_g) := by
  obtain ⟨n, K, hn, h1, h2⟩ := Pb_all w os
  refine ⟨_, ?_, seg_ex h1 (seg_ex (b_0 w os K) (seg_ex (b_16 w os K) (seg_ex (b_32 w os K) (seg_ex (b_48 w os K) (seg_ex (b_64 w os K) (seg_ex (b_80 w os K) (segRun_of h2)))))))⟩
  omega
theorem body_eq : behindTheImports pw = slice 0 2 ++ (slice 2 1 ++ (slice 3 8 ++ (slice 11 1 ++ (slice 12 1 ++ (slice 13 1 ++ (slice 14 4 ++ (slice 18 3 ++ (slice 21 1 ++ (slice 22 5 ++ []))))))))) := by kernel_rfl
theorem h_run (w : World) (os : OsState) : topRun treeTable pw w 11 ann 20000 ⟨boot_heap w.params, Array.mk [], boot_drawn, boot_toks, os⟩ (topStub pw) = some ⟨hEnd w.params, #[], {}, 1870, os⟩ := by
  obtain ⟨n1, b1, e1⟩ := run_c w os
  obtain ⟨n2, b2, e2⟩ := run_h w os
  obtain ⟨n3, b3, e3⟩ := run_b w os
  have k := piece_app (segRun_of (h_k w os)) (piece_nil (h_fin w os))
  have k := piece_app (segRun_of (h_j w os)) k
  have k := piece_app (segRun_of (h_i w os)) k
  have k := piece_app (segRun_of (h_h w os)) k
  have k := piece_app e3 k
  have k := piece_app (segRun_of (h_f w os)) k
  have k := piece_app e2 k
  have k := piece_app (segRun_of (h_d w os)) k
  have k := piece_app e1 k
  have k := piece_app (segRun_of (h_b w os)) k
  rw [← body_eq] at k
  have k := go_top (h_pre w os) (piece_block (h_blk w os) k)
  have r := topRun_mono (20000 - (12 + (1 + (38 + 1 + (n1 + (132 + 1 + (n2 + (24 + 1 + (n3 + (203 + (53 + 1 + (323 + 1 + (130 + 1 + 2))))))))))))) _ _ _ _ k
  rw [Nat.add_sub_cancel' (by omega)] at r
  exact r
theorem h_open : ∀ w : World, (fencedOpening treeTable pw w 36000).map (fun s => (s.heap, s.gens, s.drawn, s.toks)) = some (boot_heap w.params, Array.mk [], boot_drawn, boot_toks) := fun w => by
  obtain ⟨s, hs, hv⟩ := Option.map_eq_some_iff.mp (h_opn w)
  have m := importEnds_mono (36000 - 600) _ _ _ _ hs
  unfold fencedOpening
  rw [show 600 + (36000 - 600) = 36000 from rfl] at m
  rw [m]
  show ((fenceModules? pw s)).map _ = _
  rw [h_fen s]
  exact congrArg some hv
end Mine
end
section
open PySem PySem.W PyProof.Rows
set_option maxRecDepth 100000
set_option maxHeartbeats 0
set_option linter.unusedVariables false
namespace Mine
noncomputable section
def viewQ : Program := { pw with main := { pw.main with body := [nthS 0 mainB, nthS 1 mainB, nthS 2 mainB, nthS 3 mainB, nthS 4 mainB, nthS 5 mainB, nthS 6 mainB, nthS 7 mainB, nthS 8 mainB, nthS 9 mainB, nthS 14 mainB, nthS 15 mainB, nthS 16 mainB, nthS 21 mainB, nthS 23 mainB, nthS 24 mainB, nthS 25 mainB, nthS 26 mainB] } }
def looseN : List Str := [Str.ofString "_QUOPRI_MAP", Str.ofString "_QUOPRI_HEADER_MAP", Str.ofString "_QUOPRI_BODY_MAP", Str.ofString "ascii_letters", Str.ofString "hexdigits", Str.ofString "_QUOPRI_BODY_ENCODE_MAP", Str.ofString "decode"]
def litsV : List (Str × WData) := [(Str.ofString "ascii_letters", .str (Str.ofString "abcdefghijklmnopqrstuvwxyzABCDEFGHIJKLMNOPQRSTUVWXYZ")), (Str.ofString "hexdigits", .str (Str.ofString "0123456789abcdefABCDEF"))]
theorem kk_a : ∀ P, KKa = (KK P).map (·.1) := fun _ => by kernel_rfl
def hookK : Hook := kmHook KK KKa kk_a [108]
abbrev lawR : OpenLaw := PySem.Challenge.rw_rs0059_01
def xt (s : Shared) : Bool := xlAt viewQ litsV s && recOk (RowW.records lawR.row.toRowW) s
abbrev sEnd (w : World) (os : OsState) : Shared := ⟨hEnd w.params, #[], {}, 1870, os⟩
theorem l_1 (w : World) (os : OsState) : (staticsOk (importedModules pw.main.body) (boot_heap w.params) (hEnd w.params) && namesBound pw (hEnd w.params) && gensDone (sEnd w os) && laidKept (boot_heap w.params) (hEnd w.params)) = true := by kernel_rfl
theorem l_3 (w : World) (os : OsState) : Hook.obs hookK (sEnd w os) = Hook.val hookK w := by kernel_rfl
theorem l_2 (w : World) (os : OsState) : openSeen viewQ looseN (importedModules pw.main.body) xt true (sEnd w os) = openGood viewQ looseN := by
  rw [PySem.W.Fast.te4187177175401517315]; kernel_rfl
end
end Mine
end
section
open PySem PySem.W PyProof.Rows
set_option maxRecDepth 100000
set_option maxHeartbeats 0
set_option linter.unusedVariables false
namespace Mine
theorem leftMine : LeftO pw viewQ looseN xt (Hook.obs hookK) (Hook.val hookK) 36000 :=
  LeftO.of_pieces h_open h_size h_run (by decide) fun w => by
    funext os
    exact Prod.ext (l_1 w os) (Prod.ext (l_2 w os) (l_3 w os))
theorem said : lawR.wellSaid = true := by kernel_rfl
end Mine
end
section
open PySem PySem.W PyProof.Rows
set_option maxRecDepth 100000
set_option maxHeartbeats 0
set_option linter.unusedVariables false
namespace Mine
def lawD : DefRec := { name := Str.ofString "law", params := fdArgs (nthS 26 mainB), body := fdBody (nthS 26 mainB), scope := fdScope (nthS 26 mainB), pos := ⟨131, 0, 149, 70⟩ }
theorem hd (walk : WalkO viewQ looseN (XL viewQ litsV) (Hook.says hookK) lawR.row.toRowW lawD [] fun f vs => PySem.call f vs) : PySem.Challenge.rw_rs0059_01.Holds :=
  holds_law said fun ok => holds_open (r := lawR.row) (d := lawD) (kwd := []) leftMine (Hook.of hookK) (Hook.keeps hookK) (fun s e => xl_of s (Bool.and_eq_true_iff.mp e).1) XL.keeps (by kernel_rfl) (by kernel_rfl) (by kernel_rfl)
    (fun s e => recFacts_of (Bool.and_eq_true_iff.mp e).2) (by kernel_rfl) ok (by kernel_rfl) ⟨rfl, rfl, rfl, rfl, rfl, by decide +kernel⟩ ⟨[.list []], by decide +kernel, by decide +kernel⟩ walk
end Mine
end
section
open PySem PySem.W PySem.Calls PyProof.Rows
set_option maxRecDepth 100000
set_option maxHeartbeats 0
namespace Mine
def hexC (d : Nat) : Nat := if d < 10 then 48 + d else 55 + d
def quoteL (c : Nat) : List Nat := [61, hexC (c / 16), hexC (c % 16)]
def isSp (c : Nat) : Bool := c == 10 || c == 9 || c == 13 || c == 32 || c == 34 || c == 92
def wordL (c mn : Nat) : List Nat :=
  if mn = 0 then (if isSp c then [92] else []) ++ [c, 10]
  else if mn = 1 then [34] ++ (if c = 34 ∨ c = 92 then [92] else []) ++ [c, 34]
  else if mn = 2 then [92, c, 32] else [34, 92, c, 34, 13, 10, 9]
theorem quote_at {R : Str → Prop} {l : List Str} {c : Nat} (hc : c < 256) (hl : decide (∀ i : _root_.Fin 256, l.getD i Str.empty = ⟨(quoteL i).toArray⟩) = true) (h : R ⟨(quoteL c).toArray⟩) : R (l.getD (c : Int).toNat Str.empty) := by
  have := of_decide_eq_true hl ⟨c, hc⟩
  rw [Int.toNat_natCast, this]
  exact h
theorem word0_at : decide (∀ c : _root_.Fin 256, Txt.mul (Str.ofString "\\") (if (!(Builtin.Str.occurrences (Str.ofString "\n\t\x0d \"\\") { cps := #[c.1] } 0 (Str.ofString "\n\t\x0d \"\\").length 1).isEmpty) = true then 1 else 0) ++ { cps := #[c.1] } ++ Str.ofString "\n" = ⟨(wordL c 0).toArray⟩) = true := by decide +kernel
theorem word1_at : decide (∀ c : _root_.Fin 256, Str.ofString "\"" ++ Txt.mul (Str.ofString "\\") (if (!(Builtin.Str.occurrences (Str.ofString "\"\\") { cps := #[c.1] } 0 (Str.ofString "\"\\").length 1).isEmpty) = true then 1 else 0) ++ { cps := #[c.1] } ++ Str.ofString "\"" = ⟨(wordL c 1).toArray⟩) = true := by decide +kernel
theorem word2_at : decide (∀ c : _root_.Fin 256, Str.ofString "\\" ++ { cps := #[c.1] } ++ Str.ofString " " = ⟨(wordL c 2).toArray⟩) = true := by decide +kernel
theorem word3_at : decide (∀ c : _root_.Fin 256, Str.ofString "\"\\" ++ { cps := #[c.1] } ++ Str.ofString "\"\x0d\n\t" = ⟨(wordL c 3).toArray⟩) = true := by decide +kernel
section
variable {w : World} {A A₀ : Around} {s : Shared} {base h₀ : Heap} {outer : List Env} {L : Addr} {m mg mb : Str → Option Value} {env : Env} {news : List (Addr × Obj)} {R : Result → Shared → Prop} {p : Program} {loose : List Str} {mean : ExcName → Option Value}
theorem quote_K (B : Below A₀ base outer h₀) (F : Fr h₀ L s.heap m) (X₀ : (KK w.params).In h₀) (N : News h₀ L s.heap news) (T : Top p loose mean mg mb h₀) (hA : A.frames = some (env :: outer)) (hf : env.frame = some L) (hke : env.scope.kind = .function) (hroom : A.depth < recursionLimit)
    {c : Nat} {tk : Tok} (hc : c < 256)
    (h : ∀ t k h', Fr h₀ L h' m → News h₀ L h' news → R (.ok (.ret (.str ⟨(quoteL c).toArray⟩ t))) { s with heap := h', toks := k }) :
    codeAny (model PySem.Challenge.rw_rs0059_01.row.prog w) A (.call (.ref 51) ⟨[.str ⟨#[c]⟩ tk], []⟩) R s := by
  revert X₀
  k_fill
  intro X₀
  refine code_def B F X₀ N T hA hf hke (by k_is) (by k_is) hroom (BindsTo.of_eq rfl) (locs rfl) ?_ rfl rfl rfl (by decide)
  intro g' L' h' FG' F' N' B' X' T'
  dsimp only
  try k_fold
  repeat' (first | (k_unfold; (try dsimp only)) | walk1 | (dsimp only; walk1) | fail "no step")
  refine quote_at (R := fun x => R (.ok (.ret (.str x _))) _) hc (by decide +kernel) ?_
  exact h _ _ _ (by assumption) (by assumption)
theorem word_K (B : Below A₀ base outer h₀) (F : Fr h₀ L s.heap m) (X₀ : (KK w.params).In h₀) (N : News h₀ L s.heap news) (T : Top p loose mean mg mb h₀) (hA : A.frames = some (env :: outer)) (hf : env.frame = some L) (hke : env.scope.kind = .function) (hroom : A.depth < recursionLimit)
    {c : Nat} {tk tk2 : Tok} {mn : Int} (hc : c < 256) (h0 : 0 ≤ mn) (h4 : mn < 4)
    (h : ∀ t k h', Fr h₀ L h' m → News h₀ L h' news → R (.ok (.ret (.str ⟨(wordL c mn.toNat).toArray⟩ t))) { s with heap := h', toks := k }) :
    codeAny (model PySem.Challenge.rw_rs0059_01.row.prog w) A (.call (.ref 120) ⟨[.str ⟨#[c]⟩ tk, .int mn tk2], []⟩) R s := by
  revert X₀
  k_fill
  intro X₀
  refine code_def B F X₀ N T hA hf hke (by k_is) (by k_is) hroom (BindsTo.of_eq rfl) (locs rfl) ?_ rfl rfl rfl (by decide)
  intro g' L' h' FG' F' N' B' X' T'
  dsimp only
  obtain rfl | rfl | rfl | rfl : mn = 0 ∨ mn = 1 ∨ mn = 2 ∨ mn = 3 := by omega
  all_goals try k_fold
  all_goals repeat' (first | (k_unfold; (try dsimp only)) | walk1 | (dsimp only; walk1) | fail "no step")
  · have e := of_decide_eq_true word0_at ⟨c, hc⟩
    rw [e]; exact h _ _ _ (by assumption) (by assumption)
  · have e := of_decide_eq_true word1_at ⟨c, hc⟩
    rw [e]; exact h _ _ _ (by assumption) (by assumption)
  · have e := of_decide_eq_true word2_at ⟨c, hc⟩
    rw [e]; exact h _ _ _ (by assumption) (fun p hp => (by assumption : News _ _ _ (_ :: news)) p (.tail _ hp))
  · have e := of_decide_eq_true word3_at ⟨c, hc⟩
    rw [e]; exact h _ _ _ (by assumption) (fun p hp => (by assumption : News _ _ _ (_ :: news)) p (.tail _ hp))
end
end Mine
end
section
open PySem PySem.W PySem.Calls PyProof.Rows
open PySem.Builtin PySem.Builtin.ObjectAttr
set_option maxRecDepth 100000
set_option maxHeartbeats 0
namespace Mine
theorem slot_fn_setattr : Slot "function" "__setattr__" "object.__setattr__" :=
  .of (owner := "object") (n := "__setattr__") (by rw [typeLookup_type, builtinLookup_eq_fast]; kernel_rfl) (by decide +kernel) (by decide +kernel) (by decide +kernel)
    (by first | exact .inl (by decide +kernel) | exact .inr (by decide +kernel)) (by rw [isSubtype_type]; kernel_rfl)
theorem slot_fn_getattribute : Slot "function" "__getattribute__" "object.__getattribute__" :=
  .of (owner := "object") (n := "__getattribute__") (by rw [typeLookup_type, builtinLookup_eq_fast]; kernel_rfl) (by decide +kernel) (by decide +kernel) (by decide +kernel)
    (by first | exact .inl (by decide +kernel) | exact .inr (by decide +kernel)) (by rw [isSubtype_type]; kernel_rfl)
theorem fn_no_read : typeLookup (.type "function") (Str.ofString "read") = pure none := by rw [typeLookup_type, builtinLookup_eq_fast]; kernel_rfl
theorem fn_mro : mroOf (.type "function") = pure [.type "function", .type "object"] := by kernel_rfl
theorem fn_passes (self : Value) : refuseLoop self "__setattr__" [.type "function", .type "object"] = pure () := by
  unfold refuseLoop
  simp only [List.forIn_cons]
  kernel_rfl
theorem fn_hasDict : typeHasDict (.type "function") = true := by kernel_rfl

section
variable {prog : Program} {w : World} {A : Around} {E : Value → Shared → Prop} {h : Heap} {g : Array GenState} {d : Drawn} {t : Nat} {os : OsState} {f : Addr} {fd : FuncData} {sl : Array (Option Value)} {v : Value}
def readOnly (v : Value) : Str → Option Value := fun y => if y = Str.ofString "read" then some v else none
theorem setattr_entry {tk : Tok} {Q : PySem.Fin → Shared → Prop} (hx : h.get? f = some ⟨.type "function", none, .func fd, sl⟩)
    (hq : ∀ h' tk' dd, h'.get? f = some ⟨.type "function", some dd, .func fd, sl⟩ → h'.Ns dd (readOnly v) → h.objs.size ≤ dd → (∀ b o, b ≠ f → h.get? b = some o → h'.get? b = some o) → Q (.done (.ret .none)) ⟨h', g, d, tk', os⟩) :
    wpAny (model prog w) A (Builtin.«object.__setattr__» ⟨[.ref f, .str (Str.ofString "read") tk, v], []⟩) Q E ⟨h, g, d, t, os⟩ := by
  unfold Builtin.«object.__setattr__»
  have hp := fn_passes (.ref f)
  have hr := fn_no_read
  repeat ((fail_if_success (with_reducible show wpAny _ _ (nsSet _ _ _) _ _ _)); first | rw [refuse_eq] | (rw [fn_mro]) | (rw [hp]) | (rw [hr]) | (with_reducible refine wpAny_loadPart_at hx ?_) | wp_step)
  have hxs : f ≠ h.objs.size := Nat.ne_of_lt (Heap.lt_size hx)
  have hx₁ : (h.push { cls := .type "dict", data := .dict #[] }).get? f = some ⟨.type "function", none, .func fd, sl⟩ := Heap.get?_push_of_some _ hx
  have hgd : ((h.push { cls := .type "dict", data := .dict #[] }).update f fun o => { cls := o.cls, dict := some h.objs.size, data := o.data, slots := o.slots }).get? h.objs.size
      = some { cls := .type "dict", data := .dict #[] } :=
    (Heap.get?_update_ne _ _ _ _ hxs.symm).trans (Heap.get?_push_at rfl rfl)
  have hnd : ((h.push { cls := .type "dict", data := .dict #[] }).update f fun o => { cls := o.cls, dict := some h.objs.size, data := o.data, slots := o.slots }).Ns h.objs.size (fun _ => none) :=
    ⟨_, #[], _, hgd, rfl, fun e he => absurd he (by simp), fun _ => rfl⟩
  refine wpAny_nsSet1 (Heap.Ns1.of_empty hnd) fun h' hn' hs => ?_
  obtain ⟨oD, esD, epD, hoD, hdD, hcD⟩ := hn'.count (Within.cons (Str.ofString "read") v Within.nil)
  refine wpAny_bind (wpAny_lookBehind hoD (by rw [hdD]; exact pastItsLine_dict (Nat.le_trans hcD (by rw [List.length_cons, List.length_nil, sizeLine_eq]; omega))) ?_)
  wp_walk
  have hx' : h'.get? f = some { cls := .type "function", dict := some h.objs.size, data := .func fd, slots := sl } :=
    (hs.2 f hxs).trans (Heap.get?_update_self _ hx₁ rfl)
  exact hq h' _ _ hx' hn'.ns (Nat.le_refl _) fun b ob hb e => (hs.2 b (Nat.ne_of_lt (Heap.lt_size e))).trans ((Heap.get?_update_ne _ _ _ _ hb).trans (Heap.get?_push_of_some _ e))
theorem setattr_fn {Q : Unit → Shared → Prop} (hx : h.get? f = some ⟨.type "function", none, .func fd, sl⟩)
    (hq : ∀ h' tk' dd, h'.get? f = some ⟨.type "function", some dd, .func fd, sl⟩ → h'.Ns dd (readOnly v) → h.objs.size ≤ dd → (∀ b o, b ≠ f → h.get? b = some o → h'.get? b = some o) → Q () ⟨h', g, d, tk', os⟩) :
    wpAny (model prog w) A (setAttr (.ref f) (Str.ofString "read") v) Q E ⟨h, g, d, t, os⟩ := by
  have f3 := slot_fn_setattr.bind (.ref f)
  have hl := slot_fn_setattr.lookup
  unfold setAttr callSpecial? specialOf
  repeat (any_goals (first | assumption | (with_reducible refine wpAny_loadPart_at hx ?_) | (rw [hl]) | wp_step))
  refine codeAny_call_builtin slot_fn_setattr.plain PySem.F.store_object.entry (slot_fn_setattr.check _ _ _ _ _ _ _ _ ⟨_, hx, rfl⟩ (PySem.F.store_object.args _ _ _) (setattr_entry hx fun h' tk' dd h1 h2 h3 h4 => ?_))
  repeat (any_goals (first | assumption | wp_step))
  exact hq h' tk' dd h1 h2 h3 h4
theorem fn_no_getattr : typeLookup (.type "function") (Str.ofString "__getattr__") = pure none := by rw [typeLookup_type, builtinLookup_eq_fast]; kernel_rfl
theorem getattribute_entry {tk : Tok} {dd : Addr} {Q : PySem.Fin → Shared → Prop} (hx : h.get? f = some ⟨.type "function", some dd, .func fd, sl⟩) (hn : h.Ns dd (readOnly v))
    (hq : ∀ tk', Q (.done (.ret v)) ⟨h, g, d, tk', os⟩) :
    wpAny (model prog w) A (Builtin.«object.__getattribute__» ⟨[.ref f, .str (Str.ofString "read") tk], []⟩) Q E ⟨h, g, d, t, os⟩ := by
  unfold Builtin.«object.__getattribute__»
  have hr := fn_no_read
  repeat ((fail_if_success (with_reducible show wpAny _ _ (nsGet _ _) _ _ _)); first | (rw [fn_mro]) | (rw [hr]) | (with_reducible refine wpAny_loadPart_at hx ?_) | wp_step)
  refine wpAny_nsGet hn ?_
  simp only [readOnly, if_true]
  wp_walk
  exact hq _
theorem getMethod_fn {dd r : Addr} {pl : Sem Bool} {Q : Value × List Value → Shared → Prop} (hx : h.get? f = some ⟨.type "function", some dd, .func fd, sl⟩) (hn : h.Ns dd (readOnly (.ref r)))
    (hq : ∀ tk', Q (.ref r, []) ⟨h, g, d, tk', os⟩) :
    wpAny (model prog w) A (getMethod (.ref f) (Str.ofString "read") pl) Q E ⟨h, g, d, t, os⟩ := by
  have f3 := slot_fn_getattribute.bind (.ref f)
  have hl := slot_fn_getattribute.lookup
  have hr := fn_no_read
  have hg := fn_no_getattr
  unfold getMethod specialOf
  repeat (any_goals (first | assumption | (with_reducible refine wpAny_loadPart_at hx ?_) | (rw [hl]) | rw [hr] | rw [hg] | wp_step))
  refine codeAny_call_builtin slot_fn_getattribute.plain PySem.F.entry_object_getattribute (slot_fn_getattribute.check _ _ _ _ _ _ _ _ ⟨_, hx, rfl⟩ (PySem.F.args_object_getattribute_2 _ _) (getattribute_entry hx hn fun tk' => ?_))
  dsimp only
  repeat (any_goals (first | assumption | wp_step))
  exact hq tk'
end
end Mine
end
section
open PySem PySem.W PySem.Calls PyProof.Rows
set_option maxRecDepth 100000
set_option maxHeartbeats 0
namespace Mine
def DictIs (od : Obj) (m : Str → Option Value) : Prop := ∃ es ep, od.data = .dict es ep ∧ StrKeys es ∧ ∀ name, nsFind es name = m name
theorem DictIs.ns {h : Heap} {a : Addr} {od : Obj} {m : Str → Option Value} (D : DictIs od m) (e : h.get? a = some od) : h.Ns a m := let ⟨es, ep, x⟩ := D; ⟨od, es, ep, e, x⟩
theorem setattr_fnK {prog : Program} {w : World} {A : Around} {E : Value → Shared → Prop} {s : Shared} {h₀ : Heap} {L f : Addr} {m : Str → Option Value} {news : List (Addr × Obj)} {gU : Obj → List (Addr × Obj)} {fd : FuncData} {sl : Array (Option Value)} {v : Value} {Q : Unit → Shared → Prop}
    (F : Fr h₀ L s.heap m) (N : News h₀ L s.heap news) (U : UpdF f ⟨.type "function", none, .func fd, sl⟩ news gU)
    (h : ∀ dd od h' tk, Fr h₀ L h' m → News h₀ L h' ((dd, od) :: gU ⟨.type "function", some dd, .func fd, sl⟩) → DictIs od (readOnly v) → (∀ p ∈ news, p.1 < dd) → Q () { s with heap := h', toks := tk }) :
    wpAny (model prog w) A (setAttr (.ref f) (Str.ofString "read") v) Q E s := by
  obtain ⟨own, rest, rfl, hg, h1, h2⟩ := U.split
  have hm := N _ (List.mem_append_right _ (.head _))
  refine setattr_fn hm.1 fun h' tk dd e1 e2 e3 e4 => ?_
  obtain ⟨od, es, ep, eo, r⟩ := e2
  obtain ⟨oL, a1, a2, hL, a3⟩ := F.ns
  have hlt : L < s.heap.objs.size := Heap.lt_size hL
  have hne : ∀ b o, h₀.get? b = some o → b ≠ f := fun b o e q => by rw [q, hm.2.2] at e; cases e
  refine h dd od h' tk ⟨⟨oL, a1, a2, e4 L _ (Ne.symm hm.2.1) hL, a3⟩, fun b o e => e4 b o (hne b o e) (F.keep b o e), F.above⟩ ?_ ⟨es, ep, r⟩ (fun p hp => Nat.lt_of_lt_of_le (Heap.lt_size (N p hp).1) e3)
  have old : ∀ p ∈ own ++ (f, (⟨.type "function", none, .func fd, sl⟩ : Obj)) :: rest, p.1 ≠ f → h'.get? p.1 = some p.2 ∧ p.1 ≠ L ∧ h₀.get? p.1 = none := fun p hp hn => ⟨e4 _ _ hn (N p hp).1, (N p hp).2.1, (N p hp).2.2⟩
  intro p hp
  rcases List.mem_cons.mp hp with rfl | hp
  · refine ⟨eo, Nat.ne_of_gt (Nat.lt_of_lt_of_le hlt e3), ?_⟩
    cases q : h₀.get? dd with
    | none => rfl
    | some o => exact absurd (Nat.lt_of_lt_of_le (Heap.lt_size (F.keep _ _ q)) e3) (Nat.lt_irrefl _)
  · rw [hg] at hp
    rcases List.mem_append.mp hp with hp | hp
    · exact old p (List.mem_append_left _ hp) (h1 p hp)
    · rcases List.mem_cons.mp hp with rfl | hp
      · exact ⟨e1, hm.2⟩
      · exact old p (List.mem_append_right _ (.tail _ hp)) (h2 p hp)
end Mine
end
section
open PySem PySem.W PySem.Calls PyProof.Rows
set_option maxRecDepth 100000
set_option maxHeartbeats 0
namespace Mine
def nthBody (k : Nat) (b : List Stmt) : List Stmt := match b.drop k with
  | .FunctionDef _ _ bd _ _ _ _ _ _ _ :: _ => bd
  | _ => []
def nthArgs (k : Nat) (b : List Stmt) : Arguments := match b.drop k with
  | .FunctionDef _ a _ _ _ _ _ _ _ _ :: _ => a
  | _ => default
def nthScope (k : Nat) (b : List Stmt) : Scope := match b.drop k with
  | .FunctionDef _ _ _ _ _ _ sc _ _ _ :: _ => sc
  | _ => default
def tapeBody : List Stmt := nthBody 23 PySem.Challenge.pw_rs0059_01.main.body
def rdBody : List Stmt := nthBody 1 tapeBody
def rdParams : Arguments := nthArgs 1 tapeBody
def rdScope : Scope := nthScope 1 tapeBody
def rdQual : Str := Str.ofString "_law_tape" ++ ".<locals>." ++ Str.ofString "read"
abbrev readFn (cT cP rdC : Addr) (doc pm ctv : Value) : Obj := fnMade (Str.ofString "read") rdQual rdParams rdBody rdScope [(Str.ofString "tape", cT), (Str.ofString "place", cP)] doc pm rdC ctv
abbrev lexDict (P : Params) (k1 k2 k3 k4 wt lnt : Tok) (ln : Int) (stF pushA : Addr) : Obj := dictOf
  [⟨PyData.keyHash P (Str.ofString "lineno"), .str (Str.ofString "lineno") k1, .int ln lnt⟩, ⟨PyData.keyHash P (Str.ofString "instream"), .str (Str.ofString "instream") k2, .ref stF⟩,
   ⟨PyData.keyHash P (Str.ofString "whitespace"), .str (Str.ofString "whitespace") k3, .str (Str.ofString "\n\t\x0d ") wt⟩, ⟨PyData.keyHash P (Str.ofString "pushback"), .str (Str.ofString "pushback") k4, .ref pushA⟩] 4
/-- the addresses and the parts that no call turns -/
structure RdA where
  (pushA lexA lexD stD stF rdF rdC placeA tapeA cT cP : Nat)
  (od oc oT oP : Obj)
  (fd : FuncData) (sl : Array (Option Value))
  (doc pm ctv : Value)
  (k1 k2 k3 k4 wt : Tok)
structure RdA.Ok (a : RdA) : Prop where
  dD : DictIs a.od (readOnly (.ref a.rdF))
  dC : ∃ vs t, a.oc.data = .fields vs ∧ vs[1]? = some (.str rdQual t)
  dT : a.oT.data = .cell (some (.ref a.tapeA))
  dP : a.oP.data = .cell (some (.ref a.placeA))
  o1 : a.cP < a.cT
  o2 : a.cT < a.tapeA
  o3 : a.tapeA < a.placeA
  o4 : a.placeA < a.rdC
  o5 : a.rdC < a.rdF
  o6 : a.rdF < a.stF
  o7 : a.stF < a.stD
  o8 : a.stD < a.lexD
  o9 : a.lexD < a.lexA
  o10 : a.lexA < a.pushA
/-- the reader's objects: the tape, the place, the line -/
def RdA.objs (a : RdA) (P : Params) (tape : Array Value) (tn : Nat) (pl : Int) (plt : Tok) (pn : Nat) (ln : Int) (lnt : Tok) : List (Addr × Obj) :=
  [(a.lexD, lexDict P a.k1 a.k2 a.k3 a.k4 a.wt lnt ln a.stF a.pushA), (a.placeA, listOf #[.int pl plt] pn), (a.tapeA, listOf tape tn), (a.pushA, listOf #[] 0), (a.lexA, instObj 102 a.lexD), (a.stD, a.od),
   (a.stF, ⟨.type "function", some a.stD, .func a.fd, a.sl⟩), (a.rdF, readFn a.cT a.cP a.rdC a.doc a.pm a.ctv), (a.rdC, a.oc), (a.cT, a.oT), (a.cP, a.oP)]
theorem News.pick {h₀ h : Heap} {L a : Addr} {o : Obj} {big rest : List (Addr × Obj)} (N : News h₀ L h big) (hm : (a, o) ∈ big) (N' : News h₀ L h rest) : News h₀ L h ((a, o) :: rest) := fun p hp => by
  rcases List.mem_cons.mp hp with rfl | hp
  · exact N _ hm
  · exact N' p hp
theorem ne_of_all {news : List (Addr × Obj)} {l d : Nat} (h : ∀ p ∈ news, p.1 < l) (hl : l ≤ d) : ∀ p ∈ news, p.1 ≠ d := fun p hp e => Nat.lt_irrefl d (Nat.lt_of_lt_of_le (e ▸ h p hp) hl)
theorem ne_of_lo {news : List (Addr × Obj)} {d : Nat} (h : ∀ p ∈ news, d < p.1) : ∀ p ∈ news, p.1 ≠ d := fun p hp e => Nat.lt_irrefl d (e ▸ h p hp)
local macro_rules | `(tactic| k_all) => `(tactic| first | exact ne_of_lo (by assumption) | (refine ne_of_all (by assumption) ?_; (try dsimp only); omega))
local macro_rules | `(tactic| k_room) => `(tactic| ((try simp only [depth_under_make, depth_under_kw, depth_in1, depth_deeper, depth_caller]); (try dsimp only); simp only [recursionLimit]; omega))
local macro_rules | `(tactic| walk_at "setAttr ref") => `(tactic| (k_here; (with_reducible show wpAny _ _ (setAttr (Value.ref _) (Str.ofString "read") _) _ _ _); k_dflt (refine' setattr_fnK ?F ?N ?U ?_; (case F => k_asm); (case N => k_asm); (case U => k_updF); k_whole); intro dd' od' h' tk' F' N' D' l1; (try dsimp only at N'); (try k_lt l1); (try k_sweep)))
section
variable {w : World} {A A₀ : Around} {s : Shared} {base h₀ : Heap} {outer : List Env} {L : Addr} {m mg mb : Str → Option Value} {env : Env} {news : List (Addr × Obj)} {R : Result → Shared → Prop} {p : Program} {loose : List Str} {mean : ExcName → Option Value}
theorem tape_K (B : Below A₀ base outer h₀) (F : Fr h₀ L s.heap m) (X₀ : (KK w.params).In h₀) (N : News h₀ L s.heap ((108, tabObj #[]) :: news)) (C : CodeHd base 112 108) (hlo : ∀ p ∈ news, 108 < p.1) (T : Top p loose mean mg mb h₀) (hA : A.frames = some (env :: outer)) (hf : env.frame = some L) (hke : env.scope.kind = .function) (hh : A.handled = none) (hdp : A.depth < 400) (hun : A.units < 100)
    (h : ∀ (a : RdA) D ps plt lnt k h', a.Ok → (∀ p ∈ news, p.1 < a.cP) → 108 < a.cP → a.pushA < D → Fr h₀ L h' m → News h₀ L h' ((D, ({ cls := .type "tuple", data := .seq #[.ref a.tapeA, .ref a.lexA] } : Obj)) :: (a.objs w.params #[] 0 0 plt 0 1 lnt ++ (108, tabObj ps) :: news)) → R (.ok (.ret (.ref D))) { s with heap := h', toks := k }) :
    codeAny (model PySem.Challenge.rw_rs0059_01.row.prog w) A (.call (.ref 113) ⟨[], []⟩) R s := by
  obtain ⟨hnd, dp, fr, gu, un⟩ := A
  cases hh
  cases hA
  replace hdp : dp < 400 := hdp
  replace hun : un < 100 := hun
  revert X₀
  k_fill
  intro X₀
  refine' code_defC B F X₀ N T rfl hf hke ?k6 ?k7 (Nat.lt_trans hdp (by decide)) ?k9 ?kB ?kD ?_ ?c2 ?c3 ?c4
  case k6 => k_is
  case k7 => k_is
  case k9 => exact BindsTo.of_eq rfl
  case kB => exact rfl
  case kD => decide +kernel
  case c2 => exact rfl
  case c3 => exact rfl
  case c4 => exact rfl
  intro g' L' h' tk' cells' FG' F' N' Y' B' X' T' l1
  k_cells Y'
  have C' := C.keeps B'.stays
  have l2 : ∀ p ∈ news, p.1 < L' := fun p hp => l1 p (.tail _ hp)
  have l3 := ltN (l1 _ (.head _))
  dsimp only at l3
  clear l1
  (try simp only [List.cons_append, List.nil_append] at N')
  (try dsimp only); (try k_lift B'); (try k_fold)
  repeat' (first | (k_unfold; (try dsimp only)) | walk1 | (dsimp only; walk1) | fail "no step")
  rename News h₀ L _ _ => kN
  rename DictIs _ _ => kD
  have l4 : ∀ p ∈ news, p.1 < L' + 1 := fun p hp => Nat.lt_succ_of_lt (l2 p hp)
  refine h ⟨_, _, _, _, _, _, _, _, _, _, _, _, _, _, _, _, _, _, _, _, _, _, _, _, _⟩ _ _ _ _ _ _ ⟨kD, ?dC, ?dT, ?dP, ?o1, ?o2, ?o3, ?o4, ?o5, ?o6, ?o7, ?o8, ?o9, ?o10⟩ l4 ?lo ?hi (by assumption) (News.pick kN (by k_mem) (News.pick kN (by k_mem) (News.pick kN (by k_mem) (News.pick kN (by k_mem) (News.pick kN (by k_mem) (News.pick kN (by k_mem) (News.pick kN (by k_mem) (News.pick kN (by k_mem) (News.pick kN (by k_mem) (News.pick kN (by k_mem) (News.pick kN (by k_mem) (News.pick kN (by k_mem) (News.pick kN (by k_mem) ?rest)))))))))))))
  case dC => dsimp only; exact ⟨_, _, by assumption, by with_unfolding_all assumption⟩
  case dT => dsimp only; assumption
  case dP => dsimp only; assumption
  case rest => exact fun p hp => kN p (by repeat (first | exact hp | refine List.Mem.tail _ ?_))
  all_goals (dsimp only; omega)
end
end Mine
end
section
open PySem PySem.W PySem.Calls PyProof.Rows
set_option maxRecDepth 100000
set_option maxHeartbeats 0
namespace Mine
local macro_rules | `(tactic| k_room) => `(tactic| ((try simp only [depth_under_make, depth_under_kw, depth_in1, depth_deeper, depth_caller]); (try dsimp only); simp only [recursionLimit]; omega))
local macro_rules | `(tactic| k_all) => `(tactic| first | assumption | exact ne_of_lo (by assumption) | (refine ne_of_all (by assumption) ?_; (try dsimp only); omega))
local macro_rules | `(tactic| walk_at "eval Name") => `(tactic| (k_here; k_dflt (refine' nameX_F ?N ?c ?m ?d ?_ ?a ?b; (case a => rfl); (case b => rfl); (case N => k_asm); (case c => rfl); (case m => k_mem); (case d => k_asm); k_whole)))
local macro_rules | `(tactic| walk_at "call builtin:str.join") => `(tactic| (k_here; k_dflt (refine' join_listC ?l ?i ?s ?o ?_; (case l => exact News.isList (by k_asm) (by k_mem)); (case i => assumption); (case s => decide +kernel); (case o => assumption)); intro t' k'))
section
variable {w : World} {A A₀ : Around} {s : Shared} {base h₀ : Heap} {outer : List Env} {L : Addr} {m mg mb : Str → Option Value} {env : Env} {news : List (Addr × Obj)} {R : Result → Shared → Prop} {p : Program} {loose : List Str} {mean : ExcName → Option Value}
theorem read_K (B : Below A₀ base outer h₀) (F : Fr h₀ L s.heap m) (X₀ : (KK w.params).In h₀) {a : RdA} {tape : Array Value} {tn : Nat} {pl : Int} {plt : Tok} {pn : Nat} {ln : Int} {lnt : Tok} (O : a.Ok)
    (N : News h₀ L s.heap (a.objs w.params tape tn pl plt pn ln lnt ++ news)) (hn1 : ∀ p ∈ news, p.1 ≠ a.placeA) (hn2 : ∀ p ∈ news, p.1 ≠ a.lexD)
    (T : Top p loose mean mg mb h₀) (hA : A.frames = some (env :: outer)) (hf : env.frame = some L) (hke : env.scope.kind = .function) (hh : A.handled = none) (hdp : A.depth < 400) (hun : A.units < 100)
    {tk : Tok} {ys : List Str} (hst : StrsAre (slicePick tape (some pl) (some (pl + 1)) none).toList ys) (hok : (ys.map (·.length)).sum + ys.length * 64 ≤ 16777216)
    (h0 : 0 ≤ pl) (hpl : pl < 100000) (hsz : tape.size < 100000) (hjl : (Txt.join (Str.ofString "") ys).length ≤ 1)
    (h : ∀ t k plt' h', Fr h₀ L h' m → News h₀ L h' (a.objs w.params tape tn (pl + (Txt.join (Str.ofString "") ys).length) plt' pn ln lnt ++ news) → R (.ok (.ret (.str (Txt.join (Str.ofString "") ys) t))) { s with heap := h', toks := k }) :
    codeAny (model PySem.Challenge.rw_rs0059_01.row.prog w) A (.call (.ref a.rdF) ⟨[.int 1 tk], []⟩) R s := by
  obtain ⟨hnd, dp, fr, gu, un⟩ := A
  cases hh
  cases hA
  replace hdp : dp < 400 := hdp
  replace hun : un < 100 := hun
  obtain ⟨pushA, lexA, lexD, stD, stF, rdF, rdC, placeA, tapeA, cT, cP, od, oc, oT, oP, fd, sl, doc, pm, ctv, k1, k2, k3, k4, wt⟩ := a
  obtain ⟨dD, ⟨vs, qt, dC1, dC2⟩, dT, dP, o1, o2, o3, o4, o5, o6, o7, o8, o9, o10⟩ := O
  simp only [RdA.objs, List.cons_append, List.nil_append] at N h
  dsimp only at *
  revert X₀
  k_fill
  intro X₀
  refine' code_nest B F X₀ N T rfl hf hke ?k6 ?k7 (Nat.lt_trans hdp (by decide)) ?k9 ?kB ?_ ?c2 ?c3 ?c4 ?c5
  case k6 => k_mem
  case k7 => exact codeRec_news N (by k_mem) dC1 dC2
  case k9 => exact BindsTo.of_eq rfl
  case kB => exact locs rfl
  case c2 => exact rfl
  case c3 => exact rfl
  case c4 => exact rfl
  case c5 => decide
  intro g' L' h' FG' F' N' B' X' T'
  have hPl := ltN (Heap.lt_size (N' (placeA, listOf #[.int pl plt] pn) (by k_mem)).1)
  dsimp only at hPl
  dsimp only
  (try k_lift B')
  (try k_fold)
  (conv in execs _ _ => arg 1; whnf)
  (conv in (occs := *) rdScope => all_goals whnf)
  repeat' (first | (k_unfold; (try dsimp only)) | walk1 | (dsimp only; walk1) | fail "no step")
  rename News h₀ L _ _ => kN
  exact h _ _ _ _ (by assumption) (fun p hp => kN p (.tail _ hp))
end
end Mine
end
section
open PySem PySem.W PySem.Calls PyProof.Rows
set_option maxRecDepth 100000
set_option maxHeartbeats 0
namespace Mine
/-- what stands next on the tape -/
def Nx (tape : Array Value) (pl : Int) (x : Str) : Prop := ∃ ys, StrsAre (slicePick tape (some pl) (some (pl + 1)) none).toList ys ∧ Txt.join (Str.ofString "") ys = x ∧ (ys.map (·.length)).sum + ys.length * 64 ≤ 16777216 ∧ x.length ≤ 1 ∧ 0 ≤ pl ∧ pl < 100000 ∧ tape.size < 100000
theorem getMethod_fnK {prog : Program} {w : World} {A : Around} {E : Value → Shared → Prop} {s : Shared} {h₀ : Heap} {L f dd r : Addr} {news : List (Addr × Obj)} {fd : FuncData} {sl : Array (Option Value)} {od : Obj} {pl : Sem Bool} {Q : Value × List Value → Shared → Prop}
    (N : News h₀ L s.heap news) (hm : (f, (⟨.type "function", some dd, .func fd, sl⟩ : Obj)) ∈ news) (hd : (dd, od) ∈ news) (D : DictIs od (readOnly (.ref r))) (h : ∀ k, Q (.ref r, []) { s with toks := k }) :
    wpAny (model prog w) A (getMethod (.ref f) (Str.ofString "read") pl) Q E s := getMethod_fn (N _ hm).1 (D.ns (N _ hd).1) h
local macro_rules | `(tactic| k_room) => `(tactic| ((try simp only [depth_under_make, depth_under_kw, depth_in1, depth_deeper, depth_caller]); (try dsimp only); simp only [recursionLimit]; omega))
local macro_rules | `(tactic| k_all) => `(tactic| first | assumption | exact ne_of_lo (by assumption) | (refine ne_of_all (by assumption) ?_; (try dsimp only); omega))
section
variable {w : World} {A A₀ : Around} {s : Shared} {base h₀ : Heap} {outer : List Env} {L : Addr} {m mg mb : Str → Option Value} {env : Env} {news : List (Addr × Obj)} {R : Result → Shared → Prop} {p : Program} {loose : List Str} {mean : ExcName → Option Value}
theorem read_N (B : Below A₀ base outer h₀) (F : Fr h₀ L s.heap m) (X₀ : (KK w.params).In h₀) {a : RdA} {tape : Array Value} {tn : Nat} {pl : Int} {plt : Tok} {pn : Nat} {ln : Int} {lnt : Tok} {E : Value → Shared → Prop} {Q : Value → Shared → Prop} {x : Str} {tk : Tok} (O : a.Ok)
    (N : News h₀ L s.heap (a.objs w.params tape tn pl plt pn ln lnt ++ news)) (hn1 : ∀ p ∈ news, p.1 ≠ a.placeA) (hn2 : ∀ p ∈ news, p.1 ≠ a.lexD)
    (T : Top p loose mean mg mb h₀) (hA : A.frames = some (env :: outer)) (hf : env.frame = some L) (hke : env.scope.kind = .function) (hh : A.handled = none) (hdp : A.depth < 400) (hun : A.units < 100) (H : Nx tape pl x)
    (h : ∀ t k plt' h', Fr h₀ L h' m → News h₀ L h' (a.objs w.params tape tn (pl + x.length) plt' pn ln lnt ++ news) → Q (.str x t) { s with heap := h', toks := k }) :
    wpAny (model PySem.Challenge.rw_rs0059_01.row.prog w) A (call (.ref a.rdF) [.int 1 tk]) Q E s := by
  obtain ⟨ys, h1, rfl, h3, h4, h5, h6, h7⟩ := H
  exact wpAny_call (read_K B F X₀ O N hn1 hn2 T hA hf hke hh hdp hun h1 h3 h5 h6 h7 h4 h)
local macro_rules | `(tactic| walk_at "getMethod ref") => `(tactic| (k_here; (with_reducible show wpAny _ _ (getMethod (Value.ref _) (Str.ofString "read") _) _ _ _); k_dflt (refine' getMethod_fnK ?N ?m ?d ?D ?_; (case N => k_asm); (case m => k_mem); (case d => k_mem); (case D => assumption)); intro k'; dsimp only))
local macro_rules | `(tactic| walk_at "callWith ref") => `(tactic| (k_here; k_dflt (refine' callWith_F ?k1 ?_; (case k1 => exact FnAt.of (by k_asm) (by k_mem)); k_whole)))
local macro_rules | `(tactic| walk_at "And") => `(tactic| ((with_reducible show FnAt _ _ ∧ _); refine ⟨by exact FnAt.of (by k_asm) (by k_mem), ?_⟩; (try dsimp only [List.nil_append, List.cons_append])))
local macro_rules | `(tactic| walk_at "call ref") => `(tactic| (k_here; k_dflt (refine' read_N ?B ?F ?X ?O ?N ?l1 ?l2 ?T ?A ?f ?k ?h ?d ?u ?H ?_; (case O => assumption); (case B => k_asm); (case F => k_asm); (case X => k_asm); (case N => assumption); (case l1 => assumption); (case l2 => assumption); (case T => k_asm); (case A => exact rfl); (case f => exact rfl); (case k => exact rfl); (case h => exact rfl); (case d => ((try simp only [depth_deeper]); (try dsimp only); omega)); (case u => ((try simp only [units_deeper]); (try dsimp only); omega)); (case H => assumption)); intro t' k' plt' h' F' N'; (simp only [RdA.objs, List.cons_append, List.nil_append] at N'); (try k_sweep)))
theorem rc_K (B : Below A₀ base outer h₀) (F : Fr h₀ L s.heap m) (X₀ : (KK w.params).In h₀) {a : RdA} {tape : Array Value} {tn : Nat} {pl : Int} {plt : Tok} {pn : Nat} {ln : Int} {lnt : Tok} (O : a.Ok)
    (N : News h₀ L s.heap (a.objs w.params tape tn pl plt pn ln lnt ++ news)) (hn1 : ∀ p ∈ news, p.1 ≠ a.placeA) (hn2 : ∀ p ∈ news, p.1 ≠ a.lexD)
    (T : Top p loose mean mg mb h₀) (hA : A.frames = some (env :: outer)) (hf : env.frame = some L) (hke : env.scope.kind = .function) (hh : A.handled = none) (hdp : A.depth < 390) (hun : A.units < 90)
    {x : Str} (H : Nx tape pl x) (hl0 : 0 ≤ ln) (hl1 : ln < 100000)
    (h : ∀ t k plt' lnt' h', Fr h₀ L h' m → News h₀ L h' (a.objs w.params tape tn (pl + x.length) plt' pn (ln + if (x == Str.ofString "\n") = true then 1 else 0) lnt' ++ news) → R (.ok (.ret (.str x t))) { s with heap := h', toks := k }) :
    codeAny (model PySem.Challenge.rw_rs0059_01.row.prog w) A (.call (.ref 85) ⟨[.ref a.lexA], []⟩) R s := by
  obtain ⟨hnd, dp, fr, gu, un⟩ := A
  cases hh
  cases hA
  replace hdp : dp < 390 := hdp
  replace hun : un < 90 := hun
  have O' := O
  obtain ⟨dD, -, -, -, o1, o2, o3, o4, o5, o6, o7, o8, o9, o10⟩ := O'
  revert X₀
  k_fill
  intro X₀
  refine' code_def B F X₀ N T rfl hf hke ?k6 ?k7 (Nat.lt_trans hdp (by decide)) ?k9 ?kB ?_ ?c2 ?c3 ?c4 ?c5
  case k6 => k_is
  case k7 => k_is
  case k9 => exact BindsTo.of_eq rfl
  case kB => exact locs rfl
  case c2 => exact rfl
  case c3 => exact rfl
  case c4 => exact rfl
  case c5 => decide
  intro g' L' h' FG' F' N' B' X' T'
  simp only [RdA.objs, List.cons_append, List.nil_append] at N'
  dsimp only
  (try k_lift B')
  (try k_fold)
  repeat' (first | (k_unfold; (try dsimp only)) | walk1 | (dsimp only; walk1) | fail "no step")
  · rename News h₀ L _ _ => kN
    rename (x == _) = true => e
    rw [if_pos e] at h
    exact h _ _ _ _ _ (by assumption) kN
  · rename News h₀ L _ _ => kN
    rename (x == _) = false => e
    rw [if_neg (by rw [e]; decide), Int.add_zero] at h
    exact h _ _ _ _ _ (by assumption) kN
end
end Mine
end
section
open PySem PySem.W PySem.Calls PyProof.Rows
set_option maxRecDepth 100000
set_option maxHeartbeats 0
namespace Mine
theorem slot_ci_next : Slot "callable_iterator" "__next__" "callable_iterator.__next__" :=
  .of (owner := "callable_iterator") (n := "__next__") (by rw [typeLookup_type, builtinLookup_eq_fast]; kernel_rfl) (by decide +kernel) (by decide +kernel) (by decide +kernel)
    (by first | exact .inl (by decide +kernel) | exact .inr (by decide +kernel)) (by rw [isSubtype_type]; kernel_rfl)
theorem entry_ci_next : entryFor table "callable_iterator.__next__" = some Builtin.«callable_iterator.__next__» := entryFor_of_tree (by kernel_rfl)
theorem args_ci_next (a : Value) : argsOk "callable_iterator.__next__" ⟨[a], []⟩ := by
  unfold argsOk; kernel_rfl
abbrev ciObj (m : Addr) (t : Tok) : Obj := { cls := .type "callable_iterator", data := .fields #[.ref m, .str (Str.ofString "") t, .bool false] }
section
variable {prog : Program} {w : World} {A : Around} {E : Value → Shared → Prop} {s : Shared} {it mth : Addr} {st : Tok}
theorem eqBool_str {a b : Str} {t u : Tok} {Q : Bool → Shared → Prop} (hne : a ≠ b) (h : Q false s) : wpAny (model prog w) A (eqBool (.str a t) (.str b u)) Q E s := by
  unfold eqBool
  have e : ((Value.str a t) == (Value.str b u)) = false := by
    rw [beq_eq_false_iff_ne]; intro q; cases q; exact hne rfl
  refine wpAny_holding ?_
  rw [e]
  rw [if_neg (by decide)]
  dsimp only
  refine wpAny_bind ?_
  show wpAny _ _ (compareOp .Eq (.str a t) (.str b u)) _ _ _
  refine PyProof.Rows.eq_str ?_
  rw [beq_eq_false_iff_ne.mpr hne]
  wp_walk
  exact h
theorem ci_next {Q : Option Value → Shared → Prop} {v : Value} {fo : Obj} {fd : FuncData} (ho : s.heap.get? it = some (ciObj mth st)) (hm : s.heap.get? mth = some (methodObj (.ref 85) v)) (hfo : s.heap.get? 85 = some fo) (hfd : fo.data = .func fd)
    (hc : codeAny (model prog w) A.in1 (.call (.ref 85) ⟨[v], []⟩) (fun r s' => ∃ x t, r = .ok (.ret (.str x t)) ∧ x ≠ Str.ofString "" ∧ s'.heap.get? it = some (ciObj mth st) ∧ Q (some (.str x t)) s') s) : wpAny (model prog w) A (pyNext (.ref it)) Q E s := by
  have hT : s.TypeIs (.ref it) "callable_iterator" := ⟨_, ho, rfl⟩
  unfold pyNext
  refine wpAny_bind (wpAny_attempt (wpAny_callSpecial?_slot (name := Str.ofString "__next__") hT slot_ci_next
    (wpAny_call_entry slot_ci_next hT entry_ci_next ?_ (args_ci_next _))))
  unfold Builtin.«callable_iterator.__next__»
  repeat ((fail_if_success (with_reducible show wpAny _ _ (callOutOfASlot _ _) _ _ _)); first | (with_reducible refine wpAny_field ho rfl rfl ?_) | wp_step)
  unfold callOutOfASlot borrowsExactly
  dsimp only
  repeat ((fail_if_success (with_reducible show wpAny _ _ (callBorrowed _ _) _ _ _)); first | (with_reducible refine wpAny_load hm ?_; dsimp only) | (with_reducible refine wpAny_load hfo ?_; rw [hfd]; dsimp only) | wp_step)
  unfold callBorrowed
  refine PySem.W.X.x_call ?_ (by intro e; cases e)
  show codeAny _ A.in1 (.call (.ref mth) ⟨[], []⟩) _ _
  refine method_call hm (codeAny_mono hc fun r s' hr => ?_)
  obtain ⟨x, t, rfl, hx, ho', hq⟩ := hr
  dsimp only
  repeat ((fail_if_success (with_reducible show wpAny _ _ (eqBool _ _) _ _ _)); first | (with_reducible refine wpAny_field ho' rfl rfl ?_) | wp_step)
  refine eqBool_str (Ne.symm hx) ?_
  wp_walk
  exact ⟨_, rfl, wpAny_pure hq⟩
theorem eqBool_empty {t u : Tok} {Q : Bool → Shared → Prop} (h : Q true s) : wpAny (model prog w) A (eqBool (.str (Str.ofString "") t) (.str (Str.ofString "") u)) Q E s := by
  unfold eqBool
  refine wpAny_holding ?_
  by_cases e : ((Value.str (Str.ofString "") t) == (Value.str (Str.ofString "") u)) = true
  · rw [if_pos e]
    wp_walk
    exact h
  · rw [if_neg e]
    dsimp only
    refine wpAny_bind ?_
    show wpAny _ _ (compareOp .Eq (.str _ t) (.str _ u)) _ _ _
    refine PyProof.Rows.eq_str ?_
    rw [beq_self_eq_true]
    wp_walk
    exact h
theorem setField_K {o : Obj} {vs : Array Value} {i : Nat} {x : Value} {Q : Unit → Shared → Prop} (ho : s.heap.get? it = some o) (hd : o.data = .fields vs) (hi : i < vs.size)
    (h : ∀ h' o' vs', h'.get? it = some o' → o'.data = .fields vs' → vs'.size = vs.size → (∀ b, b ≠ it → h'.get? b = s.heap.get? b) → Q () { s with heap := h' }) : wpAny (model prog w) A (setField (.ref it) i x) Q E s := by
  refine wpAny_setField ho hd hi (h _ _ _ (Heap.get?_update_self _ ho (Obj.isFreed_of_fields (Obj.data_mapFields hd _))) (Obj.data_mapFields hd _) (by simp) fun b hb => (Heap.SameBut.update ..).2 b hb)
theorem ci_end {Q : Option Value → Shared → Prop} {v : Value} {fo : Obj} {fd : FuncData} (hh : A.handled = none) (ho : s.heap.get? it = some (ciObj mth st)) (hm : s.heap.get? mth = some (methodObj (.ref 85) v)) (hfo : s.heap.get? 85 = some fo) (hfd : fo.data = .func fd)
    (hc : codeAny (model prog w) A.in1 (.call (.ref 85) ⟨[v], []⟩) (fun r s' => ∃ t, r = .ok (.ret (.str (Str.ofString "") t)) ∧ s'.heap.get? it = some (ciObj mth st) ∧ s'.heap.get? mth = some (methodObj (.ref 85) v) ∧ s'.heap.get? 85 = some fo ∧
      ∀ h' k, (∀ b o, b ≠ it → s'.heap.get? b = some o → h'.get? b = some o) → Q none { s' with heap := h', toks := k }) s) : wpAny (model prog w) A (pyNext (.ref it)) Q E s := by
  have hT : s.TypeIs (.ref it) "callable_iterator" := ⟨_, ho, rfl⟩
  unfold pyNext
  refine wpAny_bind (wpAny_attempt (wpAny_callSpecial?_slot (name := Str.ofString "__next__") hT slot_ci_next
    (wpAny_call_entry slot_ci_next hT entry_ci_next ?_ (args_ci_next _))))
  unfold Builtin.«callable_iterator.__next__»
  repeat ((fail_if_success (with_reducible show wpAny _ _ (callOutOfASlot _ _) _ _ _)); first | (with_reducible refine wpAny_field ho rfl rfl ?_) | wp_step)
  unfold callOutOfASlot borrowsExactly
  dsimp only
  repeat ((fail_if_success (with_reducible show wpAny _ _ (callBorrowed _ _) _ _ _)); first | (with_reducible refine wpAny_load hm ?_; dsimp only) | (with_reducible refine wpAny_load hfo ?_; rw [hfd]; dsimp only) | wp_step)
  unfold callBorrowed
  refine PySem.W.X.x_call ?_ (by intro e; cases e)
  show codeAny _ A.in1 (.call (.ref mth) ⟨[], []⟩) _ _
  refine method_call hm (codeAny_mono hc fun r s' hr => ?_)
  obtain ⟨t, rfl, ho', hm', hfo', hq⟩ := hr
  dsimp only
  repeat ((fail_if_success (with_reducible show wpAny _ _ (eqBool _ _) _ _ _)); first | (with_reducible refine wpAny_field ho' rfl rfl ?_) | wp_step)
  refine eqBool_empty ?_
  repeat ((fail_if_success (with_reducible show wpAny _ _ (setField _ _ _) _ _ _)); first | (with_reducible refine wpAny_field ho' rfl rfl ?_) | (with_reducible refine wpAny_load hm' ?_; dsimp only) | (with_reducible refine wpAny_load hfo' ?_; rw [hfd]; dsimp only) | wp_step)
  refine setField_K ho' rfl (by simp) fun h1 o1 vs1 e1 d1 z1 k1 => wpAny_bind (setField_K e1 d1 (by rw [z1]; simp) fun h2 o2 vs2 e2 d2 z2 k2 => setField_K e2 d2 (by rw [z2, z1]; simp) fun h3 o3 vs3 e3 d3 z3 k3 => ?_)
  have kk : ∀ b o, b ≠ it → s'.heap.get? b = some o → h3.get? b = some o := fun b o hb e => ((k3 b hb).trans ((k2 b hb).trans (k1 b hb))).trans e
  show wpAny _ _ (newExc (.type "StopIteration") [] >>= _) _ _ _
  refine wpAny_bind ?_
  simp only [newExc, newTuple]
  refine wpAny_bind (wpAny_newObj_type ?_ (by size_fits))
  refine wpAny_bind (m := firstArgMember _ _) (wpAny_of_eq (a := Value.none) (by first | rfl | (simp only [firstArgMember]; rfl)) ?_)
  refine wpAny_newObj_type ?_ (by size_fits)
  simp only [raiseNew]
  refine wpAny_bind (wpAny_handled ?_)
  rw [show A.in1.handled = none from hh]
  refine wpAny_bind (wpAny_pure (wpAny_throw ?_))
  refine wpAny_bind (wpAny_isInstance (T := "StopIteration") (b := true) ⟨_, Heap.get?_push_size _ rfl, rfl⟩ (by kernel_rfl) ?_)
  exact wpAny_pure (hq _ _ fun b o hb e => Heap.get?_push_of_some _ (Heap.get?_push_of_some _ (kk b o hb e)))
end
end Mine
end
section
open PySem PySem.W PySem.Calls PyProof.Rows
set_option maxRecDepth 100000
set_option maxHeartbeats 0
namespace Mine
/-- the signs that stand on the tape from the place on -/
def Rem (tape : Array Value) (pl : Int) (rem : List Nat) : Prop := ∃ i : Nat, pl = i ∧ i ≤ tape.size ∧ tape.size < 90000 ∧ StrsAre (tape.toList.drop i) (rem.map fun c => ⟨#[c]⟩)
theorem Rem.next {tape : Array Value} {pl : Int} {c : Nat} {r : List Nat} (H : Rem tape pl (c :: r)) : Nx tape pl ⟨#[c]⟩ ∧ Rem tape (pl + 1) r := by
  obtain ⟨i, rfl, hi, hz, hs⟩ := H
  rw [List.map_cons] at hs
  generalize hd : tape.toList.drop i = vs at hs
  cases hs with
  | cons y t hs =>
    rename_i vs
    have hlt : i < tape.size := by
      have : (tape.toList.drop i).length = vs.length + 1 := by rw [hd]; rfl
      rw [List.length_drop, Array.length_toList] at this
      omega
    have hd1 : tape.toList.drop (i + 1) = vs := by rw [← List.tail_drop, hd]; rfl
    refine ⟨⟨[⟨#[c]⟩], ?_, rfl, Nat.le_of_ble_eq_true rfl, Nat.le_refl _, by omega, by omega, by omega⟩, i + 1, by omega, by omega, hz, by rw [hd1]; exact hs⟩
    have e : ((i : Int) + 1) = ((i + 1 : Nat) : Int) := by omega
    rw [e, slicePick_run tape i (i + 1) (by omega) (by omega), hd]
    have : i + 1 - i = 1 := by omega
    rw [this]
    exact .cons _ _ .nil
theorem Rem.stop {tape : Array Value} {pl : Int} (H : Rem tape pl []) : Nx tape pl (Str.ofString "") := by
  obtain ⟨i, rfl, hi, hz, hs⟩ := H
  have hlen : i = tape.size := by
    generalize hd : tape.toList.drop i = vs at hs
    cases hs
    have : (tape.toList.drop i).length = 0 := by rw [hd]; rfl
    rw [List.length_drop, Array.length_toList] at this
    omega
  subst hlen
  refine ⟨[], ?_, rfl, by decide, by decide +kernel, by omega, by omega, by omega⟩
  rw [kmk_pick_nat (a := tape.size) (b := tape.size) tape (by
    simp only [sliceBounds, Option.getD_none]
    refine Prod.ext ?_ (Prod.ext ?_ rfl) <;> (simp only []; omega))]
  rw [Nat.sub_self, List.take_zero]
  exact .nil
def nl (c : Nat) : Int := if c = 10 then 1 else 0
theorem nl_is (c : Nat) : (if ((⟨#[c]⟩ : Str) == Str.ofString "\n") = true then (1 : Int) else 0) = nl c := by
  unfold nl
  have e : Str.ofString "\n" = ⟨#[10]⟩ := by decide +kernel
  rw [e]
  by_cases h : c = 10
  · subst h; rfl
  · rw [if_neg h, if_neg]
    intro q
    have := eq_of_beq q
    injection this with q
    injection q with q
    injection q with q
    exact h q
theorem one_ne (c : Nat) : (⟨#[c]⟩ : Str) ≠ Str.ofString "" := by
  have e : Str.ofString "" = ⟨#[]⟩ := by decide +kernel
  rw [e]
  intro q
  have := congrArg (fun x : Str => x.cps.size) q
  cases this
section
variable {w : World} {A A₀ : Around} {s : Shared} {base h₀ : Heap} {outer : List Env} {L : Addr} {m mg mb : Str → Option Value} {env : Env} {news : List (Addr × Obj)} {p : Program} {loose : List Str} {mean : ExcName → Option Value}
theorem fn85 {h : Heap} (X : (KK w.params).In h) : ∃ o fd, h.get? 85 = some o ∧ o.data = .func fd := ⟨_, _, X 85 _ rfl, rfl⟩
/-- the next sign by the iterator -/
theorem next_K (B : Below A₀ base outer h₀) (F : Fr h₀ L s.heap m) (X₀ : (KK w.params).In h₀) {a : RdA} {tape : Array Value} {tn : Nat} {pl : Int} {plt : Tok} {pn : Nat} {ln : Int} {lnt : Tok} (O : a.Ok)
    (N : News h₀ L s.heap (a.objs w.params tape tn pl plt pn ln lnt ++ news)) (hn1 : ∀ p ∈ news, p.1 ≠ a.placeA) (hn2 : ∀ p ∈ news, p.1 ≠ a.lexD)
    (T : Top p loose mean mg mb h₀) (hA : A.frames = some (env :: outer)) (hf : env.frame = some L) (hke : env.scope.kind = .function) (hh : A.handled = none) (hdp : A.depth < 380) (hun : A.units < 80)
    {it mth : Addr} {st : Tok} (hit : (it, ciObj mth st) ∈ news) (hmt : (mth, methodObj (.ref 85) (.ref a.lexA)) ∈ news) {c : Nat} {r : List Nat} (H : Rem tape pl (c :: r)) (hl0 : 0 ≤ ln) (hl1 : ln < 100000) {E : Value → Shared → Prop} {Q : Option Value → Shared → Prop}
    (h : ∀ t k plt' lnt' h', Fr h₀ L h' m → News h₀ L h' (a.objs w.params tape tn (pl + 1) plt' pn (ln + nl c) lnt' ++ news) → Rem tape (pl + 1) r → Q (some (.str ⟨#[c]⟩ t)) { s with heap := h', toks := k }) :
    wpAny (model PySem.Challenge.rw_rs0059_01.row.prog w) A (pyNext (.ref it)) Q E s := by
  obtain ⟨fo, fd, e1, e2⟩ := fn85 (X₀.keeps F.keep)
  refine ci_next (N _ (List.mem_append_right _ hit)).1 (N _ (List.mem_append_right _ hmt)).1 e1 e2 ?_
  refine rc_K B F X₀ O N hn1 hn2 T (A := A.in1) hA hf hke hh (by rw [depth_in1]; omega) (by rw [units_in1]; omega) H.next.1 hl0 hl1 fun t k plt' lnt' h' F' N' => ?_
  rw [nl_is] at N'
  exact ⟨_, t, rfl, one_ne c, (N' _ (List.mem_append_right _ hit)).1, h t k plt' lnt' h' F' N' H.next.2⟩
theorem nextEnd_K (B : Below A₀ base outer h₀) (F : Fr h₀ L s.heap m) (X₀ : (KK w.params).In h₀) {a : RdA} {tape : Array Value} {tn : Nat} {pl : Int} {plt : Tok} {pn : Nat} {ln : Int} {lnt : Tok} (O : a.Ok)
    {it mth : Addr} {st : Tok} (N : News h₀ L s.heap (a.objs w.params tape tn pl plt pn ln lnt ++ (it, ciObj mth st) :: (mth, methodObj (.ref 85) (.ref a.lexA)) :: news)) (hn1 : ∀ p ∈ (it, ciObj mth st) :: (mth, methodObj (.ref 85) (.ref a.lexA)) :: news, p.1 ≠ a.placeA) (hn2 : ∀ p ∈ (it, ciObj mth st) :: (mth, methodObj (.ref 85) (.ref a.lexA)) :: news, p.1 ≠ a.lexD)
    (hnit : ∀ p ∈ a.objs w.params tape tn pl plt pn ln lnt ++ news, p.1 ≠ it)
    (T : Top p loose mean mg mb h₀) (hA : A.frames = some (env :: outer)) (hf : env.frame = some L) (hke : env.scope.kind = .function) (hh : A.handled = none) (hdp : A.depth < 380) (hun : A.units < 80)
    (H : Rem tape pl []) (hl0 : 0 ≤ ln) (hl1 : ln < 100000) {E : Value → Shared → Prop} {Q : Option Value → Shared → Prop}
    (h : ∀ k plt' lnt' h', Fr h₀ L h' m → News h₀ L h' (a.objs w.params tape tn pl plt' pn ln lnt' ++ news) → Q none { s with heap := h', toks := k }) :
    wpAny (model PySem.Challenge.rw_rs0059_01.row.prog w) A (pyNext (.ref it)) Q E s := by
  obtain ⟨fo, fd, e1, e2⟩ := fn85 (X₀.keeps F.keep)
  have hit : (it, ciObj mth st) ∈ (it, ciObj mth st) :: (mth, methodObj (.ref 85) (.ref a.lexA)) :: news := .head _
  have hmt : (mth, methodObj (.ref 85) (.ref a.lexA)) ∈ (it, ciObj mth st) :: (mth, methodObj (.ref 85) (.ref a.lexA)) :: news := .tail _ (.head _)
  refine ci_end hh (N _ (List.mem_append_right _ hit)).1 (N _ (List.mem_append_right _ hmt)).1 e1 e2 ?_
  refine rc_K B F X₀ O N hn1 hn2 T (A := A.in1) hA hf hke hh (by rw [depth_in1]; omega) (by rw [units_in1]; omega) H.stop hl0 hl1 fun t k plt' lnt' h' F' N' => ?_
  have en : (if (Str.ofString "" == Str.ofString "\n") = true then (1 : Int) else 0) = 0 := by decide +kernel
  have el : ((Str.ofString "").length : Int) = 0 := by decide +kernel
  rw [en, el, Int.add_zero, Int.add_zero] at N'
  refine ⟨t, rfl, (N' _ (List.mem_append_right _ hit)).1, (N' _ (List.mem_append_right _ hmt)).1, ?_, fun h'' k' hk => ?_⟩
  · obtain ⟨fo', fd', e1', e2'⟩ := fn85 (X₀.keeps F'.keep)
    have q1 := X₀.keeps F.keep 85 _ rfl
    have q2 := X₀.keeps F'.keep 85 _ rfl
    exact q2.trans (q1.symm.trans e1)
  · have itF := N' _ (List.mem_append_right _ hit)
    obtain ⟨oL, a1, a2, hL, a3⟩ := F'.ns
    refine h k' plt' lnt' h'' ⟨⟨oL, a1, a2, hk L _ (Ne.symm itF.2.1) hL, a3⟩, fun b o e => hk b o (fun q => by rw [q, itF.2.2] at e; cases e) (F'.keep b o e), F'.above⟩ fun p hp => ?_
    have hmem : p ∈ a.objs w.params tape tn pl plt' pn ln lnt' ++ (it, ciObj mth st) :: (mth, methodObj (.ref 85) (.ref a.lexA)) :: news := by
      rcases List.mem_append.mp hp with q | q
      · exact List.mem_append_left _ q
      · exact List.mem_append_right _ (.tail _ (.tail _ q))
    refine ⟨hk _ _ ?_ (N' _ hmem).1, (N' _ hmem).2⟩
    rcases List.mem_append.mp hp with q | q
    · have : ∀ p ∈ a.objs w.params tape tn pl plt' pn ln lnt', ∃ p' ∈ a.objs w.params tape tn pl plt pn ln lnt, p'.1 = p.1 := by
        intro p hp
        simp only [RdA.objs, List.mem_cons, List.not_mem_nil, or_false] at hp ⊢
        rcases hp with rfl | rfl | rfl | rfl | rfl | rfl | rfl | rfl | rfl | rfl | rfl <;> simp
      obtain ⟨p', hp', e⟩ := this p q
      rw [← e]
      exact hnit p' (List.mem_append_left _ hp')
    · exact hnit p (List.mem_append_right _ q)
end
end Mine
end
section
open PySem PySem.W PySem.Calls PyProof.Rows
set_option maxRecDepth 100000
namespace Mine
section
variable {prog : Program} {w : World} {A : Around} {s : Shared} {env : Env}
abbrev never : Value → Shared → Prop := fun _ _ => False
/-- at the head of a for -/
def ForAt (prog : Program) (w : World) (A : Around) (target : PySem.Expr) (it : Value) (body : List Stmt) (env : Env) (Q : Flow → Shared → Prop) (s : Shared) : Prop :=
  codeAny (model prog w) A (.forLoop target it body [] env) (fun r s' => match r with | .ok f => Q f s' | .error _ => False) s
/-- behind a turn's body -/
def ForNext (prog : Program) (w : World) (A : Around) (target : PySem.Expr) (it : Value) (body : List Stmt) (env : Env) (Q : Flow → Shared → Prop) (f : Flow) (s : Shared) : Prop :=
  match f with
  | .next | .cont => ForAt prog w A target it body env Q s
  | .brk => Q .next s
  | .ret v => Q (.ret v) s
theorem ForAt.turn {target : PySem.Expr} {it : Value} {body : List Stmt} {Q : Flow → Shared → Prop}
    (h : wpAny (model prog w) A (pyNext it) (fun r s₁ => match r with
      | none => Q .next s₁
      | some v => wpAny (model prog w) A (letOwnedTupleGo target it v) (fun _ s₀ => wpAny (model prog w) A (assign target env v) (fun _ s₂ =>
          wpAny (model prog w) A (execs body env) (ForNext prog w A target it body env Q) never s₂) never s₀) never s₁) never s) :
    ForAt prog w A target it body env Q s := by
  unfold ForAt
  refine codeAny_of_tree ?_
  show wpAny _ _ ((forTurn target it body [] env).onRaise (fun x => do noteFrame x env; theTreesLotGoes x)) _ _ s
  refine wpAny_noted (wpAny_mono (E := never) ?_ (fun _ _ q => q) fun _ _ e => e.elim)
  simp only [forTurn]
  refine wpAny_bind (wpAny_standAt (wpAny_bind (wpAny_onRaise (wpAny_mono h (fun r s₁ h₁ => ?_) fun _ _ h' => h'.elim))))
  cases r with
  | none => exact wpAny_pure ⟨rfl, codeAny_block (wpAny_execs_nil h₁)⟩
  | some v =>
    refine wpAny_bind (wpAny_mono h₁ (fun _ s₀ h₀ => wpAny_bind (wpAny_mono h₀ (fun _ s₂ h₂ => wpAny_bind (wpAny_mono h₂ (fun f s₃ h₃ => ?_) fun _ _ h' => h')) fun _ _ h' => h')) fun _ _ h' => h')
    cases f with
    | next => exact wpAny_pure ⟨rfl, h₃⟩
    | cont => exact wpAny_pure ⟨rfl, h₃⟩
    | brk => exact wpAny_pure h₃
    | ret v => exact wpAny_pure h₃
theorem For_at {E : Value → Shared → Prop} {target iter : PySem.Expr} {body : List Stmt} {pos : Pos} {Q : Flow → Shared → Prop}
    (h : wpAny (model prog w) A (eval iter env) (fun x s₁ => wpAny (model prog w) A (pyIter x) (fun it s₂ => ForAt prog w A target it body env Q s₂) E s₁) E s)
    (hs : ∀ x, foldedSetIterable iter env x = pure x := by intro _; rfl) :
    wpAny (model prog w) A (exec (.For target iter body [] pos) env) Q E s := by
  refine wpAny_For (wpAny_mono h (fun x s₁ h₁ => wpAny_mono h₁ (fun it s₂ h₂ => ?_) fun _ _ e => e) fun _ _ e => e) hs
  refine codeAny_mono h₂ fun r s' h' => ?_
  cases r with
  | ok f => exact h'
  | error e => exact h'.elim
theorem go_name {x : Str} {px : Pos} {it v : Value} {E : Value → Shared → Prop} {Q : Unit → Shared → Prop} (h : Q () s) : wpAny (model prog w) A (letOwnedTupleGo (.Name x px) it v) Q E s := wpAny_pure h
/-- at the head of a while -/
def WhileAt (prog : Program) (w : World) (A : Around) (test : PySem.Expr) (body : List Stmt) (env : Env) (Q : Flow → Shared → Prop) (s : Shared) : Prop :=
  codeAny (model prog w) A (.whileLoop test body [] env) (fun r s' => match r with | .ok f => Q f s' | .error _ => False) s
def WhileNext (prog : Program) (w : World) (A : Around) (test : PySem.Expr) (body : List Stmt) (env : Env) (Q : Flow → Shared → Prop) (f : Flow) (s : Shared) : Prop :=
  match f with
  | .next | .cont => WhileAt prog w A test body env Q s
  | .brk => Q .next s
  | .ret v => Q (.ret v) s
theorem WhileAt.turn {test : PySem.Expr} {body : List Stmt} {Q : Flow → Shared → Prop}
    (h : wpAny (model prog w) A (isTrue test env (eval test env)) (fun b s₁ => if b = true then wpAny (model prog w) A (execs body env) (WhileNext prog w A test body env Q) never s₁ else Q .next s₁) never s) :
    WhileAt prog w A test body env Q s := by
  unfold WhileAt
  refine codeAny_of_tree ?_
  show wpAny _ _ ((whileTurn test body [] env).onRaise (fun x => do noteFrame x env; theTreesLotGoes x)) _ _ s
  refine wpAny_noted (wpAny_mono (E := never) ?_ (fun _ _ q => q) fun _ _ e => e.elim)
  simp only [whileTurn]
  refine wpAny_bind (wpAny_mono h (fun b s₁ h₁ => ?_) fun _ _ h' => h'.elim)
  cases b with
  | false =>
    simp only [Bool.false_eq_true, if_false] at h₁ ⊢
    exact wpAny_bind (wpAny_execs_nil (wpAny_pure h₁))
  | true =>
    simp only [if_true] at h₁ ⊢
    refine wpAny_bind (wpAny_mono h₁ (fun f s₃ h₃ => ?_) fun _ _ h' => h')
    cases f with
    | next => exact wpAny_pure ⟨rfl, h₃⟩
    | cont => exact wpAny_pure ⟨rfl, h₃⟩
    | brk => exact wpAny_pure h₃
    | ret v => exact wpAny_pure h₃
theorem While_at {E : Value → Shared → Prop} {test : PySem.Expr} {body : List Stmt} {pos : Pos} {Q : Flow → Shared → Prop}
    (h : WhileAt prog w A test body env Q s) : wpAny (model prog w) A (exec (.While test body [] pos) env) Q E s := by
  refine wpAny_While (codeAny_mono h fun r s' h' => ?_)
  cases r with
  | ok f => exact h'
  | error e => exact h'.elim
end
end Mine
end
section
open PySem PySem.W PySem.Calls PyProof.Rows
set_option maxRecDepth 100000
namespace Mine
theorem args_iter2 (a b : Value) : argsOk "iter" ⟨[a, b], []⟩ := by unfold argsOk; kernel_rfl
theorem look_method_call : typeLookup (.type "method") (Str.ofString "__call__") = pure (some (.builtin "method.__call__")) := by rw [typeLookup_type, builtinLookup_eq_fast]; kernel_rfl
theorem look_ci_next : typeLookup (.type "callable_iterator") (Str.ofString "__next__") = pure (some (.builtin "callable_iterator.__next__")) := by rw [typeLookup_type, builtinLookup_eq_fast]; kernel_rfl
theorem entry_ci_iter : entryFor table "callable_iterator.__iter__" = some Builtin.«dict_keyiterator.__iter__» := entryFor_alias (id' := "dict_keyiterator.__iter__") (by kernel_rfl) rfl (by decide +kernel) (by kernel_rfl)
theorem args_ci_iter (a : Value) : argsOk "callable_iterator.__iter__" ⟨[a], []⟩ := by unfold argsOk; kernel_rfl
theorem slot_ci_iter : Slot "callable_iterator" "__iter__" "callable_iterator.__iter__" :=
  .of (owner := "callable_iterator") (n := "__iter__") (by rw [typeLookup_type, builtinLookup_eq_fast]; kernel_rfl) (by decide +kernel) (by decide +kernel) (by decide +kernel)
    (by first | exact .inl (by decide +kernel) | exact .inr (by decide +kernel)) (by rw [isSubtype_type]; kernel_rfl)
section
variable {prog : Program} {w : World} {A : Around} {E : Value → Shared → Prop} {s : Shared} {h₀ : Heap} {L : Addr} {m : Str → Option Value} {news : List (Addr × Obj)}
theorem iter2_K {mth : Addr} {f v : Value} {t : Tok} {Q : Value → Shared → Prop} (F : Fr h₀ L s.heap m) (N : News h₀ L s.heap news) (hm : (mth, methodObj f v) ∈ news)
    (h : ∀ it h', Fr h₀ L h' m → News h₀ L h' ((it, ({ cls := .type "callable_iterator", data := .fields #[.ref mth, .str (Str.ofString "") t, .bool false] } : Obj)) :: news) → (∀ p ∈ news, p.1 < it) → Q (.ref it) { s with heap := h' }) :
    wpAny (model prog w) A (call (.builtin "iter") [.ref mth, .str (Str.ofString "") t]) Q E s := by
  refine call_function_entry (by decide +kernel) (by decide +kernel) kdk_entry_iter (args_iter2 _ _) ?_
  unfold Builtin.«iter»
  refine wpAny_bind (m := someArgs "iter" 1 2 _) (wpAny_of_eq (a := [Value.ref mth, .str (Str.ofString "") t]) (by first | rfl | kernel_rfl!) ?_)
  have hc := look_method_call
  show wpAny _ _ (specialOf (.ref mth) "__call__" >>= _) _ _ _
  refine wpAny_bind (wpAny_specialOf (T := "method") ⟨_, (N _ hm).1, rfl⟩ hc ?_)
  dsimp only [Option.isNone]
  rw [if_neg (by decide)]
  refine wpAny_bind (wpAny_rule (wpAny_bind ?_))
  exact wpAny_newObj_type (wpAny_pure ⟨_, rfl, h _ _ (F.push _) (News.push F N _ rfl) (fun q hq => Heap.lt_size (N q hq).1)⟩) (by size_fits)
theorem pyIter_ci {it : Addr} {o : Obj} {Q : Value → Shared → Prop} (N : News h₀ L s.heap news) (hm : (it, o) ∈ news) (hc : o.cls = .type "callable_iterator") (h : Q (.ref it) s) : wpAny (model prog w) A (pyIter (.ref it)) Q E s := by
  have hT : s.TypeIs (.ref it) "callable_iterator" := ⟨_, (N _ hm).1, hc⟩
  refine wpAny_pyIter_slot hT slot_ci_iter (wpAny_call_entry slot_ci_iter hT entry_ci_iter ?_ (args_ci_iter _))
  show wpAny _ _ (ret (.ref it)) _ _ s
  exact wpAny_pure ⟨_, rfl, "callable_iterator", _, hT, look_ci_next, h⟩
end
end Mine
end
section
open PySem PySem.W PySem.Calls PyProof.Rows
set_option maxRecDepth 100000
set_option maxHeartbeats 0
set_option linter.unusedVariables false
namespace Mine
abbrev gtB : List Stmt := fdBody (nthS 2 (fdBody (nthS 21 mainB)))
abbrev envG (L : Addr) : Env := envOf (Str.ofString "_netrclex.get_token") (fdScope (nthS 2 (fdBody (nthS 21 mainB)))) L 92 (.ref 91)
def ifB (s : Stmt) : List Stmt := match s with | .If _ b _ _ => b | _ => []
def ifE (s : Stmt) : List Stmt := match s with | .If _ _ b _ => b | _ => []
def b0 : List Stmt := fdBody (nthS 3 gtB)
def b1 : List Stmt := fdBody (nthS 0 (ifB (nthS 1 b0)))
def b2 : List Stmt := fdBody (nthS 2 (ifE (nthS 1 b0)))
def mG (lex : Addr) (tok : Value) (it : Addr) (ch : Option Value) : Str → Option Value := fun y =>
  if y = Str.ofString "ch" then ch else if y = Str.ofString "token" then some tok else if y = Str.ofString "fiter" then some (.ref it) else if y = Str.ofString "self" then some (.ref lex) else none
theorem mG_ch (lex : Addr) (tok : Value) (it : Addr) (ch : Option Value) (v : Value) : (fun y => if y = Str.ofString "ch" then some v else mG lex tok it ch y) = mG lex tok it (some v) := by
  funext y; unfold mG; by_cases h : y = Str.ofString "ch" <;> simp [h]
theorem mG_tok (lex : Addr) (tok : Value) (it : Addr) (ch : Option Value) (v : Value) : (fun y => if y = Str.ofString "token" then some v else mG lex tok it ch y) = mG lex v it ch := by
  funext y; unfold mG
  by_cases h : y = Str.ofString "token"
  · rw [if_pos h, if_neg, if_pos h]; rw [h]; decide +kernel
  · simp [h]
theorem mG_chp (lex : Addr) (tok : Value) (it : Addr) (ch : Option Value) (v : Value) (y : Str) : (if y = Str.ofString "ch" then some v else mG lex tok it ch y) = mG lex tok it (some v) y := congrFun (mG_ch lex tok it ch v) y
theorem mG_tokp (lex : Addr) (tok : Value) (it : Addr) (ch : Option Value) (v : Value) (y : Str) : (if y = Str.ofString "token" then some v else mG lex tok it ch y) = mG lex v it ch y := congrFun (mG_tok lex tok it ch v) y
theorem one_cat (c : Nat) : Str.ofString "" ++ (⟨#[c]⟩ : Str) = ⟨#[c]⟩ := by
  rw [show Str.ofString "" = ⟨#[]⟩ from by decide +kernel]; rfl
theorem nl_bd (c : Nat) : 0 ≤ nl c ∧ nl c ≤ 1 := by unfold nl; split <;> omega
abbrev wsS : Str := Str.ofString "\n\t\x0d "
abbrev inWs (c : Nat) : Bool := !(Builtin.Str.occurrences (Str.ofString "\n\t\x0d ") ⟨#[c]⟩ 0 (Str.ofString "\n\t\x0d ").length 1).isEmpty
section
variable {w : World} {A A₀ : Around} {s : Shared} {base h₀ : Heap} {outer : List Env} {L : Addr} {m mg mb : Str → Option Value} {env : Env} {news : List (Addr × Obj)} {p : Program} {loose : List Str} {mean : ExcName → Option Value}
theorem rc_R (B : Below A₀ base outer h₀) (F : Fr h₀ L s.heap m) (X₀ : (KK w.params).In h₀) {a : RdA} {tape : Array Value} {tn : Nat} {pl : Int} {plt : Tok} {pn : Nat} {ln : Int} {lnt : Tok} (O : a.Ok)
    (N : News h₀ L s.heap (a.objs w.params tape tn pl plt pn ln lnt ++ news)) (hn1 : ∀ p ∈ news, p.1 ≠ a.placeA) (hn2 : ∀ p ∈ news, p.1 ≠ a.lexD)
    (T : Top p loose mean mg mb h₀) (hA : A.frames = some (env :: outer)) (hf : env.frame = some L) (hke : env.scope.kind = .function) (hh : A.handled = none) (hdp : A.depth < 390) (hun : A.units < 90)
    {c : Nat} {r : List Nat} (H : Rem tape pl (c :: r)) (hl0 : 0 ≤ ln) (hl1 : ln < 100000) {E : Value → Shared → Prop} {Q : Value → Shared → Prop}
    (h : ∀ t k plt' lnt' h', Fr h₀ L h' m → News h₀ L h' (a.objs w.params tape tn (pl + 1) plt' pn (ln + nl c) lnt' ++ news) → Rem tape (pl + 1) r → Q (.str ⟨#[c]⟩ t) { s with heap := h', toks := k }) :
    wpAny (model PySem.Challenge.rw_rs0059_01.row.prog w) A (call (.ref 85) [.ref a.lexA]) Q E s := by
  refine wpAny_call (rc_K B F X₀ O N hn1 hn2 T hA hf hke hh hdp hun H.next.1 hl0 hl1 fun t k plt' lnt' h' F' N' => ?_)
  rw [nl_is] at N'
  exact h t k plt' lnt' h' F' N' H.next.2
end
local macro_rules | `(tactic| k_room) => `(tactic| ((try simp only [depth_under_make, depth_under_kw, depth_in1, depth_deeper, depth_caller]); (try dsimp only); simp only [recursionLimit]; omega))
local macro_rules | `(tactic| k_all) => `(tactic| first | assumption | exact ne_of_lo (by assumption) | (refine ne_of_all (by assumption) ?_; (try dsimp only); omega))
section
variable {w : World} {A A₀ : Around} {s : Shared} {base h₀ : Heap} {outer : List Env} {L : Addr} {m mg mb : Str → Option Value} {news : List (Addr × Obj)} {p : Program} {loose : List Str} {mean : ExcName → Option Value}
  {a : RdA} {tape : Array Value} {tn : Nat} {pl : Int} {plt : Tok} {pn : Nat} {ln : Int} {lnt : Tok} {it mth : Addr} {st : Tok} {tok : Str} {tkt : Tok} {ch : Option Value} {Q : Flow → Shared → Prop} {px : Pos} {r : List Nat} {c : Nat}
/-- the bare word's end -/
theorem bare_ws (B : Below A₀ base outer h₀) (X₀ : (KK w.params).In h₀) (T : Top p loose mean mg mb h₀) (hA : A.frames = some (envG L :: outer)) (hh : A.handled = none) (hdp : A.depth < 375) (hun : A.units < 75) (O : a.Ok)
    (F : Fr h₀ L s.heap (mG a.lexA (.str tok tkt) it ch)) (N : News h₀ L s.heap (a.objs w.params tape tn pl plt pn ln lnt ++ (it, ciObj mth st) :: (mth, methodObj (.ref 85) (.ref a.lexA)) :: news))
    (hn1 : ∀ p ∈ (it, ciObj mth st) :: (mth, methodObj (.ref 85) (.ref a.lexA)) :: news, p.1 ≠ a.placeA) (hn2 : ∀ p ∈ (it, ciObj mth st) :: (mth, methodObj (.ref 85) (.ref a.lexA)) :: news, p.1 ≠ a.lexD)
    (hl0 : 0 ≤ ln) (hl1 : ln < 90000) (H : Rem tape pl (c :: r)) (hc : (!(Builtin.Str.occurrences (Str.ofString "\n\t\x0d ") ⟨#[c]⟩ 0 (Str.ofString "\n\t\x0d ").length 1).isEmpty) = true)
    (h : ∀ k plt' lnt' h' m', Fr h₀ L h' m' → News h₀ L h' (a.objs w.params tape tn (pl + 1) plt' pn (ln + nl c) lnt' ++ (it, ciObj mth st) :: (mth, methodObj (.ref 85) (.ref a.lexA)) :: news) → Rem tape (pl + 1) r → Q (.ret (.str tok tkt)) { s with heap := h', toks := k }) :
    ForAt PySem.Challenge.rw_rs0059_01.row.prog w A (.Name (Str.ofString "ch") px) (.ref it) b2 (envG L) Q s := by
  obtain ⟨hnd, dp, fr, gu, un⟩ := A
  cases hh
  cases hA
  replace hdp : dp < 375 := hdp
  replace hun : un < 75 := hun
  refine ForAt.turn (next_K B F X₀ O N hn1 hn2 T rfl rfl rfl rfl (Nat.lt_trans hdp (by decide)) (Nat.lt_trans hun (by decide)) (.head _) (.tail _ (.head _)) H hl0 (by omega) fun t k plt' lnt' h' F' N' H' => ?_)
  obtain ⟨dD, -, -, -, o1, o2, o3, o4, o5, o6, o7, o8, o9, o10⟩ := O
  dsimp only
  refine go_name ?_
  revert X₀
  k_fill
  intro X₀
  simp only [RdA.objs, List.cons_append, List.nil_append] at N'
  (try k_fold)
  repeat' (first | (k_unfold; (try dsimp only)) | walk1 | (dsimp only; walk1))
  all_goals (rename Fr _ _ _ _ => kF; rename News _ _ _ _ => kN; exact h _ _ _ _ _ kF kN H')
local macro_rules | `(tactic| walk_at "call ref") => `(tactic| (k_here; k_dflt (refine' rc_R ?B ?F ?X ?O ?N ?l1 ?l2 ?T ?A ?f ?k ?h ?d ?u ?H ?b0 ?b1 ?_; (case O => assumption); (case B => k_asm); (case F => k_asm); (case X => k_asm); (case N => assumption); (case l1 => assumption); (case l2 => assumption); (case T => k_asm); (case A => exact rfl); (case f => exact rfl); (case k => exact rfl); (case h => exact rfl); (case d => ((try simp only [depth_deeper]); (try dsimp only); omega)); (case u => ((try simp only [units_deeper]); (try dsimp only); omega)); (case H => assumption); (case b0 => omega); (case b1 => omega)); intro t' k' plt' lnt' h' F' N' H'; (simp only [RdA.objs, List.cons_append, List.nil_append] at N'); (try k_sweep)))
/-- the quoted word's end -/
theorem quo_end
    (B : Below A₀ base outer h₀) (X₀ : (KK w.params).In h₀) (T : Top p loose mean mg mb h₀) (hA : A.frames = some (envG L :: outer)) (hh : A.handled = none) (hdp : A.depth < 375) (hun : A.units < 75) (O : a.Ok)
    (F : Fr h₀ L s.heap (mG a.lexA (.str tok tkt) it ch)) (N : News h₀ L s.heap (a.objs w.params tape tn pl plt pn ln lnt ++ (it, ciObj mth st) :: (mth, methodObj (.ref 85) (.ref a.lexA)) :: news))
    (hn1 : ∀ p ∈ (it, ciObj mth st) :: (mth, methodObj (.ref 85) (.ref a.lexA)) :: news, p.1 ≠ a.placeA) (hn2 : ∀ p ∈ (it, ciObj mth st) :: (mth, methodObj (.ref 85) (.ref a.lexA)) :: news, p.1 ≠ a.lexD)
    (hl0 : 0 ≤ ln) (hl1 : ln < 90000) (H : Rem tape pl (34 :: r))
    (h : ∀ k plt' lnt' h' m', Fr h₀ L h' m' → News h₀ L h' (a.objs w.params tape tn (pl + 1) plt' pn (ln + nl 34) lnt' ++ (it, ciObj mth st) :: (mth, methodObj (.ref 85) (.ref a.lexA)) :: news) → Rem tape (pl + 1) r → Q (.ret (.str tok tkt)) { s with heap := h', toks := k }) :
    ForAt PySem.Challenge.rw_rs0059_01.row.prog w A (.Name (Str.ofString "ch") px) (.ref it) b1 (envG L) Q s := by
  obtain ⟨hnd, dp, fr, gu, un⟩ := A
  cases hh
  cases hA
  replace hdp : dp < 375 := hdp
  replace hun : un < 75 := hun
  have hb := nl_bd 34
  refine ForAt.turn (next_K B F X₀ O N hn1 hn2 T rfl rfl rfl rfl (Nat.lt_trans hdp (by decide)) (Nat.lt_trans hun (by decide)) (.head _) (.tail _ (.head _)) H hl0 (by omega) fun t k plt' lnt' h' F' N' H' => ?_)
  have O' := O
  obtain ⟨dD, -, -, -, o1, o2, o3, o4, o5, o6, o7, o8, o9, o10⟩ := O'
  dsimp only
  refine go_name ?_
  revert X₀
  k_fill
  intro X₀
  simp only [RdA.objs, List.cons_append, List.nil_append] at N'
  (try k_fold)
  repeat' (first | (k_unfold; (try dsimp only)) | walk1 | (dsimp only; walk1))
  all_goals (rename Fr _ _ _ _ => kF; rename News _ _ _ _ => kN; exact h _ _ _ _ _ kF kN H')
/-- a plain sign within quotes -/
theorem quo_plain
    (B : Below A₀ base outer h₀) (X₀ : (KK w.params).In h₀) (T : Top p loose mean mg mb h₀) (hA : A.frames = some (envG L :: outer)) (hh : A.handled = none) (hdp : A.depth < 375) (hun : A.units < 75) (O : a.Ok)
    (F : Fr h₀ L s.heap (mG a.lexA (.str (Str.ofString "") tkt) it ch)) (N : News h₀ L s.heap (a.objs w.params tape tn pl plt pn ln lnt ++ (it, ciObj mth st) :: (mth, methodObj (.ref 85) (.ref a.lexA)) :: news))
    (hn1 : ∀ p ∈ (it, ciObj mth st) :: (mth, methodObj (.ref 85) (.ref a.lexA)) :: news, p.1 ≠ a.placeA) (hn2 : ∀ p ∈ (it, ciObj mth st) :: (mth, methodObj (.ref 85) (.ref a.lexA)) :: news, p.1 ≠ a.lexD)
    (hl0 : 0 ≤ ln) (hl1 : ln < 90000) (H : Rem tape pl (c :: r)) (hc1 : ((⟨#[c]⟩ : Str) == Str.ofString "\"") = false) (hc2 : ((⟨#[c]⟩ : Str) == Str.ofString "\\") = false)
    (h : ∀ tkt' ch' k plt' lnt' h', Fr h₀ L h' (mG a.lexA (.str ⟨#[c]⟩ tkt') it ch') → News h₀ L h' (a.objs w.params tape tn (pl + 1) plt' pn (ln + nl c) lnt' ++ (it, ciObj mth st) :: (mth, methodObj (.ref 85) (.ref a.lexA)) :: news) → Rem tape (pl + 1) r → ForAt PySem.Challenge.rw_rs0059_01.row.prog w A (.Name (Str.ofString "ch") px) (.ref it) b1 (envG L) Q { s with heap := h', toks := k }) :
    ForAt PySem.Challenge.rw_rs0059_01.row.prog w A (.Name (Str.ofString "ch") px) (.ref it) b1 (envG L) Q s := by
  obtain ⟨hnd, dp, fr, gu, un⟩ := A
  cases hh
  cases hA
  replace hdp : dp < 375 := hdp
  replace hun : un < 75 := hun
  have hb := nl_bd c
  refine ForAt.turn (next_K B F X₀ O N hn1 hn2 T rfl rfl rfl rfl (Nat.lt_trans hdp (by decide)) (Nat.lt_trans hun (by decide)) (.head _) (.tail _ (.head _)) H hl0 (by omega) fun t k plt' lnt' h' F' N' H' => ?_)
  have O' := O
  obtain ⟨dD, -, -, -, o1, o2, o3, o4, o5, o6, o7, o8, o9, o10⟩ := O'
  dsimp only
  refine go_name ?_
  revert X₀
  k_fill
  intro X₀
  simp only [RdA.objs, List.cons_append, List.nil_append] at N'
  (try k_fold)
  repeat' (first | (k_unfold; (try dsimp only)) | walk1 | (dsimp only; walk1))
  all_goals (rename Fr _ _ _ _ => kF; rename News _ _ _ _ => kN; rename Rem _ _ _ => kH; simp only [mG_chp, mG_tokp, one_cat] at kF; exact h _ _ _ _ _ _ kF kN kH)
/-- a sign behind a backslash within quotes -/
theorem quo_esc
    (B : Below A₀ base outer h₀) (X₀ : (KK w.params).In h₀) (T : Top p loose mean mg mb h₀) (hA : A.frames = some (envG L :: outer)) (hh : A.handled = none) (hdp : A.depth < 375) (hun : A.units < 75) (O : a.Ok)
    (F : Fr h₀ L s.heap (mG a.lexA (.str (Str.ofString "") tkt) it ch)) (N : News h₀ L s.heap (a.objs w.params tape tn pl plt pn ln lnt ++ (it, ciObj mth st) :: (mth, methodObj (.ref 85) (.ref a.lexA)) :: news))
    (hn1 : ∀ p ∈ (it, ciObj mth st) :: (mth, methodObj (.ref 85) (.ref a.lexA)) :: news, p.1 ≠ a.placeA) (hn2 : ∀ p ∈ (it, ciObj mth st) :: (mth, methodObj (.ref 85) (.ref a.lexA)) :: news, p.1 ≠ a.lexD)
    (hl0 : 0 ≤ ln) (hl1 : ln < 90000) (H : Rem tape pl (92 :: c :: r))
    (h : ∀ tkt' ch' k plt' lnt' h', Fr h₀ L h' (mG a.lexA (.str ⟨#[c]⟩ tkt') it ch') → News h₀ L h' (a.objs w.params tape tn (pl + 1 + 1) plt' pn (ln + nl 92 + nl c) lnt' ++ (it, ciObj mth st) :: (mth, methodObj (.ref 85) (.ref a.lexA)) :: news) → Rem tape (pl + 1 + 1) r → ForAt PySem.Challenge.rw_rs0059_01.row.prog w A (.Name (Str.ofString "ch") px) (.ref it) b1 (envG L) Q { s with heap := h', toks := k }) :
    ForAt PySem.Challenge.rw_rs0059_01.row.prog w A (.Name (Str.ofString "ch") px) (.ref it) b1 (envG L) Q s := by
  obtain ⟨hnd, dp, fr, gu, un⟩ := A
  cases hh
  cases hA
  replace hdp : dp < 375 := hdp
  replace hun : un < 75 := hun
  have hb := nl_bd 92
  refine ForAt.turn (next_K B F X₀ O N hn1 hn2 T rfl rfl rfl rfl (Nat.lt_trans hdp (by decide)) (Nat.lt_trans hun (by decide)) (.head _) (.tail _ (.head _)) H hl0 (by omega) fun t k plt' lnt' h' F' N' H' => ?_)
  have O' := O
  obtain ⟨dD, -, -, -, o1, o2, o3, o4, o5, o6, o7, o8, o9, o10⟩ := O'
  dsimp only
  refine go_name ?_
  revert X₀
  k_fill
  intro X₀
  simp only [RdA.objs, List.cons_append, List.nil_append] at N'
  (try k_fold)
  repeat' (first | (k_unfold; (try dsimp only)) | walk1 | (dsimp only; walk1))
  all_goals (rename Fr _ _ _ _ => kF; rename News _ _ _ _ => kN; rename Rem _ _ _ => kH; simp only [mG_chp, mG_tokp, one_cat] at kF; exact h _ _ _ _ _ _ kF kN kH)
/-- white signs ahead of a word -/
theorem out_ws
    (B : Below A₀ base outer h₀) (X₀ : (KK w.params).In h₀) (T : Top p loose mean mg mb h₀) (hA : A.frames = some (envG L :: outer)) (hh : A.handled = none) (hdp : A.depth < 375) (hun : A.units < 75) (O : a.Ok)
    (F : Fr h₀ L s.heap (mG a.lexA (.str (Str.ofString "") tkt) it ch)) (N : News h₀ L s.heap (a.objs w.params tape tn pl plt pn ln lnt ++ (it, ciObj mth st) :: (mth, methodObj (.ref 85) (.ref a.lexA)) :: news))
    (hn1 : ∀ p ∈ (it, ciObj mth st) :: (mth, methodObj (.ref 85) (.ref a.lexA)) :: news, p.1 ≠ a.placeA) (hn2 : ∀ p ∈ (it, ciObj mth st) :: (mth, methodObj (.ref 85) (.ref a.lexA)) :: news, p.1 ≠ a.lexD)
    (hl0 : 0 ≤ ln) (hl1 : ln < 90000) (H : Rem tape pl (c :: r)) (hc : inWs c = true)
    (h : ∀ tkt' ch' k plt' lnt' h', Fr h₀ L h' (mG a.lexA (.str (Str.ofString "") tkt') it ch') → News h₀ L h' (a.objs w.params tape tn (pl + 1) plt' pn (ln + nl c) lnt' ++ (it, ciObj mth st) :: (mth, methodObj (.ref 85) (.ref a.lexA)) :: news) → Rem tape (pl + 1) r → ForAt PySem.Challenge.rw_rs0059_01.row.prog w A (.Name (Str.ofString "ch") px) (.ref it) b0 (envG L) Q { s with heap := h', toks := k }) :
    ForAt PySem.Challenge.rw_rs0059_01.row.prog w A (.Name (Str.ofString "ch") px) (.ref it) b0 (envG L) Q s := by
  obtain ⟨hnd, dp, fr, gu, un⟩ := A
  cases hh
  cases hA
  replace hdp : dp < 375 := hdp
  replace hun : un < 75 := hun
  have hb := nl_bd c
  refine ForAt.turn (next_K B F X₀ O N hn1 hn2 T rfl rfl rfl rfl (Nat.lt_trans hdp (by decide)) (Nat.lt_trans hun (by decide)) (.head _) (.tail _ (.head _)) H hl0 (by omega) fun t k plt' lnt' h' F' N' H' => ?_)
  have O' := O
  obtain ⟨dD, -, -, -, o1, o2, o3, o4, o5, o6, o7, o8, o9, o10⟩ := O'
  dsimp only
  refine go_name ?_
  revert X₀
  k_fill
  intro X₀
  simp only [RdA.objs, List.cons_append, List.nil_append] at N'
  (try k_fold)
  repeat' (first | (k_unfold; (try dsimp only)) | walk1 | (dsimp only; walk1))
  all_goals (rename Fr _ _ _ _ => kF; rename News _ _ _ _ => kN; rename Rem _ _ _ => kH; simp only [mG_chp, mG_tokp, one_cat] at kF; exact h _ _ _ _ _ _ kF kN kH)
/-- a bare word's first sign -/
theorem out_plain
    (B : Below A₀ base outer h₀) (X₀ : (KK w.params).In h₀) (T : Top p loose mean mg mb h₀) (hA : A.frames = some (envG L :: outer)) (hh : A.handled = none) (hdp : A.depth < 375) (hun : A.units < 75) (O : a.Ok)
    (F : Fr h₀ L s.heap (mG a.lexA (.str (Str.ofString "") tkt) it ch)) (N : News h₀ L s.heap (a.objs w.params tape tn pl plt pn ln lnt ++ (it, ciObj mth st) :: (mth, methodObj (.ref 85) (.ref a.lexA)) :: news))
    (hn1 : ∀ p ∈ (it, ciObj mth st) :: (mth, methodObj (.ref 85) (.ref a.lexA)) :: news, p.1 ≠ a.placeA) (hn2 : ∀ p ∈ (it, ciObj mth st) :: (mth, methodObj (.ref 85) (.ref a.lexA)) :: news, p.1 ≠ a.lexD)
    (hl0 : 0 ≤ ln) (hl1 : ln < 90000) (H : Rem tape pl (c :: r)) (hc : inWs c = false) (hc1 : ((⟨#[c]⟩ : Str) == Str.ofString "\"") = false) (hc2 : ((⟨#[c]⟩ : Str) == Str.ofString "\\") = false)
    (h : ∀ (Q' : Flow → Shared → Prop) px' tkt' ch' k plt' lnt' h', (∀ v s', Q (.ret v) s' → Q' (.ret v) s') → Fr h₀ L h' (mG a.lexA (.str ⟨#[c]⟩ tkt') it ch') → News h₀ L h' (a.objs w.params tape tn (pl + 1) plt' pn (ln + nl c) lnt' ++ (it, ciObj mth st) :: (mth, methodObj (.ref 85) (.ref a.lexA)) :: news) → Rem tape (pl + 1) r → ForAt PySem.Challenge.rw_rs0059_01.row.prog w A (.Name (Str.ofString "ch") px') (.ref it) b2 (envG L) Q' { s with heap := h', toks := k }) :
    ForAt PySem.Challenge.rw_rs0059_01.row.prog w A (.Name (Str.ofString "ch") px) (.ref it) b0 (envG L) Q s := by
  obtain ⟨hnd, dp, fr, gu, un⟩ := A
  cases hh
  cases hA
  replace hdp : dp < 375 := hdp
  replace hun : un < 75 := hun
  have hb := nl_bd c
  refine ForAt.turn (next_K B F X₀ O N hn1 hn2 T rfl rfl rfl rfl (Nat.lt_trans hdp (by decide)) (Nat.lt_trans hun (by decide)) (.head _) (.tail _ (.head _)) H hl0 (by omega) fun t k plt' lnt' h' F' N' H' => ?_)
  have O' := O
  obtain ⟨dD, -, -, -, o1, o2, o3, o4, o5, o6, o7, o8, o9, o10⟩ := O'
  dsimp only
  refine go_name ?_
  revert X₀
  k_fill
  intro X₀
  simp only [RdA.objs, List.cons_append, List.nil_append] at N'
  (try k_fold)
  repeat' (first | (k_unfold; (try dsimp only)) | walk1 | (dsimp only; walk1))
  all_goals (refine' For_at ?_ ?hs; (case hs => intro _; rfl))
  all_goals repeat' (first | (k_unfold; (try dsimp only)) | walk1 | (dsimp only; walk1))
  all_goals (rename Fr _ _ _ _ => kF; rename News _ _ _ _ => kN; rename Rem _ _ _ => kH)
  all_goals refine pyIter_ci kN (o := ciObj mth st) (by k_mem) rfl ?_
  all_goals (simp only [mG_chp, mG_tokp, one_cat] at kF; exact h _ _ _ _ _ _ _ _ (fun _ _ q => q) kF kN kH)
/-- a bare word's first sign behind a backslash -/
theorem out_esc
    (B : Below A₀ base outer h₀) (X₀ : (KK w.params).In h₀) (T : Top p loose mean mg mb h₀) (hA : A.frames = some (envG L :: outer)) (hh : A.handled = none) (hdp : A.depth < 375) (hun : A.units < 75) (O : a.Ok)
    (F : Fr h₀ L s.heap (mG a.lexA (.str (Str.ofString "") tkt) it ch)) (N : News h₀ L s.heap (a.objs w.params tape tn pl plt pn ln lnt ++ (it, ciObj mth st) :: (mth, methodObj (.ref 85) (.ref a.lexA)) :: news))
    (hn1 : ∀ p ∈ (it, ciObj mth st) :: (mth, methodObj (.ref 85) (.ref a.lexA)) :: news, p.1 ≠ a.placeA) (hn2 : ∀ p ∈ (it, ciObj mth st) :: (mth, methodObj (.ref 85) (.ref a.lexA)) :: news, p.1 ≠ a.lexD)
    (hl0 : 0 ≤ ln) (hl1 : ln < 90000) (H : Rem tape pl (92 :: c :: r))
    (h : ∀ (Q' : Flow → Shared → Prop) px' tkt' ch' k plt' lnt' h', (∀ v s', Q (.ret v) s' → Q' (.ret v) s') → Fr h₀ L h' (mG a.lexA (.str ⟨#[c]⟩ tkt') it ch') → News h₀ L h' (a.objs w.params tape tn (pl + 1 + 1) plt' pn (ln + nl 92 + nl c) lnt' ++ (it, ciObj mth st) :: (mth, methodObj (.ref 85) (.ref a.lexA)) :: news) → Rem tape (pl + 1 + 1) r → ForAt PySem.Challenge.rw_rs0059_01.row.prog w A (.Name (Str.ofString "ch") px') (.ref it) b2 (envG L) Q' { s with heap := h', toks := k }) :
    ForAt PySem.Challenge.rw_rs0059_01.row.prog w A (.Name (Str.ofString "ch") px) (.ref it) b0 (envG L) Q s := by
  obtain ⟨hnd, dp, fr, gu, un⟩ := A
  cases hh
  cases hA
  replace hdp : dp < 375 := hdp
  replace hun : un < 75 := hun
  have hb := nl_bd 92
  refine ForAt.turn (next_K B F X₀ O N hn1 hn2 T rfl rfl rfl rfl (Nat.lt_trans hdp (by decide)) (Nat.lt_trans hun (by decide)) (.head _) (.tail _ (.head _)) H hl0 (by omega) fun t k plt' lnt' h' F' N' H' => ?_)
  have O' := O
  obtain ⟨dD, -, -, -, o1, o2, o3, o4, o5, o6, o7, o8, o9, o10⟩ := O'
  dsimp only
  refine go_name ?_
  revert X₀
  k_fill
  intro X₀
  simp only [RdA.objs, List.cons_append, List.nil_append] at N'
  (try k_fold)
  repeat' (first | (k_unfold; (try dsimp only)) | walk1 | (dsimp only; walk1))
  all_goals try (exact absurd (by assumption : (Builtin.Str.occurrences (Str.ofString "\n\t\x0d ") (Str.ofString "\\") 0 (Str.ofString "\n\t\x0d ").length 1).isEmpty = false) (by decide +kernel))
  all_goals (refine' For_at ?_ ?hs; (case hs => intro _; rfl))
  all_goals repeat' (first | (k_unfold; (try dsimp only)) | walk1 | (dsimp only; walk1))
  all_goals (rename Fr _ _ _ _ => kF; rename News _ _ _ _ => kN; rename Rem _ _ _ => kH)
  all_goals refine pyIter_ci kN (o := ciObj mth st) (by k_mem) rfl ?_
  all_goals (simp only [mG_chp, mG_tokp, one_cat] at kF; exact h _ _ _ _ _ _ _ _ (fun _ _ q => q) kF kN kH)
/-- a quote opens -/
theorem out_quo
    (B : Below A₀ base outer h₀) (X₀ : (KK w.params).In h₀) (T : Top p loose mean mg mb h₀) (hA : A.frames = some (envG L :: outer)) (hh : A.handled = none) (hdp : A.depth < 375) (hun : A.units < 75) (O : a.Ok)
    (F : Fr h₀ L s.heap (mG a.lexA (.str (Str.ofString "") tkt) it ch)) (N : News h₀ L s.heap (a.objs w.params tape tn pl plt pn ln lnt ++ (it, ciObj mth st) :: (mth, methodObj (.ref 85) (.ref a.lexA)) :: news))
    (hn1 : ∀ p ∈ (it, ciObj mth st) :: (mth, methodObj (.ref 85) (.ref a.lexA)) :: news, p.1 ≠ a.placeA) (hn2 : ∀ p ∈ (it, ciObj mth st) :: (mth, methodObj (.ref 85) (.ref a.lexA)) :: news, p.1 ≠ a.lexD)
    (hl0 : 0 ≤ ln) (hl1 : ln < 90000) (H : Rem tape pl (34 :: r))
    (h : ∀ (Q' : Flow → Shared → Prop) px' tkt' ch' k plt' lnt' h', (∀ v s', Q (.ret v) s' → Q' (.ret v) s') → Fr h₀ L h' (mG a.lexA (.str (Str.ofString "") tkt') it ch') → News h₀ L h' (a.objs w.params tape tn (pl + 1) plt' pn (ln + nl 34) lnt' ++ (it, ciObj mth st) :: (mth, methodObj (.ref 85) (.ref a.lexA)) :: news) → Rem tape (pl + 1) r → ForAt PySem.Challenge.rw_rs0059_01.row.prog w A (.Name (Str.ofString "ch") px') (.ref it) b1 (envG L) Q' { s with heap := h', toks := k }) :
    ForAt PySem.Challenge.rw_rs0059_01.row.prog w A (.Name (Str.ofString "ch") px) (.ref it) b0 (envG L) Q s := by
  obtain ⟨hnd, dp, fr, gu, un⟩ := A
  cases hh
  cases hA
  replace hdp : dp < 375 := hdp
  replace hun : un < 75 := hun
  have hb := nl_bd 34
  refine ForAt.turn (next_K B F X₀ O N hn1 hn2 T rfl rfl rfl rfl (Nat.lt_trans hdp (by decide)) (Nat.lt_trans hun (by decide)) (.head _) (.tail _ (.head _)) H hl0 (by omega) fun t k plt' lnt' h' F' N' H' => ?_)
  have O' := O
  obtain ⟨dD, -, -, -, o1, o2, o3, o4, o5, o6, o7, o8, o9, o10⟩ := O'
  dsimp only
  refine go_name ?_
  revert X₀
  k_fill
  intro X₀
  simp only [RdA.objs, List.cons_append, List.nil_append] at N'
  (try k_fold)
  repeat' (first | (k_unfold; (try dsimp only)) | walk1 | (dsimp only; walk1))
  all_goals try (exact absurd (by assumption : (Builtin.Str.occurrences (Str.ofString "\n\t\x0d ") (Str.ofString "\"") 0 (Str.ofString "\n\t\x0d ").length 1).isEmpty = false) (by decide +kernel))
  all_goals (refine' For_at ?_ ?hs; (case hs => intro _; rfl))
  all_goals repeat' (first | (k_unfold; (try dsimp only)) | walk1 | (dsimp only; walk1))
  all_goals (rename Fr _ _ _ _ => kF; rename News _ _ _ _ => kN; rename Rem _ _ _ => kH)
  all_goals refine pyIter_ci kN (o := ciObj mth st) (by k_mem) rfl ?_
  all_goals (simp only [mG_chp, mG_tokp, one_cat] at kF; exact h _ _ _ _ _ _ _ _ (fun _ _ q => q) kF kN kH)
end
end Mine
end
section
open PySem PySem.W PySem.Calls PyProof.Rows
set_option maxRecDepth 100000
set_option maxHeartbeats 0
set_option linter.unusedVariables false
namespace Mine
def isSpc (c : Nat) : Bool := c == 10 || c == 9 || c == 13 || c == 32 || c == 34 || c == 92
/-- a word up to its end, and the white signs behind it -/
def coreL (c mn : Nat) : List Nat :=
  if mn = 0 then (if isSpc c then [92] else []) ++ [c, 10]
  else if mn = 1 then [34] ++ (if c = 34 ∨ c = 92 then [92] else []) ++ [c, 34]
  else if mn = 2 then [92, c, 32] else [34, 92, c, 34]
def tailL (mn : Nat) : List Nat := if mn = 0 then [] else if mn = 1 then [] else if mn = 2 then [] else [13, 10, 9]
def nls (l : List Nat) : Int := (l.map nl).sum
theorem ws_fact : decide (∀ c : _root_.Fin 256, inWs c.1 = (c.1 == 10 || c.1 == 9 || c.1 == 13 || c.1 == 32)) = true := by decide +kernel
theorem eq34_fact : decide (∀ c : _root_.Fin 256, ((⟨#[c.1]⟩ : Str) == Str.ofString "\"") = (c.1 == 34)) = true := by decide +kernel
theorem eq92_fact : decide (∀ c : _root_.Fin 256, ((⟨#[c.1]⟩ : Str) == Str.ofString "\\") = (c.1 == 92)) = true := by decide +kernel
section
variable {w : World} {A A₀ : Around} {s : Shared} {base h₀ : Heap} {outer : List Env} {L : Addr} {m mg mb : Str → Option Value} {news : List (Addr × Obj)} {p : Program} {loose : List Str} {mean : ExcName → Option Value}
  {a : RdA} {tape : Array Value} {tn : Nat} {pl : Int} {plt : Tok} {pn : Nat} {ln : Int} {lnt : Tok} {it mth : Addr} {st : Tok} {tkt : Tok} {ch : Option Value} {Q : Flow → Shared → Prop} {px : Pos} {r : List Nat} {c : Nat}
theorem word_at (B : Below A₀ base outer h₀) (X₀ : (KK w.params).In h₀) (T : Top p loose mean mg mb h₀) (hA : A.frames = some (envG L :: outer)) (hh : A.handled = none) (hdp : A.depth < 375) (hun : A.units < 75) (O : a.Ok)
    (F : Fr h₀ L s.heap (mG a.lexA (.str (Str.ofString "") tkt) it ch)) (N : News h₀ L s.heap (a.objs w.params tape tn pl plt pn ln lnt ++ (it, ciObj mth st) :: (mth, methodObj (.ref 85) (.ref a.lexA)) :: news))
    (hn1 : ∀ p ∈ (it, ciObj mth st) :: (mth, methodObj (.ref 85) (.ref a.lexA)) :: news, p.1 ≠ a.placeA) (hn2 : ∀ p ∈ (it, ciObj mth st) :: (mth, methodObj (.ref 85) (.ref a.lexA)) :: news, p.1 ≠ a.lexD)
    (hl0 : 0 ≤ ln) (hl1 : ln < 80000) (mn : Nat) (hc : c < 256) (H : Rem tape pl (coreL c mn ++ r))
    (h : ∀ tk k plt' lnt' h' m' pl' ln', pl' = pl + (coreL c mn).length → ln' = ln + nls (coreL c mn) → Fr h₀ L h' m' → News h₀ L h' (a.objs w.params tape tn pl' plt' pn ln' lnt' ++ (it, ciObj mth st) :: (mth, methodObj (.ref 85) (.ref a.lexA)) :: news) → Rem tape pl' r →
      Q (.ret (.str ⟨#[c]⟩ tk)) { s with heap := h', toks := k }) :
    ForAt PySem.Challenge.rw_rs0059_01.row.prog w A (.Name (Str.ofString "ch") px) (.ref it) b0 (envG L) Q s := by
  have e1 : inWs c = _ := of_decide_eq_true ws_fact ⟨c, hc⟩
  have e2 := of_decide_eq_true eq34_fact ⟨c, hc⟩
  have e3 := of_decide_eq_true eq92_fact ⟨c, hc⟩
  dsimp only at e1 e2 e3
  have n34 : nl 34 = 0 := rfl
  have n92 : nl 92 = 0 := rfl
  have n32 : nl 32 = 0 := rfl
  have n10 : nl 10 = 1 := rfl
  have hb := nl_bd c
  have w10 : inWs 10 = true := by decide +kernel
  have w32 : inWs 32 = true := by decide +kernel
  by_cases m0 : mn = 0
  · have ec : coreL c mn = (if isSpc c then [92] else []) ++ [c, 10] := if_pos m0
    by_cases hs : isSpc c = true
    · rw [if_pos hs] at ec
      rw [ec] at H h
      refine out_esc B X₀ T hA hh hdp hun O F N hn1 hn2 hl0 (by omega) H fun Q' px' tkt' ch' k plt' lnt' h' hQ F' N' H' => ?_
      refine bare_ws B X₀ T hA hh hdp hun O F' N' hn1 hn2 (by omega) (by omega) H' w10 fun k plt' lnt' h' m' F' N' H' => ?_
      exact hQ _ _ (h _ _ _ _ _ _ _ _ (by simp only [List.length_append, List.length_cons, List.length_nil]; omega) (by simp only [nls, List.cons_append, List.nil_append, List.map_cons, List.map_nil, List.sum_cons, List.sum_nil]; omega) F' N' H')
    · rw [if_neg hs] at ec
      rw [ec] at H h
      simp only [isSpc, Bool.or_eq_true, beq_iff_eq, not_or] at hs
      refine out_plain B X₀ T hA hh hdp hun O F N hn1 hn2 hl0 (by omega) H (e1.trans (by simp [hs])) (e2.trans (by simp [hs])) (e3.trans (by simp [hs])) fun Q' px' tkt' ch' k plt' lnt' h' hQ F' N' H' => ?_
      refine bare_ws B X₀ T hA hh hdp hun O F' N' hn1 hn2 (by omega) (by omega) H' w10 fun k plt' lnt' h' m' F' N' H' => ?_
      exact hQ _ _ (h _ _ _ _ _ _ _ _ (by simp only [List.length_append, List.length_cons, List.length_nil]; omega) (by simp only [nls, List.cons_append, List.nil_append, List.map_cons, List.map_nil, List.sum_cons, List.sum_nil]; omega) F' N' H')
  by_cases m1 : mn = 1
  · have ec : coreL c mn = [34] ++ (if c = 34 ∨ c = 92 then [92] else []) ++ [c, 34] := (if_neg m0).trans (if_pos m1)
    by_cases hs : c = 34 ∨ c = 92
    · rw [if_pos hs] at ec
      rw [ec] at H h
      refine out_quo B X₀ T hA hh hdp hun O F N hn1 hn2 hl0 (by omega) H fun Q' px' tkt' ch' k plt' lnt' h' hQ F' N' H' => ?_
      refine quo_esc B X₀ T hA hh hdp hun O F' N' hn1 hn2 (by omega) (by omega) H' fun tkt' ch' k plt' lnt' h' F' N' H' => ?_
      refine quo_end B X₀ T hA hh hdp hun O F' N' hn1 hn2 (by omega) (by omega) H' fun k plt' lnt' h' m' F' N' H' => ?_
      exact hQ _ _ (h _ _ _ _ _ _ _ _ (by simp only [List.length_append, List.length_cons, List.length_nil]; omega) (by simp only [nls, List.cons_append, List.nil_append, List.map_cons, List.map_nil, List.sum_cons, List.sum_nil]; omega) F' N' H')
    · rw [if_neg hs] at ec
      rw [ec] at H h
      refine out_quo B X₀ T hA hh hdp hun O F N hn1 hn2 hl0 (by omega) H fun Q' px' tkt' ch' k plt' lnt' h' hQ F' N' H' => ?_
      refine quo_plain B X₀ T hA hh hdp hun O F' N' hn1 hn2 (by omega) (by omega) H' (e2.trans (by simp; omega)) (e3.trans (by simp; omega)) fun tkt' ch' k plt' lnt' h' F' N' H' => ?_
      refine quo_end B X₀ T hA hh hdp hun O F' N' hn1 hn2 (by omega) (by omega) H' fun k plt' lnt' h' m' F' N' H' => ?_
      exact hQ _ _ (h _ _ _ _ _ _ _ _ (by simp only [List.length_append, List.length_cons, List.length_nil]; omega) (by simp only [nls, List.cons_append, List.nil_append, List.map_cons, List.map_nil, List.sum_cons, List.sum_nil]; omega) F' N' H')
  by_cases m2 : mn = 2
  · have ec : coreL c mn = [92, c, 32] := (if_neg m0).trans ((if_neg m1).trans (if_pos m2))
    rw [ec] at H h
    refine out_esc B X₀ T hA hh hdp hun O F N hn1 hn2 hl0 (by omega) H fun Q' px' tkt' ch' k plt' lnt' h' hQ F' N' H' => ?_
    refine bare_ws B X₀ T hA hh hdp hun O F' N' hn1 hn2 (by omega) (by omega) H' w32 fun k plt' lnt' h' m' F' N' H' => ?_
    exact hQ _ _ (h _ _ _ _ _ _ _ _ (by simp only [List.length_append, List.length_cons, List.length_nil]; omega) (by simp only [nls, List.cons_append, List.nil_append, List.map_cons, List.map_nil, List.sum_cons, List.sum_nil]; omega) F' N' H')
  · have ec : coreL c mn = [34, 92, c, 34] := (if_neg m0).trans ((if_neg m1).trans (if_neg m2))
    rw [ec] at H h
    refine out_quo B X₀ T hA hh hdp hun O F N hn1 hn2 hl0 (by omega) H fun Q' px' tkt' ch' k plt' lnt' h' hQ F' N' H' => ?_
    refine quo_esc B X₀ T hA hh hdp hun O F' N' hn1 hn2 (by omega) (by omega) H' fun tkt' ch' k plt' lnt' h' F' N' H' => ?_
    refine quo_end B X₀ T hA hh hdp hun O F' N' hn1 hn2 (by omega) (by omega) H' fun k plt' lnt' h' m' F' N' H' => ?_
    exact hQ _ _ (h _ _ _ _ _ _ _ _ (by simp only [List.length_append, List.length_cons, List.length_nil]; omega) (by simp only [nls, List.cons_append, List.nil_append, List.map_cons, List.map_nil, List.sum_cons, List.sum_nil]; omega) F' N' H')
/-- the white signs ahead of a word -/
theorem ws_at (B : Below A₀ base outer h₀) (X₀ : (KK w.params).In h₀) (T : Top p loose mean mg mb h₀) (hA : A.frames = some (envG L :: outer)) (hh : A.handled = none) (hdp : A.depth < 375) (hun : A.units < 75) (O : a.Ok)
    (hn1 : ∀ p ∈ (it, ciObj mth st) :: (mth, methodObj (.ref 85) (.ref a.lexA)) :: news, p.1 ≠ a.placeA) (hn2 : ∀ p ∈ (it, ciObj mth st) :: (mth, methodObj (.ref 85) (.ref a.lexA)) :: news, p.1 ≠ a.lexD) :
    ∀ (ws : List Nat) (s : Shared) (pl : Int) (plt : Tok) (ln : Int) (lnt tkt : Tok) (ch : Option Value)
    (F : Fr h₀ L s.heap (mG a.lexA (.str (Str.ofString "") tkt) it ch)) (N : News h₀ L s.heap (a.objs w.params tape tn pl plt pn ln lnt ++ (it, ciObj mth st) :: (mth, methodObj (.ref 85) (.ref a.lexA)) :: news))
    (hl0 : 0 ≤ ln) (hl1 : ln + ws.length < 80000) (hw : ∀ x ∈ ws, inWs x = true) (H : Rem tape pl (ws ++ r))
    (h : ∀ tkt' ch' k plt' lnt' h' pl' ln', pl' = pl + ws.length → ln' = ln + nls ws → 0 ≤ ln' → Fr h₀ L h' (mG a.lexA (.str (Str.ofString "") tkt') it ch') → News h₀ L h' (a.objs w.params tape tn pl' plt' pn ln' lnt' ++ (it, ciObj mth st) :: (mth, methodObj (.ref 85) (.ref a.lexA)) :: news) → Rem tape pl' r →
      ForAt PySem.Challenge.rw_rs0059_01.row.prog w A (.Name (Str.ofString "ch") px) (.ref it) b0 (envG L) Q { s with heap := h', toks := k }),
    ForAt PySem.Challenge.rw_rs0059_01.row.prog w A (.Name (Str.ofString "ch") px) (.ref it) b0 (envG L) Q s
  | [], s, pl, plt, ln, lnt, tkt, ch, F, N, hl0, hl1, hw, H, h => h tkt ch s.toks plt lnt s.heap pl ln (by simp) (by simp [nls]) hl0 F N H
  | x :: ws, s, pl, plt, ln, lnt, tkt, ch, F, N, hl0, hl1, hw, H, h => by
    have hb := nl_bd x
    rw [List.length_cons] at hl1
    refine out_ws B X₀ T hA hh hdp hun O F N hn1 hn2 hl0 (by omega) H (hw x (.head _)) fun tkt' ch' k plt' lnt' h' F' N' H' => ?_
    refine ws_at B X₀ T hA hh hdp hun O hn1 hn2 ws _ _ _ _ _ _ _ F' N' (by omega) (by omega) (fun y hy => hw y (.tail _ hy)) H' fun tkt' ch' k plt' lnt' h' pl' ln' e1 e2 e3 F' N' H' => ?_
    exact h _ _ _ _ _ _ _ _ (by rw [List.length_cons]; omega) (by simp only [nls, List.map_cons, List.sum_cons] at e2 ⊢; omega) e3 F' N' H'
end
end Mine
end
section
open PySem PySem.W PySem.Calls PyProof.Rows
set_option maxRecDepth 100000
set_option maxHeartbeats 0
set_option linter.unusedVariables false
namespace Mine
local macro_rules | `(tactic| k_room) => `(tactic| ((try simp only [depth_under_make, depth_under_kw, depth_in1, depth_deeper, depth_caller]); (try dsimp only); simp only [recursionLimit]; omega))
local macro_rules | `(tactic| k_all) => `(tactic| first | assumption | exact ne_of_lo (by assumption) | (refine ne_of_all (by assumption) ?_; (try dsimp only); omega))
local macro_rules | `(tactic| walk_at "call builtin:iter") => `(tactic| (k_here; k_dflt (refine' iter2_K ?F ?N ?m ?_; (case F => k_asm); (case N => k_asm); (case m => k_mem)); intro it' h' F' N' l1; (try k_lt l1); (try k_sweep)))
section
variable {w : World} {A A₀ : Around} {s : Shared} {base h₀ : Heap} {outer : List Env} {L : Addr} {m mg mb : Str → Option Value} {env : Env} {news : List (Addr × Obj)} {R : Result → Shared → Prop} {p : Program} {loose : List Str} {mean : ExcName → Option Value}
theorem Fr.start {h₀ h : Heap} {L it lex : Addr} {tok : Value} {l : List (Str × Value)} (F : Fr h₀ L h fun y => if y = Str.ofString "fiter" then some (.ref it) else if y = Str.ofString "token" then some tok else List.lookup y l) (e : l = [(Str.ofString "self", .ref lex)]) :
    Fr h₀ L h (mG lex tok it none) := by
  have q : (fun y => if y = Str.ofString "fiter" then some (Value.ref it) else if y = Str.ofString "token" then some tok else List.lookup y l) = mG lex tok it none := by
    subst e
    funext y
    unfold mG
    by_cases h0 : y = Str.ofString "ch"
    · subst h0; rw [if_pos rfl, if_neg (by decide +kernel), if_neg (by decide +kernel)]
      rw [List.lookup_cons, show (Str.ofString "ch" == Str.ofString "self") = false by decide +kernel]; rfl
    rw [if_neg h0]
    by_cases h1 : y = Str.ofString "token"
    · subst h1; rw [if_neg (by decide +kernel), if_pos rfl, if_pos rfl]
    rw [if_neg h1, if_neg h1]
    by_cases h2 : y = Str.ofString "fiter"
    · rw [if_pos h2, if_pos h2]
    rw [if_neg h2, if_neg h2]
    by_cases h3 : y = Str.ofString "self"
    · subst h3; rw [if_pos rfl, List.lookup_cons, beq_self_eq_true]
    · rw [if_neg h3, List.lookup_cons, beq_false_of_ne h3]; rfl
  exact q ▸ F
theorem News.swap {P : Params} {h₀ h : Heap} {L it mth : Addr} {o1 o2 : Obj} {news : List (Addr × Obj)} {a : RdA} {tape : Array Value} {tn : Nat} {pl : Int} {plt : Tok} {pn : Nat} {ln : Int} {lnt : Tok}
    (N : News h₀ L h ((it, o1) :: (mth, o2) :: (a.objs P tape tn pl plt pn ln lnt ++ news))) : News h₀ L h (a.objs P tape tn pl plt pn ln lnt ++ (it, o1) :: (mth, o2) :: news) := fun p hp => by
  refine N p ?_
  rcases List.mem_append.mp hp with q | q
  · exact .tail _ (.tail _ (List.mem_append_left _ q))
  · rcases List.mem_cons.mp q with rfl | q
    · exact .head _
    · rcases List.mem_cons.mp q with rfl | q
      · exact .tail _ (.head _)
      · exact .tail _ (.tail _ (List.mem_append_right _ q))
theorem News.unswap {P : Params} {h₀ h : Heap} {L it mth : Addr} {o1 o2 : Obj} {news : List (Addr × Obj)} {a : RdA} {tape : Array Value} {tn : Nat} {pl : Int} {plt : Tok} {pn : Nat} {ln : Int} {lnt : Tok}
    (N : News h₀ L h (a.objs P tape tn pl plt pn ln lnt ++ (it, o1) :: (mth, o2) :: news)) : News h₀ L h (a.objs P tape tn pl plt pn ln lnt ++ news) := fun p hp => by
  refine N p ?_
  rcases List.mem_append.mp hp with q | q
  · exact List.mem_append_left _ q
  · exact List.mem_append_right _ (.tail _ (.tail _ q))
theorem nls_bd : ∀ l : List Nat, 0 ≤ nls l ∧ nls l ≤ l.length
  | [] => by simp [nls]
  | x :: l => by
    have h1 := nl_bd x
    have h2 := nls_bd l
    simp only [nls, List.map_cons, List.sum_cons, List.length_cons] at h2 ⊢
    omega
theorem gt_word (B : Below A₀ base outer h₀) (F : Fr h₀ L s.heap m) (X₀ : (KK w.params).In h₀) {a : RdA} {tape : Array Value} {tn : Nat} {pl : Int} {plt : Tok} {pn : Nat} {ln : Int} {lnt : Tok} (O : a.Ok)
    (N : News h₀ L s.heap (a.objs w.params tape tn pl plt pn ln lnt ++ news)) (hn1 : ∀ p ∈ news, p.1 ≠ a.placeA) (hn2 : ∀ p ∈ news, p.1 ≠ a.lexD)
    (T : Top p loose mean mg mb h₀) (hA : A.frames = some (env :: outer)) (hf : env.frame = some L) (hke : env.scope.kind = .function) (hh : A.handled = none) (hdp : A.depth < 370) (hun : A.units < 70)
    (hl0 : 0 ≤ ln) (hl1 : ln < 70000) {ws r : List Nat} {c : Nat} (mn : Nat) (hc : c < 256) (hw : ∀ x ∈ ws, inWs x = true) (hws : ws.length ≤ 3) (H : Rem tape pl (ws ++ (coreL c mn ++ r)))
    (h : ∀ tk k plt' lnt' h' pl' ln', pl' = pl + ws.length + (coreL c mn).length → ln' = ln + nls ws + nls (coreL c mn) → Fr h₀ L h' m → News h₀ L h' (a.objs w.params tape tn pl' plt' pn ln' lnt' ++ news) → Rem tape pl' r → R (.ok (.ret (.str ⟨#[c]⟩ tk))) { s with heap := h', toks := k }) :
    codeAny (model PySem.Challenge.rw_rs0059_01.row.prog w) A (.call (.ref 92) ⟨[.ref a.lexA], []⟩) R s := by
  obtain ⟨hnd, dp, fr, gu, un⟩ := A
  cases hh
  cases hA
  replace hdp : dp < 370 := hdp
  replace hun : un < 70 := hun
  have O' := O
  obtain ⟨dD, -, -, -, o1, o2, o3, o4, o5, o6, o7, o8, o9, o10⟩ := O'
  revert X₀
  k_fill
  intro X₀
  refine' code_def B F X₀ N T rfl hf hke ?k6 ?k7 (Nat.lt_trans hdp (by decide)) ?k9 ?kB ?_ ?c2 ?c3 ?c4 ?c5
  case k6 => k_is
  case k7 => k_is
  case k9 => exact BindsTo.of_eq rfl
  case kB => exact locs rfl
  case c2 => exact rfl
  case c3 => exact rfl
  case c4 => exact rfl
  case c5 => decide
  intro g' L' h' FG' F' N' B' X' T'
  simp only [RdA.objs, List.cons_append, List.nil_append] at N'
  dsimp only
  (try k_lift B')
  (try k_fold)
  repeat' (first | (k_unfold; (try dsimp only)) | walk1 | (dsimp only; walk1))
  refine' For_at ?_ ?hs
  case hs => intro _; rfl
  repeat' (first | (k_unfold; (try dsimp only)) | walk1 | (dsimp only; walk1))
  rename Fr _ _ _ _ => kF
  rename News _ _ _ _ => kN
  rename _ ∧ _ => l1
  obtain ⟨li1, li2, li3, li4, li5, li6, li7, li8, li9, li10, li11, li12, li13⟩ := l1
  rename _ ∧ _ => l2
  obtain ⟨lj2, lj3, lj4, lj5, lj6, lj7, lj8, lj9, lj10, lj11, lj12, lj13⟩ := l2
  refine pyIter_ci kN (List.Mem.head _) rfl ?_
  have kF' := Fr.start (lex := a.lexA) kF rfl
  have kN' := News.swap (a := a) (tape := tape) (tn := tn) (pl := pl) (plt := plt) (pn := pn) (ln := ln) (lnt := lnt) (news := news) (P := w.params) kN
  have hb := nls_bd ws
  refine' ws_at B' X' T' rfl rfl ?d ?u O ?n1 ?n2 ws _ _ _ _ _ _ none kF' kN' hl0 ?l1 hw H fun tkt' ch' k plt' lnt' h' pl' ln' e1 e2 e3 F' N' H' => ?_
  case d => simp only [depth_deeper]; omega
  case u => simp only [units_deeper]; omega
  case l1 => omega
  case n1 => exact List.forall_mem_cons.mpr ⟨by (refine neN ?_; dsimp only; omega), List.forall_mem_cons.mpr ⟨by (refine neN ?_; dsimp only; omega), hn1⟩⟩
  case n2 => exact List.forall_mem_cons.mpr ⟨by (refine neN ?_; dsimp only; omega), List.forall_mem_cons.mpr ⟨by (refine neN ?_; dsimp only; omega), hn2⟩⟩
  refine' word_at B' X' T' rfl rfl ?d ?u O F' N' ?n1 ?n2 e3 ?l1 mn hc H' fun tk k plt' lnt' h' m' pl' ln' e1 e2 F' N' H' => ?_
  case d => simp only [depth_deeper]; omega
  case u => simp only [units_deeper]; omega
  case l1 => omega
  case n1 => exact List.forall_mem_cons.mpr ⟨by (refine neN ?_; dsimp only; omega), List.forall_mem_cons.mpr ⟨by (refine neN ?_; dsimp only; omega), hn1⟩⟩
  case n2 => exact List.forall_mem_cons.mpr ⟨by (refine neN ?_; dsimp only; omega), List.forall_mem_cons.mpr ⟨by (refine neN ?_; dsimp only; omega), hn2⟩⟩
  dsimp only
  repeat' (first | (k_unfold; (try dsimp only)) | walk1 | (dsimp only; walk1))
  rename Fr h₀ _ _ _ => kF
  rename News h₀ _ _ _ => kN
  refine h _ _ _ _ _ _ _ ?_ ?_ kF (News.unswap kN) H' <;> omega
theorem gt_end (B : Below A₀ base outer h₀) (F : Fr h₀ L s.heap m) (X₀ : (KK w.params).In h₀) {a : RdA} {tape : Array Value} {tn : Nat} {pl : Int} {plt : Tok} {pn : Nat} {ln : Int} {lnt : Tok} (O : a.Ok)
    (N : News h₀ L s.heap (a.objs w.params tape tn pl plt pn ln lnt ++ news)) (hn1 : ∀ p ∈ news, p.1 ≠ a.placeA) (hn2 : ∀ p ∈ news, p.1 ≠ a.lexD)
    (T : Top p loose mean mg mb h₀) (hA : A.frames = some (env :: outer)) (hf : env.frame = some L) (hke : env.scope.kind = .function) (hh : A.handled = none) (hdp : A.depth < 370) (hun : A.units < 70)
    (hl0 : 0 ≤ ln) (hl1 : ln < 70000) {ws : List Nat} (hw : ∀ x ∈ ws, inWs x = true) (hws : ws.length ≤ 3) (H : Rem tape pl ws)
    (h : ∀ tk k plt' lnt' h' pl' ln', pl' = pl + ws.length → ln' = ln + nls ws → Fr h₀ L h' m → News h₀ L h' (a.objs w.params tape tn pl' plt' pn ln' lnt' ++ news) → Rem tape pl' [] → R (.ok (.ret (.str (Str.ofString "") tk))) { s with heap := h', toks := k }) :
    codeAny (model PySem.Challenge.rw_rs0059_01.row.prog w) A (.call (.ref 92) ⟨[.ref a.lexA], []⟩) R s := by
  obtain ⟨hnd, dp, fr, gu, un⟩ := A
  cases hh
  cases hA
  replace hdp : dp < 370 := hdp
  replace hun : un < 70 := hun
  have O' := O
  obtain ⟨dD, -, -, -, o1, o2, o3, o4, o5, o6, o7, o8, o9, o10⟩ := O'
  revert X₀
  k_fill
  intro X₀
  refine' code_def B F X₀ N T rfl hf hke ?k6 ?k7 (Nat.lt_trans hdp (by decide)) ?k9 ?kB ?_ ?c2 ?c3 ?c4 ?c5
  case k6 => k_is
  case k7 => k_is
  case k9 => exact BindsTo.of_eq rfl
  case kB => exact locs rfl
  case c2 => exact rfl
  case c3 => exact rfl
  case c4 => exact rfl
  case c5 => decide
  intro g' L' h' FG' F' N' B' X' T'
  simp only [RdA.objs, List.cons_append, List.nil_append] at N'
  dsimp only
  (try k_lift B')
  (try k_fold)
  repeat' (first | (k_unfold; (try dsimp only)) | walk1 | (dsimp only; walk1))
  refine' For_at ?_ ?hs
  case hs => intro _; rfl
  repeat' (first | (k_unfold; (try dsimp only)) | walk1 | (dsimp only; walk1))
  rename Fr _ _ _ _ => kF
  rename News _ _ _ _ => kN
  rename _ ∧ _ => l1
  obtain ⟨li1, li2, li3, li4, li5, li6, li7, li8, li9, li10, li11, li12, li13⟩ := l1
  rename _ ∧ _ => l2
  obtain ⟨lj2, lj3, lj4, lj5, lj6, lj7, lj8, lj9, lj10, lj11, lj12, lj13⟩ := l2
  refine pyIter_ci kN (List.Mem.head _) rfl ?_
  have kF' := Fr.start (lex := a.lexA) kF rfl
  have kN' := News.swap (a := a) (tape := tape) (tn := tn) (pl := pl) (plt := plt) (pn := pn) (ln := ln) (lnt := lnt) (news := news) (P := w.params) kN
  have hb := nls_bd ws
  refine' ws_at B' X' T' rfl rfl ?d ?u O ?n1 ?n2 ws _ _ _ _ _ _ none kF' kN' hl0 ?l1 hw (by rw [List.append_nil]; exact H) fun tkt' ch' k plt' lnt' h' pl' ln' e1 e2 e3 F' N' H' => ?_
  case d => simp only [depth_deeper]; omega
  case u => simp only [units_deeper]; omega
  case l1 => omega
  case n1 => exact List.forall_mem_cons.mpr ⟨by (refine neN ?_; dsimp only; omega), List.forall_mem_cons.mpr ⟨by (refine neN ?_; dsimp only; omega), hn1⟩⟩
  case n2 => exact List.forall_mem_cons.mpr ⟨by (refine neN ?_; dsimp only; omega), List.forall_mem_cons.mpr ⟨by (refine neN ?_; dsimp only; omega), hn2⟩⟩
  have hal : ∀ {l : List (Addr × Obj)} {d : Addr}, AllLt d l → ∀ p ∈ l, p.1 ≠ d := fun {l} {d} q => by
    induction l with
    | nil => intro p hp; cases hp
    | cons x l ih =>
      intro p hp
      rcases List.mem_cons.mp hp with rfl | hp
      · exact Nat.ne_of_lt q.1
      · exact ih q.2 p hp
  refine ForAt.turn ?_
  refine' nextEnd_K B' F' X' O N' ?n1 ?n2 ?n3 T' rfl rfl rfl rfl ?d ?u H' e3 ?l1 fun k plt' lnt' h' F' N' => ?_
  case d => simp only [depth_deeper]; omega
  case u => simp only [units_deeper]; omega
  case l1 => omega
  case n1 => exact List.forall_mem_cons.mpr ⟨by (refine neN ?_; dsimp only; omega), List.forall_mem_cons.mpr ⟨by (refine neN ?_; dsimp only; omega), hn1⟩⟩
  case n2 => exact List.forall_mem_cons.mpr ⟨by (refine neN ?_; dsimp only; omega), List.forall_mem_cons.mpr ⟨by (refine neN ?_; dsimp only; omega), hn2⟩⟩
  case n3 =>
    intro p hp
    rcases List.mem_append.mp hp with q | q
    · simp only [RdA.objs, List.mem_cons, List.not_mem_nil, or_false] at q
      rcases q with rfl | rfl | rfl | rfl | rfl | rfl | rfl | rfl | rfl | rfl | rfl <;> (refine neN ?_; dsimp only; omega)
    · exact hal li13 p q
  dsimp only
  repeat' (first | (k_unfold; (try dsimp only)) | walk1 | (dsimp only; walk1))
  rename Fr h₀ _ _ _ => kF
  rename News h₀ _ _ _ => kN
  refine h _ _ _ _ _ _ _ ?_ ?_ kF kN H' <;> omega
end
end Mine
end
section
open PySem PySem.W PySem.Calls PyProof.Rows
set_option maxRecDepth 100000
set_option maxHeartbeats 0
set_option linter.unusedVariables false
namespace Mine
abbrev tdB : List Stmt := fdBody (nthS 25 mainB)
abbrev envT' (L : Addr) : Env := envOf (Str.ofString "_law_told") (fdScope (nthS 25 mainB)) L 127 (.ref 126)
def whT (s : Stmt) : Expr := match s with | .While t _ _ _ => t | _ => default
def whB (s : Stmt) : List Stmt := match s with | .While _ b _ _ => b | _ => []
def tdT : Expr := whT (nthS 1 tdB)
def tdW : List Stmt := whB (nthS 1 tdB)
def mT (pl : Value) (row way : Addr) : Str → Option Value := fun y =>
  if y = Str.ofString "place" then some pl else if y = Str.ofString "way" then some (.ref way) else if y = Str.ofString "row" then some (.ref row) else none
theorem mT_set (pl v : Value) (row way wa : Addr) (y : Str) : (if y = Str.ofString "place" then some v else if y = Str.ofString "way" then some (.ref wa) else mT pl row way y) = mT v row wa y := by
  unfold mT
  by_cases h1 : y = Str.ofString "place"
  · simp [h1]
  · by_cases h2 : y = Str.ofString "way" <;> simp [h1, h2]
def rowV (rs : List (Nat × Tok)) : List Value := rs.map fun r => .str ⟨#[r.1]⟩ r.2
def wayV (ws : List (Nat × Tok)) : List Value := ws.map fun r => .int (r.1 : Nat) r.2
theorem News.cut2 {h₀ h : Heap} {L : Addr} {x y z : Addr × Obj} {r : List (Addr × Obj)} (N : News h₀ L h (x :: y :: z :: r)) : News h₀ L h (x :: r) := fun p hp => by
  rcases List.mem_cons.mp hp with rfl | hp
  · exact N _ (.head _)
  · exact N _ (.tail _ (.tail _ (.tail _ hp)))
section
variable {prog : Program} {w : World} {A : Around} {E : Value → Shared → Prop} {s : Shared} {h₀ : Heap} {L : Addr} {m : Str → Option Value} {news : List (Addr × Obj)}
theorem len_row {l : Addr} {rs : List (Nat × Tok)} {n : Nat} {Q : Value → Shared → Prop} (N : News h₀ L s.heap news) (hm : (l, listOf (rowV rs).toArray n) ∈ news) (hr : rs.length ≤ 1000) (h : Q (.int (rs.length : Nat) (s.toks + 1)) { s with toks := s.toks + 1 + 1 }) :
    wpAny (model prog w) A (call (.builtin "len") [.ref l]) Q E s := by
  have e : (rowV rs).toArray.size = rs.length := by simp [rowV]
  refine call_len_list (N.isList hm) (by rw [e]; omega) ?_
  rw [e]; exact h
theorem add_way {l b : Addr} {x : Value} {ws : List (Nat × Tok)} {n k : Nat} {Q : Value → Shared → Prop} (F : Fr h₀ L s.heap m) (N : News h₀ L s.heap news) (hl : (l, listOf [x].toArray k) ∈ news) (hb : (b, listOf (wayV ws).toArray n) ∈ news) (hw : ws.length ≤ 100)
    (h : ∀ l' h', Fr h₀ L h' m → News h₀ L h' ((l', listOf (x :: wayV ws).toArray 0) :: news) → (∀ p ∈ news, p.1 < l') → Q (.ref l') { s with heap := h' }) :
    wpAny (model prog w) A (binaryOp .Add (.ref l) (.ref b)) Q E s :=
  add_lists F N (N.isList hl) (N.isList hb) (fun h' F' N' => h _ h' F' N' fun p hp => Heap.lt_size (N p hp).1) (by simp only [wayV, List.length_map, List.length_singleton, sizeLine_eq]; omega)
end
local macro_rules | `(tactic| walk_at "call builtin:len") => `(tactic| (k_here; (with_reducible show wpAny _ _ (call (Value.builtin "len") [Value.ref _]) _ _ _); k_dflt (refine' len_row ?N ?m ?f ?_; (case N => k_asm); (case m => k_mem); (case f => omega))))
local macro_rules | `(tactic| walk_at "binaryOp Add") => `(tactic| (k_here; (with_reducible show wpAny _ _ (binaryOp _ (Value.ref _) (Value.ref _)) _ _ _); k_dflt (refine' add_way ?F ?N ?m ?n ?f ?_; (case F => k_asm); (case N => k_asm); (case m => k_mem); (case n => k_mem); (case f => omega)); intro l' h' F' N' l1; (try k_lt l1); (try k_sweep)))
local macro_rules | `(tactic| k_room) => `(tactic| ((try simp only [depth_under_make, depth_under_kw, depth_in1, depth_deeper, depth_caller]); (try dsimp only); simp only [recursionLimit]; omega))
local macro_rules | `(tactic| k_all) => `(tactic| first | assumption | exact ne_of_lo (by assumption) | (refine ne_of_all (by assumption) ?_; (try dsimp only); omega))
section
variable {w : World} {A A₀ : Around} {s : Shared} {base h₀ : Heap} {outer : List Env} {L : Addr} {m mg mb : Str → Option Value} {news : List (Addr × Obj)} {p : Program} {loose : List Str} {mean : ExcName → Option Value}
  {rowA wayA : Addr} {rs ws : List (Nat × Tok)} {rn wn : Nat} {pl : Nat} {plt : Tok} {Q : Flow → Shared → Prop}
theorem told_turn (B : Below A₀ base outer h₀) (X₀ : (KK w.params).In h₀) (T : Top p loose mean mg mb h₀) (hA : A.frames = some (envT' L :: outer)) (hh : A.handled = none) (hdp : A.depth < 375) (hun : A.units < 75)
    (F : Fr h₀ L s.heap (mT (.int (pl : Nat) plt) rowA wayA)) (N : News h₀ L s.heap ((wayA, listOf (wayV ws).toArray wn) :: (rowA, listOf (rowV rs).toArray rn) :: news))
    (hr : rs.length ≤ 3) (hws : ws.length ≤ 5) (h1 : rs.length ≤ pl) (h2 : 0 < (pl - rs.length) % 3) (h3 : pl < 100)
    (h : ∀ wayA' wn' plt' t k h', Fr h₀ L h' (mT (.int ((pl - rs.length) / 3 : Nat) plt') rowA wayA') → News h₀ L h' ((wayA', listOf (wayV (((pl - rs.length) % 3, t) :: ws)).toArray wn') :: (rowA, listOf (rowV rs).toArray rn) :: news) → WhileAt PySem.Challenge.rw_rs0059_01.row.prog w A tdT tdW (envT' L) Q { s with heap := h', toks := k }) :
    WhileAt PySem.Challenge.rw_rs0059_01.row.prog w A tdT tdW (envT' L) Q s := by
  obtain ⟨hnd, dp, fr, gu, un⟩ := A
  cases hh
  cases hA
  replace hdp : dp < 375 := hdp
  replace hun : un < 75 := hun
  refine WhileAt.turn ?_
  revert X₀
  k_fill
  intro X₀
  (conv in (occs := *) tdT => all_goals whnf)
  (try k_fold)
  repeat' (first | (k_unfold; (try dsimp only)) | walk1 | (dsimp only; walk1))
  rename Fr h₀ _ _ _ => kF
  rename News h₀ _ _ _ => kN
  have q1 : ((pl : Int) - (rs.length : Nat)).fmod 3 = ((pl - rs.length) % 3 : Nat) := by rw [Int.fmod_eq_emod_of_nonneg _ (by decide)]; omega
  have q2 : ((pl : Int) - (rs.length : Nat)).fdiv 3 = ((pl - rs.length) / 3 : Nat) := by rw [Int.fdiv_eq_ediv_of_nonneg _ (by decide)]; omega
  rw [q1] at kN
  simp only [q2, mT_set] at kF
  exact h _ _ _ _ _ _ kF (News.cut2 kN)
theorem told_stop (B : Below A₀ base outer h₀) (X₀ : (KK w.params).In h₀) (T : Top p loose mean mg mb h₀) (hA : A.frames = some (envT' L :: outer)) (hh : A.handled = none) (hdp : A.depth < 375) (hun : A.units < 75)
    (F : Fr h₀ L s.heap (mT (.int (pl : Nat) plt) rowA wayA)) (N : News h₀ L s.heap ((wayA, listOf (wayV ws).toArray wn) :: (rowA, listOf (rowV rs).toArray rn) :: news))
    (hr : rs.length ≤ 3) (h1 : ¬ (rs.length ≤ pl ∧ 0 < (pl - rs.length) % 3)) (h3 : pl < 100)
    (h : ∀ k, Q .next { s with toks := k }) :
    WhileAt PySem.Challenge.rw_rs0059_01.row.prog w A tdT tdW (envT' L) Q s := by
  obtain ⟨hnd, dp, fr, gu, un⟩ := A
  cases hh
  cases hA
  replace hdp : dp < 375 := hdp
  replace hun : un < 75 := hun
  refine WhileAt.turn ?_
  revert X₀
  k_fill
  intro X₀
  by_cases h2 : rs.length ≤ pl
  · have h4 : ((pl : Int) - (rs.length : Nat)).fmod 3 = 0 := by rw [Int.fmod_eq_emod_of_nonneg _ (by decide)]; omega
    (conv in (occs := *) tdT => all_goals whnf)
    (try k_fold)
    repeat' (first | (k_unfold; (try dsimp only)) | walk1 | (dsimp only; walk1))
    all_goals exact h _
  · (conv in (occs := *) tdT => all_goals whnf)
    (try k_fold)
    repeat' (first | (k_unfold; (try dsimp only)) | walk1 | (dsimp only; walk1))
    all_goals exact h _
/-- the loop's end: place and way -/
def tloop (n : Nat) : Nat → Nat → List Nat → Nat × List Nat
  | 0, p, w => (p, w)
  | f + 1, p, w => if n ≤ p ∧ 0 < (p - n) % 3 then tloop n f ((p - n) / 3) ((p - n) % 3 :: w) else (p, w)
theorem told_loop (B : Below A₀ base outer h₀) (X₀ : (KK w.params).In h₀) (T : Top p loose mean mg mb h₀) (hA : A.frames = some (envT' L :: outer)) (hh : A.handled = none) (hdp : A.depth < 375) (hun : A.units < 75) (hr : rs.length ≤ 3) (hr1 : 1 ≤ rs.length) :
    ∀ (f : Nat) (s : Shared) (pl : Nat) (plt : Tok) (wayA : Addr) (wn : Nat) (ws : List (Nat × Tok)),
    Fr h₀ L s.heap (mT (.int (pl : Nat) plt) rowA wayA) → News h₀ L s.heap ((wayA, listOf (wayV ws).toArray wn) :: (rowA, listOf (rowV rs).toArray rn) :: news) →
    pl < 100 → pl < 3 ^ f → ws.length + f ≤ 5 →
    (∀ wayA' wn' ws' plt' k h', Fr h₀ L h' (mT (.int ((tloop rs.length f pl (ws.map (·.1))).1 : Nat) plt') rowA wayA') → ws'.map (·.1) = (tloop rs.length f pl (ws.map (·.1))).2 → News h₀ L h' ((wayA', listOf (wayV ws').toArray wn') :: (rowA, listOf (rowV rs).toArray rn) :: news) → Q .next { s with heap := h', toks := k }) →
    WhileAt PySem.Challenge.rw_rs0059_01.row.prog w A tdT tdW (envT' L) Q s
  | 0, s, pl, plt, wayA, wn, ws, F, N, h1, h2, h3, h => told_stop B X₀ T hA hh hdp hun F N hr (by rw [Nat.pow_zero] at h2; omega) h1 fun k => h _ _ ws plt k s.heap F rfl N
  | f + 1, s, pl, plt, wayA, wn, ws, F, N, h1, h2, h3, h => by
    by_cases hc : rs.length ≤ pl ∧ 0 < (pl - rs.length) % 3
    · have e : tloop rs.length (f + 1) pl (ws.map (·.1)) = tloop rs.length f ((pl - rs.length) / 3) ((pl - rs.length) % 3 :: ws.map (·.1)) := if_pos hc
      rw [e] at h
      refine told_turn B X₀ T hA hh hdp hun F N hr (by omega) hc.1 hc.2 h1 fun wayA' wn' plt' t k h' F' N' => ?_
      refine told_loop B X₀ T hA hh hdp hun hr hr1 f _ _ _ _ _ (((pl - rs.length) % 3, t) :: ws) F' N' (by omega) ?_ (by rw [List.length_cons]; omega) h
      rw [Nat.pow_succ] at h2
      omega
    · have e : tloop rs.length (f + 1) pl (ws.map (·.1)) = (pl, ws.map (·.1)) := if_neg hc
      rw [e] at h
      exact told_stop B X₀ T hA hh hdp hun F N hr hc h1 fun k => h _ _ ws plt k s.heap F rfl N
end
end Mine
end
section
open PySem PySem.W PySem.Calls PyProof.Rows
set_option maxRecDepth 100000
set_option maxHeartbeats 0
set_option linter.unusedVariables false
namespace Mine
local macro_rules | `(tactic| k_room) => `(tactic| ((try simp only [depth_under_make, depth_under_kw, depth_in1, depth_deeper, depth_caller]); (try dsimp only); simp only [recursionLimit]; omega))
local macro_rules | `(tactic| k_all) => `(tactic| first | assumption | exact ne_of_lo (by assumption) | (refine ne_of_all (by assumption) ?_; (try dsimp only); omega))
local macro_rules | `(tactic| walk_at "call builtin:len") => `(tactic| (k_here; (with_reducible show wpAny _ _ (call (Value.builtin "len") [Value.ref _]) _ _ _); k_dflt (refine' len_row ?N ?m ?f ?_; (case N => k_asm); (case m => k_mem); (case f => omega))))
def mR (way : Addr) (sg fg : Option Value) (pl : Value) (row : Addr) : Str → Option Value := fun y => if y = Str.ofString "figure" then fg else if y = Str.ofString "sign" then sg else mT pl row way y
theorem mR_sign (way : Addr) (v pl : Value) (row : Addr) (y : Str) : (if y = Str.ofString "sign" then some v else mT pl row way y) = mR way (some v) none pl row y := by
  unfold mR
  by_cases h1 : y = Str.ofString "figure"
  · subst h1; rw [if_neg (by decide +kernel), if_pos rfl]; unfold mT; rw [if_neg (by decide +kernel), if_neg (by decide +kernel), if_neg (by decide +kernel)]
  · rw [if_neg h1]
theorem mR_fig (way : Addr) (sg fg : Option Value) (v pl : Value) (row : Addr) (y : Str) : (if y = Str.ofString "figure" then some v else mR way sg fg pl row y) = mR way sg (some v) pl row y := by
  unfold mR
  by_cases h1 : y = Str.ofString "figure" <;> simp [h1]
theorem mR_way (way way' : Addr) (sg fg : Option Value) (pl : Value) (row : Addr) (y : Str) : (if y = Str.ofString "way" then some (.ref way') else mR way sg fg pl row y) = mR way' sg fg pl row y := by
  unfold mR mT
  by_cases h1 : y = Str.ofString "way"
  · subst h1; rw [if_pos rfl, if_neg (by decide +kernel), if_neg (by decide +kernel), if_neg (by decide +kernel), if_pos rfl]
  · simp [h1]
theorem News.sub {h₀ h : Heap} {L : Addr} {a b : List (Addr × Obj)} (N : News h₀ L h a) (k : ∀ p ∈ b, p ∈ a) : News h₀ L h b := fun p hp => N p (k p hp)
def figC (c w : Nat) : Nat := hexC (if w = 1 then c / 16 else c % 16)
theorem fig_fact : decide (∀ c : _root_.Fin 256, Txt.item (Str.ofString "0123456789ABCDEF") ((c.1 : Int) / 16) = ⟨#[figC c.1 1]⟩ ∧ Txt.item (Str.ofString "0123456789ABCDEF") ((c.1 : Int) % 16) = ⟨#[figC c.1 2]⟩) = true := by decide +kernel
theorem fig_at {c w0 i : Nat} (hc : c < 256) (h1 : 1 ≤ w0) (h2 : w0 ≤ 2) (hi : i = w0 - 1) : 0 ≤ [(c : Int).fdiv 16, (c : Int).fmod 16].getD i 0 ∧ [(c : Int).fdiv 16, (c : Int).fmod 16].getD i 0 < 16 ∧
    Txt.item (Str.ofString "0123456789ABCDEF") ([(c : Int).fdiv 16, (c : Int).fmod 16].getD i 0) = ⟨#[figC c w0]⟩ := by
  have f := of_decide_eq_true fig_fact ⟨c, hc⟩
  dsimp only at f
  rw [Int.fdiv_eq_ediv_of_nonneg _ (by decide), Int.fmod_eq_emod_of_nonneg _ (by decide)]
  obtain rfl | rfl : w0 = 1 ∨ w0 = 2 := by omega
  · subst hi
    rw [show (1 - 1 : Nat) = 0 from rfl, List.getD_cons_zero]
    exact ⟨by omega, by omega, f.1⟩
  · subst hi
    rw [show (2 - 1 : Nat) = 0 + 1 from rfl, List.getD_cons_succ, List.getD_cons_zero]
    exact ⟨by omega, by omega, f.2⟩
section
variable {w : World} {A A₀ : Around} {s : Shared} {base h₀ : Heap} {outer : List Env} {L : Addr} {m mg mb : Str → Option Value} {news : List (Addr × Obj)} {p : Program} {loose : List Str} {mean : ExcName → Option Value}
  {rowA wayA : Addr} {rs : List (Nat × Tok)} {rn wn : Nat} {pl : Nat} {plt : Tok} {plv : Value} {Q : Flow → Shared → Prop} {E : Value → Shared → Prop} {c g w0 w1 w2 : Nat} {ct gt t0 t1 t2 : Tok} {sg fg : Option Value} {wo : Obj}
theorem item_row {prog : Program} {value slice : PySem.Expr} {l : Addr} {rs : List (Nat × Tok)} {n i c : Nat} {t u : Tok} {Q : Value → Shared → Prop} (N : News h₀ L s.heap news) (hm : (l, listOf (rowV rs).toArray n) ∈ news) (hx : rs[i]? = some (c, t)) (hi : i < 1000) (h : Q (.str ⟨#[c]⟩ t) s)
    (hs : subscripted slice false (.ref l) (.int (i : Nat) u) = operate [.ref l, .int (i : Nat) u] (getItem (.ref l) (.int (i : Nat) u)) := by with_unfolding_all rfl) :
    wpAny (model prog w) A (subscriptTail value slice (.ref l) (.int (i : Nat) u)) Q E s := by
  have hl : s.heap.IsList l (rowV rs).toArray := N.isList hm
  refine tail_any hl.typeIs slot_list_getitem.lookup (wpAny_getItem_list hl (by omega) (by omega) ?_ h) hs
  rw [Int.toNat_natCast, List.getElem?_toArray, rowV, List.getElem?_map, hx]; rfl
section
local macro_rules | `(tactic| walk_at "subscriptTail") => `(tactic| (k_here; (with_reducible show wpAny _ _ (subscriptTail _ _ (Value.ref _) (Value.int _ _)) _ _ _); k_dflt (refine' item_row ?N ?m ?x ?i ?_ ?z; (case N => k_asm); (case m => k_mem); (case x => assumption); (case i => omega); (case z => with_unfolding_all rfl))))
theorem td_sign0 (B : Below A₀ base outer h₀) (X₀ : (KK w.params).In h₀) (T : Top p loose mean mg mb h₀) (hA : A.frames = some (envT' L :: outer)) (hh : A.handled = none) (hdp : A.depth < 375) (hun : A.units < 75)
    (F : Fr h₀ L s.heap (mT (.int (pl : Nat) plt) rowA wayA)) (N : News h₀ L s.heap ((wayA, wo) :: (rowA, listOf (rowV rs).toArray rn) :: news)) (hr : rs.length ≤ 3) (hp : pl < rs.length) (hx : rs[pl]? = some (c, ct))
    (h : ∀ k h', Fr h₀ L h' (mR wayA (some (.str ⟨#[c]⟩ ct)) none (.int (pl : Nat) plt) rowA) → News h₀ L h' ((wayA, wo) :: (rowA, listOf (rowV rs).toArray rn) :: news) → Q .next { s with heap := h', toks := k }) :
    wpAny (model PySem.Challenge.rw_rs0059_01.row.prog w) A (exec (nthS 2 tdB) (envT' L)) Q E s := by
  obtain ⟨hnd, dp, fr, gu, un⟩ := A
  cases hh
  cases hA
  replace hdp : dp < 375 := hdp
  replace hun : un < 75 := hun
  revert X₀
  k_fill
  intro X₀
  (conv in nthS 2 tdB => whnf)
  (try k_fold)
  repeat' (first | (k_closed; first | (with_reducible refine ite_pos (by decide) ?_) | (with_reducible refine ite_neg (by decide) ?_)) | (k_unfold; (try dsimp only)) | walk1 | (dsimp only; walk1))
  all_goals (rename Fr h₀ _ _ _ => kF; rename News h₀ _ _ _ => kN; simp only [mR_sign] at kF; exact h _ _ kF kN)
theorem td_sign1 (B : Below A₀ base outer h₀) (X₀ : (KK w.params).In h₀) (T : Top p loose mean mg mb h₀) (hA : A.frames = some (envT' L :: outer)) (hh : A.handled = none) (hdp : A.depth < 375) (hun : A.units < 75)
    (F : Fr h₀ L s.heap (mT (.int (pl : Nat) plt) rowA wayA)) (N : News h₀ L s.heap ((wayA, wo) :: (rowA, listOf (rowV rs).toArray rn) :: news)) (hr : rs.length ≤ 3) (hp : ¬ pl < rs.length) (h3 : pl < 100)
    (h : ∀ t k h', Fr h₀ L h' (mR wayA (some (.str ⟨#[61]⟩ t)) none (.int (pl : Nat) plt) rowA) → News h₀ L h' ((wayA, wo) :: (rowA, listOf (rowV rs).toArray rn) :: news) → Q .next { s with heap := h', toks := k }) :
    wpAny (model PySem.Challenge.rw_rs0059_01.row.prog w) A (exec (nthS 2 tdB) (envT' L)) Q E s := by
  obtain ⟨hnd, dp, fr, gu, un⟩ := A
  cases hh
  cases hA
  replace hdp : dp < 375 := hdp
  replace hun : un < 75 := hun
  revert X₀
  k_fill
  intro X₀
  (conv in nthS 2 tdB => whnf)
  (try k_fold)
  repeat' (first | (k_closed; first | (with_reducible refine ite_pos (by decide) ?_) | (with_reducible refine ite_neg (by decide) ?_)) | (k_unfold; (try dsimp only)) | walk1 | (dsimp only; walk1))
  all_goals (rename Fr h₀ _ _ _ => kF; rename News h₀ _ _ _ => kN; simp only [mR_sign, show Str.ofString "=" = ⟨#[61]⟩ from by decide +kernel] at kF; exact h _ _ _ kF kN)
end
theorem td_nil (B : Below A₀ base outer h₀) (X₀ : (KK w.params).In h₀) (T : Top p loose mean mg mb h₀) (hA : A.frames = some (envT' L :: outer)) (hh : A.handled = none) (hdp : A.depth < 375) (hun : A.units < 75)
    (F : Fr h₀ L s.heap (mR wayA (some (.str ⟨#[c]⟩ ct)) none plv rowA)) (N : News h₀ L s.heap ((wayA, listOf #[] wn) :: news))
    (h : ∀ k h' m', Fr h₀ L h' m' → News h₀ L h' news → Q (.ret (.str ⟨#[c]⟩ ct)) { s with heap := h', toks := k }) :
    wpAny (model PySem.Challenge.rw_rs0059_01.row.prog w) A (exec (nthS 3 tdB) (envT' L)) Q E s := by
  obtain ⟨hnd, dp, fr, gu, un⟩ := A
  cases hh
  cases hA
  replace hdp : dp < 375 := hdp
  replace hun : un < 75 := hun
  revert X₀
  k_fill
  intro X₀
  (conv in nthS 3 tdB => whnf)
  (try k_fold)
  repeat' (first | (k_closed; first | (with_reducible refine ite_pos (by decide) ?_) | (with_reducible refine ite_neg (by decide) ?_)) | (k_unfold; (try dsimp only)) | walk1 | (dsimp only; walk1))
  all_goals (rename Fr h₀ _ _ _ => kF; rename News h₀ _ _ _ => kN; exact h _ _ _ kF (News.sub kN fun p hp => by repeat (first | exact hp | refine List.Mem.tail _ ?_)))
theorem td_cons1 (B : Below A₀ base outer h₀) (X₀ : (KK w.params).In h₀) (T : Top p loose mean mg mb h₀) (hA : A.frames = some (envT' L :: outer)) (hh : A.handled = none) (hdp : A.depth < 375) (hun : A.units < 75)
    (F : Fr h₀ L s.heap (mR wayA (some (.str ⟨#[c]⟩ ct)) none plv rowA)) (N : News h₀ L s.heap ((wayA, listOf #[.int (w0 : Nat) t0] wn) :: news))
    (h : ∀ k h', Fr h₀ L h' (mR wayA (some (.str ⟨#[c]⟩ ct)) none plv rowA) → News h₀ L h' ((wayA, listOf #[.int (w0 : Nat) t0] wn) :: news) → Q .next { s with heap := h', toks := k }) :
    wpAny (model PySem.Challenge.rw_rs0059_01.row.prog w) A (exec (nthS 3 tdB) (envT' L)) Q E s := by
  obtain ⟨hnd, dp, fr, gu, un⟩ := A
  cases hh
  cases hA
  replace hdp : dp < 375 := hdp
  replace hun : un < 75 := hun
  have e2 : decide ([(w0 : Int)] = []) = false := rfl
  revert X₀
  k_fill
  intro X₀
  (conv in nthS 3 tdB => whnf)
  (try k_fold)
  repeat' (first | (k_closed; first | (with_reducible refine ite_pos (by decide) ?_) | (with_reducible refine ite_neg (by decide) ?_)) | (k_unfold; (try dsimp only)) | walk1 | (dsimp only; walk1))
  all_goals (rename Fr h₀ _ _ _ => kF; rename News h₀ _ _ _ => kN; exact h _ _ kF (News.sub kN fun p hp => by repeat (first | exact hp | refine List.Mem.tail _ ?_)))
theorem td_cons2 (B : Below A₀ base outer h₀) (X₀ : (KK w.params).In h₀) (T : Top p loose mean mg mb h₀) (hA : A.frames = some (envT' L :: outer)) (hh : A.handled = none) (hdp : A.depth < 375) (hun : A.units < 75)
    (F : Fr h₀ L s.heap (mR wayA (some (.str ⟨#[c]⟩ ct)) none plv rowA)) (N : News h₀ L s.heap ((wayA, listOf #[.int (w0 : Nat) t0, .int (w1 : Nat) t1] wn) :: news))
    (h : ∀ k h', Fr h₀ L h' (mR wayA (some (.str ⟨#[c]⟩ ct)) none plv rowA) → News h₀ L h' ((wayA, listOf #[.int (w0 : Nat) t0, .int (w1 : Nat) t1] wn) :: news) → Q .next { s with heap := h', toks := k }) :
    wpAny (model PySem.Challenge.rw_rs0059_01.row.prog w) A (exec (nthS 3 tdB) (envT' L)) Q E s := by
  obtain ⟨hnd, dp, fr, gu, un⟩ := A
  cases hh
  cases hA
  replace hdp : dp < 375 := hdp
  replace hun : un < 75 := hun
  have e2 : decide ([(w0 : Int), (w1 : Int)] = []) = false := rfl
  revert X₀
  k_fill
  intro X₀
  (conv in nthS 3 tdB => whnf)
  (try k_fold)
  repeat' (first | (k_closed; first | (with_reducible refine ite_pos (by decide) ?_) | (with_reducible refine ite_neg (by decide) ?_)) | (k_unfold; (try dsimp only)) | walk1 | (dsimp only; walk1))
  all_goals (rename Fr h₀ _ _ _ => kF; rename News h₀ _ _ _ => kN; exact h _ _ kF (News.sub kN fun p hp => by repeat (first | exact hp | refine List.Mem.tail _ ?_)))
theorem td_cons3 (B : Below A₀ base outer h₀) (X₀ : (KK w.params).In h₀) (T : Top p loose mean mg mb h₀) (hA : A.frames = some (envT' L :: outer)) (hh : A.handled = none) (hdp : A.depth < 375) (hun : A.units < 75)
    (F : Fr h₀ L s.heap (mR wayA (some (.str ⟨#[c]⟩ ct)) none plv rowA)) (N : News h₀ L s.heap ((wayA, listOf #[.int (w0 : Nat) t0, .int (w1 : Nat) t1, .int (w2 : Nat) t2] wn) :: news))
    (h : ∀ k h', Fr h₀ L h' (mR wayA (some (.str ⟨#[c]⟩ ct)) none plv rowA) → News h₀ L h' ((wayA, listOf #[.int (w0 : Nat) t0, .int (w1 : Nat) t1, .int (w2 : Nat) t2] wn) :: news) → Q .next { s with heap := h', toks := k }) :
    wpAny (model PySem.Challenge.rw_rs0059_01.row.prog w) A (exec (nthS 3 tdB) (envT' L)) Q E s := by
  obtain ⟨hnd, dp, fr, gu, un⟩ := A
  cases hh
  cases hA
  replace hdp : dp < 375 := hdp
  replace hun : un < 75 := hun
  have e2 : decide ([(w0 : Int), (w1 : Int), (w2 : Int)] = []) = false := rfl
  revert X₀
  k_fill
  intro X₀
  (conv in nthS 3 tdB => whnf)
  (try k_fold)
  repeat' (first | (k_closed; first | (with_reducible refine ite_pos (by decide) ?_) | (with_reducible refine ite_neg (by decide) ?_)) | (k_unfold; (try dsimp only)) | walk1 | (dsimp only; walk1))
  all_goals (rename Fr h₀ _ _ _ => kF; rename News h₀ _ _ _ => kN; exact h _ _ kF (News.sub kN fun p hp => by repeat (first | exact hp | refine List.Mem.tail _ ?_)))
theorem td_fig1 (B : Below A₀ base outer h₀) (X₀ : (KK w.params).In h₀) (T : Top p loose mean mg mb h₀) (hA : A.frames = some (envT' L :: outer)) (hh : A.handled = none) (hdp : A.depth < 375) (hun : A.units < 75)
    (F : Fr h₀ L s.heap (mR wayA (some (.str ⟨#[c]⟩ ct)) none plv rowA)) (N : News h₀ L s.heap ((wayA, listOf #[.int (w0 : Nat) t0] wn) :: news)) (hc : c < 256) (hw0 : 1 ≤ w0) (hw0' : w0 ≤ 2)
    (h : ∀ t k h', Fr h₀ L h' (mR wayA (some (.str ⟨#[c]⟩ ct)) (some (.str ⟨#[figC c w0]⟩ t)) plv rowA) → News h₀ L h' ((wayA, listOf #[.int (w0 : Nat) t0] wn) :: news) → Q .next { s with heap := h', toks := k }) :
    wpAny (model PySem.Challenge.rw_rs0059_01.row.prog w) A (exec (nthS 4 tdB) (envT' L)) Q E s := by
  obtain ⟨hnd, dp, fr, gu, un⟩ := A
  cases hh
  cases hA
  replace hdp : dp < 375 := hdp
  replace hun : un < 75 := hun
  have e0 : [(w0 : Int)].getD (Int.toNat 0) 0 = w0 := rfl
  have e3 : 0 ≤ [(c : Int).fdiv 16, (c : Int).fmod 16].getD ([(w0 : Int)].getD (Int.toNat 0) 0 - 1).toNat 0 ∧ [(c : Int).fdiv 16, (c : Int).fmod 16].getD ([(w0 : Int)].getD (Int.toNat 0) 0 - 1).toNat 0 < 16 := by
    rw [e0]
    have f := fig_at hc hw0 hw0' (i := ((w0 : Int) - 1).toNat) (by omega)
    exact ⟨f.1, f.2.1⟩
  obtain ⟨e3, e4⟩ := e3
  revert X₀
  k_fill
  intro X₀
  (conv in nthS 4 tdB => whnf)
  (try k_fold)
  repeat' (first | (k_closed; first | (with_reducible refine ite_pos (by decide) ?_) | (with_reducible refine ite_neg (by decide) ?_)) | (k_unfold; (try dsimp only)) | walk1 | (dsimp only; walk1))
  have e5 : Txt.item (Str.ofString "0123456789ABCDEF") ([(c : Int).fdiv 16, (c : Int).fmod 16].getD ([(w0 : Int)].getD (Int.toNat 0) 0 - 1).toNat 0) = ⟨#[figC c w0]⟩ := by
    rw [e0]
    exact (fig_at hc hw0 hw0' (by omega)).2.2
  all_goals (rename Fr h₀ _ _ _ => kF; rename News h₀ _ _ _ => kN; simp only [mR_fig, e5] at kF; exact h _ _ _ kF (News.sub kN fun p hp => by repeat (first | exact hp | refine List.Mem.tail _ ?_)))
theorem td_fig2 (B : Below A₀ base outer h₀) (X₀ : (KK w.params).In h₀) (T : Top p loose mean mg mb h₀) (hA : A.frames = some (envT' L :: outer)) (hh : A.handled = none) (hdp : A.depth < 375) (hun : A.units < 75)
    (F : Fr h₀ L s.heap (mR wayA (some (.str ⟨#[c]⟩ ct)) none plv rowA)) (N : News h₀ L s.heap ((wayA, listOf #[.int (w0 : Nat) t0, .int (w1 : Nat) t1] wn) :: news)) (hc : c < 256) (hw0 : 1 ≤ w0) (hw0' : w0 ≤ 2)
    (h : ∀ t k h', Fr h₀ L h' (mR wayA (some (.str ⟨#[c]⟩ ct)) (some (.str ⟨#[figC c w0]⟩ t)) plv rowA) → News h₀ L h' ((wayA, listOf #[.int (w0 : Nat) t0, .int (w1 : Nat) t1] wn) :: news) → Q .next { s with heap := h', toks := k }) :
    wpAny (model PySem.Challenge.rw_rs0059_01.row.prog w) A (exec (nthS 4 tdB) (envT' L)) Q E s := by
  obtain ⟨hnd, dp, fr, gu, un⟩ := A
  cases hh
  cases hA
  replace hdp : dp < 375 := hdp
  replace hun : un < 75 := hun
  have e0 : [(w0 : Int), (w1 : Int)].getD (Int.toNat 0) 0 = w0 := rfl
  have e3 : 0 ≤ [(c : Int).fdiv 16, (c : Int).fmod 16].getD ([(w0 : Int), (w1 : Int)].getD (Int.toNat 0) 0 - 1).toNat 0 ∧ [(c : Int).fdiv 16, (c : Int).fmod 16].getD ([(w0 : Int), (w1 : Int)].getD (Int.toNat 0) 0 - 1).toNat 0 < 16 := by
    rw [e0]
    have f := fig_at hc hw0 hw0' (i := ((w0 : Int) - 1).toNat) (by omega)
    exact ⟨f.1, f.2.1⟩
  obtain ⟨e3, e4⟩ := e3
  revert X₀
  k_fill
  intro X₀
  (conv in nthS 4 tdB => whnf)
  (try k_fold)
  repeat' (first | (k_closed; first | (with_reducible refine ite_pos (by decide) ?_) | (with_reducible refine ite_neg (by decide) ?_)) | (k_unfold; (try dsimp only)) | walk1 | (dsimp only; walk1))
  have e5 : Txt.item (Str.ofString "0123456789ABCDEF") ([(c : Int).fdiv 16, (c : Int).fmod 16].getD ([(w0 : Int), (w1 : Int)].getD (Int.toNat 0) 0 - 1).toNat 0) = ⟨#[figC c w0]⟩ := by
    rw [e0]
    exact (fig_at hc hw0 hw0' (by omega)).2.2
  all_goals (rename Fr h₀ _ _ _ => kF; rename News h₀ _ _ _ => kN; simp only [mR_fig, e5] at kF; exact h _ _ _ kF (News.sub kN fun p hp => by repeat (first | exact hp | refine List.Mem.tail _ ?_)))
theorem td_fig3 (B : Below A₀ base outer h₀) (X₀ : (KK w.params).In h₀) (T : Top p loose mean mg mb h₀) (hA : A.frames = some (envT' L :: outer)) (hh : A.handled = none) (hdp : A.depth < 375) (hun : A.units < 75)
    (F : Fr h₀ L s.heap (mR wayA (some (.str ⟨#[c]⟩ ct)) none plv rowA)) (N : News h₀ L s.heap ((wayA, listOf #[.int (w0 : Nat) t0, .int (w1 : Nat) t1, .int (w2 : Nat) t2] wn) :: news)) (hc : c < 256) (hw0 : 1 ≤ w0) (hw0' : w0 ≤ 2)
    (h : ∀ t k h', Fr h₀ L h' (mR wayA (some (.str ⟨#[c]⟩ ct)) (some (.str ⟨#[figC c w0]⟩ t)) plv rowA) → News h₀ L h' ((wayA, listOf #[.int (w0 : Nat) t0, .int (w1 : Nat) t1, .int (w2 : Nat) t2] wn) :: news) → Q .next { s with heap := h', toks := k }) :
    wpAny (model PySem.Challenge.rw_rs0059_01.row.prog w) A (exec (nthS 4 tdB) (envT' L)) Q E s := by
  obtain ⟨hnd, dp, fr, gu, un⟩ := A
  cases hh
  cases hA
  replace hdp : dp < 375 := hdp
  replace hun : un < 75 := hun
  have e0 : [(w0 : Int), (w1 : Int), (w2 : Int)].getD (Int.toNat 0) 0 = w0 := rfl
  have e3 : 0 ≤ [(c : Int).fdiv 16, (c : Int).fmod 16].getD ([(w0 : Int), (w1 : Int), (w2 : Int)].getD (Int.toNat 0) 0 - 1).toNat 0 ∧ [(c : Int).fdiv 16, (c : Int).fmod 16].getD ([(w0 : Int), (w1 : Int), (w2 : Int)].getD (Int.toNat 0) 0 - 1).toNat 0 < 16 := by
    rw [e0]
    have f := fig_at hc hw0 hw0' (i := ((w0 : Int) - 1).toNat) (by omega)
    exact ⟨f.1, f.2.1⟩
  obtain ⟨e3, e4⟩ := e3
  revert X₀
  k_fill
  intro X₀
  (conv in nthS 4 tdB => whnf)
  (try k_fold)
  repeat' (first | (k_closed; first | (with_reducible refine ite_pos (by decide) ?_) | (with_reducible refine ite_neg (by decide) ?_)) | (k_unfold; (try dsimp only)) | walk1 | (dsimp only; walk1))
  have e5 : Txt.item (Str.ofString "0123456789ABCDEF") ([(c : Int).fdiv 16, (c : Int).fmod 16].getD ([(w0 : Int), (w1 : Int), (w2 : Int)].getD (Int.toNat 0) 0 - 1).toNat 0) = ⟨#[figC c w0]⟩ := by
    rw [e0]
    exact (fig_at hc hw0 hw0' (by omega)).2.2
  all_goals (rename Fr h₀ _ _ _ => kF; rename News h₀ _ _ _ => kN; simp only [mR_fig, e5] at kF; exact h _ _ _ kF (News.sub kN fun p hp => by repeat (first | exact hp | refine List.Mem.tail _ ?_)))
theorem td_dig (B : Below A₀ base outer h₀) (X₀ : (KK w.params).In h₀) (T : Top p loose mean mg mb h₀) (hA : A.frames = some (envT' L :: outer)) (hh : A.handled = none) (hdp : A.depth < 375) (hun : A.units < 75)
    (F : Fr h₀ L s.heap (mR wayA sg (some (.str ⟨#[g]⟩ gt)) plv rowA)) (N : News h₀ L s.heap ((wayA, wo) :: news)) (hg : (!(Builtin.Str.occurrences (Str.ofString "ABCDEF") ⟨#[g]⟩ 0 (Str.ofString "ABCDEF").length 1).isEmpty) = false)
    (h : ∀ k h', Fr h₀ L h' (mR wayA sg (some (.str ⟨#[g]⟩ gt)) plv rowA) → News h₀ L h' ((wayA, wo) :: news) → Q .next { s with heap := h', toks := k }) :
    wpAny (model PySem.Challenge.rw_rs0059_01.row.prog w) A (exec (nthS 5 tdB) (envT' L)) Q E s := by
  obtain ⟨hnd, dp, fr, gu, un⟩ := A
  cases hh
  cases hA
  replace hdp : dp < 375 := hdp
  replace hun : un < 75 := hun
  revert X₀
  k_fill
  intro X₀
  (conv in nthS 5 tdB => whnf)
  (try k_fold)
  repeat' (first | (k_closed; first | (with_reducible refine ite_pos (by decide) ?_) | (with_reducible refine ite_neg (by decide) ?_)) | (k_unfold; (try dsimp only)) | walk1 | (dsimp only; walk1))
  all_goals (rename Fr h₀ _ _ _ => kF; rename News h₀ _ _ _ => kN; exact h _ _ kF kN)
theorem td_let1 (B : Below A₀ base outer h₀) (X₀ : (KK w.params).In h₀) (T : Top p loose mean mg mb h₀) (hA : A.frames = some (envT' L :: outer)) (hh : A.handled = none) (hdp : A.depth < 375) (hun : A.units < 75)
    (F : Fr h₀ L s.heap (mR wayA sg (some (.str ⟨#[g]⟩ gt)) plv rowA)) (N : News h₀ L s.heap ((wayA, listOf #[.int (w0 : Nat) t0] wn) :: news)) (hg : (!(Builtin.Str.occurrences (Str.ofString "ABCDEF") ⟨#[g]⟩ 0 (Str.ofString "ABCDEF").length 1).isEmpty) = true)
    (h : ∀ k h', Fr h₀ L h' (mR wayA sg (some (.str ⟨#[g]⟩ gt)) plv rowA) → News h₀ L h' ((wayA, listOf #[.int (w0 : Nat) t0] wn) :: news) → Q .next { s with heap := h', toks := k }) :
    wpAny (model PySem.Challenge.rw_rs0059_01.row.prog w) A (exec (nthS 5 tdB) (envT' L)) Q E s := by
  obtain ⟨hnd, dp, fr, gu, un⟩ := A
  cases hh
  cases hA
  replace hdp : dp < 375 := hdp
  replace hun : un < 75 := hun
  revert X₀
  k_fill
  intro X₀
  (conv in nthS 5 tdB => whnf)
  (try k_fold)
  repeat' (first | (k_closed; first | (with_reducible refine ite_pos (by decide) ?_) | (with_reducible refine ite_neg (by decide) ?_)) | (k_unfold; (try dsimp only)) | walk1 | (dsimp only; walk1))
  all_goals (rename Fr h₀ _ _ _ => kF; rename News h₀ _ _ _ => kN; exact h _ _ kF kN)
end
end Mine
end
section
open PySem PySem.W PySem.Calls PyProof.Rows
set_option maxRecDepth 100000
set_option maxHeartbeats 0
set_option linter.unusedVariables false
namespace Mine
local macro_rules | `(tactic| k_room) => `(tactic| ((try simp only [depth_under_make, depth_under_kw, depth_in1, depth_deeper, depth_caller]); (try dsimp only); simp only [recursionLimit]; omega))
local macro_rules | `(tactic| k_all) => `(tactic| first | assumption | exact ne_of_lo (by assumption) | (refine ne_of_all (by assumption) ?_; (try dsimp only); omega))
local macro_rules | `(tactic| walk_at "call builtin:len") => `(tactic| (k_here; (with_reducible show wpAny _ _ (call (Value.builtin "len") [Value.ref _]) _ _ _); k_dflt (refine' len_row ?N ?m ?f ?_; (case N => k_asm); (case m => k_mem); (case f => omega))))
theorem find_fact : decide (∀ i : _root_.Fin 6, (!(Builtin.Str.occurrences (Str.ofString "ABCDEF") ⟨#[i.1 + 65]⟩ 0 (Str.ofString "ABCDEF").length 1).isEmpty) = true ∧ Txt.find (Str.ofString "ABCDEF") ⟨#[i.1 + 65]⟩ = (i.1 : Int) ∧ Txt.item (Str.ofString "123456") (i.1 : Int) = ⟨#[i.1 + 49]⟩) = true := by decide +kernel
theorem letter_at {g : Nat} (h1 : 65 ≤ g) (h2 : g ≤ 70) : (!(Builtin.Str.occurrences (Str.ofString "ABCDEF") ⟨#[g]⟩ 0 (Str.ofString "ABCDEF").length 1).isEmpty) = true ∧ Txt.find (Str.ofString "ABCDEF") ⟨#[g]⟩ = (g : Int) - 65 ∧ Txt.item (Str.ofString "123456") ((g : Int) - 65) = ⟨#[g - 16]⟩ := by
  have f := of_decide_eq_true find_fact ⟨g - 65, by omega⟩
  dsimp only at f
  rw [show g - 65 + 65 = g by omega, show ((g - 65 : Nat) : Int) = (g : Int) - 65 by omega, show g - 65 + 49 = g - 16 by omega] at f
  exact f
theorem idx_letter {prog : Program} {w : World} {A : Around} {s : Shared} {E Q : Value → Shared → Prop} {g : Nat} {t u : Tok} (hA : A.handled = none) (h1 : 65 ≤ g) (h2 : g ≤ 70) (h : ∀ t, Q (.int ((g : Int) - 65) t) { s with toks := s.toks + 1 }) :
    wpAny (model prog w) A (call (.builtin "str.index") [.str (Str.ofString "ABCDEF") t, .str ⟨#[g]⟩ u]) Q E s := by
  have f := letter_at h1 h2
  refine index_or hA (fun _ q => ?_) (fun _ _ => ?_)
  · have := f.1; rw [q] at this; cases this
  · rw [f.2.1]; exact h _
local macro_rules | `(tactic| walk_at "call builtin:str.index") => `(tactic| (k_here; (refine' idx_letter ?a ?b ?c ?_; (case a => rfl); (case b => assumption); (case c => assumption)); intro t'))
theorem News.cutN {h₀ h : Heap} {L : Addr} {x y z : Addr × Obj} {r : List (Addr × Obj)} (N : News h₀ L h (x :: y :: z :: r)) : News h₀ L h (x :: r) := News.cut2 N
section
variable {w : World} {A A₀ : Around} {s : Shared} {base h₀ : Heap} {outer : List Env} {L : Addr} {m mg mb : Str → Option Value} {news : List (Addr × Obj)} {p : Program} {loose : List Str} {mean : ExcName → Option Value}
  {rowA wayA : Addr} {rs : List (Nat × Tok)} {rn wn : Nat} {pl : Nat} {plt : Tok} {plv : Value} {Q : Flow → Shared → Prop} {E : Value → Shared → Prop} {c g w0 w1 w2 : Nat} {ct gt t0 t1 t2 : Tok} {sg fg : Option Value} {wo : Obj}
theorem td_let21 (B : Below A₀ base outer h₀) (X₀ : (KK w.params).In h₀) (T : Top p loose mean mg mb h₀) (hA : A.frames = some (envT' L :: outer)) (hh : A.handled = none) (hdp : A.depth < 375) (hun : A.units < 75)
    (F : Fr h₀ L s.heap (mR wayA sg (some (.str ⟨#[g]⟩ gt)) plv rowA)) (N : News h₀ L s.heap ((wayA, listOf #[.int (w0 : Nat) t0, .int (w1 : Nat) t1] wn) :: news))  (hg1 : 65 ≤ g) (hg2 : g ≤ 70) (hw1 : w1 = 1)
    (h : ∀ t k h' wayA' wn', Fr h₀ L h' (mR wayA' sg (some (.str ⟨#[52]⟩ t)) plv rowA) → News h₀ L h' ((wayA', listOf #[.int (w1 : Nat) t1] wn') :: news) → Q .next { s with heap := h', toks := k }) :
    wpAny (model PySem.Challenge.rw_rs0059_01.row.prog w) A (exec (nthS 5 tdB) (envT' L)) Q E s := by
  obtain ⟨hnd, dp, fr, gu, un⟩ := A
  cases hh
  cases hA
  replace hdp : dp < 375 := hdp
  replace hun : un < 75 := hun
  subst hw1
  have hl := letter_at hg1 hg2
  have hg := hl.1
  have e0 : [(w0 : Int), ((1 : Nat) : Int)].getD (Int.toNat 1) 0 = 1 := rfl
  clear hl
  revert X₀
  k_fill
  intro X₀
  (conv in nthS 5 tdB => whnf)
  (try k_fold)
  repeat' (first | (k_closed; first | (with_reducible refine ite_pos (by decide) ?_) | (with_reducible refine ite_neg (by decide) ?_)) | (k_unfold; (try dsimp only)) | walk1 | (dsimp only; walk1))
  have hl := (letter_at hg1 hg2).2.2
  have h4 : Str.ofString "4" = ⟨#[52]⟩ := by decide +kernel
  all_goals (rename Fr h₀ _ _ _ => kF; rename News h₀ _ _ _ => kN; simp only [mR_fig, mR_way, hl, h4] at kF; exact h _ _ _ _ _ kF (News.cutN kN))
theorem td_let22 (B : Below A₀ base outer h₀) (X₀ : (KK w.params).In h₀) (T : Top p loose mean mg mb h₀) (hA : A.frames = some (envT' L :: outer)) (hh : A.handled = none) (hdp : A.depth < 375) (hun : A.units < 75)
    (F : Fr h₀ L s.heap (mR wayA sg (some (.str ⟨#[g]⟩ gt)) plv rowA)) (N : News h₀ L s.heap ((wayA, listOf #[.int (w0 : Nat) t0, .int (w1 : Nat) t1] wn) :: news))  (hg1 : 65 ≤ g) (hg2 : g ≤ 70) (hw1 : w1 = 2)
    (h : ∀ t k h' wayA' wn', Fr h₀ L h' (mR wayA' sg (some (.str ⟨#[g - 16]⟩ t)) plv rowA) → News h₀ L h' ((wayA', listOf #[.int (w1 : Nat) t1] wn') :: news) → Q .next { s with heap := h', toks := k }) :
    wpAny (model PySem.Challenge.rw_rs0059_01.row.prog w) A (exec (nthS 5 tdB) (envT' L)) Q E s := by
  obtain ⟨hnd, dp, fr, gu, un⟩ := A
  cases hh
  cases hA
  replace hdp : dp < 375 := hdp
  replace hun : un < 75 := hun
  subst hw1
  have hl := letter_at hg1 hg2
  have hg := hl.1
  have e0 : [(w0 : Int), ((2 : Nat) : Int)].getD (Int.toNat 1) 0 = 2 := rfl
  clear hl
  revert X₀
  k_fill
  intro X₀
  (conv in nthS 5 tdB => whnf)
  (try k_fold)
  repeat' (first | (k_closed; first | (with_reducible refine ite_pos (by decide) ?_) | (with_reducible refine ite_neg (by decide) ?_)) | (k_unfold; (try dsimp only)) | walk1 | (dsimp only; walk1))
  have hl := (letter_at hg1 hg2).2.2
  have h4 : Str.ofString "4" = ⟨#[52]⟩ := by decide +kernel
  all_goals (rename Fr h₀ _ _ _ => kF; rename News h₀ _ _ _ => kN; simp only [mR_fig, mR_way, hl, h4] at kF; exact h _ _ _ _ _ kF (News.cutN kN))
theorem td_let31 (B : Below A₀ base outer h₀) (X₀ : (KK w.params).In h₀) (T : Top p loose mean mg mb h₀) (hA : A.frames = some (envT' L :: outer)) (hh : A.handled = none) (hdp : A.depth < 375) (hun : A.units < 75)
    (F : Fr h₀ L s.heap (mR wayA sg (some (.str ⟨#[g]⟩ gt)) plv rowA)) (N : News h₀ L s.heap ((wayA, listOf #[.int (w0 : Nat) t0, .int (w1 : Nat) t1, .int (w2 : Nat) t2] wn) :: news))  (hg1 : 65 ≤ g) (hg2 : g ≤ 70) (hw1 : w1 = 1)
    (h : ∀ t k h' wayA' wn', Fr h₀ L h' (mR wayA' sg (some (.str ⟨#[52]⟩ t)) plv rowA) → News h₀ L h' ((wayA', listOf #[.int (w1 : Nat) t1, .int (w2 : Nat) t2] wn') :: news) → Q .next { s with heap := h', toks := k }) :
    wpAny (model PySem.Challenge.rw_rs0059_01.row.prog w) A (exec (nthS 5 tdB) (envT' L)) Q E s := by
  obtain ⟨hnd, dp, fr, gu, un⟩ := A
  cases hh
  cases hA
  replace hdp : dp < 375 := hdp
  replace hun : un < 75 := hun
  subst hw1
  have hl := letter_at hg1 hg2
  have hg := hl.1
  have e0 : [(w0 : Int), ((1 : Nat) : Int), (w2 : Int)].getD (Int.toNat 1) 0 = 1 := rfl
  clear hl
  revert X₀
  k_fill
  intro X₀
  (conv in nthS 5 tdB => whnf)
  (try k_fold)
  repeat' (first | (k_closed; first | (with_reducible refine ite_pos (by decide) ?_) | (with_reducible refine ite_neg (by decide) ?_)) | (k_unfold; (try dsimp only)) | walk1 | (dsimp only; walk1))
  have hl := (letter_at hg1 hg2).2.2
  have h4 : Str.ofString "4" = ⟨#[52]⟩ := by decide +kernel
  all_goals (rename Fr h₀ _ _ _ => kF; rename News h₀ _ _ _ => kN; simp only [mR_fig, mR_way, hl, h4] at kF; exact h _ _ _ _ _ kF (News.cutN kN))
theorem td_let32 (B : Below A₀ base outer h₀) (X₀ : (KK w.params).In h₀) (T : Top p loose mean mg mb h₀) (hA : A.frames = some (envT' L :: outer)) (hh : A.handled = none) (hdp : A.depth < 375) (hun : A.units < 75)
    (F : Fr h₀ L s.heap (mR wayA sg (some (.str ⟨#[g]⟩ gt)) plv rowA)) (N : News h₀ L s.heap ((wayA, listOf #[.int (w0 : Nat) t0, .int (w1 : Nat) t1, .int (w2 : Nat) t2] wn) :: news))  (hg1 : 65 ≤ g) (hg2 : g ≤ 70) (hw1 : w1 = 2)
    (h : ∀ t k h' wayA' wn', Fr h₀ L h' (mR wayA' sg (some (.str ⟨#[g - 16]⟩ t)) plv rowA) → News h₀ L h' ((wayA', listOf #[.int (w1 : Nat) t1, .int (w2 : Nat) t2] wn') :: news) → Q .next { s with heap := h', toks := k }) :
    wpAny (model PySem.Challenge.rw_rs0059_01.row.prog w) A (exec (nthS 5 tdB) (envT' L)) Q E s := by
  obtain ⟨hnd, dp, fr, gu, un⟩ := A
  cases hh
  cases hA
  replace hdp : dp < 375 := hdp
  replace hun : un < 75 := hun
  subst hw1
  have hl := letter_at hg1 hg2
  have hg := hl.1
  have e0 : [(w0 : Int), ((2 : Nat) : Int), (w2 : Int)].getD (Int.toNat 1) 0 = 2 := rfl
  clear hl
  revert X₀
  k_fill
  intro X₀
  (conv in nthS 5 tdB => whnf)
  (try k_fold)
  repeat' (first | (k_closed; first | (with_reducible refine ite_pos (by decide) ?_) | (with_reducible refine ite_neg (by decide) ?_)) | (k_unfold; (try dsimp only)) | walk1 | (dsimp only; walk1))
  have hl := (letter_at hg1 hg2).2.2
  have h4 : Str.ofString "4" = ⟨#[52]⟩ := by decide +kernel
  all_goals (rename Fr h₀ _ _ _ => kF; rename News h₀ _ _ _ => kN; simp only [mR_fig, mR_way, hl, h4] at kF; exact h _ _ _ _ _ kF (News.cutN kN))
end
end Mine
end
section
open PySem PySem.W PySem.Calls PyProof.Rows
set_option maxRecDepth 100000
set_option maxHeartbeats 0
set_option linter.unusedVariables false
namespace Mine
local macro_rules | `(tactic| k_room) => `(tactic| ((try simp only [depth_under_make, depth_under_kw, depth_in1, depth_deeper, depth_caller]); (try dsimp only); simp only [recursionLimit]; omega))
local macro_rules | `(tactic| k_all) => `(tactic| first | assumption | exact ne_of_lo (by assumption) | (refine ne_of_all (by assumption) ?_; (try dsimp only); omega))
local macro_rules | `(tactic| walk_at "call builtin:len") => `(tactic| (k_here; (with_reducible show wpAny _ _ (call (Value.builtin "len") [Value.ref _]) _ _ _); k_dflt (refine' len_row ?N ?m ?f ?_; (case N => k_asm); (case m => k_mem); (case f => omega))))
section
variable {w : World} {A A₀ : Around} {s : Shared} {base h₀ : Heap} {outer : List Env} {L : Addr} {m mg mb : Str → Option Value} {news : List (Addr × Obj)} {p : Program} {loose : List Str} {mean : ExcName → Option Value}
  {rowA wayA : Addr} {rs : List (Nat × Tok)} {rn wn : Nat} {pl : Nat} {plt : Tok} {plv : Value} {Q : Flow → Shared → Prop} {E : Value → Shared → Prop} {c g w0 w1 w2 : Nat} {ct gt t0 t1 t2 : Tok} {sg fg : Option Value} {wo : Obj}
theorem td_ret1f (B : Below A₀ base outer h₀) (X₀ : (KK w.params).In h₀) (T : Top p loose mean mg mb h₀) (hA : A.frames = some (envT' L :: outer)) (hh : A.handled = none) (hdp : A.depth < 375) (hun : A.units < 75)
    (F : Fr h₀ L s.heap (mR wayA sg (some (.str ⟨#[g]⟩ gt)) plv rowA)) (N : News h₀ L s.heap ((wayA, listOf #[.int (w0 : Nat) t0] wn) :: news))
    (h : ∀ k h' m', Fr h₀ L h' m' → News h₀ L h' news → Q (.ret (.str ⟨#[g]⟩ gt)) { s with heap := h', toks := k }) :
    wpAny (model PySem.Challenge.rw_rs0059_01.row.prog w) A (exec (nthS 6 tdB) (envT' L)) Q E s := by
  obtain ⟨hnd, dp, fr, gu, un⟩ := A
  cases hh
  cases hA
  replace hdp : dp < 375 := hdp
  replace hun : un < 75 := hun
  revert X₀
  k_fill
  intro X₀
  (conv in nthS 6 tdB => whnf)
  (try k_fold)
  repeat' (first | (k_closed; first | (with_reducible refine ite_pos (by decide) ?_) | (with_reducible refine ite_neg (by decide) ?_)) | (k_unfold; (try dsimp only)) | walk1 | (dsimp only; walk1))
  all_goals (rename Fr h₀ _ _ _ => kF; rename News h₀ _ _ _ => kN; exact h _ _ _ kF (News.sub kN fun p hp => by repeat (first | exact hp | refine List.Mem.tail _ ?_)))
theorem td_ret2f (B : Below A₀ base outer h₀) (X₀ : (KK w.params).In h₀) (T : Top p loose mean mg mb h₀) (hA : A.frames = some (envT' L :: outer)) (hh : A.handled = none) (hdp : A.depth < 375) (hun : A.units < 75)
    (F : Fr h₀ L s.heap (mR wayA sg (some (.str ⟨#[g]⟩ gt)) plv rowA)) (N : News h₀ L s.heap ((wayA, listOf #[.int (w0 : Nat) t0, .int (w1 : Nat) t1] wn) :: news)) (ha : ([(w1 : Int)].any fun x => x == 1) = false)
    (h : ∀ k h' m', Fr h₀ L h' m' → News h₀ L h' news → Q (.ret (.str ⟨#[g]⟩ gt)) { s with heap := h', toks := k }) :
    wpAny (model PySem.Challenge.rw_rs0059_01.row.prog w) A (exec (nthS 6 tdB) (envT' L)) Q E s := by
  obtain ⟨hnd, dp, fr, gu, un⟩ := A
  cases hh
  cases hA
  replace hdp : dp < 375 := hdp
  replace hun : un < 75 := hun
  revert X₀
  k_fill
  intro X₀
  (conv in nthS 6 tdB => whnf)
  (try k_fold)
  repeat' (first | (k_closed; first | (with_reducible refine ite_pos (by decide) ?_) | (with_reducible refine ite_neg (by decide) ?_)) | (k_unfold; (try dsimp only)) | walk1 | (dsimp only; walk1))
  all_goals (rename Fr h₀ _ _ _ => kF; rename News h₀ _ _ _ => kN; exact h _ _ _ kF (News.sub kN fun p hp => by repeat (first | exact hp | refine List.Mem.tail _ ?_)))
theorem td_ret2t (B : Below A₀ base outer h₀) (X₀ : (KK w.params).In h₀) (T : Top p loose mean mg mb h₀) (hA : A.frames = some (envT' L :: outer)) (hh : A.handled = none) (hdp : A.depth < 375) (hun : A.units < 75)
    (F : Fr h₀ L s.heap (mR wayA sg (some (.str ⟨#[g]⟩ gt)) plv rowA)) (N : News h₀ L s.heap ((wayA, listOf #[.int (w0 : Nat) t0, .int (w1 : Nat) t1] wn) :: news)) (ha : ([(w1 : Int)].any fun x => x == 1) = true)
    (h : ∀ t k h' m', Fr h₀ L h' m' → News h₀ L h' news → Q (.ret (.str ⟨#[51]⟩ t)) { s with heap := h', toks := k }) :
    wpAny (model PySem.Challenge.rw_rs0059_01.row.prog w) A (exec (nthS 6 tdB) (envT' L)) Q E s := by
  obtain ⟨hnd, dp, fr, gu, un⟩ := A
  cases hh
  cases hA
  replace hdp : dp < 375 := hdp
  replace hun : un < 75 := hun
  revert X₀
  k_fill
  intro X₀
  (conv in nthS 6 tdB => whnf)
  (try k_fold)
  repeat' (first | (k_closed; first | (with_reducible refine ite_pos (by decide) ?_) | (with_reducible refine ite_neg (by decide) ?_)) | (k_unfold; (try dsimp only)) | walk1 | (dsimp only; walk1))
  have h3 : Str.ofString "3" = ⟨#[51]⟩ := by decide +kernel
  rw [← h3] at h
  all_goals (rename Fr h₀ _ _ _ => kF; rename News h₀ _ _ _ => kN; exact h _ _ _ _ kF (News.sub kN fun p hp => by repeat (first | exact hp | refine List.Mem.tail _ ?_)))
theorem td_ret3f (B : Below A₀ base outer h₀) (X₀ : (KK w.params).In h₀) (T : Top p loose mean mg mb h₀) (hA : A.frames = some (envT' L :: outer)) (hh : A.handled = none) (hdp : A.depth < 375) (hun : A.units < 75)
    (F : Fr h₀ L s.heap (mR wayA sg (some (.str ⟨#[g]⟩ gt)) plv rowA)) (N : News h₀ L s.heap ((wayA, listOf #[.int (w0 : Nat) t0, .int (w1 : Nat) t1, .int (w2 : Nat) t2] wn) :: news)) (ha : ([(w1 : Int), (w2 : Int)].any fun x => x == 1) = false)
    (h : ∀ k h' m', Fr h₀ L h' m' → News h₀ L h' news → Q (.ret (.str ⟨#[g]⟩ gt)) { s with heap := h', toks := k }) :
    wpAny (model PySem.Challenge.rw_rs0059_01.row.prog w) A (exec (nthS 6 tdB) (envT' L)) Q E s := by
  obtain ⟨hnd, dp, fr, gu, un⟩ := A
  cases hh
  cases hA
  replace hdp : dp < 375 := hdp
  replace hun : un < 75 := hun
  revert X₀
  k_fill
  intro X₀
  (conv in nthS 6 tdB => whnf)
  (try k_fold)
  repeat' (first | (k_closed; first | (with_reducible refine ite_pos (by decide) ?_) | (with_reducible refine ite_neg (by decide) ?_)) | (k_unfold; (try dsimp only)) | walk1 | (dsimp only; walk1))
  all_goals (rename Fr h₀ _ _ _ => kF; rename News h₀ _ _ _ => kN; exact h _ _ _ kF (News.sub kN fun p hp => by repeat (first | exact hp | refine List.Mem.tail _ ?_)))
theorem td_ret3t (B : Below A₀ base outer h₀) (X₀ : (KK w.params).In h₀) (T : Top p loose mean mg mb h₀) (hA : A.frames = some (envT' L :: outer)) (hh : A.handled = none) (hdp : A.depth < 375) (hun : A.units < 75)
    (F : Fr h₀ L s.heap (mR wayA sg (some (.str ⟨#[g]⟩ gt)) plv rowA)) (N : News h₀ L s.heap ((wayA, listOf #[.int (w0 : Nat) t0, .int (w1 : Nat) t1, .int (w2 : Nat) t2] wn) :: news)) (ha : ([(w1 : Int), (w2 : Int)].any fun x => x == 1) = true)
    (h : ∀ t k h' m', Fr h₀ L h' m' → News h₀ L h' news → Q (.ret (.str ⟨#[51]⟩ t)) { s with heap := h', toks := k }) :
    wpAny (model PySem.Challenge.rw_rs0059_01.row.prog w) A (exec (nthS 6 tdB) (envT' L)) Q E s := by
  obtain ⟨hnd, dp, fr, gu, un⟩ := A
  cases hh
  cases hA
  replace hdp : dp < 375 := hdp
  replace hun : un < 75 := hun
  revert X₀
  k_fill
  intro X₀
  (conv in nthS 6 tdB => whnf)
  (try k_fold)
  repeat' (first | (k_closed; first | (with_reducible refine ite_pos (by decide) ?_) | (with_reducible refine ite_neg (by decide) ?_)) | (k_unfold; (try dsimp only)) | walk1 | (dsimp only; walk1))
  have h3 : Str.ofString "3" = ⟨#[51]⟩ := by decide +kernel
  rw [← h3] at h
  all_goals (rename Fr h₀ _ _ _ => kF; rename News h₀ _ _ _ => kN; exact h _ _ _ _ kF (News.sub kN fun p hp => by repeat (first | exact hp | refine List.Mem.tail _ ?_)))
end
end Mine
end
section
open PySem PySem.W PySem.Calls PyProof.Rows
set_option maxRecDepth 100000
set_option maxHeartbeats 0
set_option linter.unusedVariables false
namespace Mine
local macro_rules | `(tactic| k_room) => `(tactic| ((try simp only [depth_under_make, depth_under_kw, depth_in1, depth_deeper, depth_caller]); (try dsimp only); simp only [recursionLimit]; omega))
local macro_rules | `(tactic| k_all) => `(tactic| first | assumption | exact ne_of_lo (by assumption) | (refine ne_of_all (by assumption) ?_; (try dsimp only); omega))
def toldC (c : Nat) : List Nat → Nat
  | [] => c
  | [w] => figC c w
  | w :: w1 :: ws => if 65 ≤ figC c w then (if 1 ∈ ws then 51 else if w1 = 1 then 52 else figC c w - 16) else if 1 ∈ w1 :: ws then 51 else figC c w
theorem fig_rng {c w : Nat} (hc : c < 256) : (48 ≤ figC c w ∧ figC c w ≤ 57) ∨ (65 ≤ figC c w ∧ figC c w ≤ 70) := by
  unfold figC hexC
  split <;> split <;> omega
theorem dig_fact : decide (∀ i : _root_.Fin 10, (!(Builtin.Str.occurrences (Str.ofString "ABCDEF") ⟨#[i.1 + 48]⟩ 0 (Str.ofString "ABCDEF").length 1).isEmpty) = false) = true := by decide +kernel
theorem dig_at {g : Nat} (h1 : 48 ≤ g) (h2 : g ≤ 57) : (!(Builtin.Str.occurrences (Str.ofString "ABCDEF") ⟨#[g]⟩ 0 (Str.ofString "ABCDEF").length 1).isEmpty) = false := by
  have f := of_decide_eq_true dig_fact ⟨g - 48, by omega⟩
  dsimp only at f
  rw [show g - 48 + 48 = g by omega] at f
  exact f
theorem way_fact : decide (∀ n : _root_.Fin 4, ∀ p : _root_.Fin 43, 1 ≤ n.1 → (tloop n.1 4 p.1 []).2.length ≤ 3 ∧ (tloop n.1 4 p.1 []).2.all (fun x => x == 1 || x == 2) = true) = true := by decide +kernel
theorem tloop_le (n : Nat) : ∀ (f p : Nat) (w : List Nat), (tloop n f p w).1 ≤ p
  | 0, p, w => Nat.le_refl _
  | f + 1, p, w => by
    unfold tloop
    split
    · exact Nat.le_trans (tloop_le n f _ _) (by omega)
    · exact Nat.le_refl _
section
variable {w : World} {A A₀ : Around} {s : Shared} {base h₀ : Heap} {outer : List Env} {L : Addr} {m mg mb : Str → Option Value} {news : List (Addr × Obj)} {p : Program} {loose : List Str} {mean : ExcName → Option Value}
  {rowA wayA : Addr} {rs : List (Nat × Tok)} {rn wn : Nat} {pl : Nat} {plt : Tok} {plv : Value} {Q : Flow → Shared → Prop} {E : Value → Shared → Prop} {c g w0 w1 w2 : Nat} {ct gt t0 t1 t2 : Tok} {sg fg : Option Value} {wo : Obj}
/-- behind the sign -/
theorem told_rest (B : Below A₀ base outer h₀) (X₀ : (KK w.params).In h₀) (T : Top p loose mean mg mb h₀) (hA : A.frames = some (envT' L :: outer)) (hh : A.handled = none) (hdp : A.depth < 375) (hun : A.units < 75)
    (hc : c < 256) (ws : List (Nat × Tok)) (hl : ws.length ≤ 3) (hw : ∀ x ∈ ws, x.1 = 1 ∨ x.1 = 2)
    (F : Fr h₀ L s.heap (mR wayA (some (.str ⟨#[c]⟩ ct)) none plv rowA)) (N : News h₀ L s.heap ((wayA, listOf (wayV ws).toArray wn) :: news))
    (h : ∀ t k h' m', Fr h₀ L h' m' → News h₀ L h' news → Q (.ret (.str ⟨#[toldC c (ws.map (·.1))]⟩ t)) { s with heap := h', toks := k }) :
    wpAny (model PySem.Challenge.rw_rs0059_01.row.prog w) A (execs [nthS 3 tdB, nthS 4 tdB, nthS 5 tdB, nthS 6 tdB] (envT' L)) Q E s := by
  refine wpAny_execs_cons ?_
  match ws, hl, hw with
  | [], _, _ => exact td_nil B X₀ T hA hh hdp hun F N fun k h' m' F' N' => h _ _ _ _ F' N'
  | [(w0, t0)], _, hw =>
    have hw0 : w0 = 1 ∨ w0 = 2 := hw _ (.head _)
    refine td_cons1 B X₀ T hA hh hdp hun F N fun k h' F' N' => ?_
    refine wpAny_execs_cons (td_fig1 B X₀ T hA hh hdp hun F' N' hc (by omega) (by omega) fun t k h' F' N' => ?_)
    rcases fig_rng (w := w0) hc with hg | hg
    · refine wpAny_execs_cons (td_dig B X₀ T hA hh hdp hun F' N' (dig_at hg.1 hg.2) fun k h' F' N' => ?_)
      exact wpAny_execs_cons (td_ret1f B X₀ T hA hh hdp hun F' N' fun k h' m' F' N' => h _ _ _ _ F' N')
    · refine wpAny_execs_cons (td_let1 B X₀ T hA hh hdp hun F' N' (letter_at hg.1 hg.2).1 fun k h' F' N' => ?_)
      exact wpAny_execs_cons (td_ret1f B X₀ T hA hh hdp hun F' N' fun k h' m' F' N' => h _ _ _ _ F' N')
  | [(w0, t0), (w1, t1)], _, hw =>
    have hw0 : w0 = 1 ∨ w0 = 2 := hw _ (.head _)
    have hw1 : w1 = 1 ∨ w1 = 2 := hw _ (.tail _ (.head _))
    refine td_cons2 B X₀ T hA hh hdp hun F N fun k h' F' N' => ?_
    refine wpAny_execs_cons (td_fig2 B X₀ T hA hh hdp hun F' N' hc (by omega) (by omega) fun t k h' F' N' => ?_)
    rcases fig_rng (w := w0) hc with hg | hg
    · refine wpAny_execs_cons (td_dig B X₀ T hA hh hdp hun F' N' (dig_at hg.1 hg.2) fun k h' F' N' => ?_)
      rcases hw1 with rfl | rfl
      · have e : toldC c ([(w0, t0), (1, t1)].map (·.1)) = 51 := by simp only [List.map_cons, List.map_nil, toldC]; rw [if_neg (by omega), if_pos (by decide)]
        rw [e] at h
        exact wpAny_execs_cons (td_ret2t B X₀ T hA hh hdp hun F' N' rfl fun t k h' m' F' N' => h _ _ _ _ F' N')
      · have e : toldC c ([(w0, t0), (2, t1)].map (·.1)) = figC c w0 := by simp only [List.map_cons, List.map_nil, toldC]; rw [if_neg (by omega), if_neg (by decide)]
        rw [e] at h
        exact wpAny_execs_cons (td_ret2f B X₀ T hA hh hdp hun F' N' rfl fun k h' m' F' N' => h _ _ _ _ F' N')
    · rcases hw1 with rfl | rfl
      · have e : toldC c ([(w0, t0), (1, t1)].map (·.1)) = 52 := by simp only [List.map_cons, List.map_nil, toldC]; rw [if_pos (by omega), if_neg (by decide), if_pos trivial]
        rw [e] at h
        refine wpAny_execs_cons (td_let21 B X₀ T hA hh hdp hun F' N' hg.1 hg.2 rfl fun t k h' wayA' wn' F' N' => ?_)
        exact wpAny_execs_cons (td_ret1f B X₀ T hA hh hdp hun F' N' fun k h' m' F' N' => h _ _ _ _ F' N')
      · have e : toldC c ([(w0, t0), (2, t1)].map (·.1)) = figC c w0 - 16 := by simp only [List.map_cons, List.map_nil, toldC]; rw [if_pos (by omega), if_neg (by decide), if_neg (by decide)]
        rw [e] at h
        refine wpAny_execs_cons (td_let22 B X₀ T hA hh hdp hun F' N' hg.1 hg.2 rfl fun t k h' wayA' wn' F' N' => ?_)
        exact wpAny_execs_cons (td_ret1f B X₀ T hA hh hdp hun F' N' fun k h' m' F' N' => h _ _ _ _ F' N')
  | [(w0, t0), (w1, t1), (w2, t2)], _, hw =>
    have hw0 : w0 = 1 ∨ w0 = 2 := hw _ (.head _)
    have hw1 : w1 = 1 ∨ w1 = 2 := hw _ (.tail _ (.head _))
    have hw2 : w2 = 1 ∨ w2 = 2 := hw _ (.tail _ (.tail _ (.head _)))
    refine td_cons3 B X₀ T hA hh hdp hun F N fun k h' F' N' => ?_
    refine wpAny_execs_cons (td_fig3 B X₀ T hA hh hdp hun F' N' hc (by omega) (by omega) fun t k h' F' N' => ?_)
    rcases fig_rng (w := w0) hc with hg | hg
    · refine wpAny_execs_cons (td_dig B X₀ T hA hh hdp hun F' N' (dig_at hg.1 hg.2) fun k h' F' N' => ?_)
      by_cases hm : 1 ∈ [w1, w2]
      · have e : toldC c ([(w0, t0), (w1, t1), (w2, t2)].map (·.1)) = 51 := by simp only [List.map_cons, List.map_nil, toldC]; rw [if_neg (by omega), if_pos hm]
        rw [e] at h
        refine wpAny_execs_cons (td_ret3t B X₀ T hA hh hdp hun F' N' ?_ fun t k h' m' F' N' => h _ _ _ _ F' N')
        rcases hw1 with rfl | rfl <;> rcases hw2 with rfl | rfl <;> first | rfl | (exact absurd hm (by decide))
      · have e : toldC c ([(w0, t0), (w1, t1), (w2, t2)].map (·.1)) = figC c w0 := by simp only [List.map_cons, List.map_nil, toldC]; rw [if_neg (by omega), if_neg hm]
        rw [e] at h
        refine wpAny_execs_cons (td_ret3f B X₀ T hA hh hdp hun F' N' ?_ fun k h' m' F' N' => h _ _ _ _ F' N')
        rcases hw1 with rfl | rfl <;> rcases hw2 with rfl | rfl <;> first | rfl | (exact absurd (by decide) hm)
    · rcases hw2 with rfl | rfl
      · have e : toldC c ([(w0, t0), (w1, t1), (1, t2)].map (·.1)) = 51 := by simp only [List.map_cons, List.map_nil, toldC]; rw [if_pos (by omega), if_pos (by decide)]
        rw [e] at h
        rcases hw1 with rfl | rfl
        · refine wpAny_execs_cons (td_let31 B X₀ T hA hh hdp hun F' N' hg.1 hg.2 rfl fun t k h' wayA' wn' F' N' => ?_)
          exact wpAny_execs_cons (td_ret2t B X₀ T hA hh hdp hun F' N' rfl fun t k h' m' F' N' => h _ _ _ _ F' N')
        · refine wpAny_execs_cons (td_let32 B X₀ T hA hh hdp hun F' N' hg.1 hg.2 rfl fun t k h' wayA' wn' F' N' => ?_)
          exact wpAny_execs_cons (td_ret2t B X₀ T hA hh hdp hun F' N' rfl fun t k h' m' F' N' => h _ _ _ _ F' N')
      · rcases hw1 with rfl | rfl
        · have e : toldC c ([(w0, t0), (1, t1), (2, t2)].map (·.1)) = 52 := by simp only [List.map_cons, List.map_nil, toldC]; rw [if_pos (by omega), if_neg (by decide), if_pos trivial]
          rw [e] at h
          refine wpAny_execs_cons (td_let31 B X₀ T hA hh hdp hun F' N' hg.1 hg.2 rfl fun t k h' wayA' wn' F' N' => ?_)
          exact wpAny_execs_cons (td_ret2f B X₀ T hA hh hdp hun F' N' rfl fun k h' m' F' N' => h _ _ _ _ F' N')
        · have e : toldC c ([(w0, t0), (2, t1), (2, t2)].map (·.1)) = figC c w0 - 16 := by simp only [List.map_cons, List.map_nil, toldC]; rw [if_pos (by omega), if_neg (by decide), if_neg (by decide)]
          rw [e] at h
          refine wpAny_execs_cons (td_let32 B X₀ T hA hh hdp hun F' N' hg.1 hg.2 rfl fun t k h' wayA' wn' F' N' => ?_)
          exact wpAny_execs_cons (td_ret2f B X₀ T hA hh hdp hun F' N' rfl fun k h' m' F' N' => h _ _ _ _ F' N')
  | _ :: _ :: _ :: _ :: _, hl, _ => exact absurd hl (by simp only [List.length_cons]; omega)
end
end Mine
end
section
open PySem PySem.W PySem.Calls PyProof.Rows
set_option maxRecDepth 100000
set_option maxHeartbeats 0
set_option linter.unusedVariables false
namespace Mine
local macro_rules | `(tactic| k_room) => `(tactic| ((try simp only [depth_under_make, depth_under_kw, depth_in1, depth_deeper, depth_caller]); (try dsimp only); simp only [recursionLimit]; omega))
local macro_rules | `(tactic| k_all) => `(tactic| first | assumption | exact ne_of_lo (by assumption) | (refine ne_of_all (by assumption) ?_; (try dsimp only); omega))
/-- what _law_told says of a place -/
def toldF (rs : List Nat) (pl : Nat) : Nat := let q := tloop rs.length 4 pl []; toldC (if q.1 < rs.length then rs.getD q.1 0 else 61) q.2
theorem Fr.startT {h₀ h : Heap} {L wA rowA : Addr} {pl : Value} {l : List (Str × Value)} (F : Fr h₀ L h fun y => if y = Str.ofString "way" then some (.ref wA) else List.lookup y l) (e : l = [(Str.ofString "row", .ref rowA), (Str.ofString "place", pl)]) :
    Fr h₀ L h (mT pl rowA wA) := by
  have q : (fun y => if y = Str.ofString "way" then some (Value.ref wA) else List.lookup y l) = mT pl rowA wA := by
    subst e
    funext y
    unfold mT
    by_cases h1 : y = Str.ofString "way"
    · subst h1; rw [if_pos rfl, if_neg (by decide +kernel), if_pos rfl]
    rw [if_neg h1]
    by_cases h2 : y = Str.ofString "place"
    · subst h2; rw [if_pos rfl, List.lookup_cons, show (Str.ofString "place" == Str.ofString "row") = false by decide +kernel, List.lookup_cons, beq_self_eq_true]
    rw [if_neg h2, if_neg h1]
    by_cases h3 : y = Str.ofString "row"
    · subst h3; rw [if_pos rfl, List.lookup_cons, beq_self_eq_true]
    · rw [if_neg h3, List.lookup_cons, beq_false_of_ne h3, List.lookup_cons, beq_false_of_ne h2]; rfl
  exact q ▸ F
section
variable {w : World} {A A₀ : Around} {s : Shared} {base h₀ : Heap} {outer : List Env} {L : Addr} {m mg mb : Str → Option Value} {env : Env} {news : List (Addr × Obj)} {R : Result → Shared → Prop} {p : Program} {loose : List Str} {mean : ExcName → Option Value}
theorem told_K (B : Below A₀ base outer h₀) (F : Fr h₀ L s.heap m) (X₀ : (KK w.params).In h₀) {rowA : Addr} {rs : List (Nat × Tok)} {rn pl : Nat} {plt : Tok}
    (N : News h₀ L s.heap ((rowA, listOf (rowV rs).toArray rn) :: news)) (hr0 : 1 ≤ rs.length) (hr : rs.length ≤ 3) (hrc : ∀ x ∈ rs, x.1 < 256) (hpl : pl < 43)
    (T : Top p loose mean mg mb h₀) (hA : A.frames = some (env :: outer)) (hf : env.frame = some L) (hke : env.scope.kind = .function) (hh : A.handled = none) (hdp : A.depth < 370) (hun : A.units < 70)
    (h : ∀ t k h', Fr h₀ L h' m → News h₀ L h' ((rowA, listOf (rowV rs).toArray rn) :: news) → R (.ok (.ret (.str ⟨#[toldF (rs.map (·.1)) pl]⟩ t))) { s with heap := h', toks := k }) :
    codeAny (model PySem.Challenge.rw_rs0059_01.row.prog w) A (.call (.ref 127) ⟨[.int (pl : Nat) plt, .ref rowA], []⟩) R s := by
  obtain ⟨hnd, dp, fr, gu, un⟩ := A
  cases hh
  cases hA
  replace hdp : dp < 370 := hdp
  replace hun : un < 70 := hun
  revert X₀
  k_fill
  intro X₀
  refine' code_def B F X₀ N T rfl hf hke ?k6 ?k7 (Nat.lt_trans hdp (by decide)) ?k9 ?kB ?_ ?c2 ?c3 ?c4 ?c5
  case k6 => k_is
  case k7 => k_is
  case k9 => exact BindsTo.of_eq rfl
  case kB => exact locs rfl
  case c2 => exact rfl
  case c3 => exact rfl
  case c4 => exact rfl
  case c5 => decide
  intro g' L' h' FG' F' N' B' X' T'
  dsimp only
  (try k_lift B')
  (try k_fold)
  repeat' ((fail_if_success (with_reducible show wpAny _ _ (exec (Stmt.While _ _ _ _) _) _ _ _)); first | (k_closed; first | (with_reducible refine ite_pos (by decide) ?_) | (with_reducible refine ite_neg (by decide) ?_)) | (k_unfold; (try dsimp only)) | walk1 | (dsimp only; walk1))
  rename Fr _ _ _ _ => kF
  rename News _ _ _ _ => kN
  refine While_at ?_
  have kF' := Fr.startT (rowA := rowA) (pl := .int (pl : Nat) plt) kF rfl
  refine' told_loop (news := news) B' X' T' rfl rfl ?d ?u hr hr0 4 _ pl plt _ _ [] kF' kN ?l1 ?l2 ?l3 fun wayA' wn' ws' plt' k h' F' hw' N' => ?_
  case d => simp only [depth_deeper]; omega
  case u => simp only [units_deeper]; omega
  case l1 => omega
  case l2 => exact Nat.lt_of_lt_of_le hpl (by decide)
  case l3 => rw [List.length_nil]; omega
  have hf := of_decide_eq_true way_fact ⟨rs.length, by omega⟩ ⟨pl, hpl⟩ hr0
  have hle := tloop_le rs.length 4 pl []
  simp only [List.map_nil] at hw' F'
  generalize hq : tloop rs.length 4 pl [] = q at *
  obtain ⟨q1, q2⟩ := q
  dsimp only at hw' F' hf hle
  have hwl : ws'.length ≤ 3 := by have := congrArg List.length hw'; rw [List.length_map] at this; omega
  have hwx : ∀ x ∈ ws', x.1 = 1 ∨ x.1 = 2 := fun x hx => by
    have := List.all_eq_true.mp hf.2 x.1 (hw' ▸ List.mem_map_of_mem hx)
    simpa using this
  have eT : toldF (rs.map (·.1)) pl = toldC (if q1 < rs.length then (rs.map (·.1)).getD q1 0 else 61) q2 := by unfold toldF; rw [List.length_map, hq]
  rw [eT, ← hw'] at h
  have fin : ∀ (c : Nat) (ct : Tok) (k : Nat) (h' : Heap) (hc : c < 256), (if q1 < rs.length then (rs.map (·.1)).getD q1 0 else 61) = c → Fr g' L' h' (mR wayA' (some (.str ⟨#[c]⟩ ct)) none (.int (q1 : Nat) plt') rowA) →
      News g' L' h' ((wayA', listOf (wayV ws').toArray wn') :: (rowA, listOf (rowV rs).toArray rn) :: news) →
      wpAny (model PySem.Challenge.rw_rs0059_01.row.prog w) ((⟨none, dp, some (env :: outer), gu, un⟩ : Around).deeper (envT' L')) (execs [nthS 3 tdB, nthS 4 tdB, nthS 5 tdB, nthS 6 tdB] (envT' L')) qk ek { s with heap := h', toks := k } := fun c ct k h' hc ec F' N' => by
    rw [ec] at h
    refine' told_rest B' X' T' rfl rfl ?d ?u hc ws' hwl hwx F' N' fun t k h' m' F' N' => ?_
    case d => simp only [depth_deeper]; omega
    case u => simp only [units_deeper]; omega
    repeat' (first | (k_unfold; (try dsimp only)) | walk1 | (dsimp only; walk1))
    rename Fr h₀ _ _ _ => kF
    rename News h₀ _ _ _ => kN
    exact h _ _ _ kF kN
  dsimp only
  show wpAny _ _ (execs [nthS 2 tdB, nthS 3 tdB, nthS 4 tdB, nthS 5 tdB, nthS 6 tdB] _) _ _ _
  by_cases hq1 : q1 < rs.length
  · obtain ⟨⟨c, ct⟩, hx⟩ : ∃ x, rs[q1]? = some x := ⟨_, List.getElem?_eq_getElem hq1⟩
    have hc : c < 256 := hrc _ (List.mem_of_getElem? hx)
    refine wpAny_execs_cons ?_
    refine' td_sign0 B' X' T' rfl rfl ?d ?u F' N' hr hq1 hx fun k h' F' N' => ?_
    case d => simp only [depth_deeper]; omega
    case u => simp only [units_deeper]; omega
    exact fin _ _ _ _ hc (by rw [if_pos hq1, List.getD_eq_getElem?_getD, List.getElem?_map, hx]; rfl) F' N'
  · refine wpAny_execs_cons ?_
    refine' td_sign1 B' X' T' rfl rfl ?d ?u F' N' hr hq1 ?q fun t k h' F' N' => ?_
    case d => simp only [depth_deeper]; omega
    case u => simp only [units_deeper]; omega
    case q => omega
    exact fin _ _ _ _ (by decide) (if_neg hq1) F' N'
end
end Mine
end
section
open PySem PySem.W PySem.Calls PyProof.Rows PySem.NumText
set_option maxRecDepth 100000
set_option maxHeartbeats 0
set_option linter.unusedVariables false
namespace Mine
theorem wp_hex {M : Model} {A : Around} {E : Value → Shared → Prop} {s : Shared} {Q : Value → Shared → Prop} {v : Value} {a b : Nat} {n : Int}
    (hs : (([a, b] : List Nat).takeWhile (· != 0)).length ≤ 640) (hr : (int_private% "readNumeral") 0 16 (([a, b] : List Nat).takeWhile (· != 0)) = (int_private% "Numeral.value") n)
    (ha : ((([a, b] : List Nat).takeWhile (· != 0)).length == ([a, b] : List Nat).length) = true) (h : Q (.int n s.toks) { s with toks := s.toks + 1 }) :
    wpAny M A ((int_private% "intFromText") v [a, b] 16) Q E s := by
  obtain ⟨hp, g, d, tk, os⟩ := s
  repeat (any_goals (first
    | assumption
    | (with_reducible refine wpAny_ite_true (decide_eq_true hs) ?_)
    | (with_reducible refine wpAny_ite_true (decide_eq_true ha) ?_)
    | wp_step))
  all_goals (try rw [hr])
  all_goals (try dsimp only)
  repeat (any_goals (first
    | assumption
    | (with_reducible refine wpAny_ite_true (decide_eq_true hs) ?_)
    | (with_reducible refine wpAny_ite_true (decide_eq_true ha) ?_)
    | wp_step))
theorem hex_fact : decide (∀ c : _root_.Fin 256, ((int_private% "Numeral.rec") (motive := fun _ => Bool) false (fun _ => false) false (fun i => decide (i = (c.1 : Int))) ((int_private% "readNumeral") 0 16 (([hexC (c.1 / 16), hexC (c.1 % 16)] : List Nat).takeWhile (· != 0)))) = true ∧
    ((([hexC (c.1 / 16), hexC (c.1 % 16)] : List Nat).takeWhile (· != 0)).length == ([hexC (c.1 / 16), hexC (c.1 % 16)] : List Nat).length) = true ∧ (#[hexC (c.1 / 16), hexC (c.1 % 16)] : Array Nat).all (· < 128) = true) = true := by decide +kernel
theorem hex_reads {c : Nat} (hc : c < 256) : (int_private% "readNumeral") 0 16 (([hexC (c / 16), hexC (c % 16)] : List Nat).takeWhile (· != 0)) = (int_private% "Numeral.value") (c : Int) := by
  have h := (of_decide_eq_true hex_fact ⟨c, hc⟩).1
  dsimp only at h
  generalize (int_private% "readNumeral") 0 16 (([hexC (c / 16), hexC (c % 16)] : List Nat).takeWhile (· != 0)) = q at h ⊢
  cases q with
  | value i => exact congrArg _ (of_decide_eq_true h)
  | _ => cases h
structure Hid (p : Prop) : Prop where
  out : p
theorem gives_hex {c : Nat} {u t : Tok} (hc : c < 256) : Gives (Builtin.«int.__new__» ⟨[.type "int", .str ⟨#[hexC (c / 16), hexC (c % 16)]⟩ u, .int 16 t], []⟩) (.int (c : Int)) :=
  .of_wp fun M A E s Q h => by
    obtain ⟨hp, g, d, tk, os⟩ := s
    have f1 := F.conv_sub_int
    have f2 := F.madeHere_int
    have f6 : typeOf (.str ⟨#[hexC (c / 16), hexC (c % 16)]⟩ u) = pure (.type "str") := rfl
    have hf := of_decide_eq_true hex_fact ⟨c, hc⟩
    dsimp only at hf
    have hl : (([hexC (c / 16), hexC (c % 16)] : List Nat).takeWhile (· != 0)).length ≤ 640 := by
      have q := eq_of_beq hf.2.1
      exact Nat.le_trans (Nat.le_of_eq q) (by rw [List.length_cons, List.length_cons, List.length_nil]; decide)
    have hk := Hid.mk (And.intro hl (And.intro (hex_reads hc) hf.2.1))
    have hq := Hid.mk hf.2.2
    clear hf hl
    repeat (any_goals (first
      | assumption
      | ((with_reducible show wpAny _ _ ((int_private% "intFromText") _ _ _) _ _ _); rw [if_pos hq.out]; refine wp_hex hk.out.1 hk.out.2.1 hk.out.2.2 ?_)
      | wp_step))
    all_goals first | exact ⟨_, rfl, h⟩ | skip
section
variable {prog : Program} {w : World} {A : Around} {E : Value → Shared → Prop} {s : Shared}
theorem args_oinit3 (a b c : Value) : argsOk "object.__init__" ⟨[a, b, c], []⟩ := by unfold argsOk; kernel_rfl
theorem call_hex {x : Str} {c : Nat} {u t : Tok} {Q : Value → Shared → Prop} (hc : c < 256) (e : x = ⟨#[hexC (c / 16), hexC (c % 16)]⟩) (h : ∀ t, Q (.int (c : Nat) t) { s with toks := s.toks + 1 }) :
    wpAny (model prog w) A (call (.type "int") [.str x u, .int 16 t]) Q E s := by
  subst e
  exact callType_new F.called_int F.newNe_int (by kernel_rfl) (by kernel_rfl) (fun obj => args_oinit3 obj _ _) F.entry_int_new (gives_hex hc).meets (show (Made.int (c : Int)).post _ s from ⟨rfl, h _⟩)
end
local macro_rules | `(tactic| k_room) => `(tactic| ((try simp only [depth_under_make, depth_under_kw, depth_in1, depth_deeper, depth_caller]); (try dsimp only); simp only [recursionLimit]; omega))
local macro_rules | `(tactic| k_all) => `(tactic| first | assumption | exact ne_of_lo (by assumption) | (refine ne_of_all (by assumption) ?_; (try dsimp only); omega))
local macro_rules | `(tactic| walk_at "call type:int") => `(tactic| (k_here; (refine' call_hex ?c ?e ?_; (case c => assumption); (case e => rfl)); intro t'))
section
variable {w : World} {A A₀ : Around} {s : Shared} {base h₀ : Heap} {outer : List Env} {L : Addr} {m mg mb : Str → Option Value} {env : Env} {news : List (Addr × Obj)} {R : Result → Shared → Prop} {p : Program} {loose : List Str} {mean : ExcName → Option Value}
theorem unquote_K (B : Below A₀ base outer h₀) (F : Fr h₀ L s.heap m) (X₀ : (KK w.params).In h₀) (N : News h₀ L s.heap news) (T : Top p loose mean mg mb h₀) (hA : A.frames = some (env :: outer)) (hf : env.frame = some L) (hke : env.scope.kind = .function) (hh : A.handled = none) (hdp : A.depth < 400) (hun : A.units < 100)
    {c : Nat} {tk : Tok} (hc : c < 256)
    (h : ∀ t k h', Fr h₀ L h' m → News h₀ L h' news → R (.ok (.ret (.str ⟨#[c]⟩ t))) { s with heap := h', toks := k }) :
    codeAny (model PySem.Challenge.rw_rs0059_01.row.prog w) A (.call (.ref 44) ⟨[.str ⟨(quoteL c).toArray⟩ tk], []⟩) R s := by
  obtain ⟨hnd, dp, fr, gu, un⟩ := A
  cases hh
  cases hA
  replace hdp : dp < 400 := hdp
  replace hun : un < 100 := hun
  revert X₀
  k_fill
  intro X₀
  refine' code_def B F X₀ N T rfl hf hke ?k6 ?k7 (Nat.lt_trans hdp (by decide)) ?k9 ?kB ?_ ?c2 ?c3 ?c4 ?c5
  case k6 => k_is
  case k7 => k_is
  case k9 => exact BindsTo.of_eq rfl
  case kB => exact locs rfl
  case c2 => exact rfl
  case c3 => exact rfl
  case c4 => exact rfl
  case c5 => decide
  intro g' L' h' FG' F' N' B' X' T'
  dsimp only
  (try k_lift B')
  (try k_fold)
  repeat' (first | (k_closed; first | (with_reducible refine ite_pos (by decide) ?_) | (with_reducible refine ite_neg (by decide) ?_)) | (k_unfold; (try dsimp only)) | walk1 | (dsimp only; walk1))
  rename Fr h₀ _ _ _ => kF
  rename News h₀ _ _ _ => kN
  exact h _ _ _ kF kN
end
end Mine
end
section
open PySem PySem.W PySem.Calls PyProof.Rows PySem.StrLaws PySem.Builtin PySem.Builtin.Str
set_option maxRecDepth 100000
set_option maxHeartbeats 0
set_option linter.unusedVariables false
namespace Mine
def encL (cs : List Nat) : List Nat := cs.flatMap quoteL
def encOk (y : Nat) : Prop := y = 61 ∨ (48 ≤ y ∧ y ≤ 57) ∨ (65 ≤ y ∧ y ≤ 70)
theorem hexC_ok {d : Nat} (h : d < 16) : encOk (hexC d) := by unfold encOk hexC; split <;> omega
theorem quote_ok {c : Nat} (hc : c < 256) : ∀ y ∈ quoteL c, encOk y := fun y hy => by
  simp only [quoteL, List.mem_cons, List.not_mem_nil, or_false] at hy
  rcases hy with rfl | rfl | rfl
  · exact .inl rfl
  · exact hexC_ok (by omega)
  · exact hexC_ok (by omega)
theorem enc_ok {cs : List Nat} (h : ∀ c ∈ cs, c < 256) : ∀ y ∈ encL cs, encOk y := fun y hy => by
  obtain ⟨c, hc, hy⟩ := List.mem_flatMap.mp hy
  exact quote_ok (h c hc) y hy
theorem lb_fact : decide (∀ y : _root_.Fin 71, Unicode.isLineBreak y.1 = true → y.1 < 48) = true := by decide +kernel
theorem sp_fact : decide (∀ y : _root_.Fin 71, Unicode.isSpace y.1 = true → y.1 < 48) = true := by decide +kernel
theorem enc_lb {y : Nat} (h : encOk y) : Unicode.isLineBreak y = false := by
  unfold encOk at h
  cases q : Unicode.isLineBreak y with
  | false => rfl
  | true => have := of_decide_eq_true lb_fact ⟨y, by omega⟩ q; dsimp only at this; omega
theorem enc_sp {y : Nat} (h : encOk y) : Unicode.isSpace y = false := by
  unfold encOk at h
  cases q : Unicode.isSpace y with
  | false => rfl
  | true => have := of_decide_eq_true sp_fact ⟨y, by omega⟩ q; dsimp only at this; omega
theorem enc_len : ∀ cs : List Nat, (encL cs).length = 3 * cs.length
  | [] => rfl
  | c :: cs => by
    show (quoteL c ++ encL cs).length = _
    rw [List.length_append, enc_len cs, List.length_cons, show (quoteL c).length = 3 from rfl]; omega
theorem enc_drop : ∀ (j : Nat) (cs : List Nat), (encL cs).drop (3 * j) = encL (cs.drop j)
  | 0, cs => rfl
  | j + 1, [] => by simp [encL]
  | j + 1, c :: cs => by
    show (quoteL c ++ encL cs).drop (3 * (j + 1)) = encL (cs.drop j)
    rw [show 3 * (j + 1) = 3 + 3 * j by omega, ← List.drop_drop]
    exact enc_drop j cs
theorem ls_none (s : Str) (hs : ∀ i, i < s.length → Unicode.isLineBreak (s.cps.getD i 0) = false) : ∀ (m cur : Nat), cur + m ≤ s.length → Id.run (forIn (m := Id) (List.range' cur m) ((#[], 0) : LsSt) (lsBody s)) = (#[], 0)
  | 0, cur, _ => rfl
  | m + 1, cur, h => by
    rw [List.range'_succ, List.forIn_cons]
    have e : lsBody s cur (#[], 0) = pure (ForInStep.yield (#[], 0)) := by
      unfold lsBody
      rw [hs cur (by omega), Bool.and_false]
      rfl
    rw [e]
    exact ls_none s hs m (cur + 1) (by omega)
theorem cuts_one {s : Str} (h0 : 0 < s.length) (hs : ∀ i, i < s.length → Unicode.isLineBreak (s.cps.getD i 0) = false) : lineCuts s = [(0, s.length)] := by
  unfold lineCuts
  rw [ls_eq, ls_none s hs s.length 0 (by omega)]
  unfold lsEnd
  rw [if_pos h0]
  rfl
theorem slice3 {x : Str} {i : Nat} {a b c : Nat} (h : i + 3 ≤ x.length) (ha : x.cps[i]? = some a) (hb : x.cps[i + 1]? = some b) (hc : x.cps[i + 2]? = some c) : Txt.slice x (some (i : Int)) (some ((i : Int) + 3)) = ⟨#[a, b, c]⟩ := by
  have e : strSliceIndices (some (i : Int)) (some ((i : Int) + 3)) 1 x.length = [i, i + 1, i + 2] := by
    unfold strSliceIndices sliceRange
    have h1 : ¬ ((i : Int) < 0) := by omega
    have h2 : ¬ ((i : Int) + 3 < 0) := by omega
    have h3 : max (0 : Int) (min (i : Int) (x.length : Int)) = i := by omega
    have h4 : max (0 : Int) (min ((i : Int) + 3) (x.length : Int)) = i + 3 := by omega
    simp only [show (1 : Int) > 0 by decide, if_true, h1, h2, if_false, h3, h4]
    rw [if_pos (by omega), show ((i : Int) + 3 - i + 1 - 1) / 1 = 3 by omega]
    show [((i : Int) + 1 * ((0 : Nat) : Int)).toNat, ((i : Int) + 1 * ((1 : Nat) : Int)).toNat, ((i : Int) + 1 * ((2 : Nat) : Int)).toNat] = _
    rw [show ((i : Int) + 1 * ((0 : Nat) : Int)).toNat = i by omega, show ((i : Int) + 1 * ((1 : Nat) : Int)).toNat = i + 1 by omega, show ((i : Int) + 1 * ((2 : Nat) : Int)).toNat = i + 2 by omega]
  unfold Txt.slice
  rw [e]
  by_cases hl : ((1 : Int) == 1 && ([i, i + 1, i + 2] : List Nat).length == x.length) = true
  · rw [if_pos hl]
    have hl' : x.length = 3 := by
      have := (Bool.and_eq_true_iff.mp hl).2
      exact (eq_of_beq this).symm
    obtain rfl : i = 0 := by omega
    obtain ⟨⟨l⟩⟩ := x
    have hl2 : l.length = 3 := hl'
    match l, hl2 with
    | [p, q, r], _ => cases ha; cases hb; cases hc; rfl
  · rw [if_neg hl]
    simp only [List.filterMap_cons, ha, hb, hc, List.filterMap_nil]
theorem lines_one {s : Str} (h0 : 0 < s.length) (hs : ∀ y ∈ s.cps.toList, encOk y) : Txt.lines s = [s] := by
  refine if_pos ?_
  rw [cuts_one h0 fun i hi => enc_lb (hs _ ?_)]
  · exact beq_self_eq_true _
  · have hi' : i < s.cps.size := hi
    rw [Array.getD_eq_getD_getElem?, Array.getElem?_eq_getElem hi']
    exact Array.getElem_mem_toList hi'
theorem rstrip_one {s : Str} (h0 : 0 < s.length) (hs : ∀ y ∈ s.cps.toList, encOk y) : Txt.rstrip s = s := by
  have e : stripHi Unicode.isSpace true s (stripLo Unicode.isSpace false s) = s.length := by
    unfold stripHi stripLo
    simp only [if_true, Bool.false_eq_true, if_false, List.drop_zero]
    have : (s.cps.toList.reverse.takeWhile Unicode.isSpace) = [] := by
      cases q : s.cps.toList.reverse with
      | nil => rfl
      | cons y r =>
        rw [List.takeWhile_cons, enc_sp (hs y (List.mem_reverse.mp (q ▸ List.mem_cons_self)))]
        rfl
    rw [this]; rfl
  unfold Txt.rstrip Txt.stripBy
  refine if_pos ?_
  unfold stripSame
  rw [e]
  simp [stripLo]
end Mine
end
section
open PySem PySem.W PySem.Calls PyProof.Rows
set_option maxRecDepth 100000
set_option maxHeartbeats 0
set_option linter.unusedVariables false
namespace Mine
local macro_rules | `(tactic| k_room) => `(tactic| ((try simp only [depth_under_make, depth_under_kw, depth_in1, depth_deeper, depth_caller]); (try dsimp only); simp only [recursionLimit]; omega))
local macro_rules | `(tactic| k_all) => `(tactic| first | assumption | exact ne_of_lo (by assumption) | (refine ne_of_all (by assumption) ?_; (try dsimp only); omega))
abbrev dcB : List Stmt := fdBody (nthS 19 mainB)
abbrev envD (L : Addr) : Env := envOf (Str.ofString "decode") (fdScope (nthS 19 mainB)) L 64 (.ref 63)
def whT' (s : Stmt) : Expr := match s with | .While t _ _ _ => t | _ => default
def whB' (s : Stmt) : List Stmt := match s with | .While _ b _ _ => b | _ => []
def dcF : List Stmt := fdBody (nthS 2 dcB)
def dcT : Expr := whT' (nthS 4 dcF)
def dcW : List Stmt := whB' (nthS 4 dcF)
/-- decode's names -/
def mD (x : Value) (dec ln i n c : Option Value) : Str → Option Value := fun y =>
  if y = Str.ofString "c" then c else if y = Str.ofString "decoded" then dec else if y = Str.ofString "i" then i else if y = Str.ofString "n" then n else if y = Str.ofString "line" then ln
  else if y = Str.ofString "eol" then some (.str (Str.ofString "\n") 194) else if y = Str.ofString "encoded" then some x else none
theorem mD_c (x : Value) (dec ln i n c : Option Value) (v : Value) (y : Str) : (if y = Str.ofString "c" then some v else mD x dec ln i n c y) = mD x dec ln i n (some v) y := by
  unfold mD; by_cases h : y = Str.ofString "c" <;> simp [h]
theorem mD_dec (x : Value) (dec ln i n c : Option Value) (v : Value) (y : Str) : (if y = Str.ofString "decoded" then some v else mD x dec ln i n c y) = mD x (some v) ln i n c y := by
  unfold mD
  by_cases h : y = Str.ofString "decoded"
  · subst h; rw [if_pos rfl, if_neg (by decide +kernel), if_pos rfl]
  · simp [h]
theorem mD_i (x : Value) (dec ln i n c : Option Value) (v : Value) (y : Str) : (if y = Str.ofString "i" then some v else mD x dec ln i n c y) = mD x dec ln (some v) n c y := by
  unfold mD
  by_cases h : y = Str.ofString "i"
  · subst h; rw [if_pos rfl, if_neg (by decide +kernel), if_neg (by decide +kernel), if_pos rfl]
  · simp [h]
theorem mD_n (x : Value) (dec ln i n c : Option Value) (v : Value) (y : Str) : (if y = Str.ofString "n" then some v else mD x dec ln i n c y) = mD x dec ln i (some v) c y := by
  unfold mD
  by_cases h : y = Str.ofString "n"
  · subst h; rw [if_pos rfl, if_neg (by decide +kernel), if_neg (by decide +kernel), if_neg (by decide +kernel), if_pos rfl]
  · simp [h]
theorem mD_ln (x : Value) (dec ln i n c : Option Value) (v : Value) (y : Str) : (if y = Str.ofString "line" then some v else mD x dec ln i n c y) = mD x dec (some v) i n c y := by
  unfold mD
  by_cases h : y = Str.ofString "line"
  · subst h; rw [if_pos rfl, if_neg (by decide +kernel), if_neg (by decide +kernel), if_neg (by decide +kernel), if_neg (by decide +kernel), if_pos rfl]
  · simp [h]
section
variable {w : World} {A A₀ : Around} {s : Shared} {base h₀ : Heap} {outer : List Env} {L : Addr} {m mg mb : Str → Option Value} {env : Env} {news : List (Addr × Obj)} {p : Program} {loose : List Str} {mean : ExcName → Option Value}
theorem unq_R (B : Below A₀ base outer h₀) (F : Fr h₀ L s.heap m) (X₀ : (KK w.params).In h₀) (N : News h₀ L s.heap news) (T : Top p loose mean mg mb h₀) (hA : A.frames = some (env :: outer)) (hf : env.frame = some L) (hke : env.scope.kind = .function) (hh : A.handled = none) (hdp : A.depth < 400) (hun : A.units < 100)
    {c : Nat} {x : Str} {tk : Tok} {E Q : Value → Shared → Prop} (hc : c < 256) (e : x = ⟨(quoteL c).toArray⟩)
    (h : ∀ t k h', Fr h₀ L h' m → News h₀ L h' news → Q (.str ⟨#[c]⟩ t) { s with heap := h', toks := k }) :
    wpAny (model PySem.Challenge.rw_rs0059_01.row.prog w) A (call (.ref 44) [.str x tk]) Q E s := by
  subst e
  exact wpAny_call (unquote_K B F X₀ N T hA hf hke hh hdp hun hc h)
end
local macro_rules | `(tactic| walk_at "call ref") => `(tactic| (k_here; k_dflt (refine' unq_R ?B ?F ?X ?N ?T ?A ?f ?k ?h ?d ?u ?c ?e ?_; (case B => k_asm); (case F => k_asm); (case X => k_asm); (case N => k_asm); (case T => k_asm); (case A => exact rfl); (case f => exact rfl); (case k => exact rfl); (case h => exact rfl); (case d => ((try simp only [depth_deeper]); (try dsimp only); omega)); (case u => ((try simp only [units_deeper]); (try dsimp only); omega)); (case e => assumption); (case c => assumption)); intro t' k' h' F' N'))
section
variable {w : World} {A A₀ : Around} {s : Shared} {base h₀ : Heap} {outer : List Env} {L : Addr} {m mg mb : Str → Option Value} {news : List (Addr × Obj)} {p : Program} {loose : List Str} {mean : ExcName → Option Value}
  {Q : Flow → Shared → Prop} {E : Value → Shared → Prop} {x dn : Str} {xt lt it nt dt ct : Tok} {i n : Nat} {cv : Option Value} {c : Nat} {xv : Value}
theorem dw_1 (B : Below A₀ base outer h₀) (X₀ : (KK w.params).In h₀) (T : Top p loose mean mg mb h₀) (hA : A.frames = some (envD L :: outer)) (hh : A.handled = none) (hdp : A.depth < 375) (hun : A.units < 75)
    (F : Fr h₀ L s.heap (mD xv (some (.str dn dt)) (some (.str x lt)) (some (.int (i : Nat) it)) (some (.int (n : Nat) nt)) cv)) (N : News h₀ L s.heap news) (hn : x.length = n) (hn9 : n ≤ 39) (hi : i + 3 ≤ n) (e1 : Txt.item x (i : Int) = Str.ofString "=")
    (h : ∀ k h' ct, Fr h₀ L h' (mD xv (some (.str dn dt)) (some (.str x lt)) (some (.int (i : Nat) it)) (some (.int (n : Nat) nt)) (some (.str (Str.ofString "=") ct))) → News h₀ L h' news → Q .next { s with heap := h', toks := k }) :
    wpAny (model PySem.Challenge.rw_rs0059_01.row.prog w) A (exec (nthS 0 dcW) (envD L)) Q E s := by
  obtain ⟨hnd, dp, fr, gu, un⟩ := A
  cases hh
  cases hA
  replace hdp : dp < 375 := hdp
  replace hun : un < 75 := hun
  revert X₀
  k_fill
  intro X₀
  (conv in nthS 0 dcW => whnf)
  (try k_fold)
  repeat' ((fail_if_success (with_reducible show wpAny _ _ (exec (Stmt.While _ _ _ _) _) _ _ _)); (fail_if_success (with_reducible show wpAny _ _ (exec (Stmt.For _ _ _ _ _) _) _ _ _)); first | (k_closed; first | (with_reducible refine ite_pos (by decide) ?_) | (with_reducible refine ite_neg (by decide) ?_)) | (k_unfold; (try dsimp only)) | walk1 | (dsimp only; walk1))
  all_goals (try (exfalso; omega))
  all_goals (rename Fr h₀ _ _ _ => kF; rename News h₀ _ _ _ => kN; simp only [mD_c, e1] at kF; exact h _ _ _ kF kN)
theorem dw_2 (B : Below A₀ base outer h₀) (X₀ : (KK w.params).In h₀) (T : Top p loose mean mg mb h₀) (hA : A.frames = some (envD L :: outer)) (hh : A.handled = none) (hdp : A.depth < 375) (hun : A.units < 75)
    (F : Fr h₀ L s.heap (mD xv (some (.str dn dt)) (some (.str x lt)) (some (.int (i : Nat) it)) (some (.int (n : Nat) nt)) (some (.str (Str.ofString "=") ct)))) (N : News h₀ L s.heap news) (hn : x.length = n) (hn9 : n ≤ 39) (hi : i + 3 ≤ n) (hc : c < 256) (hd : dn.length ≤ 100) (o1 : (!(Builtin.Str.occurrences (Str.ofString "0123456789abcdefABCDEF") (Txt.item x ((i : Int) + 1)) 0 (Str.ofString "0123456789abcdefABCDEF").length 1).isEmpty) = true) (o2 : (!(Builtin.Str.occurrences (Str.ofString "0123456789abcdefABCDEF") (Txt.item x ((i : Int) + 2)) 0 (Str.ofString "0123456789abcdefABCDEF").length 1).isEmpty) = true) (es : Txt.slice x (some (i : Int)) (some ((i : Int) + 3)) = ⟨(quoteL c).toArray⟩)
    (h : ∀ k h' dt' it', Fr h₀ L h' (mD xv (some (.str (dn ++ ⟨#[c]⟩) dt')) (some (.str x lt)) (some (.int (i + 3 : Nat) it')) (some (.int (n : Nat) nt)) (some (.str (Str.ofString "=") ct))) → News h₀ L h' news → Q .next { s with heap := h', toks := k }) :
    wpAny (model PySem.Challenge.rw_rs0059_01.row.prog w) A (exec (nthS 1 dcW) (envD L)) Q E s := by
  obtain ⟨hnd, dp, fr, gu, un⟩ := A
  cases hh
  cases hA
  replace hdp : dp < 375 := hdp
  replace hun : un < 75 := hun
  have g1 : (i : Int) + 1 ≠ n := by omega
  have g2 : decide ((i : Int) + 1 = n) = false := decide_eq_false g1
  revert X₀
  k_fill
  intro X₀
  (conv in nthS 1 dcW => whnf)
  (try k_fold)
  repeat' ((fail_if_success (with_reducible show wpAny _ _ (exec (Stmt.While _ _ _ _) _) _ _ _)); (fail_if_success (with_reducible show wpAny _ _ (exec (Stmt.For _ _ _ _ _) _) _ _ _)); first | (k_closed; first | (with_reducible refine ite_pos (by decide) ?_) | (with_reducible refine ite_neg (by decide) ?_)) | (k_unfold; (try dsimp only)) | walk1 | (dsimp only; walk1))
  all_goals (try (exfalso; omega))
  all_goals (rename Fr h₀ _ _ _ => kF; rename News h₀ _ _ _ => kN; simp only [mD_dec, mD_i] at kF; exact h _ _ _ _ kF kN)
theorem dw_3a (B : Below A₀ base outer h₀) (X₀ : (KK w.params).In h₀) (T : Top p loose mean mg mb h₀) (hA : A.frames = some (envD L :: outer)) (hh : A.handled = none) (hdp : A.depth < 375) (hun : A.units < 75)
    (F : Fr h₀ L s.heap (mD xv (some (.str dn dt)) (some (.str x lt)) (some (.int (i : Nat) it)) (some (.int (n : Nat) nt)) cv)) (N : News h₀ L s.heap news) (hn : x.length = n) (hn9 : n ≤ 39) (hi : i < n) (hd : dn.length ≤ 100)
    (h : ∀ k h', Fr h₀ L h' (mD xv (some (.str dn dt)) (some (.str x lt)) (some (.int (i : Nat) it)) (some (.int (n : Nat) nt)) cv) → News h₀ L h' news → Q .next { s with heap := h', toks := k }) :
    wpAny (model PySem.Challenge.rw_rs0059_01.row.prog w) A (exec (nthS 2 dcW) (envD L)) Q E s := by
  obtain ⟨hnd, dp, fr, gu, un⟩ := A
  cases hh
  cases hA
  replace hdp : dp < 375 := hdp
  replace hun : un < 75 := hun
  have g1 : (i : Int) ≠ n := by omega
  have g2 : decide ((i : Int) = n) = false := decide_eq_false g1
  revert X₀
  k_fill
  intro X₀
  (conv in nthS 2 dcW => whnf)
  (try k_fold)
  repeat' ((fail_if_success (with_reducible show wpAny _ _ (exec (Stmt.While _ _ _ _) _) _ _ _)); (fail_if_success (with_reducible show wpAny _ _ (exec (Stmt.For _ _ _ _ _) _) _ _ _)); first | (k_closed; first | (with_reducible refine ite_pos (by decide) ?_) | (with_reducible refine ite_neg (by decide) ?_)) | (k_unfold; (try dsimp only)) | walk1 | (dsimp only; walk1))
  all_goals (try (exfalso; omega))
  all_goals (rename Fr h₀ _ _ _ => kF; rename News h₀ _ _ _ => kN; exact h _ _ kF kN)
theorem dw_3b (B : Below A₀ base outer h₀) (X₀ : (KK w.params).In h₀) (T : Top p loose mean mg mb h₀) (hA : A.frames = some (envD L :: outer)) (hh : A.handled = none) (hdp : A.depth < 375) (hun : A.units < 75)
    (F : Fr h₀ L s.heap (mD xv (some (.str dn dt)) (some (.str x lt)) (some (.int (n : Nat) it)) (some (.int (n : Nat) nt)) cv)) (N : News h₀ L s.heap news) (hn : x.length = n) (hn9 : n ≤ 39) (hd : dn.length ≤ 100)
    (h : ∀ k h' dt', Fr h₀ L h' (mD xv (some (.str (dn ++ Str.ofString "\n") dt')) (some (.str x lt)) (some (.int (n : Nat) it)) (some (.int (n : Nat) nt)) cv) → News h₀ L h' news → Q .next { s with heap := h', toks := k }) :
    wpAny (model PySem.Challenge.rw_rs0059_01.row.prog w) A (exec (nthS 2 dcW) (envD L)) Q E s := by
  obtain ⟨hnd, dp, fr, gu, un⟩ := A
  cases hh
  cases hA
  replace hdp : dp < 375 := hdp
  replace hun : un < 75 := hun
  revert X₀
  k_fill
  intro X₀
  (conv in nthS 2 dcW => whnf)
  (try k_fold)
  repeat' ((fail_if_success (with_reducible show wpAny _ _ (exec (Stmt.While _ _ _ _) _) _ _ _)); (fail_if_success (with_reducible show wpAny _ _ (exec (Stmt.For _ _ _ _ _) _) _ _ _)); first | (k_closed; first | (with_reducible refine ite_pos (by decide) ?_) | (with_reducible refine ite_neg (by decide) ?_)) | (k_unfold; (try dsimp only)) | walk1 | (dsimp only; walk1))
  all_goals (try (exfalso; omega))
  all_goals (rename Fr h₀ _ _ _ => kF; rename News h₀ _ _ _ => kN; simp only [mD_dec] at kF; exact h _ _ _ kF kN)
end
end Mine
end
section
open PySem PySem.W PySem.Calls PyProof.Rows
set_option maxRecDepth 100000
set_option maxHeartbeats 0
set_option linter.unusedVariables false
namespace Mine
local macro_rules | `(tactic| k_room) => `(tactic| ((try simp only [depth_under_make, depth_under_kw, depth_in1, depth_deeper, depth_caller]); (try dsimp only); simp only [recursionLimit]; omega))
local macro_rules | `(tactic| k_all) => `(tactic| first | assumption | exact ne_of_lo (by assumption) | (refine ne_of_all (by assumption) ?_; (try dsimp only); omega))
section
variable {w : World} {A A₀ : Around} {s : Shared} {base h₀ : Heap} {outer : List Env} {L : Addr} {m mg mb : Str → Option Value} {news : List (Addr × Obj)} {p : Program} {loose : List Str} {mean : ExcName → Option Value}
  {Q : Flow → Shared → Prop} {E : Value → Shared → Prop} {x dn : Str} {xt lt it nt dt ct : Tok} {i n : Nat} {cv d ln io no co : Option Value} {c : Nat} {xv : Value}
theorem db_1 (B : Below A₀ base outer h₀) (X₀ : (KK w.params).In h₀) (T : Top p loose mean mg mb h₀) (hA : A.frames = some (envD L :: outer)) (hh : A.handled = none) (hdp : A.depth < 375) (hun : A.units < 75)
    (F : Fr h₀ L s.heap (mD xv d (some (.str x lt)) none none none)) (N : News h₀ L s.heap news) (h0 : 0 < x.length) (hx9 : x.length ≤ 39) (er : Txt.rstrip x = x)
    (h : ∀ k h' lt', Fr h₀ L h' (mD xv d (some (.str x lt')) none none none) → News h₀ L h' news → Q .next { s with heap := h', toks := k }) :
    wpAny (model PySem.Challenge.rw_rs0059_01.row.prog w) A (exec (nthS 0 dcF) (envD L)) Q E s := by
  obtain ⟨hnd, dp, fr, gu, un⟩ := A
  cases hh
  cases hA
  replace hdp : dp < 375 := hdp
  replace hun : un < 75 := hun
  revert X₀
  k_fill
  intro X₀
  (conv in nthS 0 dcF => whnf)
  (try k_fold)
  repeat' ((fail_if_success (with_reducible show wpAny _ _ (exec (Stmt.While _ _ _ _) _) _ _ _)); (fail_if_success (with_reducible show wpAny _ _ (exec (Stmt.For _ _ _ _ _) _) _ _ _)); first | (k_closed; first | (with_reducible refine ite_pos (by decide) ?_) | (with_reducible refine ite_neg (by decide) ?_)) | (k_unfold; (try dsimp only)) | walk1 | (dsimp only; walk1))
  all_goals (try (exfalso; omega))
  all_goals (rename Fr h₀ _ _ _ => kF; rename News h₀ _ _ _ => kN; simp only [mD_ln, er] at kF; exact h _ _ _ kF kN)
theorem db_2 (B : Below A₀ base outer h₀) (X₀ : (KK w.params).In h₀) (T : Top p loose mean mg mb h₀) (hA : A.frames = some (envD L :: outer)) (hh : A.handled = none) (hdp : A.depth < 375) (hun : A.units < 75)
    (F : Fr h₀ L s.heap (mD xv d (some (.str x lt)) none none none)) (N : News h₀ L s.heap news) (h0 : 0 < x.length) (hx9 : x.length ≤ 39)
    (h : ∀ k h', Fr h₀ L h' (mD xv d (some (.str x lt)) none none none) → News h₀ L h' news → Q .next { s with heap := h', toks := k }) :
    wpAny (model PySem.Challenge.rw_rs0059_01.row.prog w) A (exec (nthS 1 dcF) (envD L)) Q E s := by
  obtain ⟨hnd, dp, fr, gu, un⟩ := A
  cases hh
  cases hA
  replace hdp : dp < 375 := hdp
  replace hun : un < 75 := hun
  revert X₀
  k_fill
  intro X₀
  (conv in nthS 1 dcF => whnf)
  (try k_fold)
  repeat' ((fail_if_success (with_reducible show wpAny _ _ (exec (Stmt.While _ _ _ _) _) _ _ _)); (fail_if_success (with_reducible show wpAny _ _ (exec (Stmt.For _ _ _ _ _) _) _ _ _)); first | (k_closed; first | (with_reducible refine ite_pos (by decide) ?_) | (with_reducible refine ite_neg (by decide) ?_)) | (k_unfold; (try dsimp only)) | walk1 | (dsimp only; walk1))
  all_goals (try (exfalso; omega))
  all_goals (rename Fr h₀ _ _ _ => kF; rename News h₀ _ _ _ => kN; exact h _ _ kF kN)
theorem db_3 (B : Below A₀ base outer h₀) (X₀ : (KK w.params).In h₀) (T : Top p loose mean mg mb h₀) (hA : A.frames = some (envD L :: outer)) (hh : A.handled = none) (hdp : A.depth < 375) (hun : A.units < 75)
    (F : Fr h₀ L s.heap (mD xv d (some (.str x lt)) none none none)) (N : News h₀ L s.heap news) (h0 : 0 < x.length) (hx9 : x.length ≤ 39)
    (h : ∀ k h' it', Fr h₀ L h' (mD xv d (some (.str x lt)) (some (.int (0 : Nat) it')) none none) → News h₀ L h' news → Q .next { s with heap := h', toks := k }) :
    wpAny (model PySem.Challenge.rw_rs0059_01.row.prog w) A (exec (nthS 2 dcF) (envD L)) Q E s := by
  obtain ⟨hnd, dp, fr, gu, un⟩ := A
  cases hh
  cases hA
  replace hdp : dp < 375 := hdp
  replace hun : un < 75 := hun
  revert X₀
  k_fill
  intro X₀
  (conv in nthS 2 dcF => whnf)
  (try k_fold)
  repeat' ((fail_if_success (with_reducible show wpAny _ _ (exec (Stmt.While _ _ _ _) _) _ _ _)); (fail_if_success (with_reducible show wpAny _ _ (exec (Stmt.For _ _ _ _ _) _) _ _ _)); first | (k_closed; first | (with_reducible refine ite_pos (by decide) ?_) | (with_reducible refine ite_neg (by decide) ?_)) | (k_unfold; (try dsimp only)) | walk1 | (dsimp only; walk1))
  all_goals (try (exfalso; omega))
  all_goals (rename Fr h₀ _ _ _ => kF; rename News h₀ _ _ _ => kN; simp only [mD_i] at kF; exact h _ _ _ kF kN)
theorem db_4 (B : Below A₀ base outer h₀) (X₀ : (KK w.params).In h₀) (T : Top p loose mean mg mb h₀) (hA : A.frames = some (envD L :: outer)) (hh : A.handled = none) (hdp : A.depth < 375) (hun : A.units < 75)
    (F : Fr h₀ L s.heap (mD xv d (some (.str x lt)) io none none)) (N : News h₀ L s.heap news) (h0 : 0 < x.length) (hx9 : x.length ≤ 39)
    (h : ∀ k h' nt', Fr h₀ L h' (mD xv d (some (.str x lt)) io (some (.int (x.length : Nat) nt')) none) → News h₀ L h' news → Q .next { s with heap := h', toks := k }) :
    wpAny (model PySem.Challenge.rw_rs0059_01.row.prog w) A (exec (nthS 3 dcF) (envD L)) Q E s := by
  obtain ⟨hnd, dp, fr, gu, un⟩ := A
  cases hh
  cases hA
  replace hdp : dp < 375 := hdp
  replace hun : un < 75 := hun
  revert X₀
  k_fill
  intro X₀
  (conv in nthS 3 dcF => whnf)
  (try k_fold)
  repeat' ((fail_if_success (with_reducible show wpAny _ _ (exec (Stmt.While _ _ _ _) _) _ _ _)); (fail_if_success (with_reducible show wpAny _ _ (exec (Stmt.For _ _ _ _ _) _) _ _ _)); first | (k_closed; first | (with_reducible refine ite_pos (by decide) ?_) | (with_reducible refine ite_neg (by decide) ?_)) | (k_unfold; (try dsimp only)) | walk1 | (dsimp only; walk1))
  all_goals (try (exfalso; omega))
  all_goals (rename Fr h₀ _ _ _ => kF; rename News h₀ _ _ _ => kN; simp only [mD_n] at kF; exact h _ _ _ kF kN)
theorem de_0 (B : Below A₀ base outer h₀) (X₀ : (KK w.params).In h₀) (T : Top p loose mean mg mb h₀) (hA : A.frames = some (envD L :: outer)) (hh : A.handled = none) (hdp : A.depth < 375) (hun : A.units < 75)
    (F : Fr h₀ L s.heap (mD (.str x xt) none none none none none)) (N : News h₀ L s.heap news) (h0 : 0 < x.length) (hx9 : x.length ≤ 39)
    (h : ∀ k h', Fr h₀ L h' (mD (.str x xt) none none none none none) → News h₀ L h' news → Q .next { s with heap := h', toks := k }) :
    wpAny (model PySem.Challenge.rw_rs0059_01.row.prog w) A (exec (nthS 0 dcB) (envD L)) Q E s := by
  obtain ⟨hnd, dp, fr, gu, un⟩ := A
  cases hh
  cases hA
  replace hdp : dp < 375 := hdp
  replace hun : un < 75 := hun
  revert X₀
  k_fill
  intro X₀
  (conv in nthS 0 dcB => whnf)
  (try k_fold)
  repeat' ((fail_if_success (with_reducible show wpAny _ _ (exec (Stmt.While _ _ _ _) _) _ _ _)); (fail_if_success (with_reducible show wpAny _ _ (exec (Stmt.For _ _ _ _ _) _) _ _ _)); first | (k_closed; first | (with_reducible refine ite_pos (by decide) ?_) | (with_reducible refine ite_neg (by decide) ?_)) | (k_unfold; (try dsimp only)) | walk1 | (dsimp only; walk1))
  all_goals (try (exfalso; omega))
  all_goals (rename Fr h₀ _ _ _ => kF; rename News h₀ _ _ _ => kN; exact h _ _ kF kN)
theorem de_00 (B : Below A₀ base outer h₀) (X₀ : (KK w.params).In h₀) (T : Top p loose mean mg mb h₀) (hA : A.frames = some (envD L :: outer)) (hh : A.handled = none) (hdp : A.depth < 375) (hun : A.units < 75)
    (F : Fr h₀ L s.heap (mD (.str x xt) none none none none none)) (N : News h₀ L s.heap news) (h0 : x.length = 0)
    (h : ∀ k h', Fr h₀ L h' (mD (.str x xt) none none none none none) → News h₀ L h' news → Q (.ret (.str x xt)) { s with heap := h', toks := k }) :
    wpAny (model PySem.Challenge.rw_rs0059_01.row.prog w) A (exec (nthS 0 dcB) (envD L)) Q E s := by
  obtain ⟨hnd, dp, fr, gu, un⟩ := A
  cases hh
  cases hA
  replace hdp : dp < 375 := hdp
  replace hun : un < 75 := hun
  revert X₀
  k_fill
  intro X₀
  (conv in nthS 0 dcB => whnf)
  (try k_fold)
  repeat' ((fail_if_success (with_reducible show wpAny _ _ (exec (Stmt.While _ _ _ _) _) _ _ _)); (fail_if_success (with_reducible show wpAny _ _ (exec (Stmt.For _ _ _ _ _) _) _ _ _)); first | (k_closed; first | (with_reducible refine ite_pos (by decide) ?_) | (with_reducible refine ite_neg (by decide) ?_)) | (k_unfold; (try dsimp only)) | walk1 | (dsimp only; walk1))
  all_goals (try (exfalso; omega))
  all_goals (rename Fr h₀ _ _ _ => kF; rename News h₀ _ _ _ => kN; exact h _ _ kF kN)
theorem de_1 (B : Below A₀ base outer h₀) (X₀ : (KK w.params).In h₀) (T : Top p loose mean mg mb h₀) (hA : A.frames = some (envD L :: outer)) (hh : A.handled = none) (hdp : A.depth < 375) (hun : A.units < 75)
    (F : Fr h₀ L s.heap (mD xv none none none none none)) (N : News h₀ L s.heap news)
    (h : ∀ k h' dt', Fr h₀ L h' (mD xv (some (.str (Str.ofString "") dt')) none none none none) → News h₀ L h' news → Q .next { s with heap := h', toks := k }) :
    wpAny (model PySem.Challenge.rw_rs0059_01.row.prog w) A (exec (nthS 1 dcB) (envD L)) Q E s := by
  obtain ⟨hnd, dp, fr, gu, un⟩ := A
  cases hh
  cases hA
  replace hdp : dp < 375 := hdp
  replace hun : un < 75 := hun
  revert X₀
  k_fill
  intro X₀
  (conv in nthS 1 dcB => whnf)
  (try k_fold)
  repeat' ((fail_if_success (with_reducible show wpAny _ _ (exec (Stmt.While _ _ _ _) _) _ _ _)); (fail_if_success (with_reducible show wpAny _ _ (exec (Stmt.For _ _ _ _ _) _) _ _ _)); first | (k_closed; first | (with_reducible refine ite_pos (by decide) ?_) | (with_reducible refine ite_neg (by decide) ?_)) | (k_unfold; (try dsimp only)) | walk1 | (dsimp only; walk1))
  all_goals (try (exfalso; omega))
  all_goals (rename Fr h₀ _ _ _ => kF; rename News h₀ _ _ _ => kN; simp only [mD_dec] at kF; exact h _ _ _ kF kN)
end
end Mine
end
section
open PySem PySem.W PySem.Calls PyProof.Rows
set_option maxRecDepth 100000
set_option maxHeartbeats 0
set_option linter.unusedVariables false
namespace Mine
local macro_rules | `(tactic| k_room) => `(tactic| ((try simp only [depth_under_make, depth_under_kw, depth_in1, depth_deeper, depth_caller]); (try dsimp only); simp only [recursionLimit]; omega))
local macro_rules | `(tactic| k_all) => `(tactic| first | assumption | exact ne_of_lo (by assumption) | (refine ne_of_all (by assumption) ?_; (try dsimp only); omega))
section
variable {w : World} {A A₀ : Around} {s : Shared} {base h₀ : Heap} {outer : List Env} {L : Addr} {m mg mb : Str → Option Value} {news : List (Addr × Obj)} {p : Program} {loose : List Str} {mean : ExcName → Option Value}
  {Q : Flow → Shared → Prop} {E : Value → Shared → Prop} {x dn dm : Str} {xt lt it nt dt ct : Tok} {i n : Nat} {cv d ln io no co : Option Value} {c : Nat} {xv : Value}
theorem de_3 (B : Below A₀ base outer h₀) (X₀ : (KK w.params).In h₀) (T : Top p loose mean mg mb h₀) (hA : A.frames = some (envD L :: outer)) (hh : A.handled = none) (hdp : A.depth < 375) (hun : A.units < 75)
    (F : Fr h₀ L s.heap (mD (.str x xt) (some (.str dn dt)) ln io no co)) (N : News h₀ L s.heap news) (h0 : 0 < x.length) (hx9 : x.length ≤ 39) (hd : dn.length ≤ 100) (hd1 : 1 ≤ dn.length) (o1 : (Builtin.Str.occurrences (Str.ofString "\x0d\n") (Txt.item x (-1)) 0 (Str.ofString "\x0d\n").length 1).isEmpty = true) (ew : Txt.endswith dn (Str.ofString "\n") = true) (es : Txt.slice dn none (some (-((1 : Nat) : Int))) = dm)
    (h : ∀ k h' dt', Fr h₀ L h' (mD (.str x xt) (some (.str dm dt')) ln io no co) → News h₀ L h' news → Q .next { s with heap := h', toks := k }) :
    wpAny (model PySem.Challenge.rw_rs0059_01.row.prog w) A (exec (nthS 3 dcB) (envD L)) Q E s := by
  obtain ⟨hnd, dp, fr, gu, un⟩ := A
  cases hh
  cases hA
  replace hdp : dp < 375 := hdp
  replace hun : un < 75 := hun
  revert X₀
  k_fill
  intro X₀
  (conv in nthS 3 dcB => whnf)
  (try k_fold)
  repeat' ((fail_if_success (with_reducible show wpAny _ _ (exec (Stmt.While _ _ _ _) _) _ _ _)); (fail_if_success (with_reducible show wpAny _ _ (exec (Stmt.For _ _ _ _ _) _) _ _ _)); first | (k_closed; first | (with_reducible refine ite_pos (by decide) ?_) | (with_reducible refine ite_neg (by decide) ?_)) | (k_unfold; (try dsimp only)) | walk1 | (dsimp only; walk1))
  all_goals (try (exact absurd (by assumption : Txt.endswith dn (Str.ofString "\n") = false) (by rw [ew]; decide)))
  all_goals (try (exact absurd (by assumption : (Builtin.Str.occurrences (Str.ofString "\x0d\n") (Txt.item x (-1)) 0 (Str.ofString "\x0d\n").length 1).isEmpty = false) (by rw [o1]; decide)))
  all_goals (rename Fr h₀ _ _ _ => kF; rename News h₀ _ _ _ => kN; simp only [mD_dec, es] at kF; exact h _ _ _ kF kN)
theorem de_4 (B : Below A₀ base outer h₀) (X₀ : (KK w.params).In h₀) (T : Top p loose mean mg mb h₀) (hA : A.frames = some (envD L :: outer)) (hh : A.handled = none) (hdp : A.depth < 375) (hun : A.units < 75)
    (F : Fr h₀ L s.heap (mD xv (some (.str dn dt)) ln io no co)) (N : News h₀ L s.heap news)
    (h : ∀ k h' m', Fr h₀ L h' m' → News h₀ L h' news → Q (.ret (.str dn dt)) { s with heap := h', toks := k }) :
    wpAny (model PySem.Challenge.rw_rs0059_01.row.prog w) A (exec (nthS 4 dcB) (envD L)) Q E s := by
  obtain ⟨hnd, dp, fr, gu, un⟩ := A
  cases hh
  cases hA
  replace hdp : dp < 375 := hdp
  replace hun : un < 75 := hun
  revert X₀
  k_fill
  intro X₀
  (conv in nthS 4 dcB => whnf)
  (try k_fold)
  repeat' ((fail_if_success (with_reducible show wpAny _ _ (exec (Stmt.While _ _ _ _) _) _ _ _)); (fail_if_success (with_reducible show wpAny _ _ (exec (Stmt.For _ _ _ _ _) _) _ _ _)); first | (k_closed; first | (with_reducible refine ite_pos (by decide) ?_) | (with_reducible refine ite_neg (by decide) ?_)) | (k_unfold; (try dsimp only)) | walk1 | (dsimp only; walk1))
  all_goals (try (exfalso; omega))
  all_goals (rename Fr h₀ _ _ _ => kF; rename News h₀ _ _ _ => kN; exact h _ _ _ kF kN)
end
end Mine
end
section
open PySem PySem.W PySem.Calls PyProof.Rows PySem.StrLaws PySem.Builtin PySem.Builtin.Str
set_option maxRecDepth 100000
set_option maxHeartbeats 0
set_option linter.unusedVariables false
namespace Mine
theorem enc_at {cs : List Nat} {j c : Nat} (h : cs[j]? = some c) (k : Nat) (hk : k < 3) : (encL cs)[3 * j + k]? = (quoteL c)[k]? := by
  have e : (encL cs).drop (3 * j) = quoteL c ++ encL (cs.drop (j + 1)) := by
    rw [enc_drop, List.drop_eq_getElem?_toList_append, h]; rfl
  rw [← List.getElem?_drop, e, List.getElem?_append_left (show k < (quoteL c).length from hk)]
theorem item_nat {x : Str} {i c : Nat} (h : x.cps[i]? = some c) : Txt.item x (i : Int) = ⟨#[c]⟩ := by
  have hi : i < x.length := (Array.getElem?_eq_some_iff.mp h).1
  have e : seqIndex? (i : Int) x.length = some i := by
    unfold seqIndex?
    simp only [show ¬ ((i : Int) < 0) by omega, if_false]
    rw [if_pos (by rw [Bool.and_eq_true, decide_eq_true_eq, decide_eq_true_eq]; omega)]
    rfl
  unfold Txt.item Txt.charAt
  rw [e]
  show (⟨#[(x.cps[i]?).getD 0]⟩ : Str) = _
  rw [h]; rfl
theorem item_last {x : Str} {i c : Nat} (h : x.cps[i]? = some c) (hl : x.length = i + 1) : Txt.item x (-1) = ⟨#[c]⟩ := by
  have e : seqIndex? (-1) x.length = some i := by
    unfold seqIndex?
    simp only [show ((-1 : Int) < 0) by omega, if_true]
    rw [if_pos (by rw [Bool.and_eq_true, decide_eq_true_eq, decide_eq_true_eq]; omega)]
    exact congrArg some (by omega)
  unfold Txt.item Txt.charAt
  rw [e]
  show (⟨#[(x.cps[i]?).getD 0]⟩ : Str) = _
  rw [h]; rfl
theorem hex_in : decide (∀ d : _root_.Fin 16, (!(Builtin.Str.occurrences (Str.ofString "0123456789abcdefABCDEF") ⟨#[hexC d.1]⟩ 0 (Str.ofString "0123456789abcdefABCDEF").length 1).isEmpty) = true) = true := by decide +kernel
theorem crlf_out : decide (∀ d : _root_.Fin 16, (Builtin.Str.occurrences (Str.ofString "\x0d\n") ⟨#[hexC d.1]⟩ 0 (Str.ofString "\x0d\n").length 1).isEmpty = true) = true := by decide +kernel
theorem take_snoc {cs : List Nat} {j c : Nat} (h : cs[j]? = some c) : (⟨(cs.take j).toArray⟩ : Str) ++ ⟨#[c]⟩ = ⟨(cs.take (j + 1)).toArray⟩ := by
  rw [List.take_add_one, h]
  show (⟨(cs.take j).toArray ++ [c].toArray⟩ : Str) = _
  rw [List.append_toArray]; rfl
theorem ends_nl (cs : List Nat) : Txt.endswith ⟨(cs ++ [10]).toArray⟩ (Str.ofString "\n") = true := by
  unfold Txt.endswith
  have hl : (⟨(cs ++ [10]).toArray⟩ : Str).length = cs.length + 1 := by show (cs ++ [10]).toArray.size = _; simp
  rw [hl, show (Str.ofString "\n").length = 1 from rfl, Bool.and_eq_true]
  refine ⟨decide_eq_true (by omega), ?_⟩
  rw [Nat.add_sub_cancel, subAt_eq]
  show ((cs ++ [10]).drop cs.length).take 1 == [10]
  rw [List.drop_left]
  rfl
theorem drop_nl (cs : List Nat) : Txt.slice ⟨(cs ++ [10]).toArray⟩ none (some (-((1 : Nat) : Int))) = ⟨cs.toArray⟩ := by
  have hl : (⟨(cs ++ [10]).toArray⟩ : Str).length = cs.length + 1 := by show (cs ++ [10]).toArray.size = _; simp
  refine (sliceText_to_neg (by decide) (by rw [hl]; omega)).trans ?_
  rw [hl, List.drop_zero, show ((-((1 : Nat) : Int)) + ((cs.length + 1 : Nat) : Int) - 0).toNat = cs.length by omega]
  show (⟨((cs ++ [10]).take cs.length).toArray⟩ : Str) = _
  rw [List.take_left]
end Mine
end
section
open PySem PySem.W PySem.Calls PyProof.Rows
set_option maxRecDepth 100000
set_option maxHeartbeats 0
set_option linter.unusedVariables false
namespace Mine
structure ItAt (o : Obj) (l : Addr) (i : Nat) : Prop where
  cls : o.cls = .type "list_iterator"
  data : o.data = .fields #[.ref l, .int i 0]
section
variable {prog : Program} {w : World} {A : Around} {s : Shared} {h₀ : Heap} {L : Addr} {m : Str → Option Value} {news : List (Addr × Obj)} {E : Value → Shared → Prop}
theorem iter_list {l : Addr} {items : Array Value} {Q : Value → Shared → Prop} (F : Fr h₀ L s.heap m) (N : News h₀ L s.heap news) (hl : s.heap.IsList l items)
    (h : ∀ it o h', ItAt o l 0 → (∀ p ∈ news, p.1 < it) → L < it → Fr h₀ L h' m → News h₀ L h' ((it, o) :: news) → h'.IsList l items → Q (.ref it) { s with heap := h' }) :
    wpAny (model prog w) A (pyIter (.ref l)) Q E s :=
  wpAny_pyIter_list hl (h _ _ _ ⟨rfl, rfl⟩ (fun p hp => Heap.lt_size (N p hp).1) (Heap.lt_size F.ns.choose_spec.choose_spec.choose_spec.1) (Fr.pushS F _) (News.push F N _) (hl.push _))
theorem next_item {it l : Addr} {i : Nat} {o : Obj} {items : Array Value} {x : Value} {Q : Option Value → Shared → Prop} (F : Fr h₀ L s.heap m) (N : News h₀ L s.heap ((it, o) :: news)) (hd : ItAt o l i) (hn : ∀ p ∈ news, p.1 ≠ it)
    (hl : s.heap.IsList l items) (hli : l ≠ it) (hx : items[i]? = some x)
    (h : ∀ o' h', ItAt o' l (i + 1) → Fr h₀ L h' m → News h₀ L h' ((it, o') :: news) → h'.IsList l items → Q (some x) { s with heap := h' }) :
    wpAny (model prog w) A (pyNext (.ref it)) Q E s :=
  wpAny_pyNext_list_item ⟨o, N.get (.head _), hd.1, hd.2⟩ hl hx fun h' hi hs => by
    obtain ⟨o', ho, hc, hd⟩ := hi
    exact h o' h' ⟨hc, hd⟩ (Fr.update F N (.head _) hs) (News.setHead N hn hs ho) (let ⟨q, hq, r⟩ := hl; ⟨q, (hs.2 l hli).trans hq, r⟩)
theorem next_none {it l : Addr} {i : Nat} {o : Obj} {items : Array Value} {Q : Option Value → Shared → Prop} (hh : A.handled = none) (F : Fr h₀ L s.heap m) (N : News h₀ L s.heap ((it, o) :: news)) (hd : ItAt o l i) (hn : ∀ p ∈ news, p.1 ≠ it)
    (hl : s.heap.IsList l items) (hx : items[i]? = none)
    (h : ∀ h', Fr h₀ L h' m → News h₀ L h' news → Q none { s with heap := h' }) :
    wpAny (model prog w) A (pyNext (.ref it)) Q E s :=
  wpAny_pyNext_list_end hh ⟨o, N.get (.head _), hd.1, hd.2⟩ hl hx fun h' hs => by
    have hi : h₀.get? it = none := N.fresh (.head _)
    have hL : it ≠ L := (N _ (.head _)).2.1
    exact h h' ⟨F.ns.at' fun o e => hs L o (Ne.symm hL) e, fun b o e => hs b o (fun q => by rw [q, hi] at e; cases e) (F.keep b o e), F.above⟩
      (fun p hp => ⟨hs _ _ (hn p hp) (N p (.tail _ hp)).1, (N p (.tail _ hp)).2⟩)
end
local macro_rules | `(tactic| k_room) => `(tactic| ((try simp only [depth_under_make, depth_under_kw, depth_in1, depth_deeper, depth_caller]); (try dsimp only); simp only [recursionLimit]; omega))
local macro_rules | `(tactic| k_all) => `(tactic| first | assumption | exact ne_of_lo (by assumption) | (refine ne_of_all (by assumption) ?_; (try dsimp only); omega))
section
variable {w : World} {A A₀ : Around} {s : Shared} {base h₀ : Heap} {outer : List Env} {L : Addr} {m mg mb : Str → Option Value} {news : List (Addr × Obj)} {p : Program} {loose : List Str} {mean : ExcName → Option Value}
  {Q : Flow → Shared → Prop} {E : Value → Shared → Prop} {x dn : Str} {xt lt it nt dt ct : Tok} {i n : Nat} {cv d ln io no co : Option Value} {c : Nat} {xv : Value} {cs : List Nat}
def forIter (s : Stmt) : Expr := match s with | .For _ i _ _ _ => i | _ => default
def forPos' (s : Stmt) : Pos := match s with | .For _ _ _ _ p => p | _ => default
def forPos (s : Stmt) : Pos := match s with | .For (.Name _ p) _ _ _ _ => p | _ => default
theorem dl_test (B : Below A₀ base outer h₀) (X₀ : (KK w.params).In h₀) (T : Top p loose mean mg mb h₀) (hA : A.frames = some (envD L :: outer)) (hh : A.handled = none) (hdp : A.depth < 375) (hun : A.units < 75)
    (F : Fr h₀ L s.heap (mD xv d ln (some (.int (i : Nat) it)) (some (.int (n : Nat) nt)) cv)) (N : News h₀ L s.heap news) (hi : i < n) (hn : n ≤ 39)
    (h : ∀ k h', Fr h₀ L h' (mD xv d ln (some (.int (i : Nat) it)) (some (.int (n : Nat) nt)) cv) → News h₀ L h' news → wpAny (model PySem.Challenge.rw_rs0059_01.row.prog w) A (execs dcW (envD L)) (WhileNext PySem.Challenge.rw_rs0059_01.row.prog w A dcT dcW (envD L) Q) never { s with heap := h', toks := k }) :
    WhileAt PySem.Challenge.rw_rs0059_01.row.prog w A dcT dcW (envD L) Q s := by
  obtain ⟨hnd, dp, fr, gu, un⟩ := A
  cases hh
  cases hA
  replace hdp : dp < 375 := hdp
  replace hun : un < 75 := hun
  refine WhileAt.turn ?_
  generalize hW : execs dcW (envD L) = W at h ⊢
  generalize hWN : WhileNext PySem.Challenge.rw_rs0059_01.row.prog w _ dcT dcW (envD L) Q = WN at h ⊢
  revert X₀
  k_fill
  intro X₀
  (conv in (occs := *) dcT => all_goals whnf)
  (try k_fold)
  repeat' (first | (k_unfold; (try dsimp only)) | walk1 | (dsimp only; walk1))
  all_goals (try (exfalso; omega))
  all_goals (rename Fr h₀ _ _ _ => kF; rename News h₀ _ _ _ => kN; exact h _ _ kF kN)
theorem dl_stop (B : Below A₀ base outer h₀) (X₀ : (KK w.params).In h₀) (T : Top p loose mean mg mb h₀) (hA : A.frames = some (envD L :: outer)) (hh : A.handled = none) (hdp : A.depth < 375) (hun : A.units < 75)
    (F : Fr h₀ L s.heap (mD xv d ln (some (.int (n : Nat) it)) (some (.int (n : Nat) nt)) cv)) (N : News h₀ L s.heap news) (hn : n ≤ 39)
    (h : ∀ k h', Fr h₀ L h' (mD xv d ln (some (.int (n : Nat) it)) (some (.int (n : Nat) nt)) cv) → News h₀ L h' news → Q .next { s with heap := h', toks := k }) :
    WhileAt PySem.Challenge.rw_rs0059_01.row.prog w A dcT dcW (envD L) Q s := by
  obtain ⟨hnd, dp, fr, gu, un⟩ := A
  cases hh
  cases hA
  replace hdp : dp < 375 := hdp
  replace hun : un < 75 := hun
  refine WhileAt.turn ?_
  generalize hW : execs dcW (envD L) = W at h ⊢
  generalize hWN : WhileNext PySem.Challenge.rw_rs0059_01.row.prog w _ dcT dcW (envD L) Q = WN at h ⊢
  revert X₀
  k_fill
  intro X₀
  (conv in (occs := *) dcT => all_goals whnf)
  (try k_fold)
  repeat' (first | (k_unfold; (try dsimp only)) | walk1 | (dsimp only; walk1))
  all_goals (try (exfalso; omega))
  all_goals (rename Fr h₀ _ _ _ => kF; rename News h₀ _ _ _ => kN; exact h _ _ kF kN)
theorem dl_turn (B : Below A₀ base outer h₀) (X₀ : (KK w.params).In h₀) (T : Top p loose mean mg mb h₀) (hA : A.frames = some (envD L :: outer)) (hh : A.handled = none) (hdp : A.depth < 375) (hun : A.units < 75) (hcs : ∀ c ∈ cs, c < 256) (hl : cs.length ≤ 13)
    {j : Nat} (hj : j < cs.length) (F : Fr h₀ L s.heap (mD xv (some (.str ⟨(cs.take j).toArray⟩ dt)) (some (.str ⟨(encL cs).toArray⟩ lt)) (some (.int (3 * j : Nat) it)) (some (.int (3 * cs.length : Nat) nt)) cv)) (N : News h₀ L s.heap news)
    {Q : Flow → Shared → Prop}
    (h : ∀ k h' dt' it' ct, Fr h₀ L h' (mD xv (some (.str ⟨(cs.take (j + 1)).toArray⟩ dt')) (some (.str ⟨(encL cs).toArray⟩ lt)) (some (.int (3 * (j + 1) : Nat) it')) (some (.int (3 * cs.length : Nat) nt)) (some (.str (Str.ofString "=") ct))) → News h₀ L h' news →
      wpAny (model PySem.Challenge.rw_rs0059_01.row.prog w) A (exec (nthS 2 dcW) (envD L)) Q E { s with heap := h', toks := k }) :
    wpAny (model PySem.Challenge.rw_rs0059_01.row.prog w) A (execs dcW (envD L)) Q E s := by
  obtain ⟨c, hc⟩ : ∃ c, cs[j]? = some c := ⟨_, List.getElem?_eq_getElem hj⟩
  have hcc : c < 256 := hcs _ (List.mem_of_getElem? hc)
  have a0 : (⟨(encL cs).toArray⟩ : Str).cps[3 * j]? = some 61 := (List.getElem?_toArray).trans (enc_at hc 0 (by decide))
  have a1 : (⟨(encL cs).toArray⟩ : Str).cps[3 * j + 1]? = some (hexC (c / 16)) := (List.getElem?_toArray).trans (enc_at hc 1 (by decide))
  have a2 : (⟨(encL cs).toArray⟩ : Str).cps[3 * j + 2]? = some (hexC (c % 16)) := (List.getElem?_toArray).trans (enc_at hc 2 (by decide))
  have hx : (⟨(encL cs).toArray⟩ : Str).length = 3 * cs.length := enc_len cs
  show wpAny _ _ (execs [nthS 0 dcW, nthS 1 dcW, nthS 2 dcW] _) _ _ _
  refine wpAny_execs_cons ?_
  refine dw_1 B X₀ T hA hh hdp hun F N hx (by omega) (by omega) (item_nat a0) fun k h' ct F N => ?_
  dsimp only
  refine wpAny_execs_cons ?_
  refine dw_2 (c := c) B X₀ T hA hh hdp hun F N hx (by omega) (by omega) hcc ?_ ?_ ?_ ?_ fun k h' dt' it' F N => ?_
  · show (cs.take j).toArray.size ≤ 100
    rw [List.size_toArray, List.length_take]; omega
  · rw [show ((3 * j : Nat) : Int) + 1 = ((3 * j + 1 : Nat) : Int) by omega, item_nat a1]
    exact of_decide_eq_true hex_in ⟨c / 16, by omega⟩
  · rw [show ((3 * j : Nat) : Int) + 2 = ((3 * j + 2 : Nat) : Int) by omega, item_nat a2]
    exact of_decide_eq_true hex_in ⟨c % 16, by omega⟩
  · rw [slice3 (by omega) a0 a1 a2]; rfl
  dsimp only
  refine wpAny_execs_cons ?_
  rw [take_snoc hc] at F
  refine wpAny_mono (h k h' dt' it' ct F N) (fun f s' q => ?_) fun _ _ e => e
  cases f with
  | next => exact wpAny_execs_nil q
  | cont => exact q
  | brk => exact q
  | ret v => exact q
theorem dl_loop (B : Below A₀ base outer h₀) (X₀ : (KK w.params).In h₀) (T : Top p loose mean mg mb h₀) (hA : A.frames = some (envD L :: outer)) (hh : A.handled = none) (hdp : A.depth < 375) (hun : A.units < 75) (hcs : ∀ c ∈ cs, c < 256) (hl : cs.length ≤ 13)
    (h : ∀ k h' dt' it' cv', Fr h₀ L h' (mD xv (some (.str ⟨(cs ++ [10]).toArray⟩ dt')) (some (.str ⟨(encL cs).toArray⟩ lt)) (some (.int (3 * cs.length : Nat) it')) (some (.int (3 * cs.length : Nat) nt)) cv') → News h₀ L h' news → Q .next { s with heap := h', toks := k }) :
    ∀ (r j k : Nat) (hp : Heap) dt it cv, j + (r + 1) = cs.length → Fr h₀ L hp (mD xv (some (.str ⟨(cs.take j).toArray⟩ dt)) (some (.str ⟨(encL cs).toArray⟩ lt)) (some (.int (3 * j : Nat) it)) (some (.int (3 * cs.length : Nat) nt)) cv) → News h₀ L hp news →
      WhileAt PySem.Challenge.rw_rs0059_01.row.prog w A dcT dcW (envD L) Q { s with heap := hp, toks := k } := by
  intro r
  induction r with
  | zero =>
    intro j k hp dt it cv hj F N
    refine dl_test B X₀ T hA hh hdp hun F N (by omega) (by omega) fun k h' F N => ?_
    refine dl_turn B X₀ T hA hh hdp hun hcs hl (by omega) F N fun k h' dt' it' ct F N => ?_
    rw [show j + 1 = cs.length by omega, List.take_length] at F
    refine dw_3b B X₀ T hA hh hdp hun F N (enc_len cs) (by omega) ?_ fun k h' dt' F N => ?_
    · show cs.toArray.size ≤ 100
      rw [List.size_toArray]; omega
    have e : (⟨cs.toArray⟩ : Str) ++ Str.ofString "\n" = ⟨(cs ++ [10]).toArray⟩ := by
      show (⟨cs.toArray ++ [10].toArray⟩ : Str) = _
      rw [List.append_toArray]
    rw [e] at F
    exact dl_stop B X₀ T hA hh hdp hun F N (by omega) fun k h' F N => h _ _ _ _ _ F N
  | succ r ih =>
    intro j k hp dt it cv hj F N
    refine dl_test B X₀ T hA hh hdp hun F N (by omega) (by omega) fun k h' F N => ?_
    refine dl_turn B X₀ T hA hh hdp hun hcs hl (by omega) F N fun k h' dt' it' ct F N => ?_
    refine dw_3a B X₀ T hA hh hdp hun F N (enc_len cs) (by omega) (by omega) ?_ fun k h' F N => ?_
    · show (cs.take (j + 1)).toArray.size ≤ 100
      rw [List.size_toArray, List.length_take]; omega
    exact ih (j + 1) _ _ _ _ _ (by omega) F N
end
end Mine
end
section
open PySem PySem.W PySem.Calls PyProof.Rows
set_option maxRecDepth 100000
set_option maxHeartbeats 0
set_option linter.unusedVariables false
namespace Mine
local macro_rules | `(tactic| k_room) => `(tactic| ((try simp only [depth_under_make, depth_under_kw, depth_in1, depth_deeper, depth_caller]); (try dsimp only); simp only [recursionLimit]; omega))
local macro_rules | `(tactic| k_all) => `(tactic| first | assumption | exact ne_of_lo (by assumption) | (refine ne_of_all (by assumption) ?_; (try dsimp only); omega))
section
variable {w : World} {A A₀ : Around} {s : Shared} {base h₀ : Heap} {outer : List Env} {L : Addr} {m mg mb : Str → Option Value} {news : List (Addr × Obj)} {p : Program} {loose : List Str} {mean : ExcName → Option Value}
  {Q : Flow → Shared → Prop} {E : Value → Shared → Prop} {x dn : Str} {xt lt it nt dt ct : Tok} {i n : Nat} {cv d ln io no co : Option Value} {c : Nat} {xv : Value} {cs : List Nat}
theorem one_of {l : List (Str × Tok)} {x : Str} (h : l.map (·.1) = [x]) : ∃ t, l = [(x, t)] := by
  cases l with
  | nil => cases h
  | cons a r =>
    cases r with
    | nil => obtain ⟨y, t⟩ := a; injection h with h1 h2; exact ⟨t, by rw [← h1]⟩
    | cons b r => injection h with h1 h2; cases h2
theorem df (B : Below A₀ base outer h₀) (X₀ : (KK w.params).In h₀) (T : Top p loose mean mg mb h₀) (hA : A.frames = some (envD L :: outer)) (hh : A.handled = none) (hdp : A.depth < 375) (hun : A.units < 75) (hcs : ∀ c ∈ cs, c < 256) (hl : cs.length ≤ 13) (h0 : 0 < cs.length)
    (F : Fr h₀ L s.heap (mD (.str ⟨(encL cs).toArray⟩ xt) (some (.str (Str.ofString "") dt)) none none none none)) (N : News h₀ L s.heap news)
    (h : ∀ k h' dt' ln io no co, Fr h₀ L h' (mD (.str ⟨(encL cs).toArray⟩ xt) (some (.str ⟨(cs ++ [10]).toArray⟩ dt')) ln io no co) → News h₀ L h' news → Q .next { s with heap := h', toks := k }) :
    wpAny (model PySem.Challenge.rw_rs0059_01.row.prog w) A (exec (nthS 2 dcB) (envD L)) Q E s := by
  obtain ⟨hnd, dp, fr, gu, un⟩ := A
  cases hh
  cases hA
  replace hdp : dp < 375 := hdp
  replace hun : un < 75 := hun
  have hx : (⟨(encL cs).toArray⟩ : Str).length = 3 * cs.length := enc_len cs
  have hx9 : (⟨(encL cs).toArray⟩ : Str).length ≤ 39 := by omega
  have hx0 : 0 < (⟨(encL cs).toArray⟩ : Str).length := by omega
  have hok : ∀ y ∈ (⟨(encL cs).toArray⟩ : Str).cps.toList, encOk y := enc_ok hcs
  have e1 := lines_one hx0 hok
  have e2 := rstrip_one hx0 hok
  have e0 : nthS 2 dcB = .For (.Name (Str.ofString "line") (forPos (nthS 2 dcB))) (forIter (nthS 2 dcB)) dcF [] (forPos' (nthS 2 dcB)) := rfl
  rw [e0]
  refine For_at ?_
  generalize hD : dcF = D
  revert X₀
  k_fill
  intro X₀
  (conv in forIter _ => whnf)
  (try k_fold)
  repeat' ((fail_if_success (with_reducible show wpAny _ _ (pyIter _) _ _ _)); first | (k_unfold; (try dsimp only)) | walk1 | (dsimp only; walk1))
  k_unfold
  try dsimp only
  clear qk ek
  rename List (Str × Tok) => ls
  rename List.map _ _ = Txt.lines _ => el
  rename Fr h₀ _ _ _ => kF
  rename News h₀ _ _ _ => kN
  rename Heap.IsList _ _ _ => kL
  rw [e1] at el
  obtain ⟨lt, rfl⟩ := one_of el
  rw [show strValues [(⟨(encL cs).toArray⟩, lt)] = [Value.str ⟨(encL cs).toArray⟩ lt] from rfl] at kL kN
  refine iter_list kF kN kL fun it o h' hI hlt hL F N hl' => ?_
  subst hD
  refine ForAt.turn (next_item F N hI (fun p hp => Nat.ne_of_lt (hlt p hp)) hl' (Nat.ne_of_lt (hlt _ (.head _))) (x := .str ⟨(encL cs).toArray⟩ lt) rfl fun o h' hI F N hl' => ?_)
  dsimp only
  refine go_name ?_
  (try k_fold)
  walk1
  walk1
  k_unfold
  dsimp only
  rename Fr h₀ _ _ _ => kF
  rename News h₀ _ _ _ => kN
  simp only [mD_ln] at kF
  show wpAny _ _ (execs [nthS 0 dcF, nthS 1 dcF, nthS 2 dcF, nthS 3 dcF, nthS 4 dcF] _) _ _ _
  refine wpAny_execs_cons ?_
  refine db_1 B X₀ T rfl rfl hdp hun kF kN hx0 hx9 e2 fun k h' lt F N => ?_
  dsimp only
  refine wpAny_execs_cons ?_
  refine db_2 B X₀ T rfl rfl hdp hun F N hx0 hx9 fun k h' F N => ?_
  dsimp only
  refine wpAny_execs_cons ?_
  refine db_3 B X₀ T rfl rfl hdp hun F N hx0 hx9 fun k h' it' F N => ?_
  dsimp only
  refine wpAny_execs_cons ?_
  refine db_4 B X₀ T rfl rfl hdp hun F N hx0 hx9 fun k h' nt F N => ?_
  dsimp only
  refine wpAny_execs_cons ?_
  rw [hx] at F
  refine While_at (test := dcT) (body := dcW) ?_
  refine dl_loop B X₀ T rfl rfl hdp hun hcs hl (fun k h' dt' it' cv' F N => ?_) (cs.length - 1) 0 _ _ _ _ _ (by omega) F N
  dsimp only
  refine wpAny_execs_nil ?_
  refine ForAt.turn (next_none rfl F N hI (fun p hp => Nat.ne_of_lt (hlt p hp)) ⟨_, N.get (.tail _ (.head _)), rfl, _, rfl⟩ rfl fun h' F N => ?_)
  exact h _ _ _ _ _ _ _ F fun p hp => N p (.tail _ hp)
theorem lk2 {y a b : Str} {va vb : Value} (h1 : (y == a) = false) (h2 : (y == b) = false) : List.lookup y [(a, va), (b, vb)] = none := by rw [List.lookup_cons, h1, List.lookup_cons, h2]; rfl
theorem Fr.startD {h₀ h : Heap} {L : Addr} {xv : Value} {l : List (Str × Value)} (F : Fr h₀ L h fun y => List.lookup y l) (e : l = [(Str.ofString "eol", .str (Str.ofString "\n") 194), (Str.ofString "encoded", xv)]) :
    Fr h₀ L h (mD xv none none none none none) := by
  have q : (fun y => List.lookup y l) = mD xv none none none none none := by
    subst e
    funext y
    unfold mD
    by_cases h1 : y = Str.ofString "c"
    · subst h1; rw [if_pos rfl]; exact lk2 (by decide +kernel) (by decide +kernel)
    rw [if_neg h1]
    by_cases h2 : y = Str.ofString "decoded"
    · subst h2; rw [if_pos rfl]; exact lk2 (by decide +kernel) (by decide +kernel)
    rw [if_neg h2]
    by_cases h3 : y = Str.ofString "i"
    · subst h3; rw [if_pos rfl]; exact lk2 (by decide +kernel) (by decide +kernel)
    rw [if_neg h3]
    by_cases h4 : y = Str.ofString "n"
    · subst h4; rw [if_pos rfl]; exact lk2 (by decide +kernel) (by decide +kernel)
    rw [if_neg h4]
    by_cases h5 : y = Str.ofString "line"
    · subst h5; rw [if_pos rfl]; exact lk2 (by decide +kernel) (by decide +kernel)
    rw [if_neg h5]
    by_cases h6 : y = Str.ofString "eol"
    · subst h6; rw [if_pos rfl, List.lookup_cons, beq_self_eq_true]
    rw [if_neg h6]
    by_cases h7 : y = Str.ofString "encoded"
    · subst h7; rw [if_pos rfl, List.lookup_cons, show (Str.ofString "encoded" == Str.ofString "eol") = false by decide +kernel, List.lookup_cons, beq_self_eq_true]
    · rw [if_neg h7, List.lookup_cons, beq_false_of_ne h6, List.lookup_cons, beq_false_of_ne h7]; rfl
  exact q ▸ F
theorem decode_K {env : Env} {R : Result → Shared → Prop} {tk : Tok} (B : Below A₀ base outer h₀) (F : Fr h₀ L s.heap m) (X₀ : (KK w.params).In h₀) (N : News h₀ L s.heap news) (T : Top p loose mean mg mb h₀) (hA : A.frames = some (env :: outer)) (hf : env.frame = some L) (hke : env.scope.kind = .function) (hh : A.handled = none) (hdp : A.depth < 370) (hun : A.units < 70)
    (hcs : ∀ c ∈ cs, c < 256) (hl : cs.length ≤ 13)
    (h : ∀ t k h', Fr h₀ L h' m → News h₀ L h' news → R (.ok (.ret (.str ⟨cs.toArray⟩ t))) { s with heap := h', toks := k }) :
    codeAny (model PySem.Challenge.rw_rs0059_01.row.prog w) A (.call (.ref 64) ⟨[.str ⟨(encL cs).toArray⟩ tk], []⟩) R s := by
  obtain ⟨hnd, dp, fr, gu, un⟩ := A
  cases hh
  cases hA
  replace hdp : dp < 370 := hdp
  replace hun : un < 70 := hun
  revert X₀
  k_fill
  intro X₀
  refine' code_def B F X₀ N T rfl hf hke ?k6 ?k7 (Nat.lt_trans hdp (by decide)) ?k9 ?kB ?_ ?c2 ?c3 ?c4 ?c5
  case k6 => k_is
  case k7 => k_is
  case k9 => exact binds_K (by k_in) rfl (by k_is) rfl rfl rfl
  case kB => exact locs rfl
  case c2 => exact rfl
  case c3 => exact rfl
  case c4 => exact rfl
  case c5 => decide
  intro g' L' h' FG' F' N' B' X' T'
  dsimp only
  (try k_lift B')
  (try k_fold)
  have hd5 : ((⟨none, dp, some (env :: outer), gu, un⟩ : Around).deeper (envD L')).depth < 375 := by simp only [depth_deeper]; omega
  have hu5 : ((⟨none, dp, some (env :: outer), gu, un⟩ : Around).deeper (envD L')).units < 75 := by simp only [units_deeper]; omega
  have kF := Fr.startD (xv := .str ⟨(encL cs).toArray⟩ tk) F' rfl
  show wpAny _ _ (execs [nthS 0 dcB, nthS 1 dcB, nthS 2 dcB, nthS 3 dcB, nthS 4 dcB] (envD L')) _ _ _
  refine wpAny_execs_cons ?_
  cases cs with
  | nil =>
    refine de_00 B' X' T' rfl rfl hd5 hu5 kF N' rfl fun k h' F N => ?_
    repeat' (first | (k_unfold; (try dsimp only)) | walk1 | (dsimp only; walk1))
    rename Fr h₀ _ _ _ => kF
    rename News h₀ _ _ _ => kN
    exact h _ _ _ kF kN
  | cons c cr =>
    generalize hcs' : c :: cr = cs at *
    have h0 : 0 < cs.length := by rw [← hcs']; exact Nat.succ_pos _
    have hx : (⟨(encL cs).toArray⟩ : Str).length = 3 * cs.length := enc_len cs
    obtain ⟨c, hc⟩ : ∃ c, cs[cs.length - 1]? = some c := ⟨_, List.getElem?_eq_getElem (by omega)⟩
    have hcc : c < 256 := hcs _ (List.mem_of_getElem? hc)
    have a2 : (⟨(encL cs).toArray⟩ : Str).cps[3 * (cs.length - 1) + 2]? = some (hexC (c % 16)) := (List.getElem?_toArray).trans (enc_at hc 2 (by decide))
    refine de_0 B' X' T' rfl rfl hd5 hu5 kF N' (by omega) (by omega) fun k h' F N => ?_
    dsimp only
    refine wpAny_execs_cons ?_
    refine de_1 B' X' T' rfl rfl hd5 hu5 F N fun k h' dt F N => ?_
    dsimp only
    refine wpAny_execs_cons ?_
    refine df B' X' T' rfl rfl hd5 hu5 hcs hl h0 F N fun k h' dt ln io no co F N => ?_
    dsimp only
    refine wpAny_execs_cons ?_
    refine de_3 (dm := ⟨cs.toArray⟩) B' X' T' rfl rfl hd5 hu5 F N (by omega) (by omega) ?_ ?_ ?_ (ends_nl cs) (drop_nl cs) fun k h' dt F N => ?_
    · show (cs ++ [10]).toArray.size ≤ 100
      rw [List.size_toArray, List.length_append, List.length_singleton]; omega
    · show 1 ≤ (cs ++ [10]).toArray.size
      rw [List.size_toArray, List.length_append, List.length_singleton]; omega
    · rw [item_last a2 (by omega)]
      exact of_decide_eq_true crlf_out ⟨c % 16, by omega⟩
    dsimp only
    refine wpAny_execs_cons ?_
    refine de_4 B' X' T' rfl rfl hd5 hu5 F N fun k h' m' F N => ?_
    repeat' (first | (k_unfold; (try dsimp only)) | walk1 | (dsimp only; walk1))
    rename Fr h₀ _ _ _ => kF
    rename News h₀ _ _ _ => kN
    exact h _ _ _ kF kN
end
end Mine
end
section
open PySem PySem.W PySem.Calls PyProof.Rows PyProof.Rows.LCg
set_option maxRecDepth 100000
set_option maxHeartbeats 0
set_option linter.unusedVariables false
namespace Mine
section
variable {prog : Program} {w : World} {A : Around} {s : Shared} {h₀ : Heap} {L : Addr} {m : Str → Option Value} {news : List (Addr × Obj)} {E : Value → Shared → Prop} {env cenv : Env}
  {elt target iter : PySem.Expr} {scope : Scope} {pos : Pos} {it acc : Value} {cl : List (Str × Addr)}
/-- at the head of a comprehension's turn -/
def CompAt (prog : Program) (w : World) (A : Around) (elt target iter : PySem.Expr) (scope : Scope) (pos : Pos) (it acc : Value) (cenv : Env) (R : Result → Shared → Prop) (s : Shared) : Prop :=
  codeAny (model prog w) A (.compLoop (.ListComp elt [⟨target, iter, [], 0⟩] scope pos) 0 it acc cenv) R s
theorem CompAt.turn {R : Result → Shared → Prop}
    (h : wpAny (model prog w) A (pyNext it) (fun r s₁ => match r with
      | none => R (.ok .next) s₁
      | some v => wpAny (model prog w) A (letOwnedTupleGo target it v) (fun _ s₀ => wpAny (model prog w) A (assign target cenv v) (fun _ s₂ =>
          wpAny (model prog w) A (eval elt cenv) (fun x s₄ => wpAny (model prog w) A (call (.builtin "list.append") [acc, x]) (fun _ s₅ => CompAt prog w A elt target iter scope pos it acc cenv R s₅) never s₄) never s₂) never s₀) never s₁) never s) :
    CompAt prog w A elt target iter scope pos it acc cenv R s := by
  unfold CompAt
  refine codeAny_of_tree ?_
  show wpAny _ _ ((compTurn (.ListComp elt [⟨target, iter, [], 0⟩] scope pos) 0 it acc cenv).onRaise (fun x => do noteFrame x cenv; theTreesLotGoes x)) _ _ s
  refine wpAny_noted (wpAny_mono (E := never) ?_ (fun _ _ q => q) fun _ _ e => e.elim)
  rw [compTurn_list1]
  refine wpAny_bind (wpAny_standAt (wpAny_bind (wpAny_mono h (fun r s₁ h₁ => ?_) fun _ _ h' => h'.elim)))
  cases r with
  | none => exact wpAny_pure h₁
  | some v =>
    refine wpAny_bind (wpAny_mono h₁ (fun _ s₀ h₀' => wpAny_bind (wpAny_mono h₀' (fun _ s₂ h₂ => ?_) fun _ _ h' => h')) fun _ _ h' => h')
    exact wpAny_bind (wpAny_bind (wpAny_mono h₂ (fun x s₄ h₄ => wpAny_bind (wpAny_mono h₄ (fun _ s₅ h₅ => wpAny_pure (wpAny_pure ⟨rfl, h₅⟩)) fun _ _ h' => h')) fun _ _ h' => h'))
theorem comp_in {s₂ : Shared} {I : Addr} {oI : Obj} {RR : Value → Addr → Result → Shared → Prop} (F : Fr h₀ L s₂.heap m) (N : News h₀ L s₂.heap news) (hm : (I, oI) ∈ news)
    (hself : ∀ (s' : Shared) (Q : Value → Shared → Prop) (E : Value → Shared → Prop), s'.heap.get? I = some oI → Q (.ref I) s' → wpAny (model prog w) A (pyIter (.ref I)) Q E s')
    (hcell : ∀ y ∈ scope.names, y.2 ≠ .cell) (hkind : scope.kind = .function)
    (h : ∀ C oC D h' k, NsObj oC (fun _ => none) → (∀ p ∈ news, p.1 < D) → D < C → L < D → Fr h₀ L h' m → News h₀ L h' ((C, oC) :: (D, lst []) :: news) →
      CompAt prog w A elt target iter scope pos (.ref I) (.ref D) (compEnvC scope cl C env) (RR (.ref D) C) { s₂ with heap := h', toks := k }) :
    wpAny (model prog w) A (newList []) (fun acc s₃ => wpAny (model prog w) A (newFunctionEnv scope env.globals cl [] env.qual none .none (some env)) (fun cenv s₄ =>
      codeAny (model prog w) A (.compStart (.ListComp elt [⟨target, iter, [], 0⟩] scope pos) 0 (.ref I) acc { cenv with scope := relabel scope env }) (RR acc cenv.locals) s₄) E s₃) E s₂ := by
  refine wpAny_newObj_type (wpAny_newFunctionEnv hcell (by intro y hy; simp at hy) (fun h₁ hns₁ hsb₁ => ?_) hkind)
  dsimp only at hns₁ hsb₁ ⊢
  have F₁ : Fr h₀ L (s₂.heap.push { cls := .type "list", dict := none, data := .seq ([] : List Value).toArray }) m := Fr.pushS F _
  have N₁ : News h₀ L (s₂.heap.push { cls := .type "list", dict := none, data := .seq ([] : List Value).toArray }) ((s₂.heap.objs.size, lst []) :: news) := News.push F N _
  have hz : (s₂.heap.push { cls := .type "list", dict := none, data := .seq ([] : List Value).toArray }).objs.size = s₂.heap.objs.size + 1 := Heap.size_push ..
  generalize s₂.heap.push { cls := .type "list", dict := none, data := .seq ([] : List Value).toArray } = H2 at hns₁ hsb₁ F₁ N₁ hz ⊢
  have hlt : ∀ p ∈ news, p.1 < s₂.heap.objs.size := fun p hp => Heap.lt_size (N p hp).1
  have hL : L < s₂.heap.objs.size := F.ns.lt
  obtain ⟨oC, heC, hoC⟩ := ns_obj hns₁
  have up : ∀ b o, b ≠ H2.objs.size → H2.get? b = some o → h₁.get? b = some o := fun b o hb e => hsb₁.extBut b o hb (Heap.get?_push_of_some _ e)
  have up' : ∀ b o, H2.get? b = some o → h₁.get? b = some o := fun b o e => up b o (Nat.ne_of_lt (Heap.lt_size e)) e
  have hC₀ : h₀.get? H2.objs.size = none := next_is_new F₁
  have F₂ : Fr h₀ L h₁ m := F₁.keeps up'
  have N₂ : News h₀ L h₁ ((H2.objs.size, oC) :: (s₂.heap.objs.size, lst []) :: news) := fun p hp => by
    rcases List.mem_cons.mp hp with rfl | hp
    · exact ⟨heC, Nat.ne_of_gt (hz ▸ Nat.lt_succ_of_lt hL), hC₀⟩
    · exact ⟨up' _ _ (N₁ p hp).1, (N₁ p hp).2⟩
  have go := h H2.objs.size oC s₂.heap.objs.size h₁ (s₂.toks + ([] : List (Str × Value)).length) hoC hlt (hz ▸ Nat.lt_succ_self _) hL F₂ N₂
  exact codeAny_compStart_list go (hself _ _ _ (N₂.get (.tail _ (.tail _ hm))) go)
theorem comp_eval {Q : Value → Shared → Prop} (hclos : closureFor scope env = pure cl) (hkind : scope.kind = .function) (hnames : ∀ y ∈ scope.names, y.2 = .local → scope.names.lookup y.1 = some .local)
    (h : wpAny (model prog w) A (eval iter env) (fun x s₁ => wpAny (model prog w) A (pyIter x) (fun it s₂ => wpAny (model prog w) A (newList []) (fun acc s₃ =>
      wpAny (model prog w) A (newFunctionEnv scope env.globals cl [] env.qual none .none (some env)) (fun cenv s₄ =>
        codeAny (model prog w) A (.compStart (.ListComp elt [⟨target, iter, [], 0⟩] scope pos) 0 it acc { cenv with scope := relabel scope env }) (compPost (model prog w) A E none Q acc cenv.locals) s₄) E s₃) E s₂) E s₁) E s)
    (hs : ∀ x, foldedSetIterable iter env x = pure x := by intro _; rfl) :
    wpAny (model prog w) A (eval (.ListComp elt [⟨target, iter, [], 0⟩] scope pos) env) Q E s := by
  rw [eval_ListComp]
  exact wpAny_comprehension_free (use := none) rfl hs hclos hkind hnames h
theorem comp_assign {y : Str} {py spos : Pos} {Q : Flow → Shared → Prop}
    (hsw : swapsWith (.ListComp elt [⟨target, iter, [], 0⟩] scope pos) (some (.Name y py)) spos.line env = pure true)
    (hclos : closureFor scope env = pure cl) (hkind : scope.kind = .function) (hnames : ∀ y ∈ scope.names, y.2 = .local → scope.names.lookup y.1 = some .local)
    (h : wpAny (model prog w) A (eval iter env) (fun x s₁ => wpAny (model prog w) A (pyIter x) (fun it s₂ => wpAny (model prog w) A (newList []) (fun acc s₃ =>
      wpAny (model prog w) A (newFunctionEnv scope env.globals cl [] env.qual none .none (some env)) (fun cenv s₄ =>
        codeAny (model prog w) A (.compStart (.ListComp elt [⟨target, iter, [], 0⟩] scope pos) 0 it acc { cenv with scope := relabel scope env }) (compPost (model prog w) A E (some (assign (.Name y py) env)) (fun _ s' => Q .next s') acc cenv.locals) s₄) E s₃) E s₂) E s₁) E s)
    (hs : ∀ x, foldedSetIterable iter env x = pure x := by intro _; rfl) :
    wpAny (model prog w) A (exec (.Assign [.Name y py] (.ListComp elt [⟨target, iter, [], 0⟩] scope pos) spos) env) Q E s := by
  rw [exec_Assign_Name_used _ _ _ _ hsw]
  refine wpAny_bind (wpAny_standAt (wpAny_bind ?_))
  show wpAny _ A (do let _ ← comprehension (.ListComp elt [⟨target, iter, [], 0⟩] scope pos) scope env _ (newList []) false (eval iter env) (some (assign (.Name y py) env))) _ _ s
  exact wpAny_bind (wpAny_mono (wpAny_comprehension_free (use := some (assign (.Name y py) env)) (Q := fun _ s' => Q .next s') rfl hs hclos hkind hnames h) (fun _ s' hq => wpAny_pure (wpAny_pure hq)) fun _ _ e => e)
theorem comp_gone {C : Addr} {oC : Obj} {m' : Str → Option Value} {P : Shared → Prop} (F : Fr h₀ L s.heap m) (N : News h₀ L s.heap ((C, oC) :: news)) (hC : NsObj oC m') (hn : ∀ p ∈ news, p.1 ≠ C)
    (h : ∀ h', Fr h₀ L h' m → News h₀ L h' news → P { s with heap := h' }) : ∃ m, s.heap.Ns C m ∧ ∀ h', Heap.SameBut C s.heap h' → P { s with heap := h' } :=
  ⟨m', hC.ns (N.get (.head _)), fun h' hs => h h' (F.change hs (N _ (.head _)).2.1 (N.fresh (.head _))) fun p hp => ⟨hs.extBut _ _ (hn p hp) (N p (.tail _ hp)).1, (N p (.tail _ hp)).2⟩⟩
theorem comp_app {C D : Addr} {oC : Obj} {ys : List Value} {y : Value} {Q : Value → Shared → Prop} (F : Fr h₀ L s.heap m) (N : News h₀ L s.heap ((C, oC) :: (D, lst ys) :: news)) (hCD : C ≠ D) (hn : ∀ p ∈ news, p.1 ≠ D) (hsz : ys.length ≤ 200)
    (h : ∀ h', Fr h₀ L h' m → News h₀ L h' ((C, oC) :: (D, lst (ys ++ [y])) :: news) → Q .none { s with heap := h' }) :
    wpAny (model prog w) A (call (.builtin "list.append") [.ref D, y]) Q E s :=
  append_at (hsz := by show ys.toArray.size ≤ sizeLine; rw [List.size_toArray, sizeLine_eq]; omega) (N.get (.tail _ (.head _))) fun h₅ hs₅ hD₅ =>
    h h₅ (F.change hs₅ (N _ (.tail _ (.head _))).2.1 (N.fresh (.tail _ (.head _)))) (News.setSecond N hCD hn hs₅ (hD₅.trans (congrArg some (lst_snoc ys y))))
end
end Mine
end
section
open PySem PySem.W PySem.Calls PyProof.Rows PyProof.Rows.LCg
open AutoSeq1 (wpAny_loadPart')
set_option maxRecDepth 100000
set_option maxHeartbeats 0
set_option linter.unusedVariables false
namespace Mine
section
variable {prog : Program} {w : World} {A : Around} {s : Shared} {h₀ : Heap} {L : Addr} {m : Str → Option Value} {news : List (Addr × Obj)} {E : Value → Shared → Prop}
theorem nextOf_tup {it t : Addr} {i : Nat} {items} {x : Value} {Q : Value → Shared → Prop} (hit : s.heap.IsTupleIter it t i)
    (hl : s.heap.IsTuple t items) (hx : items[i]? = some x)
    (hQ : ∀ h', h'.IsTupleIter it t (i + 1) → Heap.SameBut it s.heap h' → Q x { s with heap := h' }) :
    wpAny (model prog w) A (Builtin.SmallTypes.nextOf (.ref it)) Q E s := by
  obtain ⟨o, ho, hc, hd⟩ := id hit
  obtain ⟨ol, hol, _, nl, hdl⟩ := hl
  unfold Builtin.SmallTypes.nextOf
  refine wpAny_bind (wpAny_callSpecial?_slot (name := Str.ofString "__next__") hit.typeIs F.slot_tuple_iterator_next
    (wpAny_call_entry F.slot_tuple_iterator_next hit.typeIs F.entry_tuple_iterator_next ?_ (F.args_tuple_iterator_next_1 _)))
  show wpAny _ _ (field (.ref it) 0 >>= _) _ _ s
  refine wpAny_bind (wpAny_field ho hd (x := .ref t) rfl ?_)
  show wpAny _ _ (if (Value.ref t == Value.none) = true then _ else _) _ _ s
  rw [if_neg (show ¬ ((Value.ref t == Value.none) = true) from Bool.false_ne_true)]
  show wpAny _ _ (field (.ref it) 1 >>= _) _ _ s
  refine wpAny_bind (wpAny_field ho hd (x := .int i 0) rfl ?_)
  show wpAny _ _ (seqItems? (.ref t) >>= _) _ _ s
  refine wpAny_bind (wpAny_seqItems hol hdl ?_)
  simp only [Int.toNat_natCast, hx]
  refine wpAny_bind (wpAny_setField ho hd (by simp) (wpAny_pure ⟨x, rfl, wpAny_pure (hQ _ ?_ (Heap.SameBut.update ..))⟩))
  exact ⟨_, Heap.get?_update_self _ ho (Obj.isFreed_of_fields (Obj.data_mapFields hd _)), (Obj.cls_mapFields ..).trans hc, by
    rw [Obj.data_mapFields hd]; simp [rawInt]⟩
theorem nextOf_tup_end {it t : Addr} {i : Nat} {items} {Q : Value → Shared → Prop} (hh : A.handled = none)
    (hit : s.heap.IsTupleIter it t i) (hl : s.heap.IsTuple t items) (hx : items[i]? = none)
    (hE : ∀ h' e, Heap.ExtBut it s.heap h' → (∃ o, h'.get? e = some o ∧ o.cls = .type "StopIteration") → E (.ref e) { s with heap := h' }) :
    wpAny (model prog w) A (Builtin.SmallTypes.nextOf (.ref it)) Q E s := by
  obtain ⟨o, ho, hc, hd⟩ := id hit
  obtain ⟨ol, hol, _, nl, hdl⟩ := hl
  unfold Builtin.SmallTypes.nextOf
  refine wpAny_bind (wpAny_callSpecial?_slot (name := Str.ofString "__next__") hit.typeIs F.slot_tuple_iterator_next
    (wpAny_call_entry F.slot_tuple_iterator_next hit.typeIs F.entry_tuple_iterator_next ?_ (F.args_tuple_iterator_next_1 _)))
  show wpAny _ _ (field (.ref it) 0 >>= _) _ _ s
  refine wpAny_bind (wpAny_field ho hd (x := .ref t) rfl ?_)
  show wpAny _ _ (if (Value.ref t == Value.none) = true then _ else _) _ _ s
  rw [if_neg (show ¬ ((Value.ref t == Value.none) = true) from Bool.false_ne_true)]
  show wpAny _ _ (field (.ref it) 1 >>= _) _ _ s
  refine wpAny_bind (wpAny_field ho hd (x := .int i 0) rfl ?_)
  show wpAny _ _ (seqItems? (.ref t) >>= _) _ _ s
  refine wpAny_bind (wpAny_seqItems hol hdl ?_)
  simp only [Int.toNat_natCast, hx]
  refine wpAny_bind (wpAny_rule (wpAny_bind (wpAny_setField ho hd (by simp) ?_)))
  show wpAny _ _ (newExc (.type "StopIteration") [] >>= _) _ _ _
  refine wpAny_bind ?_
  simp only [newExc, newTuple]
  refine wpAny_bind (wpAny_newObj_type ?_ (by size_fits))
  refine wpAny_bind (m := firstArgMember _ _) (wpAny_of_eq (a := Value.none) (by first | rfl | (simp only [firstArgMember]; rfl)) ?_)
  refine wpAny_newObj_type ?_ (by size_fits)
  simp only [raiseNew]
  refine wpAny_bind (wpAny_handled ?_)
  first | rw [show A.in1.handled = none from hh] | rw [hh]
  refine wpAny_bind (wpAny_pure (wpAny_throw ?_))
  exact hE _ _ (((Heap.SameBut.update ..).extBut.push _).push _) ⟨_, Heap.get?_push_size _ rfl, rfl⟩
theorem Draws.tup {prog : Program} {w : World} {A : Around} (hh : A.handled = none) (it l : Addr) (hne : l ≠ it) (items : Array Value) :
    Draws prog w A it [it, l] items.size (fun i v => items[i]? = some v) (fun i h => h.IsTupleIter it l i ∧ h.IsTuple l items) where
  live := fun _ _ st => let ⟨o, ho, _⟩ := st.1; ⟨o, ho⟩
  frame := fun _ _ _ st hk => ⟨let ⟨o, ho, r⟩ := st.1; ⟨o, hk it (by simp) o ho, r⟩, let ⟨o, ho, r⟩ := st.2; ⟨o, hk l (by simp) o ho, r⟩⟩
  item := fun i s Q E hi st hQ => by
    refine nextOf_tup st.1 st.2 (x := items[i]) (by simp [hi]) fun h' hit' hs' => ?_
    exact hQ _ h' s.toks (by simp [hi]) ⟨hit', st.2.extBut hs'.extBut hne⟩ hs'
  done := fun s Q E st hE => nextOf_tup_end hh st.1 st.2 (by simp) hE
theorem meets_enumerate_newT (l : Addr) (items : Array Value) (n : Nat) (dct : Option Addr) (sl : Array (Option Value)) :
    Meets (Builtin.«enumerate.__new__» ⟨[.type "enumerate", .ref l], []⟩) (fun _ R s => s.heap.get? l = some { cls := .type "tuple", dict := dct, data := .seq items n, slots := sl } ∧
      R (.ok (.ret (.ref (s.heap.push { cls := .type "tuple_iterator", data := .fields #[.ref l, .int 0 0] }).objs.size)))
        { s with heap := (s.heap.push { cls := .type "tuple_iterator", data := .fields #[.ref l, .int 0 0] }).push { cls := .type "enumerate", data := .fields #[.none, .bool false, .ref s.heap.objs.size, rawInt 0, .none, .none] } }) :=
  .of_wp fun prog w A R s h => by
    obtain ⟨hp, g, d, tk, os⟩ := s; obtain ⟨hl, h⟩ := h
    have hsub := sub_enumerate
    have hL : Heap.IsTuple (Shared.heap ⟨hp, g, d, tk, os⟩) l items := ⟨_, hl, rfl, n, rfl⟩
    wp_walk using wpAny_loadPart' hl
    refine wpAny_stack_any fun st => wpAny_pure ?_
    split
    · rename_i c _ _ _ _ _
      cases (c == Value.type "enumerate")
      · wp_walk using wpAny_loadPart' hl, wpAny_pyIter_tuple hL
        exact ⟨_, rfl, h⟩
      · wp_walk using wpAny_loadPart' hl, wpAny_pyIter_tuple hL
        exact ⟨_, rfl, h⟩
    · wp_walk using wpAny_loadPart' hl, wpAny_pyIter_tuple hL
      exact ⟨_, rfl, h⟩
/-- enumerate's object between two turns -/
abbrev enumO (it : Addr) (i : Int) (old : Value) : Obj := { cls := .type "enumerate", dict := none, data := .fields #[.none, .bool false, .ref it, rawInt i, .none, old], slots := #[] }
abbrev enumR (a it : Addr) (i : Int) (x : Value) : Obj := { cls := .type "enumerate", dict := none, data := .fields #[rawInt a, .bool false, .ref it, rawInt i, .none, x], slots := #[] }
abbrev pairO (a b : Value) : Obj := { cls := .type "tuple", data := .seq #[a, b] }
theorem enum_next {e it : Addr} {fp : List Addr} {n i : Nat} {P : Nat → Value → Prop} {St : Nat → Heap → Prop} {old : Value} {oi : Obj} {Q : Option Value → Shared → Prop}
    (D : Draws prog w A.in1 it fp n P St) (F : Fr h₀ L s.heap m) (N : News h₀ L s.heap ((e, enumO it i old) :: (it, oi) :: news)) (hst : St i s.heap) (hlt : i < n) (hne : e ≠ it) (hef : e ∉ fp)
    (hn : ∀ p ∈ news, p.1 ≠ e ∧ p.1 ≠ it)
    (h : ∀ x t k T h' oi', P i x → St (i + 1) h' → (∀ p ∈ (e, enumO it i old) :: (it, oi) :: news, p.1 < T) → L < T → Fr h₀ L h' m → News h₀ L h' ((T, pairO (.int (i : Nat) t) x) :: (e, enumR T it ((i + 1 : Nat) : Int) x) :: (it, oi') :: news) → Q (some (.ref T)) { s with heap := h', toks := k }) :
    wpAny (model prog w) A (pyNext (.ref e)) Q E s := by
  have he₀ : h₀.get? e = none := N.fresh (.head _)
  have hi₀ : h₀.get? it = none := N.fresh (.tail _ (.head _))
  have heL : e ≠ L := (N _ (.head _)).2.1
  have hiL : it ≠ L := (N _ (.tail _ (.head _))).2.1
  refine wpAny_pyNext_enum_itemD D (N.get (.head _)) hst hlt hne hef fun x h' tk hP ho hs' hT hz hk => ?_
  obtain ⟨oi', hoi⟩ := D.live _ _ hs'
  have hll : ∀ p ∈ (e, enumO it i old) :: (it, oi) :: news, p.1 < s.heap.objs.size := fun p hp => Heap.lt_size (N p hp).1
  refine h x tk _ s.heap.objs.size h' oi' hP hs' hll F.ns.lt ?_ ?_
  · exact ⟨F.ns.at' fun o q => hk L o (Ne.symm heL) (Ne.symm hiL) q, fun b o q => hk b o (fun z => by rw [z, he₀] at q; cases q) (fun z => by rw [z, hi₀] at q; cases q) (F.keep b o q), F.above⟩
  · intro p hp
    rcases List.mem_cons.mp hp with rfl | hp
    · exact ⟨hT, Nat.ne_of_gt F.ns.lt, next_is_new F⟩
    rcases List.mem_cons.mp hp with rfl | hp
    · exact ⟨by rw [ho]; rfl, heL, he₀⟩
    rcases List.mem_cons.mp hp with rfl | hp
    · exact ⟨hoi, hiL, hi₀⟩
    · have z := N p (.tail _ (.tail _ hp))
      exact ⟨hk _ _ (hn p hp).1 (hn p hp).2 z.1, z.2⟩
theorem enum_end {e it : Addr} {fp : List Addr} {n : Nat} {P : Nat → Value → Prop} {St : Nat → Heap → Prop} {i : Int} {old : Value} {oi : Obj} {Q : Option Value → Shared → Prop}
    (D : Draws prog w A.in1 it fp n P St) (F : Fr h₀ L s.heap m) (N : News h₀ L s.heap ((e, enumO it i old) :: (it, oi) :: news)) (hst : St n s.heap) (hn : ∀ p ∈ news, p.1 ≠ it)
    (h : ∀ h', Fr h₀ L h' m → News h₀ L h' news → Q none { s with heap := h' }) : wpAny (model prog w) A (pyNext (.ref e)) Q E s := by
  have hi₀ : h₀.get? it = none := N.fresh (.tail _ (.head _))
  have hiL : it ≠ L := (N _ (.tail _ (.head _))).2.1
  refine wpAny_pyNext_enum_endD D (N.get (.head _)) hst fun h' hk => ?_
  exact h h' ⟨F.ns.at' fun o q => hk L o (Ne.symm hiL) q, fun b o q => hk b o (fun z => by rw [z, hi₀] at q; cases q) (F.keep b o q), F.above⟩
    fun p hp => ⟨hk _ _ (hn p hp) (N p (.tail _ (.tail _ hp))).1, (N p (.tail _ (.tail _ hp))).2⟩
theorem enum_go {elts : List PySem.Expr} {x1 : Nat} {tp : Pos} {e it T : Addr} {i : Int} {x : Value} {oT : Obj} {Q : Unit → Shared → Prop} (F : Fr h₀ L s.heap m) (N : News h₀ L s.heap ((T, oT) :: (e, enumR T it i x) :: news)) (hT : T ≠ e) (hn : ∀ p ∈ news, p.1 ≠ e)
    (h : ∀ h', Fr h₀ L h' m → News h₀ L h' ((T, oT) :: (e, enumO it i x) :: news) → Q () { s with heap := h' }) :
    wpAny (model prog w) A (letOwnedTupleGo (.Tuple elts x1 tp) (.ref e) (.ref T)) Q E s :=
  wpAny_letOwnedTupleGo_enum (N.get (.tail _ (.head _))) fun h' he hs => h h' (F.change hs (N _ (.tail _ (.head _))).2.1 (N.fresh (.tail _ (.head _)))) (News.setSecond N hT hn hs he)
theorem list_go {elts : List PySem.Expr} {x1 : Nat} {tp : Pos} {it l T : Addr} {i : Nat} {o : Obj} {Q : Unit → Shared → Prop} (N : News h₀ L s.heap news) (hm : (it, o) ∈ news) (hc : o.cls = .type "list_iterator") (hd : o.data = .fields #[.ref l, .int i 0])
    (h : Q () s) : wpAny (model prog w) A (letOwnedTupleGo (.Tuple elts x1 tp) (.ref it) (.ref T)) Q E s :=
  wpAny_letOwnedTupleGo_listiter ⟨o, N.get hm, hc, hd⟩ h
theorem enum_self {e it : Addr} {i : Int} {old : Value} (s' : Shared) (Q : Value → Shared → Prop) (E : Value → Shared → Prop) (h : s'.heap.get? e = some (enumO it i old)) (hq : Q (.ref e) s') : wpAny (model prog w) A (pyIter (.ref e)) Q E s' :=
  wpAny_pyIter_enum h hq
theorem list_self {it l : Addr} {i : Nat} {o : Obj} (hc : o.cls = .type "list_iterator") (hd : o.data = .fields #[.ref l, .int i 0]) (s' : Shared) (Q : Value → Shared → Prop) (E : Value → Shared → Prop) (h : s'.heap.get? it = some o) (hq : Q (.ref it) s') : wpAny (model prog w) A (pyIter (.ref it)) Q E s' :=
  wpAny_pyIter_listiter ⟨o, h, hc, hd⟩ hq
/-- a pair's names bound in a comprehension's own block -/
theorem pair_comp {env : Env} {scope : Scope} {cl : List (Str × Addr)} {a b : Str} {pa pb tp : Pos} {kk : Nat} {C T : Addr} {oC : Obj} {x y : Value} {mc : Str → Option Value} {Q : Unit → Shared → Prop} (hh : A.handled = none)
    (F : Fr h₀ L s.heap m) (N : News h₀ L s.heap ((C, oC) :: news)) (hT : (T, pairO x y) ∈ news) (hC : NsObj oC mc) (hn : ∀ p ∈ news, p.1 ≠ C)
    (ha : (compEnvC scope cl C env).kindOf a = some .local) (hb : (compEnvC scope cl C env).kindOf b = some .local)
    (hp : ((compEnvC scope cl C env).scope.kind == .class || ((compEnvC scope cl C env).scope.kind == .module && (compEnvC scope cl C env).locals != (compEnvC scope cl C env).globals)) = false)
    (h : ∀ h' k oC', NsObj oC' (fun z => if z = b then some y else if z = a then some x else mc z) → Fr h₀ L h' m → News h₀ L h' ((C, oC') :: news) → Q () { s with heap := h', toks := k }) :
    wpAny (model prog w) A (assign (.Tuple [.Name a pa, .Name b pb] kk tp) (compEnvC scope cl C env) (.ref T)) Q E s := by
  refine kcp_assign hh ⟨_, N.get (.tail _ hT), rfl, _, rfl⟩ ha hb hp (hC.ns (N.get (.head _))) fun h' tk hn' hk => ?_
  obtain ⟨oC', he, hC'⟩ := ns_obj hn'
  have hC₀ : h₀.get? C = none := N.fresh (.head _)
  have hCL : C ≠ L := (N _ (.head _)).2.1
  refine h h' tk oC' hC' ⟨F.ns.at' fun o q => hk L o (Ne.symm hCL) q, fun b o q => hk b o (fun z => by rw [z] at q; exact absurd (q.symm.trans hC₀) (by simp)) (F.keep b o q), F.above⟩ fun p hp => ?_
  rcases List.mem_cons.mp hp with rfl | hp
  · exact ⟨he, hCL, hC₀⟩
  · exact ⟨hk _ _ (hn p hp) (N p (.tail _ hp)).1, (N p (.tail _ hp)).2⟩
/-- one name bound in a comprehension's own block -/
theorem name_comp {env : Env} {scope : Scope} {cl : List (Str × Addr)} {a : Str} {pa : Pos} {C : Addr} {oC : Obj} {x : Value} {mc : Str → Option Value} {Q : Unit → Shared → Prop}
    (F : Fr h₀ L s.heap m) (N : News h₀ L s.heap ((C, oC) :: news)) (hC : NsObj oC mc) (hn : ∀ p ∈ news, p.1 ≠ C)
    (ha : (compEnvC scope cl C env).kindOf a = some .local)
    (hp : ((compEnvC scope cl C env).scope.kind == .class || ((compEnvC scope cl C env).scope.kind == .module && (compEnvC scope cl C env).locals != (compEnvC scope cl C env).globals)) = false)
    (h : ∀ h' k oC', NsObj oC' (fun z => if z = a then some x else mc z) → Fr h₀ L h' m → News h₀ L h' ((C, oC') :: news) → Q () { s with heap := h', toks := k }) :
    wpAny (model prog w) A (assign (.Name a pa) (compEnvC scope cl C env) x) Q E s := by
  refine wpAny_assign_Name (wpAny_storeName_local ha (hC.ns (N.get (.head _))) (fun h' hn' hs => ?_) hp)
  obtain ⟨oC', he, hC'⟩ := ns_obj hn'
  have hC₀ : h₀.get? C = none := N.fresh (.head _)
  have hCL : C ≠ L := (N _ (.head _)).2.1
  refine h h' _ oC' hC' (F.change hs hCL hC₀) fun p hp => ?_
  rcases List.mem_cons.mp hp with rfl | hp
  · exact ⟨he, hCL, hC₀⟩
  · exact ⟨hs.extBut _ _ (hn p hp) (N p (.tail _ hp)).1, (N p (.tail _ hp)).2⟩
end
end Mine
end
section
open PySem PySem.W PySem.Calls PyProof.Rows PyProof.Rows.LCg
set_option maxRecDepth 100000
set_option maxHeartbeats 0
set_option linter.unusedVariables false
namespace Mine
section
variable {prog : Program} {w : World} {A : Around} {s : Shared} {h₀ : Heap} {L : Addr} {m : Str → Option Value} {news : List (Addr × Obj)} {E : Value → Shared → Prop}
abbrev New1 (h₀ : Heap) (L : Addr) (h : Heap) (p : Addr × Obj) : Prop := h.get? p.1 = some p.2 ∧ p.1 ≠ L ∧ h₀.get? p.1 = none
theorem nC {h₀ h : Heap} {L : Addr} {p : Addr × Obj} {l : List (Addr × Obj)} (x : New1 h₀ L h p) (N : News h₀ L h l) : News h₀ L h (p :: l) := fun q hq => by
  rcases List.mem_cons.mp hq with rfl | hq
  · exact x
  · exact N q hq
theorem nH {h₀ h : Heap} {L : Addr} {p : Addr × Obj} {l : List (Addr × Obj)} (N : News h₀ L h (p :: l)) : New1 h₀ L h p := N p (.head _)
theorem nT {h₀ h : Heap} {L : Addr} {p : Addr × Obj} {l : List (Addr × Obj)} (N : News h₀ L h (p :: l)) : News h₀ L h l := fun q hq => N q (.tail _ hq)
section
variable {h₀ h : Heap} {L : Addr} {a b c d e : Addr × Obj} {r : List (Addr × Obj)}
theorem n_cdab (N : News h₀ L h (a :: b :: c :: d :: r)) : News h₀ L h (c :: d :: a :: b :: r) := nC (nH (nT (nT N))) (nC (nH (nT (nT (nT N)))) (nC (nH N) (nC (nH (nT N)) (nT (nT (nT (nT N)))))))
theorem n_dabc (N : News h₀ L h (a :: b :: c :: d :: r)) : News h₀ L h (d :: a :: b :: c :: r) := nC (nH (nT (nT (nT N)))) (nC (nH N) (nC (nH (nT N)) (nC (nH (nT (nT N))) (nT (nT (nT (nT N)))))))
theorem n_cab (N : News h₀ L h (a :: b :: c :: r)) : News h₀ L h (c :: a :: b :: r) := nC (nH (nT (nT N))) (nC (nH N) (nC (nH (nT N)) (nT (nT (nT N)))))
theorem n_aebcd (N : News h₀ L h (a :: b :: c :: d :: e :: r)) : News h₀ L h (a :: e :: b :: c :: d :: r) := nC (nH N) (n_dabc (nT N))
end
structure TuIt (o : Obj) (l : Addr) (i : Nat) : Prop where
  cls : o.cls = .type "tuple_iterator"
  data : o.data = .fields #[.ref l, .int i 0]
theorem enum_tup {l : Addr} {o : Obj} {items : Array Value} {n : Nat} {Q : Value → Shared → Prop} (F : Fr h₀ L s.heap m) (N : News h₀ L s.heap news) (hm : (l, o) ∈ news) (hc : o.cls = .type "tuple") (hd : o.data = .seq items n)
    (h : ∀ e it oi h', TuIt oi l 0 → (∀ p ∈ news, p.1 < it) → L < it → it < e → Fr h₀ L h' m → News h₀ L h' ((e, enumO it ((0 : Nat) : Int) .none) :: (it, oi) :: news) → Q (.ref e) { s with heap := h' }) :
    wpAny (model prog w) A (call (.type "enumerate") [.ref l]) Q E s := by
  obtain ⟨c, dct, dt, sl⟩ := o
  replace hc : c = .type "tuple" := hc
  replace hd : dt = .seq items n := hd
  subst hc hd
  refine callType_new PySem.F.called_enumerate (by decide) (PySem.F.typeCall_enumerate_1 _) (PySem.F.newCall_enumerate_1 _) (fun obj => PySem.F.args_object_init_2 obj _) PySem.F.entry_enumerate_new
    (meets_enumerate_newT l items n dct sl) ⟨N.get hm, ?_⟩
  have hz : (s.heap.push { cls := .type "tuple_iterator", data := .fields #[.ref l, .int 0 0] }).objs.size = s.heap.objs.size + 1 := Heap.size_push ..
  have F₁ := Fr.pushS F { cls := .type "tuple_iterator", data := .fields #[.ref l, .int 0 0] }
  have N₁ := News.push F N { cls := .type "tuple_iterator", data := .fields #[.ref l, .int 0 0] }
  have F₂ := Fr.pushS F₁ { cls := .type "enumerate", data := .fields #[.none, .bool false, .ref s.heap.objs.size, rawInt 0, .none, .none] }
  have N₂ := News.push F₁ N₁ { cls := .type "enumerate", data := .fields #[.none, .bool false, .ref s.heap.objs.size, rawInt 0, .none, .none] }
  rw [hz] at N₂
  show _ ∧ _
  rw [hz]
  refine ⟨⟨_, N₂.get (.head _), rfl⟩, h _ _ _ _ ⟨rfl, rfl⟩ (fun p hp => Heap.lt_size (N p hp).1) F.ns.lt (Nat.lt_succ_self _) F₂ N₂⟩
theorem tup_turn {e it l : Addr} {items : Array Value} {i : Nat} {old x : Value} {oi ol : Obj} {n : Nat} {Q : Option Value → Shared → Prop} (hh : A.handled = none)
    (F : Fr h₀ L s.heap m) (N : News h₀ L s.heap ((e, enumO it (i : Nat) old) :: (it, oi) :: news)) (hI : TuIt oi l i) (hm : (l, ol) ∈ news) (hc : ol.cls = .type "tuple") (hd : ol.data = .seq items n) (hx : items[i]? = some x)
    (hlt : it ≠ e) (hn : ∀ p ∈ news, p.1 ≠ e ∧ p.1 ≠ it)
    (h : ∀ t k T h' oi', TuIt oi' l (i + 1) → e < T → (∀ p ∈ news, p.1 < T) → L < T → Fr h₀ L h' m → News h₀ L h' ((T, pairO (.int (i : Nat) t) x) :: (e, enumR T it ((i + 1 : Nat) : Int) x) :: (it, oi') :: news) → Q (some (.ref T)) { s with heap := h', toks := k }) :
    wpAny (model prog w) A (pyNext (.ref e)) Q E s := by
  have hlit : l ≠ e ∧ l ≠ it := hn _ hm
  refine enum_next (Draws.tup (A := A.in1) hh it l hlit.2 items) F N ⟨⟨oi, N.get (.tail _ (.head _)), hI.1, hI.2⟩, ⟨ol, N.get (.tail _ (.tail _ hm)), hc, n, hd⟩⟩ (Array.getElem?_eq_some_iff.mp hx).1 (Ne.symm hlt) ?_ hn
    fun x' t k T h' oi' hP hst hT hL F' N' => ?_
  · intro q
    rcases List.mem_cons.mp q with q | q
    · exact hlt q.symm
    · exact hlit.1 (List.mem_singleton.mp q).symm
  · obtain rfl : x = x' := Option.some.inj (hx.symm.trans hP)
    obtain ⟨⟨o', ho', hc', hd'⟩, -⟩ := hst
    obtain rfl : o' = oi' := Option.some.inj (ho'.symm.trans (N'.get (.tail _ (.tail _ (.head _)))))
    exact h t k T h' o' ⟨hc', hd'⟩ (hT _ (.head _)) (fun p hp => hT p (.tail _ (.tail _ hp))) hL F' N'
theorem tup_stop {e it l : Addr} {items : Array Value} {old : Value} {oi ol : Obj} {n : Nat} {Q : Option Value → Shared → Prop} (hh : A.handled = none)
    (F : Fr h₀ L s.heap m) (N : News h₀ L s.heap ((e, enumO it (items.size : Nat) old) :: (it, oi) :: news)) (hI : TuIt oi l items.size) (hm : (l, ol) ∈ news) (hc : ol.cls = .type "tuple") (hd : ol.data = .seq items n)
    (hn : ∀ p ∈ news, p.1 ≠ it) (h : ∀ h', Fr h₀ L h' m → News h₀ L h' news → Q none { s with heap := h' }) :
    wpAny (model prog w) A (pyNext (.ref e)) Q E s :=
  enum_end (Draws.tup (A := A.in1) hh it l (hn _ hm) items) F N ⟨⟨oi, N.get (.tail _ (.head _)), hI.1, hI.2⟩, ⟨ol, N.get (.tail _ (.tail _ hm)), hc, n, hd⟩⟩ hn h
structure LiIt (o : Obj) (l : Addr) (i : Nat) : Prop where
  cls : o.cls = .type "list_iterator"
  data : o.data = .fields #[.ref l, .int i 0]
theorem enum_list {l : Addr} {o : Obj} {items : Array Value} {n : Nat} {Q : Value → Shared → Prop} (F : Fr h₀ L s.heap m) (N : News h₀ L s.heap news) (hm : (l, o) ∈ news) (hc : o.cls = .type "list") (hd : o.data = .seq items n)
    (h : ∀ e it oi h', LiIt oi l 0 → (∀ p ∈ news, p.1 < it) → L < it → it < e → Fr h₀ L h' m → News h₀ L h' ((e, enumO it ((0 : Nat) : Int) .none) :: (it, oi) :: news) → Q (.ref e) { s with heap := h' }) :
    wpAny (model prog w) A (call (.type "enumerate") [.ref l]) Q E s := by
  obtain ⟨c, dct, dt, sl⟩ := o
  replace hc : c = .type "list" := hc
  replace hd : dt = .seq items n := hd
  subst hc hd
  refine callType_new PySem.F.called_enumerate (by decide) (PySem.F.typeCall_enumerate_1 _) (PySem.F.newCall_enumerate_1 _) (fun obj => PySem.F.args_object_init_2 obj _) PySem.F.entry_enumerate_new
    (meets_enumerate_newL l items n dct sl) ⟨N.get hm, ?_⟩
  have hz : (s.heap.push { cls := .type "list_iterator", data := .fields #[.ref l, .int 0 0] }).objs.size = s.heap.objs.size + 1 := Heap.size_push ..
  have F₁ := Fr.pushS F { cls := .type "list_iterator", data := .fields #[.ref l, .int 0 0] }
  have N₁ := News.push F N { cls := .type "list_iterator", data := .fields #[.ref l, .int 0 0] }
  have F₂ := Fr.pushS F₁ { cls := .type "enumerate", data := .fields #[.none, .bool false, .ref s.heap.objs.size, rawInt 0, .none, .none] }
  have N₂ := News.push F₁ N₁ { cls := .type "enumerate", data := .fields #[.none, .bool false, .ref s.heap.objs.size, rawInt 0, .none, .none] }
  rw [hz] at N₂
  show _ ∧ _
  rw [hz]
  refine ⟨⟨_, N₂.get (.head _), rfl⟩, h _ _ _ _ ⟨rfl, rfl⟩ (fun p hp => Heap.lt_size (N p hp).1) F.ns.lt (Nat.lt_succ_self _) F₂ N₂⟩
theorem list_turn {e it l : Addr} {items : Array Value} {i : Nat} {old x : Value} {oi ol : Obj} {n : Nat} {Q : Option Value → Shared → Prop} (hh : A.handled = none)
    (F : Fr h₀ L s.heap m) (N : News h₀ L s.heap ((e, enumO it (i : Nat) old) :: (it, oi) :: news)) (hI : LiIt oi l i) (hm : (l, ol) ∈ news) (hc : ol.cls = .type "list") (hd : ol.data = .seq items n) (hx : items[i]? = some x)
    (hlt : it ≠ e) (hn : ∀ p ∈ news, p.1 ≠ e ∧ p.1 ≠ it)
    (h : ∀ t k T h' oi', LiIt oi' l (i + 1) → e < T → (∀ p ∈ news, p.1 < T) → L < T → Fr h₀ L h' m → News h₀ L h' ((T, pairO (.int (i : Nat) t) x) :: (e, enumR T it ((i + 1 : Nat) : Int) x) :: (it, oi') :: news) → Q (some (.ref T)) { s with heap := h', toks := k }) :
    wpAny (model prog w) A (pyNext (.ref e)) Q E s := by
  have hlit : l ≠ e ∧ l ≠ it := hn _ hm
  refine enum_next (Draws.list (A := A.in1) hh it l hlit.2 items) F N ⟨⟨oi, N.get (.tail _ (.head _)), hI.1, hI.2⟩, ⟨ol, N.get (.tail _ (.tail _ hm)), hc, n, hd⟩⟩ (Array.getElem?_eq_some_iff.mp hx).1 (Ne.symm hlt) ?_ hn
    fun x' t k T h' oi' hP hst hT hL F' N' => ?_
  · intro q
    rcases List.mem_cons.mp q with q | q
    · exact hlt q.symm
    · exact hlit.1 (List.mem_singleton.mp q).symm
  · obtain rfl : x = x' := Option.some.inj (hx.symm.trans hP)
    obtain ⟨⟨o', ho', hc', hd'⟩, -⟩ := hst
    obtain rfl : o' = oi' := Option.some.inj (ho'.symm.trans (N'.get (.tail _ (.tail _ (.head _)))))
    exact h t k T h' o' ⟨hc', hd'⟩ (hT _ (.head _)) (fun p hp => hT p (.tail _ (.tail _ hp))) hL F' N'
theorem list_stop {e it l : Addr} {items : Array Value} {old : Value} {oi ol : Obj} {n : Nat} {Q : Option Value → Shared → Prop} (hh : A.handled = none)
    (F : Fr h₀ L s.heap m) (N : News h₀ L s.heap ((e, enumO it (items.size : Nat) old) :: (it, oi) :: news)) (hI : LiIt oi l items.size) (hm : (l, ol) ∈ news) (hc : ol.cls = .type "list") (hd : ol.data = .seq items n)
    (hn : ∀ p ∈ news, p.1 ≠ it) (h : ∀ h', Fr h₀ L h' m → News h₀ L h' news → Q none { s with heap := h' }) :
    wpAny (model prog w) A (pyNext (.ref e)) Q E s :=
  enum_end (Draws.list (A := A.in1) hh it l (hn _ hm) items) F N ⟨⟨oi, N.get (.tail _ (.head _)), hI.1, hI.2⟩, ⟨ol, N.get (.tail _ (.tail _ hm)), hc, n, hd⟩⟩ hn h
structure StIt (o : Obj) (x : Str) (t : Tok) (i : Nat) : Prop where
  cls : o.cls = .type "str_ascii_iterator"
  data : o.data = .fields #[.str x t, .int i 0]
theorem enum_str {x : Str} {t : Tok} {Q : Value → Shared → Prop} (ha : x.cps.all (· < 128) = true) (F : Fr h₀ L s.heap m) (N : News h₀ L s.heap news)
    (h : ∀ e it oi h', StIt oi x t 0 → (∀ p ∈ news, p.1 < it) → L < it → it < e → Fr h₀ L h' m → News h₀ L h' ((e, enumO it ((0 : Nat) : Int) .none) :: (it, oi) :: news) → Q (.ref e) { s with heap := h' }) :
    wpAny (model prog w) A (call (.type "enumerate") [.str x t]) Q E s := by
  refine callType_new PySem.F.called_enumerate (by decide) (PySem.F.typeCall_enumerate_1 _) (PySem.F.newCall_enumerate_1 _) (fun obj => PySem.F.args_object_init_2 obj _) PySem.F.entry_enumerate_new
    (meets_enumerate_newS x t) ?_
  rw [show strIterType x = "str_ascii_iterator" from if_pos ha]
  have hz : (s.heap.push { cls := .type "str_ascii_iterator", data := .fields #[.str x t, .int 0 0] }).objs.size = s.heap.objs.size + 1 := Heap.size_push ..
  have F₁ := Fr.pushS F { cls := .type "str_ascii_iterator", data := .fields #[.str x t, .int 0 0] }
  have N₁ := News.push F N { cls := .type "str_ascii_iterator", data := .fields #[.str x t, .int 0 0] }
  have F₂ := Fr.pushS F₁ { cls := .type "enumerate", data := .fields #[.none, .bool false, .ref s.heap.objs.size, rawInt 0, .none, .none] }
  have N₂ := News.push F₁ N₁ { cls := .type "enumerate", data := .fields #[.none, .bool false, .ref s.heap.objs.size, rawInt 0, .none, .none] }
  rw [hz] at N₂
  show _ ∧ _
  rw [hz]
  refine ⟨⟨_, N₂.get (.head _), rfl⟩, h _ _ _ _ ⟨rfl, rfl⟩ (fun p hp => Heap.lt_size (N p hp).1) F.ns.lt (Nat.lt_succ_self _) F₂ N₂⟩
theorem str_turn {e it : Addr} {x : Str} {xt : Tok} {i c : Nat} {old : Value} {oi : Obj} {Q : Option Value → Shared → Prop} (hh : A.handled = none)
    (F : Fr h₀ L s.heap m) (N : News h₀ L s.heap ((e, enumO it (i : Nat) old) :: (it, oi) :: news)) (hI : StIt oi x xt i) (hx : x.cps[i]? = some c)
    (hlt : it ≠ e) (hn : ∀ p ∈ news, p.1 ≠ e ∧ p.1 ≠ it)
    (h : ∀ t u k T h' oi', StIt oi' x xt (i + 1) → e < T → (∀ p ∈ news, p.1 < T) → L < T → Fr h₀ L h' m → News h₀ L h' ((T, pairO (.int (i : Nat) t) (.str ⟨#[c]⟩ u)) :: (e, enumR T it ((i + 1 : Nat) : Int) (.str ⟨#[c]⟩ u)) :: (it, oi') :: news) → Q (some (.ref T)) { s with heap := h', toks := k }) :
    wpAny (model prog w) A (pyNext (.ref e)) Q E s := by
  refine enum_next (Draws.strAscii (A := A.in1) hh it x xt) F N ⟨oi, N.get (.tail _ (.head _)), hI.1, hI.2⟩ (Array.getElem?_eq_some_iff.mp hx).1 (Ne.symm hlt) ?_ hn
    fun x' t k T h' oi' hP hst hT hL F' N' => ?_
  · intro q
    exact hlt (List.mem_singleton.mp q).symm
  · obtain ⟨c', u, hc, rfl⟩ := hP
    obtain rfl : c = c' := Option.some.inj (hx.symm.trans hc)
    obtain ⟨o', ho', hc', hd'⟩ := hst
    obtain rfl : o' = oi' := Option.some.inj (ho'.symm.trans (N'.get (.tail _ (.tail _ (.head _)))))
    exact h t u k T h' o' ⟨hc', hd'⟩ (hT _ (.head _)) (fun p hp => hT p (.tail _ (.tail _ hp))) hL F' N'
theorem str_stop {e it : Addr} {x : Str} {xt : Tok} {old : Value} {oi : Obj} {Q : Option Value → Shared → Prop} (hh : A.handled = none)
    (F : Fr h₀ L s.heap m) (N : News h₀ L s.heap ((e, enumO it (x.cps.size : Nat) old) :: (it, oi) :: news)) (hI : StIt oi x xt x.cps.size)
    (hn : ∀ p ∈ news, p.1 ≠ it) (h : ∀ h', Fr h₀ L h' m → News h₀ L h' news → Q none { s with heap := h' }) :
    wpAny (model prog w) A (pyNext (.ref e)) Q E s :=
  enum_end (Draws.strAscii (A := A.in1) hh it x xt) F N ⟨oi, N.get (.tail _ (.head _)), hI.1, hI.2⟩ hn h
end
end Mine
end
section
open PySem PySem.W PySem.Calls PyProof.Rows PyProof.Rows.LCg
set_option maxRecDepth 100000
set_option maxHeartbeats 0
set_option linter.unusedVariables false
namespace Mine
local macro_rules | `(tactic| k_room) => `(tactic| ((try simp only [depth_under_make, depth_under_kw, depth_in1, depth_deeper, depth_caller]); (try dsimp only); simp only [recursionLimit]; omega))
local macro_rules | `(tactic| k_all) => `(tactic| first | assumption | exact ne_of_lo (by assumption) | (refine ne_of_all (by assumption) ?_; (try dsimp only); omega))
theorem pick_ints {items : Array Value} {lo hi st : Option Int} (h : AllInts items) : AllInts (slicePick items lo hi st) := fun v hv => by
  unfold slicePick at hv
  obtain ⟨i, -, hi⟩ := List.mem_filterMap.mp (List.mem_toArray.mp hv)
  exact h v (Array.mem_of_getElem? hi)
theorem sum_K {prog : Program} {w : World} {A : Around} {E : Value → Shared → Prop} {s : Shared} {h₀ : Heap} {L l : Addr} {m : Str → Option Value} {news : List (Addr × Obj)} {o : Obj} {items : Array Value} {n : Nat} {Q : Value → Shared → Prop} (hh : A.handled = none)
    (F : Fr h₀ L s.heap m) (N : News h₀ L s.heap ((l, o) :: news)) (hc : o.cls = .type "list") (hd : o.data = .seq items n) (hi : AllInts items)
    (h : ∀ (y : Int) t k h', Fr h₀ L h' m → News h₀ L h' news → Q (.int y t) { s with heap := h', toks := k }) :
    wpAny (model prog w) A (call (.builtin "sum") [.ref l]) Q E s := by
  obtain ⟨xs, hx⟩ := hi.items
  refine sum_intListG hh (xs := xs) ⟨o, N.get (.head _), hc, n, hx ▸ hd⟩ fun h' tk t' hk => ?_
  exact h _ _ _ _ (F.keeps hk) fun p hp => ⟨hk _ _ (N p (.tail _ hp)).1, (N p (.tail _ hp)).2⟩
def lwB : List Stmt := fdBody (nthS 26 mainB)
abbrev lwE (L fa : Addr) (cd : Value) : Env := envOfC (Str.ofString "law") (fdScope (nthS 26 mainB)) L fa cd
def cExp (s : Stmt) : Expr := match s with | .Assign _ e _ => e | .Expr (.Call _ [e] _ _) _ => e | _ => default
def cElt (e : Expr) : Expr := match e with | .ListComp e _ _ _ => e | _ => default
def cGen (e : Expr) : Comprehension := match e with | .ListComp _ [g] _ _ => g | _ => ⟨default, default, [], 0⟩
def cTgt (e : Expr) : Expr := (cGen e).target
def cIter (e : Expr) : Expr := (cGen e).iter
def cScope (e : Expr) : Scope := match e with | .ListComp _ _ s _ => s | _ => default
def cPos (e : Expr) : Pos := match e with | .ListComp _ _ _ p => p | _ => default
def tPos (s : Stmt) : Pos := match s with | .Assign [.Name _ p] _ _ => p | _ => default
def sPos (s : Stmt) : Pos := match s with | .Assign _ _ p => p | _ => default
abbrev lwS (L cS' cR' : Addr) : List (Str × Addr) := [(Str.ofString "script", L + 1)]
def e0 : Expr := cExp (nthS 0 lwB)
local macro_rules | `(tactic| walk_at "call builtin:sum") => `(tactic| (k_here; k_dflt (refine' sum_K rfl ?F ?N ?c ?d ?i ?_; (case F => k_asm); (case N => assumption); (case c => exact rfl); (case d => exact rfl); (case i => exact pick_ints (IntsAre.allInts (by assumption)))); intro y' t' k' h' F' N'))
section
variable {w : World} {A A₀ : Around} {s : Shared} {base h₀ : Heap} {outer : List Env} {L fa sA : Addr} {cd : Value} {m mg mb : Str → Option Value} {news : List (Addr × Obj)} {p : Program} {loose : List Str} {mean : ExcName → Option Value}
  {Q : Flow → Shared → Prop} {E : Value → Shared → Prop} {cS cR cL cT : Obj} {vs : List Value} {xs : List Int}
theorem c0_elt (B : Below A₀ base outer h₀) (X₀ : (KK w.params).In h₀) (T : Top p loose mean mg mb h₀) (hA : A.frames = some (lwE L fa cd :: outer)) (hh : A.handled = none) (hdp : A.depth < 360) (hun : A.units < 60)
    {C : Addr} {oC : Obj} {mc : Str → Option Value} {i : Nat} {x : Int} {xt it : Tok} {Q : Value → Shared → Prop}
    (F : Fr h₀ L s.heap m) (N : News h₀ L s.heap ((C, oC) :: (L + 1, cS) :: news)) (hC : NsObj oC mc) (hk : mc (Str.ofString "k") = some (.int (i : Nat) it)) (hx : mc (Str.ofString "x") = some (.int x xt)) (hi5 : i < 5)
    (hS : cS.data = .cell (some (.ref sA))) (hl : h₀.IsList sA vs.toArray) (hi : IntsAre vs xs) (hxl : vs.length ≤ 63)
    (h : ∀ (y : Int) yt k h', Fr h₀ L h' m → News h₀ L h' ((C, oC) :: (L + 1, cS) :: news) → Q (.int y yt) { s with heap := h', toks := k }) :
    wpAny (model PySem.Challenge.rw_rs0059_01.row.prog w) A (eval (cElt e0) (compEnvC (cScope e0) [(Str.ofString "script", L + 1)] C (lwE L fa cd))) Q E s := by
  obtain ⟨hnd, dp, fr, gu, un⟩ := A
  cases hh
  cases hA
  replace hdp : dp < 360 := hdp
  replace hun : un < 60 := hun
  revert X₀
  k_fill
  intro X₀
  (conv in cElt e0 => whnf)
  (conv in (occs := *) cScope e0 => all_goals whnf)
  (try k_fold)
  repeat' (first | (k_unfold; (try dsimp only)) | walk1 | (dsimp only; walk1))
  rename Fr h₀ _ _ _ => kF
  rename News h₀ _ _ _ => kN
  exact h _ _ _ _ kF kN
theorem c0_turn (B : Below A₀ base outer h₀) (X₀ : (KK w.params).In h₀) (T : Top p loose mean mg mb h₀) (hA : A.frames = some (lwE L fa cd :: outer)) (hh : A.handled = none) (hdp : A.depth < 360) (hun : A.units < 60)
    {C D e it tA : Addr} {oC oi : Obj} {mc : Str → Option Value} {old : Value} {i : Nat} {ys : List Value} {items : Array Value} {x : Int} {xt : Tok} {R : Result → Shared → Prop}
    (F : Fr h₀ L s.heap m) (N : News h₀ L s.heap ((C, oC) :: (D, lst ys) :: (e, enumO it (i : Nat) old) :: (it, oi) :: (tA, { cls := .type "tuple", data := .seq items }) :: (L + 1, cS) :: news)) (hC : NsObj oC mc) (hI : TuIt oi tA i) (hx : items[i]? = some (.int x xt)) (hi5 : i < 5) (hy : ys.length ≤ 5)
    (hDC : D < C) (heD : e < D) (hie : it < e) (hti : tA < it) (hLt : L + 1 < tA) (hn : ∀ p ∈ news, p.1 < tA) (hn1 : ∀ p ∈ news, p.1 ≠ L + 1)
    (hS : cS.data = .cell (some (.ref sA))) (hl : h₀.IsList sA vs.toArray) (hi : IntsAre vs xs) (hxl : vs.length ≤ 63)
    (h : ∀ (y : Int) yt k h' oC' oi' mc', NsObj oC' mc' → TuIt oi' tA (i + 1) → Fr h₀ L h' m → News h₀ L h' ((C, oC') :: (D, lst (ys ++ [.int y yt])) :: (e, enumO it ((i + 1 : Nat) : Int) (.int x xt)) :: (it, oi') :: (tA, { cls := .type "tuple", data := .seq items }) :: (L + 1, cS) :: news) →
      CompAt PySem.Challenge.rw_rs0059_01.row.prog w A (cElt e0) (cTgt e0) (cIter e0) (cScope e0) (cPos e0) (.ref e) (.ref D) (compEnvC (cScope e0) [(Str.ofString "script", L + 1)] C (lwE L fa cd)) R { s with heap := h', toks := k }) :
    CompAt PySem.Challenge.rw_rs0059_01.row.prog w A (cElt e0) (cTgt e0) (cIter e0) (cScope e0) (cPos e0) (.ref e) (.ref D) (compEnvC (cScope e0) [(Str.ofString "script", L + 1)] C (lwE L fa cd)) R s := by
  obtain ⟨hnd, dp, fr, gu, un⟩ := A
  cases hh
  cases hA
  replace hdp : dp < 360 := hdp
  replace hun : un < 60 := hun
  have hieN : it ≠ e := Nat.ne_of_lt hie
  have hlo : ∀ p ∈ (tA, ({ cls := .type "tuple", data := .seq items } : Obj)) :: (L + 1, cS) :: news, p.1 < it := fun p hp => by
    rcases List.mem_cons.mp hp with rfl | hp
    · exact hti
    rcases List.mem_cons.mp hp with rfl | hp
    · exact Nat.lt_trans hLt hti
    · exact Nat.lt_trans (hn p hp) hti
  refine CompAt.turn (tup_turn (l := tA) rfl F (n_cdab N) hI (.tail _ (.tail _ (.head _))) rfl rfl hx hieN ?_ fun t k Tp h' oi' hI' heT hrT hLT F N => ?_)
  · intro p hp
    rcases List.mem_cons.mp hp with rfl | hp
    · exact ⟨Nat.ne_of_gt (Nat.lt_trans heD hDC), Nat.ne_of_gt (Nat.lt_trans hie (Nat.lt_trans heD hDC))⟩
    rcases List.mem_cons.mp hp with rfl | hp
    · exact ⟨Nat.ne_of_gt heD, Nat.ne_of_gt (Nat.lt_trans hie heD)⟩
    · exact ⟨Nat.ne_of_lt (Nat.lt_trans (hlo p hp) hie), Nat.ne_of_lt (hlo p hp)⟩
  dsimp only
  refine enum_go F N (Nat.ne_of_gt heT) ?_ fun h' F N => ?_
  · intro p hp
    rcases List.mem_cons.mp hp with rfl | hp
    · exact hieN
    rcases List.mem_cons.mp hp with rfl | hp
    · exact Nat.ne_of_gt (Nat.lt_trans heD hDC)
    rcases List.mem_cons.mp hp with rfl | hp
    · exact Nat.ne_of_gt heD
    · exact Nat.ne_of_lt (Nat.lt_trans (hlo p hp) hie)
  have hCT : C ≠ Tp := Nat.ne_of_lt (hrT _ (.head _))
  refine pair_comp (mc := mc) rfl F (n_dabc N) (.head _) hC ?_ rfl rfl rfl fun h' k oC' hC' F N => ?_
  · intro p hp
    rcases List.mem_cons.mp hp with rfl | hp
    · exact Ne.symm hCT
    rcases List.mem_cons.mp hp with rfl | hp
    · exact Nat.ne_of_lt (Nat.lt_trans heD hDC)
    rcases List.mem_cons.mp hp with rfl | hp
    · exact Nat.ne_of_lt (Nat.lt_trans hie (Nat.lt_trans heD hDC))
    rcases List.mem_cons.mp hp with rfl | hp
    · exact Nat.ne_of_lt hDC
    · exact Nat.ne_of_lt (Nat.lt_trans (hlo p hp) (Nat.lt_trans hie (Nat.lt_trans heD hDC)))
  obtain ⟨mc', hmc⟩ : ∃ mc' : Str → Option Value, mc' = (fun z => if z = Str.ofString "x" then some (.int x xt) else if z = Str.ofString "k" then some (.int (i : Nat) t) else mc z) := ⟨_, rfl⟩
  rw [← hmc] at hC'
  dsimp only
  refine c0_elt (x := x) (xt := xt) (it := t) (news := (Tp, pairO (.int (i : Nat) t) (.int x xt)) :: (e, enumO it ((i + 1 : Nat) : Int) (.int x xt)) :: (it, oi') :: (D, lst ys) :: (tA, { cls := .type "tuple", data := .seq items }) :: news) B X₀ T rfl rfl hdp hun F ?_ hC' ?_ ?_ hi5 hS hl hi hxl fun y yt k h' F N => ?_
  · exact nC (nH N) (nC (nH (nT (nT (nT (nT (nT (nT N))))))) (nC (nH (nT N)) (nC (nH (nT (nT N))) (nC (nH (nT (nT (nT N)))) (nC (nH (nT (nT (nT (nT N))))) (nC (nH (nT (nT (nT (nT (nT N)))))) (nT (nT (nT (nT (nT (nT (nT N))))))))))))) 
  · rw [hmc]; dsimp only; rw [if_neg (by decide +kernel), if_pos rfl]
  · rw [hmc]; dsimp only; rw [if_pos rfl]
  have N1 : News h₀ L h' ((C, oC') :: (D, lst ys) :: (e, enumO it ((i + 1 : Nat) : Int) (.int x xt)) :: (it, oi') :: (tA, { cls := .type "tuple", data := .seq items }) :: (L + 1, cS) :: news) :=
    nC (nH N) (nC (nH (nT (nT (nT (nT (nT N)))))) (nC (nH (nT (nT (nT N)))) (nC (nH (nT (nT (nT (nT N))))) (nC (nH (nT (nT (nT (nT (nT (nT N))))))) (nC (nH (nT N)) (nT (nT (nT (nT (nT (nT (nT N)))))))))))) 
  refine comp_app F N1 (Nat.ne_of_gt hDC) ?_ (by omega) fun h' F N => h _ _ _ _ _ _ mc' hC' hI' F N
  intro p hp
  rcases List.mem_cons.mp hp with rfl | hp
  · exact Nat.ne_of_lt heD
  rcases List.mem_cons.mp hp with rfl | hp
  · exact Nat.ne_of_lt (Nat.lt_trans hie heD)
  · exact Nat.ne_of_lt (Nat.lt_trans (hlo p hp) (Nat.lt_trans hie heD))
def intV (zs : List (Int × Tok)) : List Value := zs.map fun z => .int z.1 z.2
theorem intV_snoc (zs : List (Int × Tok)) (y : Int) (t : Tok) : intV zs ++ [.int y t] = intV (zs ++ [(y, t)]) := by simp [intV]
theorem c0_loop (B : Below A₀ base outer h₀) (X₀ : (KK w.params).In h₀) (T : Top p loose mean mg mb h₀) (hA : A.frames = some (lwE L fa cd :: outer)) (hh : A.handled = none) (hdp : A.depth < 360) (hun : A.units < 60)
    {C D e it tA : Addr} {items : Array Value} (hall : AllInts items) (hsz : items.size = 5) {R : Result → Shared → Prop}
    (hDC : D < C) (heD : e < D) (hie : it < e) (hti : tA < it) (hLt : L + 1 < tA) (hn : ∀ p ∈ news, p.1 < tA) (hn1 : ∀ p ∈ news, p.1 ≠ L + 1)
    (hS : cS.data = .cell (some (.ref sA))) (hl : h₀.IsList sA vs.toArray) (hi : IntsAre vs xs) (hxl : vs.length ≤ 63)
    (hR : ∀ k h' zs oC mc, zs.length = 5 → NsObj oC mc → Fr h₀ L h' m → News h₀ L h' ((C, oC) :: (D, lst (intV zs)) :: (tA, { cls := .type "tuple", data := .seq items }) :: (L + 1, cS) :: news) → R (.ok .next) { s with heap := h', toks := k }) :
    ∀ (r i k : Nat) (hp : Heap) (zs : List (Int × Tok)) (oC oi : Obj) (mc : Str → Option Value) (old : Value), i + r = 5 → zs.length = i → NsObj oC mc → TuIt oi tA i → Fr h₀ L hp m →
      News h₀ L hp ((C, oC) :: (D, lst (intV zs)) :: (e, enumO it (i : Nat) old) :: (it, oi) :: (tA, { cls := .type "tuple", data := .seq items }) :: (L + 1, cS) :: news) →
      CompAt PySem.Challenge.rw_rs0059_01.row.prog w A (cElt e0) (cTgt e0) (cIter e0) (cScope e0) (cPos e0) (.ref e) (.ref D) (compEnvC (cScope e0) [(Str.ofString "script", L + 1)] C (lwE L fa cd)) R { s with heap := hp, toks := k } := by
  intro r
  induction r with
  | zero =>
    intro i k hp zs oC oi mc old hir hz hC hI F N
    obtain rfl : i = items.size := by omega
    have hlo : ∀ p ∈ (tA, ({ cls := .type "tuple", data := .seq items } : Obj)) :: (L + 1, cS) :: news, p.1 < it := fun p hp => by
      rcases List.mem_cons.mp hp with rfl | hp
      · exact hti
      rcases List.mem_cons.mp hp with rfl | hp
      · exact Nat.lt_trans hLt hti
      · exact Nat.lt_trans (hn p hp) hti
    refine CompAt.turn (tup_stop (l := tA) hh F (n_cdab N) hI (.tail _ (.tail _ (.head _))) rfl rfl ?_ fun h' F N => ?_)
    · intro p hp
      rcases List.mem_cons.mp hp with rfl | hp
      · exact Nat.ne_of_gt (Nat.lt_trans hie (Nat.lt_trans heD hDC))
      rcases List.mem_cons.mp hp with rfl | hp
      · exact Nat.ne_of_gt (Nat.lt_trans hie heD)
      · exact Nat.ne_of_lt (hlo p hp)
    exact hR _ _ zs oC mc (hz.trans hsz) hC F N
  | succ r ih =>
    intro i k hp zs oC oi mc old hir hz hC hI F N
    obtain ⟨x, xt, hx⟩ : ∃ x xt, items[i]? = some (.int x xt) := by
      have hi : i < items.size := by omega
      obtain ⟨x, xt, e⟩ := hall items[i] (Array.getElem_mem hi)
      exact ⟨x, xt, by rw [Array.getElem?_eq_getElem hi, e]⟩
    refine c0_turn B X₀ T hA hh hdp hun F N hC hI hx (by omega) ?_ hDC heD hie hti hLt hn hn1 hS hl hi hxl fun y yt k h' oC oi mc hC hI F N => ?_
    · show (zs.map _).length ≤ 5
      rw [List.length_map]; omega
    rw [intV_snoc] at N
    exact ih (i + 1) _ _ (zs ++ [(y, yt)]) oC oi mc _ (by omega) (by rw [List.length_append, hz]; rfl) hC hI F N
theorem c0_iter (B : Below A₀ base outer h₀) (X₀ : (KK w.params).In h₀) (T : Top p loose mean mg mb h₀) (hA : A.frames = some (lwE L fa cd :: outer)) (hh : A.handled = none) (hdp : A.depth < 360) (hun : A.units < 60)
    (F : Fr h₀ L s.heap m) (N : News h₀ L s.heap [(L + 4, cT), (L + 3, cL), (L + 2, cR), (L + 1, cS), (108, tabObj #[])]) {Q : Value → Shared → Prop}
    (h : ∀ tA e it oi items k h', AllInts items → items.size = 5 → TuIt oi tA 0 → L + 4 < tA → tA < it → it < e → 108 < tA → Fr h₀ L h' m →
      News h₀ L h' ((e, enumO it ((0 : Nat) : Int) .none) :: (it, oi) :: [(tA, { cls := .type "tuple", data := .seq items }), (L + 4, cT), (L + 3, cL), (L + 2, cR), (L + 1, cS), (108, tabObj #[])]) → Q (.ref e) { s with heap := h', toks := k }) :
    wpAny (model PySem.Challenge.rw_rs0059_01.row.prog w) A (eval (cIter e0) (lwE L fa cd)) Q E s := by
  obtain ⟨hnd, dp, fr, gu, un⟩ := A
  cases hh
  cases hA
  replace hdp : dp < 360 := hdp
  replace hun : un < 60 := hun
  revert X₀
  k_fill
  intro X₀
  (conv in cIter e0 => whnf)
  (try k_fold)
  repeat' ((fail_if_success (with_reducible show wpAny _ _ (call (Value.type "enumerate") _) _ _ _)); first | (k_unfold; (try dsimp only)) | walk1 | (dsimp only; walk1))
  rename Fr h₀ _ _ _ => kF
  rename News h₀ _ _ _ => kN
  rename _ ∧ _ => kl
  refine enum_tup kF kN (.head _) rfl rfl fun e it oi h' hI hlt hL hie F N => ?_
  refine h _ e it oi _ _ h' ?_ rfl hI kl.1 (hlt _ (.head _)) hie kl.2.2.2.2 F N
  intro v hv
  simp only [List.mem_toArray, List.mem_cons, List.not_mem_nil, or_false] at hv
  rcases hv with rfl | rfl | rfl | rfl | rfl <;> exact ⟨_, _, rfl⟩
theorem ls_0 (B : Below A₀ base outer h₀) (X₀ : (KK w.params).In h₀) (T : Top p loose mean mg mb h₀) (hA : A.frames = some (lwE L fa cd :: outer)) (hh : A.handled = none) (hdp : A.depth < 360) (hun : A.units < 60)
    (F : Fr h₀ L s.heap m) (N : News h₀ L s.heap [(L + 4, cT), (L + 3, cL), (L + 2, cR), (L + 1, cS), (108, tabObj #[])]) (h108 : 108 < L) (hS : cS.data = .cell (some (.ref sA))) (hl : h₀.IsList sA vs.toArray) (hi : IntsAre vs xs) (hxl : vs.length ≤ 63)
    (h : ∀ hA zs k h', zs.length = 5 → L + 4 < hA → Fr h₀ L h' (fun y => if y = Str.ofString "heaps" then some (.ref hA) else m y) → News h₀ L h' [(hA, lst (intV zs)), (L + 4, cT), (L + 3, cL), (L + 2, cR), (L + 1, cS), (108, tabObj #[])] → Q .next { s with heap := h', toks := k }) :
    wpAny (model PySem.Challenge.rw_rs0059_01.row.prog w) A (exec (nthS 0 lwB) (lwE L fa cd)) Q E s := by
  obtain ⟨hnd, dp, fr, gu, un⟩ := A
  cases hh
  cases hA
  replace hdp : dp < 360 := hdp
  replace hun : un < 60 := hun
  have es : nthS 0 lwB = .Assign [.Name (Str.ofString "heaps") (tPos (nthS 0 lwB))] (.ListComp (cElt e0) [⟨cTgt e0, cIter e0, [], 0⟩] (cScope e0) (cPos e0)) (sPos (nthS 0 lwB)) := rfl
  rw [es]
  refine' comp_assign (cl := [(Str.ofString "script", L + 1)]) ?a ?b ?c ?d ?_ ?e
  case a => with_unfolding_all rfl
  case b => with_unfolding_all rfl
  case c => rfl
  case d => decide
  case e => intro _; rfl
  refine c0_iter B X₀ T rfl rfl hdp hun F N fun tA e it oi items k h' hall hsz hI hLt hti hie h8 F N => ?_
  refine enum_self _ _ _ (N.get (.head _)) ?_
  refine comp_in F N (.head _) (fun _ _ _ a b => enum_self _ _ _ a b) (by decide) rfl fun C oC D h' k hC hlt hDC hLD F N => ?_
  have N1 : News h₀ L h' ((C, oC) :: (D, lst (intV [])) :: (e, enumO it ((0 : Nat) : Int) .none) :: (it, oi) :: (tA, { cls := .type "tuple", data := .seq items }) :: (L + 1, cS) :: [(L + 4, cT), (L + 3, cL), (L + 2, cR), (108, tabObj #[])]) :=
    nC (nH N) (nC (nH (nT N)) (nC (nH (nT (nT N))) (nC (nH (nT (nT (nT N)))) (nC (nH (nT (nT (nT (nT N))))) (n_dabc (nT (nT (nT (nT (nT N)))))))))) 
  have heD : e < D := hlt _ (.head _)
  have hrest : ∀ p ∈ [(L + 4, cT), (L + 3, cL), (L + 2, cR), (108, tabObj #[])], p.1 < tA ∧ p.1 ≠ L + 1 := by
    intro p hp
    simp only [List.mem_cons, List.not_mem_nil, or_false] at hp
    rcases hp with rfl | rfl | rfl | rfl
    · exact ⟨hLt, Nat.ne_of_gt (Nat.add_lt_add_left (by decide) L)⟩
    · exact ⟨Nat.lt_trans (Nat.add_lt_add_left (by decide) L) hLt, Nat.ne_of_gt (Nat.add_lt_add_left (by decide) L)⟩
    · exact ⟨Nat.lt_trans (Nat.add_lt_add_left (by decide) L) hLt, Nat.ne_of_gt (Nat.add_lt_add_left (by decide) L)⟩
    · exact ⟨h8, Nat.ne_of_lt (Nat.lt_succ_of_lt h108)⟩
  refine c0_loop (cS := cS) B X₀ T rfl rfl hdp hun hall hsz hDC heD hie hti (Nat.lt_trans (Nat.add_lt_add_left (by decide) L) hLt) (fun p hp => (hrest p hp).1) (fun p hp => (hrest p hp).2) hS hl hi hxl
    (fun k h' zs oC mc hz hC F N => ?_) 5 0 _ _ [] oC oi _ _ rfl rfl hC hI F N1
  show wpAny _ _ (assign (.Name (Str.ofString "heaps") (tPos (nthS 0 lwB))) (lwE L fa cd) (.ref D)) _ _ _
  refine wpAny_assign_Name (storeX_L F N fun h' F N => ?_)
  refine comp_gone F N hC ?_ fun h' F N => ?_
  · intro p hp
    rcases List.mem_cons.mp hp with rfl | hp
    · exact Nat.ne_of_lt hDC
    have htC : tA < C := Nat.lt_trans hti (Nat.lt_trans hie (Nat.lt_trans heD hDC))
    rcases List.mem_cons.mp hp with rfl | hp
    · exact Nat.ne_of_lt htC
    rcases List.mem_cons.mp hp with rfl | hp
    · exact Nat.ne_of_lt (Nat.lt_trans (Nat.lt_trans (Nat.add_lt_add_left (by decide) L) hLt) htC)
    · exact Nat.ne_of_lt (Nat.lt_trans (hrest p hp).1 htC)
  · refine h D zs _ h' hz (Nat.lt_trans hLt (Nat.lt_trans hti (Nat.lt_trans hie heD))) F ?_
    have N2 := nT (nT N)
    exact nC (nH N) (nC (nH (nT N2)) (nC (nH (nT (nT N2))) (nC (nH (nT (nT (nT N2)))) (nC (nH N2) (nT (nT (nT (nT N2))))))))
end
end Mine
end
section
open PySem PySem.W PySem.Calls PyProof.Rows PyProof.Rows.LCg
set_option maxRecDepth 100000
set_option maxHeartbeats 0
set_option linter.unusedVariables false
namespace Mine
local macro_rules | `(tactic| k_room) => `(tactic| ((try simp only [depth_under_make, depth_under_kw, depth_in1, depth_deeper, depth_caller]); (try dsimp only); simp only [recursionLimit]; omega))
local macro_rules | `(tactic| k_all) => `(tactic| first | assumption | exact ne_of_lo (by assumption) | (refine ne_of_all (by assumption) ?_; (try dsimp only); omega))
/-- law's names that are no cells -/
def mL (hp tn mx sg tp wd kk si : Option Value) : Str → Option Value := fun y =>
  if y = Str.ofString "heaps" then hp else if y = Str.ofString "turns" then tn else if y = Str.ofString "mix" then mx else if y = Str.ofString "signs" then sg
  else if y = Str.ofString "tape" then tp else if y = Str.ofString "words" then wd else if y = Str.ofString "k" then kk else if y = Str.ofString "sign" then si else none
section
variable (hp tn mx sg tp wd kk si : Option Value) (v : Value) (y : Str)
theorem mL_hp : (if y = Str.ofString "heaps" then some v else mL hp tn mx sg tp wd kk si y) = mL (some v) tn mx sg tp wd kk si y := by
  unfold mL; by_cases h : y = Str.ofString "heaps" <;> simp [h]
theorem mL_tn : (if y = Str.ofString "turns" then some v else mL hp tn mx sg tp wd kk si y) = mL hp (some v) mx sg tp wd kk si y := by
  unfold mL
  by_cases h : y = Str.ofString "turns"
  · subst h; rw [if_pos rfl, if_neg (by decide +kernel), if_pos rfl]
  · simp [h]
theorem mL_mx : (if y = Str.ofString "mix" then some v else mL hp tn mx sg tp wd kk si y) = mL hp tn (some v) sg tp wd kk si y := by
  unfold mL
  by_cases h : y = Str.ofString "mix"
  · subst h; rw [if_pos rfl, if_neg (by decide +kernel), if_neg (by decide +kernel), if_pos rfl]
  · simp [h]
theorem mL_sg : (if y = Str.ofString "signs" then some v else mL hp tn mx sg tp wd kk si y) = mL hp tn mx (some v) tp wd kk si y := by
  unfold mL
  by_cases h : y = Str.ofString "signs"
  · subst h; rw [if_pos rfl, if_neg (by decide +kernel), if_neg (by decide +kernel), if_neg (by decide +kernel), if_pos rfl]
  · simp [h]
theorem mL_tp : (if y = Str.ofString "tape" then some v else mL hp tn mx sg tp wd kk si y) = mL hp tn mx sg (some v) wd kk si y := by
  unfold mL
  by_cases h : y = Str.ofString "tape"
  · subst h; rw [if_pos rfl, if_neg (by decide +kernel), if_neg (by decide +kernel), if_neg (by decide +kernel), if_neg (by decide +kernel), if_pos rfl]
  · simp [h]
theorem mL_wd : (if y = Str.ofString "words" then some v else mL hp tn mx sg tp wd kk si y) = mL hp tn mx sg tp (some v) kk si y := by
  unfold mL
  by_cases h : y = Str.ofString "words"
  · subst h; rw [if_pos rfl, if_neg (by decide +kernel), if_neg (by decide +kernel), if_neg (by decide +kernel), if_neg (by decide +kernel), if_neg (by decide +kernel), if_pos rfl]
  · simp [h]
theorem mL_kk : (if y = Str.ofString "k" then some v else mL hp tn mx sg tp wd kk si y) = mL hp tn mx sg tp wd (some v) si y := by
  unfold mL
  by_cases h : y = Str.ofString "k"
  · subst h; rw [if_pos rfl, if_neg (by decide +kernel), if_neg (by decide +kernel), if_neg (by decide +kernel), if_neg (by decide +kernel), if_neg (by decide +kernel), if_neg (by decide +kernel), if_pos rfl]
  · simp [h]
theorem mL_si : (if y = Str.ofString "sign" then some v else mL hp tn mx sg tp wd kk si y) = mL hp tn mx sg tp wd kk (some v) y := by
  unfold mL
  by_cases h : y = Str.ofString "sign"
  · subst h; rw [if_pos rfl, if_neg (by decide +kernel), if_neg (by decide +kernel), if_neg (by decide +kernel), if_neg (by decide +kernel), if_neg (by decide +kernel), if_neg (by decide +kernel), if_neg (by decide +kernel), if_pos rfl]
  · simp [h]
end
def e1 : Expr := cExp (nthS 1 lwB)
section
variable {w : World} {A A₀ : Around} {s : Shared} {base h₀ : Heap} {outer : List Env} {L fa hA : Addr} {cd : Value} {m mg mb : Str → Option Value} {news : List (Addr × Obj)} {p : Program} {loose : List Str} {mean : ExcName → Option Value}
  {Q : Flow → Shared → Prop} {E : Value → Shared → Prop} {cS cR cL cT : Obj} {zs : List (Int × Tok)}
theorem c1_iter (B : Below A₀ base outer h₀) (X₀ : (KK w.params).In h₀) (T : Top p loose mean mg mb h₀) (hA' : A.frames = some (lwE L fa cd :: outer)) (hh : A.handled = none) (hdp : A.depth < 360) (hun : A.units < 60) (hz : zs.length = 5)
    (F : Fr h₀ L s.heap (mL (some (.ref hA)) none none none none none none none)) (N : News h₀ L s.heap ((hA, lst (intV zs)) :: news)) {Q : Value → Shared → Prop}
    (h : ∀ l ws ns k h', IntsAre ws ns → 1 ≤ ns.length → ns.length ≤ 3 → hA < l → (∀ p ∈ news, p.1 < l) → Fr h₀ L h' (mL (some (.ref hA)) none none none none none none none) → News h₀ L h' ((l, listOf ws.toArray 0) :: (hA, lst (intV zs)) :: news) → Q (.ref l) { s with heap := h', toks := k }) :
    wpAny (model PySem.Challenge.rw_rs0059_01.row.prog w) A (eval (cIter e1) (lwE L fa cd)) Q E s := by
  obtain ⟨hnd, dp, fr, gu, un⟩ := A
  cases hh
  cases hA'
  replace hdp : dp < 360 := hdp
  replace hun : un < 60 := hun
  match zs, hz with
  | [(a, ta), (b, tb), (c, tc), (d, td), (e, te)], _ =>
  revert X₀
  k_fill
  intro X₀
  (conv in cIter e1 => whnf)
  (try k_fold)
  simp only [intV, List.map_cons, List.map_nil] at N
  repeat' (first | (k_unfold; (try dsimp only)) | walk1 | (dsimp only; walk1))
  rename Fr h₀ _ _ _ => kF
  rename News h₀ _ _ _ => kN
  rename IntsAre _ _ => kI
  rename _ ∧ AllLt _ _ => kl
  dsimp only at kN ⊢
  have q : 0 ≤ ([a, b, c, d, e].getD 3 0).fmod 3 ∧ ([a, b, c, d, e].getD 3 0).fmod 3 < 3 := by
    rw [Int.fmod_eq_emod_of_nonneg _ (by decide)]; omega
  refine h _ _ _ _ _ kI ?_ ?_ kl.1 ?_ kF kN
  · rw [List.length_take]; show 1 ≤ min _ 5; omega
  · rw [List.length_take]; show min _ 5 ≤ 3; omega
  · exact tb_ltOf kl.2
theorem c1_elt (B : Below A₀ base outer h₀) (X₀ : (KK w.params).In h₀) (T : Top p loose mean mg mb h₀) (hA' : A.frames = some (lwE L fa cd :: outer)) (hh : A.handled = none) (hdp : A.depth < 360) (hun : A.units < 60)
    {C : Addr} {oC : Obj} {mc : Str → Option Value} {x : Int} {xt : Tok} {Q : Value → Shared → Prop}
    (F : Fr h₀ L s.heap m) (N : News h₀ L s.heap ((C, oC) :: news)) (hC : NsObj oC mc) (hx : mc (Str.ofString "x") = some (.int x xt))
    (h : ∀ (c : Nat) t k h', c < 256 → Fr h₀ L h' m → News h₀ L h' ((C, oC) :: news) → Q (.str ⟨#[c]⟩ t) { s with heap := h', toks := k }) :
    wpAny (model PySem.Challenge.rw_rs0059_01.row.prog w) A (eval (cElt e1) (compEnvC (cScope e1) [] C (lwE L fa cd))) Q E s := by
  obtain ⟨hnd, dp, fr, gu, un⟩ := A
  cases hh
  cases hA'
  replace hdp : dp < 360 := hdp
  replace hun : un < 60 := hun
  revert X₀
  k_fill
  intro X₀
  (conv in cElt e1 => whnf)
  (conv in (occs := *) cScope e1 => all_goals whnf)
  (try k_fold)
  have q : 0 ≤ x.fmod 256 ∧ x.fmod 256 < 256 := by
    rw [Int.fmod_eq_emod_of_nonneg _ (by decide)]; omega
  repeat' (first | (k_unfold; (try dsimp only)) | walk1 | (dsimp only; walk1))
  dsimp only
  exact h _ _ _ _ (by omega) F N
theorem c1_loop (B : Below A₀ base outer h₀) (X₀ : (KK w.params).In h₀) (T : Top p loose mean mg mb h₀) (hA' : A.frames = some (lwE L fa cd :: outer)) (hh : A.handled = none) (hdp : A.depth < 360) (hun : A.units < 60)
    {C D it l : Addr} {ws : List Value} {ns : List Int} (hI : IntsAre ws ns) (hn3 : ns.length ≤ 3) {R : Result → Shared → Prop}
    (hDC : D < C) (hiD : it < D) (hli : l < it) (hn : ∀ p ∈ news, p.1 < l)
    (hR : ∀ k h' rs oC mc, rs.length = ns.length → (∀ r ∈ rs, r.1 < 256) → NsObj oC mc → Fr h₀ L h' m → News h₀ L h' ((C, oC) :: (D, lst (rowV rs)) :: (l, listOf ws.toArray 0) :: news) → R (.ok .next) { s with heap := h', toks := k }) :
    ∀ (r i k : Nat) (hp : Heap) (rs : List (Nat × Tok)) (oC oi : Obj) (mc : Str → Option Value), i + r = ns.length → rs.length = i → (∀ r ∈ rs, r.1 < 256) → NsObj oC mc → ItAt oi l i → Fr h₀ L hp m →
      News h₀ L hp ((C, oC) :: (D, lst (rowV rs)) :: (it, oi) :: (l, listOf ws.toArray 0) :: news) →
      CompAt PySem.Challenge.rw_rs0059_01.row.prog w A (cElt e1) (cTgt e1) (cIter e1) (cScope e1) (cPos e1) (.ref it) (.ref D) (compEnvC (cScope e1) [] C (lwE L fa cd)) R { s with heap := hp, toks := k } := by
  have hwl : ws.length = ns.length := hI.length
  have hlo : ∀ p ∈ (l, listOf ws.toArray 0) :: news, p.1 < it := fun p hp => by
    rcases List.mem_cons.mp hp with rfl | hp
    · exact hli
    · exact Nat.lt_trans (hn p hp) hli
  have hne : ∀ (oC : Obj) (ys : List Value), ∀ p ∈ (C, oC) :: (D, lst ys) :: (l, listOf ws.toArray 0) :: news, p.1 ≠ it := fun oC ys p hp => by
    rcases List.mem_cons.mp hp with rfl | hp
    · exact Nat.ne_of_gt (Nat.lt_trans hiD hDC)
    rcases List.mem_cons.mp hp with rfl | hp
    · exact Nat.ne_of_gt hiD
    · exact Nat.ne_of_lt (hlo p hp)
  intro r
  induction r with
  | zero =>
    intro i k hp rs oC oi mc hir hz hrs hC hO F N
    refine CompAt.turn (next_none (items := ws.toArray) hh F (n_cab N) hO (hne _ _) ⟨_, N.get (.tail _ (.tail _ (.tail _ (.head _)))), rfl, _, rfl⟩ ?_ fun h' F N => ?_)
    · rw [List.getElem?_toArray]; exact List.getElem?_eq_none (by omega)
    · exact hR _ _ rs oC mc (by omega) hrs hC F N
  | succ r ih =>
    intro i k hp rs oC oi mc hir hz hrs hC hO F N
    obtain ⟨x, xt, hx⟩ : ∃ x xt, ws.toArray[i]? = some (.int x xt) := by
      have hi : i < ws.toArray.size := by rw [List.size_toArray]; omega
      obtain ⟨x, xt, e⟩ := hI.allInts ws.toArray[i] (Array.getElem_mem hi)
      exact ⟨x, xt, by rw [Array.getElem?_eq_getElem hi, e]⟩
    refine CompAt.turn (next_item (items := ws.toArray) F (n_cab N) hO (hne _ _) ⟨_, N.get (.tail _ (.tail _ (.tail _ (.head _)))), rfl, _, rfl⟩ (Nat.ne_of_lt hli) hx fun oi h' hO F N _ => ?_)
    dsimp only
    refine go_name ?_
    refine name_comp (mc := mc) F (nC (nH (nT N)) (nC (nH N) (nT (nT N)))) hC ?_ rfl rfl fun h' k oC' hC' F N => ?_
    · intro p hp
      rcases List.mem_cons.mp hp with rfl | hp
      · exact Nat.ne_of_lt (Nat.lt_trans hiD hDC)
      rcases List.mem_cons.mp hp with rfl | hp
      · exact Nat.ne_of_lt hDC
      · exact Nat.ne_of_lt (Nat.lt_trans (hlo p hp) (Nat.lt_trans hiD hDC))
    obtain ⟨mc', hmc⟩ : ∃ mc' : Str → Option Value, mc' = (fun z => if z = Str.ofString "x" then some (.int x xt) else mc z) := ⟨_, rfl⟩
    rw [← hmc] at hC'
    dsimp only
    refine c1_elt (x := x) (xt := xt) B X₀ T hA' hh hdp hun F N hC' (by rw [hmc]; dsimp only; rw [if_pos rfl]) fun c t k h' hc F N => ?_
    refine comp_app F (nC (nH N) (nC (nH (nT (nT N))) (nC (nH (nT N)) (nT (nT (nT N)))))) (Nat.ne_of_gt hDC) ?_ ?_ fun h' F N => ?_
    · intro p hp
      rcases List.mem_cons.mp hp with rfl | hp
      · exact Nat.ne_of_lt hiD
      · exact Nat.ne_of_lt (Nat.lt_trans (hlo p hp) hiD)
    · show (rs.map _).length ≤ 200
      rw [List.length_map]; omega
    refine ih (i + 1) _ _ (rs ++ [(c, t)]) oC' oi mc' (by omega) (by rw [List.length_append, hz]; rfl) ?_ hC' hO F ?_
    · intro q hq
      rcases List.mem_append.mp hq with hq | hq
      · exact hrs q hq
      · rw [List.mem_singleton.mp hq]; exact hc
    · rw [show rowV (rs ++ [(c, t)]) = rowV rs ++ [.str ⟨#[c]⟩ t] by simp [rowV]]
      exact N
theorem ls_1 (B : Below A₀ base outer h₀) (X₀ : (KK w.params).In h₀) (T : Top p loose mean mg mb h₀) (hA' : A.frames = some (lwE L fa cd :: outer)) (hh : A.handled = none) (hdp : A.depth < 360) (hun : A.units < 60) (hz : zs.length = 5) (h108 : 108 < L) (hLA : L + 4 < hA) (hR : cR.data = .cell none)
    (F : Fr h₀ L s.heap (mL (some (.ref hA)) none none none none none none none)) (N : News h₀ L s.heap [(hA, lst (intV zs)), (L + 4, cT), (L + 3, cL), (L + 2, cR), (L + 1, cS), (108, tabObj #[])])
    (h : ∀ rA rs cR k h', 1 ≤ rs.length → rs.length ≤ 3 → (∀ r ∈ rs, r.1 < 256) → hA < rA → cR.data = .cell (some (.ref rA)) → Fr h₀ L h' (mL (some (.ref hA)) none none none none none none none) →
      News h₀ L h' [(rA, lst (rowV rs)), (hA, lst (intV zs)), (L + 4, cT), (L + 3, cL), (L + 2, cR), (L + 1, cS), (108, tabObj #[])] → Q .next { s with heap := h', toks := k }) :
    wpAny (model PySem.Challenge.rw_rs0059_01.row.prog w) A (exec (nthS 1 lwB) (lwE L fa cd)) Q E s := by
  obtain ⟨hnd, dp, fr, gu, un⟩ := A
  cases hh
  cases hA'
  replace hdp : dp < 360 := hdp
  replace hun : un < 60 := hun
  have es : nthS 1 lwB = .Assign [.Name (Str.ofString "row") (tPos (nthS 1 lwB))] (.ListComp (cElt e1) [⟨cTgt e1, cIter e1, [], 0⟩] (cScope e1) (cPos e1)) (sPos (nthS 1 lwB)) := rfl
  rw [es]
  refine wpAny_Assign_Name (comp_eval (cl := []) (by with_unfolding_all rfl) rfl (by decide) ?_ (by intro _; rfl)) (by with_unfolding_all rfl)
  refine c1_iter B X₀ T rfl rfl hdp hun hz F N fun l ws ns k h' hI hn1 hn3 hAl hlr F N => ?_
  refine iter_list F N ⟨_, N.get (.head _), rfl, _, rfl⟩ fun it o h' hO hlt hLi F N _ => ?_
  refine comp_in F N (.head _) (fun _ _ _ a b => wpAny_pyIter_listiter ⟨_, a, hO.1, hO.2⟩ b) (by decide) rfl fun C oC D h' k hC hlt' hDC hLD F N => ?_
  have hrest : ∀ p ∈ (hA, lst (intV zs)) :: [(L + 4, cT), (L + 3, cL), (L + 2, cR), (L + 1, cS), (108, tabObj #[])], p.1 < l := fun p hp => by
    rcases List.mem_cons.mp hp with rfl | hp
    · exact hAl
    · exact hlr p hp
  have hli : l < it := hlt _ (.head _)
  have hiD : it < D := hlt' _ (.head _)
  refine c1_loop B X₀ T rfl rfl hdp hun hI hn3 hDC hiD hli hrest (fun k h' rs oC mc hrl hrs hC F N => ?_) ns.length 0 _ _ [] oC o _ (Nat.zero_add _) rfl (fun _ q => nomatch q) hC hO F N
  have hlC : l < C := Nat.lt_trans hli (Nat.lt_trans hiD hDC)
  refine comp_gone (P := fun s' => wpAny (model PySem.Challenge.rw_rs0059_01.row.prog w) _ (storeName (lwE L fa cd) (Str.ofString "row") (.ref D)) (fun _ => Q .next) E s') F N hC ?_ fun h' F N => ?_
  · intro p hp
    rcases List.mem_cons.mp hp with rfl | hp
    · exact Nat.ne_of_lt hDC
    rcases List.mem_cons.mp hp with rfl | hp
    · exact Nat.ne_of_lt hlC
    · exact Nat.ne_of_lt (Nat.lt_trans (hrest p hp) hlC)
  have N2 := nT (nT N)
  have N3 : News h₀ L _ ((L + 2, cR) :: (D, lst (rowV rs)) :: [(hA, lst (intV zs)), (L + 4, cT), (L + 3, cL), (L + 1, cS), (108, tabObj #[])]) :=
    nC (nH (nT (nT (nT N2)))) (nC (nH N) (nC (nH N2) (nC (nH (nT N2)) (nC (nH (nT (nT N2))) (nT (nT (nT (nT N2))))))))
  have h2C : L + 2 < l := hlr _ (.tail _ (.tail _ (.head _)))
  dsimp only
  refine wpAny_storeName_cell rfl rfl rfl ⟨cR, N3.get (.head _), hR⟩ fun h' hv hs => ?_
  obtain ⟨o', ho', hd'⟩ := hv
  have F' : Fr h₀ L h' _ := F.change hs (N3 _ (.head _)).2.1 (N3.fresh (.head _))
  have N' : News h₀ L h' ((L + 2, o') :: (D, lst (rowV rs)) :: [(hA, lst (intV zs)), (L + 4, cT), (L + 3, cL), (L + 1, cS), (108, tabObj #[])]) := by
    refine News.setHead N3 ?_ hs ho'
    intro p hp
    simp only [List.mem_cons, List.not_mem_nil, or_false] at hp
    rcases hp with rfl | rfl | rfl | rfl | rfl | rfl
    · exact Nat.ne_of_gt (Nat.lt_trans h2C (Nat.lt_trans hli hiD))
    · exact Nat.ne_of_gt (Nat.lt_trans (Nat.add_lt_add_left (by decide) L) hLA)
    · exact Nat.ne_of_gt (Nat.add_lt_add_left (by decide) L)
    · exact Nat.ne_of_gt (Nat.add_lt_add_left (by decide) L)
    · exact Nat.ne_of_lt (Nat.add_lt_add_left (by decide) L)
    · exact Nat.ne_of_lt (Nat.lt_of_lt_of_le h108 (Nat.le_add_right _ _))
  refine h D rs o' _ h' (by omega) (by omega) hrs (Nat.lt_trans hAl (Nat.lt_trans hli hiD)) hd' F' ?_
  have N4 := nT (nT N')
  exact nC (nH (nT N')) (nC (nH N4) (nC (nH (nT N4)) (nC (nH (nT (nT N4))) (nC (nH N') (nT (nT (nT N4)))))))
end
end Mine
end
section
open PySem PySem.W PySem.Calls PyProof.Rows PyProof.Rows.LCg
set_option maxRecDepth 100000
set_option maxHeartbeats 0
set_option linter.unusedVariables false
namespace Mine
local macro_rules | `(tactic| k_room) => `(tactic| ((try simp only [depth_under_make, depth_under_kw, depth_in1, depth_deeper, depth_caller]); (try dsimp only); simp only [recursionLimit]; omega))
local macro_rules | `(tactic| k_all) => `(tactic| first | assumption | exact ne_of_lo (by assumption) | (refine ne_of_all (by assumption) ?_; (try dsimp only); omega))
section
variable {w : World} {A A₀ : Around} {s : Shared} {base h₀ : Heap} {outer : List Env} {L fa hA rA : Addr} {cd : Value} {m mg mb : Str → Option Value} {news : List (Addr × Obj)} {p : Program} {loose : List Str} {mean : ExcName → Option Value}
  {Q : Flow → Shared → Prop} {E : Value → Shared → Prop} {cS cR cL cT : Obj} {zs : List (Int × Tok)} {rs : List (Nat × Tok)}
theorem ls_2 (B : Below A₀ base outer h₀) (X₀ : (KK w.params).In h₀) (T : Top p loose mean mg mb h₀) (hA' : A.frames = some (lwE L fa cd :: outer)) (hh : A.handled = none) (hdp : A.depth < 360) (hun : A.units < 60) (hz : zs.length = 5)
    (F : Fr h₀ L s.heap (mL (some (.ref hA)) none none none none none none none)) (N : News h₀ L s.heap ((hA, lst (intV zs)) :: news))
    (h : ∀ (tn : Nat) tt (mx : Int) mt k h', tn < 14 → Fr h₀ L h' (mL (some (.ref hA)) (some (.int (tn : Nat) tt)) (some (.int mx mt)) none none none none none) → News h₀ L h' news → Q .next { s with heap := h', toks := k }) :
    wpAny (model PySem.Challenge.rw_rs0059_01.row.prog w) A (exec (nthS 2 lwB) (lwE L fa cd)) Q E s := by
  obtain ⟨hnd, dp, fr, gu, un⟩ := A
  cases hh
  cases hA'
  replace hdp : dp < 360 := hdp
  replace hun : un < 60 := hun
  match zs, hz with
  | [(a, ta), (b, tb), (c, tc), (d, td), (e, te)], _ =>
  revert X₀
  k_fill
  intro X₀
  (conv in nthS 2 lwB => whnf)
  (try k_fold)
  simp only [intV, List.map_cons, List.map_nil] at N
  repeat' (first | (k_unfold; (try dsimp only)) | walk1 | (dsimp only; walk1))
  rename Fr h₀ _ _ _ => kF
  rename News h₀ _ _ _ => kN
  dsimp only at kN ⊢
  simp only [mL_mx, mL_tn] at kF
  have q : 0 ≤ (([a, b, c, d, e].getD (Int.toNat 3) 0).fdiv 3).fmod 14 ∧ (([a, b, c, d, e].getD (Int.toNat 3) 0).fdiv 3).fmod 14 < 14 := by
    rw [Int.fmod_eq_emod_of_nonneg _ (by decide)]; omega
  generalize (([a, b, c, d, e].getD (Int.toNat 3) 0).fdiv 3).fmod 14 = tz at kF q
  obtain ⟨tn, rfl⟩ : ∃ n : Nat, tz = n := ⟨tz.toNat, by omega⟩
  exact h tn _ _ _ _ _ (by omega) kF (nT (nT kN))
def cE3 : Expr := cExp (nthS 3 lwB)
/-- a queued sign: its tuple's address, its place, its code -/
structure Sg where
  a : Addr
  k : Nat
  kt : Tok
  c : Nat
  ct : Tok
def sgO (l : List Sg) : List (Addr × Obj) := l.map fun q => (q.a, pairO (.int (q.k : Nat) q.kt) (.str ⟨#[q.c]⟩ q.ct))
def sgV (l : List Sg) : List Value := l.map fun q => .ref q.a
theorem c3_iter (B : Below A₀ base outer h₀) (X₀ : (KK w.params).In h₀) (T : Top p loose mean mg mb h₀) (hA' : A.frames = some (lwE L fa cd :: outer)) (hh : A.handled = none) (hdp : A.depth < 360) (hun : A.units < 60)
    (F : Fr h₀ L s.heap m) (N : News h₀ L s.heap ((rA, lst (rowV rs)) :: (L + 2, cR) :: news)) (hR : cR.data = .cell (some (.ref rA))) {Q : Value → Shared → Prop}
    (h : ∀ e it oi k h', LiIt oi rA 0 → (∀ p ∈ (rA, lst (rowV rs)) :: (L + 2, cR) :: news, p.1 < it) → it < e → Fr h₀ L h' m →
      News h₀ L h' ((e, enumO it ((0 : Nat) : Int) .none) :: (it, oi) :: (rA, lst (rowV rs)) :: (L + 2, cR) :: news) → Q (.ref e) { s with heap := h', toks := k }) :
    wpAny (model PySem.Challenge.rw_rs0059_01.row.prog w) A (eval (cIter cE3) (lwE L fa cd)) Q E s := by
  obtain ⟨hnd, dp, fr, gu, un⟩ := A
  cases hh
  cases hA'
  replace hdp : dp < 360 := hdp
  replace hun : un < 60 := hun
  revert X₀
  k_fill
  intro X₀
  (conv in cIter cE3 => whnf)
  (try k_fold)
  repeat' ((fail_if_success (with_reducible show wpAny _ _ (call (Value.type "enumerate") _) _ _ _)); first | (k_unfold; (try dsimp only)) | walk1 | (dsimp only; walk1))
  rename Fr h₀ _ _ _ => kF
  rename News h₀ _ _ _ => kN
  exact enum_list kF kN (.head _) rfl rfl fun e it oi h' hI hlt hL hie F N => h e it oi _ h' hI hlt hie F N
theorem c3_elt (B : Below A₀ base outer h₀) (X₀ : (KK w.params).In h₀) (T : Top p loose mean mg mb h₀) (hA' : A.frames = some (lwE L fa cd :: outer)) (hh : A.handled = none) (hdp : A.depth < 360) (hun : A.units < 60)
    {C : Addr} {oC : Obj} {mc : Str → Option Value} {i c : Nat} {it ct : Tok} {Q : Value → Shared → Prop}
    (F : Fr h₀ L s.heap m) (N : News h₀ L s.heap ((C, oC) :: news)) (hC : NsObj oC mc) (hk : mc (Str.ofString "k") = some (.int (i : Nat) it)) (hx : mc (Str.ofString "sign") = some (.str ⟨#[c]⟩ ct))
    (h : ∀ Tp k h', C < Tp → AllLt Tp news → Fr h₀ L h' m → News h₀ L h' ((Tp, pairO (.int (i : Nat) it) (.str ⟨#[c]⟩ ct)) :: (C, oC) :: news) → Q (.ref Tp) { s with heap := h', toks := k }) :
    wpAny (model PySem.Challenge.rw_rs0059_01.row.prog w) A (eval (cElt cE3) (compEnvC (cScope cE3) [] C (lwE L fa cd))) Q E s := by
  obtain ⟨hnd, dp, fr, gu, un⟩ := A
  cases hh
  cases hA'
  replace hdp : dp < 360 := hdp
  replace hun : un < 60 := hun
  revert X₀
  k_fill
  intro X₀
  (conv in cElt cE3 => whnf)
  (conv in (occs := *) cScope cE3 => all_goals whnf)
  (try k_fold)
  repeat' (first | (k_unfold; (try dsimp only)) | walk1 | (dsimp only; walk1))
  rename Fr h₀ _ _ _ => kF
  rename News h₀ _ _ _ => kN
  rename _ ∧ _ => kl
  exact h _ _ _ kl.1 kl.2 kF kN
end
end Mine
end
section
open PySem PySem.W PySem.Calls PyProof.Rows PyProof.Rows.LCg
set_option maxRecDepth 100000
set_option maxHeartbeats 0
set_option linter.unusedVariables false
namespace Mine
theorem sgO_mem {l : List Sg} {p : Addr × Obj} (h : p ∈ sgO l) : ∃ q ∈ l, p.1 = q.a := by
  obtain ⟨q, hq, rfl⟩ := List.mem_map.mp h
  exact ⟨q, hq, rfl⟩
theorem sgO_snoc (l : List Sg) (q : Sg) : sgO (l ++ [q]) = sgO l ++ [(q.a, pairO (.int (q.k : Nat) q.kt) (.str ⟨#[q.c]⟩ q.ct))] := by simp [sgO]
theorem sgV_snoc (l : List Sg) (q : Sg) : sgV (l ++ [q]) = sgV l ++ [.ref q.a] := by simp [sgV]
theorem nSnoc {h₀ h : Heap} {L : Addr} {p : Addr × Obj} {a b : List (Addr × Obj)} (x : New1 h₀ L h p) (N : News h₀ L h (a ++ b)) : News h₀ L h ((a ++ [p]) ++ b) := fun q hq => by
  rcases List.mem_append.mp hq with hq | hq
  · rcases List.mem_append.mp hq with hq | hq
    · exact N q (List.mem_append_left _ hq)
    · rw [List.mem_singleton.mp hq]; exact x
  · exact N q (List.mem_append_right _ hq)
section
variable {w : World} {A A₀ : Around} {s : Shared} {base h₀ : Heap} {outer : List Env} {L fa hA rA : Addr} {cd : Value} {m mg mb : Str → Option Value} {news : List (Addr × Obj)} {p : Program} {loose : List Str} {mean : ExcName → Option Value}
  {Q : Flow → Shared → Prop} {E : Value → Shared → Prop} {cS cR cL cT : Obj} {rs : List (Nat × Tok)}
theorem c3_loop (B : Below A₀ base outer h₀) (X₀ : (KK w.params).In h₀) (T : Top p loose mean mg mb h₀) (hA' : A.frames = some (lwE L fa cd :: outer)) (hh : A.handled = none) (hdp : A.depth < 360) (hun : A.units < 60)
    {C D e it : Addr} (hr3 : rs.length ≤ 3) {R : Result → Shared → Prop}
    (hDC : D < C) (heD : e < D) (hie : it < e) (hn : ∀ p ∈ (rA, lst (rowV rs)) :: news, p.1 < it)
    (hR : ∀ k h' sl oC mc, sl.map (fun q => (q.k, q.c)) = (List.range rs.length).zip (rs.map (·.1)) → (∀ q ∈ sl, C < q.a) → NsObj oC mc → Fr h₀ L h' m → News h₀ L h' ((C, oC) :: (D, lst (sgV sl)) :: (sgO sl ++ (rA, lst (rowV rs)) :: news)) → R (.ok .next) { s with heap := h', toks := k }) :
    ∀ (r i k : Nat) (hp : Heap) (sl : List Sg) (oC oi : Obj) (mc : Str → Option Value) (old : Value), i + r = rs.length → sl.map (fun q => (q.k, q.c)) = (List.range i).zip ((rs.take i).map (·.1)) → (∀ q ∈ sl, C < q.a) → NsObj oC mc → LiIt oi rA i → Fr h₀ L hp m →
      News h₀ L hp ((C, oC) :: (D, lst (sgV sl)) :: (e, enumO it (i : Nat) old) :: (it, oi) :: (sgO sl ++ (rA, lst (rowV rs)) :: news)) →
      CompAt PySem.Challenge.rw_rs0059_01.row.prog w A (cElt cE3) (cTgt cE3) (cIter cE3) (cScope cE3) (cPos cE3) (.ref e) (.ref D) (compEnvC (cScope cE3) [] C (lwE L fa cd)) R { s with heap := hp, toks := k } := by
  have hieN : it ≠ e := Nat.ne_of_lt hie
  have hne : ∀ (oC : Obj) (ys : List Value) (sl : List Sg), (∀ q ∈ sl, C < q.a) → ∀ p ∈ (C, oC) :: (D, lst ys) :: (sgO sl ++ (rA, lst (rowV rs)) :: news), p.1 ≠ e ∧ p.1 ≠ it := fun oC ys sl hsl p hp => by
    rcases List.mem_cons.mp hp with rfl | hp
    · exact ⟨Nat.ne_of_gt (Nat.lt_trans heD hDC), Nat.ne_of_gt (Nat.lt_trans hie (Nat.lt_trans heD hDC))⟩
    rcases List.mem_cons.mp hp with rfl | hp
    · exact ⟨Nat.ne_of_gt heD, Nat.ne_of_gt (Nat.lt_trans hie heD)⟩
    rcases List.mem_append.mp hp with hp | hp
    · obtain ⟨q, hq, e⟩ := sgO_mem hp
      rw [e]
      have := hsl q hq
      exact ⟨Nat.ne_of_gt (Nat.lt_trans (Nat.lt_trans heD hDC) this), Nat.ne_of_gt (Nat.lt_trans (Nat.lt_trans hie (Nat.lt_trans heD hDC)) this)⟩
    · exact ⟨Nat.ne_of_lt (Nat.lt_trans (hn p hp) hie), Nat.ne_of_lt (hn p hp)⟩
  intro r
  induction r with
  | zero =>
    intro i k hp sl oC oi mc old hir hsl hsa hC hI F N
    have hi : i = (rowV rs).toArray.size := by rw [List.size_toArray]; show i = (rs.map _).length; rw [List.length_map]; omega
    have hi' : i = rs.length := by omega
    subst hi
    refine CompAt.turn (list_stop (l := rA) hh F (n_cdab N) hI (.tail _ (.tail _ (List.mem_append_right _ (.head _)))) rfl rfl (fun p hp => (hne _ _ sl hsa p hp).2) fun h' F N => ?_)
    refine hR _ _ sl oC mc ?_ hsa hC F N
    rw [hi', List.take_length] at hsl
    exact hsl
  | succ r ih =>
    intro i k hp sl oC oi mc old hir hsl hsa hC hI F N
    have hi : i < rs.length := by omega
    have hx : (rowV rs).toArray[i]? = some (.str ⟨#[rs[i].1]⟩ rs[i].2) := by
      rw [List.getElem?_toArray]; show (rs.map _)[i]? = _
      rw [List.getElem?_map, List.getElem?_eq_getElem hi]; rfl
    refine CompAt.turn (list_turn (l := rA) hh F (n_cdab N) hI (.tail _ (.tail _ (List.mem_append_right _ (.head _)))) rfl rfl hx hieN (hne _ _ sl hsa) fun t k Tp h' oi' hI' heT hrT hLT F N => ?_)
    dsimp only
    refine enum_go F N (Nat.ne_of_gt heT) ?_ fun h' F N => ?_
    · intro p hp
      rcases List.mem_cons.mp hp with rfl | hp
      · exact hieN
      · exact (hne _ _ sl hsa p hp).1
    have hCT : C ≠ Tp := Nat.ne_of_lt (hrT _ (.head _))
    have hoff : ∀ (p : Addr × Obj), p ∈ (sgO sl ++ (rA, lst (rowV rs)) :: news) → p.1 ≠ C ∧ p.1 ≠ D := fun p hp => by
      rcases List.mem_append.mp hp with hp | hp
      · obtain ⟨q, hq, e⟩ := sgO_mem hp
        rw [e]
        exact ⟨Nat.ne_of_gt (hsa q hq), Nat.ne_of_gt (Nat.lt_trans hDC (hsa q hq))⟩
      · exact ⟨Nat.ne_of_lt (Nat.lt_trans (hn p hp) (Nat.lt_trans hie (Nat.lt_trans heD hDC))), Nat.ne_of_lt (Nat.lt_trans (hn p hp) (Nat.lt_trans hie heD))⟩
    refine pair_comp (mc := mc) hh F (n_dabc N) (.head _) hC ?_ rfl rfl rfl fun h' k oC' hC' F N => ?_
    · intro p hp
      rcases List.mem_cons.mp hp with rfl | hp
      · exact Ne.symm hCT
      rcases List.mem_cons.mp hp with rfl | hp
      · exact Nat.ne_of_lt (Nat.lt_trans heD hDC)
      rcases List.mem_cons.mp hp with rfl | hp
      · exact Nat.ne_of_lt (Nat.lt_trans hie (Nat.lt_trans heD hDC))
      rcases List.mem_cons.mp hp with rfl | hp
      · exact Nat.ne_of_lt hDC
      · exact (hoff p hp).1
    obtain ⟨mc', hmc⟩ : ∃ mc' : Str → Option Value, mc' = (fun z => if z = Str.ofString "sign" then some (.str ⟨#[rs[i].1]⟩ rs[i].2) else if z = Str.ofString "k" then some (.int (i : Nat) t) else mc z) := ⟨_, rfl⟩
    rw [← hmc] at hC'
    dsimp only
    refine c3_elt (i := i) (it := t) (c := rs[i].1) (ct := rs[i].2) B X₀ T hA' hh hdp hun F N hC' ?_ ?_ fun Tq k h' hCq hall F N => ?_
    · rw [hmc]; dsimp only; rw [if_neg (by decide +kernel), if_pos rfl]
    · rw [hmc]; dsimp only; rw [if_pos rfl]
    have N1 : News h₀ L h' ((C, oC') :: (D, lst (sgV sl)) :: (Tq, pairO (.int (i : Nat) t) (.str ⟨#[rs[i].1]⟩ rs[i].2)) :: (e, enumO it ((i + 1 : Nat) : Int) (.str ⟨#[rs[i].1]⟩ rs[i].2)) :: (it, oi') :: (sgO sl ++ (rA, lst (rowV rs)) :: news)) := by
      have N2 := nT (nT (nT N))
      exact nC (nH (nT N)) (nC (nH (nT (nT N2))) (nC (nH N) (nC (nH N2) (nC (nH (nT N2)) (nT (nT (nT N2)))))))
    refine comp_app F N1 (Nat.ne_of_gt hDC) ?_ ?_ fun h' F N => ?_
    · intro p hp
      rcases List.mem_cons.mp hp with rfl | hp
      · exact Nat.ne_of_gt (Nat.lt_trans hDC hCq)
      rcases List.mem_cons.mp hp with rfl | hp
      · exact Nat.ne_of_lt heD
      rcases List.mem_cons.mp hp with rfl | hp
      · exact Nat.ne_of_lt (Nat.lt_trans hie heD)
      · exact (hoff p hp).2
    · have := congrArg List.length hsl
      rw [List.length_map, List.length_zip, List.length_range, List.length_map, List.length_take] at this
      show (sl.map _).length ≤ 200
      rw [List.length_map]; omega
    refine ih (i + 1) _ _ (sl ++ [⟨Tq, i, t, rs[i].1, rs[i].2⟩]) oC' oi' mc' (.str ⟨#[rs[i].1]⟩ rs[i].2) (by omega) ?_ ?_ hC' hI' F ?_
    · rw [List.map_append, hsl, List.range_succ, List.take_add_one, List.getElem?_eq_getElem hi, List.map_append, List.zip_append (by rw [List.length_range, List.length_map, List.length_take]; omega)]
      rfl
    · intro q hq
      rcases List.mem_append.mp hq with hq | hq
      · exact hsa q hq
      · rw [List.mem_singleton.mp hq]; exact hCq
    · rw [sgV_snoc, sgO_snoc]
      have N2 := nT (nT N)
      exact nC (nH N) (nC (nH (nT N)) (nC (nH (nT N2)) (nC (nH (nT (nT N2))) (nSnoc (nH N2) (nT (nT (nT N2)))))))
theorem ls_3 (B : Below A₀ base outer h₀) (X₀ : (KK w.params).In h₀) (T : Top p loose mean mg mb h₀) (hA' : A.frames = some (lwE L fa cd :: outer)) (hh : A.handled = none) (hdp : A.depth < 360) (hun : A.units < 60)
    {hp tn mx : Option Value} (hr3 : rs.length ≤ 3) (hR : cR.data = .cell (some (.ref rA)))
    (F : Fr h₀ L s.heap (mL hp tn mx none none none none none)) (N : News h₀ L s.heap ((rA, lst (rowV rs)) :: (L + 2, cR) :: news))
    (h : ∀ sgA sl k h', sl.map (fun q => (q.k, q.c)) = (List.range rs.length).zip (rs.map (·.1)) → (∀ q ∈ sl, sgA < q.a) → (∀ p ∈ (rA, lst (rowV rs)) :: (L + 2, cR) :: news, p.1 < sgA) → Fr h₀ L h' (mL hp tn mx (some (.ref sgA)) none none none none) →
      News h₀ L h' ((sgA, lst (sgV sl)) :: (sgO sl ++ (rA, lst (rowV rs)) :: (L + 2, cR) :: news)) → Q .next { s with heap := h', toks := k }) :
    wpAny (model PySem.Challenge.rw_rs0059_01.row.prog w) A (exec (nthS 3 lwB) (lwE L fa cd)) Q E s := by
  have es : nthS 3 lwB = .Assign [.Name (Str.ofString "signs") (tPos (nthS 3 lwB))] (.ListComp (cElt cE3) [⟨cTgt cE3, cIter cE3, [], 0⟩] (cScope cE3) (cPos cE3)) (sPos (nthS 3 lwB)) := rfl
  rw [es]
  refine' comp_assign (cl := []) ?a ?b ?c ?d ?_ ?e
  case a => with_unfolding_all rfl
  case b => with_unfolding_all rfl
  case c => rfl
  case d => decide
  case e => intro _; rfl
  refine c3_iter B X₀ T hA' hh hdp hun F N hR fun e it oi k h' hI hlt hie F N => ?_
  refine enum_self _ _ _ (N.get (.head _)) ?_
  refine comp_in F N (.head _) (fun _ _ _ a b => enum_self _ _ _ a b) (by decide) rfl fun C oC D h' k hC hlt' hDC hLD F N => ?_
  have heD : e < D := hlt' _ (.head _)
  refine c3_loop B X₀ T hA' hh hdp hun hr3 hDC heD hie hlt (fun k h' sl oC mc hsl hsa hC F N => ?_) rs.length 0 _ _ [] oC oi _ _ (Nat.zero_add _) rfl (fun _ q => nomatch q) hC hI F N
  show wpAny _ _ (assign (.Name (Str.ofString "signs") (tPos (nthS 3 lwB))) (lwE L fa cd) (.ref D)) _ _ _
  refine wpAny_assign_Name (storeX_L F N fun h' F N => ?_)
  have hDlo : ∀ p ∈ (rA, lst (rowV rs)) :: (L + 2, cR) :: news, p.1 < D := fun p hp => Nat.lt_trans (hlt p hp) (Nat.lt_trans hie heD)
  refine comp_gone F N hC ?_ fun h' F N => ?_
  · intro p hp
    rcases List.mem_cons.mp hp with rfl | hp
    · exact Nat.ne_of_lt hDC
    rcases List.mem_append.mp hp with hp | hp
    · obtain ⟨q, hq, e⟩ := sgO_mem hp
      rw [e]; exact Nat.ne_of_gt (hsa q hq)
    · exact Nat.ne_of_lt (Nat.lt_trans (hDlo p hp) hDC)
  · simp only [mL_sg] at F
    exact h D sl _ h' hsl (fun q hq => Nat.lt_trans hDC (hsa q hq)) hDlo F N
end
end Mine
end
section
open PySem PySem.W PySem.Calls PyProof.Rows PyProof.Rows.LCg
set_option maxRecDepth 100000
set_option maxHeartbeats 0
set_option linter.unusedVariables false
namespace Mine
local macro_rules | `(tactic| k_room) => `(tactic| ((try simp only [depth_under_make, depth_under_kw, depth_in1, depth_deeper, depth_caller]); (try dsimp only); simp only [recursionLimit]; omega))
local macro_rules | `(tactic| k_all) => `(tactic| first | assumption | exact ne_of_lo (by assumption) | (refine ne_of_all (by assumption) ?_; (try dsimp only); omega))
section
variable {w : World} {A A₀ : Around} {s : Shared} {base h₀ : Heap} {outer : List Env} {L fa hA rA sgA : Addr} {cd : Value} {m mg mb : Str → Option Value} {news : List (Addr × Obj)} {p : Program} {loose : List Str} {mean : ExcName → Option Value}
  {Q : Flow → Shared → Prop} {E : Value → Shared → Prop} {cS cR cL cT : Obj} {rs : List (Nat × Tok)}
theorem ls_4 (B : Below A₀ base outer h₀) (X₀ : (KK w.params).In h₀) (T : Top p loose mean mg mb h₀) (hA' : A.frames = some (lwE L fa cd :: outer)) (hh : A.handled = none) (hdp : A.depth < 360) (hun : A.units < 60)
    {hp tn mx sg : Option Value} (hL : cL.data = .cell none) (C : CodeHd base 112 108) (hlo : ∀ p ∈ (L + 3, cL) :: news, 108 < p.1) (h3 : ∀ p ∈ news, p.1 ≠ L + 3)
    (F : Fr h₀ L s.heap (mL hp tn mx sg none none none none)) (N : News h₀ L s.heap ((108, tabObj #[]) :: (L + 3, cL) :: news))
    (h : ∀ (a : RdA) ps plt lnt cL k h', a.Ok → L + 3 < a.cP → (∀ p ∈ news, p.1 < a.cP) → 108 < a.cP → cL.data = .cell (some (.ref a.lexA)) → Fr h₀ L h' (mL hp tn mx sg (some (.ref a.tapeA)) none none none) →
      News h₀ L h' (a.objs w.params #[] 0 0 plt 0 1 lnt ++ (108, tabObj ps) :: (L + 3, cL) :: news) → Q .next { s with heap := h', toks := k }) :
    wpAny (model PySem.Challenge.rw_rs0059_01.row.prog w) A (exec (nthS 4 lwB) (lwE L fa cd)) Q E s := by
  obtain ⟨hnd, dp, fr, gu, un⟩ := A
  cases hh
  cases hA'
  replace hdp : dp < 360 := hdp
  replace hun : un < 60 := hun
  revert X₀
  k_fill
  intro X₀
  (conv in nthS 4 lwB => whnf)
  (try k_fold)
  repeat' ((fail_if_success (with_reducible show wpAny _ _ (call (Value.ref _) _) _ _ _)); first | (k_unfold; (try dsimp only)) | walk1 | (dsimp only; walk1))
  refine wpAny_call (tape_K B F X₀ N C hlo T rfl rfl rfl rfl (Nat.lt_trans hdp (by decide)) (Nat.lt_trans hun (by decide)) fun a D ps plt lnt k h' hO hP h8 hD F N => ?_)
  dsimp only
  refine assign_Tuple_tuple rfl ⟨_, N.get (.head _), rfl, _, rfl⟩ rfl rfl fun h₁ he => ?_
  have he' : ∀ b o, h'.get? b = some o → h₁.get? b = some o := fun b o e => he b o (Nat.ne_of_lt (Heap.lt_size e)) e
  have F₁ : Fr h₀ L h₁ _ := F.keeps he'
  have N₁ : News h₀ L h₁ (a.objs w.params #[] 0 0 plt 0 1 lnt ++ (108, tabObj ps) :: (L + 3, cL) :: news) := nT (News.grown N he')
  refine assignInOrder_cons (wpAny_assign_Name (storeX_L F₁ N₁ fun h₂ F₂ N₂ => ?_))
  have m3 : (L + 3, cL) ∈ a.objs w.params #[] 0 0 plt 0 1 lnt ++ (108, tabObj ps) :: (L + 3, cL) :: news := List.mem_append_right _ (.tail _ (.head _))
  refine assignInOrder_cons (wpAny_assign_Name (wpAny_storeName_cell rfl rfl rfl ⟨cL, N₂.get m3, hL⟩ fun h₃ hv hs => ?_))
  refine assignInOrder_nil ?_
  obtain ⟨o', ho', hd'⟩ := hv
  have F₃ : Fr h₀ L h₃ _ := F₂.change hs (N₂ _ m3).2.1 (N₂.fresh m3)
  simp only [mL_tp] at F₃
  have hA3 : ∀ p ∈ a.objs w.params #[] 0 0 plt 0 1 lnt ++ [(108, tabObj ps)], p.1 ≠ L + 3 := by
    obtain ⟨-, -, -, -, o1, o2, o3, o4, o5, o6, o7, o8, o9, o10⟩ := hO
    have hc : L + 3 < a.cP := hP _ (.head _)
    have h8' : 108 < L + 3 := hlo _ (.head _)
    intro p hp
    simp only [RdA.objs, List.cons_append, List.nil_append, List.mem_cons, List.not_mem_nil, or_false] at hp
    rcases hp with rfl | rfl | rfl | rfl | rfl | rfl | rfl | rfl | rfl | rfl | rfl | rfl <;> dsimp only <;> first | exact Nat.ne_of_lt h8' | exact Nat.ne_of_gt hc | exact Nat.ne_of_gt (Nat.lt_trans hc (by omega))
  have N₃ := News.setAt (own := a.objs w.params #[] 0 0 plt 0 1 lnt ++ [(108, tabObj ps)]) (rest := news) (o' := o') (by rw [List.append_assoc]; exact N₂) hA3 h3 hs ho'
  rw [List.append_assoc] at N₃
  exact h a ps plt lnt o' _ h₃ hO (hP _ (.head _)) (fun p hp => hP p (.tail _ hp)) h8 hd' F₃ N₃
end
end Mine
end
section
open PySem PySem.W PySem.Calls PyProof.Rows
set_option maxRecDepth 100000
set_option maxHeartbeats 0
set_option linter.unusedVariables false
namespace Mine
section
variable {prog : Program} {w : World} {A : Around} {R : Result → Shared → Prop} {I : Addr} {fp wr : List Addr} {G : Array GenState → Array GenState → Prop} {n : Nat} {P : Nat → Value → Prop} {St : Nat → Shared → Prop}
theorem extend_loop (W : WalksS prog w A.in1 I fp wr G n P St) (pre : List Value) (hn : pre.length + n ≤ sizeLine) (S : Addr) (hSf : S ∉ fp) (res : Value) :
    ∀ (k i : Nat) (s : Shared) (ys : List Value) (c : Nat), n - i = k → i ≤ n → St i s → s.heap.get? S = some { cls := .type "list", dict := none, data := .seq (pre ++ ys).toArray c, slots := #[] } → ys.length = i → (∀ j v, ys[j]? = some v → P j v) →
    (∀ s' ys' c', Moved (S :: wr) G s s' → s'.heap.get? S = some { cls := .type "list", dict := none, data := .seq (pre ++ ys').toArray c', slots := #[] } → ys'.length = n → (∀ j v, ys'[j]? = some v → P j v) → R (.ok (.ret res)) s') →
    codeAny (model prog w) A (.builtin "list.extend.loop" ⟨[.ref S, .ref I, res], []⟩) R s := by
  have hSw : S ∉ wr := fun h => hSf (W.sub _ h)
  have hsub : ∀ b ∈ wr, b ∈ S :: wr := fun b hb => List.mem_cons_of_mem _ hb
  intro k
  induction k with
  | zero =>
    intro i s ys c hk hi hst hS hl hacc hR
    have hin : i = n := by omega
    subst hin
    refine codeAny_builtin F.entry_extend_loop ?_
    rw [Around.under_plainId F.plain_extend_loop _]
    show wpAny _ A.in1 (pyNext (.ref I) >>= _) _ _ s
    refine wpAny_bind (W.done s _ _ hst fun s' hm => ?_)
    exact wpAny_pure (hR s' ys c (hm.mono hsub) (hm.heap S _ hSw hS) hl hacc)
  | succ k ih =>
    intro i s ys c hk hi hst hS hl hacc hR
    have hlt : i < n := by omega
    refine codeAny_builtin F.entry_extend_loop ?_
    rw [Around.under_plainId F.plain_extend_loop _]
    show wpAny _ A.in1 (pyNext (.ref I) >>= _) _ _ s
    refine wpAny_bind (W.item i s _ _ hlt hst fun v s' hP hst' hm => ?_)
    have hS' := hm.heap S _ hSw hS
    show wpAny _ A.in1 (updateSeq S (·.push v) >>= _) _ _ _
    refine wpAny_bind ?_
    have e : (pre ++ ys).toArray.push v = (pre ++ (ys ++ [v])).toArray := by rw [List.push_toArray, List.append_assoc]
    have hS2 := Heap.get?_update_self (Obj.mapSeq (·.push v)) hS' rfl
    rw [show Obj.mapSeq (·.push v) { cls := .type "list", dict := none, data := .seq (pre ++ ys).toArray c, slots := #[] } = { cls := .type "list", dict := none, data := .seq ((pre ++ ys).toArray.push v) _, slots := #[] } from rfl, e] at hS2
    refine wpAny_updateSeq hS' rfl (wpAny_pure ⟨plainId_quiet F.plain_extend_loop _, ih (i + 1) _ (ys ++ [v]) _ (by omega) hlt (W.frame _ s' _ s'.toks hst' (Nat.le_refl _) fun b hb o e => ?_) hS2 (by rw [List.length_append, hl]; rfl) ?_ fun s'' ys' c' hm'' hS'' hl' hacc' => ?_⟩)
      (by rw [List.size_toArray, List.length_append]; omega) (by show ((pre ++ ys).toArray.push v).size ≤ sizeLine + 1; rw [Array.size_push, List.size_toArray, List.length_append]; omega)
    · exact (Heap.get?_update_other _ _ (fun h : S = b => hSf (by rw [h]; exact hb))).trans e
    · intro j u hj
      rw [List.getElem?_append] at hj
      split at hj
      · exact hacc j u hj
      · have hj0 : j - ys.length = 0 := by
          have := (List.getElem?_eq_some_iff.mp hj).1
          rw [List.length_singleton] at this; omega
        rw [hj0] at hj
        obtain rfl : v = u := Option.some.inj hj
        have : j = i := by omega
        rw [this]; exact hP
    · refine hR s'' ys' c' (Moved.trans W.gtrans ((hm.mono hsub).then_heap (by first | exact Nat.le_refl _ | exact Nat.le_succ _ | omega) fun b o hb e => ?_) hm'') hS'' hl' hacc'
      exact (Heap.get?_update_other _ _ (fun h : S = b => hb (by rw [h]; exact List.mem_cons_self))).trans e
end
section
variable {prog : Program} {w : World} {A : Around} {E : Value → Shared → Prop} {s : Shared} {h₀ : Heap} {L : Addr} {m : Str → Option Value} {news : List (Addr × Obj)}
theorem extend_str {D : Addr} {pre : List Value} {x : Str} {t : Tok} {c : Nat} {Q : Value → Shared → Prop} (hh : A.handled = none) (F : Fr h₀ L s.heap m) (N : News h₀ L s.heap ((D, listOf pre.toArray c) :: news)) (hn : ∀ p ∈ news, p.1 ≠ D) (hsz : pre.length + x.cps.size ≤ sizeLine)
    (h : ∀ ys c' k h', ys.length = x.cps.size → (∀ j v, ys[j]? = some v → SignAt x j v) → Fr h₀ L h' m → News h₀ L h' ((D, listOf (pre ++ ys).toArray c') :: news) → Q .none { s with heap := h', toks := k }) :
    wpAny (model prog w) A (call (.builtin "list.extend") [.ref D, .str x t]) Q E s := by
  have hS : s.heap.get? D = some (listOf (pre ++ []).toArray c) := by rw [List.append_nil]; exact N.get (.head _)
  have hSI : D ≠ s.heap.objs.size := Nat.ne_of_lt (Heap.lt_size hS)
  have hSf : D ∉ [s.heap.objs.size] := fun hm => hSI (List.mem_singleton.mp hm)
  refine wpAny_call (codeAny_call_builtin PySem.F.slot_list_extend.plain PySem.F.entry_list_extend (PySem.F.slot_list_extend.check _ _ _ _ _ _ _ _ ⟨_, hS, rfl⟩ (PySem.F.args_list_extend_2 _ _) ?_))
  show wpAny _ _ (Builtin.List.listExtendWith (.ref D) (.str x t) .none) _ _ _
  unfold Builtin.List.listExtendWith
  refine wpAny_bind (wpAny_typeOf (T := "str") (v := .str x t) rfl ?_)
  have h1 : Builtin.List.listSameRef (.ref D) (.str x t) = false := rfl
  have h2 : (Value.type "str" == Value.type "list") = false := by decide
  have h3 : (Value.type "str" == Value.type "tuple") = false := by decide
  simp only [h1, h2, h3, Bool.or_false, Bool.false_eq_true, if_false]
  refine wpAny_bind (wpAny_pyIter_str fun o St W hst => ?_)
  refine wpAny_bind (wpAny_holding ?_)
  unfold Builtin.List.listLengthHint
  refine wpAny_bind (wpAny_specialOf (T := "str") (v := .str x t) rfl PySem.F.str_len ?_)
  wp_delta
  refine wpAny_bind (wpAny_isInstance (T := "str") (v := .str x t) (b := true) rfl (by rw [isSubtype_type]; kernel_rfl) ?_)
  show wpAny _ _ (typeOf (Value.str x t) >>= _) _ _ _
  refine wpAny_bind (wpAny_typeOf (T := "str") (v := .str x t) rfl ?_)
  refine wpAny_pure ?_
  rw [if_neg (by decide)]
  have hD₀ : h₀.get? D = none := N.fresh (.head _)
  have hDL : D ≠ L := (N _ (.head _)).2.1
  refine wpAny_pure ⟨plainId_quiet PySem.F.plain_extend_loop _, extend_loop (W A.in1 hh).toS pre hsz _ hSf _ x.cps.size 0 _ [] c rfl (Nat.zero_le _) hst (Heap.get?_push_of_some _ hS) rfl (fun j v q => by cases q) fun s' ys c' hm hS' hl hacc => ?_⟩
  rw [Moved.eq_with hm]
  have up : ∀ b ob, b ≠ D → s.heap.get? b = some ob → s'.heap.get? b = some ob := fun b ob hb e => hm.heap b ob (fun hmem => by
    rcases List.mem_cons.mp hmem with e' | hmem
    · exact hb e'
    · exact absurd (Heap.lt_size e) (by rw [List.mem_singleton.mp hmem]; exact Nat.lt_irrefl _)) (Heap.get?_push_of_some _ e)
  refine h ys c' s'.toks s'.heap hl hacc ⟨F.ns.at' fun o q => up L o (Ne.symm hDL) q, fun b o q => up b o (fun z => by rw [z, hD₀] at q; cases q) (F.keep b o q), F.above⟩ fun p hp => ?_
  rcases List.mem_cons.mp hp with rfl | hp
  · exact ⟨hS', hDL, hD₀⟩
  · exact ⟨up _ _ (hn p hp) (N p (.tail _ hp)).1, (N p (.tail _ hp)).2⟩
end
end Mine
end
section
open PySem PySem.W PySem.Calls PyProof.Rows PyProof.Rows.LCg
set_option maxRecDepth 100000
set_option maxHeartbeats 0
set_option linter.unusedVariables false
namespace Mine
local macro_rules | `(tactic| k_room) => `(tactic| ((try simp only [depth_under_make, depth_under_kw, depth_in1, depth_deeper, depth_caller]); (try dsimp only); simp only [recursionLimit]; omega))
local macro_rules | `(tactic| k_all) => `(tactic| first | assumption | exact ne_of_lo (by assumption) | (refine ne_of_all (by assumption) ?_; (try dsimp only); omega))
def forBody (s : Stmt) : List Stmt := match s with | .For _ _ b _ _ => b | _ => []
def forTg (s : Stmt) : Expr := match s with | .For t _ _ _ _ => t | _ => default
def lwF : Stmt := nthS 6 lwB
def iwF : Stmt := nthS 0 (forBody lwF)
def iwB : List Stmt := forBody iwF
section
variable {w : World} {A A₀ : Around} {s : Shared} {base h₀ : Heap} {outer : List Env} {L fa hA rA sgA tpA : Addr} {cd : Value} {m mg mb : Str → Option Value} {news : List (Addr × Obj)} {p : Program} {loose : List Str} {mean : ExcName → Option Value}
  {Q : Flow → Shared → Prop} {E : Value → Shared → Prop} {cS cR cL cT : Obj} {rs : List (Nat × Tok)} {hp tn mx sg tp wd kk si : Option Value}
theorem ls_5 (B : Below A₀ base outer h₀) (X₀ : (KK w.params).In h₀) (T : Top p loose mean mg mb h₀) (hA' : A.frames = some (lwE L fa cd :: outer)) (hh : A.handled = none) (hdp : A.depth < 360) (hun : A.units < 60)
    (F : Fr h₀ L s.heap (mL hp tn mx sg tp none none none)) (N : News h₀ L s.heap news)
    (h : ∀ wdA k h', (∀ p ∈ news, p.1 < wdA) → Fr h₀ L h' (mL hp tn mx sg tp (some (.ref wdA)) none none) → News h₀ L h' ((wdA, listOf #[] 0) :: news) → Q .next { s with heap := h', toks := k }) :
    wpAny (model PySem.Challenge.rw_rs0059_01.row.prog w) A (exec (nthS 5 lwB) (lwE L fa cd)) Q E s := by
  obtain ⟨hnd, dp, fr, gu, un⟩ := A
  cases hh
  cases hA'
  replace hdp : dp < 360 := hdp
  replace hun : un < 60 := hun
  revert X₀
  k_fill
  intro X₀
  (conv in nthS 5 lwB => whnf)
  (try k_fold)
  repeat' (first | (k_unfold; (try dsimp only)) | walk1 | (dsimp only; walk1))
  rename Fr h₀ _ _ _ => kF
  rename News h₀ _ _ _ => kN
  simp only [mL_wd] at kF
  exact h _ _ _ (by assumption) kF kN
theorem wordL_len {c mn : Nat} (h : mn < 4) : (wordL c mn).length ≤ 7 := by
  unfold wordL
  match mn, h with
  | 0, _ => rw [if_pos rfl]; split <;> simp
  | 1, _ => rw [if_neg (by decide), if_pos rfl]; split <;> simp
  | 2, _ => simp
  | 3, _ => simp
theorem signs_are {x : List Nat} {ys : List Value} (hl : ys.length = (⟨x.toArray⟩ : Str).cps.size) (hy : ∀ j v, ys[j]? = some v → SignAt ⟨x.toArray⟩ j v) : StrsAre ys (x.map fun c => ⟨#[c]⟩) := by
  induction ys generalizing x with
  | nil => 
    match x, hl with
    | [], _ => exact .nil
  | cons y r ih =>
    match x, hl with
    | c :: cs, hl =>
      obtain ⟨c', u, hc, rfl⟩ := hy 0 y rfl
      obtain rfl : c = c' := Option.some.inj hc
      refine .cons _ _ (ih (x := cs) ?_ fun j v hj => ?_)
      · simp at hl ⊢; omega
      · obtain ⟨c'', u', hc', e⟩ := hy (j + 1) v hj
        refine ⟨c'', u', ?_, e⟩
        simpa using hc'
theorem fmod4 (x : Int) : 0 ≤ x.fmod 4 ∧ x.fmod 4 < 4 := by rw [Int.fmod_eq_emod_of_nonneg _ (by decide)]; omega
theorem pow4 {e : Int} (h0 : 0 ≤ e) (h6 : e < 6) : (4 : Int) ^ e.toNat ≠ 0 ∧ ((4 : Int) ^ e.toNat).natAbs < 1073741824 := by
  obtain ⟨n, rfl⟩ : ∃ n : Nat, e = n := ⟨e.toNat, by omega⟩
  have : n < 6 := by omega
  rw [Int.toNat_natCast]
  match n, this with
  | 0, _ => decide
  | 1, _ => decide
  | 2, _ => decide
  | 3, _ => decide
  | 4, _ => decide
  | 5, _ => decide
theorem word_R {env : Env} (B : Below A₀ base outer h₀) (F : Fr h₀ L s.heap m) (X₀ : (KK w.params).In h₀) (N : News h₀ L s.heap news) (T : Top p loose mean mg mb h₀) (hA : A.frames = some (env :: outer)) (hf : env.frame = some L) (hke : env.scope.kind = .function) (hroom : A.depth < recursionLimit)
    {c : Nat} {tk tk2 : Tok} {mn : Int} {Q : Value → Shared → Prop} (hc : c < 256) (h0 : 0 ≤ mn) (h4 : mn < 4)
    (h : ∀ x t k h', x = ⟨(wordL c mn.toNat).toArray⟩ → Fr h₀ L h' m → News h₀ L h' news → Q (.str x t) { s with heap := h', toks := k }) :
    wpAny (model PySem.Challenge.rw_rs0059_01.row.prog w) A (call (.ref 120) [.str ⟨#[c]⟩ tk, .int mn tk2]) Q E s :=
  wpAny_call (word_K B F X₀ N T hA hf hke hroom hc h0 h4 fun t k h' F N => h _ t k h' rfl F N)
end
local macro_rules | `(tactic| walk_at "binaryOp FloorDiv int int") => `(tactic| (k_here; (refine' floordiv_int (pow4 ?l ?h).1 ?_ (Or.inl (PyProof.noPylong_small (pow4 ?l ?h).2)); (case l => assumption); (case h => assumption))))
local macro_rules | `(tactic| walk_at "call ref") => `(tactic| (k_here; k_dflt (refine' word_R ?B ?F ?X ?N ?T ?A ?f ?k ?r ?c ?l ?h ?_; (case B => k_asm); (case F => k_asm); (case X => k_asm); (case N => k_asm); (case T => k_asm); (case A => exact rfl); (case f => exact rfl); (case k => exact rfl); (case r => (simp only [recursionLimit]; omega)); (case c => assumption); (case l => exact (fmod4 _).1); (case h => exact (fmod4 _).2)); intro x' t' k' h' e' F' N'))
section
variable {w : World} {A A₀ : Around} {s : Shared} {base h₀ : Heap} {outer : List Env} {L fa hA rA sgA tpA : Addr} {cd : Value} {m mg mb : Str → Option Value} {news : List (Addr × Obj)} {p : Program} {loose : List Str} {mean : ExcName → Option Value}
  {Q : Flow → Shared → Prop} {E : Value → Shared → Prop} {cS cR cL cT : Obj} {rs : List (Nat × Tok)} {hp tn mx sg tp wd kk si : Option Value}
theorem iw_body (B : Below A₀ base outer h₀) (X₀ : (KK w.params).In h₀) (T : Top p loose mean mg mb h₀) (hA' : A.frames = some (lwE L fa cd :: outer)) (hh : A.handled = none) (hdp : A.depth < 360) (hun : A.units < 60)
    {k c : Nat} {kt ct mt : Tok} {mxi : Int} {pre : List Value} {tpn : Nat} (hk : k < 100) (hc : c < 256)
    (F : Fr h₀ L s.heap (mL hp tn (some (.int mxi mt)) sg (some (.ref tpA)) wd (some (.int (k : Nat) kt)) (some (.str ⟨#[c]⟩ ct)))) (N : News h₀ L s.heap ((tpA, listOf pre.toArray tpn) :: news))
    (hn : ∀ p ∈ news, p.1 ≠ tpA) (hsz : pre.length ≤ 5000)
    (h : ∀ mn ys tpn' k' h', mn < 4 → StrsAre ys ((wordL c mn).map fun c => ⟨#[c]⟩) → Fr h₀ L h' (mL hp tn (some (.int mxi mt)) sg (some (.ref tpA)) wd (some (.int (k : Nat) kt)) (some (.str ⟨#[c]⟩ ct))) → News h₀ L h' ((tpA, listOf (pre ++ ys).toArray tpn') :: news) → Q .next { s with heap := h', toks := k' }) :
    wpAny (model PySem.Challenge.rw_rs0059_01.row.prog w) A (exec (nthS 0 iwB) (lwE L fa cd)) Q E s := by
  obtain ⟨hnd, dp, fr, gu, un⟩ := A
  cases hh
  cases hA'
  replace hdp : dp < 360 := hdp
  replace hun : un < 60 := hun
  revert X₀
  k_fill
  intro X₀
  (conv in nthS 0 iwB => whnf)
  (try k_fold)
  repeat' ((fail_if_success (with_reducible show wpAny _ _ (call (Value.builtin "list.extend") _) _ _ _)); first | (k_unfold; (try dsimp only)) | walk1 | (dsimp only; walk1))
  rename _ = Str.mk _ => ke
  rename Fr h₀ _ _ _ => kF
  rename News h₀ _ _ _ => kN
  subst ke
  have hf4 := fmod4 (mxi.fdiv (4 ^ ((k : Int).fmod 6).toNat) + k)
  generalize (mxi.fdiv (4 ^ ((k : Int).fmod 6).toNat) + k).fmod 4 = z at kF kN hf4 ⊢
  have hm : z.toNat < 4 := by omega
  have hwl := wordL_len (c := c) hm
  refine extend_str rfl kF kN hn (by show pre.length + (wordL c z.toNat).toArray.size ≤ sizeLine; rw [List.size_toArray, sizeLine_eq]; omega) fun ys c' k' h' hl hy F N => ?_
  exact h _ ys c' k' h' hm (signs_are hl hy) F N
end
end Mine
end
section
open PySem PySem.W PySem.Calls PyProof.Rows PyProof.Rows.LCg
set_option maxRecDepth 100000
set_option maxHeartbeats 0
set_option linter.unusedVariables false
namespace Mine
local macro_rules | `(tactic| k_room) => `(tactic| ((try simp only [depth_under_make, depth_under_kw, depth_in1, depth_deeper, depth_caller]); (try dsimp only); simp only [recursionLimit]; omega))
local macro_rules | `(tactic| k_all) => `(tactic| first | assumption | exact ne_of_lo (by assumption) | (refine ne_of_all (by assumption) ?_; (try dsimp only); omega))
/-- the tape's signs for a row of (sign, manner) -/
def wordsL (ms : List (Nat × Nat)) : List Nat := ms.flatMap fun x => wordL x.1 x.2
theorem wordsL_len : ∀ ms : List (Nat × Nat), (∀ x ∈ ms, x.2 < 4) → (wordsL ms).length ≤ 7 * ms.length
  | [], _ => by simp [wordsL]
  | x :: ms, h => by
    have h1 := wordL_len (c := x.1) (h x (.head _))
    have h2 := wordsL_len ms fun y hy => h y (.tail _ hy)
    show (wordL x.1 x.2 ++ wordsL ms).length ≤ _
    rw [List.length_append, List.length_cons]; omega
theorem strsAre_append {a b : List Value} {x y : List Str} (h : StrsAre a x) (k : StrsAre b y) : StrsAre (a ++ b) (x ++ y) := by
  induction h with
  | nil => exact k
  | cons s t h ih => exact .cons s t ih
section
variable {w : World} {A A₀ : Around} {s : Shared} {base h₀ : Heap} {outer : List Env} {L fa hA rA sgA tpA : Addr} {cd : Value} {m mg mb : Str → Option Value} {news : List (Addr × Obj)} {p : Program} {loose : List Str} {mean : ExcName → Option Value}
  {Q : Flow → Shared → Prop} {E : Value → Shared → Prop} {cS cR cL cT : Obj} {rs : List (Nat × Tok)} {hp tn mx sg tp wd kk si : Option Value}
theorem iw_loop (B : Below A₀ base outer h₀) (X₀ : (KK w.params).In h₀) (T : Top p loose mean mg mb h₀) (hA' : A.frames = some (lwE L fa cd :: outer)) (hh : A.handled = none) (hdp : A.depth < 360) (hun : A.units < 60)
    {pk ps tpos : Pos} {x1 : Nat} {it : Addr} {sl : List Sg} {mt : Tok} {mxi : Int} (hs : ∀ q ∈ sl, q.k < 100 ∧ q.c < 256 ∧ (q.a, pairO (.int (q.k : Nat) q.kt) (.str ⟨#[q.c]⟩ q.ct)) ∈ news) (hsg : (sgA, lst (sgV sl)) ∈ news)
    (hit : ∀ p ∈ news, p.1 ≠ it) (htp : ∀ p ∈ news, p.1 ≠ tpA) (hti : tpA ≠ it) :
    ∀ (r j k : Nat) (hp' : Heap) (pre : List Value) (tpn : Nat) (oi : Obj) (kk si : Option Value), j + r = sl.length → pre.length + 7 * r ≤ 5000 → ItAt oi sgA j → Fr h₀ L hp' (mL hp tn (some (.int mxi mt)) sg (some (.ref tpA)) wd kk si) →
      News h₀ L hp' ((it, oi) :: (tpA, listOf pre.toArray tpn) :: news) →
      (∀ ms ys tpn k h' kk si, ms.map (·.1) = (sl.drop j).map (·.c) → (∀ x ∈ ms, x.2 < 4) → StrsAre ys ((wordsL ms).map fun c => ⟨#[c]⟩) → Fr h₀ L h' (mL hp tn (some (.int mxi mt)) sg (some (.ref tpA)) wd kk si) → News h₀ L h' ((tpA, listOf (pre ++ ys).toArray tpn) :: news) → Q .next { s with heap := h', toks := k }) →
      ForAt PySem.Challenge.rw_rs0059_01.row.prog w A (.Tuple [.Name (Str.ofString "k") pk, .Name (Str.ofString "sign") ps] x1 tpos) (.ref it) iwB (lwE L fa cd) Q { s with heap := hp', toks := k } := by
  intro r
  induction r with
  | zero =>
    intro j k hp' pre tpn oi kk si hj hsz hO F N h
    refine ForAt.turn (next_none (items := (sgV sl).toArray) hh F N hO ?_ ⟨_, N.get (.tail _ (.tail _ hsg)), rfl, _, rfl⟩ ?_ fun h' F N => ?_)
    · intro p hp
      rcases List.mem_cons.mp hp with rfl | hp
      · exact hti
      · exact hit p hp
    · rw [List.getElem?_toArray]; show (sl.map _)[j]? = none
      exact List.getElem?_eq_none (by rw [List.length_map]; omega)
    · refine h [] [] tpn _ h' kk si ?_ (fun _ q => nomatch q) .nil F ?_
      · rw [List.drop_eq_nil_of_le (by omega)]; rfl
      · rw [List.append_nil]; exact N
  | succ r ih =>
    intro j k hp' pre tpn oi kk si hj hsz hO F N h
    obtain ⟨q, hq⟩ : ∃ q, sl[j]? = some q := ⟨_, List.getElem?_eq_getElem (by omega : j < sl.length)⟩
    have hqm : q ∈ sl := List.mem_of_getElem? hq
    obtain ⟨hk, hc, hm⟩ := hs q hqm
    have hx : (sgV sl).toArray[j]? = some (.ref q.a) := by
      rw [List.getElem?_toArray]; show (sl.map _)[j]? = _
      rw [List.getElem?_map, hq]; rfl
    refine ForAt.turn (next_item (items := (sgV sl).toArray) F N hO ?_ ⟨_, N.get (.tail _ (.tail _ hsg)), rfl, _, rfl⟩ (hit _ hsg) hx fun oi h' hO F N _ => ?_)
    · intro p hp
      rcases List.mem_cons.mp hp with rfl | hp
      · exact hti
      · exact hit p hp
    dsimp only
    refine list_go N (.head _) hO.1 hO.2 ?_
    refine assign_Tuple_tuple hh ⟨_, N.get (.tail _ (.tail _ hm)), rfl, _, rfl⟩ rfl rfl fun h₁ he => ?_
    have he' : ∀ b o, h'.get? b = some o → h₁.get? b = some o := fun b o e => he b o (Nat.ne_of_lt (Heap.lt_size e)) e
    refine assignInOrder_cons (wpAny_assign_Name (storeX_L (F.keeps he') (News.grown N he') fun h₂ F N => ?_))
    refine assignInOrder_cons (wpAny_assign_Name (storeX_L F N fun h₃ F N => ?_))
    refine assignInOrder_nil ?_
    simp only [mL_kk, mL_si] at F
    show wpAny _ _ (execs [nthS 0 iwB] _) _ _ _
    refine wpAny_execs_cons ?_
    refine iw_body B X₀ T hA' hh hdp hun hk hc F (nC (nH (nT N)) (nC (nH N) (nT (nT N)))) ?_ (by omega) fun mn ys tpn' k' h' hmn hys F N => ?_
    · intro p hp
      rcases List.mem_cons.mp hp with rfl | hp
      · exact Ne.symm hti
      · exact htp p hp
    dsimp only
    refine wpAny_execs_nil ?_
    have hyl : ys.length ≤ 7 := by
      have := hys.length
      rw [List.length_map] at this
      have := wordL_len (c := q.c) hmn
      omega
    refine ih (j + 1) _ _ (pre ++ ys) _ oi _ _ (by omega) (by rw [List.length_append]; omega) hO F (nC (nH (nT N)) (nC (nH N) (nT (nT N)))) fun ms ys' tpn k h' kk si hms hm4 hys' F N => ?_
    refine h ((q.c, mn) :: ms) (ys ++ ys') tpn k h' kk si ?_ ?_ ?_ F ?_
    · rw [List.map_cons, hms, List.drop_eq_getElem?_toList_append (i := j), hq]; rfl
    · intro x hx
      rcases List.mem_cons.mp hx with rfl | hx
      · exact hmn
      · exact hm4 x hx
    · show StrsAre _ ((wordL q.c mn ++ wordsL ms).map _)
      rw [List.map_append]
      exact strsAre_append hys hys'
    · rw [← List.append_assoc]; exact N
theorem iw_stmt (B : Below A₀ base outer h₀) (X₀ : (KK w.params).In h₀) (T : Top p loose mean mg mb h₀) (hA' : A.frames = some (lwE L fa cd :: outer)) (hh : A.handled = none) (hdp : A.depth < 360) (hun : A.units < 60)
    {sl : List Sg} {mt : Tok} {mxi : Int} {pre : List Value} {tpn : Nat} (hs : ∀ q ∈ sl, q.k < 100 ∧ q.c < 256 ∧ (q.a, pairO (.int (q.k : Nat) q.kt) (.str ⟨#[q.c]⟩ q.ct)) ∈ news) (hsg : (sgA, lst (sgV sl)) ∈ news)
    (htp : ∀ p ∈ news, p.1 ≠ tpA) (hsz : pre.length + 7 * sl.length ≤ 5000)
    (F : Fr h₀ L s.heap (mL hp tn (some (.int mxi mt)) (some (.ref sgA)) (some (.ref tpA)) wd kk si)) (N : News h₀ L s.heap ((tpA, listOf pre.toArray tpn) :: news))
    (h : ∀ ms ys tpn k h' kk si, ms.map (·.1) = sl.map (·.c) → (∀ x ∈ ms, x.2 < 4) → StrsAre ys ((wordsL ms).map fun c => ⟨#[c]⟩) → Fr h₀ L h' (mL hp tn (some (.int mxi mt)) (some (.ref sgA)) (some (.ref tpA)) wd kk si) → News h₀ L h' ((tpA, listOf (pre ++ ys).toArray tpn) :: news) → Q .next { s with heap := h', toks := k }) :
    wpAny (model PySem.Challenge.rw_rs0059_01.row.prog w) A (exec iwF (lwE L fa cd)) Q E s := by
  obtain ⟨pk, ps, x1, tpos, pi, fpos, es⟩ : ∃ pk ps x1 tpos pi fpos, iwF = .For (.Tuple [.Name (Str.ofString "k") pk, .Name (Str.ofString "sign") ps] x1 tpos) (.Name (Str.ofString "signs") pi) iwB [] fpos := ⟨_, _, _, _, _, _, rfl⟩
  rw [es]
  refine For_at ?_
  refine nameX_L F (v := .ref sgA) (by unfold mL; rw [if_neg (by decide +kernel), if_neg (by decide +kernel), if_neg (by decide +kernel), if_pos rfl]) ?_
  refine iter_list F N ⟨_, N.get (.tail _ hsg), rfl, _, rfl⟩ fun it o h' hO hlt hL F N _ => ?_
  refine iw_loop (sl := sl) B X₀ T hA' hh hdp hun hs hsg (fun p hp => Nat.ne_of_lt (hlt p (.tail _ hp))) htp (Nat.ne_of_lt (hlt _ (.head _))) sl.length 0 _ _ pre tpn o kk si (Nat.zero_add _) hsz hO F N ?_
  intro ms ys tpn k h' kk si hms h4 hys F N
  exact h ms ys tpn k h' kk si (by rw [hms, List.drop_zero]) h4 hys F N
end
end Mine
end
section
open PySem PySem.W PySem.Calls PyProof.Rows PyProof.Rows.LCg
set_option maxRecDepth 100000
set_option maxHeartbeats 0
set_option linter.unusedVariables false
namespace Mine
/-- the reader's objects but for the tape -/
def RdA.rest (a : RdA) (P : Params) (pl : Int) (plt : Tok) (pn : Nat) (ln : Int) (lnt : Tok) : List (Addr × Obj) :=
  [(a.lexD, lexDict P a.k1 a.k2 a.k3 a.k4 a.wt lnt ln a.stF a.pushA), (a.placeA, listOf #[.int pl plt] pn), (a.pushA, listOf #[] 0), (a.lexA, instObj 102 a.lexD), (a.stD, a.od),
   (a.stF, ⟨.type "function", some a.stD, .func a.fd, a.sl⟩), (a.rdF, readFn a.cT a.cP a.rdC a.doc a.pm a.ctv), (a.rdC, a.oc), (a.cT, a.oT), (a.cP, a.oP)]
section
variable {h₀ h : Heap} {L : Addr} {news : List (Addr × Obj)} {a : RdA} {P : Params} {tape : Array Value} {tn pn : Nat} {pl ln : Int} {plt lnt : Tok}
theorem objs_out (N : News h₀ L h (a.objs P tape tn pl plt pn ln lnt ++ news)) : News h₀ L h ((a.tapeA, listOf tape tn) :: (a.rest P pl plt pn ln lnt ++ news)) := by
  refine n_cab ?_ |> fun x => x
  exact N
theorem objs_in (N : News h₀ L h ((a.tapeA, listOf tape tn) :: (a.rest P pl plt pn ln lnt ++ news))) : News h₀ L h (a.objs P tape tn pl plt pn ln lnt ++ news) :=
  nC (nH (nT N)) (nC (nH (nT (nT N))) (nC (nH N) (nT (nT (nT N)))))
def Apart (a : RdA) (l : List (Addr × Obj)) : Prop := ∀ p ∈ l, p.1 < a.cP ∨ a.pushA < p.1
theorem apart_place (H : Apart a news) (O : a.Ok) : ∀ p ∈ news, p.1 ≠ a.placeA := fun p hp => by
  obtain ⟨-, -, -, -, o1, o2, o3, o4, o5, o6, o7, o8, o9, o10⟩ := O
  rcases H p hp with h | h
  · exact Nat.ne_of_lt (Nat.lt_trans h (by omega))
  · exact Nat.ne_of_gt (Nat.lt_trans (by omega) h)
theorem apart_lex (H : Apart a news) (O : a.Ok) : ∀ p ∈ news, p.1 ≠ a.lexD := fun p hp => by
  obtain ⟨-, -, -, -, o1, o2, o3, o4, o5, o6, o7, o8, o9, o10⟩ := O
  rcases H p hp with h | h
  · exact Nat.ne_of_lt (Nat.lt_trans h (by omega))
  · exact Nat.ne_of_gt (Nat.lt_trans (by omega) h)
theorem apart_tape (H : Apart a news) (O : a.Ok) : ∀ p ∈ a.rest P pl plt pn ln lnt ++ news, p.1 ≠ a.tapeA := fun p hp => by
  obtain ⟨-, -, -, -, o1, o2, o3, o4, o5, o6, o7, o8, o9, o10⟩ := O
  rcases List.mem_append.mp hp with hp | hp
  · simp only [RdA.rest, List.mem_cons, List.not_mem_nil, or_false] at hp
    rcases hp with rfl | rfl | rfl | rfl | rfl | rfl | rfl | rfl | rfl | rfl <;> dsimp only <;> first | (refine Nat.ne_of_gt ?_; omega) | (refine Nat.ne_of_lt ?_; omega)
  · rcases H p hp with h | h
    · exact Nat.ne_of_lt (Nat.lt_trans h (by omega))
    · exact Nat.ne_of_gt (Nat.lt_trans (by omega) h)
end
/-- the signs put on the tape by the end of turn t -/
def putF (row : List Nat) : Nat → List Nat
  | 0 => row
  | t + 1 => putF row t ++ quoteL ((putF row t).getD t 0)
theorem putF_len (row : List Nat) : ∀ t, (putF row t).length = row.length + 3 * t
  | 0 => rfl
  | t + 1 => by
    show (putF row t ++ quoteL _).length = _
    rw [List.length_append, putF_len row t, show ∀ c, (quoteL c).length = 3 from fun _ => rfl]; omega
theorem rem_of {tape : Array Value} {con rem : List Nat} (h : StrsAre tape.toList ((con ++ rem).map fun c => ⟨#[c]⟩)) (hz : tape.size < 90000) : Rem tape (con.length : Nat) rem := by
  have hl := h.length
  rw [List.length_map, List.length_append, Array.length_toList] at hl
  refine ⟨con.length, rfl, by omega, hz, ?_⟩
  rw [List.map_append] at h
  generalize tape.toList = vs at h
  clear hl hz
  induction con generalizing vs with
  | nil => exact h
  | cons c con ih =>
    cases h with
    | cons s t h => exact ih _ h
end Mine
end
section
open PySem PySem.W PySem.Calls PyProof.Rows PyProof.Rows.LCg
set_option maxRecDepth 100000
set_option maxHeartbeats 0
set_option linter.unusedVariables false
namespace Mine
local macro_rules | `(tactic| k_room) => `(tactic| ((try simp only [depth_under_make, depth_under_kw, depth_in1, depth_deeper, depth_caller]); (try dsimp only); simp only [recursionLimit]; omega))
local macro_rules | `(tactic| k_all) => `(tactic| first | assumption | exact ne_of_lo (by assumption) | (refine ne_of_all (by assumption) ?_; (try dsimp only); omega))
def ifBody (s : Stmt) : List Stmt := match s with | .If _ b _ _ => b | _ => []
def owI : Stmt := nthS 1 (forBody lwF)
def owB : List Stmt := ifBody owI
section
variable {w : World} {A A₀ : Around} {s : Shared} {base h₀ : Heap} {outer : List Env} {L fa hA rA sgA wdA : Addr} {cd : Value} {m mg mb : Str → Option Value} {news : List (Addr × Obj)} {p : Program} {loose : List Str} {mean : ExcName → Option Value}
  {Q : Flow → Shared → Prop} {E : Value → Shared → Prop} {cS cR cL cT : Obj} {rs : List (Nat × Tok)} {hp tn mx sg tp wd kk si : Option Value}
  {a : RdA} {tape : Array Value} {tpn pn : Nat} {pl ln : Int} {plt lnt : Tok}
theorem list_app {D : Addr} {items : Array Value} {n : Nat} {y : Value} {Q : Value → Shared → Prop} {prog : Program} (F : Fr h₀ L s.heap m) (N : News h₀ L s.heap ((D, listOf items n) :: news)) (hn : ∀ p ∈ news, p.1 ≠ D) (hsz : items.size ≤ 5000)
    (h : ∀ h', Fr h₀ L h' m → News h₀ L h' ((D, listOf (items.push y) (n + 1)) :: news) → Q .none { s with heap := h' }) :
    wpAny (model prog w) A (call (.builtin "list.append") [.ref D, y]) Q E s :=
  append_at (hsz := by rw [sizeLine_eq]; omega) (N.get (.head _)) fun h₅ hs₅ hD₅ =>
    h h₅ (F.change hs₅ (N _ (.head _)).2.1 (N.fresh (.head _))) (News.setHead N hn hs₅ hD₅)
theorem n_front {l r : List (Addr × Obj)} {x : Addr × Obj} {h : Heap} (N : News h₀ L h (l ++ x :: r)) : News h₀ L h (x :: (l ++ r)) := fun q hq => by
  rcases List.mem_cons.mp hq with rfl | hq
  · exact N _ (List.mem_append_right _ (.head _))
  rcases List.mem_append.mp hq with hq | hq
  · exact N _ (List.mem_append_left _ hq)
  · exact N _ (List.mem_append_right _ (.tail _ hq))
theorem n_back {l r : List (Addr × Obj)} {x : Addr × Obj} {h : Heap} (N : News h₀ L h (x :: (l ++ r))) : News h₀ L h (l ++ x :: r) := fun q hq => by
  rcases List.mem_append.mp hq with hq | hq
  · exact N _ (.tail _ (List.mem_append_left _ hq))
  rcases List.mem_cons.mp hq with rfl | hq
  · exact N _ (.head _)
  · exact N _ (.tail _ (List.mem_append_right _ hq))
theorem objs_lt {P : Params} (O : a.Ok) : ∀ p ∈ a.objs P tape tpn pl plt pn ln lnt, p.1 < a.pushA + 1 := fun p hp => by
  obtain ⟨-, -, -, -, o1, o2, o3, o4, o5, o6, o7, o8, o9, o10⟩ := O
  simp only [RdA.objs, List.mem_cons, List.not_mem_nil, or_false] at hp
  rcases hp with rfl | rfl | rfl | rfl | rfl | rfl | rfl | rfl | rfl | rfl | rfl <;> (dsimp only; exact Nat.lt_succ_of_le (by omega))
theorem ow_word (B : Below A₀ base outer h₀) (X₀ : (KK w.params).In h₀) (T : Top p loose mean mg mb h₀) (hA' : A.frames = some (lwE L fa cd :: outer)) (hh : A.handled = none) (hdp : A.depth < 360) (hun : A.units < 60) (O : a.Ok)
    (hL : cL.data = .cell (some (.ref a.lexA))) {items : Array Value} {n : Nat}
    (F : Fr h₀ L s.heap (mL hp tn mx sg tp (some (.ref wdA)) kk si)) (N : News h₀ L s.heap (a.objs w.params tape tpn pl plt pn ln lnt ++ (wdA, listOf items n) :: (L + 3, cL) :: news))
    {ws r : List Nat} {c : Nat} (mn : Nat) (hc : c < 256) (hw : ∀ x ∈ ws, inWs x = true) (hws : ws.length ≤ 3) (H : Rem tape pl (ws ++ (coreL c mn ++ r))) (hl0 : 0 ≤ ln) (hl1 : ln < 70000) (hsz : items.size ≤ 5000)
    (hap : Apart a ((wdA, listOf items n) :: (L + 3, cL) :: news)) (hwd : a.pushA < wdA) (hwn : ∀ p ∈ (L + 3, cL) :: news, p.1 ≠ wdA)
    (h : ∀ tk k plt' lnt' h' pl' ln', pl' = pl + ws.length + (coreL c mn).length → ln' = ln + nls ws + nls (coreL c mn) → Fr h₀ L h' (mL hp tn mx sg tp (some (.ref wdA)) kk si) →
      News h₀ L h' (a.objs w.params tape tpn pl' plt' pn ln' lnt' ++ (wdA, listOf (items.push (.str ⟨#[c]⟩ tk)) (n + 1)) :: (L + 3, cL) :: news) → Rem tape pl' r → Q .next { s with heap := h', toks := k }) :
    wpAny (model PySem.Challenge.rw_rs0059_01.row.prog w) A (exec (nthS 0 owB) (lwE L fa cd)) Q E s := by
  obtain ⟨hnd, dp, fr, gu, un⟩ := A
  cases hh
  cases hA'
  replace hdp : dp < 360 := hdp
  replace hun : un < 60 := hun
  have O' := O
  obtain ⟨dD, -, -, -, o1, o2, o3, o4, o5, o6, o7, o8, o9, o10⟩ := O
  revert X₀
  k_fill
  intro X₀
  (conv in nthS 0 owB => whnf)
  simp only [RdA.objs, List.cons_append, List.nil_append] at N
  (try k_fold)
  repeat' ((fail_if_success (with_reducible show wpAny _ _ (call (Value.ref _) _) _ _ _)); first | (k_unfold; (try dsimp only)) | walk1 | (dsimp only; walk1))
  show wpAny _ _ (call (.ref 92) [.ref a.lexA]) _ _ _
  refine wpAny_call (gt_word (a := a) (news := (wdA, listOf items n) :: (L + 3, cL) :: news) B F X₀ O' N (apart_place hap O') (apart_lex hap O') T rfl rfl rfl rfl (Nat.lt_trans hdp (by decide)) (Nat.lt_trans hun (by decide)) hl0 hl1 mn hc hw hws H
    fun tk k plt' lnt' h' pl' ln' hpl hln F N H => ?_)
  dsimp only
  repeat' ((fail_if_success (with_reducible show wpAny _ _ (call (Value.builtin "list.append") _) _ _ _)); first | (k_unfold; (try dsimp only)) | walk1 | (dsimp only; walk1))
  refine list_app F (n_front N) ?_ hsz fun h' F N => ?_
  · intro p hp
    rcases List.mem_append.mp hp with hp | hp
    · exact Nat.ne_of_lt (Nat.lt_of_lt_of_le (objs_lt O' p hp) hwd)
    · exact hwn p hp
  · exact h tk _ plt' lnt' h' pl' ln' hpl hln F (n_back N) H
end
end Mine
end
section
open PySem PySem.W PySem.Calls PyProof.Rows PyProof.Rows.LCg
set_option maxRecDepth 100000
set_option maxHeartbeats 0
set_option linter.unusedVariables false
namespace Mine
local macro_rules | `(tactic| k_room) => `(tactic| ((try simp only [depth_under_make, depth_under_kw, depth_in1, depth_deeper, depth_caller]); (try dsimp only); simp only [recursionLimit]; omega))
local macro_rules | `(tactic| k_all) => `(tactic| first | assumption | exact ne_of_lo (by assumption) | (refine ne_of_all (by assumption) ?_; (try dsimp only); omega))
local macro_rules | `(tactic| walk_at "call builtin:len") => `(tactic| (k_here; (with_reducible show wpAny _ _ (call (Value.builtin "len") [Value.ref _]) _ _ _); k_dflt (refine' len_row ?N ?m ?f ?_; (case N => k_asm); (case m => exact .tail _ (.head _)); (case f => omega))))
def cE4 : Expr := cExp (nthS 1 owB)
section
variable {w : World} {A A₀ : Around} {s : Shared} {base h₀ : Heap} {outer : List Env} {L fa hA rA sgA wdA : Addr} {cd : Value} {m mg mb : Str → Option Value} {news : List (Addr × Obj)} {p : Program} {loose : List Str} {mean : ExcName → Option Value}
  {Q : Flow → Shared → Prop} {E : Value → Shared → Prop} {cS cR cL cT : Obj} {rs : List (Nat × Tok)} {hp tn mx sg tp wd kk si : Option Value} {rn : Nat}
theorem c4_elt (B : Below A₀ base outer h₀) (X₀ : (KK w.params).In h₀) (T : Top p loose mean mg mb h₀) (hA' : A.frames = some (lwE L fa cd :: outer)) (hh : A.handled = none) (hdp : A.depth < 360) (hun : A.units < 60)
    {C : Addr} {oC : Obj} {mc : Str → Option Value} {i c t : Nat} {it ct tt : Tok} {Q : Value → Shared → Prop} (hr3 : rs.length ≤ 3) (hi : i < 3) (ht : t < 14) (hR : cR.data = .cell (some (.ref rA))) (hT : cT.data = .cell (some (.int (t : Nat) tt)))
    (F : Fr h₀ L s.heap m) (N : News h₀ L s.heap ((C, oC) :: (rA, lst (rowV rs)) :: (L + 2, cR) :: (L + 4, cT) :: news)) (hC : NsObj oC mc) (hk : mc (Str.ofString "k") = some (.int (i : Nat) it)) (hx : mc (Str.ofString "sign") = some (.str ⟨#[c]⟩ ct))
    (h : ∀ Tp k h' kt, C < Tp → AllLt Tp ((rA, lst (rowV rs)) :: (L + 2, cR) :: (L + 4, cT) :: news) → Fr h₀ L h' m → News h₀ L h' ((Tp, pairO (.int (rs.length + 3 * t + i : Nat) kt) (.str ⟨#[c]⟩ ct)) :: (C, oC) :: (rA, lst (rowV rs)) :: (L + 2, cR) :: (L + 4, cT) :: news) → Q (.ref Tp) { s with heap := h', toks := k }) :
    wpAny (model PySem.Challenge.rw_rs0059_01.row.prog w) A (eval (cElt cE4) (compEnvC (cScope cE4) [(Str.ofString "turn", L + 4), (Str.ofString "row", L + 2)] C (lwE L fa cd))) Q E s := by
  obtain ⟨hnd, dp, fr, gu, un⟩ := A
  cases hh
  cases hA'
  replace hdp : dp < 360 := hdp
  replace hun : un < 60 := hun
  revert X₀
  k_fill
  intro X₀
  (conv in cElt cE4 => whnf)
  (conv in (occs := *) cScope cE4 => all_goals whnf)
  (try k_fold)
  repeat' (first | (k_unfold; (try dsimp only)) | walk1 | (dsimp only; walk1))
  rename Fr h₀ _ _ _ => kF
  rename News h₀ _ _ _ => kN
  rename _ ∧ _ => kl
  rw [show ((rs.length : Nat) : Int) + 3 * ((t : Nat) : Int) + ((i : Nat) : Int) = ((rs.length + 3 * t + i : Nat) : Int) by omega] at kN
  exact h _ _ _ _ kl.1 kl.2 kF kN
theorem quote_R {env : Env} (B : Below A₀ base outer h₀) (F : Fr h₀ L s.heap m) (X₀ : (KK w.params).In h₀) (N : News h₀ L s.heap news) (T : Top p loose mean mg mb h₀) (hA : A.frames = some (env :: outer)) (hf : env.frame = some L) (hke : env.scope.kind = .function) (hroom : A.depth < recursionLimit)
    {c : Nat} {tk : Tok} {Q : Value → Shared → Prop} (hc : c < 256)
    (h : ∀ x t k h', x = ⟨(quoteL c).toArray⟩ → Fr h₀ L h' m → News h₀ L h' news → Q (.str x t) { s with heap := h', toks := k }) :
    wpAny (model PySem.Challenge.rw_rs0059_01.row.prog w) A (call (.ref 51) [.str ⟨#[c]⟩ tk]) Q E s :=
  wpAny_call (quote_K B F X₀ N T hA hf hke hroom hc fun t k h' F N => h _ t k h' rfl F N)
theorem quote_ascii {c : Nat} (hc : c < 256) : (⟨(quoteL c).toArray⟩ : Str).cps.all (· < 128) = true := by
  show (quoteL c).toArray.all _ = true
  rw [List.all_toArray]
  unfold quoteL hexC
  simp only [List.all_cons, List.all_nil, Bool.and_true, Bool.and_eq_true, decide_eq_true_eq]
  refine ⟨by decide, ?_, ?_⟩ <;> split <;> omega
end
local macro_rules | `(tactic| walk_at "subscriptTail") => `(tactic| (k_here; (with_reducible show wpAny _ _ (subscriptTail _ _ (Value.ref _) (Value.int _ _)) _ _ _); k_dflt (refine' item_row ?N ?m ?x ?i ?_ ?z; (case N => k_asm); (case m => k_mem); (case x => assumption); (case i => omega); (case z => with_unfolding_all rfl))))
local macro_rules | `(tactic| walk_at "call ref") => `(tactic| (k_here; k_dflt (refine' quote_R ?B ?F ?X ?N ?T ?A ?f ?k ?r ?c ?_; (case B => k_asm); (case F => k_asm); (case X => k_asm); (case N => k_asm); (case T => k_asm); (case A => exact rfl); (case f => exact rfl); (case k => exact rfl); (case r => (simp only [recursionLimit]; omega)); (case c => assumption)); intro x' t' k' h' e' F' N'))
section
variable {w : World} {A A₀ : Around} {s : Shared} {base h₀ : Heap} {outer : List Env} {L fa hA rA sgA wdA : Addr} {cd : Value} {m mg mb : Str → Option Value} {news : List (Addr × Obj)} {p : Program} {loose : List Str} {mean : ExcName → Option Value}
  {Q : Flow → Shared → Prop} {E : Value → Shared → Prop} {cS cR cL cT : Obj} {rs : List (Nat × Tok)} {hp tn mx sg tp wd kk si : Option Value} {rn : Nat}
theorem c4_iter (B : Below A₀ base outer h₀) (X₀ : (KK w.params).In h₀) (T : Top p loose mean mg mb h₀) (hA' : A.frames = some (lwE L fa cd :: outer)) (hh : A.handled = none) (hdp : A.depth < 360) (hun : A.units < 60)
    {wq : List (Nat × Tok)} {wn c t : Nat} {ct tt : Tok} (ht : wq.length = t + 1) (hc : c < 256) (hq : wq[t]? = some (c, ct)) (hw9 : wq.length ≤ 60) (hT : cT.data = .cell (some (.int (t : Nat) tt)))
    (F : Fr h₀ L s.heap (mL hp tn mx sg tp (some (.ref wdA)) kk si)) (N : News h₀ L s.heap ((wdA, listOf (rowV wq).toArray wn) :: (L + 4, cT) :: news)) {Q : Value → Shared → Prop}
    (h : ∀ e it oi xt k h', StIt oi ⟨(quoteL c).toArray⟩ xt 0 → (∀ p ∈ (wdA, listOf (rowV wq).toArray wn) :: (L + 4, cT) :: news, p.1 < it) → it < e → Fr h₀ L h' (mL hp tn mx sg tp (some (.ref wdA)) kk si) →
      News h₀ L h' ((e, enumO it ((0 : Nat) : Int) .none) :: (it, oi) :: (wdA, listOf (rowV wq).toArray wn) :: (L + 4, cT) :: news) → Q (.ref e) { s with heap := h', toks := k }) :
    wpAny (model PySem.Challenge.rw_rs0059_01.row.prog w) A (eval (cIter cE4) (lwE L fa cd)) Q E s := by
  obtain ⟨hnd, dp, fr, gu, un⟩ := A
  cases hh
  cases hA'
  replace hdp : dp < 360 := hdp
  replace hun : un < 60 := hun
  revert X₀
  k_fill
  intro X₀
  (conv in cIter cE4 => whnf)
  (try k_fold)
  repeat' ((fail_if_success (with_reducible show wpAny _ _ (call (Value.type "enumerate") _) _ _ _)); first | (k_unfold; (try dsimp only)) | walk1 | (dsimp only; walk1))
  rename _ = Str.mk _ => ke
  rename Fr h₀ _ _ _ => kF
  rename News h₀ _ _ _ => kN
  subst ke
  exact enum_str (quote_ascii hc) kF kN fun e it oi h' hI hlt hL hie F N => h e it oi _ _ h' hI hlt hie F N
end
end Mine
end
section
open PySem PySem.W PySem.Calls PyProof.Rows PyProof.Rows.LCg
set_option maxRecDepth 100000
set_option maxHeartbeats 0
set_option linter.unusedVariables false
namespace Mine
local macro_rules | `(tactic| k_room) => `(tactic| ((try simp only [depth_under_make, depth_under_kw, depth_in1, depth_deeper, depth_caller]); (try dsimp only); simp only [recursionLimit]; omega))
local macro_rules | `(tactic| k_all) => `(tactic| first | assumption | exact ne_of_lo (by assumption) | (refine ne_of_all (by assumption) ?_; (try dsimp only); omega))
section
variable {w : World} {A A₀ : Around} {s : Shared} {base h₀ : Heap} {outer : List Env} {L fa hA rA sgA wdA : Addr} {cd : Value} {m mg mb : Str → Option Value} {news : List (Addr × Obj)} {p : Program} {loose : List Str} {mean : ExcName → Option Value}
  {Q : Flow → Shared → Prop} {E : Value → Shared → Prop} {cS cR cL cT : Obj} {rs : List (Nat × Tok)} {hp tn mx sg tp wd kk si : Option Value} {rn : Nat}
theorem c4_loop (B : Below A₀ base outer h₀) (X₀ : (KK w.params).In h₀) (T : Top p loose mean mg mb h₀) (hA' : A.frames = some (lwE L fa cd :: outer)) (hh : A.handled = none) (hdp : A.depth < 360) (hun : A.units < 60)
    {C D e it : Addr} {qs : List Nat} {xt tt : Tok} {t0 : Nat} (hq3 : qs.length ≤ 3) (hr3 : rs.length ≤ 3) (ht : t0 < 14) (hRc : cR.data = .cell (some (.ref rA))) (hT : cT.data = .cell (some (.int (t0 : Nat) tt))) {R : Result → Shared → Prop}
    (hDC : D < C) (heD : e < D) (hie : it < e) (hn : ∀ p ∈ (rA, lst (rowV rs)) :: (L + 2, cR) :: (L + 4, cT) :: news, p.1 < it)
    (hR : ∀ k h' sl oC mc, sl.map (·.c) = qs → (∀ q ∈ sl, C < q.a ∧ q.k < 100) → NsObj oC mc → Fr h₀ L h' m → News h₀ L h' ((C, oC) :: (D, lst (sgV sl)) :: (sgO sl ++ (rA, lst (rowV rs)) :: (L + 2, cR) :: (L + 4, cT) :: news)) → R (.ok .next) { s with heap := h', toks := k }) :
    ∀ (r i k : Nat) (hp : Heap) (sl : List Sg) (oC oi : Obj) (mc : Str → Option Value) (old : Value), i + r = qs.length → sl.map (·.c) = qs.take i → (∀ q ∈ sl, C < q.a ∧ q.k < 100) → NsObj oC mc → StIt oi ⟨qs.toArray⟩ xt i → Fr h₀ L hp m →
      News h₀ L hp ((C, oC) :: (D, lst (sgV sl)) :: (e, enumO it (i : Nat) old) :: (it, oi) :: (sgO sl ++ (rA, lst (rowV rs)) :: (L + 2, cR) :: (L + 4, cT) :: news)) →
      CompAt PySem.Challenge.rw_rs0059_01.row.prog w A (cElt cE4) (cTgt cE4) (cIter cE4) (cScope cE4) (cPos cE4) (.ref e) (.ref D) (compEnvC (cScope cE4) [(Str.ofString "turn", L + 4), (Str.ofString "row", L + 2)] C (lwE L fa cd)) R { s with heap := hp, toks := k } := by
  have hieN : it ≠ e := Nat.ne_of_lt hie
  have hne : ∀ (oC : Obj) (ys : List Value) (sl : List Sg), (∀ q ∈ sl, C < q.a ∧ q.k < 100) → ∀ p ∈ (C, oC) :: (D, lst ys) :: (sgO sl ++ (rA, lst (rowV rs)) :: (L + 2, cR) :: (L + 4, cT) :: news), p.1 ≠ e ∧ p.1 ≠ it := fun oC ys sl hsl p hp => by
    rcases List.mem_cons.mp hp with rfl | hp
    · exact ⟨Nat.ne_of_gt (Nat.lt_trans heD hDC), Nat.ne_of_gt (Nat.lt_trans hie (Nat.lt_trans heD hDC))⟩
    rcases List.mem_cons.mp hp with rfl | hp
    · exact ⟨Nat.ne_of_gt heD, Nat.ne_of_gt (Nat.lt_trans hie heD)⟩
    rcases List.mem_append.mp hp with hp | hp
    · obtain ⟨q, hq, e⟩ := sgO_mem hp
      rw [e]
      have := (hsl q hq).1
      exact ⟨Nat.ne_of_gt (Nat.lt_trans (Nat.lt_trans heD hDC) this), Nat.ne_of_gt (Nat.lt_trans (Nat.lt_trans hie (Nat.lt_trans heD hDC)) this)⟩
    · exact ⟨Nat.ne_of_lt (Nat.lt_trans (hn p hp) hie), Nat.ne_of_lt (hn p hp)⟩
  intro r
  induction r with
  | zero =>
    intro i k hp sl oC oi mc old hir hsl hsa hC hI F N
    have hi' : i = qs.length := by omega
    have hi : i = (⟨qs.toArray⟩ : Str).cps.size := hi'.trans (List.size_toArray (as := qs)).symm
    subst hi
    refine CompAt.turn (str_stop (x := ⟨qs.toArray⟩) (xt := xt) hh F (n_cdab N) hI (fun p hp => (hne _ _ sl hsa p hp).2) fun h' F N => ?_)
    refine hR _ _ sl oC mc ?_ hsa hC F N
    rw [hi', List.take_length] at hsl
    exact hsl
  | succ r ih =>
    intro i k hp sl oC oi mc old hir hsl hsa hC hI F N
    have hi : i < qs.length := by omega
    have hx : (⟨qs.toArray⟩ : Str).cps[i]? = some qs[i] := (List.getElem?_toArray).trans (List.getElem?_eq_getElem hi)
    refine CompAt.turn (str_turn (x := ⟨qs.toArray⟩) (xt := xt) hh F (n_cdab N) hI hx hieN (hne _ _ sl hsa) fun t u k Tp h' oi' hI' heT hrT hLT F N => ?_)
    dsimp only
    refine enum_go F N (Nat.ne_of_gt heT) ?_ fun h' F N => ?_
    · intro p hp
      rcases List.mem_cons.mp hp with rfl | hp
      · exact hieN
      · exact (hne _ _ sl hsa p hp).1
    have hCT : C ≠ Tp := Nat.ne_of_lt (hrT _ (.head _))
    have hoff : ∀ (p : Addr × Obj), p ∈ (sgO sl ++ (rA, lst (rowV rs)) :: (L + 2, cR) :: (L + 4, cT) :: news) → p.1 ≠ C ∧ p.1 ≠ D := fun p hp => by
      rcases List.mem_append.mp hp with hp | hp
      · obtain ⟨q, hq, e⟩ := sgO_mem hp
        rw [e]
        exact ⟨Nat.ne_of_gt (hsa q hq).1, Nat.ne_of_gt (Nat.lt_trans hDC (hsa q hq).1)⟩
      · exact ⟨Nat.ne_of_lt (Nat.lt_trans (hn p hp) (Nat.lt_trans hie (Nat.lt_trans heD hDC))), Nat.ne_of_lt (Nat.lt_trans (hn p hp) (Nat.lt_trans hie heD))⟩
    refine pair_comp (mc := mc) hh F (n_dabc N) (.head _) hC ?_ rfl rfl rfl fun h' k oC' hC' F N => ?_
    · intro p hp
      rcases List.mem_cons.mp hp with rfl | hp
      · exact Ne.symm hCT
      rcases List.mem_cons.mp hp with rfl | hp
      · exact Nat.ne_of_lt (Nat.lt_trans heD hDC)
      rcases List.mem_cons.mp hp with rfl | hp
      · exact Nat.ne_of_lt (Nat.lt_trans hie (Nat.lt_trans heD hDC))
      rcases List.mem_cons.mp hp with rfl | hp
      · exact Nat.ne_of_lt hDC
      · exact (hoff p hp).1
    obtain ⟨mc', hmc⟩ : ∃ mc' : Str → Option Value, mc' = (fun z => if z = Str.ofString "sign" then some (.str ⟨#[qs[i]]⟩ u) else if z = Str.ofString "k" then some (.int (i : Nat) t) else mc z) := ⟨_, rfl⟩
    rw [← hmc] at hC'
    dsimp only
    refine c4_elt (rs := rs) (news := (Tp, pairO (.int (i : Nat) t) (.str ⟨#[qs[i]]⟩ u)) :: (e, enumO it ((i + 1 : Nat) : Int) (.str ⟨#[qs[i]]⟩ u)) :: (it, oi') :: (D, lst (sgV sl)) :: (sgO sl ++ news)) (i := i) (it := t) (c := qs[i]) (ct := u) B X₀ T hA' hh hdp hun hr3 (by omega) ht hRc hT F ?_ hC' ?_ ?_ fun Tq k h' kt hCq hall F N => ?_
    · intro p hp
      refine N p ?_
      simp only [List.mem_cons, List.mem_append] at hp ⊢
      grind
    · rw [hmc]; dsimp only; rw [if_neg (by decide +kernel), if_pos rfl]
    · rw [hmc]; dsimp only; rw [if_pos rfl]
    have N1 : News h₀ L h' ((C, oC') :: (D, lst (sgV sl)) :: (Tq, pairO (.int (rs.length + 3 * t0 + i : Nat) kt) (.str ⟨#[qs[i]]⟩ u)) :: (e, enumO it ((i + 1 : Nat) : Int) (.str ⟨#[qs[i]]⟩ u)) :: (it, oi') :: (sgO sl ++ (rA, lst (rowV rs)) :: (L + 2, cR) :: (L + 4, cT) :: news)) := by
      intro p hp
      refine N p ?_
      simp only [List.mem_cons, List.mem_append] at hp ⊢
      grind
    refine comp_app F N1 (Nat.ne_of_gt hDC) ?_ ?_ fun h' F N => ?_
    · intro p hp
      rcases List.mem_cons.mp hp with rfl | hp
      · exact Nat.ne_of_gt (Nat.lt_trans hDC hCq)
      rcases List.mem_cons.mp hp with rfl | hp
      · exact Nat.ne_of_lt heD
      rcases List.mem_cons.mp hp with rfl | hp
      · exact Nat.ne_of_lt (Nat.lt_trans hie heD)
      · exact (hoff p hp).2
    · have := congrArg List.length hsl
      rw [List.length_map, List.length_take] at this
      show (sl.map _).length ≤ 200
      rw [List.length_map]; omega
    refine ih (i + 1) _ _ (sl ++ [⟨Tq, rs.length + 3 * t0 + i, kt, qs[i], u⟩]) oC' oi' mc' (.str ⟨#[qs[i]]⟩ u) (by omega) ?_ ?_ hC' hI' F ?_
    · rw [List.map_append, hsl, List.take_add_one, List.getElem?_eq_getElem hi]
      rfl
    · intro q hq
      rcases List.mem_append.mp hq with hq | hq
      · exact hsa q hq
      · rw [List.mem_singleton.mp hq]; exact ⟨hCq, by show rs.length + 3 * t0 + i < 100; omega⟩
    · rw [sgV_snoc, sgO_snoc]
      have N2 := nT (nT N)
      exact nC (nH N) (nC (nH (nT N)) (nC (nH (nT N2)) (nC (nH (nT (nT N2))) (nSnoc (nH N2) (nT (nT (nT N2)))))))
end
end Mine
end
section
open PySem PySem.W PySem.Calls PyProof.Rows PyProof.Rows.LCg
set_option maxRecDepth 100000
set_option maxHeartbeats 0
set_option linter.unusedVariables false
namespace Mine
local macro_rules | `(tactic| k_room) => `(tactic| ((try simp only [depth_under_make, depth_under_kw, depth_in1, depth_deeper, depth_caller]); (try dsimp only); simp only [recursionLimit]; omega))
local macro_rules | `(tactic| k_all) => `(tactic| first | assumption | exact ne_of_lo (by assumption) | (refine ne_of_all (by assumption) ?_; (try dsimp only); omega))
section
variable {w : World} {A A₀ : Around} {s : Shared} {base h₀ : Heap} {outer : List Env} {L fa hA rA sgA wdA : Addr} {cd : Value} {m mg mb : Str → Option Value} {news : List (Addr × Obj)} {p : Program} {loose : List Str} {mean : ExcName → Option Value}
  {Q : Flow → Shared → Prop} {E : Value → Shared → Prop} {cS cR cL cT : Obj} {rs : List (Nat × Tok)} {hp tn mx sg tp wd kk si : Option Value} {rn : Nat}
theorem ow_signs (B : Below A₀ base outer h₀) (X₀ : (KK w.params).In h₀) (T : Top p loose mean mg mb h₀) (hA' : A.frames = some (lwE L fa cd :: outer)) (hh : A.handled = none) (hdp : A.depth < 360) (hun : A.units < 60)
    {wq : List (Nat × Tok)} {wn c t : Nat} {ct tt : Tok} (hr3 : rs.length ≤ 3) (hR : cR.data = .cell (some (.ref rA))) (ht : wq.length = t + 1) (ht4 : t < 14) (hc : c < 256) (hq : wq[t]? = some (c, ct)) (hT : cT.data = .cell (some (.int (t : Nat) tt)))
    (F : Fr h₀ L s.heap (mL hp tn mx sg tp (some (.ref wdA)) kk si)) (N : News h₀ L s.heap ((rA, lst (rowV rs)) :: (L + 2, cR) :: (L + 4, cT) :: (wdA, listOf (rowV wq).toArray wn) :: news))
    (h : ∀ sgA sl k h', sl.map (·.c) = quoteL c → (∀ q ∈ sl, sgA < q.a ∧ q.k < 100) → (∀ p ∈ (rA, lst (rowV rs)) :: (L + 2, cR) :: (L + 4, cT) :: (wdA, listOf (rowV wq).toArray wn) :: news, p.1 < sgA) → Fr h₀ L h' (mL hp tn mx (some (.ref sgA)) tp (some (.ref wdA)) kk si) →
      News h₀ L h' ((sgA, lst (sgV sl)) :: (sgO sl ++ (rA, lst (rowV rs)) :: (L + 2, cR) :: (L + 4, cT) :: (wdA, listOf (rowV wq).toArray wn) :: news)) → Q .next { s with heap := h', toks := k }) :
    wpAny (model PySem.Challenge.rw_rs0059_01.row.prog w) A (exec (nthS 1 owB) (lwE L fa cd)) Q E s := by
  have es : nthS 1 owB = .Assign [.Name (Str.ofString "signs") (tPos (nthS 1 owB))] (.ListComp (cElt cE4) [⟨cTgt cE4, cIter cE4, [], 0⟩] (cScope cE4) (cPos cE4)) (sPos (nthS 1 owB)) := rfl
  rw [es]
  refine' comp_assign (cl := [(Str.ofString "turn", L + 4), (Str.ofString "row", L + 2)]) ?a ?b ?c ?d ?_ ?e
  case a => with_unfolding_all rfl
  case b => with_unfolding_all rfl
  case c => rfl
  case d => decide
  case e => intro _; rfl
  have N0 : News h₀ L s.heap ((wdA, listOf (rowV wq).toArray wn) :: (L + 4, cT) :: (rA, lst (rowV rs)) :: (L + 2, cR) :: news) := fun p hp => N p (by simp only [List.mem_cons] at hp ⊢; grind)
  refine c4_iter B X₀ T hA' hh hdp hun ht hc hq (by omega) hT F N0 fun e it oi xt k h' hI hlt hie F N => ?_
  refine enum_self _ _ _ (N.get (.head _)) ?_
  refine comp_in F N (.head _) (fun _ _ _ a b => enum_self _ _ _ a b) (by decide) rfl fun C oC D h' k hC hlt' hDC hLD F N => ?_
  have heD : e < D := hlt' _ (.head _)
  have hltB : ∀ p ∈ (rA, lst (rowV rs)) :: (L + 2, cR) :: (L + 4, cT) :: (wdA, listOf (rowV wq).toArray wn) :: news, p.1 < it := fun p hp => hlt p (by simp only [List.mem_cons] at hp ⊢; grind)
  have N1 : News h₀ L h' ((C, oC) :: (D, lst (sgV [])) :: (e, enumO it ((0 : Nat) : Int) .none) :: (it, oi) :: (sgO [] ++ (rA, lst (rowV rs)) :: (L + 2, cR) :: (L + 4, cT) :: (wdA, listOf (rowV wq).toArray wn) :: news)) := fun p hp => N p (by simp only [sgO, sgV, List.map_nil, List.nil_append, List.mem_cons] at hp ⊢; grind)
  refine c4_loop (qs := quoteL c) B X₀ T hA' hh hdp hun (Nat.le_of_eq rfl) hr3 ht4 hR hT hDC heD hie hltB (fun k h' sl oC mc hsl hsa hC F N => ?_) (quoteL c).length 0 _ _ [] oC oi _ _ (Nat.zero_add _) rfl (fun _ q => nomatch q) hC hI F N1
  show wpAny _ _ (assign (.Name (Str.ofString "signs") (tPos (nthS 1 owB))) (lwE L fa cd) (.ref D)) _ _ _
  refine wpAny_assign_Name (storeX_L F N fun h' F N => ?_)
  have hDlo : ∀ p ∈ (rA, lst (rowV rs)) :: (L + 2, cR) :: (L + 4, cT) :: (wdA, listOf (rowV wq).toArray wn) :: news, p.1 < D := fun p hp => Nat.lt_trans (hltB p hp) (Nat.lt_trans hie heD)
  refine comp_gone F N hC ?_ fun h' F N => ?_
  · intro p hp
    rcases List.mem_cons.mp hp with rfl | hp
    · exact Nat.ne_of_lt hDC
    rcases List.mem_append.mp hp with hp | hp
    · obtain ⟨q, hq, e⟩ := sgO_mem hp
      rw [e]; exact Nat.ne_of_gt (hsa q hq).1
    · exact Nat.ne_of_lt (Nat.lt_trans (hDlo p hp) hDC)
  · simp only [mL_sg] at F
    exact h D sl _ h' hsl (fun q hq => ⟨Nat.lt_trans hDC (hsa q hq).1, (hsa q hq).2⟩) hDlo F N
end
end Mine
end
section
open PySem PySem.W PySem.Calls PyProof.Rows PyProof.Rows.LCg
set_option maxRecDepth 100000
set_option maxHeartbeats 0
set_option linter.unusedVariables false
namespace Mine
local macro_rules | `(tactic| k_room) => `(tactic| ((try simp only [depth_under_make, depth_under_kw, depth_in1, depth_deeper, depth_caller]); (try dsimp only); simp only [recursionLimit]; omega))
local macro_rules | `(tactic| k_all) => `(tactic| first | assumption | exact ne_of_lo (by assumption) | (refine ne_of_all (by assumption) ?_; (try dsimp only); omega))
def ifTest (s : Stmt) : Expr := match s with | .If t _ _ _ => t | _ => default
def ifPos (s : Stmt) : Pos := match s with | .If _ _ _ p => p | _ => default
section
variable {w : World} {A A₀ : Around} {s : Shared} {base h₀ : Heap} {outer : List Env} {L fa hA rA sgA wdA : Addr} {cd : Value} {m mg mb : Str → Option Value} {news : List (Addr × Obj)} {p : Program} {loose : List Str} {mean : ExcName → Option Value}
  {Q : Flow → Shared → Prop} {E : Value → Shared → Prop} {cS cR cL cT : Obj} {rs : List (Nat × Tok)} {hp tn mx sg tp wd kk si : Option Value} {rn : Nat}
theorem ow_if (B : Below A₀ base outer h₀) (X₀ : (KK w.params).In h₀) (T : Top p loose mean mg mb h₀) (hA' : A.frames = some (lwE L fa cd :: outer)) (hh : A.handled = none) (hdp : A.depth < 360) (hun : A.units < 60)
    {t tnn : Nat} {tt tnt : Tok} (hle : t < tnn) (hT : cT.data = .cell (some (.int (t : Nat) tt)))
    (F : Fr h₀ L s.heap (mL hp (some (.int (tnn : Nat) tnt)) mx sg tp wd kk si)) (N : News h₀ L s.heap ((L + 4, cT) :: news))
    (h : ∀ k h', Fr h₀ L h' (mL hp (some (.int (tnn : Nat) tnt)) mx sg tp wd kk si) → News h₀ L h' ((L + 4, cT) :: news) → wpAny (model PySem.Challenge.rw_rs0059_01.row.prog w) A (execs owB (lwE L fa cd)) Q E { s with heap := h', toks := k }) :
    wpAny (model PySem.Challenge.rw_rs0059_01.row.prog w) A (exec owI (lwE L fa cd)) Q E s := by
  obtain ⟨hnd, dp, fr, gu, un⟩ := A
  cases hh
  cases hA'
  replace hdp : dp < 360 := hdp
  replace hun : un < 60 := hun
  have es : owI = .If (ifTest owI) owB [] (ifPos owI) := rfl
  rw [es]
  refine wpAny_If ?_
  generalize execs owB (lwE L fa cd) = W at h ⊢
  revert X₀
  k_fill
  intro X₀
  (conv in (occs := *) ifTest owI => all_goals whnf)
  (try k_fold)
  repeat' (first | (k_unfold; (try dsimp only)) | walk1 | (dsimp only; walk1))
  all_goals (try (exfalso; omega))
  all_goals (rename Fr h₀ _ _ _ => kF; rename News h₀ _ _ _ => kN; exact h _ _ kF kN)
theorem ow_else (B : Below A₀ base outer h₀) (X₀ : (KK w.params).In h₀) (T : Top p loose mean mg mb h₀) (hA' : A.frames = some (lwE L fa cd :: outer)) (hh : A.handled = none) (hdp : A.depth < 360) (hun : A.units < 60)
    {tnn : Nat} {tt tnt : Tok}  (hT : cT.data = .cell (some (.int (tnn : Nat) tt)))
    (F : Fr h₀ L s.heap (mL hp (some (.int (tnn : Nat) tnt)) mx sg tp wd kk si)) (N : News h₀ L s.heap ((L + 4, cT) :: news))
    (h : ∀ k h', Fr h₀ L h' (mL hp (some (.int (tnn : Nat) tnt)) mx sg tp wd kk si) → News h₀ L h' ((L + 4, cT) :: news) → Q .next { s with heap := h', toks := k }) :
    wpAny (model PySem.Challenge.rw_rs0059_01.row.prog w) A (exec owI (lwE L fa cd)) Q E s := by
  obtain ⟨hnd, dp, fr, gu, un⟩ := A
  cases hh
  cases hA'
  replace hdp : dp < 360 := hdp
  replace hun : un < 60 := hun
  have es : owI = .If (ifTest owI) owB [] (ifPos owI) := rfl
  rw [es]
  refine wpAny_If ?_
  generalize execs owB (lwE L fa cd) = W
  revert X₀
  k_fill
  intro X₀
  (conv in (occs := *) ifTest owI => all_goals whnf)
  (try k_fold)
  repeat' (first | (k_unfold; (try dsimp only)) | walk1 | (dsimp only; walk1))
  all_goals (try (exfalso; omega))
  all_goals (rename Fr h₀ _ _ _ => kF; rename News h₀ _ _ _ => kN; exact h _ _ kF kN)
end
end Mine
end
section
open PySem PySem.W PySem.Calls PyProof.Rows
set_option maxRecDepth 100000
set_option maxHeartbeats 400000
set_option linter.unusedVariables false
namespace Mine
theorem word_split {c mn : Nat} (h : mn < 4) : wordL c mn = coreL c mn ++ tailL mn := by
  unfold wordL coreL tailL isSp isSpc
  match mn, h with
  | 0, _ => simp
  | 1, _ => simp
  | 2, _ => simp
  | 3, _ => simp
theorem tail_ws {mn : Nat} : ∀ x ∈ tailL mn, inWs x = true := by
  have h : ∀ x ∈ [13, 10, 9], inWs x = true := by decide +kernel
  intro x hx
  unfold tailL at hx
  split at hx
  · cases hx
  split at hx
  · cases hx
  split at hx
  · cases hx
  · exact h x hx
theorem tail_len {mn : Nat} : (tailL mn).length ≤ 3 := by
  unfold tailL
  split
  · simp
  split
  · simp
  split <;> simp
theorem nls_append (a b : List Nat) : nls (a ++ b) = nls a + nls b := by
  unfold nls; rw [List.map_append, List.sum_append]
/-- the tape and the queue: al = all signs put so far, t of them read -/
structure OwI (al : List Nat) (t : Nat) (pre : List Value) (pl ln : Int) (con ws : List Nat) (pend : List (Nat × Nat)) (wq : List (Nat × Tok)) (sl : List Nat) : Prop where
  put : wq.map (·.1) ++ (pend.map (·.1) ++ sl) = al
  len : wq.length = t
  tape : StrsAre pre ((con ++ (ws ++ wordsL pend)).map fun c => ⟨#[c]⟩)
  epl : pl = con.length
  eln : ln = 1 + nls con
  wsW : ∀ x ∈ ws, inWs x = true
  ws3 : ws.length ≤ 3
  mn4 : ∀ x ∈ pend, x.2 < 4
  con7 : con.length + ws.length ≤ 7 * t
  byte : ∀ c ∈ al, c < 256
  al45 : al.length ≤ 45
section
variable {al : List Nat} {t : Nat} {pre : List Value} {pl ln : Int} {con ws : List Nat} {pend : List (Nat × Nat)} {wq : List (Nat × Tok)} {sl : List Nat}
theorem OwI.lens (H : OwI al t pre pl ln con ws pend wq sl) : t + (pend.length + sl.length) = al.length := by
  have := congrArg List.length H.put
  rw [List.length_append, List.length_append, List.length_map, List.length_map, H.len] at this
  exact this
theorem OwI.tsz (H : OwI al t pre pl ln con ws pend wq sl) : pre.length ≤ 7 * (t + pend.length) := by
  have h1 := H.tape.length
  have h2 := wordsL_len pend H.mn4
  have h3 := H.con7
  rw [List.length_map, List.length_append, List.length_append] at h1
  omega
theorem OwI.inner {ms : List (Nat × Nat)} {ys : List Value} (H : OwI al t pre pl ln con ws pend wq sl) (h : ms.map (·.1) = sl) (h4 : ∀ x ∈ ms, x.2 < 4) (hy : StrsAre ys ((wordsL ms).map fun c => ⟨#[c]⟩)) :
    OwI al t (pre ++ ys) pl ln con ws (pend ++ ms) wq [] where
  put := by rw [List.map_append, h, List.append_nil]; exact H.put
  len := H.len
  tape := by
    have e : wordsL (pend ++ ms) = wordsL pend ++ wordsL ms := by unfold wordsL; rw [List.flatMap_append]
    rw [e, ← List.append_assoc, ← List.append_assoc, List.map_append, List.append_assoc]
    exact strsAre_append H.tape hy
  epl := H.epl
  eln := H.eln
  wsW := H.wsW
  ws3 := H.ws3
  mn4 := fun x hx => by
    rcases List.mem_append.mp hx with hx | hx
    · exact H.mn4 x hx
    · exact h4 x hx
  con7 := H.con7
  byte := H.byte
  al45 := H.al45
theorem OwI.more (H : OwI al t pre pl ln con ws pend wq []) (q : List Nat) (hq : ∀ c ∈ q, c < 256) (hl : al.length + q.length ≤ 45) : OwI (al ++ q) t pre pl ln con ws pend wq q where
  put := by have := H.put; rw [List.append_nil] at this; rw [← List.append_assoc, this]
  len := H.len
  tape := H.tape
  epl := H.epl
  eln := H.eln
  wsW := H.wsW
  ws3 := H.ws3
  mn4 := H.mn4
  con7 := H.con7
  byte := fun x hx => by
    rcases List.mem_append.mp hx with hx | hx
    · exact H.byte x hx
    · exact hq x hx
  al45 := by rw [List.length_append]; exact hl
theorem OwI.small (H : OwI al t pre pl ln con ws pend wq sl) : 0 ≤ ln ∧ ln < 70000 := by
  have h1 := nls_bd con
  have h2 := H.eln
  have h3 := H.con7
  have h4 := H.lens
  have h5 := H.al45
  omega
theorem OwI.rem (H : OwI al t pre pl ln con ws pend wq sl) : Rem pre.toArray pl (ws ++ wordsL pend) := by
  rw [H.epl]
  refine rem_of (con := con) ?_ ?_
  · exact H.tape
  · have h1 := H.tsz
    have h4 := H.lens
    have h5 := H.al45
    rw [List.size_toArray]; omega
theorem OwI.take {c mn : Nat} (H : OwI al t pre pl ln con ws ((c, mn) :: pend) wq sl) :
    c < 256 ∧ al[t]? = some c ∧ Rem pre.toArray pl (ws ++ (coreL c mn ++ (tailL mn ++ wordsL pend))) ∧
    ∀ tk pl' ln', pl' = pl + ws.length + (coreL c mn).length → ln' = ln + nls ws + nls (coreL c mn) →
      OwI al (t + 1) pre pl' ln' (con ++ (ws ++ coreL c mn)) (tailL mn) pend (wq ++ [(c, tk)]) sl := by
  have h4 : mn < 4 := H.mn4 _ (.head _)
  have e : wordsL ((c, mn) :: pend) = coreL c mn ++ (tailL mn ++ wordsL pend) := by
    show wordL c mn ++ wordsL pend = _
    rw [word_split h4, List.append_assoc]
  have ht : al[t]? = some c := by
    rw [← H.put, List.getElem?_append_right (by rw [List.length_map, H.len]; exact Nat.le_refl _), List.length_map, H.len, Nat.sub_self]; rfl
  refine ⟨H.byte c (List.mem_of_getElem? ht), ht, ?_, fun tk pl' ln' epl eln => ?_⟩
  · rw [← e]; exact H.rem
  · refine ⟨?_, ?_, ?_, ?_, ?_, tail_ws, tail_len, fun x hx => H.mn4 x (.tail _ hx), ?_, H.byte, H.al45⟩
    · rw [← H.put, List.map_append]; simp
    · rw [List.length_append, H.len]; rfl
    · have := H.tape
      rw [e] at this
      simpa only [List.append_assoc] using this
    · rw [epl, H.epl]; simp only [List.length_append, Int.natCast_add]; omega
    · rw [eln, H.eln, nls_append, nls_append]; omega
    · have h7 := wordL_len (c := c) h4
      rw [word_split h4, List.length_append] at h7
      have := H.con7
      simp only [List.length_append]; omega
end
theorem quote_lt {c : Nat} (hc : c < 256) : ∀ x ∈ quoteL c, x < 256 := fun x hx => by
  unfold quoteL hexC at hx
  simp only [List.mem_cons, List.not_mem_nil, or_false] at hx
  rcases hx with rfl | rfl | rfl
  · decide
  · split <;> omega
  · split <;> omega
end Mine
end
section
open PySem PySem.W PySem.Calls PyProof.Rows PyProof.Rows.LCg
set_option maxRecDepth 100000
set_option maxHeartbeats 0
set_option linter.unusedVariables false
namespace Mine
abbrev rgO (x left : Int) : Obj := { cls := .type "range_iterator", dict := none, data := .fields #[rawInt x, rawInt left, rawInt 1], slots := #[] }
section
variable {prog : Program} {w : World} {A : Around} {s : Shared} {h₀ : Heap} {L : Addr} {m : Str → Option Value} {news : List (Addr × Obj)} {E : Value → Shared → Prop}
theorem rg_iter {r : Addr} {a b : Int} {t u v : Tok} {Q : Value → Shared → Prop} (F : Fr h₀ L s.heap m) (N : News h₀ L s.heap news) (hr : IsRange s.heap r a b 1 t u v) (hsmall : Builtin.Range.small a b 1 = true)
    (h : ∀ it h', (∀ p ∈ news, p.1 < it) → L < it → Fr h₀ L h' m → News h₀ L h' ((it, rgO a (Builtin.Range.rangeSize a b 1)) :: news) → Q (.ref it) { s with heap := h' }) :
    wpAny (model prog w) A (pyIter (.ref r)) Q E s :=
  wpAny_pyIter_range hr hsmall (h _ _ (fun p hp => Heap.lt_size (N p hp).1) F.ns.lt (Fr.pushS F _) (News.push F N _))
theorem rg_item {it : Addr} {x left : Int} {Q : Option Value → Shared → Prop} (F : Fr h₀ L s.heap m) (N : News h₀ L s.heap ((it, rgO x left) :: news)) (hn : ∀ p ∈ news, p.1 ≠ it) (hl : 0 < left)
    (h : ∀ t k h', Fr h₀ L h' m → News h₀ L h' ((it, rgO (x + 1) (left - 1)) :: news) → Q (some (.int x t)) { s with heap := h', toks := k }) :
    wpAny (model prog w) A (pyNext (.ref it)) Q E s :=
  wpAny_pyNext_range_item (N.get (.head _)) hl fun h' hi hs => h _ _ h' (Fr.update F N (.head _) hs) (News.setHead N hn hs hi)
theorem rg_end {it : Addr} {x left : Int} {Q : Option Value → Shared → Prop} (hh : A.handled = none) (F : Fr h₀ L s.heap m) (N : News h₀ L s.heap ((it, rgO x left) :: news)) (hn : ∀ p ∈ news, p.1 ≠ it) (hl : left ≤ 0)
    (h : ∀ h', Fr h₀ L h' m → News h₀ L h' news → Q none { s with heap := h' }) :
    wpAny (model prog w) A (pyNext (.ref it)) Q E s :=
  wpAny_pyNext_range_end hh (N.get (.head _)) hl fun h' hs => by
    have hi : h₀.get? it = none := N.fresh (.head _)
    have hL : it ≠ L := (N _ (.head _)).2.1
    exact h h' ⟨F.ns.at' fun o e => hs L o (Ne.symm hL) e, fun b o e => hs b o (fun q => by rw [q, hi] at e; cases e) (F.keep b o e), F.above⟩
      (fun p hp => ⟨hs _ _ (hn p hp) (N p (.tail _ hp)).1, (N p (.tail _ hp)).2⟩)
theorem rg_self {it : Addr} {x left : Int} (s' : Shared) (Q : Value → Shared → Prop) (E : Value → Shared → Prop) (h : s'.heap.get? it = some (rgO x left)) (hq : Q (.ref it) s') : wpAny (model prog w) A (pyIter (.ref it)) Q E s' :=
  wpAny_pyIter_rangeiter h hq
end
end Mine
end
section
open PySem PySem.W PySem.Calls PyProof.Rows PyProof.Rows.LCg
set_option maxRecDepth 100000
set_option maxHeartbeats 0
set_option linter.unusedVariables false
namespace Mine
/-- the law's objects in the outer for -/
def owN (P : Params) (a : RdA) (L rA wdA itA : Addr) (rs : List (Nat × Tok)) (cL cR cT tb : Obj) (pre : List Value) (tpn : Nat) (pl : Int) (plt : Tok) (ln : Int) (lnt : Tok) (wq : List (Nat × Tok)) (wn : Nat) (ro : Obj) (sgA : Addr) (sl : List Sg) : List (Addr × Obj) :=
  a.objs P pre.toArray tpn pl plt 0 ln lnt ++ ((wdA, listOf (rowV wq).toArray wn) :: (L + 3, cL) :: (L + 4, cT) :: (rA, lst (rowV rs)) :: (L + 2, cR) :: (itA, ro) :: (108, tb) :: (sgA, lst (sgV sl)) :: sgO sl)
structure OwA (a : RdA) (L rA wdA itA : Addr) : Prop where
  ok : a.Ok
  r0 : 108 < L
  r1 : L + 4 < rA
  r2 : rA < a.cP
  w1 : a.pushA < wdA
  i1 : wdA < itA
def SgOk (a : RdA) (rA itA x : Addr) : Prop := (rA < x ∧ x < a.cP) ∨ itA < x
section
variable {a : RdA} {L rA wdA itA sgA : Addr} {sl : List Sg} {P : Params} {cL cR cT ro oW oR tb : Obj}
theorem OwA.cp (O : OwA a L rA wdA itA) : a.cP < a.pushA := by
  obtain ⟨⟨-, -, -, -, o1, o2, o3, o4, o5, o6, o7, o8, o9, o10⟩, -⟩ := O
  omega
theorem sg_apart (O : OwA a L rA wdA itA) {x : Addr} (h : SgOk a rA itA x) : (x < a.cP ∨ a.pushA < x) ∧ x ≠ wdA ∧ x ≠ L + 2 ∧ x ≠ L + 3 ∧ x ≠ L + 4 ∧ x ≠ itA := by
  have h0 := O.cp
  obtain ⟨-, hr0, h1, h2, h3, h4⟩ := O
  have h1' : L + 4 < rA := h1
  unfold SgOk at h
  unfold Addr at *
  rcases h with ⟨h5, h6⟩ | h5
  · exact ⟨.inl h6, by omega, by omega, by omega, by omega, by omega⟩
  · exact ⟨.inr (by omega), by omega, by omega, by omega, by omega, by omega⟩
theorem ow_apart (O : OwA a L rA wdA itA) (hs : SgOk a rA itA sgA) (hq : ∀ q ∈ sl, SgOk a rA itA q.a ∧ q.k < 100) :
    Apart a ((wdA, oW) :: (L + 3, cL) :: (L + 4, cT) :: (rA, oR) :: (L + 2, cR) :: (itA, ro) :: (108, tb) :: (sgA, lst (sgV sl)) :: sgO sl) := fun p hp => by
  have h0 := O.cp
  have O' := O
  obtain ⟨-, hr0, h1, h2, h3, h4⟩ := O
  simp only [List.mem_cons] at hp
  rcases hp with rfl | rfl | rfl | rfl | rfl | rfl | rfl | rfl | hp
  · exact .inr h3
  · exact .inl (show L + 3 < a.cP by unfold Addr at *; omega)
  · exact .inl (show L + 4 < a.cP by unfold Addr at *; omega)
  · exact .inl h2
  · exact .inl (show L + 2 < a.cP by unfold Addr at *; omega)
  · exact .inr (show a.pushA < itA by unfold Addr at *; omega)
  · exact .inl (show 108 < a.cP by unfold Addr at *; omega)
  · exact (sg_apart O' hs).1
  · obtain ⟨q, hq', e⟩ := sgO_mem hp
    rw [e]; exact (sg_apart O' (hq q hq').1).1
theorem ow_nwd (O : OwA a L rA wdA itA) (hs : SgOk a rA itA sgA) (hq : ∀ q ∈ sl, SgOk a rA itA q.a ∧ q.k < 100) :
    ∀ p ∈ (L + 3, cL) :: (L + 4, cT) :: (rA, oR) :: (L + 2, cR) :: (itA, ro) :: (108, tb) :: (sgA, lst (sgV sl)) :: sgO sl, p.1 ≠ wdA := fun p hp => by
  have h0 := O.cp
  have O' := O
  obtain ⟨-, hr0, h1, h2, h3, h4⟩ := O
  simp only [List.mem_cons] at hp
  rcases hp with rfl | rfl | rfl | rfl | rfl | rfl | rfl | hp
  · exact (show L + 3 ≠ wdA by unfold Addr at *; omega)
  · exact (show L + 4 ≠ wdA by unfold Addr at *; omega)
  · exact (show rA ≠ wdA by unfold Addr at *; omega)
  · exact (show L + 2 ≠ wdA by unfold Addr at *; omega)
  · exact (show itA ≠ wdA by unfold Addr at *; omega)
  · exact (show 108 ≠ wdA by unfold Addr at *; omega)
  · exact (sg_apart O' hs).2.1
  · obtain ⟨q, hq', e⟩ := sgO_mem hp
    rw [e]; exact (sg_apart O' (hq q hq').1).2.1
end
section
variable {w : World} {A A₀ : Around} {s : Shared} {base h₀ : Heap} {outer : List Env} {L fa rA wdA itA : Addr} {cd : Value} {mg mb : Str → Option Value} {p : Program} {loose : List Str} {mean : ExcName → Option Value}
  {Q : Flow → Shared → Prop} {E : Value → Shared → Prop} {cR cL cT ro tb : Obj} {rs : List (Nat × Tok)} {hp : Option Value} {a : RdA} {tnn : Nat} {tnt mt : Tok} {mxi : Int}
theorem ow_inner (B : Below A₀ base outer h₀) (X₀ : (KK w.params).In h₀) (T : Top p loose mean mg mb h₀) (hA' : A.frames = some (lwE L fa cd :: outer)) (hh : A.handled = none) (hdp : A.depth < 360) (hun : A.units < 60)
    (O : OwA a L rA wdA itA) {al : List Nat} {t : Nat} {pre : List Value} {tpn wn : Nat} {pl ln : Int} {plt lnt : Tok} {con ws : List Nat} {pend : List (Nat × Nat)} {wq : List (Nat × Tok)} {sl : List Sg} {sgA : Addr} {kk si : Option Value}
    (I : OwI al t pre pl ln con ws pend wq (sl.map (·.c))) (hs : SgOk a rA itA sgA) (hq : ∀ q ∈ sl, SgOk a rA itA q.a ∧ q.k < 100)
    (F : Fr h₀ L s.heap (mL hp (some (.int (tnn : Nat) tnt)) (some (.int mxi mt)) (some (.ref sgA)) (some (.ref a.tapeA)) (some (.ref wdA)) kk si))
    (N : News h₀ L s.heap (owN w.params a L rA wdA itA rs cL cR cT tb pre tpn pl plt ln lnt wq wn ro sgA sl))
    (h : ∀ pre tpn pend kk si k h', OwI al t pre pl ln con ws pend wq [] → Fr h₀ L h' (mL hp (some (.int (tnn : Nat) tnt)) (some (.int mxi mt)) (some (.ref sgA)) (some (.ref a.tapeA)) (some (.ref wdA)) kk si) →
      News h₀ L h' (owN w.params a L rA wdA itA rs cL cR cT tb pre tpn pl plt ln lnt wq wn ro sgA sl) → Q .next { s with heap := h', toks := k }) :
    wpAny (model PySem.Challenge.rw_rs0059_01.row.prog w) A (exec iwF (lwE L fa cd)) Q E s := by
  refine iw_stmt (sl := sl) B X₀ T hA' hh hdp hun ?_ ?_ (apart_tape (ow_apart O hs hq) O.ok) ?_ F (objs_out N) fun ms ys tpn k h' kk si hms hm4 hys F N => ?_
  · intro q hq'
    refine ⟨(hq q hq').2, I.byte _ ?_, ?_⟩
    · rw [← I.put]
      exact List.mem_append_right _ (List.mem_append_right _ (List.mem_map_of_mem hq'))
    · refine List.mem_append_right _ ?_
      have : (q.a, pairO (.int (q.k : Nat) q.kt) (.str ⟨#[q.c]⟩ q.ct)) ∈ sgO sl := List.mem_map_of_mem hq'
      simp only [List.mem_cons]
      exact .inr (.inr (.inr (.inr (.inr (.inr (.inr (.inr this)))))))
  · exact List.mem_append_right _ (by simp)
  · have h1 := I.tsz
    have h2 := I.lens
    have h3 := I.al45
    rw [List.length_map] at h2
    omega
  · exact h _ tpn _ kk si k h' (I.inner hms hm4 hys) F (objs_in N)
theorem ow_last (B : Below A₀ base outer h₀) (X₀ : (KK w.params).In h₀) (T : Top p loose mean mg mb h₀) (hA' : A.frames = some (lwE L fa cd :: outer)) (hh : A.handled = none) (hdp : A.depth < 360) (hun : A.units < 60)
    (O : OwA a L rA wdA itA) {al : List Nat} {pre : List Value} {tpn wn : Nat} {pl ln : Int} {plt lnt : Tok} {con ws : List Nat} {pend : List (Nat × Nat)} {wq : List (Nat × Tok)} {sl : List Sg} {sgA : Addr} {kk si : Option Value} {tt : Tok}
    (I : OwI al tnn pre pl ln con ws pend wq (sl.map (·.c))) (hs : SgOk a rA itA sgA) (hq : ∀ q ∈ sl, SgOk a rA itA q.a ∧ q.k < 100) (hT : cT.data = .cell (some (.int (tnn : Nat) tt)))
    (F : Fr h₀ L s.heap (mL hp (some (.int (tnn : Nat) tnt)) (some (.int mxi mt)) (some (.ref sgA)) (some (.ref a.tapeA)) (some (.ref wdA)) kk si))
    (N : News h₀ L s.heap (owN w.params a L rA wdA itA rs cL cR cT tb pre tpn pl plt ln lnt wq wn ro sgA sl))
    (h : ∀ pre tpn pend kk si k h', OwI al tnn pre pl ln con ws pend wq [] → Fr h₀ L h' (mL hp (some (.int (tnn : Nat) tnt)) (some (.int mxi mt)) (some (.ref sgA)) (some (.ref a.tapeA)) (some (.ref wdA)) kk si) →
      News h₀ L h' (owN w.params a L rA wdA itA rs cL cR cT tb pre tpn pl plt ln lnt wq wn ro sgA sl) → Q .next { s with heap := h', toks := k }) :
    wpAny (model PySem.Challenge.rw_rs0059_01.row.prog w) A (execs (forBody lwF) (lwE L fa cd)) Q E s := by
  show wpAny _ _ (execs [iwF, owI] _) _ _ _
  refine wpAny_execs_cons ?_
  refine ow_inner B X₀ T hA' hh hdp hun O I hs hq F N fun pre tpn pend kk si k h' I F N => ?_
  show wpAny _ _ (execs [owI] _) _ _ _
  refine wpAny_execs_cons ?_
  refine ow_else (E := E) (news := owN w.params a L rA wdA itA rs cL cR cT tb pre tpn pl plt ln lnt wq wn ro sgA sl) B X₀ T hA' hh hdp hun hT F (fun p hp => N p (by rcases List.mem_cons.mp hp with rfl | hp; (unfold owN; simp); exact hp)) fun k h' F N => ?_
  dsimp only
  refine wpAny_execs_nil ?_
  exact h pre tpn pend kk si _ h' I F (nT N)
theorem ow_turn (B : Below A₀ base outer h₀) (X₀ : (KK w.params).In h₀) (T : Top p loose mean mg mb h₀) (hA' : A.frames = some (lwE L fa cd :: outer)) (hh : A.handled = none) (hdp : A.depth < 360) (hun : A.units < 60)
    (O : OwA a L rA wdA itA) {t : Nat} {pre : List Value} {tpn wn : Nat} {pl ln : Int} {plt lnt : Tok} {con ws : List Nat} {pend : List (Nat × Nat)} {wq : List (Nat × Tok)} {sl : List Sg} {sgA : Addr} {kk si : Option Value} {tt : Tok}
    (hr1 : 1 ≤ rs.length) (hr3 : rs.length ≤ 3) (hR : cR.data = .cell (some (.ref rA))) (hL : cL.data = .cell (some (.ref a.lexA))) (htn : t < tnn) (hn14 : tnn < 14)
    (I : OwI (putF (rs.map (·.1)) t) t pre pl ln con ws pend wq (sl.map (·.c))) (hs : SgOk a rA itA sgA) (hq : ∀ q ∈ sl, SgOk a rA itA q.a ∧ q.k < 100) (hT : cT.data = .cell (some (.int (t : Nat) tt)))
    (F : Fr h₀ L s.heap (mL hp (some (.int (tnn : Nat) tnt)) (some (.int mxi mt)) (some (.ref sgA)) (some (.ref a.tapeA)) (some (.ref wdA)) kk si))
    (N : News h₀ L s.heap (owN w.params a L rA wdA itA rs cL cR cT tb pre tpn pl plt ln lnt wq wn ro sgA sl))
    (h : ∀ pre tpn wn pl ln plt lnt con ws pend wq sl sgA kk si k h', OwI (putF (rs.map (·.1)) (t + 1)) (t + 1) pre pl ln con ws pend wq (sl.map (·.c)) → SgOk a rA itA sgA → (∀ q ∈ sl, SgOk a rA itA q.a ∧ q.k < 100) →
      Fr h₀ L h' (mL hp (some (.int (tnn : Nat) tnt)) (some (.int mxi mt)) (some (.ref sgA)) (some (.ref a.tapeA)) (some (.ref wdA)) kk si) →
      News h₀ L h' (owN w.params a L rA wdA itA rs cL cR cT tb pre tpn pl plt ln lnt wq wn ro sgA sl) → Q .next { s with heap := h', toks := k }) :
    wpAny (model PySem.Challenge.rw_rs0059_01.row.prog w) A (execs (forBody lwF) (lwE L fa cd)) Q E s := by
  show wpAny _ _ (execs [iwF, owI] _) _ _ _
  refine wpAny_execs_cons ?_
  refine ow_inner B X₀ T hA' hh hdp hun O I hs hq F N fun pre tpn pend kk si k h' I F N => ?_
  show wpAny _ _ (execs [owI] _) _ _ _
  refine wpAny_execs_cons ?_
  refine ow_if (E := E) (news := owN w.params a L rA wdA itA rs cL cR cT tb pre tpn pl plt ln lnt wq wn ro sgA sl) B X₀ T hA' hh hdp hun htn hT F (fun p hp => N p (by rcases List.mem_cons.mp hp with rfl | hp; (unfold owN; simp); exact hp)) fun k h' F N => ?_
  replace N := nT N
  show wpAny _ _ (execs [nthS 0 owB, nthS 1 owB] _) _ _ _
  refine wpAny_execs_cons ?_
  obtain ⟨c, mn, pend', e⟩ : ∃ c mn pend', pend = (c, mn) :: pend' := by
    match pend, I.lens with
    | [], e => rw [putF_len, List.length_map] at e; simp at e; omega
    | (c, mn) :: pend', _ => exact ⟨c, mn, pend', rfl⟩
  subst e
  obtain ⟨hc, hget, hrem, hnext⟩ := I.take
  have hsz : (rowV wq).toArray.size ≤ 5000 := by
    rw [List.size_toArray]; show (wq.map _).length ≤ 5000
    rw [List.length_map, I.len]; omega
  refine ow_word B X₀ T hA' hh hdp hun O.ok hL F N mn hc I.wsW I.ws3 hrem I.small.1 I.small.2 hsz (ow_apart O hs hq) O.w1 (ow_nwd O hs hq) fun tk k plt lnt h' pl' ln' epl eln F N _ => ?_
  replace I := hnext tk pl' ln' epl eln
  rw [show (rowV wq).toArray.push (.str ⟨#[c]⟩ tk) = (rowV (wq ++ [(c, tk)])).toArray by simp [rowV]] at N
  dsimp only
  refine wpAny_execs_cons ?_
  have hwl : wq.length = t := by have := I.len; rw [List.length_append] at this; simpa using this
  refine ow_signs (c := c) (ct := tk) (wq := wq ++ [(c, tk)]) (wn := wn + 1) (news := a.objs w.params pre.toArray tpn pl' plt 0 ln' lnt ++ [(L + 3, cL), (itA, ro), (108, tb)]) B X₀ T hA' hh hdp hun hr3 hR I.len (by omega) hc ?_ hT F ?_ fun sgA sl k h' hsl hsa hlo F N => ?_
  · rw [← hwl, List.getElem?_append_right (Nat.le_refl _), Nat.sub_self]; rfl
  · intro p hp
    refine N p ?_
    simp only [List.mem_cons, List.mem_append] at hp ⊢
    grind
  dsimp only
  refine wpAny_execs_nil ?_
  show wpAny _ _ (execs [] _) _ _ _
  refine wpAny_execs_nil ?_
  have hiS : itA < sgA := hlo (itA, ro) (by simp)
  refine h pre tpn (wn + 1) pl' ln' plt lnt (con ++ (ws ++ coreL c mn)) (tailL mn) pend' (wq ++ [(c, tk)]) sl sgA kk si _ h' ?_ (.inr hiS) (fun q hq => ⟨.inr (Nat.lt_trans hiS (hsa q hq).1), (hsa q hq).2⟩) F ?_
  · rw [hsl]
    have e : putF (rs.map (·.1)) (t + 1) = putF (rs.map (·.1)) t ++ quoteL c := by
      show putF _ t ++ quoteL ((putF _ t).getD t 0) = _
      rw [List.getD_eq_getElem?_getD, hget]; rfl
    rw [e]
    refine I.more _ (quote_lt hc) ?_
    rw [putF_len, List.length_map, show (quoteL c).length = 3 from rfl]; omega
  · intro p hp
    refine N p ?_
    unfold owN at hp
    simp only [List.mem_cons, List.mem_append] at hp ⊢
    grind
end
end Mine
end
section
open PySem PySem.W PySem.Calls PyProof.Rows PyProof.Rows.LCg
set_option maxRecDepth 100000
set_option maxHeartbeats 0
set_option linter.unusedVariables false
namespace Mine
local macro_rules | `(tactic| k_room) => `(tactic| ((try simp only [depth_under_make, depth_under_kw, depth_in1, depth_deeper, depth_caller]); (try dsimp only); simp only [recursionLimit]; omega))
local macro_rules | `(tactic| k_all) => `(tactic| first | assumption | exact ne_of_lo (by assumption) | (refine ne_of_all (by assumption) ?_; (try dsimp only); omega))
section
variable {a : RdA} {L rA wdA itA sgA : Addr} {sl : List Sg} {P : Params} {cL cR cT ro oW oR tb : Obj}
theorem objs_ge {tape : Array Value} {tpn pn : Nat} {pl ln : Int} {plt lnt : Tok} (O : a.Ok) : ∀ p ∈ a.objs P tape tpn pl plt pn ln lnt, a.cP ≤ p.1 := fun p hp => by
  obtain ⟨-, -, -, -, o1, o2, o3, o4, o5, o6, o7, o8, o9, o10⟩ := O
  simp only [RdA.objs, List.mem_cons, List.not_mem_nil, or_false] at hp
  rcases hp with rfl | rfl | rfl | rfl | rfl | rfl | rfl | rfl | rfl | rfl | rfl <;> (dsimp only; omega)
/-- all but the turn's cell and the loop's iterator -/
def owR (P : Params) (a : RdA) (L rA wdA : Addr) (rs : List (Nat × Tok)) (cL cR tb : Obj) (pre : List Value) (tpn : Nat) (pl : Int) (plt : Tok) (ln : Int) (lnt : Tok) (wq : List (Nat × Tok)) (wn : Nat) (sgA : Addr) (sl : List Sg) : List (Addr × Obj) :=
  a.objs P pre.toArray tpn pl plt 0 ln lnt ++ ((wdA, listOf (rowV wq).toArray wn) :: (L + 3, cL) :: (rA, lst (rowV rs)) :: (L + 2, cR) :: (108, tb) :: (sgA, lst (sgV sl)) :: sgO sl)
theorem ow_nrest (O : OwA a L rA wdA itA) (hs : SgOk a rA itA sgA) (hq : ∀ q ∈ sl, SgOk a rA itA q.a ∧ q.k < 100) {rs wq : List (Nat × Tok)} {pre : List Value} {tpn wn : Nat} {pl ln : Int} {plt lnt : Tok} :
    ∀ p ∈ owR P a L rA wdA rs cL cR tb pre tpn pl plt ln lnt wq wn sgA sl, p.1 ≠ itA ∧ p.1 ≠ L + 4 := fun p hp => by
  have h0 := O.cp
  have O' := O
  obtain ⟨hO, hr0, h1, h2, h3, h4⟩ := O
  have h1' : L + 4 < rA := h1
  unfold owR at hp
  rcases List.mem_append.mp hp with hp | hp
  · have q1 := objs_ge hO p hp
    have q2 := objs_lt hO p hp
    unfold Addr at *
    exact ⟨by omega, by omega⟩
  simp only [List.mem_cons] at hp
  rcases hp with rfl | rfl | rfl | rfl | rfl | rfl | hp
  · exact ⟨Nat.ne_of_lt h4, show wdA ≠ L + 4 by unfold Addr at *; omega⟩
  · exact ⟨show L + 3 ≠ itA by unfold Addr at *; omega, show L + 3 ≠ L + 4 by unfold Addr at *; omega⟩
  · exact ⟨show rA ≠ itA by unfold Addr at *; omega, show rA ≠ L + 4 by unfold Addr at *; omega⟩
  · exact ⟨show L + 2 ≠ itA by unfold Addr at *; omega, show L + 2 ≠ L + 4 by unfold Addr at *; omega⟩
  · exact ⟨show 108 ≠ itA by unfold Addr at *; omega, show 108 ≠ L + 4 by unfold Addr at *; omega⟩
  · exact ⟨(sg_apart O' hs).2.2.2.2.2, (sg_apart O' hs).2.2.2.2.1⟩
  · obtain ⟨q, hq', e⟩ := sgO_mem hp
    rw [e]
    exact ⟨(sg_apart O' (hq q hq').1).2.2.2.2.2, (sg_apart O' (hq q hq').1).2.2.2.2.1⟩
theorem owN_in {h₀ h : Heap} {rs wq : List (Nat × Tok)} {pre : List Value} {tpn wn : Nat} {pl ln : Int} {plt lnt : Tok} (N : News h₀ L h ((itA, ro) :: (L + 4, cT) :: owR P a L rA wdA rs cL cR tb pre tpn pl plt ln lnt wq wn sgA sl)) :
    News h₀ L h (owN P a L rA wdA itA rs cL cR cT tb pre tpn pl plt ln lnt wq wn ro sgA sl) := fun p hp => N p (by
  unfold owN at hp
  unfold owR
  simp only [List.mem_cons, List.mem_append] at hp ⊢
  grind)
theorem owN_out {h₀ h : Heap} {rs wq : List (Nat × Tok)} {pre : List Value} {tpn wn : Nat} {pl ln : Int} {plt lnt : Tok} (N : News h₀ L h (owN P a L rA wdA itA rs cL cR cT tb pre tpn pl plt ln lnt wq wn ro sgA sl)) :
    News h₀ L h ((itA, ro) :: (L + 4, cT) :: owR P a L rA wdA rs cL cR tb pre tpn pl plt ln lnt wq wn sgA sl) := fun p hp => N p (by
  unfold owR at hp
  unfold owN
  simp only [List.mem_cons, List.mem_append] at hp ⊢
  grind)
end
section
variable {w : World} {A A₀ : Around} {s : Shared} {base h₀ : Heap} {outer : List Env} {L fa rA wdA itA : Addr} {cd : Value} {mg mb : Str → Option Value} {p : Program} {loose : List Str} {mean : ExcName → Option Value}
  {Q : Flow → Shared → Prop} {E : Value → Shared → Prop} {cR cL cT ro tb : Obj} {rs : List (Nat × Tok)} {hp : Option Value} {a : RdA} {tnn : Nat} {tnt mt : Tok} {mxi : Int}
theorem ow_loop (B : Below A₀ base outer h₀) (X₀ : (KK w.params).In h₀) (T : Top p loose mean mg mb h₀) (hA' : A.frames = some (lwE L fa cd :: outer)) (hh : A.handled = none) (hdp : A.depth < 360) (hun : A.units < 60)
    (O : OwA a L rA wdA itA) {px : Pos} (hr1 : 1 ≤ rs.length) (hr3 : rs.length ≤ 3) (hR : cR.data = .cell (some (.ref rA))) (hL : cL.data = .cell (some (.ref a.lexA))) (hn14 : tnn < 14)
    (h : ∀ pre tpn wn pl ln plt lnt con ws pend wq sl sgA kk si k h', OwI (putF (rs.map (·.1)) tnn) tnn pre pl ln con ws pend wq [] →
      Fr h₀ L h' (mL hp (some (.int (tnn : Nat) tnt)) (some (.int mxi mt)) (some (.ref sgA)) (some (.ref a.tapeA)) (some (.ref wdA)) kk si) →
      News h₀ L h' (owR w.params a L rA wdA rs cL cR tb pre tpn pl plt ln lnt wq wn sgA sl) → Q .next { s with heap := h', toks := k }) :
    ∀ (r t k : Nat) (hp' : Heap) (cT : Obj) (vT : Option Value) (pre : List Value) (tpn wn : Nat) (pl ln : Int) (plt lnt : Tok) (con ws : List Nat) (pend : List (Nat × Nat)) (wq : List (Nat × Tok)) (sl : List Sg) (sgA : Addr) (kk si : Option Value),
      t + r = tnn → OwI (putF (rs.map (·.1)) t) t pre pl ln con ws pend wq (sl.map (·.c)) → SgOk a rA itA sgA → (∀ q ∈ sl, SgOk a rA itA q.a ∧ q.k < 100) → cT.data = .cell vT →
      Fr h₀ L hp' (mL hp (some (.int (tnn : Nat) tnt)) (some (.int mxi mt)) (some (.ref sgA)) (some (.ref a.tapeA)) (some (.ref wdA)) kk si) →
      News h₀ L hp' (owN w.params a L rA wdA itA rs cL cR cT tb pre tpn pl plt ln lnt wq wn (rgO (t : Nat) ((r : Int) + 1)) sgA sl) →
      ForAt PySem.Challenge.rw_rs0059_01.row.prog w A (.Name (Str.ofString "turn") px) (.ref itA) (forBody lwF) (lwE L fa cd) Q { s with heap := hp', toks := k } := by
  intro r
  induction r with
  | zero =>
    intro t k hp' cT vT pre tpn wn pl ln plt lnt con ws pend wq sl sgA kk si htr I hs hq hT F N
    obtain rfl : t = tnn := by omega
    have h4i : L + 4 ≠ itA := by have := O.r1; have := O.r2; have := O.cp; have := O.w1; have := O.i1; unfold Addr at *; omega
    have hN1 : ∀ {cT : Obj} {rs wq : List (Nat × Tok)} {pre : List Value} {tpn wn : Nat} {pl ln : Int} {plt lnt : Tok}, ∀ p ∈ (L + 4, cT) :: owR w.params a L rA wdA rs cL cR tb pre tpn pl plt ln lnt wq wn sgA sl, p.1 ≠ itA := fun p hp => by
      rcases List.mem_cons.mp hp with rfl | hp
      · exact h4i
      · exact (ow_nrest O hs hq p hp).1
    refine ForAt.turn (rg_item F (owN_out N) hN1 (by show (0 : Int) < 0 + 1; decide) fun tt k h' F N => ?_)
    dsimp only
    refine go_name ?_
    refine wpAny_assign_Name (wpAny_storeName_cell rfl rfl rfl ⟨cT, N.get (.tail _ (.head _)), hT⟩ fun h' hv hsb => ?_)
    obtain ⟨cT', ho', hd'⟩ := hv
    replace F := F.change hsb (N (L + 4, cT) (.tail _ (.head _))).2.1 (N.fresh (.tail _ (.head _)))
    have N1 : News h₀ L h' ((itA, rgO ((t : Int) + 1) (((0 : Nat) : Int) + 1 - 1)) :: (L + 4, cT') :: owR w.params a L rA wdA rs cL cR tb pre tpn pl plt ln lnt wq wn sgA sl) :=
      News.setAt (own := [(itA, rgO ((t : Int) + 1) (((0 : Nat) : Int) + 1 - 1))]) N (fun p hp => by rw [List.mem_singleton.mp hp]; exact Ne.symm h4i) (fun p hp => (ow_nrest O hs hq p hp).2) hsb ho'
    refine ow_last B X₀ T hA' hh hdp hun O I hs hq hd' F (owN_in N1) fun pre tpn pend kk si k h' I F N => ?_
    show ForAt _ _ _ _ _ _ _ _ _
    refine ForAt.turn (rg_end hh F (owN_out N) hN1 (by show (0 : Int) + 1 - 1 ≤ 0; decide) fun h' F N => ?_)
    exact h pre tpn wn pl ln plt lnt con ws pend wq sl sgA kk si _ h' I F (nT N)
  | succ r ih =>
    intro t k hp' cT vT pre tpn wn pl ln plt lnt con ws pend wq sl sgA kk si htr I hs hq hT F N
    have h4i : L + 4 ≠ itA := by have := O.r1; have := O.r2; have := O.cp; have := O.w1; have := O.i1; unfold Addr at *; omega
    have hN1 : ∀ {cT : Obj} {rs wq : List (Nat × Tok)} {pre : List Value} {tpn wn : Nat} {pl ln : Int} {plt lnt : Tok}, ∀ p ∈ (L + 4, cT) :: owR w.params a L rA wdA rs cL cR tb pre tpn pl plt ln lnt wq wn sgA sl, p.1 ≠ itA := fun p hp => by
      rcases List.mem_cons.mp hp with rfl | hp
      · exact h4i
      · exact (ow_nrest O hs hq p hp).1
    refine ForAt.turn (rg_item F (owN_out N) hN1 (by omega) fun tt k h' F N => ?_)
    dsimp only
    refine go_name ?_
    refine wpAny_assign_Name (wpAny_storeName_cell rfl rfl rfl ⟨cT, N.get (.tail _ (.head _)), hT⟩ fun h' hv hsb => ?_)
    obtain ⟨cT', ho', hd'⟩ := hv
    replace F := F.change hsb (N (L + 4, cT) (.tail _ (.head _))).2.1 (N.fresh (.tail _ (.head _)))
    have N1 : News h₀ L h' ((itA, rgO ((t : Int) + 1) (((r + 1 : Nat) : Int) + 1 - 1)) :: (L + 4, cT') :: owR w.params a L rA wdA rs cL cR tb pre tpn pl plt ln lnt wq wn sgA sl) :=
      News.setAt (own := [(itA, rgO ((t : Int) + 1) (((r + 1 : Nat) : Int) + 1 - 1))]) N (fun p hp => by rw [List.mem_singleton.mp hp]; exact Ne.symm h4i) (fun p hp => (ow_nrest O hs hq p hp).2) hsb ho'
    refine ow_turn B X₀ T hA' hh hdp hun O hr1 hr3 hR hL (by omega) hn14 I hs hq hd' F (owN_in N1) fun pre tpn wn pl ln plt lnt con ws pend wq sl sgA kk si k h' I hs hq F N => ?_
    show ForAt _ _ _ _ _ _ _ _ _
    rw [show ((r + 1 : Nat) : Int) + 1 - 1 = (r : Int) + 1 by omega, show (t : Int) + 1 = ((t + 1 : Nat) : Int) by omega] at N
    exact ih (t + 1) k h' cT' _ pre tpn wn pl ln plt lnt con ws pend wq sl sgA kk si (by omega) I hs hq hd' F N
end
def forIt (s : Stmt) : Expr := match s with | .For _ i _ _ _ => i | _ => default
section
variable {w : World} {A A₀ : Around} {s : Shared} {base h₀ : Heap} {outer : List Env} {L fa rA wdA : Addr} {cd : Value} {mg mb : Str → Option Value} {p : Program} {loose : List Str} {mean : ExcName → Option Value} {news : List (Addr × Obj)}
  {E : Value → Shared → Prop} {cR cL cT ro tb : Obj} {rs : List (Nat × Tok)} {hp mx sg tp wd kk si : Option Value} {a : RdA} {tnn : Nat} {tnt mt : Tok} {mxi : Int}
theorem ow_iter (B : Below A₀ base outer h₀) (X₀ : (KK w.params).In h₀) (T : Top p loose mean mg mb h₀) (hA' : A.frames = some (lwE L fa cd :: outer)) (hh : A.handled = none) (hdp : A.depth < 360) (hun : A.units < 60) (hn14 : tnn < 14)
    (F : Fr h₀ L s.heap (mL hp (some (.int (tnn : Nat) tnt)) mx sg tp wd kk si)) (N : News h₀ L s.heap news) {Q : Value → Shared → Prop}
    (h : ∀ it k h', (∀ p ∈ news, p.1 < it) → Fr h₀ L h' (mL hp (some (.int (tnn : Nat) tnt)) mx sg tp wd kk si) → News h₀ L h' ((it, rgO 0 ((tnn : Int) + 1)) :: news) → Q (.ref it) { s with heap := h', toks := k }) :
    wpAny (model PySem.Challenge.rw_rs0059_01.row.prog w) A (eval (forIt lwF) (lwE L fa cd)) (fun x s₁ => wpAny (model PySem.Challenge.rw_rs0059_01.row.prog w) A (pyIter x) Q E s₁) E s := by
  obtain ⟨hnd, dp, fr, gu, un⟩ := A
  cases hh
  cases hA'
  replace hdp : dp < 360 := hdp
  replace hun : un < 60 := hun
  revert X₀
  k_fill
  intro X₀
  (conv in forIt lwF => whnf)
  (try k_fold)
  repeat' (first | (k_unfold; (try dsimp only)) | walk1 | (dsimp only; walk1))
  rename IsRange _ _ _ _ _ _ _ _ => kR
  rename Fr h₀ _ _ _ => kF
  rename News h₀ _ _ _ => kN
  refine rg_iter kF kN kR (small_one (by decide) (by decide) (by omega) (by omega)) fun it h' hlt _ F N => ?_
  rw [rangeSize_nat, show (((tnn : Int) + 1 - 0).toNat : Int) = (tnn : Int) + 1 by omega] at N
  exact h it _ h' hlt F N
theorem ls_6 (B : Below A₀ base outer h₀) (X₀ : (KK w.params).In h₀) (T : Top p loose mean mg mb h₀) (hA' : A.frames = some (lwE L fa cd :: outer)) (hh : A.handled = none) (hdp : A.depth < 360) (hun : A.units < 60) (hn14 : tnn < 14)
    {sl : List Sg} {sgA : Addr} {plt lnt tt : Tok} {vT : Option Value} {Q : Flow → Shared → Prop} (Oa : a.Ok) (h108 : 108 < L) (hr : L + 4 < rA) (hrs : rA < sgA) (hsc : sgA < a.cP) (hsl : ∀ q ∈ sl, sgA < q.a ∧ q.a < a.cP ∧ q.k < 100) (hwd : a.pushA < wdA)
    (hr1 : 1 ≤ rs.length) (hr3 : rs.length ≤ 3) (hb : ∀ r ∈ rs, r.1 < 256) (hR : cR.data = .cell (some (.ref rA))) (hL : cL.data = .cell (some (.ref a.lexA))) (hT : cT.data = .cell vT) (hse : sl.map (·.c) = rs.map (·.1))
    (F : Fr h₀ L s.heap (mL hp (some (.int (tnn : Nat) tnt)) (some (.int mxi mt)) (some (.ref sgA)) (some (.ref a.tapeA)) (some (.ref wdA)) kk si))
    (N : News h₀ L s.heap ((L + 4, cT) :: owR w.params a L rA wdA rs cL cR tb [] 0 0 plt 1 lnt [] 0 sgA sl))
    (h : ∀ pre tpn wn pl ln plt lnt con ws pend wq sl sgA kk si k h', OwI (putF (rs.map (·.1)) tnn) tnn pre pl ln con ws pend wq [] →
      Fr h₀ L h' (mL hp (some (.int (tnn : Nat) tnt)) (some (.int mxi mt)) (some (.ref sgA)) (some (.ref a.tapeA)) (some (.ref wdA)) kk si) →
      News h₀ L h' (owR w.params a L rA wdA rs cL cR tb pre tpn pl plt ln lnt wq wn sgA sl) → Q .next { s with heap := h', toks := k }) :
    wpAny (model PySem.Challenge.rw_rs0059_01.row.prog w) A (exec (nthS 6 lwB) (lwE L fa cd)) Q E s := by
  obtain ⟨px, fpos, es⟩ : ∃ px fpos, nthS 6 lwB = .For (.Name (Str.ofString "turn") px) (forIt lwF) (forBody lwF) [] fpos := ⟨_, _, rfl⟩
  rw [es]
  refine For_at ?_ (by intro _; rfl)
  refine ow_iter B X₀ T hA' hh hdp hun hn14 F N fun it k h' hlt F N => ?_
  have hwi : wdA < it := hlt (wdA, listOf (rowV []).toArray 0) (.tail _ (List.mem_append_right _ (.head _)))
  have O : OwA a L rA wdA it := ⟨Oa, h108, hr, Nat.lt_trans hrs hsc, hwd, hwi⟩
  refine ow_loop B X₀ T hA' hh hdp hun O hr1 hr3 hR hL hn14 (fun pre tpn wn pl ln plt lnt con ws pend wq sl sgA kk si k h' I F N => h pre tpn wn pl ln plt lnt con ws pend wq sl sgA kk si k h' I F N) tnn 0 k h' cT vT [] 0 0 0 1 plt lnt [] [] [] [] sl sgA kk si (Nat.zero_add _) ?_ (.inl ⟨hrs, hsc⟩) (fun q hq => ⟨.inl ⟨Nat.lt_trans hrs (hsl q hq).1, (hsl q hq).2.1⟩, (hsl q hq).2.2⟩) hT F (owN_in N)
  exact ⟨by show [] ++ ([] ++ _) = rs.map (·.1); rw [List.nil_append, List.nil_append]; exact hse, rfl, .nil, rfl, rfl, fun _ q => (nomatch q), Nat.zero_le _, fun _ q => (nomatch q), Nat.le_refl _, fun c hc => by obtain ⟨r, hr, rfl⟩ := List.mem_map.mp hc; exact hb r hr, by show (rs.map _).length ≤ 45; rw [List.length_map]; omega⟩
end
end Mine
end
section
open PySem PySem.W PySem.Calls PyProof.Rows PyProof.Rows.LCg
set_option maxRecDepth 100000
set_option maxHeartbeats 0
set_option linter.unusedVariables false
namespace Mine
local macro_rules | `(tactic| k_room) => `(tactic| ((try simp only [depth_under_make, depth_under_kw, depth_in1, depth_deeper, depth_caller]); (try dsimp only); simp only [recursionLimit]; omega))
local macro_rules | `(tactic| k_all) => `(tactic| first | assumption | exact ne_of_lo (by assumption) | (refine ne_of_all (by assumption) ?_; (try dsimp only); omega))
local macro_rules | `(tactic| walk_at "call builtin:len") => `(tactic| (k_here; (with_reducible show wpAny _ _ (call (Value.builtin "len") [Value.ref _]) _ _ _); k_dflt (refine' len_row ?N ?m ?f ?_; (case N => k_asm); (case m => exact .head _); (case f => omega))))
def e7 : Expr := cExp (nthS 7 lwB)
section
variable {w : World} {A A₀ : Around} {s : Shared} {base h₀ : Heap} {outer : List Env} {L fa rA wdA : Addr} {cd : Value} {m mg mb : Str → Option Value} {p : Program} {loose : List Str} {mean : ExcName → Option Value} {news : List (Addr × Obj)}
  {E : Value → Shared → Prop} {cR cL cT ro : Obj} {rs : List (Nat × Tok)} {hp mx sg tp wd kk si : Option Value} {a : RdA} {tnn : Nat} {tnt mt : Tok} {mxi : Int}
theorem c7_iter (B : Below A₀ base outer h₀) (X₀ : (KK w.params).In h₀) (T : Top p loose mean mg mb h₀) (hA' : A.frames = some (lwE L fa cd :: outer)) (hh : A.handled = none) (hdp : A.depth < 360) (hun : A.units < 60) (hn14 : tnn < 14) (hr3 : rs.length ≤ 3) (hR : cR.data = .cell (some (.ref rA)))
    (F : Fr h₀ L s.heap (mL hp (some (.int (tnn : Nat) tnt)) mx sg tp wd kk si)) (N : News h₀ L s.heap ((rA, lst (rowV rs)) :: (L + 2, cR) :: news)) {Q : Value → Shared → Prop}
    (h : ∀ it k h', (∀ p ∈ (rA, lst (rowV rs)) :: (L + 2, cR) :: news, p.1 < it) → Fr h₀ L h' (mL hp (some (.int (tnn : Nat) tnt)) mx sg tp wd kk si) → News h₀ L h' ((it, rgO 0 ((rs.length + 2 * tnn : Nat) : Int)) :: (rA, lst (rowV rs)) :: (L + 2, cR) :: news) → Q (.ref it) { s with heap := h', toks := k }) :
    wpAny (model PySem.Challenge.rw_rs0059_01.row.prog w) A (eval (cIter e7) (lwE L fa cd)) (fun x s₁ => wpAny (model PySem.Challenge.rw_rs0059_01.row.prog w) A (pyIter x) Q E s₁) E s := by
  obtain ⟨hnd, dp, fr, gu, un⟩ := A
  cases hh
  cases hA'
  replace hdp : dp < 360 := hdp
  replace hun : un < 60 := hun
  revert X₀
  k_fill
  intro X₀
  (conv in cIter e7 => whnf)
  (try k_fold)
  repeat' (first | (k_unfold; (try dsimp only)) | walk1 | (dsimp only; walk1))
  rename IsRange _ _ _ _ _ _ _ _ => kR
  rename Fr h₀ _ _ _ => kF
  rename News h₀ _ _ _ => kN
  refine rg_iter kF kN kR (small_one (by decide) (by decide) (by omega) (by omega)) fun it h' hlt _ F N => ?_
  rw [rangeSize_nat, show (((rs.length : Int) + 2 * (tnn : Int) - 0).toNat : Int) = ((rs.length + 2 * tnn : Nat) : Int) by omega] at N
  exact h it _ h' hlt F N
theorem c7_elt (B : Below A₀ base outer h₀) (X₀ : (KK w.params).In h₀) (T : Top p loose mean mg mb h₀) (hA' : A.frames = some (lwE L fa cd :: outer)) (hh : A.handled = none) (hdp : A.depth < 360) (hun : A.units < 60) (O : a.Ok)
    (hL : cL.data = .cell (some (.ref a.lexA))) {C : Addr} {oC : Obj} {mc : Str → Option Value} {Q : Value → Shared → Prop} {tape : Array Value} {tpn pn : Nat} {pl ln : Int} {plt lnt : Tok}
    (F : Fr h₀ L s.heap m) (N : News h₀ L s.heap (a.objs w.params tape tpn pl plt pn ln lnt ++ (C, oC) :: (L + 3, cL) :: news)) (hC : NsObj oC mc)
    {ws r : List Nat} {c : Nat} (mn : Nat) (hc : c < 256) (hw : ∀ x ∈ ws, inWs x = true) (hws : ws.length ≤ 3) (H : Rem tape pl (ws ++ (coreL c mn ++ r))) (hl0 : 0 ≤ ln) (hl1 : ln < 70000)
    (hap : Apart a ((C, oC) :: (L + 3, cL) :: news))
    (h : ∀ tk k plt' lnt' h' pl' ln', pl' = pl + ws.length + (coreL c mn).length → ln' = ln + nls ws + nls (coreL c mn) → Fr h₀ L h' m →
      News h₀ L h' (a.objs w.params tape tpn pl' plt' pn ln' lnt' ++ (C, oC) :: (L + 3, cL) :: news) → Rem tape pl' r → Q (.str ⟨#[c]⟩ tk) { s with heap := h', toks := k }) :
    wpAny (model PySem.Challenge.rw_rs0059_01.row.prog w) A (eval (cElt e7) (compEnvC (cScope e7) [(Str.ofString "lexer", L + 3)] C (lwE L fa cd))) Q E s := by
  obtain ⟨hnd, dp, fr, gu, un⟩ := A
  cases hh
  cases hA'
  replace hdp : dp < 360 := hdp
  replace hun : un < 60 := hun
  have O' := O
  obtain ⟨dD, -, -, -, o1, o2, o3, o4, o5, o6, o7, o8, o9, o10⟩ := O
  revert X₀
  k_fill
  intro X₀
  (conv in cElt e7 => whnf)
  (conv in (occs := *) cScope e7 => all_goals whnf)
  simp only [RdA.objs, List.cons_append, List.nil_append] at N
  (try k_fold)
  repeat' ((fail_if_success (with_reducible show wpAny _ _ (call (Value.ref _) _) _ _ _)); first | (k_unfold; (try dsimp only)) | walk1 | (dsimp only; walk1))
  show wpAny _ _ (call (.ref 92) [.ref a.lexA]) _ _ _
  refine wpAny_call (gt_word (a := a) (news := (C, oC) :: (L + 3, cL) :: news) B F X₀ O' N (apart_place hap O') (apart_lex hap O') T rfl rfl rfl rfl (Nat.lt_trans hdp (by decide)) (Nat.lt_trans hun (by decide)) hl0 hl1 mn hc hw hws H
    fun tk k plt' lnt' h' pl' ln' hpl hln F N H => ?_)
  dsimp only
  exact h tk _ plt' lnt' h' pl' ln' hpl hln F N H
theorem c7_loop (B : Below A₀ base outer h₀) (X₀ : (KK w.params).In h₀) (T : Top p loose mean mg mb h₀) (hA' : A.frames = some (lwE L fa cd :: outer)) (hh : A.handled = none) (hdp : A.depth < 360) (hun : A.units < 60) (O : a.Ok)
    (hL : cL.data = .cell (some (.ref a.lexA))) {C D it : Addr} {R : Result → Shared → Prop} {pre : List Value} {tpn pn : Nat} {al : List Nat} {t0 : Nat} {wq : List (Nat × Tok)}
    (hDC : D < C) (hiD : it < D) (hai : a.pushA < it) (hn : ∀ p ∈ (L + 3, cL) :: news, p.1 < it) (hap : Apart a ((L + 3, cL) :: news))
    (hR : ∀ k h' qs pl plt ln lnt con ws oC mc, OwI al al.length pre pl ln con ws [] (wq ++ qs) [] → NsObj oC mc → Fr h₀ L h' m → News h₀ L h' (a.objs w.params pre.toArray tpn pl plt pn ln lnt ++ (C, oC) :: (L + 3, cL) :: (D, lst (rowV qs)) :: news) → R (.ok .next) { s with heap := h', toks := k }) :
    ∀ (r i k : Nat) (x : Int) (hp : Heap) (qs : List (Nat × Tok)) (oC : Obj) (mc : Str → Option Value) (pl : Int) (plt : Tok) (ln : Int) (lnt : Tok) (con ws : List Nat) (pend : List (Nat × Nat)), pend.length = r → qs.length = i → OwI al (t0 + i) pre pl ln con ws pend (wq ++ qs) [] → NsObj oC mc → Fr h₀ L hp m →
      News h₀ L hp (a.objs w.params pre.toArray tpn pl plt pn ln lnt ++ (C, oC) :: (L + 3, cL) :: (D, lst (rowV qs)) :: (it, rgO x (r : Nat)) :: news) →
      CompAt PySem.Challenge.rw_rs0059_01.row.prog w A (cElt e7) (cTgt e7) (cIter e7) (cScope e7) (cPos e7) (.ref it) (.ref D) (compEnvC (cScope e7) [(Str.ofString "lexer", L + 3)] C (lwE L fa cd)) R { s with heap := hp, toks := k } := by
  have hcp : ∀ p ∈ (L + 3, cL) :: news, p.1 ≠ it ∧ p.1 ≠ D ∧ p.1 ≠ C := fun p hp => by
    have := hn p hp
    unfold Addr at *
    exact ⟨by omega, by omega, by omega⟩
  have hob : ∀ {tape : Array Value} {tpn pn : Nat} {pl ln : Int} {plt lnt : Tok}, ∀ p ∈ a.objs w.params tape tpn pl plt pn ln lnt, p.1 ≠ it ∧ p.1 ≠ D ∧ p.1 ≠ C := fun p hp => by
    have := objs_lt O p hp
    unfold Addr at *
    exact ⟨by omega, by omega, by omega⟩
  have hneI : ∀ {oC : Obj} {ys : List Value} {tape : Array Value} {tpn pn : Nat} {pl ln : Int} {plt lnt : Tok}, ∀ p ∈ a.objs w.params tape tpn pl plt pn ln lnt ++ (C, oC) :: (L + 3, cL) :: (D, lst ys) :: news, p.1 ≠ it := fun p hp => by
    rcases List.mem_append.mp hp with hp | hp
    · exact (hob p hp).1
    simp only [List.mem_cons] at hp
    rcases hp with rfl | rfl | rfl | hp
    · exact Nat.ne_of_gt (Nat.lt_trans hiD hDC)
    · exact (hcp _ (.head _)).1
    · exact Nat.ne_of_gt hiD
    · exact (hcp _ (.tail _ hp)).1
  have toI : ∀ {h : Heap} {oC ro : Obj} {ys : List Value} {tape : Array Value} {tpn pn : Nat} {pl ln : Int} {plt lnt : Tok}, News h₀ L h (a.objs w.params tape tpn pl plt pn ln lnt ++ (C, oC) :: (L + 3, cL) :: (D, lst ys) :: (it, ro) :: news) →
      News h₀ L h ((it, ro) :: (a.objs w.params tape tpn pl plt pn ln lnt ++ (C, oC) :: (L + 3, cL) :: (D, lst ys) :: news)) := fun N p hp => N p (by simp only [List.mem_cons, List.mem_append] at hp ⊢; grind)
  have ofI : ∀ {h : Heap} {oC ro : Obj} {ys : List Value} {tape : Array Value} {tpn pn : Nat} {pl ln : Int} {plt lnt : Tok}, News h₀ L h ((it, ro) :: (a.objs w.params tape tpn pl plt pn ln lnt ++ (C, oC) :: (L + 3, cL) :: (D, lst ys) :: news)) →
      News h₀ L h ((C, oC) :: (a.objs w.params tape tpn pl plt pn ln lnt ++ (L + 3, cL) :: (D, lst ys) :: (it, ro) :: news)) := fun N p hp => N p (by simp only [List.mem_cons, List.mem_append] at hp ⊢; grind)
  have ofC : ∀ {h : Heap} {oC ro : Obj} {ys : List Value} {tape : Array Value} {tpn pn : Nat} {pl ln : Int} {plt lnt : Tok}, News h₀ L h ((C, oC) :: (a.objs w.params tape tpn pl plt pn ln lnt ++ (L + 3, cL) :: (D, lst ys) :: (it, ro) :: news)) →
      News h₀ L h (a.objs w.params tape tpn pl plt pn ln lnt ++ (C, oC) :: (L + 3, cL) :: (D, lst ys) :: (it, ro) :: news) := fun N p hp => N p (by simp only [List.mem_cons, List.mem_append] at hp ⊢; grind)
  have toD : ∀ {h : Heap} {oC ro : Obj} {ys : List Value} {tape : Array Value} {tpn pn : Nat} {pl ln : Int} {plt lnt : Tok}, News h₀ L h (a.objs w.params tape tpn pl plt pn ln lnt ++ (C, oC) :: (L + 3, cL) :: (D, lst ys) :: (it, ro) :: news) →
      News h₀ L h ((C, oC) :: (D, lst ys) :: (a.objs w.params tape tpn pl plt pn ln lnt ++ (L + 3, cL) :: (it, ro) :: news)) := fun N p hp => N p (by simp only [List.mem_cons, List.mem_append] at hp ⊢; grind)
  have ofD : ∀ {h : Heap} {oC ro : Obj} {ys : List Value} {tape : Array Value} {tpn pn : Nat} {pl ln : Int} {plt lnt : Tok}, News h₀ L h ((C, oC) :: (D, lst ys) :: (a.objs w.params tape tpn pl plt pn ln lnt ++ (L + 3, cL) :: (it, ro) :: news)) →
      News h₀ L h (a.objs w.params tape tpn pl plt pn ln lnt ++ (C, oC) :: (L + 3, cL) :: (D, lst ys) :: (it, ro) :: news) := fun N p hp => N p (by simp only [List.mem_cons, List.mem_append] at hp ⊢; grind)
  intro r
  induction r with
  | zero =>
    intro i k x hp qs oC mc pl plt ln lnt con ws pend hpe hqi I hC F N
    obtain rfl : pend = [] := List.length_eq_zero_iff.mp hpe
    have hl := I.lens
    simp only [List.length_nil, Nat.add_zero] at hl
    rw [hl] at I
    refine CompAt.turn (rg_end hh F (toI N) hneI (Int.le_refl 0) fun h' F N => ?_)
    exact hR _ _ qs pl plt ln lnt con ws oC mc I hC F N
  | succ r ih =>
    intro i k x hp qs oC mc pl plt ln lnt con ws pend hpe hqi I hC F N
    obtain ⟨c, mn, pend', rfl⟩ : ∃ c mn pend', pend = (c, mn) :: pend' := by
      match pend, hpe with
      | (c, mn) :: pend', _ => exact ⟨c, mn, pend', rfl⟩
    obtain ⟨hc, hget, hrem, hnext⟩ := I.take
    refine CompAt.turn (rg_item F (toI N) hneI (by omega) fun t k h' F N => ?_)
    dsimp only
    refine go_name ?_
    refine name_comp (mc := mc) F (ofI N) hC ?_ rfl rfl fun h' k oC' hC' F N => ?_
    · intro p hp
      rcases List.mem_append.mp hp with hp | hp
      · exact (hob p hp).2.2
      simp only [List.mem_cons] at hp
      rcases hp with rfl | rfl | rfl | hp
      · exact (hcp _ (.head _)).2.2
      · exact Nat.ne_of_lt hDC
      · exact Nat.ne_of_lt (Nat.lt_trans hiD hDC)
      · exact (hcp _ (.tail _ hp)).2.2
    dsimp only
    refine c7_elt (mn := mn) B X₀ T hA' hh hdp hun O hL F (ofC N) hC' hc I.wsW I.ws3 hrem I.small.1 I.small.2 ?_ fun tk k plt lnt h' pl' ln' epl eln F N _ => ?_
    · intro p hp
      simp only [List.mem_cons] at hp
      rcases hp with rfl | rfl | rfl | rfl | hp
      · exact .inr (Nat.lt_trans hai (Nat.lt_trans hiD hDC))
      · exact hap _ (.head _)
      · exact .inr (Nat.lt_trans hai hiD)
      · exact .inr hai
      · exact hap _ (.tail _ hp)
    have I' := hnext tk pl' ln' epl eln
    have hqs : qs.length ≤ 200 := by
      have := I.len
      have := I.lens
      have := I.al45
      rw [hqi]; omega
    refine comp_app F (toD N) (Nat.ne_of_gt hDC) ?_ (by show (qs.map _).length ≤ 200; rw [List.length_map]; exact hqs) fun h' F N => ?_
    · intro p hp
      rcases List.mem_append.mp hp with hp | hp
      · exact (hob p hp).2.1
      simp only [List.mem_cons] at hp
      rcases hp with rfl | rfl | hp
      · exact (hcp _ (.head _)).2.1
      · exact Nat.ne_of_lt hiD
      · exact (hcp _ (.tail _ hp)).2.1
    rw [show rowV qs ++ [.str ⟨#[c]⟩ tk] = rowV (qs ++ [(c, tk)]) by simp [rowV], show ((r + 1 : Nat) : Int) - 1 = (r : Nat) by omega] at N
    refine ih (i + 1) _ _ _ (qs ++ [(c, tk)]) oC' _ pl' plt ln' lnt (con ++ (ws ++ coreL c mn)) (tailL mn) pend' (by simpa using hpe) (by rw [List.length_append, hqi]; rfl) ?_ hC' F (ofD N)
    rw [← List.append_assoc wq]; exact I'
end
end Mine
end
section
open PySem PySem.W PySem.Calls PyProof.Rows PyProof.Rows.LCg
set_option maxRecDepth 100000
set_option maxHeartbeats 0
set_option linter.unusedVariables false
namespace Mine
local macro_rules | `(tactic| k_room) => `(tactic| ((try simp only [depth_under_make, depth_under_kw, depth_in1, depth_deeper, depth_caller]); (try dsimp only); simp only [recursionLimit]; omega))
local macro_rules | `(tactic| k_all) => `(tactic| first | assumption | exact ne_of_lo (by assumption) | (refine ne_of_all (by assumption) ?_; (try dsimp only); omega))
section
variable {w : World} {A A₀ : Around} {s : Shared} {base h₀ : Heap} {outer : List Env} {L fa rA wdA : Addr} {cd : Value} {m mg mb : Str → Option Value} {p : Program} {loose : List Str} {mean : ExcName → Option Value} {news : List (Addr × Obj)}
  {E : Value → Shared → Prop} {cR cL cT ro tb : Obj} {rs : List (Nat × Tok)} {hp mx sg tp wd kk si : Option Value} {a : RdA} {tnn : Nat} {tnt mt : Tok} {mxi : Int}
/-- the law's objects behind the outer for -/
def enN (P : Params) (a : RdA) (L rA wdA : Addr) (rs : List (Nat × Tok)) (cL cR tb : Obj) (pre : List Value) (tpn : Nat) (pl : Int) (plt : Tok) (ln : Int) (lnt : Tok) (wq : List (Nat × Tok)) (wn : Nat) : List (Addr × Obj) :=
  a.objs P pre.toArray tpn pl plt 0 ln lnt ++ ((wdA, listOf (rowV wq).toArray wn) :: (L + 3, cL) :: (rA, lst (rowV rs)) :: (L + 2, cR) :: (108, tb) :: [])
theorem c7_eval (B : Below A₀ base outer h₀) (X₀ : (KK w.params).In h₀) (T : Top p loose mean mg mb h₀) (hA' : A.frames = some (lwE L fa cd :: outer)) (hh : A.handled = none) (hdp : A.depth < 360) (hun : A.units < 60) (O : a.Ok) (hn14 : tnn < 14) (hr3 : rs.length ≤ 3) (hR : cR.data = .cell (some (.ref rA)))
    (hL : cL.data = .cell (some (.ref a.lexA))) {pre : List Value} {tpn wn : Nat} {al : List Nat} {wq : List (Nat × Tok)} {pl ln : Int} {plt lnt : Tok} {con ws : List Nat} {pend : List (Nat × Nat)} {Q : Value → Shared → Prop}
    (h108 : 108 < L) (h1 : L + 4 < rA) (h2 : rA < a.cP) (h3 : a.pushA < wdA) (I : OwI al tnn pre pl ln con ws pend wq []) (hal : al.length = rs.length + 3 * tnn)
    (F : Fr h₀ L s.heap (mL hp (some (.int (tnn : Nat) tnt)) mx sg tp wd kk si)) (N : News h₀ L s.heap (enN w.params a L rA wdA rs cL cR tb pre tpn pl plt ln lnt wq wn))
    (h : ∀ k h' D qs pl plt ln lnt con ws, wdA < D → a.pushA < D → OwI al al.length pre pl ln con ws [] (wq ++ qs) [] → Fr h₀ L h' (mL hp (some (.int (tnn : Nat) tnt)) mx sg tp wd kk si) →
      News h₀ L h' ((D, lst (rowV qs)) :: enN w.params a L rA wdA rs cL cR tb pre tpn pl plt ln lnt wq wn) → Q (.ref D) { s with heap := h', toks := k }) :
    wpAny (model PySem.Challenge.rw_rs0059_01.row.prog w) A (eval e7 (lwE L fa cd)) Q E s := by
  have es : e7 = .ListComp (cElt e7) [⟨cTgt e7, cIter e7, [], 0⟩] (cScope e7) (cPos e7) := rfl
  rw [es]
  have hcp : a.cP < a.pushA := by
    obtain ⟨-, -, -, -, o1, o2, o3, o4, o5, o6, o7, o8, o9, o10⟩ := O
    omega
  refine comp_eval (cl := [(Str.ofString "lexer", L + 3)]) (by with_unfolding_all rfl) rfl (by decide) ?_ (by intro _; rfl)
  refine c7_iter (news := enN w.params a L rA wdA rs cL cR tb pre tpn pl plt ln lnt wq wn) B X₀ T hA' hh hdp hun hn14 hr3 hR F (fun p hp => N p (by unfold enN at hp ⊢; simp only [List.mem_cons, List.mem_append] at hp ⊢; grind)) fun it k h' hlt F N => ?_
  refine comp_in F N (.head _) (fun _ _ _ a b => rg_self _ _ _ a b) (by decide) rfl fun C oC D h' k hC hlt' hDC hLD F N => ?_
  have hw : wdA < it := hlt (wdA, listOf (rowV wq).toArray wn) (by unfold enN; simp)
  have hiD : it < D := hlt' _ (.head _)
  have hpl : pend.length = rs.length + 2 * tnn := by
    have := I.lens
    simp only [List.length_nil, Nat.add_zero] at this
    omega
  rw [← hpl] at N
  have hap : Apart a ((L + 3, cL) :: (wdA, listOf (rowV wq).toArray wn) :: (rA, lst (rowV rs)) :: (L + 2, cR) :: (108, tb) :: []) := by
    intro p hp
    simp only [List.mem_cons, List.not_mem_nil, or_false] at hp
    rcases hp with rfl | rfl | rfl | rfl | rfl
    · exact .inl (show L + 3 < a.cP by unfold Addr at *; omega)
    · exact .inr h3
    · exact .inl h2
    · exact .inl (show L + 2 < a.cP by unfold Addr at *; omega)
    · exact .inl (show 108 < a.cP by unfold Addr at *; omega)
  have hnn : ∀ p ∈ (L + 3, cL) :: (wdA, listOf (rowV wq).toArray wn) :: (rA, lst (rowV rs)) :: (L + 2, cR) :: (108, tb) :: [], p.1 < it := by
    intro p hp
    refine hlt p (List.mem_cons_of_mem _ (List.mem_cons_of_mem _ ?_))
    unfold enN
    simp only [List.mem_cons, List.mem_append] at hp ⊢
    grind
  refine c7_loop (t0 := tnn) (al := al) (wq := wq) (pre := pre) (tpn := tpn) (pn := 0) (news := (wdA, listOf (rowV wq).toArray wn) :: (rA, lst (rowV rs)) :: (L + 2, cR) :: (108, tb) :: []) B X₀ T hA' hh hdp hun O hL hDC hiD (Nat.lt_trans h3 hw) hnn hap
    (fun k h' qs pl plt ln lnt con ws oC mc I hC F N => ?_) pend.length 0 _ 0 _ [] oC _ pl plt ln lnt con ws pend rfl rfl (by rw [List.append_nil]; exact I) hC F ?_
  · refine comp_gone (P := Q (.ref D)) F (n_front N) hC ?_ fun h' F N => ?_
    · intro p hp
      rcases List.mem_append.mp hp with hp | hp
      · exact Nat.ne_of_lt (Nat.lt_trans (Nat.lt_of_lt_of_le (objs_lt O p hp) h3) (Nat.lt_trans hw (Nat.lt_trans hiD hDC)))
      · simp only [List.mem_cons, List.not_mem_nil, or_false] at hp
        have h5 : ∀ q ∈ (L + 3, cL) :: (wdA, listOf (rowV wq).toArray wn) :: (rA, lst (rowV rs)) :: (L + 2, cR) :: (108, tb) :: [], q.1 ≠ C := fun q hq => Nat.ne_of_lt (Nat.lt_trans (hnn q hq) (Nat.lt_trans hiD hDC))
        rcases hp with rfl | rfl | rfl | rfl | rfl | rfl
        · exact h5 _ (.head _)
        · exact Nat.ne_of_lt hDC
        · exact h5 _ (.tail _ (.head _))
        · exact h5 _ (.tail _ (.tail _ (.head _)))
        · exact h5 _ (.tail _ (.tail _ (.tail _ (.head _))))
        · exact h5 _ (.tail _ (.tail _ (.tail _ (.tail _ (.head _)))))
    · refine h k h' D qs pl plt ln lnt con ws (Nat.lt_trans hw hiD) (Nat.lt_trans h3 (Nat.lt_trans hw hiD)) I F fun p hp => N p ?_
      unfold enN at hp
      simp only [List.mem_cons, List.mem_append] at hp ⊢
      grind
  · intro p hp
    refine N p ?_
    unfold enN
    simp only [List.mem_cons, List.mem_append, rowV, List.map_nil] at hp ⊢
    grind
end
end Mine
end
section
open PySem PySem.W PySem.Calls PyProof.Rows PyProof.Rows.LCg
set_option maxRecDepth 100000
set_option maxHeartbeats 0
set_option linter.unusedVariables false
namespace Mine
local macro_rules | `(tactic| k_room) => `(tactic| ((try simp only [depth_under_make, depth_under_kw, depth_in1, depth_deeper, depth_caller]); (try dsimp only); simp only [recursionLimit]; omega))
local macro_rules | `(tactic| k_all) => `(tactic| first | assumption | exact ne_of_lo (by assumption) | (refine ne_of_all (by assumption) ?_; (try dsimp only); omega))
section
variable {w : World} {A A₀ : Around} {s : Shared} {base h₀ : Heap} {outer : List Env} {L fa rA wdA : Addr} {cd : Value} {m mg mb : Str → Option Value} {p : Program} {loose : List Str} {mean : ExcName → Option Value} {news : List (Addr × Obj)}
  {Q : Flow → Shared → Prop} {E : Value → Shared → Prop} {cR cL cT ro tb : Obj} {rs : List (Nat × Tok)} {hp mx sg tp wd kk si : Option Value} {a : RdA} {tnn : Nat} {tnt mt : Tok} {mxi : Int}
theorem ls_7 (B : Below A₀ base outer h₀) (X₀ : (KK w.params).In h₀) (T : Top p loose mean mg mb h₀) (hA' : A.frames = some (lwE L fa cd :: outer)) (hh : A.handled = none) (hdp : A.depth < 360) (hun : A.units < 60) (O : a.Ok) (hn14 : tnn < 14) (hr3 : rs.length ≤ 3) (hR : cR.data = .cell (some (.ref rA)))
    (hL : cL.data = .cell (some (.ref a.lexA))) {pre : List Value} {tpn wn : Nat} {al : List Nat} {wq : List (Nat × Tok)} {pl ln : Int} {plt lnt : Tok} {con ws : List Nat} {pend : List (Nat × Nat)}
    (h108 : 108 < L) (h1 : L + 4 < rA) (h2 : rA < a.cP) (h3 : a.pushA < wdA) (I : OwI al tnn pre pl ln con ws pend wq []) (hal : al.length = rs.length + 3 * tnn)
    (F : Fr h₀ L s.heap (mL hp (some (.int (tnn : Nat) tnt)) mx sg tp (some (.ref wdA)) kk si)) (N : News h₀ L s.heap (enN w.params a L rA wdA rs cL cR tb pre tpn pl plt ln lnt wq wn))
    (h : ∀ k h' wq wn pl plt ln lnt con ws, OwI al al.length pre pl ln con ws [] wq [] → Fr h₀ L h' (mL hp (some (.int (tnn : Nat) tnt)) mx sg tp (some (.ref wdA)) kk si) →
      News h₀ L h' (enN w.params a L rA wdA rs cL cR tb pre tpn pl plt ln lnt wq wn) → Q .next { s with heap := h', toks := k }) :
    wpAny (model PySem.Challenge.rw_rs0059_01.row.prog w) A (exec (nthS 7 lwB) (lwE L fa cd)) Q E s := by
  have hcp : a.cP < a.pushA := by
    obtain ⟨-, -, -, -, o1, o2, o3, o4, o5, o6, o7, o8, o9, o10⟩ := O
    omega
  obtain ⟨hnd, dp, fr, gu, un⟩ := A
  cases hh
  cases hA'
  replace hdp : dp < 360 := hdp
  replace hun : un < 60 := hun
  have hwL : wdA ≠ L + 3 ∧ wdA ≠ rA ∧ wdA ≠ L + 2 ∧ wdA ≠ 108 := by unfold Addr at *; exact ⟨by omega, by omega, by omega, by omega⟩
  have Nw : News h₀ L s.heap ((wdA, listOf (rowV wq).toArray wn) :: a.objs w.params pre.toArray tpn pl plt 0 ln lnt ++ ((L + 3, cL) :: (rA, lst (rowV rs)) :: (L + 2, cR) :: (108, tb) :: [])) := fun p hp => N p (by unfold enN; simp only [List.cons_append, List.mem_cons, List.mem_append] at hp ⊢; grind)
  rw [List.cons_append] at Nw
  obtain ⟨X, hX⟩ : ∃ X, a.objs w.params pre.toArray tpn pl plt 0 ln lnt ++ ((L + 3, cL) :: (rA, lst (rowV rs)) :: (L + 2, cR) :: (108, tb) :: []) = X := ⟨_, rfl⟩
  rw [hX] at Nw
  clear N
  revert X₀
  k_fill
  intro X₀
  (conv in nthS 7 lwB => whnf)
  (try k_fold)
  repeat' ((fail_if_success (with_reducible show wpAny _ _ (eval (Expr.ListComp _ _ _ _) _) _ _ _)); first | (k_unfold; (try dsimp only)) | walk1 | (dsimp only; walk1))
  show wpAny _ _ (eval e7 (lwE L fa cd)) _ _ _
  refine c7_eval (a := a) (tb := tb) (wq := wq) (wn := wn) (tpn := tpn) (plt := plt) (lnt := lnt) B X₀ T rfl rfl hdp hun O hn14 hr3 hR hL h108 h1 h2 h3 I hal F (fun p hp => Nw p (by rw [← hX]; unfold enN at hp; simp only [List.mem_cons, List.mem_append] at hp ⊢; grind)) fun k h' D qs pl plt ln lnt con ws hwD haD I F N => ?_
  repeat' ((fail_if_success (with_reducible show wpAny _ _ (call (Value.builtin "list.extend") _) _ _ _)); first | (k_unfold; (try dsimp only)) | walk1 | (dsimp only; walk1))
  have hlen : wq.length + qs.length ≤ 45 := by
    have e1 := I.len
    have e2 := I.al45
    rw [List.length_append] at e1
    omega
  have N1 : News h₀ L h' ([(D, lst (rowV qs))] ++ (wdA, listOf (rowV wq).toArray wn) :: (a.objs w.params pre.toArray tpn pl plt 0 ln lnt ++ ((L + 3, cL) :: (rA, lst (rowV rs)) :: (L + 2, cR) :: (108, tb) :: []))) := fun p hp => N p (by
    unfold enN
    simp only [List.mem_cons, List.mem_append, List.cons_append, List.nil_append] at hp ⊢
    grind)
  refine extend_in (own := [(D, lst (rowV qs))]) F N1 ?_ ?_ (N1.get (.head _)) (fun h' n' F N => ?_) ?_
  · intro p hp; rw [List.mem_singleton.mp hp]; exact Nat.ne_of_gt hwD
  · intro p hp
    rcases List.mem_append.mp hp with hp | hp
    · exact Nat.ne_of_lt (Nat.lt_of_lt_of_le (objs_lt O p hp) h3)
    · simp only [List.mem_cons, List.not_mem_nil, or_false] at hp
      rcases hp with rfl | rfl | rfl | rfl
      · exact Ne.symm hwL.1
      · exact Ne.symm hwL.2.1
      · exact Ne.symm hwL.2.2.1
      · exact Ne.symm hwL.2.2.2
  · rw [show (rowV wq ++ (rowV qs).toArray.toList) = rowV (wq ++ qs) by simp [rowV]] at N
    refine h k h' (wq ++ qs) n' pl plt ln lnt con ws I F fun p hp => N p ?_
    unfold enN at hp
    simp only [List.mem_cons, List.mem_append, List.cons_append, List.nil_append] at hp ⊢
    grind
  · rw [List.size_toArray, sizeLine_eq]
    show (wq.map _).length + (qs.map _).length ≤ _
    rw [List.length_map, List.length_map]
    omega
end
end Mine
end
section
open PySem PySem.W PySem.Calls PyProof.Rows PyProof.Rows.LCg
set_option maxRecDepth 100000
set_option maxHeartbeats 0
set_option linter.unusedVariables false
namespace Mine
local macro_rules | `(tactic| k_room) => `(tactic| ((try simp only [depth_under_make, depth_under_kw, depth_in1, depth_deeper, depth_caller]); (try dsimp only); simp only [recursionLimit]; omega))
local macro_rules | `(tactic| k_all) => `(tactic| first | assumption | exact ne_of_lo (by assumption) | (refine ne_of_all (by assumption) ?_; (try dsimp only); omega))
local macro_rules | `(tactic| walk_at "call builtin:len") => `(tactic| (k_here; (with_reducible show wpAny _ _ (call (Value.builtin "len") [Value.ref _]) _ _ _); k_dflt (refine' len_row ?N ?m ?f ?_; (case N => k_asm); (case m => exact .head _); (case f => omega))))
def e8 : Expr := match nthS 8 lwB with | .If (.Compare _ _ [e] _) _ _ _ => e | _ => default
section
variable {w : World} {A A₀ : Around} {s : Shared} {base h₀ : Heap} {outer : List Env} {L fa rA wdA : Addr} {cd : Value} {m mg mb : Str → Option Value} {p : Program} {loose : List Str} {mean : ExcName → Option Value} {news : List (Addr × Obj)}
  {E : Value → Shared → Prop} {cR cL cT ro : Obj} {rs : List (Nat × Tok)} {hp mx sg tp wd kk si : Option Value} {a : RdA} {tnn : Nat} {tnt mt : Tok} {mxi : Int}
theorem c8_iter (B : Below A₀ base outer h₀) (X₀ : (KK w.params).In h₀) (T : Top p loose mean mg mb h₀) (hA' : A.frames = some (lwE L fa cd :: outer)) (hh : A.handled = none) (hdp : A.depth < 360) (hun : A.units < 60) (hn14 : tnn < 14) (hr3 : rs.length ≤ 3) (hR : cR.data = .cell (some (.ref rA)))
    (F : Fr h₀ L s.heap (mL hp (some (.int (tnn : Nat) tnt)) mx sg tp wd kk si)) (N : News h₀ L s.heap ((rA, lst (rowV rs)) :: (L + 2, cR) :: news)) {Q : Value → Shared → Prop}
    (h : ∀ it k h', (∀ p ∈ (rA, lst (rowV rs)) :: (L + 2, cR) :: news, p.1 < it) → Fr h₀ L h' (mL hp (some (.int (tnn : Nat) tnt)) mx sg tp wd kk si) → News h₀ L h' ((it, rgO 0 ((rs.length + 3 * tnn : Nat) : Int)) :: (rA, lst (rowV rs)) :: (L + 2, cR) :: news) → Q (.ref it) { s with heap := h', toks := k }) :
    wpAny (model PySem.Challenge.rw_rs0059_01.row.prog w) A (eval (cIter e8) (lwE L fa cd)) (fun x s₁ => wpAny (model PySem.Challenge.rw_rs0059_01.row.prog w) A (pyIter x) Q E s₁) E s := by
  obtain ⟨hnd, dp, fr, gu, un⟩ := A
  cases hh
  cases hA'
  replace hdp : dp < 360 := hdp
  replace hun : un < 60 := hun
  revert X₀
  k_fill
  intro X₀
  (conv in cIter e8 => whnf)
  (try k_fold)
  repeat' (first | (k_unfold; (try dsimp only)) | walk1 | (dsimp only; walk1))
  rename IsRange _ _ _ _ _ _ _ _ => kR
  rename Fr h₀ _ _ _ => kF
  rename News h₀ _ _ _ => kN
  refine rg_iter kF kN kR (small_one (by decide) (by decide) (by omega) (by omega)) fun it h' hlt _ F N => ?_
  rw [rangeSize_nat, show (((rs.length : Int) + 3 * (tnn : Int) - 0).toNat : Int) = ((rs.length + 3 * tnn : Nat) : Int) by omega] at N
  exact h it _ h' hlt F N
theorem c8_elt (B : Below A₀ base outer h₀) (X₀ : (KK w.params).In h₀) (T : Top p loose mean mg mb h₀) (hA' : A.frames = some (lwE L fa cd :: outer)) (hh : A.handled = none) (hdp : A.depth < 360) (hun : A.units < 60) (hr1 : 1 ≤ rs.length) (hr3 : rs.length ≤ 3) (hb : ∀ r ∈ rs, r.1 < 256)
    (hR : cR.data = .cell (some (.ref rA))) {C : Addr} {oC : Obj} {mc : Str → Option Value} {Q : Value → Shared → Prop} {i : Nat} {it : Tok} (hi : i < 43)
    (F : Fr h₀ L s.heap m) (N : News h₀ L s.heap ((rA, lst (rowV rs)) :: (C, oC) :: (L + 2, cR) :: news)) (hC : NsObj oC mc) (hk : mc (Str.ofString "k") = some (.int (i : Nat) it))
    (h : ∀ tk k h', Fr h₀ L h' m → News h₀ L h' ((rA, lst (rowV rs)) :: (C, oC) :: (L + 2, cR) :: news) → Q (.str ⟨#[toldF (rs.map (·.1)) i]⟩ tk) { s with heap := h', toks := k }) :
    wpAny (model PySem.Challenge.rw_rs0059_01.row.prog w) A (eval (cElt e8) (compEnvC (cScope e8) [(Str.ofString "row", L + 2)] C (lwE L fa cd))) Q E s := by
  obtain ⟨hnd, dp, fr, gu, un⟩ := A
  cases hh
  cases hA'
  replace hdp : dp < 360 := hdp
  replace hun : un < 60 := hun
  revert X₀
  k_fill
  intro X₀
  (conv in cElt e8 => whnf)
  (conv in (occs := *) cScope e8 => all_goals whnf)
  (try k_fold)
  repeat' ((fail_if_success (with_reducible show wpAny _ _ (call (Value.ref _) _) _ _ _)); first | (k_unfold; (try dsimp only)) | walk1 | (dsimp only; walk1))
  show wpAny _ _ (call (.ref 127) [.int (i : Nat) it, .ref rA]) _ _ _
  refine wpAny_call (told_K (rs := rs) (rn := (rowV rs).length) B F X₀ N hr1 hr3 hb hi T rfl rfl rfl rfl (Nat.lt_trans hdp (by decide)) (Nat.lt_trans hun (by decide)) fun t k h' F N => ?_)
  dsimp only
  exact h t _ h' F N
theorem c8_loop (B : Below A₀ base outer h₀) (X₀ : (KK w.params).In h₀) (T : Top p loose mean mg mb h₀) (hA' : A.frames = some (lwE L fa cd :: outer)) (hh : A.handled = none) (hdp : A.depth < 360) (hun : A.units < 60) (hr1 : 1 ≤ rs.length) (hr3 : rs.length ≤ 3) (hb : ∀ r ∈ rs, r.1 < 256)
    (hR : cR.data = .cell (some (.ref rA))) {C D it : Addr} {R : Result → Shared → Prop} {n : Nat} (hn43 : n ≤ 43)
    (hDC : D < C) (hiD : it < D) (hn : ∀ p ∈ (rA, lst (rowV rs)) :: (L + 2, cR) :: news, p.1 < it)
    (hR' : ∀ k h' qs oC mc, qs.map (·.1) = (List.range n).map (toldF (rs.map (·.1))) → NsObj oC mc → Fr h₀ L h' m → News h₀ L h' ((C, oC) :: (D, lst (rowV qs)) :: (rA, lst (rowV rs)) :: (L + 2, cR) :: news) → R (.ok .next) { s with heap := h', toks := k }) :
    ∀ (r i k : Nat) (hp : Heap) (qs : List (Nat × Tok)) (oC : Obj) (mc : Str → Option Value), i + r = n → qs.map (·.1) = (List.range i).map (toldF (rs.map (·.1))) → NsObj oC mc → Fr h₀ L hp m →
      News h₀ L hp ((C, oC) :: (D, lst (rowV qs)) :: (it, rgO (i : Nat) (r : Nat)) :: (rA, lst (rowV rs)) :: (L + 2, cR) :: news) →
      CompAt PySem.Challenge.rw_rs0059_01.row.prog w A (cElt e8) (cTgt e8) (cIter e8) (cScope e8) (cPos e8) (.ref it) (.ref D) (compEnvC (cScope e8) [(Str.ofString "row", L + 2)] C (lwE L fa cd)) R { s with heap := hp, toks := k } := by
  have hne : ∀ {oC : Obj} {ys : List Value}, ∀ p ∈ (C, oC) :: (D, lst ys) :: (rA, lst (rowV rs)) :: (L + 2, cR) :: news, p.1 ≠ it := fun p hp => by
    rcases List.mem_cons.mp hp with rfl | hp
    · exact Nat.ne_of_gt (Nat.lt_trans hiD hDC)
    rcases List.mem_cons.mp hp with rfl | hp
    · exact Nat.ne_of_gt hiD
    · exact Nat.ne_of_lt (hn p hp)
  intro r
  induction r with
  | zero =>
    intro i k hp qs oC mc hir hqs hC F N
    obtain rfl : i = n := hir
    exact CompAt.turn (rg_end hh F (n_cab N) hne (Int.le_refl 0) fun h' F N => hR' _ _ qs oC mc hqs hC F N)
  | succ r ih =>
    intro i k hp qs oC mc hir hqs hC F N
    have hql : qs.length = i := by
      have := congrArg List.length hqs
      rw [List.length_map, List.length_map, List.length_range] at this
      exact this
    refine CompAt.turn (rg_item F (n_cab N) hne (by omega) fun t k h' F N => ?_)
    dsimp only
    refine go_name ?_
    refine name_comp (mc := mc) F (nC (nH (nT N)) (nC (nH N) (nT (nT N)))) hC ?_ rfl rfl fun h' k oC' hC' F N => ?_
    · intro p hp
      rcases List.mem_cons.mp hp with rfl | hp
      · exact Nat.ne_of_lt (Nat.lt_trans hiD hDC)
      rcases List.mem_cons.mp hp with rfl | hp
      · exact Nat.ne_of_lt hDC
      · exact Nat.ne_of_lt (Nat.lt_trans (hn p hp) (Nat.lt_trans hiD hDC))
    dsimp only
    obtain ⟨mc', hmc⟩ : ∃ mc' : Str → Option Value, mc' = (fun z => if z = Str.ofString "k" then some (.int (i : Nat) t) else mc z) := ⟨_, rfl⟩
    rw [← hmc] at hC'
    refine c8_elt (news := (it, rgO ((i : Int) + 1) (((r + 1 : Nat) : Int) - 1)) :: (D, lst (rowV qs)) :: news) (i := i) (it := t) B X₀ T hA' hh hdp hun hr1 hr3 hb hR (by omega) F (fun p hp => N p (by simp only [List.mem_cons] at hp ⊢; grind)) hC' (by rw [hmc]; dsimp only; rw [if_pos rfl]) fun tk k h' F N => ?_
    refine comp_app (C := C) (D := D) (ys := rowV qs) (news := (it, rgO ((i : Int) + 1) (((r + 1 : Nat) : Int) - 1)) :: (rA, lst (rowV rs)) :: (L + 2, cR) :: news) (oC := oC') F (fun p hp => N p (by simp only [List.mem_cons] at hp ⊢; grind)) (Nat.ne_of_gt hDC) ?_ (by show (qs.map _).length ≤ 200; rw [List.length_map]; omega) fun h' F N => ?_
    · intro p hp
      rcases List.mem_cons.mp hp with rfl | hp
      · exact Nat.ne_of_lt hiD
      · exact Nat.ne_of_lt (Nat.lt_trans (hn p hp) hiD)
    rw [show rowV qs ++ [.str ⟨#[toldF (rs.map (·.1)) i]⟩ tk] = rowV (qs ++ [(toldF (rs.map (·.1)) i, tk)]) by simp [rowV], show ((r + 1 : Nat) : Int) - 1 = (r : Nat) by omega, show (i : Int) + 1 = ((i + 1 : Nat) : Int) by omega] at N
    refine ih (i + 1) _ _ (qs ++ [(toldF (rs.map (·.1)) i, tk)]) oC' mc' (by omega) ?_ hC' F N
    rw [List.map_append, hqs, List.range_succ, List.map_append]; rfl
theorem c8_eval (B : Below A₀ base outer h₀) (X₀ : (KK w.params).In h₀) (T : Top p loose mean mg mb h₀) (hA' : A.frames = some (lwE L fa cd :: outer)) (hh : A.handled = none) (hdp : A.depth < 360) (hun : A.units < 60) (hn14 : tnn < 14) (hr1 : 1 ≤ rs.length) (hr3 : rs.length ≤ 3) (hb : ∀ r ∈ rs, r.1 < 256) (hR : cR.data = .cell (some (.ref rA)))
    {Q : Value → Shared → Prop}
    (F : Fr h₀ L s.heap (mL hp (some (.int (tnn : Nat) tnt)) mx sg tp wd kk si)) (N : News h₀ L s.heap ((rA, lst (rowV rs)) :: (L + 2, cR) :: news))
    (h : ∀ k h' D qs, qs.map (·.1) = (List.range (rs.length + 3 * tnn)).map (toldF (rs.map (·.1))) → (∀ p ∈ (rA, lst (rowV rs)) :: (L + 2, cR) :: news, p.1 < D) → Fr h₀ L h' (mL hp (some (.int (tnn : Nat) tnt)) mx sg tp wd kk si) →
      News h₀ L h' ((D, lst (rowV qs)) :: (rA, lst (rowV rs)) :: (L + 2, cR) :: news) → Q (.ref D) { s with heap := h', toks := k }) :
    wpAny (model PySem.Challenge.rw_rs0059_01.row.prog w) A (eval e8 (lwE L fa cd)) Q E s := by
  have es : e8 = .ListComp (cElt e8) [⟨cTgt e8, cIter e8, [], 0⟩] (cScope e8) (cPos e8) := rfl
  rw [es]
  refine comp_eval (cl := [(Str.ofString "row", L + 2)]) (by with_unfolding_all rfl) rfl (by decide) ?_ (by intro _; rfl)
  refine c8_iter B X₀ T hA' hh hdp hun hn14 hr3 hR F N fun it k h' hlt F N => ?_
  refine comp_in F N (.head _) (fun _ _ _ a b => rg_self _ _ _ a b) (by decide) rfl fun C oC D h' k hC hlt' hDC hLD F N => ?_
  have hiD : it < D := hlt' _ (.head _)
  refine c8_loop (n := rs.length + 3 * tnn) B X₀ T hA' hh hdp hun hr1 hr3 hb hR (by omega) hDC hiD hlt (fun k h' qs oC mc hqs hC F N => ?_) (rs.length + 3 * tnn) 0 _ _ [] oC _ (Nat.zero_add _) rfl hC F N
  refine comp_gone (P := Q (.ref D)) F N hC ?_ fun h' F N => ?_
  · intro p hp
    rcases List.mem_cons.mp hp with rfl | hp
    · exact Nat.ne_of_lt hDC
    · exact Nat.ne_of_lt (Nat.lt_trans (hlt p hp) (Nat.lt_trans hiD hDC))
  · exact h k h' D qs hqs (fun p hp => Nat.lt_trans (hlt p hp) hiD) F N
end
end Mine
end
section
open PySem PySem.W PySem.Calls PyProof.Rows PyProof.Rows.LCg
set_option maxRecDepth 100000
set_option maxHeartbeats 0
set_option linter.unusedVariables false
namespace Mine
local macro_rules | `(tactic| k_room) => `(tactic| ((try simp only [depth_under_make, depth_under_kw, depth_in1, depth_deeper, depth_caller]); (try dsimp only); simp only [recursionLimit]; omega))
local macro_rules | `(tactic| k_all) => `(tactic| first | assumption | exact ne_of_lo (by assumption) | (refine ne_of_all (by assumption) ?_; (try dsimp only); omega))
section
variable {w : World} {A A₀ : Around} {s : Shared} {base h₀ : Heap} {outer : List Env} {L fa rA wdA : Addr} {cd : Value} {m mg mb : Str → Option Value} {p : Program} {loose : List Str} {mean : ExcName → Option Value} {news : List (Addr × Obj)}
  {Q : Flow → Shared → Prop} {E : Value → Shared → Prop} {cR cL cT ro : Obj} {rs : List (Nat × Tok)} {hp mx sg tp wd kk si : Option Value} {a : RdA} {tnn : Nat} {tnt mt : Tok} {mxi : Int}
theorem ne_rows {D : Addr} {wq qs : List (Nat × Tok)} {n n2 : Nat} {prog : Program} {E : Value → Shared → Prop} {Q : Value → Shared → Prop} (h1 : s.heap.get? wdA = some (listOf (rowV wq).toArray n)) (h2 : s.heap.get? D = some (listOf (rowV qs).toArray n2)) (hu : A.units < 60)
    (he : wq.map (·.1) = qs.map (·.1)) (hq : Q (.bool false) s) : wpAny (model prog w) A (compareOp .NotEq (.ref wdA) (.ref D)) Q E s := by
  have hl : wq.length = qs.length := by
    have := congrArg List.length he
    rw [List.length_map, List.length_map] at this
    exact this
  have r := SeqAt.RcNeAt.lists (A := A) (s := s) (l := wdA) (b := D) (items := (rowV wq).toArray) (items2 := (rowV qs).toArray) (e := fun _ => true) ⟨_, h1, rfl, _, rfl⟩ ⟨_, h2, rfl, _, rfl⟩
    (by rw [List.size_toArray, List.size_toArray]; show (wq.map _).length = (qs.map _).length; rw [List.length_map, List.length_map, hl]) (Nat.lt_trans hu (by decide)) (fun j j1 j2 => by
      have k1 : j < wq.length := by rw [List.size_toArray] at j1; simpa [rowV] using j1
      have k2 : j < qs.length := by omega
      have e1 : (rowV wq).toArray[j] = .str ⟨#[wq[j].1]⟩ wq[j].2 := by simp [rowV]
      have e2 : (rowV qs).toArray[j] = .str ⟨#[qs[j].1]⟩ qs[j].2 := by simp [rowV]
      have e3 : wq[j].1 = qs[j].1 := by
        have := congrArg (fun l => l[j]?) he
        simpa [k1, k2] using this
      rw [e1, e2, e3]
      have q := SeqAt.EqAt.str_str (A := A.in1) (s := s) ⟨#[qs[j].1]⟩ wq[j].2 ⟨#[qs[j].1]⟩ qs[j].2
      rw [beq_self_eq_true] at q
      exact q)
  rw [show (!(List.range (rowV wq).toArray.size).all fun _ => true) = false by simp] at r
  exact r prog w E Q hq
theorem ls_8 (B : Below A₀ base outer h₀) (X₀ : (KK w.params).In h₀) (T : Top p loose mean mg mb h₀) (hA' : A.frames = some (lwE L fa cd :: outer)) (hh : A.handled = none) (hdp : A.depth < 360) (hun : A.units < 60) (hn14 : tnn < 14) (hr1 : 1 ≤ rs.length) (hr3 : rs.length ≤ 3) (hb : ∀ r ∈ rs, r.1 < 256) (hR : cR.data = .cell (some (.ref rA)))
    {wq : List (Nat × Tok)} {wn : Nat} (hwq : wq.map (·.1) = (List.range (rs.length + 3 * tnn)).map (toldF (rs.map (·.1))))
    (F : Fr h₀ L s.heap (mL hp (some (.int (tnn : Nat) tnt)) mx sg tp (some (.ref wdA)) kk si)) (N : News h₀ L s.heap ((wdA, listOf (rowV wq).toArray wn) :: (rA, lst (rowV rs)) :: (L + 2, cR) :: news))
    (h : ∀ k h', Fr h₀ L h' (mL hp (some (.int (tnn : Nat) tnt)) mx sg tp (some (.ref wdA)) kk si) →
      News h₀ L h' ((wdA, listOf (rowV wq).toArray wn) :: (rA, lst (rowV rs)) :: (L + 2, cR) :: news) → Q .next { s with heap := h', toks := k }) :
    wpAny (model PySem.Challenge.rw_rs0059_01.row.prog w) A (exec (nthS 8 lwB) (lwE L fa cd)) Q E s := by
  obtain ⟨hnd, dp, fr, gu, un⟩ := A
  cases hh
  cases hA'
  replace hdp : dp < 360 := hdp
  replace hun : un < 60 := hun
  revert X₀
  k_fill
  intro X₀
  (conv in nthS 8 lwB => whnf)
  (try k_fold)
  repeat' ((fail_if_success (with_reducible show wpAny _ _ (eval (Expr.ListComp _ _ _ _) _) _ _ _)); first | (k_unfold; (try dsimp only)) | walk1 | (dsimp only; walk1))
  show wpAny _ _ (eval e8 (lwE L fa cd)) _ _ _
  refine c8_eval (news := (wdA, listOf (rowV wq).toArray wn) :: news) B X₀ T rfl rfl hdp hun hn14 hr1 hr3 hb hR F (fun p hp => N p (by simp only [List.mem_cons] at hp ⊢; grind)) fun k h' D qs hqs hlt F N => ?_
  repeat' ((fail_if_success (with_reducible show wpAny _ _ (compareOp _ _ _) _ _ _)); first | (k_unfold; (try dsimp only)) | walk1 | (dsimp only; walk1))
  refine ne_rows (N.get (.tail _ (.tail _ (.tail _ (.head _))))) (N.get (.head _)) hun (hwq.trans hqs.symm) ?_
  repeat' (first | (k_unfold; (try dsimp only)) | walk1 | (dsimp only; walk1))
  rename_i xx
  first | exact absurd xx (by decide) | exact h k h' F fun p hp => N p (by simp only [List.mem_cons] at hp ⊢; grind)
end
end Mine
end
section
open PySem PySem.W PySem.Calls PyProof.Rows PyProof.Rows.LCg
set_option maxRecDepth 100000
set_option maxHeartbeats 0
set_option linter.unusedVariables false
namespace Mine
local macro_rules | `(tactic| k_room) => `(tactic| ((try simp only [depth_under_make, depth_under_kw, depth_in1, depth_deeper, depth_caller]); (try dsimp only); simp only [recursionLimit]; omega))
local macro_rules | `(tactic| k_all) => `(tactic| first | assumption | exact ne_of_lo (by assumption) | (refine ne_of_all (by assumption) ?_; (try dsimp only); omega))
theorem count_nls : ∀ l : List Nat, PySem.Spec.countIn (.str (Str.ofString "\n")) ((l.map fun c => (⟨#[c]⟩ : Str)).map PyData.str) = nls l
  | [] => rfl
  | c :: l => by
    have ih := count_nls l
    have e := nl_is c
    have e2 : nls (c :: l) = nl c + nls l := by unfold nls; rw [List.map_cons, List.sum_cons]
    rw [e2, ← ih, ← e]
    rfl
section
variable {w : World} {A A₀ : Around} {s : Shared} {base h₀ : Heap} {outer : List Env} {L fa rA wdA : Addr} {cd : Value} {m mg mb : Str → Option Value} {p : Program} {loose : List Str} {mean : ExcName → Option Value} {news : List (Addr × Obj)}
  {Q : Flow → Shared → Prop} {E : Value → Shared → Prop} {cR cL cT ro : Obj} {rs : List (Nat × Tok)} {hp mx sg tp wd kk si tn : Option Value} {a : RdA} {tnn : Nat} {tnt mt : Tok} {mxi : Int}
theorem ls_9 (B : Below A₀ base outer h₀) (X₀ : (KK w.params).In h₀) (T : Top p loose mean mg mb h₀) (hA' : A.frames = some (lwE L fa cd :: outer)) (hh : A.handled = none) (hdp : A.depth < 360) (hun : A.units < 60) (O : a.Ok)
    (hL : cL.data = .cell (some (.ref a.lexA))) {pre : List Value} {tpn : Nat} {al : List Nat} {wq : List (Nat × Tok)} {pl ln : Int} {plt lnt : Tok} {con ws : List Nat}
    (hap : Apart a ((L + 3, cL) :: news)) (I : OwI al al.length pre pl ln con ws [] wq [])
    (F : Fr h₀ L s.heap (mL hp tn mx sg (some (.ref a.tapeA)) wd kk si)) (N : News h₀ L s.heap (a.objs w.params pre.toArray tpn pl plt 0 ln lnt ++ (L + 3, cL) :: news))
    (h : ∀ k h' pl plt ln lnt, Fr h₀ L h' (mL hp tn mx sg (some (.ref a.tapeA)) wd kk si) →
      News h₀ L h' (a.objs w.params pre.toArray tpn pl plt 0 ln lnt ++ (L + 3, cL) :: news) → Q .next { s with heap := h', toks := k }) :
    wpAny (model PySem.Challenge.rw_rs0059_01.row.prog w) A (exec (nthS 9 lwB) (lwE L fa cd)) Q E s := by
  have O' := O
  obtain ⟨dD, -, -, -, o1, o2, o3, o4, o5, o6, o7, o8, o9, o10⟩ := O
  have hrem := I.rem
  have hsm := I.small
  have hst := I.tape
  simp only [wordsL, List.flatMap_nil, List.append_nil] at hrem hst
  obtain ⟨hnd, dp, fr, gu, un⟩ := A
  cases hh
  cases hA'
  replace hdp : dp < 360 := hdp
  replace hun : un < 60 := hun
  revert X₀
  k_fill
  intro X₀
  (conv in nthS 9 lwB => whnf)
  simp only [RdA.objs, List.cons_append, List.nil_append] at N
  (try k_fold)
  repeat' ((fail_if_success (with_reducible show wpAny _ _ (call (Value.ref _) _) _ _ _)); first | (k_unfold; (try dsimp only)) | walk1 | (dsimp only; walk1))
  show wpAny _ _ (call (.ref 92) [.ref a.lexA]) _ _ _
  refine wpAny_call (gt_end (a := a) (news := (L + 3, cL) :: news) B F X₀ O' N (apart_place hap O') (apart_lex hap O') T rfl rfl rfl rfl (Nat.lt_trans hdp (by decide)) (Nat.lt_trans hun (by decide)) hsm.1 hsm.2 I.wsW I.ws3 hrem
    fun tk k plt' lnt' h' pl' ln' hpl hln F N H => ?_)
  dsimp only
  simp only [RdA.objs, List.cons_append, List.nil_append] at N
  repeat' ((fail_if_success (with_reducible show wpAny _ _ (call (Value.builtin "list.count") _) _ _ _)); first | (k_unfold; (try dsimp only)) | walk1 | (dsimp only; walk1))
  refine count_list_strs ⟨_, N.get (.tail _ (.tail _ (.head _))), rfl, _, rfl⟩ hst ?_
  have hcn : PySem.Spec.countIn (.str (Str.ofString "\n")) (((con ++ ws).map fun c => (⟨#[c]⟩ : Str)).map PyData.str) = ln' - 1 := by
    rw [count_nls, nls_append, hln, I.eln]
    omega
  rw [hcn]
  have hl1 : -80000 < ln' ∧ ln' < 80000 := by
    have := nls_bd ws
    have := I.ws3
    omega
  repeat' (first | (k_unfold; (try dsimp only)) | walk1 | (dsimp only; walk1))
  all_goals (try (exfalso; omega))
  exact h _ h' pl' plt' ln' lnt' F N
end
end Mine
end
section
open PySem PySem.W PySem.Calls PyProof.Rows PyProof.Rows.LCg
set_option maxRecDepth 100000
set_option maxHeartbeats 0
set_option linter.unusedVariables false
namespace Mine
theorem rowV_len (l : List (Nat × Tok)) : (rowV l).length = l.length := List.length_map _
theorem pick_from {wq : List (Nat × Tok)} {n : Nat} (h : n ≤ wq.length) : kms_pick (rowV wq) (some (n : Int)) none = rowV (wq.drop n) := by
  unfold kms_pick
  have e1 : kms_lo (some (n : Int)) (rowV wq).length = n := by
    unfold kms_lo
    rw [rowV_len]
    simp only
    rw [if_neg (by omega)]
    omega
  rw [e1]
  show ((rowV wq).drop n).take ((rowV wq).length - n) = _
  rw [List.take_of_length_le (by rw [List.length_drop]; exact Nat.le_refl _)]
  unfold rowV
  rw [List.map_drop]
theorem pick_to {wq : List (Nat × Tok)} {n : Nat} (h : n ≤ wq.length) : kms_pick (rowV wq) none (some (n : Int)) = rowV (wq.take n) := by
  unfold kms_pick
  have e1 : kms_hi (some (n : Int)) (rowV wq).length = n := by
    unfold kms_hi
    rw [rowV_len]
    simp only
    rw [if_neg (by omega)]
    omega
  rw [e1]
  show ((rowV wq).drop 0).take (n - 0) = _
  unfold rowV
  rw [List.drop_zero, Nat.sub_zero, List.map_take]
theorem join_codes (l : List Nat) : Txt.join (Str.ofString "") (l.map fun c => (⟨#[c]⟩ : Str)) = ⟨l.toArray⟩ := by
  have h := join_nil_signs ⟨l.toArray⟩
  have e : signs ⟨l.toArray⟩ = l.map fun c => (⟨#[c]⟩ : Str) := by unfold signs; rw [List.toList_toArray]
  rw [e] at h
  unfold Txt.join
  rw [PySem.StrLaws.glued_eq_join]
  exact h
theorem rowV_are : ∀ l : List (Nat × Tok), StrsAre (rowV l) ((l.map (·.1)).map fun c => (⟨#[c]⟩ : Str))
  | [] => .nil
  | x :: l => .cons _ _ (rowV_are l)
section
variable {prog : Program} {w : World} {A : Around} {E : Value → Shared → Prop} {s : Shared} {h₀ : Heap} {L l : Addr} {m : Str → Option Value} {news : List (Addr × Obj)} {value slice : PySem.Expr} {vl vu : Value} {lo hi : Option Int} {Q : Value → Shared → Prop}
theorem slice_row {wq zq : List (Nat × Tok)} {n : Nat} (F : Fr h₀ L s.heap m) (N : News h₀ L s.heap news) (hm : (l, listOf (rowV wq).toArray n) ∈ news) (pl : IsPart vl lo) (pu : IsPart vu hi) (e : kms_pick (rowV wq) lo hi = rowV zq) (hz : wq.length ≤ 45)
    (h : ∀ D h', Fr h₀ L h' m → News h₀ L h' ((D, listOf (rowV zq).toArray 0) :: news) → (∀ p ∈ news, p.1 < D) → Q (.ref D) { s with heap := h' })
    (hs : subscripted slice false (.ref l) (.ref s.heap.objs.size) = operate [.ref s.heap.objs.size, .ref l] (getItem (.ref l) (.ref s.heap.objs.size))) (ht : ∀ r, letTemporaryGo value (.ref l) r = pure ()) :
    wpAny (model prog w) A (subscriptTail value slice (.ref l) (.ref s.heap.objs.size)) Q E { s with heap := s.heap.push { cls := .type "slice", data := .fields #[vl, vu, .none] } } :=
  kms_slice_lit F N (N.isList hm) pl pu (by rw [List.toList_toArray]; exact e) h hs ht (by rw [List.size_toArray, rowV_len, sizeLine_eq]; omega)
theorem join_row {D : Addr} {zq : List (Nat × Tok)} {n : Nat} {t : Tok} {e : Str} (N : News h₀ L s.heap news) (hm : (D, listOf (rowV zq).toArray n) ∈ news) (he : e = Str.ofString "") (hz : zq.length ≤ 45)
    (h : ∀ t' k, Q (.str ⟨(zq.map (·.1)).toArray⟩ t') { s with toks := k }) : wpAny (model prog w) A (call (.builtin "str.join") [.str e t, .ref D]) Q E s := by
  subst he
  refine join_listC (N.isList hm) (by rw [List.toList_toArray]; exact rowV_are zq) (by decide +kernel) ?_ fun t' k => ?_
  · have e : ∀ l : List Nat, (((l.map fun c => (⟨#[c]⟩ : Str)).map (·.length)).sum) = l.length := fun l => by
      induction l with
      | nil => rfl
      | cons c l ih => rw [List.map_cons, List.map_cons, List.sum_cons, ih, List.length_cons]; show 1 + _ = _; omega
    rw [e]; simp only [List.length_map]; omega
  · rw [join_codes]; exact h t' k
end
local macro_rules | `(tactic| k_room) => `(tactic| ((try simp only [depth_under_make, depth_under_kw, depth_in1, depth_deeper, depth_caller]); (try dsimp only); simp only [recursionLimit]; omega))
local macro_rules | `(tactic| k_all) => `(tactic| first | assumption | exact ne_of_lo (by assumption) | (refine ne_of_all (by assumption) ?_; (try dsimp only); omega))
local macro_rules | `(tactic| walk_at "call builtin:len") => `(tactic| (k_here; (with_reducible show wpAny _ _ (call (Value.builtin "len") [Value.ref _]) _ _ _); k_dflt (refine' len_row ?N ?m ?f ?_; (case N => k_asm); (case m => exact .tail _ (.head _)); (case f => omega))))
local macro_rules | `(tactic| walk_at "subscriptTail Name Slice ref ref") => `(tactic| (k_here; (with_reducible show wpAny _ _ (subscriptTail _ (PySem.Expr.Slice _ _ none _) (Value.ref _) (Value.ref _)) _ _ _); k_dflt (refine' slice_row ?F ?N ?l ?p ?q ?e ?z ?_ ?s ?t; (case F => k_asm); (case N => k_asm); (case l => k_mem); (case p => kmk_part); (case q => kmk_part); (case e => first | exact pick_from (by assumption) | exact pick_to (by assumption)); (case s => with_unfolding_all rfl); (case t => kmk_pure); (case z => assumption)); intro D' h' F' N' l1; (try k_lt l1); (try k_sweep)))
local macro_rules | `(tactic| walk_at "call builtin:str.join") => `(tactic| (k_here; (with_reducible show wpAny _ _ (call (Value.builtin _) [Value.str _ _, Value.ref _]) _ _ _); k_dflt (refine' join_row ?N ?m ?e ?z ?_; (case N => k_asm); (case m => exact .head _); (case e => exact rfl); (case z => (first | (rw [List.length_drop]; omega) | (rw [List.length_take]; omega)))); intro t' k'))
section
variable {w : World} {A A₀ : Around} {s : Shared} {base h₀ : Heap} {outer : List Env} {L fa rA wdA : Addr} {cd : Value} {m mg mb : Str → Option Value} {p : Program} {loose : List Str} {mean : ExcName → Option Value} {news : List (Addr × Obj)}
  {Q : Flow → Shared → Prop} {E : Value → Shared → Prop} {cR cL cT ro : Obj} {rs : List (Nat × Tok)} {hp mx sg tp wd kk si tn : Option Value} {a : RdA} {tnn : Nat} {tnt mt : Tok} {mxi : Int}
theorem ls_10 (B : Below A₀ base outer h₀) (X₀ : (KK w.params).In h₀) (T : Top p loose mean mg mb h₀) (hA' : A.frames = some (lwE L fa cd :: outer)) (hh : A.handled = none) (hdp : A.depth < 360) (hun : A.units < 60) (hn14 : tnn < 14) (hr1 : 1 ≤ rs.length) (hr3 : rs.length ≤ 3) (hR : cR.data = .cell (some (.ref rA)))
    {wq : List (Nat × Tok)} {wn : Nat} {cs : List Nat} (hwl : wq.length ≤ 45) (hd : rs.length ≤ wq.length) (ht : tnn ≤ wq.length) (hcs : ∀ c ∈ cs, c < 256) (hc13 : cs.length ≤ 13) (e1 : (wq.drop rs.length).map (·.1) = encL cs) (e2 : (wq.take tnn).map (·.1) = cs)
    (F : Fr h₀ L s.heap (mL hp (some (.int (tnn : Nat) tnt)) mx sg tp (some (.ref wdA)) kk si)) (N : News h₀ L s.heap ((wdA, listOf (rowV wq).toArray wn) :: (rA, lst (rowV rs)) :: (L + 2, cR) :: news))
    (h : ∀ k h' l, (∀ p ∈ news, p ∈ l) → Fr h₀ L h' (mL hp (some (.int (tnn : Nat) tnt)) mx sg tp (some (.ref wdA)) kk si) → News h₀ L h' l → Q (.ret (.bool true)) { s with heap := h', toks := k }) :
    wpAny (model PySem.Challenge.rw_rs0059_01.row.prog w) A (exec (nthS 10 lwB) (lwE L fa cd)) Q E s := by
  obtain ⟨hnd, dp, fr, gu, un⟩ := A
  cases hh
  cases hA'
  replace hdp : dp < 360 := hdp
  replace hun : un < 60 := hun
  revert X₀
  k_fill
  intro X₀
  (conv in nthS 10 lwB => whnf)
  (try k_fold)
  repeat' ((fail_if_success (with_reducible show wpAny _ _ (call (Value.ref _) _) _ _ _)); first | (k_unfold; (try dsimp only)) | walk1 | (dsimp only; walk1))
  rename Fr h₀ _ _ _ => kF
  rename News h₀ _ _ _ => kN
  rw [e1]
  refine wpAny_call (decode_K B kF X₀ kN T rfl rfl rfl rfl (Nat.lt_trans hdp (by decide)) (Nat.lt_trans hun (by decide)) hcs hc13 fun t k h' F N => ?_)
  clear kF kN
  dsimp only
  repeat' ((fail_if_success (with_reducible show wpAny _ _ (compareOp _ _ _) _ _ _)); first | (k_unfold; (try dsimp only)) | walk1 | (dsimp only; walk1))
  rw [e2]
  walk1
  rw [beq_self_eq_true]
  rename Fr h₀ _ _ _ => kF
  rename News h₀ _ _ _ => kN
  exact h _ _ _ (fun p hp => by simp only [List.mem_cons]; exact .inr (.inr (.inr (.inr (.inr hp))))) kF kN
end
end Mine
end
section
open PySem PySem.W PySem.Calls PyProof.Rows
set_option maxRecDepth 100000
set_option maxHeartbeats 0
namespace Mine
def ways : List (List Nat) := [[], [1], [2], [1,1], [1,2], [2,1], [2,2], [1,1,1], [1,1,2], [1,2,1], [1,2,2], [2,1,1], [2,1,2], [2,2,1], [2,2,2]]
theorem told_fact : decide (∀ c : _root_.Fin 256, ∀ wy ∈ ways, toldC c.1 wy = wy.foldl (fun c k => (quoteL c).getD k 0) c.1) = true := by decide +kernel
theorem putF_pre (row : List Nat) : ∀ {t T i : Nat}, t ≤ T → i < row.length + 3 * t → (putF row T)[i]? = (putF row t)[i]?
  | t, 0, i, h, _ => by obtain rfl : t = 0 := by omega
                        rfl
  | t, T + 1, i, h, hi => by
    by_cases e : t = T + 1
    · rw [e]
    · show (putF row T ++ quoteL _)[i]? = _
      rw [List.getElem?_append_left (by rw [putF_len]; omega)]
      exact putF_pre row (by omega) hi
theorem putF_at (row : List Nat) {t T k : Nat} (h : t < T) (hk : k < 3) : (putF row T)[row.length + 3 * t + k]? = (quoteL ((putF row t).getD t 0))[k]? := by
  rw [putF_pre row (t := t + 1) (by omega) (by omega)]
  show (putF row t ++ quoteL _)[_]? = _
  rw [List.getElem?_append_right (by rw [putF_len]; omega), putF_len]
  congr 1
  omega
def stepQ (c k : Nat) : Nat := (quoteL c).getD k 0
theorem tloop_sym (row : List Nat) (T : Nat) (h0 : 0 < row.length) : ∀ (f p : Nat) (wy : List Nat), p < row.length + 3 * T → p < 3 ^ f →
    (tloop row.length f p wy).2.foldl stepQ (if (tloop row.length f p wy).1 < row.length then row.getD (tloop row.length f p wy).1 0 else 61) = wy.foldl stepQ ((putF row T).getD p 0)
  | 0, p, wy, hp, hf => by
    have : p = 0 := by rw [Nat.pow_zero] at hf; omega
    subst this
    show wy.foldl stepQ (if 0 < row.length then row.getD 0 0 else 61) = _
    rw [if_pos h0, List.getD_eq_getElem?_getD, List.getD_eq_getElem?_getD, putF_pre row (t := 0) (by omega) (by omega)]
    rfl
  | f + 1, p, wy, hp, hf => by
    by_cases hc : row.length ≤ p ∧ 0 < (p - row.length) % 3
    · have e : tloop row.length (f + 1) p wy = tloop row.length f ((p - row.length) / 3) ((p - row.length) % 3 :: wy) := if_pos hc
      rw [e, tloop_sym row T h0 f _ _ (by omega) (by rw [Nat.pow_succ] at hf; omega), List.foldl_cons]
      congr 1
      have hp' : p = row.length + 3 * ((p - row.length) / 3) + (p - row.length) % 3 := by omega
      have ht : (p - row.length) / 3 < T := by omega
      have q := putF_at row ht (Nat.mod_lt (p - row.length) (show 3 > 0 by decide))
      rw [← hp'] at q
      unfold stepQ
      simp only [List.getD_eq_getElem?_getD] at q ⊢
      rw [q, putF_pre row (t := (p - row.length) / 3) (T := T) (by omega) (by omega)]
    · have e : tloop row.length (f + 1) p wy = (p, wy) := if_neg hc
      rw [e]
      dsimp only
      congr 1
      by_cases hn : p < row.length
      · rw [if_pos hn, List.getD_eq_getElem?_getD, List.getD_eq_getElem?_getD, putF_pre row (t := 0) (by omega) (by omega)]
        rfl
      · have hp' : p = row.length + 3 * ((p - row.length) / 3) + 0 := by omega
        rw [if_neg hn, List.getD_eq_getElem?_getD]
        conv => rhs; rw [hp', putF_at row (t := (p - row.length) / 3) (by omega) (by decide)]
        rfl
end Mine
end
section
open PySem PySem.W PySem.Calls PyProof.Rows
set_option maxRecDepth 100000
set_option maxHeartbeats 0
namespace Mine
theorem ways_fact : decide (∀ n : _root_.Fin 4, ∀ p : _root_.Fin 43, 1 ≤ n.1 → (tloop n.1 4 p.1 []).2 ∈ ways) = true := by decide +kernel
theorem putF_byte {row : List Nat} (hb : ∀ c ∈ row, c < 256) : ∀ t, ∀ c ∈ putF row t, c < 256
  | 0, c, hc => hb c hc
  | t + 1, c, hc => by
    have hc' : c ∈ putF row t ++ quoteL ((putF row t).getD t 0) := hc
    rcases List.mem_append.mp hc' with hc | hc
    · exact putF_byte hb t c hc
    · refine quote_lt ?_ c hc
      rw [List.getD_eq_getElem?_getD]
      cases h : (putF row t)[t]? with
      | none => decide
      | some x => exact putF_byte hb t x (List.mem_of_getElem? h)
theorem told_one {row : List Nat} {T p : Nat} (h0 : 1 ≤ row.length) (h3 : row.length ≤ 3) (hb : ∀ c ∈ row, c < 256) (hp : p < row.length + 3 * T) (hp43 : p < 43) : toldF row p = (putF row T).getD p 0 := by
  have hw := of_decide_eq_true ways_fact ⟨row.length, by omega⟩ ⟨p, hp43⟩ h0
  have hs := tloop_sym row T h0 4 p [] hp (Nat.lt_of_lt_of_le hp43 (by decide))
  dsimp only at hw
  unfold toldF
  have hc : (if (tloop row.length 4 p []).1 < row.length then row.getD (tloop row.length 4 p []).1 0 else 61) < 256 := by
    split
    · rename_i hq
      rw [List.getD_eq_getElem?_getD, List.getElem?_eq_getElem hq]
      exact hb _ (List.getElem_mem hq)
    · decide
  have ht := of_decide_eq_true told_fact ⟨_, hc⟩ _ hw
  exact ht.trans hs
theorem told_all {row : List Nat} {T : Nat} (h0 : 1 ≤ row.length) (h3 : row.length ≤ 3) (hb : ∀ c ∈ row, c < 256) (hT : T < 14) : putF row T = (List.range (row.length + 3 * T)).map (toldF row) := by
  refine List.ext_getElem? fun i => ?_
  by_cases hi : i < row.length + 3 * T
  · rw [List.getElem?_map, List.getElem?_range hi]
    show _ = some (toldF row i)
    rw [told_one h0 h3 hb hi (by omega), List.getD_eq_getElem?_getD, List.getElem?_eq_getElem (by rw [putF_len]; exact hi)]
    rfl
  · rw [List.getElem?_eq_none (by rw [putF_len]; omega), List.getElem?_eq_none (by rw [List.length_map, List.length_range]; omega)]
theorem put_enc {row : List Nat} (h0 : 1 ≤ row.length) : ∀ t, (putF row t).drop row.length = encL ((putF row t).take t)
  | 0 => by show row.drop row.length = []; exact List.drop_length
  | t + 1 => by
    have ih := put_enc h0 t
    have hl := putF_len row t
    have e : putF row (t + 1) = putF row t ++ quoteL ((putF row t).getD t 0) := rfl
    have hlt : t < (putF row t).length := by omega
    rw [e, List.drop_append_of_le_length (by omega), ih, List.take_append_of_le_length (by omega), List.take_add_one, List.getElem?_eq_getElem hlt, List.getD_eq_getElem?_getD, List.getElem?_eq_getElem hlt]
    unfold encL
    rw [List.flatMap_append]
    show _ = _ ++ (quoteL _ ++ [])
    rw [List.append_nil]
    rfl
end Mine
end
section
open PySem PySem.W PySem.Calls PyProof.Rows PyProof.Rows.LCg
set_option maxRecDepth 100000
set_option maxHeartbeats 0
set_option linter.unusedVariables false
namespace Mine
section
variable {w : World} {A A₀ : Around} {s : Shared} {base h₀ : Heap} {outer : List Env} {L fa sA : Addr} {cd : Value} {m mg mb : Str → Option Value} {p : Program} {loose : List Str} {mean : ExcName → Option Value} {news : List (Addr × Obj)}
  {Q : Flow → Shared → Prop} {E : Value → Shared → Prop} {cS cR cL cT : Obj} {vs : List Value} {xs : List Int}
theorem law_body (B : Below A₀ base outer h₀) (X₀ : (KK w.params).In h₀) (T : Top p loose mean mg mb h₀) (hA' : A.frames = some (lwE L fa cd :: outer)) (hh : A.handled = none) (hdp : A.depth < 360) (hun : A.units < 60) (C : CodeHd base 112 108)
    (F : Fr h₀ L s.heap (mL none none none none none none none none)) (N : News h₀ L s.heap [(L + 4, cT), (L + 3, cL), (L + 2, cR), (L + 1, cS), (108, tabObj #[])]) (h108 : 108 < L)
    (hS : cS.data = .cell (some (.ref sA))) (hR : cR.data = .cell none) (hL : cL.data = .cell none) (hT : cT.data = .cell none) (hl : h₀.IsList sA vs.toArray) (hi : IntsAre vs xs) (hxl : vs.length ≤ 63)
    (h : ∀ k h' l m ps, (108, tabObj ps) ∈ l → Fr h₀ L h' m → News h₀ L h' l → Q (.ret (.bool true)) { s with heap := h', toks := k }) :
    wpAny (model PySem.Challenge.rw_rs0059_01.row.prog w) A (execs lwB (lwE L fa cd)) Q E s := by
  show wpAny _ _ (execs [nthS 0 lwB, nthS 1 lwB, nthS 2 lwB, nthS 3 lwB, nthS 4 lwB, nthS 5 lwB, nthS 6 lwB, nthS 7 lwB, nthS 8 lwB, nthS 9 lwB, nthS 10 lwB] _) _ _ _
  refine wpAny_execs_cons (ls_0 B X₀ T hA' hh hdp hun F N h108 hS hl hi hxl fun hA zs k h' hz hLA F N => ?_)
  simp only [mL_hp] at F
  dsimp only
  refine wpAny_execs_cons (ls_1 B X₀ T hA' hh hdp hun hz h108 hLA hR F N fun rA rs cR k h' hr1 hr3 hb hAr hR F N => ?_)
  dsimp only
  refine wpAny_execs_cons (ls_2 (news := [(rA, lst (rowV rs)), (L + 4, cT), (L + 3, cL), (L + 2, cR), (108, tabObj #[])]) B X₀ T hA' hh hdp hun hz F (fun p hp => N p (by simp only [List.mem_cons, List.not_mem_nil, or_false] at hp ⊢; grind)) fun tn tt mx mt k h' htn F N => ?_)
  dsimp only
  refine wpAny_execs_cons (ls_3 (news := [(L + 4, cT), (L + 3, cL), (108, tabObj #[])]) B X₀ T hA' hh hdp hun hr3 hR F (fun p hp => N p (by simp only [List.mem_cons, List.not_mem_nil, or_false] at hp ⊢; grind)) fun sgA sl k h' hsl hsa hlt F N => ?_)
  dsimp only
  have hLr : L + 4 < rA := Nat.lt_trans hLA hAr
  have hrs : rA < sgA := hlt _ (.head _)
  have hsm : ∀ p ∈ (sgA, lst (sgV sl)) :: (sgO sl ++ [(rA, lst (rowV rs)), (L + 2, cR), (L + 4, cT)]), 108 < p.1 ∧ p.1 ≠ L + 3 := by
    intro p hp
    simp only [List.mem_cons, List.mem_append, List.not_mem_nil, or_false] at hp
    rcases hp with rfl | hp | rfl | rfl | rfl
    · exact ⟨show 108 < sgA by unfold Addr at *; omega, show sgA ≠ L + 3 by unfold Addr at *; omega⟩
    · obtain ⟨q, hq, e⟩ := sgO_mem hp
      have := hsa q hq
      rw [e]
      exact ⟨by unfold Addr at *; omega, by unfold Addr at *; omega⟩
    · exact ⟨show 108 < rA by unfold Addr at *; omega, show rA ≠ L + 3 by unfold Addr at *; omega⟩
    · exact ⟨show 108 < L + 2 by unfold Addr at *; omega, show L + 2 ≠ L + 3 by unfold Addr at *; omega⟩
    · exact ⟨show 108 < L + 4 by unfold Addr at *; omega, show L + 4 ≠ L + 3 by unfold Addr at *; omega⟩
  refine wpAny_execs_cons (ls_4 (news := (sgA, lst (sgV sl)) :: (sgO sl ++ [(rA, lst (rowV rs)), (L + 2, cR), (L + 4, cT)])) B X₀ T hA' hh hdp hun hL C ?_ (fun p hp => (hsm p hp).2) F (fun p hp => N p (by simp only [List.mem_cons, List.mem_append, List.not_mem_nil, or_false] at hp ⊢; grind)) fun a ps plt lnt cL k h' hO hL3 hna h8 hcL F N => ?_)
  · intro p hp
    rcases List.mem_cons.mp hp with rfl | hp
    · exact (show 108 < L + 3 by unfold Addr at *; omega)
    · exact (hsm p hp).1
  dsimp only
  refine wpAny_execs_cons (ls_5 B X₀ T hA' hh hdp hun F N fun wdA k h' hwl F N => ?_)
  dsimp only
  have hwd : a.pushA < wdA := hwl (a.pushA, listOf #[] 0) (List.mem_append_left _ (by unfold RdA.objs; simp))
  have hse : sl.map (·.c) = rs.map (·.1) := by
    have := congrArg (List.map (fun x : Nat × Nat => x.2)) hsl
    rw [List.map_map, List.map_snd_zip (by rw [List.length_map, List.length_range]; exact Nat.le_refl _)] at this
    exact this
  have hsk : ∀ q ∈ sl, q.k < 100 := fun q hq => by
    have h1 : (q.k, q.c) ∈ (List.range rs.length).zip (rs.map (·.1)) := by rw [← hsl]; exact List.mem_map_of_mem hq
    have h2 := List.mem_range.mp (List.of_mem_zip h1).1
    omega
  have hcp : a.cP < a.pushA := by
    obtain ⟨-, -, -, -, o1, o2, o3, o4, o5, o6, o7, o8, o9, o10⟩ := hO
    omega
  have hrc : rA < a.cP := hna (rA, lst (rowV rs)) (by simp)
  refine wpAny_execs_cons (ls_6 (tt := 0) (tb := tabObj ps) (sl := sl) (plt := plt) (lnt := lnt) B X₀ T hA' hh hdp hun htn hO h108 hLr hrs (hna _ (.head _)) (fun q hq => ⟨hsa q hq, ?_, hsk q hq⟩) hwd hr1 hr3 hb hR hcL hT hse F ?_ fun pre tpn wn pl ln plt lnt con ws pend wq sl sgA kk si k h' I F N => ?_)
  · exact hna _ (List.mem_cons_of_mem _ (List.mem_append_left _ (List.mem_map_of_mem (f := fun q : Sg => (q.a, pairO (.int (q.k : Nat) q.kt) (.str ⟨#[q.c]⟩ q.ct))) hq)))
  · intro p hp
    refine N p ?_
    unfold owR at hp
    simp only [List.mem_cons, List.mem_append, List.not_mem_nil, or_false] at hp ⊢
    rcases hp with hp | hp | hp | hp | hp | hp | hp | hp | hp
    · grind
    · exact .inr (.inl hp)
    · exact .inl hp
    · grind
    · grind
    · grind
    · grind
    · grind
    · grind
  dsimp only
  have hN : News h₀ L h' (enN w.params a L rA wdA rs cL cR (tabObj ps) pre tpn pl plt ln lnt wq wn) := fun p hp => N p (by
    unfold enN at hp
    unfold owR
    simp only [List.mem_cons, List.mem_append, List.not_mem_nil, or_false] at hp ⊢
    grind)
  have hal : (putF (rs.map (·.1)) tn).length = rs.length + 3 * tn := by rw [putF_len, List.length_map]
  refine wpAny_execs_cons (ls_7 (tb := tabObj ps) B X₀ T hA' hh hdp hun hO htn hr3 hR hcL h108 hLr hrc hwd I hal F hN fun k h' wq wn pl plt ln lnt con ws I F N => ?_)
  dsimp only
  have hput : wq.map (·.1) = putF (rs.map (·.1)) tn := by
    have := I.put
    simpa using this
  have hrl : (rs.map (·.1)).length = rs.length := List.length_map _
  have hrb : ∀ c ∈ rs.map (·.1), c < 256 := fun c hc => by obtain ⟨r, hr, rfl⟩ := List.mem_map.mp hc; exact hb r hr
  have hwl2 : wq.length = rs.length + 3 * tn := by rw [I.len, hal]
  refine wpAny_execs_cons (ls_8 (wq := wq) (wn := wn) (news := a.objs w.params pre.toArray tpn pl plt 0 ln lnt ++ [(L + 3, cL), (108, tabObj ps)]) B X₀ T hA' hh hdp hun htn hr1 hr3 hb hR ?_ F (fun p hp => N p (by
    unfold enN
    simp only [List.mem_cons, List.mem_append, List.not_mem_nil, or_false] at hp ⊢
    grind)) fun k h' F N => ?_)
  · rw [hput, told_all (by omega) (by omega) hrb htn, hrl]
  dsimp only
  refine wpAny_execs_cons (ls_9 (tpn := tpn) (plt := plt) (lnt := lnt) (news := [(wdA, listOf (rowV wq).toArray wn), (rA, lst (rowV rs)), (L + 2, cR), (108, tabObj ps)]) B X₀ T hA' hh hdp hun hO hcL ?_ I F (fun p hp => N p (by
    simp only [List.mem_cons, List.mem_append, List.not_mem_nil, or_false] at hp ⊢
    grind)) fun k h' pl plt ln lnt F N => ?_)
  · intro p hp
    simp only [List.mem_cons, List.not_mem_nil, or_false] at hp
    rcases hp with rfl | rfl | rfl | rfl | rfl
    · exact .inl (show L + 3 < a.cP by unfold Addr at *; omega)
    · exact .inr hwd
    · exact .inl hrc
    · exact .inl (show L + 2 < a.cP by unfold Addr at *; omega)
    · exact .inl h8
  dsimp only
  have htl : tn ≤ (putF (rs.map (·.1)) tn).length := by omega
  refine wpAny_execs_cons (ls_10 (wq := wq) (wn := wn) (cs := (putF (rs.map (·.1)) tn).take tn) (news := [(108, tabObj ps)]) B X₀ T hA' hh hdp hun htn hr1 hr3 hR (by omega) (by omega) (by omega) (fun c hc => putF_byte hrb tn c (List.mem_of_mem_take hc)) (by rw [List.length_take]; omega) ?_ ?_ F (fun p hp => N p (by
    simp only [List.mem_cons, List.mem_append, List.not_mem_nil, or_false] at hp ⊢
    grind)) fun k h' l hin F N => ?_)
  · rw [List.map_drop, hput]
    have := put_enc (row := rs.map (·.1)) (by omega) tn
    rw [hrl] at this
    exact this
  · rw [List.map_take, hput]
  exact h k h' l _ ps (hin _ (.head _)) F N
end
end Mine
end
section
open PySem PySem.W PySem.Calls PyProof.Rows PyProof.Rows.LCg
set_option maxRecDepth 100000
set_option maxHeartbeats 0
set_option linter.unusedVariables false
namespace Mine
theorem mL_none : mL none none none none none none none none = fun _ => none := by
  funext y
  unfold mL
  simp
theorem whole : PySem.Challenge.rw_rs0059_01.Holds := by
  refine hd ?_
  unfold hookK
  k_go0
  rename Fr _ _ _ _ => kF
  rename News _ _ _ _ => kN
  rename (KK _).In _ => kX
  rename Below _ _ _ _ => kB
  rename Top _ _ _ _ _ _ => kT
  rename IntsAre _ _ => kI
  rename ¬ _ < _ => kh
  rename 108 < _ => k108
  refine law_body kB kX kT rfl rfl ?hdp ?hun codeHd ?F kN k108 ?hS ?hR ?hL ?hT lifted kI ?hx ?h
  case F => rw [mL_none]; with_unfolding_all exact kF
  case hdp => exact (show callerA.depth + 1 < 360 by decide)
  case hun => exact (show callerA.units + 3 < 60 by decide)
  case hS => with_unfolding_all assumption
  case hR => with_unfolding_all assumption
  case hL => with_unfolding_all assumption
  case hT => with_unfolding_all assumption
  case hx => have := kI.length; omega
  case h =>
    intro k h' l m ps hm F N
    refine ⟨?_, ⟨⟨ps, (N _ hm).1⟩, trivial⟩⟩
    refine goodW_bool F (by assumption) (fun _ => rfl) ?_
    first | rfl | wrow_post
end Mine
end
theorem PySem.Challenge.cw_rs0059_01_holds : PySem.Challenge.rw_rs0059_01.Holds :=
  Mine.whole
