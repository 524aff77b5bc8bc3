import PyProof.Rows.All
import Wide.All
import OpenK.AllK
import Wide.FinOn
import KE.KFromBytes
import KE.KSuperObj
import PySem.Challenge.RW_qw0058_01
set_option Elab.async false
set_option maxRecDepth 100000
set_option maxHeartbeats 0
set_option linter.unusedVariables false
set_option compiler.extract_closed false
set_option genInjectivity false
set_option genSizeOf false
section
open PySem PySem.W PyProof.Rows PyData
namespace Mine
/- the text's own statements -/
noncomputable abbrev pw : Program := PySem.Challenge.pw_qw0058_01
noncomputable def znth : List Stmt → Nat → Stmt
  | [], _ => .Pass ⟨0, 0, 0, 0⟩
  | a :: _, 0 => a
  | _ :: l, n + 1 => znth l n
noncomputable abbrev zst (n : Nat) : Stmt := znth pw.main.body n
noncomputable abbrev zsm (n k : Nat) : Stmt := match zst n with | .ClassDef _ _ _ b _ _ _ _ _ _ _ => znth b k | x => x
/- shapes of objects -/
noncomputable abbrev zi (n : Int) : Value := .int n 0
noncomputable abbrev zen (P : Params) (x : Str) (n : Nat) (v : Value) : DictEntry := ⟨PyData.keyHash P x, .str x n, v⟩
noncomputable abbrev ztp (vs : Array Value) : Obj := { cls := .type "tuple", data := .seq vs }
noncomputable abbrev zfl (vs : Array Value) : Obj := { cls := .none, data := .fields vs }
noncomputable abbrev zob (t : String) (vs : Array Value) : Obj := { cls := .type t, data := .fields vs }
noncomputable abbrev zco (n q : Str) (t : Nat) (a b c d e : Int) (r x : Addr) (l : Value) (y z u : Addr) (v : Int) : Obj := zob "code" #[.str n t, .str q (t + 1), .str "/claim/cut.py" (t + 2), zi a, zi b, zi c, zi d, zi e, .ref r, .bool true, zi 181, .ref x, l, .ref y, .ref z, .ref u, zi v, zi a, .str "/claim/cut.py" (v + 1).toNat]
noncomputable abbrev zfQ (s : Stmt) (q : Str) (g : Addr) (cl : List (Str × Addr)) (df kd dc md : Value) (an : Option Addr) (cd ct : Value) (bi : Addr) : FuncData := match s with
  | .FunctionDef n ps b _ _ _ sc _ _ _ => ⟨n, q, ps, .stmts b, sc, g, cl, df, kd, dc, md, an, cd, ct, bi⟩
  | _ => default
noncomputable abbrev zfD (s : Stmt) (g : Addr) (cl : List (Str × Addr)) (df kd dc md : Value) (an : Option Addr) (cd ct : Value) (bi : Addr) : FuncData := match s with
  | .FunctionDef n ps b _ _ _ sc _ _ _ => ⟨n, n, ps, .stmts b, sc, g, cl, df, kd, dc, md, an, cd, ct, bi⟩
  | _ => default
noncomputable abbrev zfn (f : FuncData) : Obj := { cls := .type "function", data := .func f }
noncomputable abbrev zfn0 (s : Stmt) : Obj := { cls := .none, data := .func (zfD s 0 [] .none .none .none .none .none .none .none 0) }
noncomputable abbrev zfn1 (s : Stmt) (q : Str) : Obj := { cls := .none, data := .func (zfQ s q 0 [] .none .none .none .none .none .none .none 0) }
noncomputable abbrev zo3 (P : Params) : Obj := .mk (.type "dict") .none (.dict #[(zen P "__name__" 165 (.str "law_qw0058_01" 1942)), (zen P "__doc__" 166 .none), (zen P "__package__" 167 .none), (zen P "__loader__" 168 (.builtin "__main__.__loader__#opaque")), (zen P "__spec__" 169 .none), (zen P "__annotations__" 170 (.ref 6)), (zen P "__builtins__" 171 (.ref 4)), (zen P "__file__" 173 (.str "/claim/cut.py" 172)), (zen P "__cached__" 174 .none), (zen P "_wall" 193 (.ref 21)), (zen P "cmp_to_key" 204 (.ref 28)), (zen P "_initial_missing" 205 (.ref 29)), (zen P "reduce" 217 (.ref 37)), (zen P "CRLF" 219 (.str "\x0d\n" 218)), (zen P "NL" 221 (.str "\n" 220)), (zen P "_QUOPRI_MAP" 1249 (.ref 40)), (zen P "_QUOPRI_HEADER_MAP" 1250 (.ref 45)), (zen P "_QUOPRI_BODY_MAP" 1251 (.ref 47)), (zen P "ascii_lowercase" 1253 (.str "abcdefghijklmnopqrstuvwxyz" 1252)), (zen P "ascii_uppercase" 1255 (.str "ABCDEFGHIJKLMNOPQRSTUVWXYZ" 1254)), (zen P "ascii_letters" 1257 (.str "abcdefghijklmnopqrstuvwxyzABCDEFGHIJKLMNOPQRSTUVWXYZ" 1256)), (zen P "digits" 1259 (.str "0123456789" 1258)), (zen P "quote" 1765 (.ref 60)), (zen P "header_encode" 1775 (.ref 68)), (zen P "_QUOPRI_BODY_ENCODE_MAP" 1776 (.ref 70)), (zen P "body_encode" 1803 (.ref 81)), (zen P "_plain_name" 1814 (.ref 88)), (zen P "ABCMeta" 1840 (.ref 105)), (zen P "_ABCLike" 1883 (.ref 138)), (zen P "_abc_plain_meta" 1890 (.ref 147)), (zen P "fspath" 1902 (.ref 154)), (zen P "_check_arg_types" 1915 (.ref 161)), (zen P "_get_sep" 1924 (.ref 168)), (zen P "join" 1935 (.ref 175)), (zen P "commonpath" 1941 (.ref 180)), (zen P "_law_text" 1953 (.ref 187)), (zen P "_law_written" 1959 (.ref 192)), (zen P "_law_names" 1972 (.ref 199)), (zen P "_law_spelled" 1978 (.ref 204)), (zen P "_law_compare" 1989 (.ref 211)), (zen P "law" 1995 (.ref 216))] 43) #[]
noncomputable abbrev zo11 (P : Params) : Obj := ztp #[]
noncomputable abbrev zo12 (P : Params) : Obj := zfl #[(zi 1), (zi 0), (.ref 20), (zi 5), (zi 0), (.ref 27), (zi 31), (zi 0), (.ref 36), (zi 58), (zi 0), (.ref 59), (zi 60), (zi 0), (.ref 67), (zi 69), (zi 0), (.ref 80), (zi 108), (zi 0), (.ref 87), (zi 114), (zi 0), (.ref 94), (zi 119), (zi 0), (.ref 113), (zi 134), (zi 0), (.ref 146), (zi 138), (zi 0), (.ref 153), (zi 155), (zi 0), (.ref 160), (zi 167), (zi 0), (.ref 167), (zi 172), (zi 0), (.ref 174), (zi 189), (zi 0), (.ref 179), (zi 219), (zi 0), (.ref 186), (zi 231), (zi 0), (.ref 191), (zi 240), (zi 0), (.ref 198), (zi 257), (zi 0), (.ref 203), (zi 259), (zi 0), (.ref 210), (zi 268), (zi 0), (.ref 215)]
noncomputable abbrev zo13 (P : Params) : Obj := zob "code" #[(.str "<module>" 182), (.str "<module>" 183), (.str "/claim/cut.py" 184), (zi 1), (zi 0), (zi 0), (zi 0), (zi 0), (.ref 11), (.bool .false), (zi 181), (.ref 12), .none, .none, .none, .none, (zi 185), (zi 1), (.str "/claim/cut.py" 186)]
noncomputable abbrev zo14 (P : Params) : Obj := .mk (.type "frame") .none .plain #[(.some (.ref 13)), (.some (.ref 3)), (.some (.ref 3)), .none, (.some (.str "__main__" 164)), .none, (.some (.ref 0))]
noncomputable abbrev zo15 (P : Params) : Obj := ztp #[]
noncomputable abbrev zo16 (P : Params) : Obj := zfl #[]
noncomputable abbrev zo17 (P : Params) : Obj := ztp #[(.str "k" 190)]
noncomputable abbrev zo18 (P : Params) : Obj := ztp #[]
noncomputable abbrev zo19 (P : Params) : Obj := zfn0 (zst 0)
noncomputable abbrev zo20 (P : Params) : Obj := zco "_wall" "_wall" 187 1 1 0 0 3 15 16 .none 17 18 19 191
noncomputable abbrev zo21 (P : Params) : Obj := zfn (zfD (zst 0) 3 [] .none .none .none (.str "__main__" 164) .none (.ref 20) .none 0)
noncomputable abbrev zo22 (P : Params) : Obj := ztp #[]
noncomputable abbrev zo23 (P : Params) : Obj := zfl #[]
noncomputable abbrev zo24 (P : Params) : Obj := ztp #[(.str "mycmp" 199), (.str "K" 200)]
noncomputable abbrev zo25 (P : Params) : Obj := ztp #[(.str "mycmp" 201)]
noncomputable abbrev zo26 (P : Params) : Obj := zfn0 (zst 2)
noncomputable abbrev zo27 (P : Params) : Obj := zco "cmp_to_key" "cmp_to_key" 196 5 1 0 0 3 22 23 .none 24 25 26 202
noncomputable abbrev zo28 (P : Params) : Obj := zfn (zfD (zst 2) 3 [] .none .none .none (.str "cpy313.functools" 194) .none (.ref 27) .none 0)
noncomputable abbrev zo29 (P : Params) : Obj := .mk (.type "object") .none .plain #[]
noncomputable abbrev zo30 (P : Params) : Obj := ztp #[(.ref 29)]
noncomputable abbrev zo31 (P : Params) : Obj := ztp #[]
noncomputable abbrev zo32 (P : Params) : Obj := zfl #[]
noncomputable abbrev zo33 (P : Params) : Obj := ztp #[(.str "function" 209), (.str "sequence" 210), (.str "initial" 211), (.str "it" 212), (.str "value" 213), (.str "element" 214)]
noncomputable abbrev zo34 (P : Params) : Obj := ztp #[]
noncomputable abbrev zo35 (P : Params) : Obj := zfn0 (zst 4)
noncomputable abbrev zo36 (P : Params) : Obj := zco "reduce" "reduce" 206 31 3 0 0 3 31 32 .none 33 34 35 215
noncomputable abbrev zo37 (P : Params) : Obj := zfn (zfD (zst 4) 3 [] (.ref 30) .none .none (.str "cpy313.functools" 194) .none (.ref 36) .none 0)
noncomputable abbrev zo38 (P : Params) : Obj := zob "range" #[(.int 0 223), (.int 256 222), (.int 1 224)]
noncomputable abbrev zo39 (P : Params) : Obj := zob "range_iterator" #[(zi 256), (zi 0), (zi 1)]
noncomputable def zq40 : List Value := [.str "=00" 228, .str "=01" 232, .str "=02" 236, .str "=03" 240, .str "=04" 244, .str "=05" 248, .str "=06" 252, .str "=07" 256, .str "=08" 260, .str "=09" 264, .str "=0A" 268, .str "=0B" 272, .str "=0C" 276, .str "=0D" 280, .str "=0E" 284, .str "=0F" 288, .str "=10" 292, .str "=11" 296, .str "=12" 300, .str "=13" 304, .str "=14" 308, .str "=15" 312, .str "=16" 316, .str "=17" 320, .str "=18" 324, .str "=19" 328, .str "=1A" 332, .str "=1B" 336, .str "=1C" 340, .str "=1D" 344, .str "=1E" 348, .str "=1F" 352, .str "=20" 356, .str "=21" 360, .str "=22" 364, .str "=23" 368, .str "=24" 372, .str "=25" 376, .str "=26" 380, .str "=27" 384, .str "=28" 388, .str "=29" 392, .str "=2A" 396, .str "=2B" 400, .str "=2C" 404, .str "=2D" 408, .str "=2E" 412, .str "=2F" 416, .str "=30" 420, .str "=31" 424, .str "=32" 428, .str "=33" 432, .str "=34" 436, .str "=35" 440, .str "=36" 444, .str "=37" 448, .str "=38" 452, .str "=39" 456, .str "=3A" 460, .str "=3B" 464, .str "=3C" 468, .str "=3D" 472, .str "=3E" 476, .str "=3F" 480, .str "=40" 484, .str "=41" 488, .str "=42" 492, .str "=43" 496, .str "=44" 500, .str "=45" 504, .str "=46" 508, .str "=47" 512, .str "=48" 516, .str "=49" 520, .str "=4A" 524, .str "=4B" 528, .str "=4C" 532, .str "=4D" 536, .str "=4E" 540, .str "=4F" 544, .str "=50" 548, .str "=51" 552, .str "=52" 556, .str "=53" 560, .str "=54" 564, .str "=55" 568, .str "=56" 572, .str "=57" 576, .str "=58" 580, .str "=59" 584, .str "=5A" 588, .str "=5B" 592, .str "=5C" 596, .str "=5D" 600, .str "=5E" 604, .str "=5F" 608, .str "=60" 612, .str "=61" 616, .str "=62" 620, .str "=63" 624, .str "=64" 628, .str "=65" 632, .str "=66" 636, .str "=67" 640, .str "=68" 644, .str "=69" 648, .str "=6A" 652, .str "=6B" 656, .str "=6C" 660, .str "=6D" 664, .str "=6E" 668, .str "=6F" 672, .str "=70" 676, .str "=71" 680, .str "=72" 684, .str "=73" 688, .str "=74" 692, .str "=75" 696, .str "=76" 700, .str "=77" 704, .str "=78" 708, .str "=79" 712, .str "=7A" 716, .str "=7B" 720, .str "=7C" 724, .str "=7D" 728, .str "=7E" 732, .str "=7F" 736, .str "=80" 740, .str "=81" 744, .str "=82" 748, .str "=83" 752, .str "=84" 756, .str "=85" 760, .str "=86" 764, .str "=87" 768, .str "=88" 772, .str "=89" 776, .str "=8A" 780, .str "=8B" 784, .str "=8C" 788, .str "=8D" 792, .str "=8E" 796, .str "=8F" 800, .str "=90" 804, .str "=91" 808, .str "=92" 812, .str "=93" 816, .str "=94" 820, .str "=95" 824, .str "=96" 828, .str "=97" 832, .str "=98" 836, .str "=99" 840, .str "=9A" 844, .str "=9B" 848, .str "=9C" 852, .str "=9D" 856, .str "=9E" 860, .str "=9F" 864, .str "=A0" 868, .str "=A1" 872, .str "=A2" 876, .str "=A3" 880, .str "=A4" 884, .str "=A5" 888, .str "=A6" 892, .str "=A7" 896, .str "=A8" 900, .str "=A9" 904, .str "=AA" 908, .str "=AB" 912, .str "=AC" 916, .str "=AD" 920, .str "=AE" 924, .str "=AF" 928, .str "=B0" 932, .str "=B1" 936, .str "=B2" 940, .str "=B3" 944, .str "=B4" 948, .str "=B5" 952, .str "=B6" 956, .str "=B7" 960, .str "=B8" 964, .str "=B9" 968, .str "=BA" 972, .str "=BB" 976, .str "=BC" 980, .str "=BD" 984, .str "=BE" 988, .str "=BF" 992, .str "=C0" 996, .str "=C1" 1000, .str "=C2" 1004, .str "=C3" 1008, .str "=C4" 1012, .str "=C5" 1016, .str "=C6" 1020, .str "=C7" 1024, .str "=C8" 1028, .str "=C9" 1032, .str "=CA" 1036, .str "=CB" 1040, .str "=CC" 1044, .str "=CD" 1048, .str "=CE" 1052, .str "=CF" 1056, .str "=D0" 1060, .str "=D1" 1064, .str "=D2" 1068, .str "=D3" 1072, .str "=D4" 1076, .str "=D5" 1080, .str "=D6" 1084, .str "=D7" 1088, .str "=D8" 1092, .str "=D9" 1096, .str "=DA" 1100, .str "=DB" 1104, .str "=DC" 1108, .str "=DD" 1112, .str "=DE" 1116, .str "=DF" 1120, .str "=E0" 1124, .str "=E1" 1128, .str "=E2" 1132, .str "=E3" 1136, .str "=E4" 1140, .str "=E5" 1144, .str "=E6" 1148, .str "=E7" 1152, .str "=E8" 1156, .str "=E9" 1160, .str "=EA" 1164, .str "=EB" 1168, .str "=EC" 1172, .str "=ED" 1176, .str "=EE" 1180, .str "=EF" 1184, .str "=F0" 1188, .str "=F1" 1192, .str "=F2" 1196, .str "=F3" 1200, .str "=F4" 1204, .str "=F5" 1208, .str "=F6" 1212, .str "=F7" 1216, .str "=F8" 1220, .str "=F9" 1224, .str "=FA" 1228, .str "=FB" 1232, .str "=FC" 1236, .str "=FD" 1240, .str "=FE" 1244, .str "=FF" 1248]
noncomputable abbrev zo40 (P : Params) : Obj := .mk (.type "list") .none (.seq ⟨zq40⟩ 256) #[]
noncomputable abbrev zo41 (P : Params) : Obj := .mk (.type "dict") .none (.dict #[] 2) #[]
noncomputable abbrev zo42 (P : Params) : Obj := ztp #[]
noncomputable abbrev zo43 (P : Params) : Obj := zob "StopIteration" #[(.ref 42), .none, .none, .none, (.bool .false), .none]
noncomputable abbrev zo44 (P : Params) : Obj := zob "slice" #[.none, .none, .none]
noncomputable def zq45 : List Value := [.str "=00" 228, .str "=01" 232, .str "=02" 236, .str "=03" 240, .str "=04" 244, .str "=05" 248, .str "=06" 252, .str "=07" 256, .str "=08" 260, .str "=09" 264, .str "=0A" 268, .str "=0B" 272, .str "=0C" 276, .str "=0D" 280, .str "=0E" 284, .str "=0F" 288, .str "=10" 292, .str "=11" 296, .str "=12" 300, .str "=13" 304, .str "=14" 308, .str "=15" 312, .str "=16" 316, .str "=17" 320, .str "=18" 324, .str "=19" 328, .str "=1A" 332, .str "=1B" 336, .str "=1C" 340, .str "=1D" 344, .str "=1E" 348, .str "=1F" 352, .str "_" 1470, .str "!" 1274, .str "=22" 364, .str "=23" 368, .str "=24" 372, .str "=25" 376, .str "=26" 380, .str "=27" 384, .str "=28" 388, .str "=29" 392, .str "*" 1277, .str "+" 1280, .str "=2C" 404, .str "-" 1271, .str "=2E" 412, .str "/" 1283, .str "0" 1442, .str "1" 1445, .str "2" 1448, .str "3" 1451, .str "4" 1454, .str "5" 1457, .str "6" 1460, .str "7" 1463, .str "8" 1466, .str "9" 1469, .str "=3A" 460, .str "=3B" 464, .str "=3C" 468, .str "=3D" 472, .str "=3E" 476, .str "=3F" 480, .str "=40" 484, .str "A" 1364, .str "B" 1367, .str "C" 1370, .str "D" 1373, .str "E" 1376, .str "F" 1379, .str "G" 1382, .str "H" 1385, .str "I" 1388, .str "J" 1391, .str "K" 1394, .str "L" 1397, .str "M" 1400, .str "N" 1403, .str "O" 1406, .str "P" 1409, .str "Q" 1412, .str "R" 1415, .str "S" 1418, .str "T" 1421, .str "U" 1424, .str "V" 1427, .str "W" 1430, .str "X" 1433, .str "Y" 1436, .str "Z" 1439, .str "=5B" 592, .str "=5C" 596, .str "=5D" 600, .str "=5E" 604, .str "=5F" 608, .str "=60" 612, .str "a" 1286, .str "b" 1289, .str "c" 1292, .str "d" 1295, .str "e" 1298, .str "f" 1301, .str "g" 1304, .str "h" 1307, .str "i" 1310, .str "j" 1313, .str "k" 1316, .str "l" 1319, .str "m" 1322, .str "n" 1325, .str "o" 1328, .str "p" 1331, .str "q" 1334, .str "r" 1337, .str "s" 1340, .str "t" 1343, .str "u" 1346, .str "v" 1349, .str "w" 1352, .str "x" 1355, .str "y" 1358, .str "z" 1361, .str "=7B" 720, .str "=7C" 724, .str "=7D" 728, .str "=7E" 732, .str "=7F" 736, .str "=80" 740, .str "=81" 744, .str "=82" 748, .str "=83" 752, .str "=84" 756, .str "=85" 760, .str "=86" 764, .str "=87" 768, .str "=88" 772, .str "=89" 776, .str "=8A" 780, .str "=8B" 784, .str "=8C" 788, .str "=8D" 792, .str "=8E" 796, .str "=8F" 800, .str "=90" 804, .str "=91" 808, .str "=92" 812, .str "=93" 816, .str "=94" 820, .str "=95" 824, .str "=96" 828, .str "=97" 832, .str "=98" 836, .str "=99" 840, .str "=9A" 844, .str "=9B" 848, .str "=9C" 852, .str "=9D" 856, .str "=9E" 860, .str "=9F" 864, .str "=A0" 868, .str "=A1" 872, .str "=A2" 876, .str "=A3" 880, .str "=A4" 884, .str "=A5" 888, .str "=A6" 892, .str "=A7" 896, .str "=A8" 900, .str "=A9" 904, .str "=AA" 908, .str "=AB" 912, .str "=AC" 916, .str "=AD" 920, .str "=AE" 924, .str "=AF" 928, .str "=B0" 932, .str "=B1" 936, .str "=B2" 940, .str "=B3" 944, .str "=B4" 948, .str "=B5" 952, .str "=B6" 956, .str "=B7" 960, .str "=B8" 964, .str "=B9" 968, .str "=BA" 972, .str "=BB" 976, .str "=BC" 980, .str "=BD" 984, .str "=BE" 988, .str "=BF" 992, .str "=C0" 996, .str "=C1" 1000, .str "=C2" 1004, .str "=C3" 1008, .str "=C4" 1012, .str "=C5" 1016, .str "=C6" 1020, .str "=C7" 1024, .str "=C8" 1028, .str "=C9" 1032, .str "=CA" 1036, .str "=CB" 1040, .str "=CC" 1044, .str "=CD" 1048, .str "=CE" 1052, .str "=CF" 1056, .str "=D0" 1060, .str "=D1" 1064, .str "=D2" 1068, .str "=D3" 1072, .str "=D4" 1076, .str "=D5" 1080, .str "=D6" 1084, .str "=D7" 1088, .str "=D8" 1092, .str "=D9" 1096, .str "=DA" 1100, .str "=DB" 1104, .str "=DC" 1108, .str "=DD" 1112, .str "=DE" 1116, .str "=DF" 1120, .str "=E0" 1124, .str "=E1" 1128, .str "=E2" 1132, .str "=E3" 1136, .str "=E4" 1140, .str "=E5" 1144, .str "=E6" 1148, .str "=E7" 1152, .str "=E8" 1156, .str "=E9" 1160, .str "=EA" 1164, .str "=EB" 1168, .str "=EC" 1172, .str "=ED" 1176, .str "=EE" 1180, .str "=EF" 1184, .str "=F0" 1188, .str "=F1" 1192, .str "=F2" 1196, .str "=F3" 1200, .str "=F4" 1204, .str "=F5" 1208, .str "=F6" 1212, .str "=F7" 1216, .str "=F8" 1220, .str "=F9" 1224, .str "=FA" 1228, .str "=FB" 1232, .str "=FC" 1236, .str "=FD" 1240, .str "=FE" 1244, .str "=FF" 1248]
noncomputable abbrev zo45 (P : Params) : Obj := .mk (.type "list") .none (.seq ⟨zq45⟩ 0) #[]
noncomputable abbrev zo46 (P : Params) : Obj := zob "slice" #[.none, .none, .none]
noncomputable def zq47 : List Value := [.str "=00" 228, .str "=01" 232, .str "=02" 236, .str "=03" 240, .str "=04" 244, .str "=05" 248, .str "=06" 252, .str "=07" 256, .str "=08" 260, .str "\t" 1758, .str "=0A" 268, .str "=0B" 272, .str "=0C" 276, .str "=0D" 280, .str "=0E" 284, .str "=0F" 288, .str "=10" 292, .str "=11" 296, .str "=12" 300, .str "=13" 304, .str "=14" 308, .str "=15" 312, .str "=16" 316, .str "=17" 320, .str "=18" 324, .str "=19" 328, .str "=1A" 332, .str "=1B" 336, .str "=1C" 340, .str "=1D" 344, .str "=1E" 348, .str "=1F" 352, .str " " 1476, .str "!" 1479, .str "\"" 1482, .str "#" 1485, .str "$" 1488, .str "%" 1491, .str "&" 1494, .str "'" 1497, .str "(" 1500, .str ")" 1503, .str "*" 1506, .str "+" 1509, .str "," 1512, .str "-" 1515, .str "." 1518, .str "/" 1521, .str "0" 1524, .str "1" 1527, .str "2" 1530, .str "3" 1533, .str "4" 1536, .str "5" 1539, .str "6" 1542, .str "7" 1545, .str "8" 1548, .str "9" 1551, .str ":" 1554, .str ";" 1557, .str "<" 1560, .str "=3D" 472, .str ">" 1563, .str "?" 1566, .str "@" 1569, .str "A" 1572, .str "B" 1575, .str "C" 1578, .str "D" 1581, .str "E" 1584, .str "F" 1587, .str "G" 1590, .str "H" 1593, .str "I" 1596, .str "J" 1599, .str "K" 1602, .str "L" 1605, .str "M" 1608, .str "N" 1611, .str "O" 1614, .str "P" 1617, .str "Q" 1620, .str "R" 1623, .str "S" 1626, .str "T" 1629, .str "U" 1632, .str "V" 1635, .str "W" 1638, .str "X" 1641, .str "Y" 1644, .str "Z" 1647, .str "[" 1650, .str "\\" 1653, .str "]" 1656, .str "^" 1659, .str "_" 1662, .str "`" 1665, .str "a" 1668, .str "b" 1671, .str "c" 1674, .str "d" 1677, .str "e" 1680, .str "f" 1683, .str "g" 1686, .str "h" 1689, .str "i" 1692, .str "j" 1695, .str "k" 1698, .str "l" 1701, .str "m" 1704, .str "n" 1707, .str "o" 1710, .str "p" 1713, .str "q" 1716, .str "r" 1719, .str "s" 1722, .str "t" 1725, .str "u" 1728, .str "v" 1731, .str "w" 1734, .str "x" 1737, .str "y" 1740, .str "z" 1743, .str "{" 1746, .str "|" 1749, .str "}" 1752, .str "~" 1755, .str "=7F" 736, .str "=80" 740, .str "=81" 744, .str "=82" 748, .str "=83" 752, .str "=84" 756, .str "=85" 760, .str "=86" 764, .str "=87" 768, .str "=88" 772, .str "=89" 776, .str "=8A" 780, .str "=8B" 784, .str "=8C" 788, .str "=8D" 792, .str "=8E" 796, .str "=8F" 800, .str "=90" 804, .str "=91" 808, .str "=92" 812, .str "=93" 816, .str "=94" 820, .str "=95" 824, .str "=96" 828, .str "=97" 832, .str "=98" 836, .str "=99" 840, .str "=9A" 844, .str "=9B" 848, .str "=9C" 852, .str "=9D" 856, .str "=9E" 860, .str "=9F" 864, .str "=A0" 868, .str "=A1" 872, .str "=A2" 876, .str "=A3" 880, .str "=A4" 884, .str "=A5" 888, .str "=A6" 892, .str "=A7" 896, .str "=A8" 900, .str "=A9" 904, .str "=AA" 908, .str "=AB" 912, .str "=AC" 916, .str "=AD" 920, .str "=AE" 924, .str "=AF" 928, .str "=B0" 932, .str "=B1" 936, .str "=B2" 940, .str "=B3" 944, .str "=B4" 948, .str "=B5" 952, .str "=B6" 956, .str "=B7" 960, .str "=B8" 964, .str "=B9" 968, .str "=BA" 972, .str "=BB" 976, .str "=BC" 980, .str "=BD" 984, .str "=BE" 988, .str "=BF" 992, .str "=C0" 996, .str "=C1" 1000, .str "=C2" 1004, .str "=C3" 1008, .str "=C4" 1012, .str "=C5" 1016, .str "=C6" 1020, .str "=C7" 1024, .str "=C8" 1028, .str "=C9" 1032, .str "=CA" 1036, .str "=CB" 1040, .str "=CC" 1044, .str "=CD" 1048, .str "=CE" 1052, .str "=CF" 1056, .str "=D0" 1060, .str "=D1" 1064, .str "=D2" 1068, .str "=D3" 1072, .str "=D4" 1076, .str "=D5" 1080, .str "=D6" 1084, .str "=D7" 1088, .str "=D8" 1092, .str "=D9" 1096, .str "=DA" 1100, .str "=DB" 1104, .str "=DC" 1108, .str "=DD" 1112, .str "=DE" 1116, .str "=DF" 1120, .str "=E0" 1124, .str "=E1" 1128, .str "=E2" 1132, .str "=E3" 1136, .str "=E4" 1140, .str "=E5" 1144, .str "=E6" 1148, .str "=E7" 1152, .str "=E8" 1156, .str "=E9" 1160, .str "=EA" 1164, .str "=EB" 1168, .str "=EC" 1172, .str "=ED" 1176, .str "=EE" 1180, .str "=EF" 1184, .str "=F0" 1188, .str "=F1" 1192, .str "=F2" 1196, .str "=F3" 1200, .str "=F4" 1204, .str "=F5" 1208, .str "=F6" 1212, .str "=F7" 1216, .str "=F8" 1220, .str "=F9" 1224, .str "=FA" 1228, .str "=FB" 1232, .str "=FC" 1236, .str "=FD" 1240, .str "=FE" 1244, .str "=FF" 1248]
noncomputable abbrev zo47 (P : Params) : Obj := .mk (.type "list") .none (.seq ⟨zq47⟩ 0) #[]
noncomputable abbrev zo48 (P : Params) : Obj := zob "bytes_iterator" #[.none, (zi 67)]
noncomputable abbrev zo49 (P : Params) : Obj := ztp #[]
noncomputable abbrev zo50 (P : Params) : Obj := zob "StopIteration" #[(.ref 49), .none, .none, .none, (.bool .false), .none]
noncomputable abbrev zo51 (P : Params) : Obj := zob "bytes_iterator" #[.none, (zi 95)]
noncomputable abbrev zo52 (P : Params) : Obj := ztp #[]
noncomputable abbrev zo53 (P : Params) : Obj := zob "StopIteration" #[(.ref 52), .none, .none, .none, (.bool .false), .none]
noncomputable abbrev zo54 (P : Params) : Obj := ztp #[]
noncomputable abbrev zo55 (P : Params) : Obj := zfl #[]
noncomputable abbrev zo56 (P : Params) : Obj := ztp #[(.str "c" 1762)]
noncomputable abbrev zo57 (P : Params) : Obj := ztp #[]
noncomputable abbrev zo58 (P : Params) : Obj := zfn0 (zst 18)
noncomputable abbrev zo59 (P : Params) : Obj := zco "quote" "quote" 1759 58 1 0 0 3 54 55 .none 56 57 58 1763
noncomputable abbrev zo60 (P : Params) : Obj := zfn (zfD (zst 18) 3 [] .none .none .none (.str "cpy313.email.quoprimime" 1260) .none (.ref 59) .none 0)
noncomputable abbrev zo61 (P : Params) : Obj := ztp #[(.str "iso-8859-1" 1766)]
noncomputable abbrev zo62 (P : Params) : Obj := ztp #[]
noncomputable abbrev zo63 (P : Params) : Obj := zfl #[]
noncomputable abbrev zo64 (P : Params) : Obj := ztp #[(.str "header_bytes" 1770), (.str "charset" 1771), (.str "encoded" 1772)]
noncomputable abbrev zo65 (P : Params) : Obj := ztp #[]
noncomputable abbrev zo66 (P : Params) : Obj := zfn0 (zst 19)
noncomputable abbrev zo67 (P : Params) : Obj := zco "header_encode" "header_encode" 1767 60 2 0 0 3 62 63 .none 64 65 66 1773
noncomputable abbrev zo68 (P : Params) : Obj := zfn (zfD (zst 19) 3 [] (.ref 61) .none .none (.str "cpy313.email.quoprimime" 1260) .none (.ref 67) .none 0)
noncomputable abbrev zo69 (P : Params) : Obj := zob "slice" #[.none, .none, .none]
noncomputable def zq70 : List Value := [.str "=00" 228, .str "=01" 232, .str "=02" 236, .str "=03" 240, .str "=04" 244, .str "=05" 248, .str "=06" 252, .str "=07" 256, .str "=08" 260, .str "\t" 1758, .str "\n" 1783, .str "=0B" 272, .str "=0C" 276, .str "\x0d" 1780, .str "=0E" 284, .str "=0F" 288, .str "=10" 292, .str "=11" 296, .str "=12" 300, .str "=13" 304, .str "=14" 308, .str "=15" 312, .str "=16" 316, .str "=17" 320, .str "=18" 324, .str "=19" 328, .str "=1A" 332, .str "=1B" 336, .str "=1C" 340, .str "=1D" 344, .str "=1E" 348, .str "=1F" 352, .str " " 1476, .str "!" 1479, .str "\"" 1482, .str "#" 1485, .str "$" 1488, .str "%" 1491, .str "&" 1494, .str "'" 1497, .str "(" 1500, .str ")" 1503, .str "*" 1506, .str "+" 1509, .str "," 1512, .str "-" 1515, .str "." 1518, .str "/" 1521, .str "0" 1524, .str "1" 1527, .str "2" 1530, .str "3" 1533, .str "4" 1536, .str "5" 1539, .str "6" 1542, .str "7" 1545, .str "8" 1548, .str "9" 1551, .str ":" 1554, .str ";" 1557, .str "<" 1560, .str "=3D" 472, .str ">" 1563, .str "?" 1566, .str "@" 1569, .str "A" 1572, .str "B" 1575, .str "C" 1578, .str "D" 1581, .str "E" 1584, .str "F" 1587, .str "G" 1590, .str "H" 1593, .str "I" 1596, .str "J" 1599, .str "K" 1602, .str "L" 1605, .str "M" 1608, .str "N" 1611, .str "O" 1614, .str "P" 1617, .str "Q" 1620, .str "R" 1623, .str "S" 1626, .str "T" 1629, .str "U" 1632, .str "V" 1635, .str "W" 1638, .str "X" 1641, .str "Y" 1644, .str "Z" 1647, .str "[" 1650, .str "\\" 1653, .str "]" 1656, .str "^" 1659, .str "_" 1662, .str "`" 1665, .str "a" 1668, .str "b" 1671, .str "c" 1674, .str "d" 1677, .str "e" 1680, .str "f" 1683, .str "g" 1686, .str "h" 1689, .str "i" 1692, .str "j" 1695, .str "k" 1698, .str "l" 1701, .str "m" 1704, .str "n" 1707, .str "o" 1710, .str "p" 1713, .str "q" 1716, .str "r" 1719, .str "s" 1722, .str "t" 1725, .str "u" 1728, .str "v" 1731, .str "w" 1734, .str "x" 1737, .str "y" 1740, .str "z" 1743, .str "{" 1746, .str "|" 1749, .str "}" 1752, .str "~" 1755, .str "=7F" 736, .str "=80" 740, .str "=81" 744, .str "=82" 748, .str "=83" 752, .str "=84" 756, .str "=85" 760, .str "=86" 764, .str "=87" 768, .str "=88" 772, .str "=89" 776, .str "=8A" 780, .str "=8B" 784, .str "=8C" 788, .str "=8D" 792, .str "=8E" 796, .str "=8F" 800, .str "=90" 804, .str "=91" 808, .str "=92" 812, .str "=93" 816, .str "=94" 820, .str "=95" 824, .str "=96" 828, .str "=97" 832, .str "=98" 836, .str "=99" 840, .str "=9A" 844, .str "=9B" 848, .str "=9C" 852, .str "=9D" 856, .str "=9E" 860, .str "=9F" 864, .str "=A0" 868, .str "=A1" 872, .str "=A2" 876, .str "=A3" 880, .str "=A4" 884, .str "=A5" 888, .str "=A6" 892, .str "=A7" 896, .str "=A8" 900, .str "=A9" 904, .str "=AA" 908, .str "=AB" 912, .str "=AC" 916, .str "=AD" 920, .str "=AE" 924, .str "=AF" 928, .str "=B0" 932, .str "=B1" 936, .str "=B2" 940, .str "=B3" 944, .str "=B4" 948, .str "=B5" 952, .str "=B6" 956, .str "=B7" 960, .str "=B8" 964, .str "=B9" 968, .str "=BA" 972, .str "=BB" 976, .str "=BC" 980, .str "=BD" 984, .str "=BE" 988, .str "=BF" 992, .str "=C0" 996, .str "=C1" 1000, .str "=C2" 1004, .str "=C3" 1008, .str "=C4" 1012, .str "=C5" 1016, .str "=C6" 1020, .str "=C7" 1024, .str "=C8" 1028, .str "=C9" 1032, .str "=CA" 1036, .str "=CB" 1040, .str "=CC" 1044, .str "=CD" 1048, .str "=CE" 1052, .str "=CF" 1056, .str "=D0" 1060, .str "=D1" 1064, .str "=D2" 1068, .str "=D3" 1072, .str "=D4" 1076, .str "=D5" 1080, .str "=D6" 1084, .str "=D7" 1088, .str "=D8" 1092, .str "=D9" 1096, .str "=DA" 1100, .str "=DB" 1104, .str "=DC" 1108, .str "=DD" 1112, .str "=DE" 1116, .str "=DF" 1120, .str "=E0" 1124, .str "=E1" 1128, .str "=E2" 1132, .str "=E3" 1136, .str "=E4" 1140, .str "=E5" 1144, .str "=E6" 1148, .str "=E7" 1152, .str "=E8" 1156, .str "=E9" 1160, .str "=EA" 1164, .str "=EB" 1168, .str "=EC" 1172, .str "=ED" 1176, .str "=EE" 1180, .str "=EF" 1184, .str "=F0" 1188, .str "=F1" 1192, .str "=F2" 1196, .str "=F3" 1200, .str "=F4" 1204, .str "=F5" 1208, .str "=F6" 1212, .str "=F7" 1216, .str "=F8" 1220, .str "=F9" 1224, .str "=FA" 1228, .str "=FB" 1232, .str "=FC" 1236, .str "=FD" 1240, .str "=FE" 1244, .str "=FF" 1248]
noncomputable abbrev zo70 (P : Params) : Obj := .mk (.type "list") .none (.seq ⟨zq70⟩ 0) #[]
noncomputable abbrev zo71 (P : Params) : Obj := zob "bytes_iterator" #[.none, (zi 2)]
noncomputable abbrev zo72 (P : Params) : Obj := ztp #[]
noncomputable abbrev zo73 (P : Params) : Obj := zob "StopIteration" #[(.ref 72), .none, .none, .none, (.bool .false), .none]
noncomputable abbrev zo74 (P : Params) : Obj := ztp #[(.int 76 1784), (.str "\n" 220)]
noncomputable abbrev zo75 (P : Params) : Obj := ztp #[]
noncomputable abbrev zo76 (P : Params) : Obj := zfl #[]
noncomputable abbrev zo77 (P : Params) : Obj := ztp #[(.str "body" 1788), (.str "maxlinelen" 1789), (.str "eol" 1790), (.str "soft_break" 1791), (.str "maxlinelen1" 1792), (.str "encoded_body" 1793), (.str "append" 1794), (.str "line" 1795), (.str "start" 1796), (.str "laststart" 1797), (.str "stop" 1798), (.str "room" 1799), (.str "q" 1800)]
noncomputable abbrev zo78 (P : Params) : Obj := ztp #[]
noncomputable abbrev zo79 (P : Params) : Obj := zfn0 (zst 23)
noncomputable abbrev zo80 (P : Params) : Obj := zco "body_encode" "body_encode" 1785 69 3 0 0 3 75 76 .none 77 78 79 1801
noncomputable abbrev zo81 (P : Params) : Obj := zfn (zfD (zst 23) 3 [] (.ref 74) .none .none (.str "cpy313.email.quoprimime" 1260) .none (.ref 80) .none 0)
noncomputable abbrev zo82 (P : Params) : Obj := ztp #[]
noncomputable abbrev zo83 (P : Params) : Obj := zfl #[]
noncomputable abbrev zo84 (P : Params) : Obj := ztp #[(.str "x" 1809), (.str "what" 1810), (.str "kind" 1811)]
noncomputable abbrev zo85 (P : Params) : Obj := ztp #[]
noncomputable abbrev zo86 (P : Params) : Obj := zfn0 (zst 25)
noncomputable abbrev zo87 (P : Params) : Obj := zco "_plain_name" "_plain_name" 1806 108 2 0 0 3 82 83 .none 84 85 86 1812
noncomputable abbrev zo88 (P : Params) : Obj := zfn (zfD (zst 25) 3 [] .none .none .none (.str "os" 1804) .none (.ref 87) .none 0)
noncomputable abbrev zo89 (P : Params) : Obj := ztp #[(.type "type")]
noncomputable abbrev zo90 (P : Params) : Obj := zob "builtin_function_or_method" #[(.builtin "type.__prepare__"), (.type "type")]
noncomputable abbrev zo91 (P : Params) : Obj := .mk (.type "dict") .none (.dict #[(zen P "__module__" 1824 (.str "abc" 1815)), (zen P "__qualname__" 1826 (.str "ABCMeta" 1825)), (zen P "__firstlineno__" 1828 (.int 114 1827)), (zen P "register" 1836 (.ref 102)), (zen P "__static_attributes__" 1837 (.ref 103))] 5) #[]
noncomputable abbrev zo92 (P : Params) : Obj := ztp #[]
noncomputable abbrev zo93 (P : Params) : Obj := zfl #[(zi 116), (zi 4), (.ref 101)]
noncomputable abbrev zo94 (P : Params) : Obj := zob "code" #[(.str "ABCMeta" 1819), (.str "ABCMeta" 1820), (.str "/claim/cut.py" 1821), (zi 114), (zi 0), (zi 0), (zi 0), (zi 0), (.ref 92), (.bool .false), (zi 181), (.ref 93), .none, .none, .none, .none, (zi 1822), (zi 114), (.str "/claim/cut.py" 1823)]
noncomputable abbrev zo95 (P : Params) : Obj := .mk (.type "frame") .none .plain #[(.some (.ref 94)), (.some (.ref 3)), (.some (.ref 91)), .none, (.some (.str "abc" 1815)), .none, (.some (.ref 0))]
noncomputable abbrev zo96 (P : Params) : Obj := ztp #[]
noncomputable abbrev zo97 (P : Params) : Obj := zfl #[]
noncomputable abbrev zo98 (P : Params) : Obj := ztp #[(.str "cls" 1832), (.str "subclass" 1833)]
noncomputable abbrev zo99 (P : Params) : Obj := ztp #[]
noncomputable abbrev zo100 (P : Params) : Obj := zfn1 (zsm 27 0) "ABCMeta.register"
noncomputable abbrev zo101 (P : Params) : Obj := zco "register" "ABCMeta.register" 1829 116 2 0 0 3 96 97 .none 98 99 100 1834
noncomputable abbrev zo102 (P : Params) : Obj := zfn (zfQ (zsm 27 0) "ABCMeta.register" 3 [] .none .none .none (.str "abc" 1815) .none (.ref 101) .none 0)
noncomputable abbrev zo103 (P : Params) : Obj := ztp #[]
noncomputable abbrev zo104 (P : Params) : Obj := .mk (.type "dict") .none (.dict #[(zen P "__module__" 1824 (.str "abc" 1815)), (zen P "__firstlineno__" 1828 (.int 114 1827)), (zen P "register" 1836 (.ref 102)), (zen P "__static_attributes__" 1837 (.ref 103)), (zen P "__doc__" 1838 .none)] 2) #[]
noncomputable abbrev zo105 (P : Params) : Obj := .mk (.type "type") .none (.cls (.mk "ABCMeta" [(.type "type")] [(.ref 105), (.type "type"), (.type "object")] 104 "ABCMeta" .true [] [(.ref 138)] .false .none .false)) #[(.some (.ref 89)), .none, (.some (.str "ABCMeta" 1817)), (.some (.str "ABCMeta" 1825)), (.some (.builtin "type.__new__")), (.some (.bool .true))]
noncomputable abbrev zo106 (P : Params) : Obj := zob "super" #[(.ref 105), (.ref 105), (.ref 105)]
noncomputable abbrev zo107 (P : Params) : Obj := zob "builtin_function_or_method" #[(.builtin "object.__init_subclass__"), (.ref 105)]
noncomputable abbrev zo108 (P : Params) : Obj := ztp #[(.ref 105)]
noncomputable abbrev zo109 (P : Params) : Obj := zob "builtin_function_or_method" #[(.builtin "type.__prepare__"), (.type "type")]
noncomputable abbrev zo110 (P : Params) : Obj := .mk (.type "dict") .none (.dict #[(zen P "__module__" 1850 (.str "collections.abc" 1841)), (zen P "__qualname__" 1852 (.str "_ABCLike" 1851)), (zen P "__firstlineno__" 1854 (.int 119 1853)), (zen P "__instancecheck__" 1863 (.ref 121)), (zen P "__subclasscheck__" 1871 (.ref 128)), (zen P "register" 1879 (.ref 135)), (zen P "__static_attributes__" 1880 (.ref 136))] 7) #[]
noncomputable abbrev zo111 (P : Params) : Obj := ztp #[]
noncomputable abbrev zo112 (P : Params) : Obj := zfl #[(zi 121), (zi 4), (.ref 120), (zi 127), (zi 4), (.ref 127), (zi 132), (zi 4), (.ref 134)]
noncomputable abbrev zo113 (P : Params) : Obj := zob "code" #[(.str "_ABCLike" 1845), (.str "_ABCLike" 1846), (.str "/claim/cut.py" 1847), (zi 119), (zi 0), (zi 0), (zi 0), (zi 0), (.ref 111), (.bool .false), (zi 181), (.ref 112), .none, .none, .none, .none, (zi 1848), (zi 119), (.str "/claim/cut.py" 1849)]
noncomputable abbrev zo114 (P : Params) : Obj := .mk (.type "frame") .none .plain #[(.some (.ref 113)), (.some (.ref 3)), (.some (.ref 110)), .none, (.some (.str "collections.abc" 1841)), .none, (.some (.ref 0))]
noncomputable abbrev zo115 (P : Params) : Obj := ztp #[]
noncomputable abbrev zo116 (P : Params) : Obj := zfl #[]
noncomputable abbrev zo117 (P : Params) : Obj := ztp #[(.str "cls" 1858), (.str "instance" 1859), (.str "C" 1860)]
noncomputable abbrev zo118 (P : Params) : Obj := ztp #[]
noncomputable abbrev zo119 (P : Params) : Obj := zfn1 (zsm 29 0) "_ABCLike.__instancecheck__"
noncomputable abbrev zo120 (P : Params) : Obj := zco "__instancecheck__" "_ABCLike.__instancecheck__" 1855 121 2 0 0 3 115 116 .none 117 118 119 1861
noncomputable abbrev zo121 (P : Params) : Obj := zfn (zfQ (zsm 29 0) "_ABCLike.__instancecheck__" 3 [] .none .none .none (.str "collections.abc" 1841) .none (.ref 120) .none 0)
noncomputable abbrev zo122 (P : Params) : Obj := ztp #[]
noncomputable abbrev zo123 (P : Params) : Obj := zfl #[]
noncomputable abbrev zo124 (P : Params) : Obj := ztp #[(.str "cls" 1867), (.str "C" 1868)]
noncomputable abbrev zo125 (P : Params) : Obj := ztp #[]
noncomputable abbrev zo126 (P : Params) : Obj := zfn1 (zsm 29 1) "_ABCLike.__subclasscheck__"
noncomputable abbrev zo127 (P : Params) : Obj := zco "__subclasscheck__" "_ABCLike.__subclasscheck__" 1864 127 2 0 0 3 122 123 .none 124 125 126 1869
noncomputable abbrev zo128 (P : Params) : Obj := zfn (zfQ (zsm 29 1) "_ABCLike.__subclasscheck__" 3 [] .none .none .none (.str "collections.abc" 1841) .none (.ref 127) .none 0)
noncomputable abbrev zo129 (P : Params) : Obj := ztp #[]
noncomputable abbrev zo130 (P : Params) : Obj := zfl #[]
noncomputable abbrev zo131 (P : Params) : Obj := ztp #[(.str "cls" 1875), (.str "subclass" 1876)]
noncomputable abbrev zo132 (P : Params) : Obj := ztp #[]
noncomputable abbrev zo133 (P : Params) : Obj := zfn1 (zsm 29 2) "_ABCLike.register"
noncomputable abbrev zo134 (P : Params) : Obj := zco "register" "_ABCLike.register" 1872 132 2 0 0 3 129 130 .none 131 132 133 1877
noncomputable abbrev zo135 (P : Params) : Obj := zfn (zfQ (zsm 29 2) "_ABCLike.register" 3 [] .none .none .none (.str "collections.abc" 1841) .none (.ref 134) .none 0)
noncomputable abbrev zo136 (P : Params) : Obj := ztp #[]
noncomputable abbrev zo137 (P : Params) : Obj := .mk (.type "dict") .none (.dict #[(zen P "__module__" 1850 (.str "collections.abc" 1841)), (zen P "__firstlineno__" 1854 (.int 119 1853)), (zen P "__instancecheck__" 1863 (.ref 121)), (zen P "__subclasscheck__" 1871 (.ref 128)), (zen P "register" 1879 (.ref 135)), (zen P "__static_attributes__" 1880 (.ref 136)), (zen P "__doc__" 1881 .none)] 2) #[]
noncomputable abbrev zo138 (P : Params) : Obj := .mk (.type "type") .none (.cls (.mk "_ABCLike" [(.ref 105)] [(.ref 138), (.ref 105), (.type "type"), (.type "object")] 137 "_ABCLike" .true [] [] .false .none .false)) #[(.some (.ref 108)), .none, (.some (.str "_ABCLike" 1843)), (.some (.str "_ABCLike" 1851)), (.some (.builtin "type.__new__")), (.some (.bool .true))]
noncomputable abbrev zo139 (P : Params) : Obj := zob "super" #[(.ref 138), (.ref 138), (.ref 138)]
noncomputable abbrev zo140 (P : Params) : Obj := zob "builtin_function_or_method" #[(.builtin "object.__init_subclass__"), (.ref 138)]
noncomputable abbrev zo141 (P : Params) : Obj := ztp #[]
noncomputable abbrev zo142 (P : Params) : Obj := zfl #[]
noncomputable abbrev zo143 (P : Params) : Obj := ztp #[(.str "C" 1887)]
noncomputable abbrev zo144 (P : Params) : Obj := ztp #[]
noncomputable abbrev zo145 (P : Params) : Obj := zfn0 (zst 30)
noncomputable abbrev zo146 (P : Params) : Obj := zco "_abc_plain_meta" "_abc_plain_meta" 1884 134 1 0 0 3 141 142 .none 143 144 145 1888
noncomputable abbrev zo147 (P : Params) : Obj := zfn (zfD (zst 30) 3 [] .none .none .none (.str "collections.abc" 1841) .none (.ref 146) .none 0)
noncomputable abbrev zo148 (P : Params) : Obj := ztp #[]
noncomputable abbrev zo149 (P : Params) : Obj := zfl #[]
noncomputable abbrev zo150 (P : Params) : Obj := ztp #[(.str "path" 1896), (.str "kind" 1897), (.str "hook" 1898), (.str "given" 1899)]
noncomputable abbrev zo151 (P : Params) : Obj := ztp #[]
noncomputable abbrev zo152 (P : Params) : Obj := zfn0 (zst 32)
noncomputable abbrev zo153 (P : Params) : Obj := zco "fspath" "fspath" 1893 138 1 0 0 3 148 149 .none 150 151 152 1900
noncomputable abbrev zo154 (P : Params) : Obj := zfn (zfD (zst 32) 3 [] .none .none .none (.str "os" 1891) .none (.ref 153) .none 0)
noncomputable abbrev zo155 (P : Params) : Obj := ztp #[]
noncomputable abbrev zo156 (P : Params) : Obj := zfl #[]
noncomputable abbrev zo157 (P : Params) : Obj := ztp #[(.str "funcname" 1908), (.str "args" 1909), (.str "hasstr" 1910), (.str "hasbytes" 1911), (.str "s" 1912)]
noncomputable abbrev zo158 (P : Params) : Obj := ztp #[]
noncomputable abbrev zo159 (P : Params) : Obj := zfn0 (zst 34)
noncomputable abbrev zo160 (P : Params) : Obj := zco "_check_arg_types" "_check_arg_types" 1905 155 1 0 0 7 155 156 .none 157 158 159 1913
noncomputable abbrev zo161 (P : Params) : Obj := zfn (zfD (zst 34) 3 [] .none .none .none (.str "cpy313.genericpath" 1903) .none (.ref 160) .none 0)
noncomputable abbrev zo162 (P : Params) : Obj := ztp #[]
noncomputable abbrev zo163 (P : Params) : Obj := zfl #[]
noncomputable abbrev zo164 (P : Params) : Obj := ztp #[(.str "path" 1921)]
noncomputable abbrev zo165 (P : Params) : Obj := ztp #[]
noncomputable abbrev zo166 (P : Params) : Obj := zfn0 (zst 36)
noncomputable abbrev zo167 (P : Params) : Obj := zco "_get_sep" "_get_sep" 1918 167 1 0 0 3 162 163 .none 164 165 166 1922
noncomputable abbrev zo168 (P : Params) : Obj := zfn (zfD (zst 36) 3 [] .none .none .none (.str "cpy313.posixpath" 1916) .none (.ref 167) .none 0)
noncomputable abbrev zo169 (P : Params) : Obj := ztp #[]
noncomputable abbrev zo170 (P : Params) : Obj := zfl #[]
noncomputable abbrev zo171 (P : Params) : Obj := ztp #[(.str "a" 1928), (.str "p" 1929), (.str "sep" 1930), (.str "path" 1931), (.str "b" 1932)]
noncomputable abbrev zo172 (P : Params) : Obj := ztp #[]
noncomputable abbrev zo173 (P : Params) : Obj := zfn0 (zst 37)
noncomputable abbrev zo174 (P : Params) : Obj := zco "join" "join" 1925 172 1 0 0 7 169 170 .none 171 172 173 1933
noncomputable abbrev zo175 (P : Params) : Obj := zfn (zfD (zst 37) 3 [] .none .none .none (.str "cpy313.posixpath" 1916) .none (.ref 174) .none 0)
noncomputable abbrev zo176 (P : Params) : Obj := ztp #[]
noncomputable abbrev zo177 (P : Params) : Obj := zfl #[]
noncomputable abbrev zo178 (P : Params) : Obj := zfn0 (zst 38)
noncomputable abbrev zo179 (P : Params) : Obj := zob "code" #[(.str "commonpath" 1936), (.str "commonpath" 1937), (.str "/claim/cut.py" 1938), (zi 189), (zi 1), (zi 0), (zi 0), (zi 3), (.ref 176), (.bool .true), (zi 181), (.ref 177), .none, .none, .none, (.ref 178), (zi 1939), (zi 189), (.str "/claim/cut.py" 1940)]
noncomputable abbrev zo180 (P : Params) : Obj := zfn (zfD (zst 38) 3 [] .none .none .none (.str "cpy313.posixpath" 1916) .none (.ref 179) .none 0)
noncomputable abbrev zo181 (P : Params) : Obj := ztp #[]
noncomputable abbrev zo182 (P : Params) : Obj := zfl #[]
noncomputable abbrev zo183 (P : Params) : Obj := ztp #[(.str "x" 1947), (.str "text" 1948), (.str "rest" 1949), (.str "sign" 1950)]
noncomputable abbrev zo184 (P : Params) : Obj := ztp #[]
noncomputable abbrev zo185 (P : Params) : Obj := zfn0 (zst 40)
noncomputable abbrev zo186 (P : Params) : Obj := zco "_law_text" "_law_text" 1944 219 1 0 0 3 181 182 .none 183 184 185 1951
noncomputable abbrev zo187 (P : Params) : Obj := zfn (zfD (zst 40) 3 [] .none .none .none (.str "law_qw0058_01" 1942) .none (.ref 186) .none 0)
noncomputable abbrev zo188 (P : Params) : Obj := ztp #[]
noncomputable abbrev zo189 (P : Params) : Obj := zfl #[]
noncomputable abbrev zo190 (P : Params) : Obj := zfn0 (zst 41)
noncomputable abbrev zo191 (P : Params) : Obj := zob "code" #[(.str "_law_written" 1954), (.str "_law_written" 1955), (.str "/claim/cut.py" 1956), (zi 231), (zi 2), (zi 0), (zi 0), (zi 3), (.ref 188), (.bool .true), (zi 181), (.ref 189), .none, .none, .none, (.ref 190), (zi 1957), (zi 231), (.str "/claim/cut.py" 1958)]
noncomputable abbrev zo192 (P : Params) : Obj := zfn (zfD (zst 41) 3 [] .none .none .none (.str "law_qw0058_01" 1942) .none (.ref 191) .none 0)
noncomputable abbrev zo193 (P : Params) : Obj := ztp #[]
noncomputable abbrev zo194 (P : Params) : Obj := zfl #[]
noncomputable abbrev zo195 (P : Params) : Obj := ztp #[(.str "text" 1963), (.str "way" 1964), (.str "names" 1965), (.str "k" 1966), (.str "sign" 1967), (.str "plain" 1968), (.str "code" 1969)]
noncomputable abbrev zo196 (P : Params) : Obj := ztp #[]
noncomputable abbrev zo197 (P : Params) : Obj := zfn0 (zst 42)
noncomputable abbrev zo198 (P : Params) : Obj := zco "_law_names" "_law_names" 1960 240 2 0 0 3 193 194 .none 195 196 197 1970
noncomputable abbrev zo199 (P : Params) : Obj := zfn (zfD (zst 42) 3 [] .none .none .none (.str "law_qw0058_01" 1942) .none (.ref 198) .none 0)
noncomputable abbrev zo200 (P : Params) : Obj := ztp #[]
noncomputable abbrev zo201 (P : Params) : Obj := zfl #[]
noncomputable abbrev zo202 (P : Params) : Obj := zfn0 (zst 43)
noncomputable abbrev zo203 (P : Params) : Obj := zob "code" #[(.str "_law_spelled" 1973), (.str "_law_spelled" 1974), (.str "/claim/cut.py" 1975), (zi 257), (zi 1), (zi 0), (zi 0), (zi 3), (.ref 200), (.bool .true), (zi 181), (.ref 201), .none, .none, .none, (.ref 202), (zi 1976), (zi 257), (.str "/claim/cut.py" 1977)]
noncomputable abbrev zo204 (P : Params) : Obj := zfn (zfD (zst 43) 3 [] .none .none .none (.str "law_qw0058_01" 1942) .none (.ref 203) .none 0)
noncomputable abbrev zo205 (P : Params) : Obj := ztp #[]
noncomputable abbrev zo206 (P : Params) : Obj := zfl #[]
noncomputable abbrev zo207 (P : Params) : Obj := ztp #[(.str "one" 1982), (.str "other" 1983), (.str "shared" 1984), (.str "left" 1985), (.str "right" 1986)]
noncomputable abbrev zo208 (P : Params) : Obj := ztp #[]
noncomputable abbrev zo209 (P : Params) : Obj := zfn0 (zst 44)
noncomputable abbrev zo210 (P : Params) : Obj := zco "_law_compare" "_law_compare" 1979 259 2 0 0 3 205 206 .none 207 208 209 1987
noncomputable abbrev zo211 (P : Params) : Obj := zfn (zfD (zst 44) 3 [] .none .none .none (.str "law_qw0058_01" 1942) .none (.ref 210) .none 0)
noncomputable abbrev zo212 (P : Params) : Obj := ztp #[]
noncomputable abbrev zo213 (P : Params) : Obj := zfl #[]
noncomputable abbrev zo214 (P : Params) : Obj := zfn0 (zst 45)
noncomputable abbrev zo215 (P : Params) : Obj := zob "code" #[(.str "law" 1990), (.str "law" 1991), (.str "/claim/cut.py" 1992), (zi 268), (zi 1), (zi 0), (zi 0), (zi 3), (.ref 212), (.bool .true), (zi 181), (.ref 213), .none, .none, .none, (.ref 214), (zi 1993), (zi 268), (.str "/claim/cut.py" 1994)]
noncomputable abbrev zo216 (P : Params) : Obj := zfn (zfD (zst 45) 3 [] .none .none .none (.str "law_qw0058_01" 1942) .none (.ref 215) .none 0)
noncomputable abbrev zo12a (P : Params) : Obj := zfl #[]
noncomputable abbrev zo3a (P : Params) : Obj := .mk (.type "dict") .none (.dict #[(zen P "__name__" 165 (.str "cpy313.functools" 194)), (zen P "__doc__" 166 .none), (zen P "__package__" 167 .none), (zen P "__loader__" 168 (.builtin "__main__.__loader__#opaque")), (zen P "__spec__" 169 .none), (zen P "__annotations__" 170 (.ref 6)), (zen P "__builtins__" 171 (.ref 4)), (zen P "__file__" 173 (.str "/claim/cut.py" 172)), (zen P "__cached__" 174 .none), (zen P "_wall" 193 (.ref 21)), (zen P "cmp_to_key" 204 (.ref 28)), (zen P "_initial_missing" 205 (.ref 29)), (zen P "reduce" 217 (.ref 37)), (zen P "CRLF" 219 (.str "\x0d\n" 218)), (zen P "NL" 221 (.str "\n" 220)), (zen P "_QUOPRI_MAP" 1249 (.ref 40))] 16) #[]
noncomputable abbrev zo12b (P : Params) : Obj := zfl #[(zi 1), (zi 0), (.ref 20), (zi 5), (zi 0), (.ref 27), (zi 31), (zi 0), (.ref 36)]
noncomputable abbrev zo3b (P : Params) : Obj := .mk (.type "dict") .none (.dict #[(zen P "__name__" 165 (.str "cpy313.email.quoprimime" 1260)), (zen P "__doc__" 166 .none), (zen P "__package__" 167 .none), (zen P "__loader__" 168 (.builtin "__main__.__loader__#opaque")), (zen P "__spec__" 169 .none), (zen P "__annotations__" 170 (.ref 6)), (zen P "__builtins__" 171 (.ref 4)), (zen P "__file__" 173 (.str "/claim/cut.py" 172)), (zen P "__cached__" 174 .none), (zen P "_wall" 193 (.ref 21)), (zen P "cmp_to_key" 204 (.ref 28)), (zen P "_initial_missing" 205 (.ref 29)), (zen P "reduce" 217 (.ref 37)), (zen P "CRLF" 219 (.str "\x0d\n" 218)), (zen P "NL" 221 (.str "\n" 220)), (zen P "_QUOPRI_MAP" 1249 (.ref 40)), (zen P "_QUOPRI_HEADER_MAP" 1250 (.ref 45)), (zen P "_QUOPRI_BODY_MAP" 1251 (.ref 47)), (zen P "ascii_lowercase" 1253 (.str "abcdefghijklmnopqrstuvwxyz" 1252)), (zen P "ascii_uppercase" 1255 (.str "ABCDEFGHIJKLMNOPQRSTUVWXYZ" 1254)), (zen P "ascii_letters" 1257 (.str "abcdefghijklmnopqrstuvwxyzABCDEFGHIJKLMNOPQRSTUVWXYZ" 1256)), (zen P "digits" 1259 (.str "0123456789" 1258)), (zen P "c" 1270 (.int 57 1467))] 23) #[]
noncomputable abbrev zo47a (P : Params) : Obj := .mk (.type "list") .none (.seq ⟨zq40⟩ 0) #[]
noncomputable def zt1 (P : Params) : BT := .node (boot_o_0 P) (.node (boot_o_1 P) (.node (boot_o_3 P) (.node (boot_o_7 P) .nil .nil) (.node (zo11 P) .nil .nil)) (.node (boot_o_5 P) (.node (boot_o_9 P) .nil .nil) (.node (zo13 P) .nil .nil))) (.node (boot_o_2 P) (.node (boot_o_4 P) (.node (boot_o_8 P) .nil .nil) (.node (zo12a P) .nil .nil)) (.node (boot_o_6 P) (.node (boot_o_10 P) .nil .nil) (.node (zo14 P) .nil .nil)))
noncomputable def zt2 (P : Params) : BT := .node (boot_o_0 P) (.node (boot_o_1 P) (.node (zo3a P) (.node (boot_o_7 P) (.node (zo15 P) (.node (zo31 P) .nil .nil) .nil) (.node (zo23 P) (.node (zo39 P) .nil .nil) .nil)) (.node (zo11 P) (.node (zo19 P) (.node (zo35 P) .nil .nil) .nil) (.node (zo27 P) (.node (zo43 P) .nil .nil) .nil))) (.node (boot_o_5 P) (.node (boot_o_9 P) (.node (zo17 P) (.node (zo33 P) .nil .nil) .nil) (.node (zo25 P) (.node (zo41 P) .nil .nil) .nil)) (.node (zo13 P) (.node (zo21 P) (.node (zo37 P) .nil .nil) .nil) (.node (zo29 P) .nil .nil)))) (.node (boot_o_2 P) (.node (boot_o_4 P) (.node (boot_o_8 P) (.node (zo16 P) (.node (zo32 P) .nil .nil) .nil) (.node (zo24 P) (.node (zo40 P) .nil .nil) .nil)) (.node (zo12b P) (.node (zo20 P) (.node (zo36 P) .nil .nil) .nil) (.node (zo28 P) .nil .nil))) (.node (boot_o_6 P) (.node (boot_o_10 P) (.node (zo18 P) (.node (zo34 P) .nil .nil) .nil) (.node (zo26 P) (.node (zo42 P) .nil .nil) .nil)) (.node (zo14 P) (.node (zo22 P) (.node (zo38 P) .nil .nil) .nil) (.node (zo30 P) .nil .nil))))
noncomputable def zt3 (P : Params) : BT := .node (boot_o_0 P) (.node (boot_o_1 P) (.node (zo3b P) (.node (boot_o_7 P) (.node (zo15 P) (.node (zo31 P) .nil .nil) (.node (zo47a P) .nil .nil)) (.node (zo23 P) (.node (zo39 P) .nil .nil) .nil)) (.node (zo11 P) (.node (zo19 P) (.node (zo35 P) .nil .nil) .nil) (.node (zo27 P) (.node (zo43 P) .nil .nil) .nil))) (.node (boot_o_5 P) (.node (boot_o_9 P) (.node (zo17 P) (.node (zo33 P) .nil .nil) (.node (zo49 P) .nil .nil)) (.node (zo25 P) (.node (zo41 P) .nil .nil) .nil)) (.node (zo13 P) (.node (zo21 P) (.node (zo37 P) .nil .nil) .nil) (.node (zo29 P) (.node (zo45 P) .nil .nil) .nil)))) (.node (boot_o_2 P) (.node (boot_o_4 P) (.node (boot_o_8 P) (.node (zo16 P) (.node (zo32 P) .nil .nil) (.node (zo48 P) .nil .nil)) (.node (zo24 P) (.node (zo40 P) .nil .nil) .nil)) (.node (zo12b P) (.node (zo20 P) (.node (zo36 P) .nil .nil) .nil) (.node (zo28 P) (.node (zo44 P) .nil .nil) .nil))) (.node (boot_o_6 P) (.node (boot_o_10 P) (.node (zo18 P) (.node (zo34 P) .nil .nil) (.node (zo50 P) .nil .nil)) (.node (zo26 P) (.node (zo42 P) .nil .nil) .nil)) (.node (zo14 P) (.node (zo22 P) (.node (zo38 P) .nil .nil) .nil) (.node (zo30 P) (.node (zo46 P) .nil .nil) .nil))))
noncomputable def zt4 (P : Params) : BT := .node (boot_o_0 P) (.node (boot_o_1 P) (.node (zo3 P) (.node (boot_o_7 P) (.node (zo15 P) (.node (zo31 P) (.node (zo63 P) (.node (zo127 P) .nil .nil) (.node (zo191 P) .nil .nil)) (.node (zo95 P) (.node (zo159 P) .nil .nil) .nil)) (.node (zo47 P) (.node (zo79 P) (.node (zo143 P) .nil .nil) (.node (zo207 P) .nil .nil)) (.node (zo111 P) (.node (zo175 P) .nil .nil) .nil))) (.node (zo23 P) (.node (zo39 P) (.node (zo71 P) (.node (zo135 P) .nil .nil) (.node (zo199 P) .nil .nil)) (.node (zo103 P) (.node (zo167 P) .nil .nil) .nil)) (.node (zo55 P) (.node (zo87 P) (.node (zo151 P) .nil .nil) (.node (zo215 P) .nil .nil)) (.node (zo119 P) (.node (zo183 P) .nil .nil) .nil)))) (.node (zo11 P) (.node (zo19 P) (.node (zo35 P) (.node (zo67 P) (.node (zo131 P) .nil .nil) (.node (zo195 P) .nil .nil)) (.node (zo99 P) (.node (zo163 P) .nil .nil) .nil)) (.node (zo51 P) (.node (zo83 P) (.node (zo147 P) .nil .nil) (.node (zo211 P) .nil .nil)) (.node (zo115 P) (.node (zo179 P) .nil .nil) .nil))) (.node (zo27 P) (.node (zo43 P) (.node (zo75 P) (.node (zo139 P) .nil .nil) (.node (zo203 P) .nil .nil)) (.node (zo107 P) (.node (zo171 P) .nil .nil) .nil)) (.node (zo59 P) (.node (zo91 P) (.node (zo155 P) .nil .nil) .nil) (.node (zo123 P) (.node (zo187 P) .nil .nil) .nil))))) (.node (boot_o_5 P) (.node (boot_o_9 P) (.node (zo17 P) (.node (zo33 P) (.node (zo65 P) (.node (zo129 P) .nil .nil) (.node (zo193 P) .nil .nil)) (.node (zo97 P) (.node (zo161 P) .nil .nil) .nil)) (.node (zo49 P) (.node (zo81 P) (.node (zo145 P) .nil .nil) (.node (zo209 P) .nil .nil)) (.node (zo113 P) (.node (zo177 P) .nil .nil) .nil))) (.node (zo25 P) (.node (zo41 P) (.node (zo73 P) (.node (zo137 P) .nil .nil) (.node (zo201 P) .nil .nil)) (.node (zo105 P) (.node (zo169 P) .nil .nil) .nil)) (.node (zo57 P) (.node (zo89 P) (.node (zo153 P) .nil .nil) .nil) (.node (zo121 P) (.node (zo185 P) .nil .nil) .nil)))) (.node (zo13 P) (.node (zo21 P) (.node (zo37 P) (.node (zo69 P) (.node (zo133 P) .nil .nil) (.node (zo197 P) .nil .nil)) (.node (zo101 P) (.node (zo165 P) .nil .nil) .nil)) (.node (zo53 P) (.node (zo85 P) (.node (zo149 P) .nil .nil) (.node (zo213 P) .nil .nil)) (.node (zo117 P) (.node (zo181 P) .nil .nil) .nil))) (.node (zo29 P) (.node (zo45 P) (.node (zo77 P) (.node (zo141 P) .nil .nil) (.node (zo205 P) .nil .nil)) (.node (zo109 P) (.node (zo173 P) .nil .nil) .nil)) (.node (zo61 P) (.node (zo93 P) (.node (zo157 P) .nil .nil) .nil) (.node (zo125 P) (.node (zo189 P) .nil .nil) .nil)))))) (.node (boot_o_2 P) (.node (boot_o_4 P) (.node (boot_o_8 P) (.node (zo16 P) (.node (zo32 P) (.node (zo64 P) (.node (zo128 P) .nil .nil) (.node (zo192 P) .nil .nil)) (.node (zo96 P) (.node (zo160 P) .nil .nil) .nil)) (.node (zo48 P) (.node (zo80 P) (.node (zo144 P) .nil .nil) (.node (zo208 P) .nil .nil)) (.node (zo112 P) (.node (zo176 P) .nil .nil) .nil))) (.node (zo24 P) (.node (zo40 P) (.node (zo72 P) (.node (zo136 P) .nil .nil) (.node (zo200 P) .nil .nil)) (.node (zo104 P) (.node (zo168 P) .nil .nil) .nil)) (.node (zo56 P) (.node (zo88 P) (.node (zo152 P) .nil .nil) (.node (zo216 P) .nil .nil)) (.node (zo120 P) (.node (zo184 P) .nil .nil) .nil)))) (.node (zo12 P) (.node (zo20 P) (.node (zo36 P) (.node (zo68 P) (.node (zo132 P) .nil .nil) (.node (zo196 P) .nil .nil)) (.node (zo100 P) (.node (zo164 P) .nil .nil) .nil)) (.node (zo52 P) (.node (zo84 P) (.node (zo148 P) .nil .nil) (.node (zo212 P) .nil .nil)) (.node (zo116 P) (.node (zo180 P) .nil .nil) .nil))) (.node (zo28 P) (.node (zo44 P) (.node (zo76 P) (.node (zo140 P) .nil .nil) (.node (zo204 P) .nil .nil)) (.node (zo108 P) (.node (zo172 P) .nil .nil) .nil)) (.node (zo60 P) (.node (zo92 P) (.node (zo156 P) .nil .nil) .nil) (.node (zo124 P) (.node (zo188 P) .nil .nil) .nil))))) (.node (boot_o_6 P) (.node (boot_o_10 P) (.node (zo18 P) (.node (zo34 P) (.node (zo66 P) (.node (zo130 P) .nil .nil) (.node (zo194 P) .nil .nil)) (.node (zo98 P) (.node (zo162 P) .nil .nil) .nil)) (.node (zo50 P) (.node (zo82 P) (.node (zo146 P) .nil .nil) (.node (zo210 P) .nil .nil)) (.node (zo114 P) (.node (zo178 P) .nil .nil) .nil))) (.node (zo26 P) (.node (zo42 P) (.node (zo74 P) (.node (zo138 P) .nil .nil) (.node (zo202 P) .nil .nil)) (.node (zo106 P) (.node (zo170 P) .nil .nil) .nil)) (.node (zo58 P) (.node (zo90 P) (.node (zo154 P) .nil .nil) .nil) (.node (zo122 P) (.node (zo186 P) .nil .nil) .nil)))) (.node (zo14 P) (.node (zo22 P) (.node (zo38 P) (.node (zo70 P) (.node (zo134 P) .nil .nil) (.node (zo198 P) .nil .nil)) (.node (zo102 P) (.node (zo166 P) .nil .nil) .nil)) (.node (zo54 P) (.node (zo86 P) (.node (zo150 P) .nil .nil) (.node (zo214 P) .nil .nil)) (.node (zo118 P) (.node (zo182 P) .nil .nil) .nil))) (.node (zo30 P) (.node (zo46 P) (.node (zo78 P) (.node (zo142 P) .nil .nil) (.node (zo206 P) .nil .nil)) (.node (zo110 P) (.node (zo174 P) .nil .nil) .nil)) (.node (zo62 P) (.node (zo94 P) (.node (zo158 P) .nil .nil) .nil) (.node (zo126 P) (.node (zo190 P) .nil .nil) .nil))))))
noncomputable def zh1 (P : Params) : Heap := ⟨⟨[boot_o_0 P, boot_o_1 P, boot_o_2 P, boot_o_3 P, boot_o_4 P, boot_o_5 P, boot_o_6 P, boot_o_7 P, boot_o_8 P, boot_o_9 P, boot_o_10 P, zo11 P, zo12a P, zo13 P, zo14 P]⟩, {}⟩
noncomputable def zh4 (P : Params) : Heap := ⟨⟨[boot_o_0 P, boot_o_1 P, boot_o_2 P, zo3 P, boot_o_4 P, boot_o_5 P, boot_o_6 P, boot_o_7 P, boot_o_8 P, boot_o_9 P, boot_o_10 P, zo11 P, zo12 P, zo13 P, zo14 P, zo15 P, zo16 P, zo17 P, zo18 P, zo19 P, zo20 P, zo21 P, zo22 P, zo23 P, zo24 P, zo25 P, zo26 P, zo27 P, zo28 P, zo29 P, zo30 P, zo31 P, zo32 P, zo33 P, zo34 P, zo35 P, zo36 P, zo37 P, zo38 P, zo39 P, zo40 P, zo41 P, zo42 P, zo43 P, zo44 P, zo45 P, zo46 P, zo47 P, zo48 P, zo49 P, zo50 P, zo51 P, zo52 P, zo53 P, zo54 P, zo55 P, zo56 P, zo57 P, zo58 P, zo59 P, zo60 P, zo61 P, zo62 P, zo63 P, zo64 P, zo65 P, zo66 P, zo67 P, zo68 P, zo69 P, zo70 P, zo71 P, zo72 P, zo73 P, zo74 P, zo75 P, zo76 P, zo77 P, zo78 P, zo79 P, zo80 P, zo81 P, zo82 P, zo83 P, zo84 P, zo85 P, zo86 P, zo87 P, zo88 P, zo89 P, zo90 P, zo91 P, zo92 P, zo93 P, zo94 P, zo95 P, zo96 P, zo97 P, zo98 P, zo99 P, zo100 P, zo101 P, zo102 P, zo103 P, zo104 P, zo105 P, zo106 P, zo107 P, zo108 P, zo109 P, zo110 P, zo111 P, zo112 P, zo113 P, zo114 P, zo115 P, zo116 P, zo117 P, zo118 P, zo119 P, zo120 P, zo121 P, zo122 P, zo123 P, zo124 P, zo125 P, zo126 P, zo127 P, zo128 P, zo129 P, zo130 P, zo131 P, zo132 P, zo133 P, zo134 P, zo135 P, zo136 P, zo137 P, zo138 P, zo139 P, zo140 P, zo141 P, zo142 P, zo143 P, zo144 P, zo145 P, zo146 P, zo147 P, zo148 P, zo149 P, zo150 P, zo151 P, zo152 P, zo153 P, zo154 P, zo155 P, zo156 P, zo157 P, zo158 P, zo159 P, zo160 P, zo161 P, zo162 P, zo163 P, zo164 P, zo165 P, zo166 P, zo167 P, zo168 P, zo169 P, zo170 P, zo171 P, zo172 P, zo173 P, zo174 P, zo175 P, zo176 P, zo177 P, zo178 P, zo179 P, zo180 P, zo181 P, zo182 P, zo183 P, zo184 P, zo185 P, zo186 P, zo187 P, zo188 P, zo189 P, zo190 P, zo191 P, zo192 P, zo193 P, zo194 P, zo195 P, zo196 P, zo197 P, zo198 P, zo199 P, zo200 P, zo201 P, zo202 P, zo203 P, zo204 P, zo205 P, zo206 P, zo207 P, zo208 P, zo209 P, zo210 P, zo211 P, zo212 P, zo213 P, zo214 P, zo215 P, zo216 P]⟩, {}⟩
noncomputable def heap_39 (P : Params) : Frag := (nat_lit 2, boot_o_2 P) :: (nat_lit 3, zo3 P) :: (nat_lit 15, zo15 P) :: (nat_lit 17, zo17 P) :: (nat_lit 18, zo18 P) :: (nat_lit 20, zo20 P) :: (nat_lit 21, zo21 P) :: (nat_lit 22, zo22 P) :: (nat_lit 24, zo24 P) :: (nat_lit 25, zo25 P) :: (nat_lit 27, zo27 P) :: (nat_lit 28, zo28 P) :: (nat_lit 29, zo29 P) :: (nat_lit 30, zo30 P) :: (nat_lit 31, zo31 P) :: (nat_lit 33, zo33 P) :: (nat_lit 34, zo34 P) :: (nat_lit 36, zo36 P) :: (nat_lit 37, zo37 P) :: (nat_lit 40, zo40 P) :: (nat_lit 45, zo45 P) :: (nat_lit 54, zo54 P) :: (nat_lit 56, zo56 P) :: (nat_lit 57, zo57 P) :: (nat_lit 59, zo59 P) :: (nat_lit 60, zo60 P) :: (nat_lit 61, zo61 P) :: (nat_lit 62, zo62 P) :: (nat_lit 64, zo64 P) :: (nat_lit 65, zo65 P) :: (nat_lit 67, zo67 P) :: (nat_lit 68, zo68 P) :: (nat_lit 70, zo70 P) :: (nat_lit 74, zo74 P) :: (nat_lit 75, zo75 P) :: (nat_lit 77, zo77 P) :: (nat_lit 78, zo78 P) :: (nat_lit 80, zo80 P) :: (nat_lit 81, zo81 P) :: (nat_lit 82, zo82 P) :: (nat_lit 84, zo84 P) :: (nat_lit 85, zo85 P) :: (nat_lit 87, zo87 P) :: (nat_lit 88, zo88 P) :: (nat_lit 89, zo89 P) :: (nat_lit 96, zo96 P) :: (nat_lit 98, zo98 P) :: (nat_lit 99, zo99 P) :: (nat_lit 101, zo101 P) :: (nat_lit 102, zo102 P) :: (nat_lit 103, zo103 P) :: (nat_lit 104, zo104 P) :: (nat_lit 105, zo105 P) :: (nat_lit 108, zo108 P) :: (nat_lit 115, zo115 P) :: (nat_lit 117, zo117 P) :: (nat_lit 118, zo118 P) :: (nat_lit 120, zo120 P) :: (nat_lit 121, zo121 P) :: (nat_lit 122, zo122 P) :: (nat_lit 124, zo124 P) :: (nat_lit 125, zo125 P) :: (nat_lit 127, zo127 P) :: (nat_lit 128, zo128 P) :: (nat_lit 129, zo129 P) :: (nat_lit 131, zo131 P) :: (nat_lit 132, zo132 P) :: (nat_lit 134, zo134 P) :: (nat_lit 135, zo135 P) :: (nat_lit 136, zo136 P) :: (nat_lit 137, zo137 P) :: (nat_lit 138, zo138 P) :: (nat_lit 141, zo141 P) :: (nat_lit 143, zo143 P) :: (nat_lit 144, zo144 P) :: (nat_lit 146, zo146 P) :: (nat_lit 147, zo147 P) :: (nat_lit 148, zo148 P) :: (nat_lit 150, zo150 P) :: (nat_lit 151, zo151 P) :: (nat_lit 153, zo153 P) :: (nat_lit 154, zo154 P) :: (nat_lit 155, zo155 P) :: (nat_lit 157, zo157 P) :: (nat_lit 158, zo158 P) :: (nat_lit 160, zo160 P) :: (nat_lit 161, zo161 P) :: (nat_lit 162, zo162 P) :: (nat_lit 164, zo164 P) :: (nat_lit 165, zo165 P) :: (nat_lit 167, zo167 P) :: (nat_lit 168, zo168 P) :: (nat_lit 169, zo169 P) :: (nat_lit 171, zo171 P) :: (nat_lit 172, zo172 P) :: (nat_lit 174, zo174 P) :: (nat_lit 175, zo175 P) :: (nat_lit 176, zo176 P) :: (nat_lit 179, zo179 P) :: (nat_lit 180, zo180 P) :: (nat_lit 181, zo181 P) :: (nat_lit 183, zo183 P) :: (nat_lit 184, zo184 P) :: (nat_lit 186, zo186 P) :: (nat_lit 187, zo187 P) :: (nat_lit 188, zo188 P) :: (nat_lit 191, zo191 P) :: (nat_lit 192, zo192 P) :: (nat_lit 193, zo193 P) :: (nat_lit 195, zo195 P) :: (nat_lit 196, zo196 P) :: (nat_lit 198, zo198 P) :: (nat_lit 199, zo199 P) :: (nat_lit 200, zo200 P) :: (nat_lit 203, zo203 P) :: (nat_lit 204, zo204 P) :: (nat_lit 205, zo205 P) :: (nat_lit 207, zo207 P) :: (nat_lit 208, zo208 P) :: (nat_lit 210, zo210 P) :: (nat_lit 211, zo211 P) :: (nat_lit 212, zo212 P) :: (nat_lit 215, zo215 P) :: (nat_lit 216, zo216 P) :: []
noncomputable def kAs : List Addr := [2, 3, 15, 17, 18, 20, 21, 22, 24, 25, 27, 28, 29, 30, 31, 33, 34, 36, 37, 40, 45, 54, 56, 57, 59, 60, 61, 62, 64, 65, 67, 68, 70, 74, 75, 77, 78, 80, 81, 82, 84, 85, 87, 88, 89, 96, 98, 99, 101, 102, 103, 104, 105, 108, 115, 117, 118, 120, 121, 122, 124, 125, 127, 128, 129, 131, 132, 134, 135, 136, 137, 138, 141, 143, 144, 146, 147, 148, 150, 151, 153, 154, 155, 157, 158, 160, 161, 162, 164, 165, 167, 168, 169, 171, 172, 174, 175, 176, 179, 180, 181, 183, 184, 186, 187, 188, 191, 192, 193, 195, 196, 198, 199, 200, 203, 204, 205, 207, 208, 210, 211, 212, 215, 216]
noncomputable def vw : Program := { pw with main := { pw.main with body := [zst 0, zst 2, zst 3, zst 5, zst 6, zst 7, zst 8, zst 9, zst 10, zst 11, zst 12, zst 13, zst 18, zst 20, zst 25, zst 27, zst 29, zst 30, zst 32, zst 34, zst 36, zst 37, zst 38, zst 40, zst 41, zst 42, zst 43, zst 44, zst 45] } }
end Mine
end

section
open PySem PySem.W PyProof.Rows PySem.Calls
namespace Mine

structure Wd where
  prog : Program
  w : World
  p : Program
  loose : List Str
  mean : ExcName → Option Value
  mg : Str → Option Value
  mb : Str → Option Value

noncomputable abbrev Wd.M (W : Wd) : Model := model W.prog W.w
noncomputable abbrev Wd.K (W : Wd) : Frag := heap_39 W.w.params

inductive D where
  | val (v : Value)
  | int (i : Int)
  | str (x : Str)
  | bytes (b : Array UInt8)
  | list (ds : List D)
  | tup (ds : List D)

noncomputable def SeqO (o : Obj) : Prop := ∃ vs n, o.data = .seq vs n

mutual
noncomputable def Rep (P : Addr → Prop) (h : Heap) : D → Value → Prop
  | .val v', v => v = v'
  | .int i, v => ∃ t, v = .int i t
  | .str x, v => ∃ t, v = .str x t
  | .bytes b, v => ∃ t, v = .bytes b t
  | .list ds, v => ∃ a vs, v = .ref a ∧ P a ∧ h.IsList a vs ∧ RepL P h ds vs.toList
  | .tup ds, v => ∃ a vs, v = .ref a ∧ P a ∧ h.IsTuple a vs ∧ RepL P h ds vs.toList
noncomputable def RepL (P : Addr → Prop) (h : Heap) : List D → List Value → Prop
  | [], vs => vs = []
  | d :: ds, vs => ∃ v r, vs = v :: r ∧ Rep P h d v ∧ RepL P h ds r
end

mutual
theorem Rep.mono {P P' : Addr → Prop} {h h' : Heap} (hk : ∀ a o, P a → h.get? a = some o → SeqO o → P' a ∧ h'.get? a = some o) : ∀ {d : D} {v : Value}, Rep P h d v → Rep P' h' d v
  | .val _, _, r => by simpa only [Rep] using r
  | .int _, _, r => by simpa only [Rep] using r
  | .str _, _, r => by simpa only [Rep] using r
  | .bytes _, _, r => by simpa only [Rep] using r
  | .list ds, v, r => by
    simp only [Rep] at r ⊢
    obtain ⟨a, vs, e, pa, ⟨o, ho, hc, n, hd⟩, hl⟩ := r
    have q := hk _ _ pa ho ⟨_, _, hd⟩
    exact ⟨a, vs, e, q.1, ⟨o, q.2, hc, n, hd⟩, RepL.mono hk hl⟩
  | .tup ds, v, r => by
    simp only [Rep] at r ⊢
    obtain ⟨a, vs, e, pa, ⟨o, ho, hc, n, hd⟩, hl⟩ := r
    have q := hk _ _ pa ho ⟨_, _, hd⟩
    exact ⟨a, vs, e, q.1, ⟨o, q.2, hc, n, hd⟩, RepL.mono hk hl⟩
theorem RepL.mono {P P' : Addr → Prop} {h h' : Heap} (hk : ∀ a o, P a → h.get? a = some o → SeqO o → P' a ∧ h'.get? a = some o) : ∀ {ds : List D} {vs : List Value}, RepL P h ds vs → RepL P' h' ds vs
  | [], _, r => by simpa only [RepL] using r
  | d :: ds, vs, r => by
    simp only [RepL] at r ⊢
    obtain ⟨v, r', e, h1, h2⟩ := r
    exact ⟨v, r', e, Rep.mono hk h1, RepL.mono hk h2⟩
end

theorem rep_val {P : Addr → Prop} {h : Heap} {v v' : Value} : Rep P h (.val v') v ↔ v = v' := by simp only [Rep]
theorem rep_int {P : Addr → Prop} {h : Heap} {i : Int} {v : Value} : Rep P h (.int i) v ↔ ∃ t, v = .int i t := by simp only [Rep]
theorem rep_str {P : Addr → Prop} {h : Heap} {x : Str} {v : Value} : Rep P h (.str x) v ↔ ∃ t, v = .str x t := by simp only [Rep]
theorem rep_bytes {P : Addr → Prop} {h : Heap} {x : Array UInt8} {v : Value} : Rep P h (.bytes x) v ↔ ∃ t, v = .bytes x t := by simp only [Rep]
theorem rep_list {P : Addr → Prop} {h : Heap} {ds : List D} {v : Value} : Rep P h (.list ds) v ↔ ∃ a vs, v = .ref a ∧ P a ∧ h.IsList a vs ∧ RepL P h ds vs.toList := by simp only [Rep]
theorem rep_tup {P : Addr → Prop} {h : Heap} {ds : List D} {v : Value} : Rep P h (.tup ds) v ↔ ∃ a vs, v = .ref a ∧ P a ∧ h.IsTuple a vs ∧ RepL P h ds vs.toList := by simp only [Rep]
theorem repL_nil {P : Addr → Prop} {h : Heap} {vs : List Value} : RepL P h [] vs ↔ vs = [] := by simp only [RepL]
theorem repL_cons {P : Addr → Prop} {h : Heap} {d : D} {ds : List D} {vs : List Value} : RepL P h (d :: ds) vs ↔ ∃ v r, vs = v :: r ∧ Rep P h d v ∧ RepL P h ds r := by simp only [RepL]
theorem RepL.length {P : Addr → Prop} {h : Heap} : ∀ {ds : List D} {vs : List Value}, RepL P h ds vs → vs.length = ds.length
  | [], vs, r => by rw [repL_nil.mp r]; rfl
  | d :: ds, vs, r => by obtain ⟨v, r', rfl, _, h2⟩ := repL_cons.mp r; rw [List.length_cons, List.length_cons, h2.length]
theorem RepL.at {P : Addr → Prop} {h : Heap} : ∀ {ds : List D} {vs : List Value} {i : Nat} {d : D}, RepL P h ds vs → ds[i]? = some d → ∃ v, vs[i]? = some v ∧ Rep P h d v
  | [], vs, i, d, r, e => by simp at e
  | d :: ds, vs, 0, d', r, e => by
    obtain ⟨v, r', rfl, h1, h2⟩ := repL_cons.mp r
    simp at e; subst e
    exact ⟨v, rfl, h1⟩
  | d :: ds, vs, i + 1, d', r, e => by
    obtain ⟨v, r', rfl, h1, h2⟩ := repL_cons.mp r
    exact RepL.at (i := i) h2 (by simpa using e)
theorem RepL.at' {P : Addr → Prop} {h : Heap} : ∀ {ds : List D} {vs : List Value} {i : Nat} {v : Value}, RepL P h ds vs → vs[i]? = some v → ∃ d, ds[i]? = some d ∧ Rep P h d v
  | [], vs, i, v, r, e => by rw [repL_nil.mp r] at e; simp at e
  | d :: ds, vs, 0, v', r, e => by
    obtain ⟨v, r', rfl, h1, h2⟩ := repL_cons.mp r
    simp at e; subst e
    exact ⟨d, rfl, h1⟩
  | d :: ds, vs, i + 1, v', r, e => by
    obtain ⟨v, r', rfl, h1, h2⟩ := repL_cons.mp r
    exact RepL.at' (i := i) h2 (by simpa using e)

theorem RepL.snoc {P : Addr → Prop} {h : Heap} : ∀ {ds : List D} {vs : List Value} {d : D} {v : Value}, RepL P h ds vs → Rep P h d v → RepL P h (ds ++ [d]) (vs ++ [v])
  | [], vs, d, v, r, q => by rw [repL_nil.mp r]; exact repL_cons.mpr ⟨v, [], rfl, q, repL_nil.mpr rfl⟩
  | d' :: ds, vs, d, v, r, q => by
    obtain ⟨u, r', rfl, h1, h2⟩ := repL_cons.mp r
    exact repL_cons.mpr ⟨u, r' ++ [v], rfl, h1, h2.snoc q⟩
theorem RepL.append {P : Addr → Prop} {h : Heap} : ∀ {ds : List D} {vs : List Value} {ds' : List D} {vs' : List Value}, RepL P h ds vs → RepL P h ds' vs' → RepL P h (ds ++ ds') (vs ++ vs')
  | [], vs, d, v, r, q => by rw [repL_nil.mp r]; exact q
  | d' :: ds, vs, d, v, r, q => by
    obtain ⟨u, r', rfl, h1, h2⟩ := repL_cons.mp r
    exact repL_cons.mpr ⟨u, r' ++ v, rfl, h1, h2.append q⟩
theorem RepL.take {P : Addr → Prop} {h : Heap} : ∀ {ds : List D} {vs : List Value} (n : Nat), RepL P h ds vs → RepL P h (ds.take n) (vs.take n)
  | [], vs, n, r => by rw [repL_nil.mp r]; simp [repL_nil]
  | d' :: ds, vs, 0, r => by simp [repL_nil]
  | d' :: ds, vs, n + 1, r => by
    obtain ⟨u, r', rfl, h1, h2⟩ := repL_cons.mp r
    exact repL_cons.mpr ⟨u, r'.take n, rfl, h1, h2.take n⟩

noncomputable abbrev Stays (h h' : Heap) : Prop := ∀ b o, h.get? b = some o → h'.get? b = some o
theorem Rep.keep {P : Addr → Prop} {h h' : Heap} {d : D} {v : Value} (r : Rep P h d v) (k : Stays h h') : Rep P h' d v := r.mono fun _ _ pa ha _ => ⟨pa, k _ _ ha⟩
theorem RepL.keep {P : Addr → Prop} {h h' : Heap} {d : List D} {v : List Value} (r : RepL P h d v) (k : Stays h h') : RepL P h' d v := r.mono fun _ _ pa ha _ => ⟨pa, k _ _ ha⟩
theorem Rep.same {P : Addr → Prop} {h h' : Heap} {d : D} {v : Value} {L : Addr} (r : Rep P h d v) (k : Heap.ExtBut L h h') (hL : ∀ o, h.get? L = some o → ¬ SeqO o) : Rep P h' d v :=
  r.mono fun a o pa ha hs => ⟨pa, k _ _ (fun e => hL o (e ▸ ha) hs) ha⟩
theorem RepL.same {P : Addr → Prop} {h h' : Heap} {d : List D} {v : List Value} {L : Addr} (r : RepL P h d v) (k : Heap.ExtBut L h h') (hL : ∀ o, h.get? L = some o → ¬ SeqO o) : RepL P h' d v :=
  r.mono fun a o pa ha hs => ⟨pa, k _ _ (fun e => hL o (e ▸ ha) hs) ha⟩
theorem ns_not_seq {h : Heap} {L : Addr} {m : Str → Option Value} (hn : h.Ns L m) : ∀ o, h.get? L = some o → ¬ SeqO o := fun o e ⟨vs, n, q⟩ => by
  obtain ⟨o, es, ep, ho, hd, _⟩ := hn
  rw [e] at ho; cases ho; rw [q] at hd; cases hd

noncomputable abbrev New (P : Addr → Prop) (h : Heap) : Prop := ∀ a, h.get? a = none → P a
theorem New.keep {P : Addr → Prop} {h h' : Heap} (n : New P h) (k : Stays h h') : New P h' := fun a e => n a (by
  cases q : h.get? a with
  | none => rfl
  | some o => rw [k a o q] at e; cases e)
theorem New.at {P : Addr → Prop} {h : Heap} (n : New P h) : P h.objs.size := n _ (Heap.get?_none_of_le (Nat.le_refl _))

noncomputable def Kp (s s' : Shared) : Prop := PySem.Keeps s s'
theorem Kp.stays {s s' : Shared} (k : Kp s s') : Stays s.heap s'.heap := by obtain ⟨h', tk, rfl, hk⟩ := k; exact hk
theorem kp_refl (s : Shared) : Kp s s := ⟨s.heap, s.toks, rfl, fun _ _ e => e⟩
theorem Kp.trans {a b c : Shared} (x : Kp a b) (y : Kp b c) : Kp a c := by
  obtain ⟨h1, t1, rfl, k1⟩ := x
  obtain ⟨h2, t2, rfl, k2⟩ := y
  exact ⟨h2, t2, rfl, fun b o e => k2 _ _ (k1 _ _ e)⟩
theorem kp_toks (s : Shared) (t : Nat) : Kp s { s with toks := t } := ⟨s.heap, t, rfl, fun _ _ e => e⟩
theorem kp_heap (s : Shared) {h : Heap} (k : Stays s.heap h) : Kp s { s with heap := h } := ⟨h, s.toks, rfl, k⟩
theorem kp_both (s : Shared) {h : Heap} {t : Nat} (k : Stays s.heap h) : Kp s { s with heap := h, toks := t } := ⟨h, t, rfl, k⟩
theorem stays_push (h : Heap) (o : Obj) : Stays h (h.push o) := fun b o' e => Heap.get?_push_of_some o e

noncomputable abbrev Loc := List (Str × D)

structure Cx where
  W : Wd
  A : Around
  env : Env
  h₀ : Heap
  P : Addr → Prop
  b : Shared

structure Rm (n : Nat) (A : Around) : Prop where
  hd : A.handled = none
  dp : A.depth + n < 1000
  un : A.units + 20 * n + 20 < 9900
theorem Rm.deeper {n : Nat} {A : Around} (r : Rm (n + 1) A) (env : Env) : Rm n (A.deeper env) := ⟨r.hd, by have := r.dp; show A.depth + 1 + n < 1000; omega, by have := r.un; show A.units + 3 + 20 * n + 20 < 9900; omega⟩
theorem Rm.in1 {n : Nat} {A : Around} (r : Rm (n + 1) A) : Rm n A.in1 := ⟨r.hd, by have := r.dp; show A.depth + n < 1000; omega, by have := r.un; show A.units + 1 + 20 * n + 20 < 9900; omega⟩
structure Gd (W : Wd) (h : Heap) : Prop where
  K : W.K.In h
  T : Top W.p W.loose W.mean W.mg W.mb h
theorem Gd.keep {W : Wd} {h h' : Heap} (g : Gd W h) (k : Stays h h') : Gd W h' := ⟨g.K.keeps k, g.T.keeps k⟩

structure Cx.Ok (c : Cx) (n : Nat) : Prop where
  gd : Gd c.W c.h₀
  rm : Rm n c.A
  kind : c.env.scope.kind = .function
  glob : c.env.globals = mainGlobals
  blt : c.env.builtins = builtinsNs

structure St (c : Cx) (h : Heap) : Prop where
  keep : Stays c.h₀ h
  new : New c.P h
theorem St.on {c : Cx} {h h' : Heap} (x : St c h) (k : Stays h h') : St c h' := ⟨fun b o e => k _ _ (x.keep b o e), x.new.keep k⟩

structure FrD (c : Cx) (ρ κ : Loc) (h : Heap) : Prop extends St c h where
  loc : ∃ m, h.Ns c.env.locals m ∧ ∀ x d, ρ.lookup x = some d → ∃ v, m x = some v ∧ Rep c.P h d v
  cel : ∀ x a, c.env.cells.lookup x = some a → ∃ o vo, h.get? a = some o ∧ o.data = .cell vo ∧ ∀ d, κ.lookup x = some d → ∃ v, vo = some v ∧ Rep c.P h d v
theorem FrD.on {c : Cx} {ρ κ : Loc} {h h' : Heap} (x : FrD c ρ κ h) (k : Stays h h') : FrD c ρ κ h' where
  toSt := x.toSt.on k
  loc := by
    obtain ⟨m, hn, hm⟩ := x.loc
    exact ⟨m, hn.keeps k, fun y d e => let ⟨v, a, b⟩ := hm y d e; ⟨v, a, b.keep k⟩⟩
  cel := fun y a e => let ⟨o, vo, h2, h3, h4⟩ := x.cel y a e; ⟨o, vo, k _ _ h2, h3, fun d e => let ⟨v, p, q⟩ := h4 d e; ⟨v, p, q.keep k⟩⟩
theorem FrD.weak {c : Cx} {ρ κ ρ' κ' : Loc} {h : Heap} (x : FrD c ρ κ h) (h1 : ∀ y d, ρ'.lookup y = some d → ρ.lookup y = some d) (h2 : ∀ y d, κ'.lookup y = some d → κ.lookup y = some d) : FrD c ρ' κ' h where
  toSt := x.toSt
  loc := by
    obtain ⟨m, hn, hm⟩ := x.loc
    exact ⟨m, hn, fun y d e => hm y d (h1 y d e)⟩
  cel := fun y a e => let ⟨o, vo, p, q, r⟩ := x.cel y a e; ⟨o, vo, p, q, fun d e => r d (h2 y d e)⟩

noncomputable abbrev NoE : Value → Shared → Prop := fun _ _ => False
theorem noE {α : Type} {M : Model} {A : Around} {t : Sem α} {Q Q' : α → Shared → Prop} {E : Value → Shared → Prop} {s : Shared} (h : wpAny M A t Q NoE s) (hq : ∀ a s', Q a s' → Q' a s') : wpAny M A t Q' E s :=
  wpAny_mono h hq fun _ _ e => e.elim

noncomputable abbrev Gives (c : Cx) (s : Shared) (d : D) : Value → Shared → Prop := fun v s' => Kp s s' ∧ Rep c.P s'.heap d v
noncomputable abbrev Says (s : Shared) (b : Bool) : Bool → Shared → Prop := fun r s' => Kp s s' ∧ r = b

structure EvT (c : Cx) (ρ κ : Loc) (t : Sem Value) (d : D) : Prop where
  go : ∀ s, FrD c ρ κ s.heap → wpAny c.W.M c.A t (Gives c s d) NoE s

noncomputable abbrev Ev (c : Cx) (ρ κ : Loc) (e : Expr) (d : D) : Prop := EvT c ρ κ (eval e c.env) d
structure EvB (c : Cx) (ρ κ : Loc) (e : Expr) (b : Bool) : Prop where
  go : ∀ s, FrD c ρ κ s.heap → wpAny c.W.M c.A (isTrue e c.env (eval e c.env)) (Says s b) NoE s

structure EvL (c : Cx) (ρ κ : Loc) (es : List Expr) (ds : List D) : Prop where
  go : ∀ pos s, FrD c ρ κ s.heap → wpAny c.W.M c.A (spliced (backTo pos (starEach es c.env))) (fun vs s' => Kp s s' ∧ RepL c.P s'.heap ds vs) NoE s

noncomputable def Op1 (c : Cx) (f : Value → Sem Value) (d1 d : D) : Prop :=
  ∀ s v1, St c s.heap → Rep c.P s.heap d1 v1 → wpAny c.W.M c.A (f v1) (Gives c s d) NoE s
noncomputable def Op2 (c : Cx) (f : Value → Value → Sem Value) (d1 d2 d : D) : Prop :=
  ∀ s v1 v2, St c s.heap → Rep c.P s.heap d1 v1 → Rep c.P s.heap d2 v2 → wpAny c.W.M c.A (f v1 v2) (Gives c s d) NoE s
noncomputable def OpB (c : Cx) (d1 : D) (b : Bool) : Prop :=
  ∀ s v1, St c s.heap → Rep c.P s.heap d1 v1 → wpAny c.W.M c.A (truthy v1) (Says s b) NoE s
noncomputable def CallD (c : Cx) (f : Value) (ds : List D) (d : D) : Prop :=
  ∀ s vs, St c s.heap → RepL c.P s.heap ds vs → wpAny c.W.M c.A (call f vs) (Gives c s d) NoE s

theorem release_ok {M : Model} {A : Around} {E : Value → Shared → Prop} {s : Shared} {vs k : List Value} {Q : Unit → Shared → Prop} (h : Q () s) : wpAny M A (release vs k) Q E s := fun Γ p hΓ => by
  rw [Sem.wp_release]; exact h

section names
variable {c : Cx} {ρ κ : Loc} {n : Nat}

theorem ev_int {i : Int} {k : Nat} {pos : Pos} : Ev c ρ κ (.Constant (.int i) k pos) (.int i) := ⟨fun s _ =>
  wpAny_Constant_int ⟨kp_toks s _, rep_int.mpr ⟨_, rfl⟩⟩⟩
theorem ev_str {x : Str} {k : Nat} {pos : Pos} : Ev c ρ κ (.Constant (.str x) k pos) (.str x) := ⟨fun s _ =>
  wpAny_Constant_str ⟨kp_toks s _, rep_str.mpr ⟨_, rfl⟩⟩⟩
theorem ev_bool {b : Bool} {k : Nat} {pos : Pos} : Ev c ρ κ (.Constant (.bool b) k pos) (.val (.bool b)) := ⟨fun s _ =>
  wpAny_Constant_bool ⟨kp_refl s, rep_val.mpr rfl⟩⟩
theorem ev_loc {x : Str} {pos : Pos} {d : D} (ok : c.Ok n) (hk : c.env.kindOf x = some .local) (hx : ρ.lookup x = some d) (hd : (x == ("__debug__" : Str)) = false) : Ev c ρ κ (.Name x pos) d := ⟨fun s F => by
  obtain ⟨m, hn, hm⟩ := F.loc
  obtain ⟨v, hv, r⟩ := hm x d hx
  exact wpAny_Name (wpAny_loadName_local ok.kind hk hn hv ⟨kp_refl s, r⟩) hd⟩
theorem ev_cell {x : Str} {pos : Pos} {d : D} {a : Addr} (ok : c.Ok n) (hk : c.env.kindOf x = some .cell) (ha : c.env.cells.lookup x = some a) (hx : κ.lookup x = some d) (hd : (x == ("__debug__" : Str)) = false) : Ev c ρ κ (.Name x pos) d := ⟨fun s F => by
  obtain ⟨o, vo, h2, h3, h4⟩ := F.cel x a ha
  obtain ⟨v, rfl, r⟩ := h4 d hx
  exact wpAny_Name (wpAny_loadName_cell ok.kind hk ha ⟨o, h2, h3⟩ ⟨kp_refl s, r⟩) hd⟩
theorem ev_free {x : Str} {pos : Pos} {d : D} {a : Addr} (ok : c.Ok n) (hk : c.env.kindOf x = some .free) (ha : c.env.cells.lookup x = some a) (hx : κ.lookup x = some d) (hd : (x == ("__debug__" : Str)) = false) (hc : (x == ("__classdict__" : Str)) = false) : Ev c ρ κ (.Name x pos) d := ⟨fun s F => by
  obtain ⟨o, vo, h2, h3, h4⟩ := F.cel x a ha
  obtain ⟨v, rfl, r⟩ := h4 d hx
  exact wpAny_Name (wpAny_loadName_free ok.kind hk ha ⟨o, h2, h3⟩ ⟨kp_refl s, r⟩ hc) hd⟩
theorem ev_glob {x : Str} {pos : Pos} {v : Value} (ok : c.Ok n) (hk : c.env.kindOf x = some .globalImplicit) (hx : nsIn c.W.K mainGlobals x = some (some v)) (hd : (x == ("__debug__" : Str)) = false) : Ev c ρ κ (.Name x pos) (.val v) := ⟨fun s F => by
  refine Name_function_global ok.kind hk (loadGlobal_global (mg := c.W.mg) ?_ (mg_of ok.gd.K ok.gd.T.g hx) ⟨kp_refl s, rep_val.mpr rfl⟩) hd
  rw [ok.glob]; exact ok.gd.T.g.keeps F.keep⟩
theorem ev_blt {x : Str} {pos : Pos} {v : Value} (ok : c.Ok n) (hk : c.env.kindOf x = some .globalImplicit) (hx : nsIn c.W.K mainGlobals x = some none) (hv : bootBuiltins x = some v) (hn : x ≠ "__name__") (hd : (x == ("__debug__" : Str)) = false) : Ev c ρ κ (.Name x pos) (.val v) := ⟨fun s F => by
  refine Name_function_global ok.kind hk (loadGlobal_builtin (mg := c.W.mg) (mb := c.W.mb) ?_ (mg_none_of ok.gd.K ok.gd.T.g hx) ?_ ((ok.gd.T.builtins x hn).trans hv) ⟨kp_refl s, rep_val.mpr rfl⟩) hd
  · rw [ok.glob]; exact ok.gd.T.g.keeps F.keep
  · rw [ok.blt]; exact ok.gd.T.b.keeps F.keep⟩
theorem ev_as {e : Expr} {d d' : D} (h : Ev c ρ κ e d) (hd : ∀ h v, Rep c.P h d v → Rep c.P h d' v) : Ev c ρ κ e d' := ⟨fun s F => noE (h.go s F) fun v s' ⟨k, r⟩ => ⟨k, hd _ _ r⟩⟩
end names

section exprs
variable {c : Cx} {ρ κ : Loc} {n : Nat}

theorem ev_bin {l r : Expr} {op : Operator} {pos : Pos} {d1 d2 d : D} (hl : Ev c ρ κ l d1) (hr : Ev c ρ κ r d2) (ho : Op2 c (binaryOp op) d1 d2 d) : Ev c ρ κ (.BinOp l op r pos) d := ⟨fun s F =>
  wpAny_BinOp (noE (hl.go s F) fun v1 s1 ⟨k1, r1⟩ => noE (hr.go s1 (F.on k1.stays)) fun v2 s2 ⟨k2, r2⟩ =>
    noE (ho s2 v1 v2 ((F.on k1.stays).on k2.stays).toSt (r1.keep k2.stays) r2) fun v s3 ⟨k3, r3⟩ => ⟨(k1.trans k2).trans k3, r3⟩)⟩
theorem ev_cmp {l r : Expr} {op : CmpOp} {pos : Pos} {d1 d2 d : D} (hl : Ev c ρ κ l d1) (hr : Ev c ρ κ r d2) (ho : Op2 c (compareOp op) d1 d2 d) (hm : behindInMarks op r = false := by rfl) : Ev c ρ κ (.Compare l [op] [r] pos) d := ⟨fun s F =>
  wpAny_Compare1 (noE (hl.go s F) fun v1 s1 ⟨k1, r1⟩ => noE (hr.go s1 (F.on k1.stays)) fun v2 s2 ⟨k2, r2⟩ =>
    noE (ho s2 v1 v2 ((F.on k1.stays).on k2.stays).toSt (r1.keep k2.stays) r2) fun v s3 ⟨k3, r3⟩ => ⟨(k1.trans k2).trans k3, r3⟩) hm⟩
theorem ev_un {x : Expr} {op : UnaryOp} {pos : Pos} {d1 d : D} (hx : Ev c ρ κ x d1) (ho : Op1 c (unaryOp op) d1 d) : Ev c ρ κ (.UnaryOp op x pos) d := ⟨fun s F =>
  wpAny_UnaryOp (noE (hx.go s F) fun v1 s1 ⟨k1, r1⟩ => noE (ho s1 v1 (F.on k1.stays).toSt r1) fun v s2 ⟨k2, r2⟩ => ⟨k1.trans k2, r2⟩)⟩
theorem ev_ite {t b o : Expr} {pos : Pos} {q : Bool} {d : D} (ht : EvB c ρ κ t q) (hb : q = true → Ev c ρ κ b d) (ho : q = false → Ev c ρ κ o d) : Ev c ρ κ (.IfExp t b o pos) d := ⟨fun s F => by
  refine wpAny_IfExp (noE (ht.go s F) fun r s1 ⟨k1, e⟩ => ?_)
  subst e
  cases r with
  | true => exact noE ((hb rfl).go s1 (F.on k1.stays)) fun v s2 ⟨k2, r2⟩ => ⟨k1.trans k2, r2⟩
  | false => exact noE ((ho rfl).go s1 (F.on k1.stays)) fun v s2 ⟨k2, r2⟩ => ⟨k1.trans k2, r2⟩⟩
theorem evL_nil : EvL c ρ κ [] [] := ⟨fun pos s F => args_nil ⟨kp_refl s, repL_nil.mpr rfl⟩⟩
theorem evL_cons {e : Expr} {es : List Expr} {d : D} {ds : List D} (h1 : Ev c ρ κ e d) (h2 : EvL c ρ κ es ds) (he : starEach (e :: es) c.env = (false, eval e c.env) :: starEach es c.env := by rfl) : EvL c ρ κ (e :: es) (d :: ds) := ⟨fun pos s F =>
  args_cons (noE (h1.go s F) fun v s1 ⟨k1, r1⟩ => noE (h2.go pos s1 (F.on k1.stays)) fun vs s2 ⟨k2, r2⟩ => ⟨k1.trans k2, repL_cons.mpr ⟨v, vs, rfl, r1.keep k2.stays, r2⟩⟩) he⟩

theorem newList_D {s : Shared} {ds : List D} {vs : List Value} (x : St c s.heap) (r : RepL c.P s.heap ds vs) (hl : ds.length ≤ 1000) : wpAny c.W.M c.A (newList vs) (Gives c s (.list ds)) NoE s := by
  refine wpAny_newObj_type ⟨kp_heap s (stays_push _ _), rep_list.mpr ⟨_, vs.toArray, rfl, x.new.at, ⟨_, Heap.get?_push_size _ rfl, rfl, _, rfl⟩, by simpa using r.keep (stays_push _ _)⟩⟩ ?_
  show vs.toArray.size ≤ sizeLine
  rw [List.size_toArray, r.length]; exact Nat.le_trans hl (by decide)
theorem newTuple_D {s : Shared} {ds : List D} {vs : List Value} (x : St c s.heap) (r : RepL c.P s.heap ds vs) (hl : ds.length ≤ 1000) : wpAny c.W.M c.A (newTuple vs) (Gives c s (.tup ds)) NoE s := by
  refine wpAny_newObj_type ⟨kp_heap s (stays_push _ _), rep_tup.mpr ⟨_, vs.toArray, rfl, x.new.at, ⟨_, Heap.get?_push_size _ rfl, rfl, _, rfl⟩, by simpa using r.keep (stays_push _ _)⟩⟩ ?_
  show vs.toArray.size ≤ sizeLine
  rw [List.size_toArray, r.length]; exact Nat.le_trans hl (by decide)
theorem ev_listD {es : List Expr} {pos : Pos} {ds : List D} (h : EvL c ρ κ es ds) (hl : ds.length ≤ 1000) : Ev c ρ κ (.List es pos) (.list ds) := ⟨fun s F =>
  List_ (noE (h.go pos s F) fun vs s1 ⟨k1, r1⟩ => noE (newList_D (F.on k1.stays).toSt r1 hl) fun v s2 ⟨k2, r2⟩ => ⟨k1.trans k2, r2⟩)⟩
theorem ev_tupD {es : List Expr} {k : Nat} {pos : Pos} {ds : List D} (h : EvL c ρ κ es ds) (hl : ds.length ≤ 1000) : Ev c ρ κ (.Tuple es k pos) (.tup ds) := ⟨fun s F =>
  Tuple_ (noE (h.go pos s F) fun vs s1 ⟨k1, r1⟩ => noE (newTuple_D (F.on k1.stays).toSt r1 hl) fun v s2 ⟨k2, r2⟩ => ⟨k1.trans k2, r2⟩)⟩

/- tests -/
theorem opB_bool {b : Bool} : OpB c (.val (.bool b)) b := fun s v x r => by
  obtain rfl := rep_val.mp r
  exact wpAny_truthy_bool ⟨kp_refl s, rfl⟩
theorem evB_val {e : Expr} {d : D} {b : Bool} (h : Ev c ρ κ e d) (ho : OpB c d b) (he : isTrue e c.env (eval e c.env) = (do let v ← eval e c.env; standAt e.pos; holding [v] (truthy v)) := by rfl) : EvB c ρ κ e b := ⟨fun s F =>
  wpAny_isTrue_value (noE (h.go s F) fun v s1 ⟨k1, r1⟩ => noE (ho s1 v (F.on k1.stays).toSt r1) fun r s2 ⟨k2, e⟩ => ⟨k1.trans k2, e⟩) he⟩
theorem evB_cmp {l r : Expr} {op : CmpOp} {pos : Pos} {d1 d2 : D} {b : Bool} (hl : Ev c ρ κ l d1) (hr : Ev c ρ κ r d2) (ho : Op2 c (compareOp op) d1 d2 (.val (.bool b))) (hm : behindInMarks op r = false := by rfl) : EvB c ρ κ (.Compare l [op] [r] pos) b := ⟨fun s F =>
  wpAny_isTrue_Compare1 (noE (hl.go s F) fun v1 s1 ⟨k1, r1⟩ => noE (hr.go s1 (F.on k1.stays)) fun v2 s2 ⟨k2, r2⟩ =>
    noE (ho s2 v1 v2 ((F.on k1.stays).on k2.stays).toSt (r1.keep k2.stays) r2) fun v s3 ⟨k3, r3⟩ => by
      obtain rfl := rep_val.mp r3
      exact wpAny_truthy_bool ⟨(k1.trans k2).trans k3, rfl⟩) hm⟩
theorem evB_not {x : Expr} {pos : Pos} {b : Bool} (h : EvB c ρ κ x b) : EvB c ρ κ (.UnaryOp .Not x pos) (!b) := ⟨fun s F =>
  wpAny_isTrue_Not (noE (h.go s F) fun r s1 ⟨k1, e⟩ => ⟨k1, by rw [e]⟩)⟩
structure EvAll (c : Cx) (ρ κ : Loc) (op : BoolOp) (es : List Expr) (b : Bool) : Prop where
  go : ∀ s, FrD c ρ κ s.heap → wpAny c.W.M c.A (allTrue op es c.env) (Says s b) NoE s

theorem evAnd_nil : EvAll c ρ κ .And [] true := ⟨fun s F => wpAny_allTrue_And_nil ⟨kp_refl s, rfl⟩⟩
theorem evOr_nil : EvAll c ρ κ .Or [] false := ⟨fun s F => wpAny_allTrue_Or_nil ⟨kp_refl s, rfl⟩⟩
theorem evAnd_cons {e : Expr} {es : List Expr} {b q : Bool} (h1 : EvB c ρ κ e b) (h2 : b = true → EvAll c ρ κ .And es q) : EvAll c ρ κ .And (e :: es) (b && q) := ⟨fun s F => by
  refine wpAny_allTrue_And_cons (noE (h1.go s F) fun r s1 ⟨k1, e⟩ => ?_)
  subst e
  cases r with
  | true => exact noE ((h2 rfl).go s1 (F.on k1.stays)) fun r s2 ⟨k2, e⟩ => ⟨k1.trans k2, by rw [e]; rfl⟩
  | false => exact ⟨k1, rfl⟩⟩
theorem evOr_cons {e : Expr} {es : List Expr} {b q : Bool} (h1 : EvB c ρ κ e b) (h2 : b = false → EvAll c ρ κ .Or es q) : EvAll c ρ κ .Or (e :: es) (b || q) := ⟨fun s F => by
  refine wpAny_allTrue_Or_cons (noE (h1.go s F) fun r s1 ⟨k1, e⟩ => ?_)
  subst e
  cases r with
  | true => exact ⟨k1, rfl⟩
  | false => exact noE ((h2 rfl).go s1 (F.on k1.stays)) fun r s2 ⟨k2, e⟩ => ⟨k1.trans k2, by rw [e]; rfl⟩⟩
theorem evB_bop {op : BoolOp} {es : List Expr} {pos : Pos} {b : Bool} (h : EvAll c ρ κ op es b) : EvB c ρ κ (.BoolOp op es pos) b := ⟨fun s F => wpAny_isTrue_BoolOp (h.go s F)⟩

/- and, or as values, all of them bools -/
structure EvBo (c : Cx) (ρ κ : Loc) (op : BoolOp) (es : List Expr) (b : Bool) : Prop where
  go : ∀ pos s, FrD c ρ κ s.heap → wpAny c.W.M c.A (boolOp pos op (evalEach es c.env)) (Gives c s (.val (.bool b))) NoE s

theorem evBo_one {op : BoolOp} {e : Expr} {b : Bool} (h : Ev c ρ κ e (.val (.bool b))) : EvBo c ρ κ op [e] b := ⟨fun pos s F => h.go s F⟩
theorem evBo_and {e e' : Expr} {es : List Expr} {b q : Bool} (h1 : Ev c ρ κ e (.val (.bool b))) (h2 : b = true → EvBo c ρ κ .And (e' :: es) q) : EvBo c ρ κ .And (e :: e' :: es) (b && q) := ⟨fun pos s F => by
  show wpAny _ _ (do
    let v ← eval e c.env
    standAt pos
    let t ← holding [v] (truthy v)
    match BoolOp.And, t with
    | .And, false | .Or, true => pure v
    | _, _ => boolOp pos .And (evalEach (e' :: es) c.env)) _ _ s
  refine wpAny_bind (noE (h1.go s F) fun v s1 ⟨k1, r1⟩ => wpAny_bind (wpAny_standAt (wpAny_bind (wpAny_holding ?_))))
  obtain rfl := rep_val.mp r1
  refine wpAny_truthy_bool ?_
  cases b with
  | false => exact wpAny_pure ⟨k1, rep_val.mpr rfl⟩
  | true => exact noE ((h2 rfl).go pos s1 (F.on k1.stays)) fun v s2 ⟨k2, r2⟩ => ⟨k1.trans k2, r2⟩⟩
theorem evBo_or {e e' : Expr} {es : List Expr} {b q : Bool} (h1 : Ev c ρ κ e (.val (.bool b))) (h2 : b = false → EvBo c ρ κ .Or (e' :: es) q) : EvBo c ρ κ .Or (e :: e' :: es) (b || q) := ⟨fun pos s F => by
  show wpAny _ _ (do
    let v ← eval e c.env
    standAt pos
    let t ← holding [v] (truthy v)
    match BoolOp.Or, t with
    | .And, false | .Or, true => pure v
    | _, _ => boolOp pos .Or (evalEach (e' :: es) c.env)) _ _ s
  refine wpAny_bind (noE (h1.go s F) fun v s1 ⟨k1, r1⟩ => wpAny_bind (wpAny_standAt (wpAny_bind (wpAny_holding ?_))))
  obtain rfl := rep_val.mp r1
  refine wpAny_truthy_bool ?_
  cases b with
  | true => exact wpAny_pure ⟨k1, rep_val.mpr rfl⟩
  | false => exact noE ((h2 rfl).go pos s1 (F.on k1.stays)) fun v s2 ⟨k2, r2⟩ => ⟨k1.trans k2, r2⟩⟩
theorem ev_bop {op : BoolOp} {es : List Expr} {pos : Pos} {b : Bool} (h : EvBo c ρ κ op es b) : Ev c ρ κ (.BoolOp op es pos) (.val (.bool b)) := ⟨fun s F => h.go pos s F⟩

/- a chain of two comparisons, a value -/
theorem ev_cmp2 {l m r : Expr} {o1 o2 : CmpOp} {pos : Pos} {d1 d2 d3 : D} {b q : Bool} (hl : Ev c ρ κ l d1) (hm : Ev c ρ κ m d2) (hr : Ev c ρ κ r d3)
    (h1 : Op2 c (compareOp o1) d1 d2 (.val (.bool b))) (h2 : Op2 c (compareOp o2) d2 d3 (.val (.bool q)))
    (hk : markedEach [o1, o2] [m, r] (evalEach [m, r] c.env) = [eval m c.env, eval r c.env] := by rfl) : Ev c ρ κ (.Compare l [o1, o2] [m, r] pos) (.val (.bool (b && q))) := ⟨fun s F => by
  show wpAny _ _ (eval l c.env >>= fun v => compareChain pos v [o1, o2] (markedEach [o1, o2] [m, r] (evalEach [m, r] c.env))) _ _ s
  rw [hk]
  refine wpAny_bind (noE (hl.go s F) fun v1 s1 ⟨k1, r1⟩ => ?_)
  rw [compareChain]
  rotate_left
  · intro h; cases h
  refine wpAny_bind (wpAny_holding (noE (hm.go s1 (F.on k1.stays)) fun v2 s2 ⟨k2, r2⟩ => wpAny_bind (wpAny_standAt (wpAny_bind (wpAny_holding ?_)))))
  refine noE (h1 s2 v1 v2 ((F.on k1.stays).on k2.stays).toSt (r1.keep k2.stays) r2) fun v s3 ⟨k3, r3⟩ => ?_
  obtain rfl := rep_val.mp r3
  refine wpAny_bind (release_ok (wpAny_bind (wpAny_holding (wpAny_truthy_bool ?_))))
  cases b with
  | false => exact wpAny_pure ⟨(k1.trans k2).trans k3, rep_val.mpr rfl⟩
  | true =>
    simp only [if_true]
    rw [compareChain]
    refine wpAny_bind (wpAny_holding (noE (hr.go s3 (((F.on k1.stays).on k2.stays).on k3.stays)) fun v4 s4 ⟨k4, r4⟩ => wpAny_bind (wpAny_standAt (wpAny_operating ?_))))
    exact noE (h2 s4 v2 v4 ((((F.on k1.stays).on k2.stays).on k3.stays).on k4.stays).toSt ((r2.keep k3.stays).keep k4.stays) r4) fun v s5 ⟨k5, r5⟩ => ⟨(((k1.trans k2).trans k3).trans k4).trans k5, r5⟩⟩
end exprs

end Mine
end

section
open PySem PySem.W PyProof.Rows PySem.Calls
namespace Mine

section calls
variable {c : Cx} {ρ κ : Loc} {n : Nat}

noncomputable def Keepers (c : Cx) (f : Value) : Prop := ∀ h, St c h → ∃ k, (k = Keeper.frame ∨ k = Keeper.machine ∨ k = Keeper.boundFrame) ∧ Looks c.W.M h (keeperOf f) k
theorem keeps_blt {id : String} : Keepers c (.builtin id) := fun h x => ⟨.machine, .inr (.inl rfl), .of_pure rfl⟩
theorem keeps_type {T : String} : Keepers c (.type T) := fun h x => ⟨.machine, .inr (.inl rfl), .of_pure rfl⟩
theorem keeps_fn {f : Value} (ok : c.Ok n) (hk : keepIn c.W.K f = true) : Keepers c f := fun h x => keeps_K hk h (ok.gd.K.keeps x.keep)

theorem evalArgs_D {f : Value} {es : List Expr} {ds : List D} {pos : Pos} {s : Shared} (h : EvL c ρ κ es ds) (F : FrD c ρ κ s.heap)
    (hp : ∃ x r, backTo pos (starEach es c.env) = (false, x) :: r) :
    wpAny c.W.M c.A (evalArgs f true (backTo pos (starEach es c.env)) []) (fun a s' => a.kw = [] ∧ Kp s s' ∧ RepL c.P s'.heap ds a.pos) NoE s := by
  have key := h.go pos s F
  obtain ⟨x, r, e⟩ := hp
  rw [e] at key ⊢
  exact evalArgs_plain (noE key fun vs s' q => ⟨rfl, q⟩)

theorem ev_call {f : Expr} {fv : Value} {es : List Expr} {ds : List D} {d : D} {pos : Pos} (hf : Ev c ρ κ f (.val fv)) (ha : EvL c ρ κ es ds) (hk : Keepers c fv) (hc : CallD c fv ds d)
    (he : eval (.Call f es [] pos) c.env = (do callWith pos (← eval f c.env) [] (backTo pos (starEach es c.env)) (backToKw pos (keywordEach [] c.env))) := by rfl)
    (hp : ∃ x r, backTo pos (starEach es c.env) = (false, x) :: r := by exact ⟨_, _, rfl⟩) (hq : (backTo pos (starEach es c.env)).any (·.1) = false := by rfl) :
    Ev c ρ κ (.Call f es [] pos) d := ⟨fun s F => by
  rw [he]
  refine wpAny_bind (noE (hf.go s F) fun v s1 ⟨k1, r1⟩ => ?_)
  obtain rfl := rep_val.mp r1
  refine callWith_of (P := fun h => St c h) (by show ((backTo pos (starEach es c.env)).any (·.1) || false) = false; rw [hq]; rfl) hk ?_
  refine noE (evalArgs_D ha (F.on k1.stays) hp) fun a s2 ⟨e, k2, r2⟩ => ⟨((F.on k1.stays).on k2.stays).toSt, ?_⟩
  rw [e]
  exact noE (hc s2 a.pos ((F.on k1.stays).on k2.stays).toSt r2) fun v s3 ⟨k3, r3⟩ => ⟨(k1.trans k2).trans k3, r3⟩⟩

noncomputable def Meth (c : Cx) (d : D) (name : Str) (f : Value) : Prop :=
  ∀ pl s v, St c s.heap → Rep c.P s.heap d v → wpAny c.W.M c.A (getMethod v name pl) (fun r s' => s' = s ∧ r = (f, [v])) NoE s
theorem ev_meth {o : Expr} {name : Str} {f : Value} {es : List Expr} {d0 d : D} {ds : List D} {apos pos : Pos} {pl : Sem Bool} (ho : Ev c ρ κ o d0) (hm : Meth c d0 name f) (ha : EvL c ρ κ es ds) (hk : Keepers c f) (hc : CallD c f (d0 :: ds) d)
    (he : eval (.Call (.Attribute o name apos) es [] pos) c.env = (do
      let ov ← eval o c.env
      standAt apos.atName
      let (f, first) ← holding [ov] (getMethod ov name pl)
      callWith pos f first (backTo pos (starEach es c.env)) []) := by rfl)
    (hp : ∃ x r, backTo pos (starEach es c.env) = (false, x) :: r := by exact ⟨_, _, rfl⟩) (hq : (backTo pos (starEach es c.env)).any (·.1) = false := by rfl) :
    Ev c ρ κ (.Call (.Attribute o name apos) es [] pos) d := ⟨fun s F => by
  refine MethodCall_ (pl := pl) (noE (ho.go s F) fun v s1 ⟨k1, r1⟩ => ?_) he
  refine noE (hm pl s1 v (F.on k1.stays).toSt r1) fun fx s1' ⟨e1, e2⟩ => ?_
  subst e1; subst e2
  refine callWith_of (P := fun h => St c h) (by show ((backTo pos (starEach es c.env)).any (·.1) || false) = false; rw [hq]; rfl) hk ?_
  refine noE (evalArgs_D ha (F.on k1.stays) hp) fun a s2 ⟨e, k2, r2⟩ => ⟨((F.on k1.stays).on k2.stays).toSt, ?_⟩
  rw [e]
  exact noE (hc s2 (v :: a.pos) ((F.on k1.stays).on k2.stays).toSt (repL_cons.mpr ⟨v, a.pos, rfl, r1.keep k2.stays, r2⟩)) fun v s3 ⟨k3, r3⟩ => ⟨(k1.trans k2).trans k3, r3⟩⟩
theorem ev_meth0 {o : Expr} {name : Str} {f : Value} {d0 d : D} {apos pos : Pos} {pl : Sem Bool} (ho : Ev c ρ κ o d0) (hm : Meth c d0 name f) (hk : Keepers c f) (hc : CallD c f [d0] d)
    (he : eval (.Call (.Attribute o name apos) [] [] pos) c.env = (do
      let ov ← eval o c.env
      standAt apos.atName
      let (f, first) ← holding [ov] (getMethod ov name pl)
      callWith pos f first (backTo pos (starEach [] c.env)) []) := by rfl) :
    Ev c ρ κ (.Call (.Attribute o name apos) [] [] pos) d := ⟨fun s F => by
  refine MethodCall_ (pl := pl) (noE (ho.go s F) fun v s1 ⟨k1, r1⟩ => ?_) he
  refine noE (hm pl s1 v (F.on k1.stays).toSt r1) fun fx s1' ⟨e1, e2⟩ => ?_
  subst e1; subst e2
  refine callWith_of (P := fun h => St c h) rfl hk ?_
  refine PySem.evalArgs_none ⟨(F.on k1.stays).toSt, ?_⟩
  exact noE (hc _ [v] (F.on k1.stays).toSt (repL_cons.mpr ⟨v, [], rfl, r1, repL_nil.mpr rfl⟩)) fun v s3 ⟨k3, r3⟩ => ⟨k1.trans k3, r3⟩⟩
end calls

section subs
variable {c : Cx} {ρ κ : Loc} {n : Nat}
noncomputable def HasT (c : Cx) (d : D) (T : String) : Prop := ∀ (s : Shared) v, St c s.heap → Rep c.P s.heap d v → s.TypeIs v T
theorem hasT_str {x : Str} : HasT c (.str x) "str" := fun s v _ r => by obtain ⟨t, rfl⟩ := rep_str.mp r; exact (rfl : typeOf (.str x t) = pure (.type "str"))
theorem hasT_list {ds : List D} : HasT c (.list ds) "list" := fun s v _ r => by obtain ⟨a, vs, rfl, _, ⟨o, ho, hc, _⟩, _⟩ := rep_list.mp r; exact ⟨_, ho, hc⟩
theorem hasT_tup {ds : List D} : HasT c (.tup ds) "tuple" := fun s v _ r => by obtain ⟨a, vs, rfl, _, ⟨o, ho, hc, _⟩, _⟩ := rep_tup.mp r; exact ⟨_, ho, hc⟩

theorem ev_sub {value slice : Expr} {pos : Pos} {d1 d2 d : D} {T id : String} (hv : Ev c ρ κ value d1) (hi : Ev c ρ κ slice d2) (hT : HasT c d1 T) (hl : typeLookup (.type T) "__getitem__" = pure (some (.builtin id)))
    (ho : Op2 c getItem d1 d2 d) (hs : ∀ o i, ∃ vs, subscripted slice false o i = operate vs (getItem o i) := by intro o i; exact ⟨_, rfl⟩) : Ev c ρ κ (.Subscript value slice pos) d := ⟨fun s F => by
  rw [eval_Subscript]
  refine wpAny_bind (noE (hv.go s F) fun o s1 ⟨k1, r1⟩ => wpAny_bind (wpAny_holding (noE (hi.go s1 (F.on k1.stays)) fun i s2 ⟨k2, r2⟩ => wpAny_bind (wpAny_standAt ?_))))
  have x2 := ((F.on k1.stays).on k2.stays).toSt
  have hTi := hT s2 o x2 (r1.keep k2.stays)
  refine wpAny_bind ?_
  rw [getitemInPython_of_ne hTi.not_modules]
  refine wpAny_bind (wpAny_specialOf hTi hl ?_)
  obtain ⟨vs, e⟩ := hs o i
  have fin : wpAny c.W.M c.A (subscripted slice false o i) (fun r s3 => wpAny c.W.M c.A (letTemporaryGo value o r >>= fun _ => pure r) (Gives c s d) NoE s3) NoE s2 := by
    rw [e]
    exact wpAny_operating (noE (ho s2 o i x2 (r1.keep k2.stays) r2) fun r s3 ⟨k3, r3⟩ => wpAny_bind (wpAny_letTemporaryGo (wpAny_pure ⟨(k1.trans k2).trans k3, r3⟩)))
  exact wpAny_pure (wpAny_bind fin)⟩
end subs

/- statements -/
noncomputable def From (c : Cx) (s : Shared) : Prop := ∃ h tk, s = { c.b with heap := h, toks := tk }
theorem From.on {c : Cx} {s s' : Shared} (x : From c s) (k : Kp s s') : From c s' := by
  obtain ⟨h, tk, rfl⟩ := x
  obtain ⟨h', tk', rfl, _⟩ := k
  exact ⟨h', tk', rfl⟩
theorem From.set {c : Cx} {s : Shared} (x : From c s) (h : Heap) (tk : Nat) : From c { s with heap := h, toks := tk } := by
  obtain ⟨h', tk', rfl⟩ := x
  exact ⟨h, tk, rfl⟩
theorem From.seth {c : Cx} {s : Shared} (x : From c s) (h : Heap) : From c { s with heap := h } := by
  obtain ⟨h', tk', rfl⟩ := x
  exact ⟨h, tk', rfl⟩

structure Xs (c : Cx) (ρ κ : Loc) (ss : List Stmt) (Q : Flow → Shared → Prop) : Prop where
  go : ∀ s, FrD c ρ κ s.heap → From c s → wpAny c.W.M c.A (execs ss c.env) Q NoE s

noncomputable def Then (c : Cx) (rest : List Stmt) (Q : Flow → Shared → Prop) : Flow → Shared → Prop := fun f s => match f with
  | .next => wpAny c.W.M c.A (execs rest c.env) Q NoE s
  | f => Q f s
noncomputable def Ret (c : Cx) (d : D) : Flow → Shared → Prop := fun f s => ∃ v, f = .ret v ∧ From c s ∧ St c s.heap ∧ Rep c.P s.heap d v

noncomputable def OwnL (c : Cx) : Prop := c.h₀.get? c.env.locals = none
structure OwnC (c : Cx) : Prop where
  apart : c.env.cells.Pairwise fun x y => x.2 ≠ y.2
  own : ∀ x a, (x, a) ∈ c.env.cells → c.h₀.get? a = none

section stmts
variable {c : Cx} {ρ κ : Loc} {n : Nat} {Q : Flow → Shared → Prop}

theorem x_nil (h : ∀ s, FrD c ρ κ s.heap → From c s → Q .next s) : Xs c ρ κ [] Q := ⟨fun s F b => wpAny_execs_nil (h s F b)⟩
theorem x_fall {rest : List Stmt} (h : Xs c ρ κ rest Q) : Xs c ρ κ [] (Then c rest Q) := x_nil fun s F b => h.go s F b
theorem x_ret {e : Expr} {pos : Pos} {rest : List Stmt} {d : D} (h : Ev c ρ κ e d) (hQ : ∀ v s, FrD c ρ κ s.heap → From c s → Rep c.P s.heap d v → Q (.ret v) s) : Xs c ρ κ (.Return (some e) pos :: rest) Q := ⟨fun s F b =>
  wpAny_execs_cons (wpAny_Return_some (noE (h.go s F) fun v s1 ⟨k1, r1⟩ => hQ v s1 (F.on k1.stays) (b.on k1) r1))⟩
theorem x_retD {e : Expr} {pos : Pos} {rest : List Stmt} {d : D} (h : Ev c ρ κ e d) : Xs c ρ κ (.Return (some e) pos :: rest) (Ret c d) := x_ret h fun v s F b r => ⟨v, rfl, b, F.toSt, r⟩
theorem store_loc {s : Shared} {x : Str} {v : Value} {d : D} {R : Unit → Shared → Prop} (ok : c.Ok n) (ow : OwnL c) (F : FrD c ρ κ s.heap) (r : Rep c.P s.heap d v) (hk : c.env.kindOf x = some .local)
    (h : ∀ h' tk, FrD c ((x, d) :: ρ) κ h' → Heap.SameBut c.env.locals s.heap h' → R () { s with heap := h', toks := tk }) : wpAny c.W.M c.A (storeName c.env x v) R NoE s := by
  obtain ⟨m, hn, hm⟩ := F.loc
  refine wpAny_storeName_local hk hn (fun h' hn' hs' => h h' _ ?_ hs') (by rw [ok.kind]; rfl)
  have hL := ns_not_seq hn
  have ext := hs'.extBut
  refine ⟨⟨fun b o e => ext b o (fun q => ?_) (F.keep b o e), fun a e => ?_⟩, ⟨_, hn', fun y d' e => ?_⟩, fun y a e => ?_⟩
  · subst q; unfold OwnL at ow; rw [ow] at e; cases e
  · refine F.new a ?_
    by_cases q : a = c.env.locals
    · subst q
      obtain ⟨o, _, _, ho, _⟩ := hn'
      rw [ho] at e; cases e
    · rw [← hs'.2 a q]; exact e
  · rw [List.lookup_cons] at e
    by_cases q : y = x
    · subst q
      simp only [beq_self_eq_true] at e
      cases e
      exact ⟨v, by simp, r.same ext hL⟩
    · have : (y == x) = false := by simpa using q
      rw [this] at e
      obtain ⟨v', h1, h2⟩ := hm y d' e
      exact ⟨v', by simp [q, h1], h2.same ext hL⟩
  · obtain ⟨o, vo, h1, h2, h3⟩ := F.cel y a e
    refine ⟨o, vo, ext a o (fun q => ?_) h1, h2, fun d' e' => ?_⟩
    · subst q
      obtain ⟨o', _, _, ho, hd, _⟩ := hn
      rw [ho] at h1; cases h1; rw [h2] at hd; cases hd
    · obtain ⟨v', p, q⟩ := h3 d' e'
      exact ⟨v', p, q.same ext hL⟩

theorem store_cell {s : Shared} {x : Str} {v : Value} {d : D} {a : Addr} {R : Unit → Shared → Prop} (ok : c.Ok n) (ow : OwnC c) (F : FrD c ρ κ s.heap) (r : Rep c.P s.heap d v) (hk : c.env.kindOf x = some .cell) (ha : c.env.cells.lookup x = some a)
    (h : ∀ h', FrD c ρ ((x, d) :: κ) h' → Heap.SameBut a s.heap h' → R () { s with heap := h' }) : wpAny c.W.M c.A (storeName c.env x v) R NoE s := by
  obtain ⟨o, vo, h1, h2, h3⟩ := F.cel x a ha
  refine wpAny_storeName_cell ok.kind hk ha ⟨o, h1, h2⟩ fun h' hc' hs' => h h' ?_ hs'
  have hL : ∀ o, s.heap.get? a = some o → ¬ SeqO o := fun o' e ⟨vs, n, q⟩ => by rw [h1] at e; cases e; rw [h2] at q; cases q
  have ext := hs'.extBut
  obtain ⟨o', ho', hd'⟩ := hc'
  refine ⟨⟨fun b ob e => ext b ob (fun q => ?_) (F.keep b ob e), fun b e => ?_⟩, ?_, fun y a' e => ?_⟩
  · subst q; rw [ow.own x b (mem_of_lookup ha)] at e; cases e
  · refine F.new b ?_
    by_cases q : b = a
    · subst q; rw [ho'] at e; cases e
    · rw [← hs'.2 b q]; exact e
  · obtain ⟨m, hn, hm⟩ := F.loc
    refine ⟨m, hn.sameBut hs' (fun q => ?_), fun y d' e => ?_⟩
    · subst q
      obtain ⟨o2, _, _, ho2, hd2, _⟩ := hn
      rw [h1] at ho2; cases ho2; rw [h2] at hd2; cases hd2
    · obtain ⟨v', p, q⟩ := hm y d' e
      exact ⟨v', p, q.same ext hL⟩
  · by_cases q : a' = a
    · subst q
      have hyx : y = x := name_of_addr ow.apart (mem_of_lookup e) (mem_of_lookup ha)
      subst hyx
      refine ⟨o', _, ho', hd', fun d' e' => ?_⟩
      rw [List.lookup_cons, beq_self_eq_true] at e'
      cases e'
      exact ⟨v, rfl, r.same ext hL⟩
    · have hyx : y ≠ x := fun z => by subst z; rw [ha] at e; cases e; exact q rfl
      obtain ⟨o2, vo2, p1, p2, p3⟩ := F.cel y a' e
      refine ⟨o2, vo2, ext a' o2 q p1, p2, fun d' e' => ?_⟩
      have : (y == x) = false := by simpa using hyx
      rw [List.lookup_cons, this] at e'
      obtain ⟨v', u1, u2⟩ := p3 d' e'
      exact ⟨v', u1, u2.same ext hL⟩

theorem x_asg {x : Str} {px pos : Pos} {e : Expr} {rest : List Stmt} {d : D} (ok : c.Ok n) (ow : OwnL c) (hk : c.env.kindOf x = some .local) (he : Ev c ρ κ e d) (h : Xs c ((x, d) :: ρ) κ rest Q)
    (hs : swapsWith e (some (.Name x px)) pos.line c.env = pure false := by rfl) : Xs c ρ κ (.Assign [.Name x px] e pos :: rest) Q := ⟨fun s F b =>
  wpAny_execs_cons (wpAny_Assign_Name (noE (he.go s F) fun v s1 ⟨k1, r1⟩ => store_loc ok ow (F.on k1.stays) r1 hk fun h' tk F' _ => h.go _ F' ((b.on k1).set _ _)) hs)⟩
theorem x_asgC {x : Str} {px pos : Pos} {e : Expr} {rest : List Stmt} {d : D} {a : Addr} (ok : c.Ok n) (ow : OwnC c) (hk : c.env.kindOf x = some .cell) (ha : c.env.cells.lookup x = some a) (he : Ev c ρ κ e d) (h : Xs c ρ ((x, d) :: κ) rest Q)
    (hs : swapsWith e (some (.Name x px)) pos.line c.env = pure false := by rfl) : Xs c ρ κ (.Assign [.Name x px] e pos :: rest) Q := ⟨fun s F b =>
  wpAny_execs_cons (wpAny_Assign_Name (noE (he.go s F) fun v s1 ⟨k1, r1⟩ => store_cell ok ow (F.on k1.stays) r1 hk ha fun h' F' _ => h.go _ F' ((b.on k1).seth _)) hs)⟩
theorem x_aug {x : Str} {px pos : Pos} {op : Operator} {e : Expr} {rest : List Stmt} {d0 d1 d : D} (ok : c.Ok n) (ow : OwnL c) (hk : c.env.kindOf x = some .local) (hx : ρ.lookup x = some d0) (he : Ev c ρ κ e d1) (ho : Op2 c (inplaceOp op) d0 d1 d)
    (h : Xs c ((x, d) :: ρ) κ rest Q) : Xs c ρ κ (.AugAssign (.Name x px) op e pos :: rest) Q := ⟨fun s F b => by
  obtain ⟨m, hn, hm⟩ := F.loc
  obtain ⟨v0, hv, r0⟩ := hm x d0 hx
  refine wpAny_execs_cons (wpAny_AugAssign_Name (wpAny_loadName_local ok.kind hk hn hv ?_))
  refine noE (he.go s F) fun v1 s1 ⟨k1, r1⟩ => noE (ho s1 v0 v1 (F.on k1.stays).toSt (r0.keep k1.stays) r1) fun v s2 ⟨k2, r2⟩ => ?_
  exact store_loc ok ow ((F.on k1.stays).on k2.stays) r2 hk fun h' tk F' _ => h.go _ F' (((b.on k1).on k2).set _ _)⟩
theorem x_if {t : Expr} {body orelse rest : List Stmt} {pos : Pos} {q : Bool} (ht : EvB c ρ κ t q) (h1 : q = true → Xs c ρ κ body (Then c rest Q)) (h2 : q = false → Xs c ρ κ orelse (Then c rest Q)) : Xs c ρ κ (.If t body orelse pos :: rest) Q := ⟨fun s F b => by
  refine wpAny_execs_cons (wpAny_If (noE (ht.go s F) fun r s1 ⟨k1, e⟩ => ?_))
  subst e
  have conv : ∀ ss, wpAny c.W.M c.A (execs ss c.env) (Then c rest Q) NoE s1 → wpAny c.W.M c.A (execs ss c.env) (fun f s' => match f with | .next => wpAny c.W.M c.A (execs rest c.env) Q NoE s' | f => Q f s') NoE s1 := fun ss h =>
    noE h fun f s' hf => by cases f <;> exact hf
  cases r with
  | true => exact conv _ ((h1 rfl).go s1 (F.on k1.stays) (b.on k1))
  | false => exact conv _ ((h2 rfl).go s1 (F.on k1.stays) (b.on k1))⟩
theorem x_weak {ss : List Stmt} {ρ' κ' : Loc} (h : Xs c ρ' κ' ss Q) (h1 : ∀ y d, ρ'.lookup y = some d → ρ.lookup y = some d) (h2 : ∀ y d, κ'.lookup y = some d → κ.lookup y = some d) : Xs c ρ κ ss Q := ⟨fun s F b => h.go s (F.weak h1 h2) b⟩
theorem x_try {body rest : List Stmt} {hs : List ExceptHandler} {pos : Pos} (h : Xs c ρ κ body (Then c rest Q)) : Xs c ρ κ (.Try body hs [] [] pos :: rest) Q := ⟨fun s F b => by
  refine wpAny_execs_cons ?_
  show wpAny _ _ (do standAt pos; tryStmt false (execs body c.env) hs (execs [] c.env) [] c.env) _ _ s
  refine wpAny_bind (wpAny_standAt ?_)
  unfold tryStmt
  simp only [List.isEmpty_nil, if_true]
  refine wpAny_bind (wpAny_attempt (wpAny_mono (h.go s F b) (fun f s1 hf => ?_) fun _ _ e => e.elim))
  cases f with
  | next => exact wpAny_execs_nil hf
  | _ => exact wpAny_pure hf⟩
end stmts

/- a def of the top is called -/
section defs
variable {c : Cx} {n : Nat}

noncomputable def Cx.into (c : Cx) (fd : FuncData) (f : Addr) (s : Shared) : Cx := { W := c.W, A := c.A.deeper (callEnvC fd s.heap.objs.size f), env := callEnvC fd s.heap.objs.size f, h₀ := s.heap, P := c.P, b := s }

end defs

end Mine
end

section
open PySem PySem.W PyProof.Rows PySem.Calls
namespace Mine

section defs
variable {c : Cx} {n : Nat}

theorem bindL_of {kindOf : Str → Option NameKind} {x : Str} {v : Value} (hk : kindOf x = some .local) : ∀ {binds : List (Str × Value)} {m : Str → Option Value}, (binds.map (·.1)).Nodup → (x, v) ∈ binds → bindL kindOf binds m x = some v
  | [], _, _, h => by cases h
  | (y, u) :: r, m, hn, h => by
    rw [List.map_cons, List.nodup_cons] at hn
    unfold bindL
    rcases List.mem_cons.mp h with e | h
    · cases e
      rw [if_pos hk]
      have : ∀ (r : List (Str × Value)) (m : Str → Option Value), x ∉ r.map (·.1) → m x = some v → bindL kindOf r m x = some v := by
        intro r
        induction r with
        | nil => intro m _ h; exact h
        | cons p r ih =>
          intro m hx h
          rw [List.map_cons, List.mem_cons, not_or] at hx
          unfold bindL
          refine ih _ hx.2 ?_
          by_cases q : kindOf p.1 = some .local
          · rw [if_pos q, if_neg hx.1]; exact h
          · rw [if_neg q]; exact h
      exact this r _ hn.1 (by simp)
    · exact bindL_of hk hn.2 h
theorem bindC_of {kindOf : Str → Option NameKind} {x : Str} {v : Value} (hk : kindOf x ≠ some .local) : ∀ {binds : List (Str × Value)} {m : Str → Option Value}, (binds.map (·.1)).Nodup → (x, v) ∈ binds → bindC kindOf binds m x = some v
  | [], _, _, h => by cases h
  | (y, u) :: r, m, hn, h => by
    rw [List.map_cons, List.nodup_cons] at hn
    unfold bindC
    rcases List.mem_cons.mp h with e | h
    · cases e
      rw [if_neg hk]
      have : ∀ (r : List (Str × Value)) (m : Str → Option Value), x ∉ r.map (·.1) → m x = some v → bindC kindOf r m x = some v := by
        intro r
        induction r with
        | nil => intro m _ h; exact h
        | cons p r ih =>
          intro m hx h
          rw [List.map_cons, List.mem_cons, not_or] at hx
          unfold bindC
          refine ih _ hx.2 ?_
          by_cases q : kindOf p.1 = some .local
          · rw [if_pos q]; exact h
          · rw [if_neg q, if_neg hx.1]; exact h
      exact this r _ hn.1 (by simp)
    · exact bindC_of hk hn.2 h

noncomputable def RepB (P : Addr → Prop) (h : Heap) : List (Str × D) → List (Str × Value) → Prop
  | [], bs => bs = []
  | (x, d) :: r, bs => ∃ v r', bs = (x, v) :: r' ∧ Rep P h d v ∧ RepB P h r r'
theorem RepB.names {P : Addr → Prop} {h : Heap} : ∀ {bds : List (Str × D)} {bs : List (Str × Value)}, RepB P h bds bs → bs.map (·.1) = bds.map (·.1)
  | [], bs, r => by unfold RepB at r; rw [r]; rfl
  | (x, d) :: r, bs, q => by unfold RepB at q; obtain ⟨v, r', rfl, _, h2⟩ := q; rw [List.map_cons, List.map_cons, h2.names]
theorem RepB.mem {P : Addr → Prop} {h : Heap} : ∀ {bds : List (Str × D)} {bs : List (Str × Value)} {x : Str} {d : D}, RepB P h bds bs → (x, d) ∈ bds → ∃ v, (x, v) ∈ bs ∧ Rep P h d v
  | [], bs, _, _, r, hm => by cases hm
  | (x, d) :: r, bs, y, d', q, hm => by
    unfold RepB at q
    obtain ⟨v, r', rfl, h1, h2⟩ := q
    rcases List.mem_cons.mp hm with e | hm
    · cases e; exact ⟨v, .head _, h1⟩
    · obtain ⟨u, p1, p2⟩ := h2.mem hm; exact ⟨u, .tail _ p1, p2⟩
theorem repB_nil {P : Addr → Prop} {h : Heap} : RepB P h [] [] := rfl
theorem repB_cons {P : Addr → Prop} {h : Heap} {x : Str} {d : D} {v : Value} {r : List (Str × D)} {r' : List (Str × Value)} (h1 : Rep P h d v) (h2 : RepB P h r r') : RepB P h ((x, d) :: r) ((x, v) :: r') := ⟨v, r', rfl, h1, h2⟩

noncomputable def Binds (c : Cx) (fd : FuncData) (ds : List D) (bds : List (Str × D)) : Prop :=
  ∀ s vs, St c s.heap → RepL c.P s.heap ds vs → wpAny c.W.M c.A.in1 (bindArgs fd ⟨vs, []⟩) (fun binds s' => Kp s s' ∧ RepB c.P s'.heap bds binds) NoE s

theorem call_def {f : Addr} {fo : Obj} {fd : FuncData} {body : List Stmt} {ds : List D} {d : D} {bds : List (Str × D)} {ρ κ : Loc} (ok : c.Ok n) (hn : 0 < n)
    (hf : c.W.K.lookup f = some fo) (hd : fo.data = .func fd) (hb : fd.body = .stmts body) (hc : codeIn c.W.K fd.code fd.qualname = true) (hcl : fd.closure = []) (hbind : Binds c fd ds bds)
    (hkind : ∀ k, ∀ x ∈ bds, fd.scope.names.lookup x.1 = some .local ∨ (fd.scope.names.lookup x.1 = some .cell ∧ ((cellsFrom k fd.scope.names []).lookup x.1).isSome = true))
    (hnd : (bds.map (·.1)).Nodup)
    (hρ : ∀ x d, ρ.lookup x = some d → (x, d) ∈ bds ∧ fd.scope.names.lookup x = some .local) (hκ : ∀ x d, κ.lookup x = some d → (x, d) ∈ bds ∧ fd.scope.names.lookup x = some .cell)
    (h : ∀ s, St c s.heap → Xs (c.into fd f s) ρ κ body (Ret (c.into fd f s) d))
    (hco : fd.scope.isCoroutine = false := by rfl) (hgen : fd.scope.isGenerator = false := by rfl) (hk : fd.scope.kind = .function := by rfl) : CallD c (.ref f) ds d := fun s vs x r => by
  refine wpAny_call ?_
  have hr := ok.rm.dp
  have K := ok.gd.K.keeps x.keep
  refine codeAny_call_function (by show c.A.depth < 1000; omega) (K _ _ hf) hd hco hgen hb (codeRec_of K hc) ?_
  refine noE (hbind s vs x r) fun binds s1 ⟨k1, rb⟩ => ?_
  rw [hcl]
  have hnm := rb.names
  have x1 := x.on k1.stays
  refine wpAny_newFunctionEnv_cells hk (fun y hy => ?_) fun env he s2 I => ?_
  · have : y.1 ∈ bds.map (·.1) := by rw [← hnm]; exact List.mem_map_of_mem hy
    obtain ⟨p, hp, e⟩ := List.mem_map.mp this
    rw [← e]; exact hkind _ p hp
  have hC : env = (c.into fd f s1).env := he
  subst hC
  have k2 := I.toInCall.keep
  refine ⟨(ok.gd.T.nolimit.keeps x1.keep).keeps k2, codeAny_func ?_⟩
  have hkof : ∀ y, (c.into fd f s1).env.kindOf y = fd.scope.names.lookup y := fun y => rfl
  have F : FrD (c.into fd f s1) ρ κ s2.heap := by
    refine ⟨⟨k2, x1.new.keep k2⟩, ⟨_, I.toInCall.ns, fun y d' e => ?_⟩, fun y a e => ?_⟩
    · obtain ⟨hm, hl⟩ := hρ y d' e
      obtain ⟨v, hv, rv⟩ := rb.mem hm
      exact ⟨v, bindL_of (by rw [hkof]; exact hl) (by rw [hnm]; exact hnd) hv, rv.keep k2⟩
    · obtain ⟨o, ho, hd'⟩ := I.cell y a e
      refine ⟨o, _, ho, hd', fun d' e' => ?_⟩
      obtain ⟨hm, hl⟩ := hκ y d' e'
      obtain ⟨v, hv, rv⟩ := rb.mem hm
      exact ⟨v, bindC_of (by rw [hkof, hl]; decide) (by rw [hnm]; exact hnd) hv, rv.keep k2⟩
  have fr : From (c.into fd f s1) s2 := by
    obtain ⟨h', tk, rfl⟩ := I.toInCall.same
    exact ⟨h', tk, rfl⟩
  refine noE ((h s1 x1).go s2 F fr) fun fl s3 hq => ?_
  obtain ⟨v, rfl, b3, x3, r3⟩ := hq
  obtain ⟨h3, tk3, e3⟩ := b3
  subst e3
  exact ⟨k1.trans (kp_both s1 x3.keep), r3⟩

theorem into_ok {fd : FuncData} {f : Addr} {s : Shared} (ok : c.Ok (n + 1)) (x : St c s.heap) (hk : fd.scope.kind = .function := by rfl) (hg : fd.globals = mainGlobals := by rfl) (hb : fd.builtins = builtinsNs := by rfl) : (c.into fd f s).Ok n :=
  ⟨ok.gd.keep x.keep, ok.rm.deeper _, hk, hg, hb⟩
theorem into_own {fd : FuncData} {f : Addr} {s : Shared} : OwnL (c.into fd f s) := Heap.get?_none_of_le (Nat.le_refl _)
theorem into_cells {fd : FuncData} {f : Addr} {s : Shared} (hap : (cellsFrom (s.heap.objs.size + 1) fd.scope.names []).Pairwise fun x y => x.2 ≠ y.2) (hab : ∀ x a, (x, a) ∈ cellsFrom (s.heap.objs.size + 1) fd.scope.names [] → s.heap.objs.size ≤ a) : OwnC (c.into fd f s) :=
  ⟨hap, fun x a hm => Heap.get?_none_of_le (hab x a hm)⟩
end defs

end Mine
end

section
open PySem PySem.W PyProof.Rows PySem.Calls
namespace Mine

theorem sizeLine_ge {n : Nat} (h : n ≤ 100000) : n ≤ sizeLine := Nat.le_trans h (by decide)
noncomputable abbrev bo (b : Bool) : D := .val (.bool b)
noncomputable def tx (l : List Nat) : Str := ⟨l.toArray⟩
theorem tx_cps (l : List Nat) : (tx l).cps.toList = l := by simp [tx]
theorem tx_len (l : List Nat) : (tx l).length = l.length := by simp [tx, Str.length]
theorem tx_append (a b : List Nat) : tx a ++ tx b = tx (a ++ b) := by
  show Str.append (tx a) (tx b) = _
  simp [Str.append, tx]
theorem tx_eq (x : Str) : tx x.cps.toList = x := by cases x; simp [tx]
theorem tx_inj {a b : List Nat} : tx a = tx b ↔ a = b := ⟨fun h => by rw [← tx_cps a, h, tx_cps], fun h => by rw [h]⟩
theorem tx_beq (a b : List Nat) : (tx a == tx b) = (a == b) := by
  rw [Bool.eq_iff_iff]; simp [tx_inj]

section ops
variable {c : Cx} {ρ κ : Loc} {n : Nat}

/- ints -/
theorem op_add_int {a b : Int} : Op2 c (binaryOp .Add) (.int a) (.int b) (.int (a + b)) := fun s v1 v2 x r1 r2 => by
  obtain ⟨t, rfl⟩ := rep_int.mp r1; obtain ⟨u, rfl⟩ := rep_int.mp r2
  with_reducible exact P.add_int ⟨kp_toks s _, rep_int.mpr ⟨_, rfl⟩⟩
theorem op_sub_int {a b : Int} : Op2 c (binaryOp .Sub) (.int a) (.int b) (.int (a - b)) := fun s v1 v2 x r1 r2 => by
  obtain ⟨t, rfl⟩ := rep_int.mp r1; obtain ⟨u, rfl⟩ := rep_int.mp r2
  with_reducible exact P.sub_int ⟨kp_toks s _, rep_int.mpr ⟨_, rfl⟩⟩
theorem nopylong {a b : Int} (hb : 0 < b) (hb2 : b < 2 ^ 62) : ¬ (Builtin.divisionGoesByPylong a b) = true := by
  unfold Builtin.divisionGoesByPylong
  simp only [Bool.and_eq_true, decide_eq_true_eq]
  intro h
  have h0 := h.1
  have h1 : (b == 0) = false := by simpa using (by omega : b ≠ 0)
  simp only [h1, Bool.false_eq_true, if_false] at h0
  have h2 : b.natAbs < 2 ^ 62 := by omega
  have h3 : b.natAbs.log2 < 62 := (Nat.log2_lt (by omega)).mpr h2
  omega
theorem op_div_int {a b : Int} (hb : 0 < b) (hb2 : b < 2 ^ 62) : Op2 c (binaryOp .FloorDiv) (.int a) (.int b) (.int (a.fdiv b)) := fun s v1 v2 x r1 r2 => by
  obtain ⟨t, rfl⟩ := rep_int.mp r1; obtain ⟨u, rfl⟩ := rep_int.mp r2
  with_reducible refine AutoIntOps.floordiv_1 (by simp; omega) (nopylong hb hb2) ?_
  exact ⟨kp_toks s _, rep_int.mpr ⟨_, rfl⟩⟩
theorem op_idiv_int {a b : Int} (hb : 0 < b) (hb2 : b < 2 ^ 62) : Op2 c (inplaceOp .FloorDiv) (.int a) (.int b) (.int (a.fdiv b)) := fun s v1 v2 x r1 r2 => by
  obtain ⟨t, rfl⟩ := rep_int.mp r1; obtain ⟨u, rfl⟩ := rep_int.mp r2
  with_reducible refine AutoIntOps.ifloordiv_1 (by simp; omega) (nopylong hb hb2) ?_
  exact ⟨kp_toks s _, rep_int.mpr ⟨_, rfl⟩⟩
theorem op_mod_int {a b : Int} (hb : 0 < b) : Op2 c (binaryOp .Mod) (.int a) (.int b) (.int (a.fmod b)) := fun s v1 v2 x r1 r2 => by
  obtain ⟨t, rfl⟩ := rep_int.mp r1; obtain ⟨u, rfl⟩ := rep_int.mp r2
  with_reducible refine AutoIntOps.mod_1 (by simp; omega) ?_
  exact ⟨kp_toks s _, rep_int.mpr ⟨_, rfl⟩⟩
theorem op_lt_int {a b : Int} : Op2 c (compareOp .Lt) (.int a) (.int b) (bo (decide (a < b))) := fun s v1 v2 x r1 r2 => by
  obtain ⟨t, rfl⟩ := rep_int.mp r1; obtain ⟨u, rfl⟩ := rep_int.mp r2
  with_reducible exact P.lt_int ⟨kp_refl s, rep_val.mpr rfl⟩
theorem op_le_int {a b : Int} : Op2 c (compareOp .LtE) (.int a) (.int b) (bo (decide (a ≤ b))) := fun s v1 v2 x r1 r2 => by
  obtain ⟨t, rfl⟩ := rep_int.mp r1; obtain ⟨u, rfl⟩ := rep_int.mp r2
  with_reducible exact P.le_int ⟨kp_refl s, rep_val.mpr rfl⟩
theorem op_gt_int {a b : Int} : Op2 c (compareOp .Gt) (.int a) (.int b) (bo (decide (a > b))) := fun s v1 v2 x r1 r2 => by
  obtain ⟨t, rfl⟩ := rep_int.mp r1; obtain ⟨u, rfl⟩ := rep_int.mp r2
  with_reducible exact P.gt_int ⟨kp_refl s, rep_val.mpr rfl⟩
theorem op_ge_int {a b : Int} : Op2 c (compareOp .GtE) (.int a) (.int b) (bo (decide (a ≥ b))) := fun s v1 v2 x r1 r2 => by
  obtain ⟨t, rfl⟩ := rep_int.mp r1; obtain ⟨u, rfl⟩ := rep_int.mp r2
  with_reducible exact P.ge_int ⟨kp_refl s, rep_val.mpr rfl⟩
theorem op_eq_int {a b : Int} : Op2 c (compareOp .Eq) (.int a) (.int b) (bo (a == b)) := fun s v1 v2 x r1 r2 => by
  obtain ⟨t, rfl⟩ := rep_int.mp r1; obtain ⟨u, rfl⟩ := rep_int.mp r2
  with_reducible exact P.eq_int ⟨kp_refl s, rep_val.mpr rfl⟩
theorem c_abs {a : Int} : CallD c (.builtin "abs") [.int a] (.int (if a < 0 then -a else a)) := fun s vs x r => by
  obtain ⟨v, r', rfl, r1, r2⟩ := repL_cons.mp r; obtain rfl := repL_nil.mp r2; obtain ⟨t, rfl⟩ := rep_int.mp r1
  with_reducible refine call_abs_int fun u tk => ?_
  exact ⟨kp_toks s _, rep_int.mpr ⟨_, rfl⟩⟩
theorem c_chr {i : Int} (h0 : 0 ≤ i) (h1 : i ≤ 1114111) : CallD c (.builtin "chr") [.int i] (.str (tx [i.toNat])) := fun s vs x r => by
  obtain ⟨v, r', rfl, r1, r2⟩ := repL_cons.mp r; obtain rfl := repL_nil.mp r2; obtain ⟨t, rfl⟩ := rep_int.mp r1
  with_reducible exact chr_of_range h0 h1 ⟨kp_toks s _, rep_str.mpr ⟨_, rfl⟩⟩
theorem c_ord {i : Nat} : CallD c (.builtin "ord") [.str (tx [i])] (.int i) := fun s vs x r => by
  obtain ⟨v, r', rfl, r1, r2⟩ := repL_cons.mp r; obtain rfl := repL_nil.mp r2; obtain ⟨t, rfl⟩ := rep_str.mp r1
  show wpAny _ _ (call (.builtin "ord") [.str ⟨#[i]⟩ t]) _ _ _
  with_reducible exact P.ord_of_char ⟨kp_toks s _, rep_int.mpr ⟨_, rfl⟩⟩

/- texts -/
theorem op_add_str {a b : List Nat} (h : a.length + b.length ≤ 100000) : Op2 c (binaryOp .Add) (.str (tx a)) (.str (tx b)) (.str (tx (a ++ b))) := fun s v1 v2 x r1 r2 => by
  obtain ⟨t, rfl⟩ := rep_str.mp r1; obtain ⟨u, rfl⟩ := rep_str.mp r2
  with_reducible exact PyProof.Rows.add_str (fun t' tk => ⟨kp_toks s _, rep_str.mpr ⟨_, by rw [tx_append]⟩⟩) (by rw [tx_len, tx_len]; exact sizeLine_ge h)
theorem op_iadd_str {a b : List Nat} (h : a.length + b.length ≤ 100000) : Op2 c (inplaceOp .Add) (.str (tx a)) (.str (tx b)) (.str (tx (a ++ b))) := fun s v1 v2 x r1 r2 => by
  obtain ⟨t, rfl⟩ := rep_str.mp r1; obtain ⟨u, rfl⟩ := rep_str.mp r2
  with_reducible exact PyProof.Rows.iadd_str (fun t' tk => ⟨kp_toks s _, rep_str.mpr ⟨_, by rw [tx_append]⟩⟩) (by rw [tx_len, tx_len]; exact sizeLine_ge h)
theorem op_eq_str {a b : List Nat} : Op2 c (compareOp .Eq) (.str (tx a)) (.str (tx b)) (bo (a == b)) := fun s v1 v2 x r1 r2 => by
  obtain ⟨t, rfl⟩ := rep_str.mp r1; obtain ⟨u, rfl⟩ := rep_str.mp r2
  with_reducible exact PyProof.Rows.eq_str ⟨kp_refl s, rep_val.mpr (by rw [tx_beq])⟩
theorem op_ne_str {a b : List Nat} : Op2 c (compareOp .NotEq) (.str (tx a)) (.str (tx b)) (bo (a != b)) := fun s v1 v2 x r1 r2 => by
  obtain ⟨t, rfl⟩ := rep_str.mp r1; obtain ⟨u, rfl⟩ := rep_str.mp r2
  with_reducible exact PyProof.Rows.ne_str ⟨kp_refl s, rep_val.mpr (by unfold bne; rw [tx_beq])⟩
theorem op_lt_str {a b : List Nat} : Op2 c (compareOp .Lt) (.str (tx a)) (.str (tx b)) (bo (decide (a < b))) := fun s v1 v2 x r1 r2 => by
  obtain ⟨t, rfl⟩ := rep_str.mp r1; obtain ⟨u, rfl⟩ := rep_str.mp r2
  with_reducible exact PyProof.Rows.lt_str ⟨kp_refl s, rep_val.mpr (by rw [tx_cps, tx_cps])⟩
theorem op_gt_str {a b : List Nat} : Op2 c (compareOp .Gt) (.str (tx a)) (.str (tx b)) (bo (decide (b < a))) := fun s v1 v2 x r1 r2 => by
  obtain ⟨t, rfl⟩ := rep_str.mp r1; obtain ⟨u, rfl⟩ := rep_str.mp r2
  with_reducible exact P.gt_str ⟨kp_refl s, rep_val.mpr (by rw [tx_cps, tx_cps])⟩
theorem op_le_str {a b : List Nat} : Op2 c (compareOp .LtE) (.str (tx a)) (.str (tx b)) (bo (!decide (b < a))) := fun s v1 v2 x r1 r2 => by
  obtain ⟨t, rfl⟩ := rep_str.mp r1; obtain ⟨u, rfl⟩ := rep_str.mp r2
  with_reducible exact P.le_str ⟨kp_refl s, rep_val.mpr (by rw [tx_cps, tx_cps])⟩
theorem opB_str {a : List Nat} (h : a.length ≤ 100000) : OpB c (.str (tx a)) (!a.isEmpty) := fun s v x r => by
  obtain ⟨t, rfl⟩ := rep_str.mp r
  with_reducible refine P.truthy_str (by rw [tx_len]; omega) ⟨kp_toks s _, ?_⟩
  rw [tx_len]
  cases a <;> simp <;> omega
theorem c_len_str {a : List Nat} (h : a.length ≤ 100000) : CallD c (.builtin "len") [.str (tx a)] (.int a.length) := fun s vs x r => by
  obtain ⟨v, r', rfl, r1, r2⟩ := repL_cons.mp r; obtain rfl := repL_nil.mp r2; obtain ⟨t, rfl⟩ := rep_str.mp r1
  with_reducible exact PyProof.Rows.len_str (by rw [tx_len]; omega) ⟨kp_toks s _, rep_int.mpr ⟨_, by rw [tx_len]⟩⟩
theorem seq_at {i : Int} {n : Nat} (h0 : 0 ≤ i) (hl : i.toNat < n) (h2 : n ≤ 100000) : seqIndex? i n = some i.toNat := by
  unfold seqIndex?
  simp
  omega
theorem op_item_str {a : List Nat} {i : Int} {k : Nat} (h0 : 0 ≤ i) (h1 : a[i.toNat]? = some k) (h2 : a.length ≤ 100000) : Op2 c getItem (.str (tx a)) (.int i) (.str (tx [k])) := fun s v1 v2 x r1 r2 => by
  obtain ⟨t, rfl⟩ := rep_str.mp r1; obtain ⟨u, rfl⟩ := rep_int.mp r2
  have hl : i.toNat < a.length := by
    rcases Nat.lt_or_ge i.toNat a.length with q | q
    · exact q
    · rw [List.getElem?_eq_none q] at h1; cases h1
  with_reducible refine PyProof.Rows.getItem_str (c := k) (by simp; omega) ?_ ⟨kp_toks s _, rep_str.mpr ⟨_, rfl⟩⟩
  have e : seqIndex? i (tx a).length = some i.toNat := seq_at h0 (by rw [tx_len]; exact hl) (by rw [tx_len]; exact h2)
  rw [e]
  simpa [tx] using h1
theorem op_last_str {a : List Nat} {k : Nat} (h1 : a.getLast? = some k) (h2 : a.length ≤ 100000) : Op2 c getItem (.str (tx a)) (.int (-1)) (.str (tx [k])) := fun s v1 v2 x r1 r2 => by
  obtain ⟨t, rfl⟩ := rep_str.mp r1; obtain ⟨u, rfl⟩ := rep_int.mp r2
  have hl : 0 < a.length := by
    cases a with
    | nil => simp at h1
    | cons _ _ => simp
  with_reducible refine PyProof.Rows.getItem_str (c := k) (by decide) ?_ ⟨kp_toks s _, rep_str.mpr ⟨_, rfl⟩⟩
  have e : seqIndex? (-1) (tx a).length = some (a.length - 1) := by
    unfold seqIndex?
    rw [tx_len]
    simp
    omega
  rw [e]
  rw [List.getLast?_eq_getElem?] at h1
  simpa [tx] using h1
end ops
end Mine
end

section
open PySem PySem.W PyProof.Rows PySem.Calls
namespace Mine

noncomputable def owners : List String := ["enumerate", "zip", "dict_itemiterator", "dict_reverseitemiterator", "odict_iterator", "itertools.zip_longest", "itertools.pairwise"]
noncomputable def Plain (h : Heap) (I : Addr) : Prop := ∃ o nm, h.get? I = some o ∧ o.cls = .type nm ∧ owners.contains nm = false
theorem plain_go {M : Model} {A : Around} {E : Value → Shared → Prop} {s : Shared} {I : Addr} {target : Expr} {v : Value} {Q : Unit → Shared → Prop} (hp : Plain s.heap I) (hQ : Q () s) : wpAny M A (letOwnedTupleGo target (.ref I) v) Q E s := by
  obtain ⟨o, nm, ho, hc, hn⟩ := hp
  have key : ∀ a : Addr, wpAny M A (do
      let o ← load I
      match o.cls, o.data with
      | .type n, .fields vs =>
        if owners.contains n && vs[0]? == some (rawInt a) then
          rule "for.unpacks-the-owned-tuple"
          updateField I 0 .none
      | _, _ => pure ()) Q E s := fun a => by
    refine wpAny_bind (wpAny_load ho ?_)
    rw [hc]
    split
    · rename_i n vs e1 e2
      cases e1
      rw [hn]
      exact wpAny_pure hQ
    · exact wpAny_pure hQ
  unfold letOwnedTupleGo
  cases target <;> first | exact wpAny_pure hQ | skip
  · cases v <;> first | exact wpAny_pure hQ | skip
    exact key _
  · cases v <;> first | exact wpAny_pure hQ | skip
    exact key _
inductive WlkI (c : Cx) (s : Shared) (N : Nat) (it : Nat → D) (r : Value) (s' : Shared) : Prop
  | mk (I : Addr) (fp wr : List Addr) (Pi : Nat → Value → Prop) (StI : Nat → Heap → Prop) (S : Heap → Prop)
    (e : r = .ref I) (W : Walks c.W.prog c.W.w c.A I fp wr N Pi StI) (st : StI 0 s'.heap) (hS : S s'.heap) (c1 : ∀ b ∈ wr, s.heap.get? b = none) (c6 : ∀ b ∈ fp, b < s'.heap.objs.size)
    (c2 : ∀ b ∈ fp, b ∈ wr ∨ ∃ o, s.heap.get? b = some o ∧ SeqO o ∧ c.P b)
    (c3 : ∀ i h, StI i h → ∀ b ∈ wr, ∃ o, h.get? b = some o ∧ ¬ SeqO o)
    (c4 : ∀ h h', S h → (∀ a o, h.get? a = some o → SeqO o → c.P a → h'.get? a = some o) → S h')
    (c5 : ∀ i v h, i < N → Pi i v → S h → Rep c.P h (it i) v) (c7 : ∀ i h, StI i h → Plain h I) : WlkI c s N it r s'
noncomputable def ItrAt (c : Cx) (s : Shared) (v : Value) (N : Nat) (it : Nat → D) : Prop := wpAny c.W.M c.A (pyIter v) (fun r s' => Kp s s' ∧ WlkI c s N it r s') NoE s
noncomputable def Itr (c : Cx) (src : D) (N : Nat) (it : Nat → D) : Prop := ∀ s v, St c s.heap → Rep c.P s.heap src v → ItrAt c s v N it
structure Wk (W : Wd) (A : Around) (tgt : Expr) (I : Addr) (fp wr : List Addr) (N : Nat) (Pi : Nat → Heap → Heap → Value → Prop) (StI : Nat → Heap → Prop) : Prop where
  sub : ∀ b ∈ wr, b ∈ fp
  frame : ∀ i h h', StI i h → (∀ b ∈ fp, ∀ o, h.get? b = some o → h'.get? b = some o) → StI i h'
  item : ∀ i (s : Shared) (Q : Value → Shared → Prop), i < N → StI i s.heap →
    (∀ v h' tk, Pi i s.heap h' v → StI (i + 1) h' → (∀ b o, b ∉ wr → s.heap.get? b = some o → h'.get? b = some o) → Q v { s with heap := h', toks := tk }) →
    wpAny W.M A (pyNext (.ref I)) (fun r s1 => ∃ v, r = some v ∧ wpAny W.M A (letOwnedTupleGo tgt (.ref I) v) (fun _ s2 => Q v s2) NoE s1) NoE s
  done : ∀ (s : Shared) (Q : Option Value → Shared → Prop), StI N s.heap →
    (∀ h' tk, (∀ b o, b ∉ wr → s.heap.get? b = some o → h'.get? b = some o) → Q none { s with heap := h', toks := tk }) → wpAny W.M A (pyNext (.ref I)) Q NoE s
  self : ∀ i (s : Shared) (Q : Value → Shared → Prop), StI i s.heap → Q (.ref I) s → wpAny W.M A (pyIter (.ref I)) Q NoE s
theorem Wk.plain {W : Wd} {A : Around} {tgt : Expr} {I : Addr} {fp wr : List Addr} {N : Nat} {Pi : Nat → Value → Prop} {StI : Nat → Heap → Prop} (w : Walks W.prog W.w A I fp wr N Pi StI) (hp : ∀ i h, StI i h → Plain h I) : Wk W A tgt I fp wr N (fun i _ _ v => Pi i v) StI where
  sub := w.sub
  frame := w.frame
  item := fun i s Q hi st hQ => w.item i s _ _ hi st fun v h' tk h1 h2 h3 => ⟨v, rfl, plain_go (hp _ _ h2) (hQ v h' tk h1 h2 h3)⟩
  done := fun s Q st hQ => w.done s _ _ st hQ
  self := fun i s Q st hQ => w.self i s _ _ st hQ
theorem Wk.tuples {W : Wd} {A : Around} {elts : List Expr} {k : Nat} {pos : Pos} {I : Addr} {fp wr : List Addr} {N : Nat} {Pt : Nat → Array Value → Prop} {StI : Nat → Heap → Prop} {Mid : Nat → Addr → Heap → Prop} (w : WalksT W.prog W.w A I fp wr N Pt StI Mid) :
    Wk W A (.Tuple elts k pos) I fp wr N (fun i h h' v => ∃ T vals, v = .ref T ∧ h.get? T = none ∧ h'.IsTuple T vals ∧ Pt i vals) StI where
  sub := w.sub
  frame := w.frame
  item := fun i s Q hi st hQ => w.item i s _ _ hi st fun T vals h' tk h1 h2 h3 h4 h5 => ⟨.ref T, rfl, w.go elts k pos i T _ _ _ h4 fun h'' st'' k'' =>
    hQ (.ref T) h'' tk ⟨T, vals, rfl, Heap.get?_none_of_le h2, h3.at fun o e => k'' T o (w.apart _ _ _ h4) e, h1⟩ st'' fun b o hb e => k'' b o hb (h5 b o hb e)⟩
  done := fun s Q st hQ => w.done s _ _ st hQ
  self := fun i s Q st hQ => w.self i s _ _ st hQ
inductive WlkE (c : Cx) (st : Bool) (tgt : Expr) (N : Nat) (it : Nat → D) (s : Shared) (r : Value) (s2 : Shared) : Prop
  | mk (I : Addr) (fp wr : List Addr) (Pi : Nat → Heap → Heap → Value → Prop) (StI : Nat → Heap → Prop)
    (e : r = .ref I) (W : Wk c.W c.A tgt I fp wr N Pi StI) (hst : StI 0 s2.heap) (c6 : ∀ b ∈ fp, b < s2.heap.objs.size) (c1 : ∀ b ∈ wr, s.heap.get? b = none)
    (c2 : ∀ b ∈ fp, s.heap.get? b = none ∨ ∃ o, s.heap.get? b = some o ∧ SeqO o ∧ c.P b)
    (c3 : ∀ i h, StI i h → ∀ b ∈ wr, ∃ o, h.get? b = some o ∧ (st = true → ¬ SeqO o))
    (c5 : ∀ i v h h', i < N → Pi i h h' v → ∀ Pp : Addr → Prop, New Pp h → (∀ a o, c.P a → s2.heap.get? a = some o → SeqO o → a ∉ wr → Pp a ∧ h'.get? a = some o) → Rep Pp h' (it i) v) : WlkE c st tgt N it s r s2
structure EvI (c : Cx) (ρ κ : Loc) (st : Bool) (tgt e : Expr) (N : Nat) (it : Nat → D) : Prop where
  go : ∀ s, FrD c ρ κ s.heap → wpAny c.W.M c.A (eval e c.env) (fun v s1 => Kp s s1 ∧ wpAny c.W.M c.A (pyIter v) (fun r s2 => Kp s1 s2 ∧ WlkE c st tgt N it s r s2) NoE s1) NoE s

theorem evI_at {c : Cx} {ρ κ : Loc} {tgt e : Expr} {N : Nat} {it : Nat → D} (h : ∀ s, FrD c ρ κ s.heap → wpAny c.W.M c.A (eval e c.env) (fun v s1 => Kp s s1 ∧ ItrAt c s1 v N it) NoE s) (st : Bool) : EvI c ρ κ st tgt e N it := ⟨fun s F =>
  noE (h s F) fun v s1 ⟨k1, q⟩ => ⟨k1, noE q fun r s2 ⟨k2, I, fp, wr, Pi, StI, S, e, W, st, hS, c1, c6, c2, c3, c4, c5, c7⟩ => by
    refine ⟨k2, I, fp, wr, _, StI, e, Wk.plain W c7, st, c6, fun b hb => ?_, fun b hb => ?_, fun i h hst b hb => ?_, fun i v h h' hi hp Pp hn hk => (c5 i v s2.heap hi hp hS).mono fun a o pa ha hs => hk a o pa ha hs fun hw => ?_⟩
    · have := c1 b hb
      cases q : s.heap.get? b with
      | none => rfl
      | some o => rw [k1.stays b o q] at this; cases this
    · cases q : s.heap.get? b with
      | none => exact .inl rfl
      | some o =>
        have q1 := k1.stays b o q
        rcases c2 b hb with hw | ⟨o', ho', hs, hp⟩
        · rw [c1 b hw] at q1; cases q1
        · rw [q1] at ho'; cases ho'; exact .inr ⟨o, rfl, hs, hp⟩
    · obtain ⟨o, h1, h2⟩ := c3 i h hst b hb
      exact ⟨o, h1, fun _ => h2⟩
    · obtain ⟨o', h1, h2⟩ := c3 0 _ st a hw
      rw [ha] at h1; cases h1; exact h2 hs⟩⟩
theorem evI_of {c : Cx} {ρ κ : Loc} {tgt e : Expr} {src : D} {N : Nat} {it : Nat → D} (h : Ev c ρ κ e src) (hI : Itr c src N it) (st : Bool := true) : EvI c ρ κ st tgt e N it :=
  evI_at (fun s F => noE (h.go s F) fun v s1 ⟨k1, r1⟩ => ⟨k1, hI s1 v (F.on k1.stays).toSt r1⟩) st

section itr
variable {c : Cx} {n : Nat}
theorem getD_some {α : Type} {l : List α} {i : Nat} {a : α} (d : α) (h : l[i]? = some a) : l.getD i d = a := by
  rw [List.getD_eq_getElem?_getD, h]; rfl
noncomputable abbrev dNone : D := .val .none

theorem itr_list {ds : List D} (ok : c.Ok n) : Itr c (.list ds) ds.length (fun i => ds.getD i dNone) := fun s v x r => by
  obtain ⟨a, vs, rfl, pa, hl, rl⟩ := rep_list.mp r
  obtain ⟨oa, hoa, hca, na, hda⟩ := id hl
  have hlen : vs.size = ds.length := by rw [← rl.length]; simp
  have hlt : a < s.heap.objs.size := Heap.lt_size hoa
  refine wpAny_pyIter_list hl ⟨kp_heap s (stays_push _ _), s.heap.objs.size, [s.heap.objs.size, a], [s.heap.objs.size], fun i v => vs[i]? = some v, fun i h => h.IsListIter s.heap.objs.size a i ∧ h.IsList a vs, fun h => RepL c.P h ds vs.toList, rfl, ?_, ⟨⟨_, Heap.get?_push_size _ rfl, rfl, rfl⟩, ?_⟩, rl.keep (stays_push _ _), ?_, ?_, ?_, ?_, ?_, ?_, fun i h ⟨⟨o, ho, hc, hd⟩, _⟩ => ⟨o, _, ho, hc, rfl⟩⟩
  · have := Walks.list (prog := c.W.prog) (w := c.W.w) ok.rm.hd s.heap.objs.size a (Nat.ne_of_lt hlt) vs
    rw [hlen] at this; exact this
  · exact hl.at fun o e => Heap.get?_push_of_some _ e
  · intro b hb; rw [List.mem_singleton.mp hb]; exact Heap.get?_none_of_le (Nat.le_refl _)
  · intro b hb
    show b < (s.heap.push _).objs.size
    rw [Heap.size_push]
    rcases List.mem_cons.mp hb with rfl | hb
    · exact Nat.lt_succ_self _
    · rw [List.mem_singleton.mp hb]; exact Nat.lt_succ_of_lt hlt
  · intro b hb
    rcases List.mem_cons.mp hb with rfl | hb
    · exact .inl (.head _)
    · rw [List.mem_singleton.mp hb]; exact .inr ⟨oa, hoa, ⟨_, _, hda⟩, pa⟩
  · rintro i h ⟨⟨o, ho, hc, hd⟩, _⟩ b hb
    rw [List.mem_singleton.mp hb]
    exact ⟨o, ho, fun ⟨vs, n, q⟩ => by rw [q] at hd; cases hd⟩
  · exact fun h h' hr hk => hr.mono fun a o pa ha hs => ⟨pa, hk a o ha hs pa⟩
  · intro i v h hi hv hr
    obtain ⟨d, hd, q⟩ := hr.at' (i := i) (v := v) (by simpa using hv)
    show Rep c.P h (ds.getD i dNone) v
    rw [getD_some _ hd]; exact q
theorem itr_tup {ds : List D} (ok : c.Ok n) : Itr c (.tup ds) ds.length (fun i => ds.getD i dNone) := fun s v x r => by
  obtain ⟨a, vs, rfl, pa, hl, rl⟩ := rep_tup.mp r
  obtain ⟨oa, hoa, hca, na, hda⟩ := id hl
  have hlen : vs.size = ds.length := by rw [← rl.length]; simp
  have hlt : a < s.heap.objs.size := Heap.lt_size hoa
  refine wpAny_pyIter_tuple hl ⟨kp_heap s (stays_push _ _), s.heap.objs.size, [s.heap.objs.size, a], [s.heap.objs.size], fun i v => vs[i]? = some v, fun i h => h.IsTupleIter s.heap.objs.size a i ∧ h.IsTuple a vs, fun h => RepL c.P h ds vs.toList, rfl, ?_, ⟨⟨_, Heap.get?_push_size _ rfl, rfl, rfl⟩, ?_⟩, rl.keep (stays_push _ _), ?_, ?_, ?_, ?_, ?_, ?_, fun i h ⟨⟨o, ho, hc, hd⟩, _⟩ => ⟨o, _, ho, hc, rfl⟩⟩
  · have := Walks.tuple (prog := c.W.prog) (w := c.W.w) ok.rm.hd s.heap.objs.size a (Nat.ne_of_lt hlt) vs
    rw [hlen] at this; exact this
  · exact hl.at fun o e => Heap.get?_push_of_some _ e
  · intro b hb; rw [List.mem_singleton.mp hb]; exact Heap.get?_none_of_le (Nat.le_refl _)
  · intro b hb
    show b < (s.heap.push _).objs.size
    rw [Heap.size_push]
    rcases List.mem_cons.mp hb with rfl | hb
    · exact Nat.lt_succ_self _
    · rw [List.mem_singleton.mp hb]; exact Nat.lt_succ_of_lt hlt
  · intro b hb
    rcases List.mem_cons.mp hb with rfl | hb
    · exact .inl (.head _)
    · rw [List.mem_singleton.mp hb]; exact .inr ⟨oa, hoa, ⟨_, _, hda⟩, pa⟩
  · rintro i h ⟨⟨o, ho, hc, hd⟩, _⟩ b hb
    rw [List.mem_singleton.mp hb]
    exact ⟨o, ho, fun ⟨vs, n, q⟩ => by rw [q] at hd; cases hd⟩
  · exact fun h h' hr hk => hr.mono fun a o pa ha hs => ⟨pa, hk a o ha hs pa⟩
  · intro i v h hi hv hr
    obtain ⟨d, hd, q⟩ := hr.at' (i := i) (v := v) (by simpa using hv)
    show Rep c.P h (ds.getD i dNone) v
    rw [getD_some _ hd]; exact q
theorem itr_one {s : Shared} {v : Value} {N : Nat} {it : Nat → D} {o : Obj} {Pi : Nat → Value → Prop} {StI : Nat → Heap → Prop} {nm : String} (hp : wpAny c.W.M c.A (pyIter v) (fun r s' => r = .ref s.heap.objs.size ∧ s' = { s with heap := s.heap.push o }) NoE s)
    (W : Walks c.W.prog c.W.w c.A s.heap.objs.size [s.heap.objs.size] [s.heap.objs.size] N Pi StI) (st : StI 0 (s.heap.push o)) (hd : ∀ i h, StI i h → ∃ o, h.get? s.heap.objs.size = some o ∧ o.cls = .type nm ∧ ¬ SeqO o)
    (hn : owners.contains nm = false) (hit : ∀ i v h, i < N → Pi i v → Rep c.P h (it i) v) : ItrAt c s v N it := by
  refine noE hp fun r s' ⟨e1, e2⟩ => ?_
  subst e2
  refine ⟨kp_heap s (stays_push _ _), _, _, _, _, StI, fun _ => True, e1, W, st, trivial, ?_, ?_, ?_, ?_, fun _ _ _ _ => trivial, fun i v h hi hv _ => hit i v h hi hv, ?_⟩
  · intro b hb; rw [List.mem_singleton.mp hb]; exact Heap.get?_none_of_le (Nat.le_refl _)
  · intro b hb
    show b < (s.heap.push _).objs.size
    rw [Heap.size_push, List.mem_singleton.mp hb]
    exact Nat.lt_succ_self _
  · intro b hb; exact .inl hb
  · intro i h st b hb
    rw [List.mem_singleton.mp hb]
    obtain ⟨o, h1, h2, h3⟩ := hd i h st
    exact ⟨o, h1, h3⟩
  · intro i h st
    obtain ⟨o, h1, h2, h3⟩ := hd i h st
    exact ⟨o, nm, h1, h2, hn⟩
theorem sign_rep {l : List Nat} {P : Addr → Prop} {i : Nat} {v : Value} {h : Heap} (hv : SignAt (tx l) i v) : Rep P h (.str (tx [l.getD i 0])) v := by
  obtain ⟨k, u, h1, rfl⟩ := hv
  refine rep_str.mpr ⟨u, ?_⟩
  have : l[i]? = some k := by simpa [tx] using h1
  rw [getD_some _ this]; rfl
theorem itr_str {l : List Nat} (ok : c.Ok n) : Itr c (.str (tx l)) l.length (fun i => .str (tx [l.getD i 0])) := fun s v x r => by
  obtain ⟨t, rfl⟩ := rep_str.mp r
  have hl : (tx l).cps.size = l.length := by simp [tx]
  cases ha : (tx l).cps.all (· < 128) with
  | false =>
    have W := Walks.strWide (prog := c.W.prog) (w := c.W.w) ok.rm.hd s.heap.objs.size (tx l) t
    rw [hl] at W
    refine itr_one (nm := "str_iterator") (wpAny_pyIter_wide ha ⟨rfl, rfl⟩) W ⟨_, Heap.get?_push_size _ rfl, rfl, rfl⟩ (fun i h ⟨o, h1, h2, h3⟩ => ⟨o, h1, h2, fun ⟨vs, n, q⟩ => by rw [q] at h3; cases h3⟩) rfl fun i v h _ hv => sign_rep hv
  | true =>
    have W := Walks.strAscii (prog := c.W.prog) (w := c.W.w) ok.rm.hd s.heap.objs.size (tx l) t
    rw [hl] at W
    refine itr_one (nm := "str_ascii_iterator") (wpAny_pyIter_ascii ha ⟨rfl, rfl⟩) W ⟨_, Heap.get?_push_size _ rfl, rfl, rfl⟩ (fun i h ⟨o, h1, h2, h3⟩ => ⟨o, h1, h2, fun ⟨vs, n, q⟩ => by rw [q] at h3; cases h3⟩) rfl fun i v h _ hv => sign_rep hv
theorem range_small {n : Nat} (h : n ≤ 100000) : Builtin.Range.small 0 (n : Int) 1 = true := by
  unfold Builtin.Range.small Builtin.Range.rangeSize Builtin.Range.rangeFitsLong
  simp only [Bool.and_eq_true, Bool.or_eq_true, decide_eq_true_eq, beq_iff_eq]
  refine ⟨⟨⟨⟨⟨by decide, by decide⟩, ⟨by omega, by omega⟩⟩, ⟨by decide, by decide⟩⟩, ?_⟩, .inr ?_⟩
  · constructor <;> (split <;> (try split) <;> omega)
  · rw [if_pos (by decide)]; simp only [Bool.and_eq_true, decide_eq_true_eq]; omega
theorem range_size {n : Nat} : Builtin.Range.rangeSize 0 (n : Int) 1 = n := by
  unfold Builtin.Range.rangeSize; split <;> (try split) <;> omega
theorem evI_range {ρ κ : Loc} {tgt f e : Expr} {pos : Pos} {N : Nat} {st : Bool} (ok : c.Ok n) (hN : N ≤ 100000) (hf : Ev c ρ κ f (.val (.type "range"))) (he : EvL c ρ κ [e] [.int N])
    (hc : eval (.Call f [e] [] pos) c.env = (do callWith pos (← eval f c.env) [] (backTo pos (starEach [e] c.env)) (backToKw pos (keywordEach [] c.env))) := by rfl)
    (hp : ∃ x r, backTo pos (starEach [e] c.env) = (false, x) :: r := by exact ⟨_, _, rfl⟩) (hq : (backTo pos (starEach [e] c.env)).any (·.1) = false := by rfl) :
    EvI c ρ κ st tgt (.Call f [e] [] pos) N (fun i => .int i) := evI_at (st := st) fun s F => by
  rw [hc]
  refine wpAny_bind (noE (hf.go s F) fun v s1 ⟨k1, r1⟩ => ?_)
  obtain rfl := rep_val.mp r1
  refine callWith_of (P := fun h => St c h) (by show ((backTo pos (starEach [e] c.env)).any (·.1) || false) = false; rw [hq]; rfl) keeps_type ?_
  refine noE (evalArgs_D he (F.on k1.stays) hp) fun a s2 ⟨e, k2, r2⟩ => ⟨((F.on k1.stays).on k2.stays).toSt, ?_⟩
  rw [e]
  obtain ⟨v, r', e2, r3, r4⟩ := repL_cons.mp r2
  obtain rfl := repL_nil.mp r4
  obtain ⟨t, rfl⟩ := rep_int.mp r3
  rw [e2]
  show wpAny _ _ (call (.type "range") [.int (N : Int) t]) _ _ _
  refine call_range_1 ?_
  refine ⟨(k1.trans k2).trans (kp_both s2 (stays_push _ _)), ?_⟩
  have hr : IsRange (s2.heap.push { cls := .type "range", data := .fields #[.int 0 s2.toks, .int (N : Int) t, .int 1 (s2.toks + 1)] }) s2.heap.objs.size 0 (N : Int) 1 s2.toks t (s2.toks + 1) := Heap.get?_push_size _ rfl
  refine itr_one (wpAny_pyIter_range hr (range_small hN) ⟨rfl, rfl⟩) (Walks.range ok.rm.hd _ 0 1 N) ?_ (fun i h st => ⟨_, st, rfl, fun ⟨vs, n, q⟩ => by cases q⟩) rfl ?_
  · rw [range_size]
    show IsRangeIter _ _ (0 + ((0 : Nat) : Int) * 1) ((N : Int) - ((0 : Nat) : Int)) 1
    rw [show (0 + ((0 : Nat) : Int) * 1) = 0 by omega, show ((N : Int) - ((0 : Nat) : Int)) = (N : Int) by omega]
    exact Heap.get?_push_size _ rfl
  · rintro i v h _ ⟨t, rfl⟩
    exact rep_int.mpr ⟨t, by simp⟩
end itr

noncomputable def AsgT (c : Cx) (ρ κ : Loc) (t : Value → Sem Unit) (d : D) (ρ' κ' : Loc) (ws : List Addr) : Prop :=
  ∀ s v, FrD c ρ κ s.heap → Rep c.P s.heap d v → wpAny c.W.M c.A (t v) (fun _ s' => FrD c ρ' κ' s'.heap ∧ (∃ h tk, s' = { s with heap := h, toks := tk }) ∧ (∀ b o, b ∉ ws → s.heap.get? b = some o → s'.heap.get? b = some o)) NoE s
section asg
variable {c : Cx} {n : Nat} {ρ κ : Loc}
theorem asg_loc {x : Str} {px : Pos} {d : D} (ok : c.Ok n) (ow : OwnL c) (hk : c.env.kindOf x = some .local) : AsgT c ρ κ (assign (.Name x px) c.env) d ((x, d) :: ρ) κ [c.env.locals] := fun s v F r =>
  wpAny_assign_Name (store_loc ok ow F r hk fun h' tk F' hs => ⟨F', ⟨_, _, rfl⟩, fun b o hb e => hs.extBut b o (fun q => hb (by simp [q])) e⟩)
theorem asg_cell {x : Str} {px : Pos} {d : D} {a : Addr} (ok : c.Ok n) (ow : OwnC c) (hk : c.env.kindOf x = some .cell) (ha : c.env.cells.lookup x = some a) : AsgT c ρ κ (assign (.Name x px) c.env) d ρ ((x, d) :: κ) [a] := fun s v F r =>
  wpAny_assign_Name (store_cell ok ow F r hk ha fun h' F' hs => ⟨F', ⟨_, _, rfl⟩, fun b o hb e => hs.extBut b o (fun q => hb (by simp [q])) e⟩)
noncomputable def AsgL (c : Cx) (ρ κ : Loc) (ts : List (Value → Sem Unit)) (ds : List D) (ρ' κ' : Loc) (ws : List Addr) : Prop :=
  ∀ s vs, FrD c ρ κ s.heap → RepL c.P s.heap ds vs → wpAny c.W.M c.A (assignInOrder ts vs) (fun _ s' => FrD c ρ' κ' s'.heap ∧ (∃ h tk, s' = { s with heap := h, toks := tk }) ∧ (∀ b o, b ∉ ws → s.heap.get? b = some o → s'.heap.get? b = some o)) NoE s
theorem asgL_nil {ws : List Addr} : AsgL c ρ κ [] [] ρ κ ws := fun s vs F r => by
  obtain rfl := repL_nil.mp r
  exact wpAny_pure ⟨F, ⟨s.heap, s.toks, rfl⟩, fun _ _ _ e => e⟩
theorem asgL_cons {t : Value → Sem Unit} {ts : List (Value → Sem Unit)} {d : D} {ds : List D} {ρ₁ κ₁ ρ₂ κ₂ : Loc} {ws : List Addr} (h1 : AsgT c ρ κ t d ρ₁ κ₁ ws) (hw : ∀ h o b, FrD c ρ κ h → b ∈ ws → h.get? b = some o → ¬ SeqO o) (h2 : AsgL c ρ₁ κ₁ ts ds ρ₂ κ₂ ws) : AsgL c ρ κ (t :: ts) (d :: ds) ρ₂ κ₂ ws := fun s vs F r => by
  obtain ⟨v, r', rfl, r1, r2⟩ := repL_cons.mp r
  show wpAny _ _ (do holding r' (t v); assignInOrder ts r') _ _ s
  refine wpAny_bind (wpAny_holding (noE (h1 s v F r1) fun _ s1 ⟨F1, ⟨h, tk, e⟩, k1⟩ => ?_))
  subst e
  have r2' : RepL c.P h ds r' := r2.mono fun a o pa ha hs => ⟨pa, k1 a o (fun hm => hw _ o a F hm ha hs) ha⟩
  refine noE (h2 _ r' F1 r2') fun _ s2 ⟨F2, ⟨h', tk', e⟩, k2⟩ => ⟨F2, ⟨h', tk', e⟩, fun b o hb e => k2 b o hb (k1 b o hb e)⟩
theorem locals_not_seq {h : Heap} {o : Obj} {b : Addr} (F : FrD c ρ κ h) (hb : b ∈ [c.env.locals]) (e : h.get? b = some o) : ¬ SeqO o := by
  rw [List.mem_singleton.mp hb] at e
  obtain ⟨m, hn, _⟩ := F.loc
  exact ns_not_seq hn o e
theorem draw_itr {W : Wd} {A : Around} {I : Addr} {fp wr : List Addr} {N : Nat} {Pi : Nat → Value → Prop} {StI : Nat → Heap → Prop} (W' : Walks W.prog W.w A I fp wr N Pi StI) : ∀ (n i : Nat) (s : Shared) (Q : List Value → Shared → Prop), StI i s.heap → i + n ≤ N →
    (∀ vs h tk, vs.length = n → (∀ (j : Nat) (v : Value), vs[j]? = some v → Pi (i + j) v) → StI (i + n) h → (∀ b o, b ∉ wr → s.heap.get? b = some o → h.get? b = some o) → Q vs { s with heap := h, toks := tk }) → wpAny W.M A (draw (.ref I) n) Q NoE s
  | 0, i, s, Q, st, hn, hQ => by
    show wpAny _ _ (pure []) _ _ s
    exact wpAny_pure (hQ [] s.heap s.toks rfl (fun j v e => by simp at e) st fun _ _ _ e => e)
  | n + 1, i, s, Q, st, hn, hQ => by
    unfold draw
    refine wpAny_bind (W'.item i s _ _ (by omega) st fun v h1 tk1 hP st1 k1 => ?_)
    dsimp only
    refine wpAny_bind (wpAny_holding (draw_itr W' n (i + 1) _ _ st1 (by omega) fun vs h2 tk2 hl hv st2 k2 => wpAny_pure ?_))
    refine hQ (v :: vs) h2 tk2 (by simp [hl]) (fun j u e => ?_) (by rw [show i + (n + 1) = i + 1 + n by omega]; exact st2) fun b o hb e => k2 b o hb (k1 b o hb e)
    cases j with
    | zero => simp at e; subst e; exact hP
    | succ j => rw [show i + (j + 1) = i + 1 + j by omega]; exact hv j u (by simpa using e)
theorem repL_of_at {P : Addr → Prop} {h : Heap} : ∀ {ds : List D} {vs : List Value}, vs.length = ds.length → (∀ (j : Nat) (v : Value) (d : D), vs[j]? = some v → ds[j]? = some d → Rep P h d v) → RepL P h ds vs
  | [], vs, hl, _ => repL_nil.mpr (List.length_eq_zero_iff.mp hl)
  | d :: ds, [], hl, _ => by simp at hl
  | d :: ds, v :: vs, hl, hv => repL_cons.mpr ⟨v, vs, rfl, hv 0 v d rfl rfl, repL_of_at (by simpa using hl) fun j u e a b => hv (j + 1) u e (by simpa using a) (by simpa using b)⟩
theorem asg_tuple {elts : List Expr} {k : Nat} {px : Pos} {d : D} {ds : List D} {it : Nat → D} {T id : String} {ρ' κ' : Loc} {ws : List Addr} (hT : HasT c d T) (hs : Slot T "__iter__" id) (hI : Itr c d ds.length it) (hit : ∀ j, (hj : j < ds.length) → it j = ds[j])
    (hn : (assignEach elts c.env).length = ds.length) (hstar : (assignEach elts c.env).findIdx? (·.1) = none) (hL : AsgL c ρ κ ((assignEach elts c.env).map (·.2)) ds ρ' κ' ws) : AsgT c ρ κ (assign (.Tuple elts k px) c.env) d ρ' κ' ws := fun s v F r => by
  rw [arm_assign_Tuple]
  refine wpAny_bind (wpAny_standAt ?_)
  unfold unpack
  rw [hn, hstar]
  refine wpAny_bind (wpAny_holding ?_)
  unfold unpackItems
  refine wpAny_bind ?_
  unfold notIterableAtAll
  refine wpAny_bind (wpAny_specialOf (hT s v F.toSt r) hs.lookup (wpAny_pure ?_))
  simp only [Bool.false_eq_true, if_false]
  refine wpAny_bind (wpAny_holding (noE (hI s v F.toSt r) fun itv s2 ⟨k2, I, fp, wr, Pi, StI, S, e, W, st, hS, c1, c6, c2, c3, c4, c5, c7⟩ => ?_))
  subst e
  refine wpAny_bind (wpAny_holding (draw_itr W ds.length 0 s2 _ st (by omega) fun vs h1 tk1 hl hv st1 k1 => ?_))
  rw [if_neg (by omega)]
  rw [Nat.zero_add] at st1
  refine wpAny_bind (wpAny_holding (W.done _ _ _ st1 fun h2 tk2 k3 => ?_))
  simp only [Option.isSome_none, Bool.false_eq_true, if_false]
  have rl : RepL c.P s2.heap ds vs := repL_of_at hl fun j u d' e1 e2 => by
    have hj : j < ds.length := by
      rcases Nat.lt_or_ge j ds.length with q | q
      · exact q
      · rw [List.getElem?_eq_none q] at e2; cases e2
    have := c5 j u s2.heap hj (by have := hv j u e1; rwa [Nat.zero_add] at this) hS
    rw [hit j hj] at this
    rw [List.getElem?_eq_getElem hj] at e2; cases e2
    exact this
  have w1 : ∀ b o, s.heap.get? b = some o → b ∉ wr := fun b o e hb => by rw [c1 b hb] at e; cases e
  have kk : Stays s.heap h2 := fun b o e => k3 b o (w1 b o e) (k1 b o (w1 b o e) (k2.stays b o e))
  have rl2 : RepL c.P h2 ds vs := rl.mono fun a o pa ha hsq => by
    have hw : a ∉ wr := fun hw => by obtain ⟨o', ho', hn'⟩ := c3 _ _ st a hw; rw [ha] at ho'; cases ho'; exact hn' hsq
    exact ⟨pa, k3 a o hw (k1 a o hw ha)⟩
  refine wpAny_pure (noE (hL _ vs (F.on kk) rl2) fun _ s3 ⟨F3, ⟨h3, tk3, e3⟩, k4⟩ => ⟨F3, ?_, fun b o hb e => k4 b o hb (kk b o e)⟩)
  obtain ⟨a1, a2, e1, _⟩ := k2
  subst e1; subst e3
  exact ⟨_, _, rfl⟩
end asg

section
variable {prog : Program} {w : World} {A : Around} {E : Value → Shared → Prop} {R : Result → Shared → Prop} {s : Shared}
theorem compLoop_own {elt target iter : Expr} {ifs : List Expr} {scope : Scope} {pos : Pos} {it acc : Value} {env : Env} (I : Nat → Shared → Prop)
    (turn : ∀ n s, I n s → wpAny (model prog w) A (pyNext it) (fun r s₁ => match r with
      | none => R (.ok .next) s₁
      | some v => wpAny (model prog w) A (letOwnedTupleGo target it v) (fun _ s₁' => wpAny (model prog w) A (assign target env v) (fun _ s₂ =>
          wpAny (model prog w) A (forIn ifs true fun c r => if r = true then do let ok ← isTrue c env (eval c env); pure (ForInStep.yield ok) else pure (ForInStep.yield r)) (fun ok s₃ =>
            if ok = true then wpAny (model prog w) A (eval elt env) (fun x s₄ =>
              wpAny (model prog w) A (call (.builtin "list.append") [acc, x]) (fun _ s₅ => ∃ m, m < n ∧ I m s₅) NoE s₄) NoE s₃
            else ∃ m, m < n ∧ I m s₃) NoE s₂) NoE s₁') NoE s₁) NoE s)
    (n : Nat) (h : I n s) :
    codeAny (model prog w) A (.compLoop (.ListComp elt [⟨target, iter, ifs, 0⟩] scope pos) 0 it acc env) R s := by
  refine codeAny_loop rfl I (fun n s hI => ?_) n h
  show wpAny _ A ((compTurn (.ListComp elt [⟨target, iter, ifs, 0⟩] scope pos) 0 it acc env).onRaise (fun x => do noteFrame x env; theTreesLotGoes x)) _ _ s
  refine wpAny_noted ?_
  rw [compTurn_list]
  refine wpAny_bind (wpAny_standAt (wpAny_bind (noE (turn n s hI) (fun r s₁ h₁ => ?_))))
  cases r with
  | none => exact wpAny_pure h₁
  | some v =>
    refine wpAny_bind (noE h₁ fun _ s₁' h₁' => ?_)
    refine wpAny_bind (noE h₁' (fun _ s₂ h₂ => wpAny_bind (noE h₂ (fun ok s₃ h₃ => ?_))))
    cases ok with
    | false => exact wpAny_pure ⟨rfl, h₃⟩
    | true =>
      exact wpAny_bind (wpAny_bind (noE h₃ (fun x s₄ h₄ => wpAny_bind (noE h₄ (fun _ s₅ h₅ => wpAny_pure (wpAny_pure ⟨rfl, h₅⟩))))))
end

noncomputable def Cx.comp (c : Cx) (scope : Scope) (cl : List (Str × Addr)) (C : Addr) (P' : Addr → Prop) : Cx := { c with env := compEnvC scope cl C c.env, P := P' }
theorem comp_ok {c : Cx} {n : Nat} {scope : Scope} {cl : List (Str × Addr)} {C : Addr} {P' : Addr → Prop} (ok : c.Ok n) (hk : scope.kind = .function) : (c.comp scope cl C P').Ok n :=
  ⟨ok.gd, ok.rm, hk, ok.glob, ok.blt⟩

structure EvIfs (c : Cx) (ρ κ : Loc) (ifs : List Expr) (b : Bool) : Prop where
  go : ∀ s, FrD c ρ κ s.heap → wpAny c.W.M c.A (forIn ifs true fun t r => if r = true then do let ok ← isTrue t c.env (eval t c.env); pure (ForInStep.yield ok) else pure (ForInStep.yield r)) (Says s b) NoE s

theorem evIfs_nil {c : Cx} {ρ κ : Loc} : EvIfs c ρ κ [] true := ⟨fun s F => by rw [List.forIn_nil]; exact wpAny_pure ⟨kp_refl s, rfl⟩⟩
theorem evIfs_one {c : Cx} {ρ κ : Loc} {t : Expr} {b : Bool} (h : EvB c ρ κ t b) : EvIfs c ρ κ [t] b := ⟨fun s F => by
  rw [List.forIn_cons]
  simp only [if_true]
  refine wpAny_bind (wpAny_bind (noE (h.go s F) fun r s1 q => wpAny_pure ?_))
  dsimp only
  rw [List.forIn_nil]
  exact wpAny_pure q⟩

theorem turn_lt {N j : Nat} (h : j < N) : N + 1 - (j + 1) < N + 1 - j := by omega
inductive CompI (D C : Addr) (s2 : Shared) (StI : Nat → Heap → Prop) (wr : List Addr) (N : Nat) (P' : Addr → Prop) (p : Nat → Bool) (g : Nat → Mine.D) (k : Nat) (s' : Shared) : Prop
  | mk (h' : Heap) (tk : Nat) (m' : Str → Option Value) (ys : Array Value) (j : Nat) (e : s' = { s2 with heap := h', toks := tk }) (hst : StI j h') (hp : h'.PlainList D ys) (hn : h'.Ns C m')
    (hR : RepL P' h' (((List.range j).filter p).map g) ys.toList) (hj : j ≤ N) (hk : k = N + 1 - j) (keep : ∀ b o, b ≠ C → b ∉ wr → b ≠ D → s2.heap.get? b = some o → h'.get? b = some o) (nw : New P' h') : CompI D C s2 StI wr N P' p g k s'
theorem comp_core {st : Bool} {c : Cx} {n : Nat} {ρ κ κ' : Loc} {N : Nat} {it : Nat → D} {target : Expr} {pos : Pos} {ρi : Nat → Loc} {elt iter : Expr} {ifs : List Expr} {scope : Scope} {cl : List (Str × Addr)} {p : Nat → Bool} {g : Nat → D} {use : Option (Value → Sem Unit)} {Q : Value → Shared → Prop} {s : Shared}
    (ok : c.Ok n) (hI : EvI c ρ κ st target iter N it) (hN : N ≤ 100000)
    (hclos : closureFor scope c.env = pure cl) (hcell : ∀ y ∈ scope.names, y.2 ≠ .cell) (hkind : scope.kind = .function) (hnames : ∀ y ∈ scope.names, y.2 = .local → scope.names.lookup y.1 = some .local)
    (hs : ∀ x, foldedSetIterable iter c.env x = pure x)
    (hsub : ∀ y a, cl.lookup y = some a → c.env.cells.lookup y = some a) (hκ : ∀ y d, κ'.lookup y = some d → κ.lookup y = some d)
    (hasg : ∀ C P' i, i < N → (c.comp scope cl C P').Ok n → OwnL (c.comp scope cl C P') → AsgT (c.comp scope cl C P') [] κ' (assign target (c.comp scope cl C P').env) (it i) (ρi i) κ' [C])
    (htest : ∀ C P' i, i < N → (c.comp scope cl C P').Ok n → EvIfs (c.comp scope cl C P') (ρi i) κ' ifs (p i))
    (helt : ∀ C P' i, i < N → p i = true → (c.comp scope cl C P').Ok n → Ev (c.comp scope cl C P') (ρi i) κ' elt (g i))
    (F : FrD c ρ κ s.heap)
    (hQ : ∀ D C h' tk m', s.heap.get? C = none → s.heap.get? D = none → D ≠ C → Stays s.heap h' → New c.P h' → h'.Ns C m' → Rep c.P h' (.list (((List.range N).filter p).map g)) (.ref D) →
      compPost c.W.M c.A NoE use Q (.ref D) C (.ok .next) { s with heap := h', toks := tk }) :
    wpAny c.W.M c.A (comprehension (.ListComp elt [⟨target, iter, ifs, 0⟩] scope pos) scope c.env (firstIterPos [⟨target, iter, ifs, 0⟩] pos) (newList []) false (eval iter c.env) use) Q NoE s := by
  refine wpAny_comprehension_free rfl hs hclos hkind hnames (noE (hI.go s F) fun xv s1 ⟨k1, q1⟩ => noE q1 fun itv s2 ⟨k2, I, fp, wr, Pi, StI, e, W, hst₀, c6, c1, c2, c3, c5⟩ => ?_)
  subst e
  have kk := k1.trans k2
  have F2 := F.on kk.stays
  refine wpAny_newObj_type (wpAny_newFunctionEnv hcell (by intro y hy; simp at hy) (fun h₁ hns₁ hsb₁ => ?_) hkind)
  dsimp only at hns₁ hsb₁ ⊢
  generalize hH2 : s2.heap.push { cls := .type "list", dict := none, data := .seq ([] : List Value).toArray } = H2 at hns₁ hsb₁ ⊢
  have hC : H2.objs.size = s2.heap.objs.size + 1 := by rw [← hH2, Heap.size_push]
  have hDC : s2.heap.objs.size ≠ H2.objs.size := by rw [hC]; exact Nat.ne_of_lt (Nat.lt_succ_self _)
  have below : ∀ b, b < s2.heap.objs.size → b ≠ H2.objs.size ∧ b ≠ s2.heap.objs.size := fun b hb => ⟨by rw [hC]; exact Nat.ne_of_lt (Nat.lt_succ_of_lt hb), Nat.ne_of_lt hb⟩
  have old : ∀ b o, s2.heap.get? b = some o → h₁.get? b = some o := fun b o e => hsb₁.extBut b o (below b (Heap.lt_size e)).1 (Heap.get?_push_of_some _ (hH2 ▸ Heap.get?_push_of_some _ e))
  have hacc : h₁.PlainList s2.heap.objs.size #[] := ⟨_, hsb₁.extBut _ _ hDC (Heap.get?_push_of_some _ (hH2 ▸ Heap.get?_push_size _ rfl))⟩
  have hDf : s2.heap.objs.size ∉ fp := fun hm => Nat.lt_irrefl _ (c6 _ hm)
  have hCf : H2.objs.size ∉ fp := fun hm => by have := c6 _ hm; rw [hC] at this; exact Nat.not_succ_lt_self this
  have hst₁ : StI 0 h₁ := W.frame _ _ _ hst₀ fun b _ o e => old b o e
  generalize hDn : s2.heap.objs.size = D at *
  generalize hCn : H2.objs.size = C at *
  have hwD : ∀ b ∈ wr, b ≠ D := fun b hb e => hDf (e ▸ W.sub _ hb)
  have hwC : ∀ b ∈ wr, b ≠ C := fun b hb e => hCf (e ▸ W.sub _ hb)
  have hwP : ∀ b ∈ wr, c.P b := fun b hb => F.new b (c1 b hb)
  -- what stood before the walk stands
  have w1 : ∀ b o, s.heap.get? b = some o → b ∉ wr := fun b o e hb => by rw [c1 b hb] at e; cases e
  have sD : ∀ b o, s2.heap.get? b = some o → b ≠ C ∧ b ≠ D := fun b o e => below b (by have := Heap.lt_size e; rw [hDn] at this; exact this)
  let P' : Addr → Prop := fun a => c.P a ∧ a ≠ D ∧ a ∉ wr
  have nsC : ∀ {h : Heap} {m : Str → Option Value}, h.Ns C m → ∀ o, h.get? C = some o → ¬ SeqO o := fun hn => ns_not_seq hn
  let R := compPost c.W.M c.A NoE use Q (.ref D) C
  have loop : ∀ s3 : Shared, s3 = { s2 with heap := h₁, toks := s2.toks + ([] : List (Str × Value)).length } →
      codeAny c.W.M c.A (.compLoop (.ListComp elt [⟨target, iter, ifs, 0⟩] scope pos) 0 (.ref I) (.ref D) (compEnvC scope cl C c.env)) R s3 := by
    rintro s3 rfl
    refine compLoop_own (fun k s' => CompI D C s2 StI wr N P' p g k s') ?_ (N + 1)
      ⟨h₁, _, _, #[], 0, rfl, hst₁, hacc, hns₁, repL_nil.mpr rfl, Nat.zero_le _, rfl, fun b o _ _ _ e => old b o e, fun a e => ?_⟩
    rotate_left
    · -- new
      have : s2.heap.get? a = none := by
        cases q : s2.heap.get? a with
        | none => rfl
        | some o => rw [old a o q] at e; cases e
      refine ⟨F2.new a this, ?_, fun hw => ?_⟩
      · rintro rfl
        obtain ⟨n', hp⟩ := hacc
        rw [hp] at e; cases e
      · obtain ⟨o, ho, _⟩ := c3 _ _ hst₁ a hw
        rw [e] at ho; cases ho
    rintro k s' ⟨H, tk, m', ys, j, rfl, hst', hacc', hn', hR', hj, rfl, hk, hnew⟩
    by_cases hlt : j < N
    · refine noE (W.item j _ (fun v s1' => wpAny c.W.M c.A (assign target (compEnvC scope cl C c.env) v) (fun _ s₂ =>
          wpAny c.W.M c.A (forIn ifs true fun t r => if r = true then do let ok ← isTrue t (compEnvC scope cl C c.env) (eval t (compEnvC scope cl C c.env)); pure (ForInStep.yield ok) else pure (ForInStep.yield r)) (fun ok s₃ =>
            if ok = true then wpAny c.W.M c.A (eval elt (compEnvC scope cl C c.env)) (fun x s₄ =>
              wpAny c.W.M c.A (call (.builtin "list.append") [.ref D, x]) (fun _ s₅ => ∃ m, m < N + 1 - j ∧ CompI D C s2 StI wr N P' p g m s₅) NoE s₄) NoE s₃
            else ∃ m, m < N + 1 - j ∧ CompI D C s2 StI wr N P' p g m s₃) NoE s₂) NoE s1') hlt hst' fun v h1 tk1 hPv hst1 hk1 => ?_) fun r s1' ⟨v, e, q⟩ => by subst e; exact q
      -- after next
      have hR1 : RepL P' h1 (((List.range j).filter p).map g) ys.toList := hR'.mono fun a o pa ha hs => ⟨pa, hk1 a o pa.2.2 ha⟩
      have hn1 : h1.Ns C m' := hn'.at' fun o e => hk1 _ o (fun hw => hwC _ hw rfl) e
      have hacc1 : h1.PlainList D ys := hacc'.at fun o e => hk1 _ o (fun hw => hwD _ hw rfl) e
      have hnew1 : New P' h1 := fun a e => by
        by_cases hw : a ∈ wr
        · obtain ⟨o, ho, _⟩ := c3 _ _ hst1 a hw
          rw [e] at ho; cases ho
        · refine hnew a ?_
          cases q : H.get? a with
          | none => rfl
          | some o => rw [hk1 a o hw q] at e; cases e
      have up1 : ∀ b o, b ≠ C → b ∉ wr → b ≠ D → s2.heap.get? b = some o → h1.get? b = some o := fun b o h1' h2' h3' e => hk1 b o h2' (hk b o h1' h2' h3' e)
      have okc : (c.comp scope cl C P').Ok n := comp_ok ok hkind
      have owc : OwnL (c.comp scope cl C P') := by
        show c.h₀.get? C = none
        cases q : c.h₀.get? C with
        | none => rfl
        | some o => exact absurd rfl (sD C o (kk.stays C o (F.keep C o q))).1
      have lowD1 : ∀ a o, s.heap.get? a = some o → SeqO o → c.P a → P' a ∧ h1.get? a = some o := fun a o ha hs pa =>
        have ha2 := kk.stays a o ha
        ⟨⟨pa, (sD a o ha2).2, w1 a o ha⟩, up1 a o (sD a o ha2).1 (w1 a o ha) (sD a o ha2).2 ha2⟩
      have hrep : Rep P' h1 (it j) v := c5 j v H h1 hlt hPv P' hnew fun a o pa ha hs hw => ⟨⟨pa, (sD a o ha).2, hw⟩, up1 a o (sD a o ha).1 hw (sD a o ha).2 ha⟩
      have F0 : FrD (c.comp scope cl C P') [] κ' h1 := by
        refine ⟨⟨fun b o e => ?_, hnew1⟩, ⟨_, hn1, fun y d e => by cases e⟩, fun y a e => ?_⟩
        · have e1 := F.keep b o e
          have e2 := kk.stays b o e1
          exact up1 b o (sD b o e2).1 (w1 b o e1) (sD b o e2).2 e2
        · obtain ⟨o, vo, p1, p2, p3⟩ := F.cel y a (hsub y a e)
          have e2 := kk.stays a o p1
          refine ⟨o, vo, up1 a o (sD a o e2).1 (w1 a o p1) (sD a o e2).2 e2, p2, fun d e' => ?_⟩
          obtain ⟨u, q1, q2⟩ := p3 d (hκ y d e')
          exact ⟨u, q1, q2.mono fun a o pa ha hs => lowD1 a o ha hs pa⟩
      refine noE (hasg C P' j hlt okc owc _ v F0 hrep) fun _ s2' ⟨F', ⟨h2, tk2, e2'⟩, kc⟩ => ?_
      subst e2'
      replace F' : FrD (c.comp scope cl C P') (ρi j) κ' h2 := F'
      have ext2 : ∀ b o, b ≠ C → h1.get? b = some o → h2.get? b = some o := fun b o hb e => kc b o (fun hm => hb (List.mem_singleton.mp hm)) e
      obtain ⟨m2, hn2, _⟩ := id F'.loc
      replace hn2 : h2.Ns C m2 := hn2
      have up2 : ∀ b o, b ≠ C → b ∉ wr → b ≠ D → s2.heap.get? b = some o → h2.get? b = some o := fun b o h1' h2' h3' e => ext2 b o h1' (up1 b o h1' h2' h3' e)
      have sq2 : ∀ a o, h1.get? a = some o → SeqO o → h2.get? a = some o := fun a o ha hs => ext2 a o (fun e => nsC hn1 o (e ▸ ha) hs) ha
      have hR2 : RepL P' h2 (((List.range j).filter p).map g) ys.toList := hR1.mono fun a o pa ha hs => ⟨pa, sq2 a o ha hs⟩
      have hst2 : StI (j + 1) h2 := W.frame _ _ _ hst1 fun b hb o e => ext2 b o (fun h => hCf (h ▸ hb)) e
      have hacc2 : h2.PlainList D ys := hacc1.at fun o e => ext2 _ o hDC e
      have hnew2 : New P' h2 := F'.new
      refine noE ((htest C P' j hlt okc).go _ F') fun r s3 ⟨k3, e3⟩ => ?_
      subst e3
      obtain ⟨h3, tk3, rfl, hk3⟩ := k3
      have F3 := F'.on hk3
      cases hp : p j with
      | false =>
        simp only [Bool.false_eq_true, if_false]
        refine ⟨N + 1 - (j + 1), turn_lt hlt, h3, tk3, _, ys, j + 1, rfl, W.frame _ _ _ hst2 fun b _ o e => hk3 b o e, hacc2.at fun o e => hk3 _ o e, hn2.keeps hk3, ?_, hlt, rfl, fun b o a1 a2 a3 e => hk3 b o (up2 b o a1 a2 a3 e), hnew2.keep hk3⟩
        rw [List.range_succ, List.filter_append]
        simpa [hp] using hR2.keep hk3
      | true =>
        simp only [if_true]
        refine noE ((helt C P' j hlt hp okc).go _ F3) fun y s4 ⟨k4, r4⟩ => ?_
        obtain ⟨h4, tk4, rfl, hk4⟩ := k4
        have hsz : ys.size ≤ sizeLine := by
          have e1 := hR2.length
          have e2 : ((List.range j).filter p).length ≤ (List.range j).length := List.length_filter_le _ _
          rw [List.length_map] at e1
          rw [List.length_range] at e2
          have e4 : ys.toList.length = ys.size := by simp
          exact sizeLine_ge (by omega)
        have hacc4 : h4.PlainList D ys := (hacc2.at fun o e => hk3 _ o e).at fun o e => hk4 _ o e
        refine wpAny_list_append_plain (hsz := hsz) hacc4 fun h5 hl5 hs5 => ?_
        have ext5 := hs5.extBut
        have hR4 := (hR2.keep hk3).keep hk4
        refine ⟨N + 1 - (j + 1), turn_lt hlt, h5, tk4, _, ys.push y, j + 1, rfl, ?_, hl5, ((hn2.keeps hk3).keeps hk4).sameBut hs5 (Ne.symm hDC), ?_, hlt, rfl, fun b o a1 a2 a3 e => ext5 b o a3 (hk4 b o (hk3 b o (up2 b o a1 a2 a3 e))), fun a e => ?_⟩
        · exact W.frame _ _ _ hst2 fun b hb o e => ext5 b o (fun h => hDf (h ▸ hb)) (hk4 b o (hk3 b o e))
        · rw [List.range_succ, List.filter_append, List.map_append]
          have : (List.filter p [j]).map g = [g j] := by simp [hp]
          rw [this, Array.toList_push]
          refine RepL.snoc (hR4.mono fun a o pa ha _ => ⟨pa, ext5 a o pa.2.1 ha⟩) (r4.mono fun a o pa ha _ => ⟨pa, ext5 a o pa.2.1 ha⟩)
        · by_cases q : a = D
          · subst q
            obtain ⟨n', hp'⟩ := hl5
            rw [hp'] at e; cases e
          · exact ((hnew2.keep hk3).keep hk4) a (by rw [← hs5.2 a q]; exact e)
    · have hjN : j = N := Nat.le_antisymm hj (Nat.le_of_not_lt hlt)
      subst hjN
      refine W.done _ _ hst' fun h1 tk1 hk1 => ?_
      have hacc1 : h1.PlainList D ys := hacc'.at fun o e => hk1 _ o (fun hw => hwD _ hw rfl) e
      have hn1 : h1.Ns C m' := hn'.at' fun o e => hk1 _ o (fun hw => hwC _ hw rfl) e
      have eS : ∃ h tk, s2 = { s with heap := h, toks := tk } := by
        obtain ⟨a1, a2, e1, _⟩ := kk
        subst e1; exact ⟨_, _, rfl⟩
      obtain ⟨ha, ta, eS⟩ := eS
      have fin := hQ D C h1 tk1 m' ?_ ?_ hDC ?_ ?_ hn1 ?_
      · rw [eS]; exact fin
      · cases q : s.heap.get? C with
        | none => rfl
        | some o => exact absurd rfl (sD C o (kk.stays C o q)).1
      · cases q : s.heap.get? D with
        | none => rfl
        | some o => exact absurd rfl (sD D o (kk.stays D o q)).2
      · intro b o e
        have e2 := kk.stays b o e
        exact hk1 b o (w1 b o e) (hk b o (sD b o e2).1 (w1 b o e) (sD b o e2).2 e2)
      · intro a e
        by_cases hw : a ∈ wr
        · exact hwP a hw
        · refine (hnew a ?_).1
          cases q : H.get? a with
          | none => rfl
          | some o => rw [hk1 a o hw q] at e; cases e
      · refine rep_list.mpr ⟨D, ys, rfl, ?_, hacc1.isList, hR'.mono fun a o pa ha hs => ⟨pa.1, hk1 a o pa.2.2 ha⟩⟩
        exact F2.new D (by
          cases q : s2.heap.get? D with
          | none => rfl
          | some o => exact absurd rfl (sD D o q).2)
  refine codeAny_compStart_list (loop _ rfl) (noE (Q := fun it' s' => it' = .ref I ∧ s' = _) (W.self 0 _ _ hst₁ ⟨rfl, rfl⟩) fun it' s' ⟨e1, e2⟩ => ?_)
  subst e1; subst e2
  exact loop _ rfl

theorem FrD.at_ {c : Cx} {ρ κ : Loc} {h h' : Heap} {C : Addr} {m : Str → Option Value} (x : FrD c ρ κ h) (hs : Heap.SameBut C h h') (hn : h.Ns C m) (h1 : C ≠ c.env.locals) (h2 : c.h₀.get? C = none) (h3 : c.P C) : FrD c ρ κ h' := by
  have hL := ns_not_seq hn
  have ext := hs.extBut
  refine ⟨⟨fun b o e => ext b o (fun q => by rw [q, h2] at e; cases e) (x.keep b o e), fun a e => ?_⟩, ?_, fun y a e => ?_⟩
  · by_cases q : a = C
    · rw [q]; exact h3
    · exact x.new a (by rw [← hs.2 a q]; exact e)
  · obtain ⟨mm, hn', hm⟩ := x.loc
    exact ⟨mm, hn'.sameBut hs (Ne.symm h1), fun y d e => let ⟨v, p, q⟩ := hm y d e; ⟨v, p, q.same ext hL⟩⟩
  · obtain ⟨o, vo, p1, p2, p3⟩ := x.cel y a e
    refine ⟨o, vo, ext a o (fun q => ?_) p1, p2, fun d e' => let ⟨v, p, q⟩ := p3 d e'; ⟨v, p, q.same ext hL⟩⟩
    subst q
    obtain ⟨o', _, _, ho, hd, _⟩ := hn
    rw [p1] at ho; cases ho; rw [p2] at hd; cases hd

section comps
variable {c : Cx} {n : Nat} {ρ κ : Loc}
theorem ev_comp {st : Bool} {κ' : Loc} {N : Nat} {it : Nat → D} {target : Expr} {pos : Pos} {ρi : Nat → Loc} {elt iter : Expr} {ifs : List Expr} {scope : Scope} {cl : List (Str × Addr)} {p : Nat → Bool} {g : Nat → D}
    (ok : c.Ok n) (hI : EvI c ρ κ st target iter N it) (hN : N ≤ 100000)
    (hclos : closureFor scope c.env = pure cl) (hcell : ∀ y ∈ scope.names, y.2 ≠ .cell) (hkind : scope.kind = .function) (hnames : ∀ y ∈ scope.names, y.2 = .local → scope.names.lookup y.1 = some .local)
    (hs : ∀ x, foldedSetIterable iter c.env x = pure x)
    (hsub : ∀ y a, cl.lookup y = some a → c.env.cells.lookup y = some a) (hκ : ∀ y d, κ'.lookup y = some d → κ.lookup y = some d)
    (hasg : ∀ C P' i, i < N → (c.comp scope cl C P').Ok n → OwnL (c.comp scope cl C P') → AsgT (c.comp scope cl C P') [] κ' (assign target (c.comp scope cl C P').env) (it i) (ρi i) κ' [C])
    (htest : ∀ C P' i, i < N → (c.comp scope cl C P').Ok n → EvIfs (c.comp scope cl C P') (ρi i) κ' ifs (p i))
    (helt : ∀ C P' i, i < N → p i = true → (c.comp scope cl C P').Ok n → Ev (c.comp scope cl C P') (ρi i) κ' elt (g i)) :
    Ev c ρ κ (.ListComp elt [⟨target, iter, ifs, 0⟩] scope pos) (.list (((List.range N).filter p).map g)) := ⟨fun s F => by
  rw [eval_ListComp]
  refine comp_core (use := none) ok hI hN hclos hcell hkind hnames hs hsub hκ hasg htest helt F fun D C h' tk m' hC hD hDC hk hnew hn r => ⟨m', hn, fun h'' hs'' => ⟨kp_both s fun b o e => hs''.extBut b o (fun q => by rw [q, hC] at e; cases e) (hk b o e), r.same hs''.extBut (ns_not_seq hn)⟩⟩⟩

theorem x_asgComp {st : Bool} {κ' : Loc} {N : Nat} {it : Nat → D} {target : Expr} {y : Str} {py pos spos : Pos} {ρi : Nat → Loc} {elt iter : Expr} {ifs : List Expr} {scope : Scope} {cl : List (Str × Addr)} {p : Nat → Bool} {g : Nat → D} {rest : List Stmt} {Q : Flow → Shared → Prop}
    (ok : c.Ok n) (ow : OwnL c) (hk : c.env.kindOf y = some .local) (hI : EvI c ρ κ st target iter N it) (hN : N ≤ 100000)
    (hclos : closureFor scope c.env = pure cl) (hcell : ∀ y ∈ scope.names, y.2 ≠ .cell) (hkind : scope.kind = .function) (hnames : ∀ y ∈ scope.names, y.2 = .local → scope.names.lookup y.1 = some .local)
    (hs : ∀ x, foldedSetIterable iter c.env x = pure x)
    (hsub : ∀ y a, cl.lookup y = some a → c.env.cells.lookup y = some a) (hκ : ∀ y d, κ'.lookup y = some d → κ.lookup y = some d)
    (hsw : swapsWith (.ListComp elt [⟨target, iter, ifs, 0⟩] scope pos) (some (.Name y py)) spos.line c.env = pure true)
    (hasg : ∀ C P' i, i < N → (c.comp scope cl C P').Ok n → OwnL (c.comp scope cl C P') → AsgT (c.comp scope cl C P') [] κ' (assign target (c.comp scope cl C P').env) (it i) (ρi i) κ' [C])
    (htest : ∀ C P' i, i < N → (c.comp scope cl C P').Ok n → EvIfs (c.comp scope cl C P') (ρi i) κ' ifs (p i))
    (helt : ∀ C P' i, i < N → p i = true → (c.comp scope cl C P').Ok n → Ev (c.comp scope cl C P') (ρi i) κ' elt (g i))
    (h : Xs c ((y, .list (((List.range N).filter p).map g)) :: ρ) κ rest Q) :
    Xs c ρ κ (.Assign [.Name y py] (.ListComp elt [⟨target, iter, ifs, 0⟩] scope pos) spos :: rest) Q := ⟨fun s F b => by
  refine wpAny_execs_cons ?_
  rw [exec_Assign_Name_used _ _ _ _ hsw]
  refine wpAny_bind (wpAny_standAt (wpAny_bind ?_))
  show wpAny _ _ (do let _ ← comprehension (.ListComp elt [⟨target, iter, ifs, 0⟩] scope pos) scope c.env _ (newList []) false (eval iter c.env) (some (assign (.Name y py) c.env))) _ _ s
  refine wpAny_bind (noE (comp_core (use := some (assign (.Name y py) c.env)) (Q := fun _ s' => wpAny c.W.M c.A (execs rest c.env) Q NoE s') ok hI hN hclos hcell hkind hnames hs hsub hκ hasg htest helt F fun D C h' tk m' hC hD hDC hk' hnew hn r => ?_) fun _ s' q => wpAny_pure (wpAny_pure q))
  show wpAny _ _ (assign (.Name y py) c.env (.ref D)) _ _ _
  have F' := F.on hk'
  have hLC : C ≠ c.env.locals := by
    rintro rfl
    obtain ⟨mm, ⟨o, _, _, ho, _⟩, _⟩ := F.loc
    rw [hC] at ho; cases ho
  refine wpAny_assign_Name (store_loc ok ow F' r hk fun h2 tk2 F2 hs2 => ⟨m', hn.sameBut hs2 hLC, fun h3 hs3 => ?_⟩)
  refine h.go _ (F2.at_ hs3 (hn.sameBut hs2 hLC) hLC ?_ (F.new C hC)) ((b.set _ _).set _ _)
  cases q : c.h₀.get? C with
  | none => rfl
  | some o => rw [F.keep C o q] at hC; cases hC⟩

end comps
end Mine
end

section
open PySem PySem.W PyProof.Rows PySem.Calls
namespace Mine

section loops
variable {c : Cx} {n : Nat} {ρ κ : Loc} {Q : Flow → Shared → Prop}

theorem x_while {test : Expr} {body rest : List Stmt} {pos : Pos} (J : Nat → Loc → Prop) (m₀ : Nat) (h0 : J m₀ ρ)
    (turn : ∀ m ρ', J m ρ' → ∃ b, EvB c ρ' κ test b ∧ (b = false → Xs c ρ' κ rest Q) ∧ (b = true → Xs c ρ' κ body (fun f s => f = .next ∧ ∃ m' ρ'', m' < m ∧ J m' ρ'' ∧ FrD c ρ'' κ s.heap ∧ From c s))) :
    Xs c ρ κ (.While test body [] pos :: rest) Q := ⟨fun s F b => by
  refine wpAny_execs_cons (wpAny_While (codeAny_whileLoop (fun m s => ∃ ρ', J m ρ' ∧ FrD c ρ' κ s.heap ∧ From c s) ?_ m₀ ⟨ρ, h0, F, b⟩))
  rintro m s' ⟨ρ', hJ, F', b'⟩
  obtain ⟨r, h1, h2, h3⟩ := turn m ρ' hJ
  refine noE (h1.go s' F') fun r' s1 ⟨k1, e⟩ => ?_
  subst e
  cases r' with
  | false => exact wpAny_execs_nil ((h2 rfl).go s1 (F'.on k1.stays) (b'.on k1))
  | true =>
    refine noE ((h3 rfl).go s1 (F'.on k1.stays) (b'.on k1)) fun f s2 ⟨e, m', ρ'', hm, hJ', F2, b2⟩ => ?_
    subst e
    exact ⟨m', hm, ρ'', hJ', F2, b2⟩⟩

theorem for_core {target iter : Expr} {body rest : List Stmt} {pos : Pos} {N : Nat} {it : Nat → D} {s : Shared}
    (hI : EvI c ρ κ true target iter N it) (hs : ∀ x, foldedSetIterable iter c.env x = pure x)
    (F : FrD c ρ κ s.heap)
    (run : ∀ (s2 : Shared) (fp wr : List Addr), Kp s s2 → (∀ b ∈ wr, s.heap.get? b = none ∧ c.P b ∧ ∃ o, s2.heap.get? b = some o) → (∀ b ∈ fp, s.heap.get? b = none ∨ ∃ o, s.heap.get? b = some o ∧ SeqO o ∧ c.P b) → (∀ b ∈ fp, b < s2.heap.objs.size) →
      ∃ J : Nat → Shared → Prop, J 0 s2 ∧
        (∀ i s' h tk, J i s' → (∀ b ∈ wr, ∃ o, s'.heap.get? b = some o ∧ ¬ SeqO o) → (∀ b o, b ∉ wr → s'.heap.get? b = some o → h.get? b = some o) → J i { s' with heap := h, toks := tk }) ∧
        (∀ i s', J i s' → New c.P s'.heap ∧ ∀ b o, s2.heap.get? b = some o → SeqO o → c.P b → b ∉ wr → s'.heap.get? b = some o) ∧
        (∀ i s' v, i < N → J i s' → Rep c.P s'.heap (it i) v → wpAny c.W.M c.A (assign target c.env v) (fun _ s₂ => wpAny c.W.M c.A (execs body c.env) (fun f s₃ => match f with
          | .next | .cont => J (i + 1) s₃ ∧ (∀ b ∈ fp, ∀ o, s'.heap.get? b = some o → s₃.heap.get? b = some o)
          | .brk => wpAny c.W.M c.A (execs rest c.env) Q NoE s₃
          | .ret v => Q (.ret v) s₃) NoE s₂) NoE s') ∧
        (∀ s', J N s' → wpAny c.W.M c.A (execs rest c.env) Q NoE s')) :
    wpAny c.W.M c.A (execs (.For target iter body [] pos :: rest) c.env) Q NoE s := by
  refine wpAny_execs_cons (wpAny_For (noE (hI.go s F) fun xv s1 ⟨k1, q1⟩ => noE q1 fun itv s2 ⟨k2, I, fp, wr, Pi, StI, e, W, st, c6, c1, c2, c3, c5⟩ => ?_) hs)
  subst e
  have kk := k1.trans k2
  obtain ⟨J, j0, stable, pk, turn, done⟩ := run s2 fp wr kk (fun b hb => ⟨c1 b hb, F.new b (c1 b hb), let ⟨o, h, _⟩ := c3 _ _ st b hb; ⟨o, h⟩⟩) c2 c6
  have c3' : ∀ i h, StI i h → ∀ b ∈ wr, ∃ o, h.get? b = some o ∧ ¬ SeqO o := fun i h hst b hb => let ⟨o, h1, h2⟩ := c3 i h hst b hb; ⟨o, h1, h2 rfl⟩
  refine codeAny_forLoop_any (fun k s' => ∃ j : Nat, J j s' ∧ StI j s'.heap ∧ j ≤ N ∧ k = N + 1 - j) ?_ (N + 1) ⟨0, j0, st, Nat.zero_le _, rfl⟩
  rintro k s' ⟨j, hJ, hst, hj, rfl⟩
  by_cases hlt : j < N
  · refine noE (W.item j _ (fun v s1' => wpAny c.W.M c.A (assign target c.env v) (fun _ s₂ => wpAny c.W.M c.A (execs body c.env) (fun f s₃ => match f with
          | .next | .cont => ∃ m, m < N + 1 - j ∧ ∃ j', J j' s₃ ∧ StI j' s₃.heap ∧ j' ≤ N ∧ m = N + 1 - j'
          | .brk => wpAny c.W.M c.A (execs rest c.env) Q NoE s₃
          | .ret v => Q (.ret v) s₃) NoE s₂) NoE s1') hlt hst fun v h1 tk1 hPv hst1 hk1 => ?_) fun r s1' ⟨v, e, q⟩ => by
        subst e
        refine noE q fun _ s2' q2 => noE q2 fun _ s3 q3 => noE q3 fun f s4 q4 => ?_
        cases f <;> exact q4
    have hJ1 : J j { s' with heap := h1, toks := tk1 } := stable j s' h1 tk1 hJ (c3' _ _ hst) hk1
    have rv : Rep c.P h1 (it j) v := c5 j v _ h1 hlt hPv c.P (pk j _ hJ).1 fun a o pa ha hsq hw => ⟨pa, (pk j _ hJ1).2 a o ha hsq pa hw⟩
    refine noE (turn j _ v hlt hJ1 rv) fun _ s3 h3 => noE h3 fun f s4 h4 => ?_
    have go : J (j + 1) s4 ∧ (∀ b ∈ fp, ∀ o, h1.get? b = some o → s4.heap.get? b = some o) → ∃ m, m < N + 1 - j ∧ ∃ j', J j' s4 ∧ StI j' s4.heap ∧ j' ≤ N ∧ m = N + 1 - j' := fun ⟨a, b⟩ =>
      ⟨N + 1 - (j + 1), turn_lt hlt, j + 1, a, W.frame _ _ _ hst1 b, hlt, rfl⟩
    cases f with
    | next => exact go h4
    | cont => exact go h4
    | brk => exact h4
    | ret v => exact h4
  · have hjN : j = N := Nat.le_antisymm hj (Nat.le_of_not_lt hlt)
    subst hjN
    refine noE (W.done _ (fun r s1 => r = none ∧ wpAny c.W.M c.A (execs rest c.env) Q NoE s1) hst fun h1 tk1 hk1 => ⟨rfl, done _ (stable j s' h1 tk1 hJ (c3' _ _ hst) hk1)⟩) fun r s1 ⟨e, q⟩ => ?_
    subst e
    exact wpAny_execs_nil q

noncomputable def Cx.at (c : Cx) (h : Heap) : Cx := { c with h₀ := h }
theorem FrD.base {h₀ h : Heap} (F : FrD (c.at h₀) ρ κ h) (k : Stays c.h₀ h₀) : FrD c ρ κ h where
  keep := fun b o e => F.keep b o (k b o e)
  new := F.new
  loc := F.loc
  cel := F.cel
noncomputable def hidden (c : Cx) : List Addr := c.env.locals :: c.env.cells.map (·.2)
theorem hid_keep (ow : OwnL c) (oc : OwnC c) {h : Heap} (k : Stays c.h₀ h) : Stays c.h₀ (hideAll h (hidden c)) := fun b o e => hideAll_get _ (k b o e) fun hm => by
  rcases List.mem_cons.mp hm with q | hm
  · unfold OwnL at ow; rw [q, ow] at e; cases e
  · obtain ⟨p, hp, rfl⟩ := List.mem_map.mp hm
    rw [oc.own p.1 p.2 hp] at e; cases e
theorem hid_ok (ok : c.Ok n) (ow : OwnL c) (oc : OwnC c) {h : Heap} (k : Stays c.h₀ h) : (c.at (hideAll h (hidden c))).Ok n := ⟨ok.gd.keep (hid_keep ow oc k), ok.rm, ok.kind, ok.glob, ok.blt⟩
theorem hid_own {h : Heap} : OwnL (c.at (hideAll h (hidden c))) := hideAll_none _ (.head _)
theorem hid_ownC (oc : OwnC c) {h : Heap} : OwnC (c.at (hideAll h (hidden c))) := ⟨oc.apart, fun x a hm => hideAll_none _ (.tail _ (List.mem_map.mpr ⟨(x, a), hm, rfl⟩))⟩
theorem hid_fr {h : Heap} (F : FrD c ρ κ h) : FrD (c.at (hideAll h (hidden c))) ρ κ h := ⟨⟨fun b o e => of_hideAll _ e, F.new⟩, F.loc, F.cel⟩
theorem ownC_nil (h : c.env.cells = []) : OwnC c := ⟨by rw [h]; exact .nil, fun x a hm => by rw [h] at hm; cases hm⟩
theorem FrD.iter {h h' : Heap} {wr : List Addr} (F : FrD c ρ κ h) (hw : ∀ b ∈ wr, c.P b ∧ c.h₀.get? b = none ∧ b ∉ hidden c) (hq : ∀ b ∈ wr, ∃ o, h.get? b = some o ∧ ¬ SeqO o) (hk : ∀ b o, b ∉ wr → h.get? b = some o → h'.get? b = some o) : FrD c ρ κ h' := by
  have sq : ∀ {d : D} {v : Value}, Rep c.P h d v → Rep c.P h' d v := fun r => r.mono fun a o pa ha hs => ⟨pa, hk a o (fun hm => by obtain ⟨o', h1, h2⟩ := hq a hm; rw [ha] at h1; cases h1; exact h2 hs) ha⟩
  refine ⟨⟨fun b o e => hk b o (fun hm => by rw [(hw b hm).2.1] at e; cases e) (F.keep b o e), fun a e => ?_⟩, ?_, fun y a e => ?_⟩
  · by_cases hm : a ∈ wr
    · exact (hw a hm).1
    · refine F.new a ?_
      cases q : h.get? a with
      | none => rfl
      | some o => rw [hk a o hm q] at e; cases e
  · obtain ⟨m, hn, hm⟩ := F.loc
    exact ⟨m, hn.at' fun o e => hk _ o (fun hm => (hw _ hm).2.2 (.head _)) e, fun y d e => let ⟨v, a, b⟩ := hm y d e; ⟨v, a, sq b⟩⟩
  · obtain ⟨o, vo, p1, p2, p3⟩ := F.cel y a e
    exact ⟨o, vo, hk _ o (fun hm => (hw _ hm).2.2 (.tail _ (List.mem_map.mpr ⟨(y, a), mem_of_lookup e, rfl⟩))) p1, p2, fun d e => let ⟨v, p, q⟩ := p3 d e; ⟨v, p, sq q⟩⟩

theorem cells_live {h : Heap} {b : Addr} (F : FrD c ρ κ h) (oc : OwnC c) (hnd : ∀ p ∈ c.env.cells, c.env.cells.lookup p.1 = some p.2) (hb : b ∈ hidden c) : ∃ o, h.get? b = some o ∧ ¬ SeqO o := by
  rcases List.mem_cons.mp hb with rfl | hm
  · obtain ⟨m, hn, _⟩ := F.loc
    have := ns_not_seq hn
    obtain ⟨o, _, _, ho, _⟩ := hn
    exact ⟨o, ho, this o ho⟩
  · obtain ⟨p, hp, rfl⟩ := List.mem_map.mp hm
    obtain ⟨o, vo, h1, h2, _⟩ := F.cel p.1 p.2 (hnd p hp)
    exact ⟨o, h1, fun ⟨vs, n, q⟩ => by rw [h2] at q; cases q⟩

theorem forJ {target iter : Expr} {body rest : List Stmt} {pos : Pos} {N : Nat} {it : Nat → D} (ρs κs ρt κt : Nat → Loc) {ws : List Addr} (J : Nat → Heap → Prop) {s : Shared}
    (ok : c.Ok n) (ow : OwnL c) (oc : OwnC c) (hnd : ∀ p ∈ c.env.cells, c.env.cells.lookup p.1 = some p.2)
    (hI : EvI c ρ κ true target iter N it) (hs : ∀ x, foldedSetIterable iter c.env x = pure x)
    (h1 : ∀ y d, (ρs 0).lookup y = some d → ρ.lookup y = some d) (h2 : ∀ y d, (κs 0).lookup y = some d → κ.lookup y = some d)
    (hws : ∀ b ∈ ws, b ∈ hidden c)
    (hJ : ∀ i h h', J i h → (∀ b o, h.get? b = some o → SeqO o → h'.get? b = some o) → J i h')
    (hasg : ∀ h i, i < N → (c.at h).Ok n → OwnL (c.at h) → OwnC (c.at h) → AsgT (c.at h) (ρs i) (κs i) (assign target (c.at h).env) (it i) (ρt i) (κt i) ws)
    (turn : ∀ h i, i < N → (c.at h).Ok n → OwnL (c.at h) → OwnC (c.at h) → Stays c.h₀ h → J i h → Xs (c.at h) (ρt i) (κt i) body (fun f s => match f with
      | .next | .cont => FrD c (ρs (i + 1)) (κs (i + 1)) s.heap ∧ From c s ∧ J (i + 1) s.heap ∧ (∀ b o, h.get? b = some o → (SeqO o → c.P b) → s.heap.get? b = some o)
      | .brk => wpAny c.W.M c.A (execs rest c.env) Q NoE s
      | .ret v => Q (.ret v) s))
    (done : ∀ s, FrD c (ρs N) (κs N) s.heap → From c s → J N s.heap → wpAny c.W.M c.A (execs rest c.env) Q NoE s)
    (F : FrD c ρ κ s.heap) (b : From c s) (j0 : J 0 s.heap) : wpAny c.W.M c.A (execs (.For target iter body [] pos :: rest) c.env) Q NoE s := by
  refine for_core hI hs F fun s2 fp wr kk hwr hfp hlt => ?_
  have F2 := F.on kk.stays
  have hidwr : ∀ b ∈ wr, b ∉ hidden c := fun b hb hm => by
    obtain ⟨o, ho, _⟩ := cells_live F oc hnd hm
    rw [(hwr b hb).1] at ho; cases ho
  have hwr' : ∀ b ∈ wr, c.P b ∧ c.h₀.get? b = none ∧ b ∉ hidden c := fun b hb => by
    refine ⟨(hwr b hb).2.1, ?_, hidwr b hb⟩
    cases q : c.h₀.get? b with
    | none => rfl
    | some o => have := F.keep b o q; rw [(hwr b hb).1] at this; cases this
  have hidfp : ∀ b ∈ fp, b ∉ hidden c := fun b hb hm => by
    obtain ⟨o', ho', hn⟩ := cells_live F oc hnd hm
    rcases hfp b hb with q | ⟨o, ho, hsq, _⟩
    · rw [q] at ho'; cases ho'
    · rw [ho] at ho'; cases ho'; exact hn hsq
  have fpP : ∀ b ∈ fp, c.P b := fun b hb => by
    rcases hfp b hb with q | ⟨o, ho, hsq, hp⟩
    · exact F.new b q
    · exact hp
  refine ⟨fun i s' => FrD c (ρs i) (κs i) s'.heap ∧ From c s' ∧ J i s'.heap ∧ (∀ b o, b ∉ hidden c → b ∉ wr → c.P b → s2.heap.get? b = some o → s'.heap.get? b = some o), ⟨F2.weak h1 h2, b.on kk, hJ _ _ _ j0 fun b o e _ => kk.stays b o e, fun b o _ _ _ e => e⟩, ?_, ?_, ?_, ?_⟩
  · rintro i s' h tk ⟨Fi, bi, Ji, ki⟩ hq hk
    refine ⟨Fi.iter hwr' hq hk, bi.set _ _, hJ _ _ _ Ji fun b o e hsq => hk b o (fun hw => ?_) e, fun b o hb hw hp e => hk b o hw (ki b o hb hw hp e)⟩
    obtain ⟨o', h1, h2⟩ := hq b hw
    rw [e] at h1; cases h1; exact h2 hsq
  · rintro i s' ⟨Fi, bi, Ji, ki⟩
    refine ⟨Fi.new, fun b o e hsq pb hw => ki b o (fun hm => ?_) hw pb e⟩
    obtain ⟨o', ho', hn⟩ := cells_live F2 oc hnd hm
    rw [e] at ho'; cases ho'; exact hn hsq
  · rintro i s' v hi ⟨Fi, bi, Ji, ki⟩ rv
    have okh := hid_ok ok ow oc Fi.keep
    have Fh := hid_fr Fi
    have Jh : J i (hideAll s'.heap (hidden c)) := hJ _ _ _ Ji fun b o e hsq => hideAll_get _ e fun hm => by
      obtain ⟨o', ho', hn⟩ := cells_live Fi oc hnd hm
      rw [e] at ho'; cases ho'; exact hn hsq
    refine noE (hasg _ i hi okh hid_own (hid_ownC oc) s' v Fh rv) fun _ s3 ⟨F3, ⟨h3, tk3, e3⟩, k3⟩ => ?_
    subst e3
    refine noE ((turn _ i hi okh hid_own (hid_ownC oc) (hid_keep ow oc Fi.keep) Jh).go _ F3 (bi.set _ _)) fun f s4 h4 => ?_
    have go : FrD c (ρs (i + 1)) (κs (i + 1)) s4.heap ∧ From c s4 ∧ J (i + 1) s4.heap ∧ (∀ b o, (hideAll s'.heap (hidden c)).get? b = some o → (SeqO o → c.P b) → s4.heap.get? b = some o) → (FrD c (ρs (i + 1)) (κs (i + 1)) s4.heap ∧ From c s4 ∧ J (i + 1) s4.heap ∧ (∀ b o, b ∉ hidden c → b ∉ wr → c.P b → s2.heap.get? b = some o → s4.heap.get? b = some o)) ∧ (∀ b ∈ fp, ∀ o, s'.heap.get? b = some o → s4.heap.get? b = some o) := fun ⟨F4, b4, J4, k4⟩ =>
      ⟨⟨F4, b4, J4, fun b o hb hw hp e => k4 b o (hideAll_get _ (ki b o hb hw hp e) hb) fun _ => hp⟩, fun b hb o e => k4 b o (hideAll_get _ e (hidfp b hb)) fun _ => fpP b hb⟩
    cases f with
    | next => exact go h4
    | cont => exact go h4
    | brk => exact h4
    | ret v => exact h4
  · rintro s' ⟨Fi, bi, Ji, ki⟩
    exact done s' Fi bi Ji
theorem x_for {target iter : Expr} {body rest : List Stmt} {pos : Pos} {N : Nat} {it : Nat → D} (ρs κs ρt κt : Nat → Loc) {ws : List Addr}
    (ok : c.Ok n) (ow : OwnL c) (oc : OwnC c) (hnd : ∀ p ∈ c.env.cells, c.env.cells.lookup p.1 = some p.2)
    (hI : EvI c ρ κ true target iter N it) (hs : ∀ x, foldedSetIterable iter c.env x = pure x)
    (h1 : ∀ y d, (ρs 0).lookup y = some d → ρ.lookup y = some d) (h2 : ∀ y d, (κs 0).lookup y = some d → κ.lookup y = some d)
    (hws : ∀ b ∈ ws, b ∈ hidden c)
    (hasg : ∀ h i, i < N → (c.at h).Ok n → OwnL (c.at h) → OwnC (c.at h) → AsgT (c.at h) (ρs i) (κs i) (assign target (c.at h).env) (it i) (ρt i) (κt i) ws)
    (turn : ∀ h i, i < N → (c.at h).Ok n → OwnL (c.at h) → OwnC (c.at h) → Stays c.h₀ h → Xs (c.at h) (ρt i) (κt i) body (fun f s => match f with
      | .next | .cont => FrD (c.at h) (ρs (i + 1)) (κs (i + 1)) s.heap ∧ From c s
      | .brk => wpAny c.W.M c.A (execs rest c.env) Q NoE s
      | .ret v => Q (.ret v) s))
    (done : Xs c (ρs N) (κs N) rest Q) : Xs c ρ κ (.For target iter body [] pos :: rest) Q := ⟨fun s F b => by
  refine forJ ρs κs ρt κt (fun _ _ => True) ok ow oc hnd hI hs h1 h2 hws (fun _ _ _ _ _ => trivial) hasg (fun h i hi okh owh och k _ => ⟨fun s F b => noE ((turn h i hi okh owh och k).go s F b) fun f s4 h4 => ?_⟩) (fun s F b _ => done.go s F b) F b trivial
  have go : FrD (c.at h) (ρs (i + 1)) (κs (i + 1)) s4.heap ∧ From c s4 → FrD c (ρs (i + 1)) (κs (i + 1)) s4.heap ∧ From c s4 ∧ True ∧ (∀ b o, h.get? b = some o → (SeqO o → c.P b) → s4.heap.get? b = some o) := fun ⟨F4, b4⟩ =>
    ⟨F4.base k, b4, trivial, fun b o e _ => F4.keep b o e⟩
  cases f with
  | next => exact go h4
  | cont => exact go h4
  | brk => exact h4
  | ret v => exact h4⟩
end loops
end Mine
end

section
open PySem PySem.W PyProof.Rows PySem.Calls
namespace Mine

/- plain list functions -/
noncomputable def splitOn (k : Nat) : List Nat → List (List Nat)
  | [] => [[]]
  | a :: l => if a = k then [] :: splitOn k l else match splitOn k l with
    | [] => [[a]]
    | p :: r => (a :: p) :: r
noncomputable def joinW (sep : List Nat) : List (List Nat) → List Nat
  | [] => []
  | [x] => x
  | x :: y :: r => x ++ sep ++ joinW sep (y :: r)

theorem splitOn_app {k : Nat} : ∀ {p l : List Nat}, k ∉ p → splitOn k (p ++ k :: l) = p :: splitOn k l
  | [], l, _ => by simp [splitOn]
  | a :: p, l, h => by
    rw [List.mem_cons, not_or] at h
    have ha : a ≠ k := fun e => h.1 e.symm
    show splitOn k (a :: (p ++ k :: l)) = _
    rw [splitOn, if_neg ha, splitOn_app h.2]
theorem splitOn_one {k : Nat} : ∀ {p : List Nat}, k ∉ p → splitOn k p = [p]
  | [], _ => rfl
  | a :: p, h => by
    rw [List.mem_cons, not_or] at h
    have ha : a ≠ k := fun e => h.1 e.symm
    rw [splitOn, if_neg ha, splitOn_one h.2]
theorem splitOn_join {k : Nat} : ∀ {ps : List (List Nat)}, ps ≠ [] → (∀ p ∈ ps, k ∉ p) → splitOn k (joinW [k] ps) = ps
  | [], h, _ => absurd rfl h
  | [p], _, h => splitOn_one (h p (.head _))
  | p :: q :: r, _, h => by
    show splitOn k (p ++ [k] ++ joinW [k] (q :: r)) = _
    rw [List.append_assoc, List.singleton_append, splitOn_app (h p (.head _)), splitOn_join (by simp) fun x hx => h x (.tail _ hx)]

theorem join_tx (sep : List Nat) : ∀ ps : List (List Nat), Str.join (tx sep) (ps.map tx) = tx (joinW sep ps)
  | [] => rfl
  | [p] => rfl
  | p :: q :: r => by
    show tx p ++ tx sep ++ Str.join (tx sep) ((q :: r).map tx) = _
    rw [join_tx sep (q :: r), tx_append, tx_append]; rfl
theorem drop_takeWhile (p : Nat → Bool) : ∀ l : List Nat, l.drop (l.takeWhile p).length = l.dropWhile p
  | [] => rfl
  | a :: l => by
    rw [List.takeWhile_cons, List.dropWhile_cons]
    split
    · rw [List.length_cons, List.drop_succ_cons, drop_takeWhile p l]
    · rfl
theorem splitOn_len (k : Nat) : ∀ l : List Nat, (splitOn k l).length ≤ l.length + 1
  | [] => by simp [splitOn]
  | a :: l => by
    have := splitOn_len k l
    rw [splitOn]
    split
    · simp; omega
    · split
      · simp
      · rename_i p r e; rw [e] at this; simp at this ⊢; omega

section texts
variable {c : Cx} {ρ κ : Loc} {n : Nat}

theorem op_in_str {k : Nat} {l : List Nat} : Op2 c (compareOp .In) (.str (tx [k])) (.str (tx l)) (bo (decide (k ∈ l))) := fun s v1 v2 x r1 r2 => by
  obtain ⟨t, rfl⟩ := rep_str.mp r1; obtain ⟨u, rfl⟩ := rep_str.mp r2
  with_reducible refine P.in_str ?_
  refine ⟨kp_refl s, rep_val.mpr ?_⟩
  have := StrLaws.found_one (tx l) k
  rw [tx_cps] at this
  exact congrArg Value.bool this
theorem op_notin_str {k : Nat} {l : List Nat} : Op2 c (compareOp .NotIn) (.str (tx [k])) (.str (tx l)) (bo (!decide (k ∈ l))) := fun s v1 v2 x r1 r2 => by
  obtain ⟨t, rfl⟩ := rep_str.mp r1; obtain ⟨u, rfl⟩ := rep_str.mp r2
  with_reducible refine P.notIn_str ?_
  refine ⟨kp_refl s, rep_val.mpr ?_⟩
  have := StrLaws.found_one (tx l) k
  rw [tx_cps] at this
  exact congrArg (fun b => Value.bool (!b)) this
theorem m_startswith {l : List Nat} : Meth c (.str (tx l)) "startswith" (.builtin "str.startswith") := fun pl s v x r => by
  obtain ⟨t, rfl⟩ := rep_str.mp r
  with_reducible exact GM.startswith ⟨rfl, rfl⟩
theorem m_endswith {l : List Nat} : Meth c (.str (tx l)) "endswith" (.builtin "str.endswith") := fun pl s v x r => by
  obtain ⟨t, rfl⟩ := rep_str.mp r
  with_reducible exact GM.endswith ⟨rfl, rfl⟩
theorem m_split {l : List Nat} : Meth c (.str (tx l)) "split" (.builtin "str.split") := fun pl s v x r => by
  obtain ⟨t, rfl⟩ := rep_str.mp r
  with_reducible exact GM.split ⟨rfl, rfl⟩
theorem m_join {l : List Nat} : Meth c (.str (tx l)) "join" (.builtin "str.join") := fun pl s v x r => by
  obtain ⟨t, rfl⟩ := rep_str.mp r
  with_reducible exact GM.join ⟨rfl, rfl⟩
theorem m_splitlines {l : List Nat} : Meth c (.str (tx l)) "splitlines" (.builtin "str.splitlines") := fun pl s v x r => by
  obtain ⟨t, rfl⟩ := rep_str.mp r
  with_reducible exact GM.splitlines ⟨rfl, rfl⟩
theorem m_lstrip {l : List Nat} : Meth c (.str (tx l)) "lstrip" (.builtin "str.lstrip") := fun pl s v x r => by
  obtain ⟨t, rfl⟩ := rep_str.mp r
  with_reducible exact GM.lstrip ⟨rfl, rfl⟩
theorem m_translate {l : List Nat} : Meth c (.str (tx l)) "translate" (.builtin "str.translate") := fun pl s v x r => by
  obtain ⟨t, rfl⟩ := rep_str.mp r
  with_reducible exact GM.of (.str (tx l) t) (typeIs_str _ _ _) F.slot_str_translate F.type_str_translate GM.noRef ⟨rfl, rfl⟩

theorem c_startswith {k : Nat} {l : List Nat} : CallD c (.builtin "str.startswith") [.str (tx l), .str (tx [k])] (bo (l.head? == some k)) := fun s vs x r => by
  obtain ⟨v, r', rfl, r1, r2⟩ := repL_cons.mp r; obtain ⟨v2, r'', rfl, r3, r4⟩ := repL_cons.mp r2; obtain rfl := repL_nil.mp r4
  obtain ⟨t, rfl⟩ := rep_str.mp r1; obtain ⟨u, rfl⟩ := rep_str.mp r3
  with_reducible refine SC.startswith ?_
  refine ⟨kp_refl s, rep_val.mpr (congrArg Value.bool ?_)⟩
  unfold Txt.startswith
  rw [StrLaws.subAt_eq, tx_cps, tx_cps, tx_len, tx_len]
  cases l with
  | nil => rfl
  | cons a l => simp
theorem c_endswith {k : Nat} {l : List Nat} : CallD c (.builtin "str.endswith") [.str (tx l), .str (tx [k])] (bo (l.getLast? == some k)) := fun s vs x r => by
  obtain ⟨v, r', rfl, r1, r2⟩ := repL_cons.mp r; obtain ⟨v2, r'', rfl, r3, r4⟩ := repL_cons.mp r2; obtain rfl := repL_nil.mp r4
  obtain ⟨t, rfl⟩ := rep_str.mp r1; obtain ⟨u, rfl⟩ := rep_str.mp r3
  with_reducible refine SC.endswith ?_
  refine ⟨kp_refl s, rep_val.mpr (congrArg Value.bool ?_)⟩
  unfold Txt.endswith
  rw [StrLaws.subAt_eq, tx_cps, tx_cps, tx_len, tx_len]
  rcases List.eq_nil_or_concat l with rfl | ⟨p, a, rfl⟩
  · rfl
  · simp
theorem c_lstrip {k : Nat} {l : List Nat} (hl : l.length ≤ 100000) : CallD c (.builtin "str.lstrip") [.str (tx l), .str (tx [k])] (.str (tx (l.dropWhile (· == k)))) := fun s vs x r => by
  obtain ⟨v, r', rfl, r1, r2⟩ := repL_cons.mp r; obtain ⟨v2, r'', rfl, r3, r4⟩ := repL_cons.mp r2; obtain rfl := repL_nil.mp r4
  obtain ⟨t, rfl⟩ := rep_str.mp r1; obtain ⟨u, rfl⟩ := rep_str.mp r3
  with_reducible refine SC.lstripChars (fun t' tk => ?_) (by rw [tx_len]; exact sizeLine_ge hl)
  refine ⟨kp_toks s _, rep_str.mpr ⟨t', congrArg (Value.str · t') ?_⟩⟩
  show Txt.stripBy _ true false (tx l) = _
  rw [PyProof.Rows.stripBy_eq]
  refine (tx_eq _).symm.trans (congrArg tx ?_)
  rw [StrLaws.strSub_toList]
  have e1 : stripLo (tx [k]).cps.contains true (tx l) = (l.takeWhile (· == k)).length := by
    show ((tx l).cps.toList.takeWhile _).length = _
    rw [tx_cps]
    congr 2
    funext a
    simp [tx, BEq.beq]
  rw [e1, tx_cps]
  show (l.drop _).take ((tx l).length - _) = _
  rw [tx_len, drop_takeWhile, List.take_of_length_le]
  rw [← drop_takeWhile, List.length_drop]; exact Nat.le_refl _
theorem rep_strs {P : Addr → Prop} {h : Heap} : ∀ {ps : List (List Nat)} {l : List (Str × Tok)}, l.map (·.1) = ps.map tx → RepL P h (ps.map fun p => .str (tx p)) (strValues l)
  | [], l, e => by
    have : l = [] := List.map_eq_nil_iff.mp e
    rw [this]; exact repL_nil.mpr rfl
  | p :: ps, [], e => by cases e
  | p :: ps, q :: l, e => by
    rw [List.map_cons, List.map_cons, List.cons.injEq] at e
    exact repL_cons.mpr ⟨.str q.1 q.2, strValues l, rfl, rep_str.mpr ⟨q.2, by rw [e.1]⟩, rep_strs e.2⟩
theorem c_split {k : Nat} {l : List Nat} (hl : l.length ≤ 100000) : CallD c (.builtin "str.split") [.str (tx l), .str (tx [k])] (.list ((splitOn k l).map fun p => .str (tx p))) := fun s vs x r => by
  obtain ⟨v, r', rfl, r1, r2⟩ := repL_cons.mp r; obtain ⟨v2, r'', rfl, r3, r4⟩ := repL_cons.mp r2; obtain rfl := repL_nil.mp r4
  obtain ⟨t, rfl⟩ := rep_str.mp r1; obtain ⟨u, rfl⟩ := rep_str.mp r3
  have hsp : Txt.split (tx l) (tx [k]) = (splitOn k l).map tx := by
    have h1 := StrLaws.join_split (tx l) (tx [k])
    have h2 := StrLaws.split_free (tx l) k
    have h3 : Txt.split (tx l) (tx [k]) = ((Txt.split (tx l) (tx [k])).map (·.cps.toList)).map tx := by
      rw [List.map_map]
      conv => lhs; rw [← List.map_id (Txt.split (tx l) (tx [k]))]
      exact List.map_congr_left fun y _ => (tx_eq y).symm
    rw [h3, join_tx, tx_inj] at h1
    rw [h3]
    refine congrArg (List.map tx) ?_
    refine ((splitOn_join (k := k) (fun e => ?_) fun p hp => ?_).symm).trans (congrArg (splitOn k) h1)
    · have h5 : (Txt.split (tx l) (tx [k])) = [] := List.map_eq_nil_iff.mp e
      unfold Txt.split at h5
      split at h5
      · cases h5
      · split at h5
        · cases h5
        · have := PyProof.Rows.len_partsBetween (tx l) (Builtin.Str.occurrences (tx l) (tx [k]) 0 (tx l).length ((tx l).length + 1)) (tx [k]).length
          rw [h5] at this; cases this
    · obtain ⟨y, hy, rfl⟩ := List.mem_map.mp hp
      exact h2 y hy
  have fin : ∀ (ps : List (Str × Tok)) (tk : Nat), ps.map (·.1) = Txt.split (tx l) (tx [k]) → Gives c s (.list ((splitOn k l).map fun p => .str (tx p))) (.ref s.heap.objs.size) { s with heap := s.heap.push { cls := .type "list", data := .seq (strValues ps).toArray }, toks := tk } := fun ps tk e =>
    ⟨kp_both s (stays_push _ _), rep_list.mpr ⟨_, _, rfl, x.new.at, ⟨_, Heap.get?_push_size _ rfl, rfl, _, rfl⟩, by
      rw [hsp] at e
      simpa using rep_strs e⟩⟩
  have hsz2 : (Builtin.Str.partsBetween (tx l) (Builtin.Str.occurrences (tx l) (tx [k]) 0 (tx l).length ((tx l).length + 1)) (tx [k]).length).length ≤ sizeLine := by
    rw [PyProof.Rows.len_partsBetween]
    have := StrLaws.occ_length_le (tx l) (tx [k]) 0 (tx l).length ((tx l).length + 1)
    rw [tx_len] at this
    exact Nat.le_trans (Nat.succ_le_succ this) (Nat.le_trans (Nat.add_le_add_right (Nat.add_le_add_right hl 1) 1) (by decide))
  have hsz : (tx l).length ≤ sizeLine := by rw [tx_len]; exact sizeLine_ge hl
  cases h1 : (decide ((tx l).length < (tx [k]).length) || decide (Builtin.Str.strKind (tx l) < Builtin.Str.strKind (tx [k])))
  · cases hf : (Builtin.Str.occurrences (tx l) (tx [k]) 0 (tx l).length ((tx l).length + 1)).isEmpty
    · refine call_meets F.slot_str_split (typeIs_str _ _ _) F.entry_str_split (F.args_str_split_2 _ _) (meets_str_split_sep (tx l) (tx [k]) t u h1 rfl hf hsz hsz2) ?_
      show wants _ _ _ { s with toks := _, heap := s.heap.push { cls := .type "list", data := .seq (strsFrom s.toks (Builtin.Str.partsBetween (tx l) (Builtin.Str.occurrences (tx l) (tx [k]) 0 (tx l).length ((tx l).length + 1)) (tx [k]).length)).toArray } }
      rw [strsFrom_eq]
      exact fin (numbered s.toks _) _ ((numbered_texts _ _).trans ((if_neg (ne_true_of_eq_false h1)).trans (if_neg (ne_true_of_eq_false hf))).symm)
    · exact call_meets F.slot_str_split (typeIs_str _ _ _) F.entry_str_split (F.args_str_split_2 _ _) (meets_str_split_not_found (tx l) (tx [k]) t u h1 rfl hf)
        (fin [(tx l, t)] _ ((if_neg (ne_true_of_eq_false h1)).trans (if_pos hf)).symm)
  · exact call_meets F.slot_str_split (typeIs_str _ _ _) F.entry_str_split (F.args_str_split_2 _ _) (meets_str_split_cannot_occur (tx l) (tx [k]) t u h1)
      (fin [(tx l, t)] _ (if_pos h1).symm)
theorem strs_of_rep {P : Addr → Prop} {h : Heap} : ∀ {ps : List (List Nat)} {vs : List Value}, RepL P h (ps.map fun p => .str (tx p)) vs → ∃ l : List (Str × Tok), vs = strValues l ∧ l.map (·.1) = ps.map tx
  | [], vs, r => ⟨[], repL_nil.mp r, rfl⟩
  | p :: ps, vs, r => by
    obtain ⟨v, r', rfl, r1, r2⟩ := repL_cons.mp r
    obtain ⟨t, rfl⟩ := rep_str.mp r1
    obtain ⟨l, rfl, e⟩ := strs_of_rep r2
    exact ⟨(tx p, t) :: l, rfl, by rw [List.map_cons, e]; rfl⟩
theorem c_join {sep : List Nat} {ps : List (List Nat)} (hok : ps.length ≤ 1000 ∧ sep.length ≤ 10 ∧ ∀ p ∈ ps, p.length ≤ 1000) : CallD c (.builtin "str.join") [.str (tx sep), .list (ps.map fun p => .str (tx p))] (.str (tx (joinW sep ps))) := fun s vs x r => by
  obtain ⟨v, r', rfl, r1, r2⟩ := repL_cons.mp r; obtain ⟨v2, r'', rfl, r3, r4⟩ := repL_cons.mp r2; obtain rfl := repL_nil.mp r4
  obtain ⟨t, rfl⟩ := rep_str.mp r1; obtain ⟨a, ws, rfl, pa, hL, rl⟩ := rep_list.mp r3
  obtain ⟨l, e1, e2⟩ := strs_of_rep rl
  have hL' : s.heap.IsList a (strValues l).toArray := by rw [← e1]; simpa using hL
  refine SC.join hL' e2 ?_ fun t' tk => ⟨kp_toks s _, rep_str.mpr ⟨t', ?_⟩⟩
  · unfold JoinOk
    rw [Bool.not_eq_true']
    refine StrLaws.joinFits (B := 1000) (fun y hy => ?_) ?_
    · obtain ⟨p, hp, rfl⟩ := List.mem_map.mp hy
      rw [tx_len]; exact hok.2.2 p hp
    · rw [List.length_map, tx_len]
      have h1 := hok.1; have h2 := hok.2.1
      have : ps.length * sep.length ≤ 1000 * 10 := Nat.mul_le_mul h1 h2
      omega
  · show Value.str (Txt.join (tx sep) (ps.map tx)) t' = _
    unfold Txt.join
    rw [StrLaws.glued_eq_join, join_tx]

/- slices -/
structure EvO (c : Cx) (ρ κ : Loc) (e : Option Expr) (i : Option Int) : Prop where
  go : ∀ s, FrD c ρ κ s.heap → wpAny c.W.M c.A (valueOrNone (evalOpt e c.env)) (fun v s' => Kp s s' ∧ IsPart v i) NoE s

theorem evO_none : EvO c ρ κ none none := ⟨fun s F => wpAny_pure ⟨kp_refl s, .none⟩⟩
theorem evO_some {e : Expr} {i : Int} (h : Ev c ρ κ e (.int i)) : EvO c ρ κ (some e) (some i) := ⟨fun s F => noE (h.go s F) fun v s1 ⟨k1, r1⟩ => ⟨k1, by obtain ⟨t, rfl⟩ := rep_int.mp r1; exact .int i t⟩⟩
noncomputable def OpS (c : Cx) (d : D) (lo hi : Option Int) (d' : D) : Prop :=
  ∀ s v vl vu sl, St c s.heap → Rep c.P s.heap d v → IsPart vl lo → IsPart vu hi → s.heap.IsSliceOf sl vl vu .none → wpAny c.W.M c.A (getItem v (.ref sl)) (Gives c s d') NoE s
theorem ev_slice {value : Expr} {lower upper : Option Expr} {p pos : Pos} {d1 d : D} {lo hi : Option Int} {T id : String} (hv : Ev c ρ κ value d1) (h1 : EvO c ρ κ lower lo) (h2 : EvO c ρ κ upper hi) (hT : HasT c d1 T) (hl : typeLookup (.type T) "__getitem__" = pure (some (.builtin id)))
    (ho : OpS c d1 lo hi d) : Ev c ρ κ (.Subscript value (.Slice lower upper none p) pos) d := ⟨fun s F => by
  rw [eval_Subscript]
  refine wpAny_bind (noE (hv.go s F) fun o s1 ⟨k1, r1⟩ => wpAny_bind (wpAny_holding ?_))
  rw [arm_eval_Slice]
  have F1 := F.on k1.stays
  refine wpAny_bind (noE (h1.go s1 F1) fun vl s2 ⟨k2, p2⟩ => wpAny_bind (wpAny_holding (noE (h2.go s2 (F1.on k2.stays)) fun vu s3 ⟨k3, p3⟩ => wpAny_bind (wpAny_holding (wpAny_pure (wpAny_newObj_type ?_))))))
  refine wpAny_bind (wpAny_standAt ?_)
  have x3 := ((F1.on k2.stays).on k3.stays).toSt
  have r3 := (r1.keep k2.stays).keep k3.stays
  have k4 : Kp s3 { s3 with heap := s3.heap.push { cls := .type "slice", data := .fields #[vl, vu, .none] } } := kp_heap s3 (stays_push _ _)
  have hTi := hT _ o (x3.on k4.stays) (r3.keep k4.stays)
  refine wpAny_bind ?_
  rw [getitemInPython_of_ne hTi.not_modules]
  refine wpAny_bind (wpAny_specialOf hTi hl (wpAny_pure (wpAny_bind (m := operate _ _) (wpAny_operating ?_))))
  refine noE (ho _ o vl vu _ (x3.on k4.stays) (r3.keep k4.stays) p2 p3 (Heap.IsSliceOf.new ..)) fun r s5 ⟨k5, r5⟩ => wpAny_bind (wpAny_letTemporaryGo (wpAny_pure ⟨(((k1.trans k2).trans k3).trans k4).trans k5, r5⟩))⟩
theorem opS_str {l l' : List Nat} {lo hi : Option Int} (hl : l.length ≤ 100000) (h : StrLaws.sliceText (tx l) lo hi = tx l') : OpS c (.str (tx l)) lo hi (.str (tx l')) := fun s v vl vu sl x r pl pu hs => by
  obtain ⟨t, rfl⟩ := rep_str.mp r
  have key : ∀ (a b : Option (Int × Tok)), partValue a = vl → partValue b = vu → a.map (·.1) = lo → b.map (·.1) = hi → wpAny c.W.M c.A (getItem (.str (tx l) t) (.ref sl)) (Gives c s (.str (tx l'))) NoE s := fun a b e1 e2 e3 e4 => by
    refine wpAny_getItem_str_slice (l := a) (u := b) (st := none) (by obtain ⟨o, p1, p2, p3⟩ := hs; exact ⟨o, p1, p2, by rw [e1, e2]; exact p3⟩) rfl ?_
    subst e3; subst e4
    refine post_val_or_str ⟨?_, fun t' tk => ⟨kp_toks s _, rep_str.mpr ⟨t', congrArg (Value.str · t') h⟩⟩⟩
    refine Nat.le_trans (Txt.slice_le (tx l) _ _) ?_
    rw [tx_len]; exact sizeLine_ge hl
  cases pl <;> cases pu
  · exact key none none rfl rfl rfl rfl
  · rename_i j u; exact key none (some (j, u)) rfl rfl rfl rfl
  · rename_i j u; exact key (some (j, u)) none rfl rfl rfl rfl
  · rename_i j u i u'; exact key (some (j, u)) (some (i, u')) rfl rfl rfl rfl
theorem tx_of_list (l : List Nat) : (⟨l.toArray⟩ : Str) = tx l := rfl
theorem opS_from {l : List Nat} {a : Nat} (hl : l.length ≤ 100000) (ha : a ≤ l.length) : OpS c (.str (tx l)) (some a) none (.str (tx (l.drop a))) := opS_str hl (by
  rw [StrLaws.sliceText_from ⟨by omega, by rw [tx_cps]; omega⟩, tx_cps, tx_of_list]
  congr 1
  rw [List.take_of_length_le]
  · simp
  · rw [List.length_drop]; omega)
theorem opS_to {l : List Nat} {a : Nat} (hl : l.length ≤ 100000) (ha : a ≤ l.length) : OpS c (.str (tx l)) none (some a) (.str (tx (l.take a))) := opS_str hl (by
  rw [StrLaws.sliceText_to ⟨by omega, by rw [tx_cps]; omega⟩, tx_cps, tx_of_list]
  simp)
theorem opS_mid {l : List Nat} {a : Nat} {j : Int} (b : Nat) (hl : l.length ≤ 100000) (hj : j < 0) (hb : j + l.length = b) (hab : a ≤ b) (hbl : b ≤ l.length) : OpS c (.str (tx l)) (some a) (some j) (.str (tx ((l.drop a).take (b - a)))) := opS_str hl (by
  rw [StrLaws.sliceText_neg_hi _ _ hj (by rw [tx_len]; omega), tx_len, hb, StrLaws.sliceText_nat _ hab (by rw [tx_len]; exact hbl), tx_cps, tx_of_list])
theorem opS_neg {l : List Nat} {j : Int} (b : Nat) (hl : l.length ≤ 100000) (hj : j < 0) (hb : j + l.length = b) : OpS c (.str (tx l)) (some j) none (.str (tx (l.drop b))) := opS_str hl (by
  rw [StrLaws.sliceText_neg_lo _ _ hj (by rw [tx_len]; omega), tx_len, hb]
  rw [StrLaws.sliceText_from ⟨by omega, by rw [tx_cps]; omega⟩, tx_cps, tx_of_list]
  congr 1
  rw [List.take_of_length_le]
  · simp
  · rw [List.length_drop]; omega)
theorem opS_one {l : List Nat} (hl : l.length ≤ 100000) : OpS c (.str (tx l)) none (some 1) (.str (tx (l.take 1))) := by
  cases l with
  | nil => exact opS_str hl (by decide)
  | cons a l => exact opS_to (a := 1) hl (by simp)
theorem opS_list {ds : List D} {b : Nat} (hl : ds.length ≤ 100000) : OpS c (.list ds) none (some b) (.list (ds.take b)) := fun s v vl vu sl x r pl pu hs => by
  obtain ⟨a, vs, rfl, pa, hL, rl⟩ := rep_list.mp r
  have hsz : vs.size ≤ sizeLine := by rw [← Array.length_toList, rl.length]; exact sizeLine_ge hl
  refine wpAny_getItem_list_slice hL hs pl pu .none (by simp) ?_ hsz
  refine ⟨kp_heap s (stays_push _ _), rep_list.mpr ⟨_, _, rfl, x.new.at, ⟨_, Heap.get?_push_size _ rfl, rfl, _, rfl⟩, ?_⟩⟩
  rw [slicePick_upto']
  simpa using (rl.take b).keep (stays_push _ _)
end texts
end Mine
end

section
open PySem PySem.W PyProof.Rows PySem.Calls
namespace Mine
open PySem.SeqAt AutoSeq1 MeetsSeq MeetsSeq2 MeetsSeq3 SeqRoads2

noncomputable def RcG (op : CmpOp) (A : Around) (s : Shared) (y x : Value) (b : Bool) : Prop :=
  ∀ (prog : Program) (w : World) (E : Value → Shared → Prop) (Q : Value → Shared → Prop), Q (.bool b) s → wpAny (model prog w) A (richCompare op y x) Q E s
noncomputable def scan (e r : Nat → Bool) (sz : Bool) : Nat → Nat → Bool
  | 0, _ => sz
  | k + 1, i => if e i then scan e r sz k (i + 1) else r i
theorem loop_g {l b : Addr} {items items2 : Array Value} {n n2 : Nat} {dd dd2 : Option Addr} {sl sl2 : Array (Option Value)} {e r : Nat → Bool} {sz : Bool} {cd : Int} {cs : Nat → Nat → Value} {mis : Option Value → Option Value → Nat → Nat → Sem Fin}
    (hun : ∀ i : Nat, Builtin.«list.__eq__.loop» ⟨[.ref l, .ref b, rawInt i, rawInt cd], []⟩ = (do
      let u ← Builtin.List.listItems (.ref l)
      let v ← Builtin.List.listItems (.ref b)
      match (u[(i : Int).toNat]?, v[(i : Int).toNat]?) with
      | (some x, some y) => do
        let t ← eqBool x y
        if t = true then again (Code.builtin "list.__eq__.loop" { pos := [.ref l, .ref b, rawInt ((i : Int) + 1), rawInt cd], kw := [] })
        else do
          let xs ← Builtin.List.listItems (.ref l)
          let ys ← Builtin.List.listItems (.ref b)
          mis xs[(i : Int).toNat]? ys[(i : Int).toNat]? xs.size ys.size
      | _ => do
        let xs ← Builtin.List.listItems (.ref l)
        let ys ← Builtin.List.listItems (.ref b)
        ret (cs xs.size ys.size)))
    (hcs : cs items.size items2.size = .bool sz) (k : Nat) :
    ∀ i : Nat, min items.size items2.size - i = k → Meets (Builtin.«list.__eq__.loop» ⟨[.ref l, .ref b, rawInt i, rawInt cd], []⟩)
      (fun A R s => s.heap.get? l = some { cls := .type "list", dict := dd, data := .seq items n, slots := sl } ∧ s.heap.get? b = some { cls := .type "list", dict := dd2, data := .seq items2 n2, slots := sl2 } ∧
        (∀ j (h1 : j < items.size) (h2 : j < items2.size), EqAt A.in1 s items[j] items2[j] (e j)) ∧
        (∀ j (h1 : j < items.size) (h2 : j < items2.size), e j = false → ∀ (prog : Program) (w : World) (Q : Fin → Shared → Prop) (E : Value → Shared → Prop), Q (.done (.ret (.bool (r j)))) s → wpAny (model prog w) A.in1 (mis (some items[j]) (some items2[j]) items.size items2.size) Q E s) ∧
        R (.ok (.ret (.bool (scan e r sz k i)))) s) := by
  induction k with
  | zero =>
    intro i hk prog w A R s h
    obtain ⟨hp, g, d, tk, os⟩ := s; obtain ⟨hl, hb, he, hr, h⟩ := h
    rw [hun]
    wp_walk using wpAny_loadPart' hl, wpAny_loadPart' hb
    by_cases hi : items.size ≤ i
    · have hi1 : items[((i : Nat) : Int).toNat]? = none := by simp; omega
      rw [hi1]
      wp_walk using wpAny_loadPart' hl, wpAny_loadPart' hb
      rw [hcs]; exact h
    · have hi2 : items2[((i : Nat) : Int).toNat]? = none := by simp; omega
      have hi1 : items[((i : Nat) : Int).toNat]? = some (items[i]'(by omega)) := by simp
      rw [hi1, hi2]
      wp_walk using wpAny_loadPart' hl, wpAny_loadPart' hb
      rw [hcs]; exact h
  | succ k ih =>
    intro i hk prog w A R s h
    obtain ⟨hp, g, d, tk, os⟩ := s; obtain ⟨hl, hb, he, hr, h⟩ := h
    rw [hun]
    wp_walk using wpAny_loadPart' hl, wpAny_loadPart' hb
    have hlt : i < items.size := by omega
    have hlt2 : i < items2.size := by omega
    have hi1 : items[((i : Nat) : Int).toNat]? = some items[i] := by simp [hlt]
    have hi2 : items2[((i : Nat) : Int).toNat]? = some items2[i] := by simp [hlt2]
    have hc : ((i : Int) + 1) = ((i + 1 : Nat) : Int) := by push_cast; rfl
    rw [hi1, hi2]
    refine wpAny_bind (he i hlt hlt2 prog w _ _ ?_)
    cases hb' : e i with
    | true =>
      simp only [scan, hb', if_true] at h
      wp_walk
      rw [hc]
      exact ⟨plainId_quiet plain_eq_loop _, codeAny_builtin entry_eq_loop (by
        rw [Around.under_plainId plain_eq_loop _]
        exact ih (i + 1) (by omega) prog w A R _ ⟨hl, hb, he, hr, h⟩)⟩
    | false =>
      simp only [scan, hb', Bool.false_eq_true, if_false] at h
      wp_walk using wpAny_loadPart' hl, wpAny_loadPart' hb
      rw [hi1, hi2]
      exact hr i hlt hlt2 hb' prog w _ _ h

theorem loop_lt (l b : Addr) (items items2 : Array Value) (n n2 : Nat) (dd dd2 : Option Addr) (sl sl2 : Array (Option Value)) (e : Nat → Bool) (r : Nat → Bool) (k : Nat) :
    ∀ i : Nat, min items.size items2.size - i = k → Meets (Builtin.«list.__eq__.loop» ⟨[.ref l, .ref b, rawInt i, rawInt 0], []⟩)
      (fun A R s => s.heap.get? l = some { cls := .type "list", dict := dd, data := .seq items n, slots := sl } ∧ s.heap.get? b = some { cls := .type "list", dict := dd2, data := .seq items2 n2, slots := sl2 } ∧
        (∀ j (h1 : j < items.size) (h2 : j < items2.size), EqAt A.in1 s items[j] items2[j] (e j)) ∧ (∀ j (h1 : j < items.size) (h2 : j < items2.size), e j = false → RcG .Lt A.in1 s items[j] items2[j] (r j)) ∧
        R (.ok (.ret (.bool (scan e r (decide (items.size < items2.size)) k i)))) s) := fun i hk prog w A R s ⟨hl, hb, he, hr, h⟩ =>
  loop_g (cd := 0) (cs := fun m n => .bool (decide (m < n))) (mis := fun a b m n => match a, b with
      | some x, some y => do ret (← richCompare .Lt x y)
      | _, _ => do rule "list.compare.shrunk"; ret ((fun m n => .bool (decide (m < n)) : Nat → Nat → Value) m n)) (fun i => by kernel_rfl) rfl k i hk prog w A R s ⟨hl, hb, he, fun j h1 h2 q prog w Q E hq => wpAny_bind (hr j h1 h2 q prog w _ _ (wpAny_pure hq)), h⟩

theorem loop_le (l b : Addr) (items items2 : Array Value) (n n2 : Nat) (dd dd2 : Option Addr) (sl sl2 : Array (Option Value)) (e : Nat → Bool) (r : Nat → Bool) (k : Nat) :
    ∀ i : Nat, min items.size items2.size - i = k → Meets (Builtin.«list.__eq__.loop» ⟨[.ref l, .ref b, rawInt i, rawInt 1], []⟩)
      (fun A R s => s.heap.get? l = some { cls := .type "list", dict := dd, data := .seq items n, slots := sl } ∧ s.heap.get? b = some { cls := .type "list", dict := dd2, data := .seq items2 n2, slots := sl2 } ∧
        (∀ j (h1 : j < items.size) (h2 : j < items2.size), EqAt A.in1 s items[j] items2[j] (e j)) ∧ (∀ j (h1 : j < items.size) (h2 : j < items2.size), e j = false → RcG .LtE A.in1 s items[j] items2[j] (r j)) ∧
        R (.ok (.ret (.bool (scan e r (decide (items.size ≤ items2.size)) k i)))) s) := fun i hk prog w A R s ⟨hl, hb, he, hr, h⟩ =>
  loop_g (cd := 1) (cs := fun m n => .bool (decide (m ≤ n))) (mis := fun a b m n => match a, b with
      | some x, some y => do ret (← richCompare .LtE x y)
      | _, _ => do rule "list.compare.shrunk"; ret ((fun m n => .bool (decide (m ≤ n)) : Nat → Nat → Value) m n)) (fun i => by kernel_rfl) rfl k i hk prog w A R s ⟨hl, hb, he, fun j h1 h2 q prog w Q E hq => wpAny_bind (hr j h1 h2 q prog w _ _ (wpAny_pure hq)), h⟩

theorem loop_eq (l b : Addr) (items items2 : Array Value) (n n2 : Nat) (dd dd2 : Option Addr) (sl sl2 : Array (Option Value)) (e : Nat → Bool) (k : Nat) :
    ∀ i : Nat, min items.size items2.size - i = k → Meets (Builtin.«list.__eq__.loop» ⟨[.ref l, .ref b, rawInt i, rawInt 2], []⟩)
      (fun A R s => s.heap.get? l = some { cls := .type "list", dict := dd, data := .seq items n, slots := sl } ∧ s.heap.get? b = some { cls := .type "list", dict := dd2, data := .seq items2 n2, slots := sl2 } ∧
        (∀ j (h1 : j < items.size) (h2 : j < items2.size), EqAt A.in1 s items[j] items2[j] (e j)) ∧ 
        R (.ok (.ret (.bool (scan e (fun _ => false) (items.size == items2.size) k i)))) s) := fun i hk prog w A R s ⟨hl, hb, he, h⟩ =>
  loop_g (cd := 2) (cs := fun m n => .bool (m == n)) (mis := fun a b m n => match a, b with
      | some x, some y => ret (.bool false)
      | _, _ => do rule "list.compare.shrunk"; ret ((fun m n => .bool (m == n) : Nat → Nat → Value) m n)) (fun i => by kernel_rfl) rfl k i hk prog w A R s ⟨hl, hb, he, fun j h1 h2 q prog w Q E hq => wpAny_pure hq, h⟩

theorem loop_ne (l b : Addr) (items items2 : Array Value) (n n2 : Nat) (dd dd2 : Option Addr) (sl sl2 : Array (Option Value)) (e : Nat → Bool) (k : Nat) :
    ∀ i : Nat, min items.size items2.size - i = k → Meets (Builtin.«list.__eq__.loop» ⟨[.ref l, .ref b, rawInt i, rawInt 3], []⟩)
      (fun A R s => s.heap.get? l = some { cls := .type "list", dict := dd, data := .seq items n, slots := sl } ∧ s.heap.get? b = some { cls := .type "list", dict := dd2, data := .seq items2 n2, slots := sl2 } ∧
        (∀ j (h1 : j < items.size) (h2 : j < items2.size), EqAt A.in1 s items[j] items2[j] (e j)) ∧ 
        R (.ok (.ret (.bool (scan e (fun _ => true) (items.size != items2.size) k i)))) s) := fun i hk prog w A R s ⟨hl, hb, he, h⟩ =>
  loop_g (cd := 3) (cs := fun m n => .bool (m != n)) (mis := fun a b m n => match a, b with
      | some x, some y => ret (.bool true)
      | _, _ => do rule "list.compare.shrunk"; ret ((fun m n => .bool (m != n) : Nat → Nat → Value) m n)) (fun i => by kernel_rfl) rfl k i hk prog w A R s ⟨hl, hb, he, fun j h1 h2 q prog w Q E hq => wpAny_pure hq, h⟩

theorem loop_gt (l b : Addr) (items items2 : Array Value) (n n2 : Nat) (dd dd2 : Option Addr) (sl sl2 : Array (Option Value)) (e : Nat → Bool) (r : Nat → Bool) (k : Nat) :
    ∀ i : Nat, min items.size items2.size - i = k → Meets (Builtin.«list.__eq__.loop» ⟨[.ref l, .ref b, rawInt i, rawInt 4], []⟩)
      (fun A R s => s.heap.get? l = some { cls := .type "list", dict := dd, data := .seq items n, slots := sl } ∧ s.heap.get? b = some { cls := .type "list", dict := dd2, data := .seq items2 n2, slots := sl2 } ∧
        (∀ j (h1 : j < items.size) (h2 : j < items2.size), EqAt A.in1 s items[j] items2[j] (e j)) ∧ (∀ j (h1 : j < items.size) (h2 : j < items2.size), e j = false → RcG .Gt A.in1 s items[j] items2[j] (r j)) ∧
        R (.ok (.ret (.bool (scan e r (decide (items.size > items2.size)) k i)))) s) := fun i hk prog w A R s ⟨hl, hb, he, hr, h⟩ =>
  loop_g (cd := 4) (cs := fun m n => .bool (decide (m > n))) (mis := fun a b m n => match a, b with
      | some x, some y => do ret (← richCompare .Gt x y)
      | _, _ => do rule "list.compare.shrunk"; ret ((fun m n => .bool (decide (m > n)) : Nat → Nat → Value) m n)) (fun i => by kernel_rfl) rfl k i hk prog w A R s ⟨hl, hb, he, fun j h1 h2 q prog w Q E hq => wpAny_bind (hr j h1 h2 q prog w _ _ (wpAny_pure hq)), h⟩

theorem loop_ge (l b : Addr) (items items2 : Array Value) (n n2 : Nat) (dd dd2 : Option Addr) (sl sl2 : Array (Option Value)) (e : Nat → Bool) (r : Nat → Bool) (k : Nat) :
    ∀ i : Nat, min items.size items2.size - i = k → Meets (Builtin.«list.__eq__.loop» ⟨[.ref l, .ref b, rawInt i, rawInt 5], []⟩)
      (fun A R s => s.heap.get? l = some { cls := .type "list", dict := dd, data := .seq items n, slots := sl } ∧ s.heap.get? b = some { cls := .type "list", dict := dd2, data := .seq items2 n2, slots := sl2 } ∧
        (∀ j (h1 : j < items.size) (h2 : j < items2.size), EqAt A.in1 s items[j] items2[j] (e j)) ∧ (∀ j (h1 : j < items.size) (h2 : j < items2.size), e j = false → RcG .GtE A.in1 s items[j] items2[j] (r j)) ∧
        R (.ok (.ret (.bool (scan e r (decide (items.size ≥ items2.size)) k i)))) s) := fun i hk prog w A R s ⟨hl, hb, he, hr, h⟩ =>
  loop_g (cd := 5) (cs := fun m n => .bool (decide (m ≥ n))) (mis := fun a b m n => match a, b with
      | some x, some y => do ret (← richCompare .GtE x y)
      | _, _ => do rule "list.compare.shrunk"; ret ((fun m n => .bool (decide (m ≥ n)) : Nat → Nat → Value) m n)) (fun i => by kernel_rfl) rfl k i hk prog w A R s ⟨hl, hb, he, fun j h1 h2 q prog w Q E hq => wpAny_bind (hr j h1 h2 q prog w _ _ (wpAny_pure hq)), h⟩

theorem list_lt (l b : Addr) (items items2 : Array Value) (n n2 : Nat) (dd dd2 : Option Addr) (sl sl2 : Array (Option Value)) (e : Nat → Bool) (r : Nat → Bool) :
    Meets (Builtin.«list.__lt__» ⟨[.ref l, .ref b], []⟩)
      (fun A R s => s.heap.get? l = some { cls := .type "list", dict := dd, data := .seq items n, slots := sl } ∧ s.heap.get? b = some { cls := .type "list", dict := dd2, data := .seq items2 n2, slots := sl2 } ∧
        (∀ j (h1 : j < items.size) (h2 : j < items2.size), EqAt A.in1 s items[j] items2[j] (e j)) ∧ (∀ j (h1 : j < items.size) (h2 : j < items2.size), e j = false → RcG .Lt A.in1 s items[j] items2[j] (r j)) ∧
        R (.ok (.ret (.bool (scan e r (decide (items.size < items2.size)) (min items.size items2.size) 0)))) s) := by
  intro prog w A R s h
  obtain ⟨hp, g, d, tk, os⟩ := s; obtain ⟨hl, hb, he, hr, h⟩ := h
  have f3 := AutoSeq1.sub_list_list
  wp_walk using wpAny_loadPart' hl, wpAny_loadPart' hb
  exact ⟨plainId_quiet plain_eq_loop _, codeAny_builtin entry_eq_loop (by
    rw [Around.under_plainId plain_eq_loop _]
    exact loop_lt l b items items2 n n2 dd dd2 sl sl2 e r _ 0 rfl prog w A R _ ⟨hl, hb, he, hr, h⟩)⟩
theorem rc_lt {A : Around} {s : Shared} {l b : Addr} {items items2 : Array Value} (e : Nat → Bool) (r : Nat → Bool) (hl : s.heap.IsList l items) (hb : s.heap.IsList b items2) (hu : A.units < cLine)
    (he : ∀ j (h1 : j < items.size) (h2 : j < items2.size), EqAt A.in1 s items[j] items2[j] (e j)) (hr : (∀ j (h1 : j < items.size) (h2 : j < items2.size), e j = false → RcG .Lt A.in1 s items[j] items2[j] (r j))) : RcG .Lt A s (.ref l) (.ref b) (scan e r (decide (items.size < items2.size)) (min items.size items2.size) 0) := fun prog w E Q h => by
  obtain ⟨⟨cls, dd, data, sl⟩, ho, hc, n, hd⟩ := id hl
  obtain ⟨⟨cls2, dd2, data2, sl2⟩, ho2, hc2, n2, hd2⟩ := id hb
  simp only at hc hd hc2 hd2
  subst hc hd hc2 hd2
  exact richCompare_meets_room (op := .Lt) ⟨_, ho, rfl⟩ ⟨_, ho2, rfl⟩ F.slot_list_lt F.entry_list_lt (F.args_list_lt_2 _ _) (list_lt l b items items2 n n2 dd dd2 sl sl2 e r )
    ⟨ho, ho2, he, hr, show Value.bool _ ≠ Value.notImplemented ∧ Q (.bool _) s from ⟨(fun x => nomatch x), h⟩⟩ hu

theorem list_le (l b : Addr) (items items2 : Array Value) (n n2 : Nat) (dd dd2 : Option Addr) (sl sl2 : Array (Option Value)) (e : Nat → Bool) (r : Nat → Bool) :
    Meets (Builtin.«list.__le__» ⟨[.ref l, .ref b], []⟩)
      (fun A R s => s.heap.get? l = some { cls := .type "list", dict := dd, data := .seq items n, slots := sl } ∧ s.heap.get? b = some { cls := .type "list", dict := dd2, data := .seq items2 n2, slots := sl2 } ∧
        (∀ j (h1 : j < items.size) (h2 : j < items2.size), EqAt A.in1 s items[j] items2[j] (e j)) ∧ (∀ j (h1 : j < items.size) (h2 : j < items2.size), e j = false → RcG .LtE A.in1 s items[j] items2[j] (r j)) ∧
        R (.ok (.ret (.bool (scan e r (decide (items.size ≤ items2.size)) (min items.size items2.size) 0)))) s) := by
  intro prog w A R s h
  obtain ⟨hp, g, d, tk, os⟩ := s; obtain ⟨hl, hb, he, hr, h⟩ := h
  have f3 := AutoSeq1.sub_list_list
  wp_walk using wpAny_loadPart' hl, wpAny_loadPart' hb
  exact ⟨plainId_quiet plain_eq_loop _, codeAny_builtin entry_eq_loop (by
    rw [Around.under_plainId plain_eq_loop _]
    exact loop_le l b items items2 n n2 dd dd2 sl sl2 e r _ 0 rfl prog w A R _ ⟨hl, hb, he, hr, h⟩)⟩
theorem rc_le {A : Around} {s : Shared} {l b : Addr} {items items2 : Array Value} (e : Nat → Bool) (r : Nat → Bool) (hl : s.heap.IsList l items) (hb : s.heap.IsList b items2) (hu : A.units < cLine)
    (he : ∀ j (h1 : j < items.size) (h2 : j < items2.size), EqAt A.in1 s items[j] items2[j] (e j)) (hr : (∀ j (h1 : j < items.size) (h2 : j < items2.size), e j = false → RcG .LtE A.in1 s items[j] items2[j] (r j))) : RcG .LtE A s (.ref l) (.ref b) (scan e r (decide (items.size ≤ items2.size)) (min items.size items2.size) 0) := fun prog w E Q h => by
  obtain ⟨⟨cls, dd, data, sl⟩, ho, hc, n, hd⟩ := id hl
  obtain ⟨⟨cls2, dd2, data2, sl2⟩, ho2, hc2, n2, hd2⟩ := id hb
  simp only at hc hd hc2 hd2
  subst hc hd hc2 hd2
  exact richCompare_meets_room (op := .LtE) ⟨_, ho, rfl⟩ ⟨_, ho2, rfl⟩ F.slot_list_le F.entry_list_le (F.args_list_le_2 _ _) (list_le l b items items2 n n2 dd dd2 sl sl2 e r )
    ⟨ho, ho2, he, hr, show Value.bool _ ≠ Value.notImplemented ∧ Q (.bool _) s from ⟨(fun x => nomatch x), h⟩⟩ hu

theorem list_eq (l b : Addr) (items items2 : Array Value) (n n2 : Nat) (dd dd2 : Option Addr) (sl sl2 : Array (Option Value)) (e : Nat → Bool) (hsz : items.size = items2.size) :
    Meets (Builtin.«list.__eq__» ⟨[.ref l, .ref b], []⟩)
      (fun A R s => s.heap.get? l = some { cls := .type "list", dict := dd, data := .seq items n, slots := sl } ∧ s.heap.get? b = some { cls := .type "list", dict := dd2, data := .seq items2 n2, slots := sl2 } ∧
        (∀ j (h1 : j < items.size) (h2 : j < items2.size), EqAt A.in1 s items[j] items2[j] (e j)) ∧ 
        R (.ok (.ret (.bool (scan e (fun _ => false) (items.size == items2.size) (min items.size items2.size) 0)))) s) := by
  intro prog w A R s h
  obtain ⟨hp, g, d, tk, os⟩ := s; obtain ⟨hl, hb, he, h⟩ := h
  have f3 := AutoSeq1.sub_list_list
  have hne : ¬ (items.size != items2.size) = true := by simp [hsz]
  wp_walk using wpAny_loadPart' hl, wpAny_loadPart' hb
  exact ⟨plainId_quiet plain_eq_loop _, codeAny_builtin entry_eq_loop (by
    rw [Around.under_plainId plain_eq_loop _]
    exact loop_eq l b items items2 n n2 dd dd2 sl sl2 e _ 0 rfl prog w A R _ ⟨hl, hb, he, h⟩)⟩
theorem rc_eq {A : Around} {s : Shared} {l b : Addr} {items items2 : Array Value} (e : Nat → Bool) (hl : s.heap.IsList l items) (hb : s.heap.IsList b items2) (hsz : items.size = items2.size) (hu : A.units < cLine)
    (he : ∀ j (h1 : j < items.size) (h2 : j < items2.size), EqAt A.in1 s items[j] items2[j] (e j))  : RcG .Eq A s (.ref l) (.ref b) (scan e (fun _ => false) (items.size == items2.size) (min items.size items2.size) 0) := fun prog w E Q h => by
  obtain ⟨⟨cls, dd, data, sl⟩, ho, hc, n, hd⟩ := id hl
  obtain ⟨⟨cls2, dd2, data2, sl2⟩, ho2, hc2, n2, hd2⟩ := id hb
  simp only at hc hd hc2 hd2
  subst hc hd hc2 hd2
  exact richCompare_meets_room (op := .Eq) ⟨_, ho, rfl⟩ ⟨_, ho2, rfl⟩ F.slot_list_eq F.entry_list_eq (F.args_list_eq_2 _ _) (list_eq l b items items2 n n2 dd dd2 sl sl2 e hsz)
    ⟨ho, ho2, he, show Value.bool _ ≠ Value.notImplemented ∧ Q (.bool _) s from ⟨(fun x => nomatch x), h⟩⟩ hu
theorem list_eq_len (l b : Addr) (items items2 : Array Value) (n n2 : Nat) (dd dd2 : Option Addr) (sl sl2 : Array (Option Value)) (hc0 : (items.size != items2.size) = true) :
    Meets (Builtin.«list.__eq__» ⟨[.ref l, .ref b], []⟩)
      (fun _ R s => s.heap.get? l = some { cls := .type "list", dict := dd, data := .seq items n, slots := sl } ∧ s.heap.get? b = some { cls := .type "list", dict := dd2, data := .seq items2 n2, slots := sl2 } ∧
        R (.ok (.ret (.bool false))) s) :=
  .of_wp fun prog w A R s h => by
    obtain ⟨hp, g, d, tk, os⟩ := s; obtain ⟨hl, hb, h⟩ := h
    have f3 := AutoSeq1.sub_list_list
    wp_walk using wpAny_loadPart' hl, wpAny_loadPart' hb
    exact ⟨_, rfl, h⟩
theorem rc_eq_len {A : Around} {s : Shared} {l b : Addr} {items items2 : Array Value} (hl : s.heap.IsList l items) (hb : s.heap.IsList b items2) (hsz : (items.size != items2.size) = true) (hu : A.units < cLine) :
    RcG .Eq A s (.ref l) (.ref b) false := fun prog w E Q h => by
  obtain ⟨⟨cls, dd, data, sl⟩, ho, hc, n, hd⟩ := id hl
  obtain ⟨⟨cls2, dd2, data2, sl2⟩, ho2, hc2, n2, hd2⟩ := id hb
  simp only at hc hd hc2 hd2
  subst hc hd hc2 hd2
  exact richCompare_meets_room (op := .Eq) ⟨_, ho, rfl⟩ ⟨_, ho2, rfl⟩ F.slot_list_eq F.entry_list_eq (F.args_list_eq_2 _ _) (list_eq_len l b items items2 n n2 dd dd2 sl sl2 hsz)
    ⟨ho, ho2, show Value.bool _ ≠ Value.notImplemented ∧ Q (.bool _) s from ⟨(fun x => nomatch x), h⟩⟩ hu

theorem list_ne (l b : Addr) (items items2 : Array Value) (n n2 : Nat) (dd dd2 : Option Addr) (sl sl2 : Array (Option Value)) (e : Nat → Bool) (hsz : items.size = items2.size) :
    Meets (Builtin.«list.__ne__» ⟨[.ref l, .ref b], []⟩)
      (fun A R s => s.heap.get? l = some { cls := .type "list", dict := dd, data := .seq items n, slots := sl } ∧ s.heap.get? b = some { cls := .type "list", dict := dd2, data := .seq items2 n2, slots := sl2 } ∧
        (∀ j (h1 : j < items.size) (h2 : j < items2.size), EqAt A.in1 s items[j] items2[j] (e j)) ∧ 
        R (.ok (.ret (.bool (scan e (fun _ => true) (items.size != items2.size) (min items.size items2.size) 0)))) s) := by
  intro prog w A R s h
  obtain ⟨hp, g, d, tk, os⟩ := s; obtain ⟨hl, hb, he, h⟩ := h
  have f3 := AutoSeq1.sub_list_list
  have hne : ¬ (items.size != items2.size) = true := by simp [hsz]
  wp_walk using wpAny_loadPart' hl, wpAny_loadPart' hb
  exact ⟨plainId_quiet plain_eq_loop _, codeAny_builtin entry_eq_loop (by
    rw [Around.under_plainId plain_eq_loop _]
    exact loop_ne l b items items2 n n2 dd dd2 sl sl2 e _ 0 rfl prog w A R _ ⟨hl, hb, he, h⟩)⟩
theorem rc_ne {A : Around} {s : Shared} {l b : Addr} {items items2 : Array Value} (e : Nat → Bool) (hl : s.heap.IsList l items) (hb : s.heap.IsList b items2) (hsz : items.size = items2.size) (hu : A.units < cLine)
    (he : ∀ j (h1 : j < items.size) (h2 : j < items2.size), EqAt A.in1 s items[j] items2[j] (e j))  : RcG .NotEq A s (.ref l) (.ref b) (scan e (fun _ => true) (items.size != items2.size) (min items.size items2.size) 0) := fun prog w E Q h => by
  obtain ⟨⟨cls, dd, data, sl⟩, ho, hc, n, hd⟩ := id hl
  obtain ⟨⟨cls2, dd2, data2, sl2⟩, ho2, hc2, n2, hd2⟩ := id hb
  simp only at hc hd hc2 hd2
  subst hc hd hc2 hd2
  exact richCompare_meets_room (op := .NotEq) ⟨_, ho, rfl⟩ ⟨_, ho2, rfl⟩ F.slot_list_ne F.entry_list_ne (F.args_list_ne_2 _ _) (list_ne l b items items2 n n2 dd dd2 sl sl2 e hsz)
    ⟨ho, ho2, he, show Value.bool _ ≠ Value.notImplemented ∧ Q (.bool _) s from ⟨(fun x => nomatch x), h⟩⟩ hu
theorem list_ne_len (l b : Addr) (items items2 : Array Value) (n n2 : Nat) (dd dd2 : Option Addr) (sl sl2 : Array (Option Value)) (hc0 : (items.size != items2.size) = true) :
    Meets (Builtin.«list.__ne__» ⟨[.ref l, .ref b], []⟩)
      (fun _ R s => s.heap.get? l = some { cls := .type "list", dict := dd, data := .seq items n, slots := sl } ∧ s.heap.get? b = some { cls := .type "list", dict := dd2, data := .seq items2 n2, slots := sl2 } ∧
        R (.ok (.ret (.bool true))) s) :=
  .of_wp fun prog w A R s h => by
    obtain ⟨hp, g, d, tk, os⟩ := s; obtain ⟨hl, hb, h⟩ := h
    have f3 := AutoSeq1.sub_list_list
    wp_walk using wpAny_loadPart' hl, wpAny_loadPart' hb
    exact ⟨_, rfl, h⟩
theorem rc_ne_len {A : Around} {s : Shared} {l b : Addr} {items items2 : Array Value} (hl : s.heap.IsList l items) (hb : s.heap.IsList b items2) (hsz : (items.size != items2.size) = true) (hu : A.units < cLine) :
    RcG .NotEq A s (.ref l) (.ref b) true := fun prog w E Q h => by
  obtain ⟨⟨cls, dd, data, sl⟩, ho, hc, n, hd⟩ := id hl
  obtain ⟨⟨cls2, dd2, data2, sl2⟩, ho2, hc2, n2, hd2⟩ := id hb
  simp only at hc hd hc2 hd2
  subst hc hd hc2 hd2
  exact richCompare_meets_room (op := .NotEq) ⟨_, ho, rfl⟩ ⟨_, ho2, rfl⟩ F.slot_list_ne F.entry_list_ne (F.args_list_ne_2 _ _) (list_ne_len l b items items2 n n2 dd dd2 sl sl2 hsz)
    ⟨ho, ho2, show Value.bool _ ≠ Value.notImplemented ∧ Q (.bool _) s from ⟨(fun x => nomatch x), h⟩⟩ hu

theorem list_gt (l b : Addr) (items items2 : Array Value) (n n2 : Nat) (dd dd2 : Option Addr) (sl sl2 : Array (Option Value)) (e : Nat → Bool) (r : Nat → Bool) :
    Meets (Builtin.«list.__gt__» ⟨[.ref l, .ref b], []⟩)
      (fun A R s => s.heap.get? l = some { cls := .type "list", dict := dd, data := .seq items n, slots := sl } ∧ s.heap.get? b = some { cls := .type "list", dict := dd2, data := .seq items2 n2, slots := sl2 } ∧
        (∀ j (h1 : j < items.size) (h2 : j < items2.size), EqAt A.in1 s items[j] items2[j] (e j)) ∧ (∀ j (h1 : j < items.size) (h2 : j < items2.size), e j = false → RcG .Gt A.in1 s items[j] items2[j] (r j)) ∧
        R (.ok (.ret (.bool (scan e r (decide (items.size > items2.size)) (min items.size items2.size) 0)))) s) := by
  intro prog w A R s h
  obtain ⟨hp, g, d, tk, os⟩ := s; obtain ⟨hl, hb, he, hr, h⟩ := h
  have f3 := AutoSeq1.sub_list_list
  wp_walk using wpAny_loadPart' hl, wpAny_loadPart' hb
  exact ⟨plainId_quiet plain_eq_loop _, codeAny_builtin entry_eq_loop (by
    rw [Around.under_plainId plain_eq_loop _]
    exact loop_gt l b items items2 n n2 dd dd2 sl sl2 e r _ 0 rfl prog w A R _ ⟨hl, hb, he, hr, h⟩)⟩
theorem rc_gt {A : Around} {s : Shared} {l b : Addr} {items items2 : Array Value} (e : Nat → Bool) (r : Nat → Bool) (hl : s.heap.IsList l items) (hb : s.heap.IsList b items2) (hu : A.units < cLine)
    (he : ∀ j (h1 : j < items.size) (h2 : j < items2.size), EqAt A.in1 s items[j] items2[j] (e j)) (hr : (∀ j (h1 : j < items.size) (h2 : j < items2.size), e j = false → RcG .Gt A.in1 s items[j] items2[j] (r j))) : RcG .Gt A s (.ref l) (.ref b) (scan e r (decide (items.size > items2.size)) (min items.size items2.size) 0) := fun prog w E Q h => by
  obtain ⟨⟨cls, dd, data, sl⟩, ho, hc, n, hd⟩ := id hl
  obtain ⟨⟨cls2, dd2, data2, sl2⟩, ho2, hc2, n2, hd2⟩ := id hb
  simp only at hc hd hc2 hd2
  subst hc hd hc2 hd2
  exact richCompare_meets_room (op := .Gt) ⟨_, ho, rfl⟩ ⟨_, ho2, rfl⟩ F.slot_list_gt F.entry_list_gt (F.args_list_gt_2 _ _) (list_gt l b items items2 n n2 dd dd2 sl sl2 e r )
    ⟨ho, ho2, he, hr, show Value.bool _ ≠ Value.notImplemented ∧ Q (.bool _) s from ⟨(fun x => nomatch x), h⟩⟩ hu

theorem list_ge (l b : Addr) (items items2 : Array Value) (n n2 : Nat) (dd dd2 : Option Addr) (sl sl2 : Array (Option Value)) (e : Nat → Bool) (r : Nat → Bool) :
    Meets (Builtin.«list.__ge__» ⟨[.ref l, .ref b], []⟩)
      (fun A R s => s.heap.get? l = some { cls := .type "list", dict := dd, data := .seq items n, slots := sl } ∧ s.heap.get? b = some { cls := .type "list", dict := dd2, data := .seq items2 n2, slots := sl2 } ∧
        (∀ j (h1 : j < items.size) (h2 : j < items2.size), EqAt A.in1 s items[j] items2[j] (e j)) ∧ (∀ j (h1 : j < items.size) (h2 : j < items2.size), e j = false → RcG .GtE A.in1 s items[j] items2[j] (r j)) ∧
        R (.ok (.ret (.bool (scan e r (decide (items.size ≥ items2.size)) (min items.size items2.size) 0)))) s) := by
  intro prog w A R s h
  obtain ⟨hp, g, d, tk, os⟩ := s; obtain ⟨hl, hb, he, hr, h⟩ := h
  have f3 := AutoSeq1.sub_list_list
  wp_walk using wpAny_loadPart' hl, wpAny_loadPart' hb
  exact ⟨plainId_quiet plain_eq_loop _, codeAny_builtin entry_eq_loop (by
    rw [Around.under_plainId plain_eq_loop _]
    exact loop_ge l b items items2 n n2 dd dd2 sl sl2 e r _ 0 rfl prog w A R _ ⟨hl, hb, he, hr, h⟩)⟩
theorem rc_ge {A : Around} {s : Shared} {l b : Addr} {items items2 : Array Value} (e : Nat → Bool) (r : Nat → Bool) (hl : s.heap.IsList l items) (hb : s.heap.IsList b items2) (hu : A.units < cLine)
    (he : ∀ j (h1 : j < items.size) (h2 : j < items2.size), EqAt A.in1 s items[j] items2[j] (e j)) (hr : (∀ j (h1 : j < items.size) (h2 : j < items2.size), e j = false → RcG .GtE A.in1 s items[j] items2[j] (r j))) : RcG .GtE A s (.ref l) (.ref b) (scan e r (decide (items.size ≥ items2.size)) (min items.size items2.size) 0) := fun prog w E Q h => by
  obtain ⟨⟨cls, dd, data, sl⟩, ho, hc, n, hd⟩ := id hl
  obtain ⟨⟨cls2, dd2, data2, sl2⟩, ho2, hc2, n2, hd2⟩ := id hb
  simp only at hc hd hc2 hd2
  subst hc hd hc2 hd2
  exact richCompare_meets_room (op := .GtE) ⟨_, ho, rfl⟩ ⟨_, ho2, rfl⟩ F.slot_list_ge F.entry_list_ge (F.args_list_ge_2 _ _) (list_ge l b items items2 n n2 dd dd2 sl sl2 e r )
    ⟨ho, ho2, he, hr, show Value.bool _ ≠ Value.notImplemented ∧ Q (.bool _) s from ⟨(fun x => nomatch x), h⟩⟩ hu
end Mine
end

section
open PySem PySem.W PyProof.Rows PySem.Calls
namespace Mine
open PySem.SeqAt

/- how data stand to each other -/
noncomputable def ordL : List Nat → List Nat → Ordering
  | [], [] => .eq
  | [], _ :: _ => .lt
  | _ :: _, [] => .gt
  | a :: r, b :: t => if a < b then .lt else if b < a then .gt else ordL r t
noncomputable def ordI (a b : Int) : Ordering := if a < b then .lt else if b < a then .gt else .eq
mutual
noncomputable def cmpd : D → D → Ordering
  | .int a, .int b => ordI a b
  | .str a, .str b => ordL a.cps.toList b.cps.toList
  | .list a, .list b => cmpL a b
  | _, _ => .eq
noncomputable def cmpL : List D → List D → Ordering
  | [], [] => .eq
  | [], _ :: _ => .lt
  | _ :: _, [] => .gt
  | a :: r, b :: t => if cmpd a b = .eq then cmpL r t else cmpd a b
end
mutual
noncomputable def Alike : D → D → Prop
  | .int _, .int _ => True
  | .str _, .str _ => True
  | .list a, .list b => AlikeL a b
  | _, _ => False
noncomputable def AlikeL : List D → List D → Prop
  | a :: r, b :: t => Alike a b ∧ AlikeL r t
  | _, _ => True
end
mutual
noncomputable def dep : D → Nat
  | .list a => depL a + 1
  | _ => 0
noncomputable def depL : List D → Nat
  | [] => 0
  | d :: r => max (dep d) (depL r)
end

noncomputable def ans (op : CmpOp) (o : Ordering) : Bool := match op with
  | .Lt => o == .lt
  | .LtE => o != .gt
  | .Eq => o == .eq
  | .NotEq => o != .eq
  | .Gt => o == .gt
  | _ => o != .lt
structure CmpA (A : Around) (s : Shared) (v u : Value) (o : Ordering) : Prop where
  eq : EqAt A s v u (o == .eq)
  rlt : RcG .Lt A s v u (ans .Lt o)
  rle : RcG .LtE A s v u (ans .LtE o)
  req : RcG .Eq A s v u (ans .Eq o)
  rne : RcG .NotEq A s v u (ans .NotEq o)
  rgt : RcG .Gt A s v u (ans .Gt o)
  rge : RcG .GtE A s v u (ans .GtE o)

theorem ordL_lt : ∀ a b : List Nat, (ordL a b == .lt) = decide (a < b)
  | [], [] => by simp [ordL]
  | [], _ :: _ => by simp [ordL]
  | _ :: _, [] => by simp [ordL]
  | a :: r, b :: t => by
    rw [StrLaws.lt_cons_cons, ← ordL_lt r t, ordL]
    by_cases h : a < b
    · simp [h]
    · by_cases h2 : b < a
      · have : (a == b) = false := by simp; omega
        simp [h, h2, this]
      · have : a = b := by omega
        simp [this]
theorem ordL_gt : ∀ a b : List Nat, (ordL a b == .gt) = decide (b < a)
  | [], [] => by simp [ordL]
  | [], _ :: _ => by simp [ordL]
  | _ :: _, [] => by simp [ordL]
  | a :: r, b :: t => by
    rw [StrLaws.lt_cons_cons, ← ordL_gt r t, ordL]
    by_cases h : a < b
    · have : (b == a) = false := by simp; omega
      have h2 : ¬ b < a := by omega
      simp [h, this, h2]
    · by_cases h2 : b < a
      · simp [h, h2]
      · have : a = b := by omega
        simp [this]
theorem ordL_eq : ∀ a b : List Nat, (ordL a b == .eq) = (a == b)
  | [], [] => by simp [ordL]
  | [], _ :: _ => by simp [ordL]
  | _ :: _, [] => by simp [ordL]
  | a :: r, b :: t => by
    have ih := ordL_eq r t
    rw [ordL]
    by_cases h : a < b
    · have : ¬ a = b := by omega
      simp [h, this]
    · by_cases h2 : b < a
      · have : ¬ a = b := by omega
        simp [h, h2, this]
      · have : a = b := by omega
        subst this
        simp only [Nat.lt_irrefl, if_false]
        rw [ih]; simp
theorem cmpA_str {A : Around} {s : Shared} {a b : Str} {t u : Tok} : CmpA A s (.str a t) (.str b u) (ordL a.cps.toList b.cps.toList) where
  eq := by rw [ordL_eq]; exact (PySem.MeetsSeq.EqGives.at (SeqRoads2.EqGives.str a b t u) A s)
  rlt := fun prog w E Q h => by unfold ans at h; rw [ordL_lt] at h; exact P.lt_str h
  rle := fun prog w E Q h => by
    unfold ans at h
    have : (ordL a.cps.toList b.cps.toList != .gt) = !decide (b.cps.toList < a.cps.toList) := by unfold bne; rw [ordL_gt]
    rw [this] at h; exact P.le_str h
  req := fun prog w E Q h => by unfold ans at h; rw [ordL_eq] at h; exact P.eq_str h
  rne := fun prog w E Q h => by
    unfold ans at h
    have : (ordL a.cps.toList b.cps.toList != .eq) = (a.cps.toList != b.cps.toList) := by unfold bne; rw [ordL_eq]
    rw [this] at h; exact P.ne_str h
  rgt := fun prog w E Q h => by unfold ans at h; rw [ordL_gt] at h; exact P.gt_str h
  rge := fun prog w E Q h => by
    unfold ans at h
    have : (ordL a.cps.toList b.cps.toList != .lt) = !decide (a.cps.toList < b.cps.toList) := by unfold bne; rw [ordL_lt]
    rw [this] at h; exact P.ge_str h
theorem ordI_lt (a b : Int) : (ordI a b == .lt) = decide (a < b) := by
  unfold ordI; split
  · simp [*]
  · split <;> simp [*]
theorem ordI_gt (a b : Int) : (ordI a b == .gt) = decide (b < a) := by
  unfold ordI; split
  · have : ¬ b < a := by omega
    simp [this]
  · split <;> simp [*]
theorem ordI_eq (a b : Int) : (ordI a b == .eq) = (a == b) := by
  unfold ordI; split
  · have : ¬ a = b := by omega
    simp [this]
  · split
    · have : ¬ a = b := by omega
      simp [this]
    · have : a = b := by omega
      simp [this]
theorem cmpA_int {A : Around} {s : Shared} {a b : Int} {t u : Tok} : CmpA A s (.int a t) (.int b u) (ordI a b) where
  eq := by rw [ordI_eq]; exact (MeetsSeq.EqGives.int a b t u).at A s
  rlt := fun prog w E Q h => by unfold ans at h; rw [ordI_lt] at h; exact P.lt_int h
  rle := fun prog w E Q h => by
    unfold ans at h
    have : (ordI a b != .gt) = decide (a ≤ b) := by
      unfold bne; rw [ordI_gt]
      by_cases q : b < a
      · have : ¬ a ≤ b := by omega
        simp [q, this]
      · have : a ≤ b := by omega
        simp [q, this]
    rw [this] at h; exact P.le_int h
  req := fun prog w E Q h => by unfold ans at h; rw [ordI_eq] at h; exact P.eq_int h
  rne := fun prog w E Q h => by
    unfold ans at h
    have : (ordI a b != .eq) = (a != b) := by unfold bne; rw [ordI_eq]
    rw [this] at h; exact P.ne_int h
  rgt := fun prog w E Q h => by unfold ans at h; rw [ordI_gt] at h; exact P.gt_int h
  rge := fun prog w E Q h => by
    unfold ans at h
    have : (ordI a b != .lt) = decide (a ≥ b) := by
      unfold bne; rw [ordI_lt]
      by_cases q : a < b
      · have : ¬ a ≥ b := by omega
        simp [q, this]
      · have : a ≥ b := by omega
        simp [q, this]
    rw [this] at h; exact P.ge_int h

noncomputable def scanO (o : Nat → Ordering) (sz : Ordering) : Nat → Nat → Ordering
  | 0, _ => sz
  | k + 1, i => if o i = .eq then scanO o sz k (i + 1) else o i
noncomputable def ordN (m n : Nat) : Ordering := if m < n then .lt else if n < m then .gt else .eq
theorem ordN_cases (m n : Nat) : (m < n ∧ ordN m n = .lt) ∨ (n < m ∧ ordN m n = .gt) ∨ (m = n ∧ ordN m n = .eq) := by
  unfold ordN
  by_cases h : m < n
  · exact .inl ⟨h, if_pos h⟩
  · by_cases h2 : n < m
    · exact .inr (.inl ⟨h2, by rw [if_neg h, if_pos h2]⟩)
    · exact .inr (.inr ⟨by omega, by rw [if_neg h, if_neg h2]⟩)
theorem ordN_ne {m n : Nat} (h : m ≠ n) : ordN m n ≠ .eq := by
  rcases ordN_cases m n with ⟨_, e⟩ | ⟨_, e⟩ | ⟨q, e⟩
  · rw [e]; simp
  · rw [e]; simp
  · exact absurd q h
theorem scan_ans {op : CmpOp} {o : Nat → Ordering} {r : Nat → Bool} {sz : Ordering} {z : Bool} (hz : ans op sz = z) : ∀ k i, (∀ j, i ≤ j → j < i + k → o j ≠ .eq → r j = ans op (o j)) → scan (fun j => o j == .eq) r z k i = ans op (scanO o sz k i)
  | 0, i, _ => hz.symm
  | k + 1, i, hr => by
    unfold scan scanO
    by_cases h : o i = .eq
    · simp only [h, beq_self_eq_true, if_true]
      exact scan_ans hz k (i + 1) fun j h1 h2 => hr j (by omega) (by omega)
    · have : (o i == .eq) = false := by simpa using h
      simp only [this, Bool.false_eq_true, if_false, if_neg h]
      exact hr i (Nat.le_refl _) (by omega) h
theorem scanO_ne {o : Nat → Ordering} {sz : Ordering} (hs : sz ≠ .eq) : ∀ k i, scanO o sz k i ≠ .eq
  | 0, _ => hs
  | k + 1, i => by
    unfold scanO
    split
    · exact scanO_ne hs k (i + 1)
    · assumption
theorem cmpA_lists {A : Around} {s : Shared} {l b : Addr} {items items2 : Array Value} (o : Nat → Ordering) (hl : s.heap.IsList l items) (hb : s.heap.IsList b items2) (hu : A.units < cLine)
    (h : ∀ j (h1 : j < items.size) (h2 : j < items2.size), CmpA A.in1 s items[j] items2[j] (o j)) (hsame : l = b → scanO o (ordN items.size items2.size) (min items.size items2.size) 0 = .eq) :
    CmpA A s (.ref l) (.ref b) (scanO o (ordN items.size items2.size) (min items.size items2.size) 0) := by
  have he : ∀ j (h1 : j < items.size) (h2 : j < items2.size), EqAt A.in1 s items[j] items2[j] (o j == .eq) := fun j h1 h2 => (h j h1 h2).eq
  have z1 : ans .Lt (ordN items.size items2.size) = decide (items.size < items2.size) := by
    show (ordN _ _ == .lt) = _
    rcases ordN_cases items.size items2.size with ⟨h, e⟩ | ⟨h, e⟩ | ⟨h, e⟩
    · rw [e, decide_eq_true (by omega)]; rfl
    · rw [e, decide_eq_false (by omega)]; rfl
    · rw [e, decide_eq_false (by omega)]; rfl
  have z2 : ans .LtE (ordN items.size items2.size) = decide (items.size ≤ items2.size) := by
    show (ordN _ _ != .gt) = _
    rcases ordN_cases items.size items2.size with ⟨h, e⟩ | ⟨h, e⟩ | ⟨h, e⟩
    · rw [e, decide_eq_true (by omega)]; rfl
    · rw [e, decide_eq_false (by omega)]; rfl
    · rw [e, decide_eq_true (by omega)]; rfl
  have z3 : ans .Gt (ordN items.size items2.size) = decide (items.size > items2.size) := by
    show (ordN _ _ == .gt) = _
    rcases ordN_cases items.size items2.size with ⟨h, e⟩ | ⟨h, e⟩ | ⟨h, e⟩
    · rw [e, decide_eq_false (by omega)]; rfl
    · rw [e, decide_eq_true (by omega)]; rfl
    · rw [e, decide_eq_false (by omega)]; rfl
  have z4 : ans .GtE (ordN items.size items2.size) = decide (items.size ≥ items2.size) := by
    show (ordN _ _ != .lt) = _
    rcases ordN_cases items.size items2.size with ⟨h, e⟩ | ⟨h, e⟩ | ⟨h, e⟩
    · rw [e, decide_eq_false (by omega)]; rfl
    · rw [e, decide_eq_true (by omega)]; rfl
    · rw [e, decide_eq_true (by omega)]; rfl
  have req : RcG .Eq A s (.ref l) (.ref b) (ans .Eq (scanO o (ordN items.size items2.size) (min items.size items2.size) 0)) := by
    by_cases hz : items.size = items2.size
    · have q := rc_eq (fun j => o j == .eq) hl hb hz hu he
      rw [scan_ans (op := .Eq) (sz := ordN items.size items2.size) (by rw [hz]; simp [ans, ordN]) _ _ (fun j _ _ hj => by simp [ans, hj])] at q
      exact q
    · have q := rc_eq_len hl hb (by simpa using hz) hu
      have : ans .Eq (scanO o (ordN items.size items2.size) (min items.size items2.size) 0) = false := by
        have := scanO_ne (o := o) (sz := ordN items.size items2.size) (ordN_ne hz) (min items.size items2.size) 0
        simpa [ans] using this
      rw [this]; exact q
  have rne : RcG .NotEq A s (.ref l) (.ref b) (ans .NotEq (scanO o (ordN items.size items2.size) (min items.size items2.size) 0)) := by
    by_cases hz : items.size = items2.size
    · have q := rc_ne (fun j => o j == .eq) hl hb hz hu he
      rw [scan_ans (op := .NotEq) (sz := ordN items.size items2.size) (by rw [hz]; simp [ans, ordN]) _ _ (fun j _ _ hj => by simpa [ans] using hj)] at q
      exact q
    · have q := rc_ne_len hl hb (by simpa using hz) hu
      have : ans .NotEq (scanO o (ordN items.size items2.size) (min items.size items2.size) 0) = true := by
        have := scanO_ne (o := o) (sz := ordN items.size items2.size) (ordN_ne hz) (min items.size items2.size) 0
        simpa [ans] using this
      rw [this]; exact q
  refine ⟨?_, ?_, ?_, req, rne, ?_, ?_⟩
  · by_cases e : l = b
    · rw [hsame e]; subst e; exact EqAt.same _
    · exact EqAt.of_refs e req
  · have q := rc_lt (fun j => o j == .eq) (fun j => ans .Lt (o j)) hl hb hu he fun j h1 h2 _ => (h j h1 h2).rlt
    rw [scan_ans z1 _ _ fun _ _ _ _ => rfl] at q; exact q
  · have q := rc_le (fun j => o j == .eq) (fun j => ans .LtE (o j)) hl hb hu he fun j h1 h2 _ => (h j h1 h2).rle
    rw [scan_ans z2 _ _ fun _ _ _ _ => rfl] at q; exact q
  · have q := rc_gt (fun j => o j == .eq) (fun j => ans .Gt (o j)) hl hb hu he fun j h1 h2 _ => (h j h1 h2).rgt
    rw [scan_ans z3 _ _ fun _ _ _ _ => rfl] at q; exact q
  · have q := rc_ge (fun j => o j == .eq) (fun j => ans .GtE (o j)) hl hb hu he fun j h1 h2 _ => (h j h1 h2).rge
    rw [scan_ans z4 _ _ fun _ _ _ _ => rfl] at q; exact q

theorem scanO_cmpL : ∀ (r t pr pt : List D), pr.length = pt.length → scanO (fun j => cmpd ((pr ++ r).getD j dNone) ((pt ++ t).getD j dNone)) (ordN r.length t.length) (min r.length t.length) pr.length = cmpL r t
  | [], [], pr, pt, h => by simp [scanO, ordN, cmpL]
  | [], b :: t, pr, pt, h => by simp [scanO, ordN, cmpL]
  | a :: r, [], pr, pt, h => by simp [scanO, ordN, cmpL]
  | a :: r, b :: t, pr, pt, h => by
    have ih := scanO_cmpL r t (pr ++ [a]) (pt ++ [b]) (by simp [h])
    have e1 : (pr ++ a :: r).getD pr.length dNone = a := by simp
    have e2 : (pt ++ b :: t).getD pr.length dNone = b := by rw [h]; simp
    have e3 : min (a :: r).length (b :: t).length = min r.length t.length + 1 := Nat.succ_min_succ _ _
    have e4 : ordN (a :: r).length (b :: t).length = ordN r.length t.length := by simp [ordN]
    rw [e3, e4]
    unfold scanO cmpL
    simp only [e1, e2]
    rw [List.length_append, List.append_assoc, List.append_assoc] at ih
    simp only [List.singleton_append, List.length_singleton] at ih
    rw [ih]

mutual
theorem rep_inj {P : Addr → Prop} {h : Heap} : ∀ {d d' : D} {v : Value}, Alike d d' → Rep P h d v → Rep P h d' v → cmpd d d' = .eq
  | .int a, .int b, v, _, r1, r2 => by
    obtain ⟨t, rfl⟩ := rep_int.mp r1; obtain ⟨u, e⟩ := rep_int.mp r2
    cases e
    unfold cmpd ordI; simp
  | .str a, .str b, v, _, r1, r2 => by
    obtain ⟨t, rfl⟩ := rep_str.mp r1; obtain ⟨u, e⟩ := rep_str.mp r2
    cases e
    unfold cmpd
    have := ordL_eq a.cps.toList a.cps.toList
    simpa using this
  | .list a, .list b, v, al, r1, r2 => by
    obtain ⟨x, vs, rfl, _, ⟨o, h1, _, n1, h3⟩, h4⟩ := rep_list.mp r1
    obtain ⟨y, us, e, _, ⟨o', g1, _, n2, g3⟩, g4⟩ := rep_list.mp r2
    cases e
    rw [h1] at g1; cases g1
    rw [h3] at g3; cases g3
    unfold cmpd
    unfold Alike at al
    exact repL_inj al h4 g4
  | .int _, .str _, _, al, _, _ | .int _, .list _, _, al, _, _ | .int _, .val _, _, al, _, _ | .int _, .bytes _, _, al, _, _ | .int _, .tup _, _, al, _, _ => by simp [Alike] at al
  | .str _, .int _, _, al, _, _ | .str _, .list _, _, al, _, _ | .str _, .val _, _, al, _, _ | .str _, .bytes _, _, al, _, _ | .str _, .tup _, _, al, _, _ => by simp [Alike] at al
  | .list _, .int _, _, al, _, _ | .list _, .str _, _, al, _, _ | .list _, .val _, _, al, _, _ | .list _, .bytes _, _, al, _, _ | .list _, .tup _, _, al, _, _ => by simp [Alike] at al
  | .val _, _, _, al, _, _ | .bytes _, _, _, al, _, _ | .tup _, _, _, al, _, _ => by simp [Alike] at al
theorem repL_inj {P : Addr → Prop} {h : Heap} : ∀ {ds ds' : List D} {vs : List Value}, AlikeL ds ds' → RepL P h ds vs → RepL P h ds' vs → cmpL ds ds' = .eq
  | [], [], vs, _, r1, r2 => by simp [cmpL]
  | [], d :: ds, vs, _, r1, r2 => by
    obtain rfl := repL_nil.mp r1; obtain ⟨v, r, e, _⟩ := repL_cons.mp r2; cases e
  | d :: ds, [], vs, _, r1, r2 => by
    obtain rfl := repL_nil.mp r2; obtain ⟨v, r, e, _⟩ := repL_cons.mp r1; cases e
  | d :: ds, d' :: ds', vs, al, r1, r2 => by
    obtain ⟨v, r, rfl, h1, h2⟩ := repL_cons.mp r1; obtain ⟨u, r', e, g1, g2⟩ := repL_cons.mp r2
    cases e
    unfold AlikeL at al
    unfold cmpL
    rw [rep_inj al.1 h1 g1, if_pos rfl]
    exact repL_inj al.2 h2 g2
end

mutual
theorem cmpA_of {P : Addr → Prop} : ∀ {d d' : D}, Alike d d' → ∀ (A : Around) (s : Shared) (v u : Value), Rep P s.heap d v → Rep P s.heap d' u → A.units + dep d < cLine → CmpA A s v u (cmpd d d')
  | .int a, .int b, _, A, s, v, u, r1, r2, _ => by
    obtain ⟨t, rfl⟩ := rep_int.mp r1; obtain ⟨t', rfl⟩ := rep_int.mp r2
    unfold cmpd; exact cmpA_int
  | .str a, .str b, _, A, s, v, u, r1, r2, _ => by
    obtain ⟨t, rfl⟩ := rep_str.mp r1; obtain ⟨t', rfl⟩ := rep_str.mp r2
    unfold cmpd; exact cmpA_str
  | .list a, .list b, al, A, s, v, u, r1, r2, hu => by
    have same : v = u → cmpd (.list a) (.list b) = .eq := fun e => rep_inj al r1 (e ▸ r2)
    obtain ⟨x, vs, rfl, _, hl, h4⟩ := rep_list.mp r1
    obtain ⟨y, us, rfl, _, hb, g4⟩ := rep_list.mp r2
    have e1 : vs.size = a.length := by rw [← h4.length]; simp
    have e2 : us.size = b.length := by rw [← g4.length]; simp
    have key := scanO_cmpL a b [] [] rfl
    simp only [List.nil_append, List.length_nil] at key
    have hcmp : cmpd (.list a) (.list b) = cmpL a b := by unfold cmpd; rfl
    rw [hcmp] at same ⊢
    rw [← key] at same ⊢
    rw [← e1, ← e2] at same ⊢
    unfold Alike at al
    unfold dep at hu
    refine cmpA_lists _ hl hb (by omega) (fun j h1 h2 => ?_) fun e => same (by rw [e])
    have q1 : vs.toList[j]? = some vs[j] := by simp [h1]
    have q2 : us.toList[j]? = some us[j] := by simp [h2]
    obtain ⟨d1, p1, s1⟩ := h4.at' q1
    obtain ⟨d2, p2, s2⟩ := g4.at' q2
    rw [getD_some _ p1, getD_some _ p2]
    exact cmpL_of al j d1 d2 p1 p2 A.in1 s _ _ s1 s2 (by show A.units + 1 + depL a < cLine; omega)
  | .int _, .str _, al, _, _, _, _, _, _, _ | .int _, .list _, al, _, _, _, _, _, _, _ | .int _, .val _, al, _, _, _, _, _, _, _ | .int _, .bytes _, al, _, _, _, _, _, _, _ | .int _, .tup _, al, _, _, _, _, _, _, _ => by simp [Alike] at al
  | .str _, .int _, al, _, _, _, _, _, _, _ | .str _, .list _, al, _, _, _, _, _, _, _ | .str _, .val _, al, _, _, _, _, _, _, _ | .str _, .bytes _, al, _, _, _, _, _, _, _ | .str _, .tup _, al, _, _, _, _, _, _, _ => by simp [Alike] at al
  | .list _, .int _, al, _, _, _, _, _, _, _ | .list _, .str _, al, _, _, _, _, _, _, _ | .list _, .val _, al, _, _, _, _, _, _, _ | .list _, .bytes _, al, _, _, _, _, _, _, _ | .list _, .tup _, al, _, _, _, _, _, _, _ => by simp [Alike] at al
  | .val _, _, al, _, _, _, _, _, _, _ | .bytes _, _, al, _, _, _, _, _, _, _ | .tup _, _, al, _, _, _, _, _, _, _ => by simp [Alike] at al
theorem cmpL_of {P : Addr → Prop} : ∀ {ds ds' : List D}, AlikeL ds ds' → ∀ (j : Nat) (d d' : D), ds[j]? = some d → ds'[j]? = some d' → ∀ (A : Around) (s : Shared) (v u : Value), Rep P s.heap d v → Rep P s.heap d' u → A.units + depL ds < cLine → CmpA A s v u (cmpd d d')
  | [], _, _, j, d, d', h, _, _, _, _, _, _, _, _ => by simp at h
  | _ :: _, [], _, j, d, d', _, h, _, _, _, _, _, _, _ => by simp at h
  | a :: r, b :: t, al, 0, d, d', h, h', A, s, v, u, r1, r2, hu => by
    simp at h h'; subst h; subst h'
    unfold AlikeL at al
    unfold depL at hu
    exact cmpA_of al.1 A s v u r1 r2 (by omega)
  | a :: r, b :: t, al, j + 1, d, d', h, h', A, s, v, u, r1, r2, hu => by
    unfold AlikeL at al
    unfold depL at hu
    exact cmpL_of al.2 j d d' (by simpa using h) (by simpa using h') A s v u r1 r2 (by omega)
end
end Mine
end

section
open PySem PySem.W PyProof.Rows PySem.Calls
namespace Mine
open PySem.SeqAt

section ops
variable {c : Cx} {n : Nat}
theorem room_cmp (ok : c.Ok n) {d : D} (hd : dep d ≤ 10) : c.A.units + dep d < cLine := by
  have := ok.rm.un
  show c.A.units + dep d < 9900
  omega
theorem op_rlt {d1 d2 : D} (ok : c.Ok n) (hd : dep d1 ≤ 10) (al : Alike d1 d2) : Op2 c (compareOp .Lt) d1 d2 (bo (ans .Lt (cmpd d1 d2))) := fun s v1 v2 x r1 r2 =>
  (cmpA_of al c.A s v1 v2 r1 r2 (room_cmp ok hd)).rlt _ _ _ _ ⟨kp_refl s, rep_val.mpr rfl⟩
theorem op_rle {d1 d2 : D} (ok : c.Ok n) (hd : dep d1 ≤ 10) (al : Alike d1 d2) : Op2 c (compareOp .LtE) d1 d2 (bo (ans .LtE (cmpd d1 d2))) := fun s v1 v2 x r1 r2 =>
  (cmpA_of al c.A s v1 v2 r1 r2 (room_cmp ok hd)).rle _ _ _ _ ⟨kp_refl s, rep_val.mpr rfl⟩
theorem op_req {d1 d2 : D} (ok : c.Ok n) (hd : dep d1 ≤ 10) (al : Alike d1 d2) : Op2 c (compareOp .Eq) d1 d2 (bo (ans .Eq (cmpd d1 d2))) := fun s v1 v2 x r1 r2 =>
  (cmpA_of al c.A s v1 v2 r1 r2 (room_cmp ok hd)).req _ _ _ _ ⟨kp_refl s, rep_val.mpr rfl⟩
theorem op_rne {d1 d2 : D} (ok : c.Ok n) (hd : dep d1 ≤ 10) (al : Alike d1 d2) : Op2 c (compareOp .NotEq) d1 d2 (bo (ans .NotEq (cmpd d1 d2))) := fun s v1 v2 x r1 r2 =>
  (cmpA_of al c.A s v1 v2 r1 r2 (room_cmp ok hd)).rne _ _ _ _ ⟨kp_refl s, rep_val.mpr rfl⟩
theorem op_rgt {d1 d2 : D} (ok : c.Ok n) (hd : dep d1 ≤ 10) (al : Alike d1 d2) : Op2 c (compareOp .Gt) d1 d2 (bo (ans .Gt (cmpd d1 d2))) := fun s v1 v2 x r1 r2 =>
  (cmpA_of al c.A s v1 v2 r1 r2 (room_cmp ok hd)).rgt _ _ _ _ ⟨kp_refl s, rep_val.mpr rfl⟩
theorem op_rge {d1 d2 : D} (ok : c.Ok n) (hd : dep d1 ≤ 10) (al : Alike d1 d2) : Op2 c (compareOp .GtE) d1 d2 (bo (ans .GtE (cmpd d1 d2))) := fun s v1 v2 x r1 r2 =>
  (cmpA_of al c.A s v1 v2 r1 r2 (room_cmp ok hd)).rge _ _ _ _ ⟨kp_refl s, rep_val.mpr rfl⟩
end ops

section
variable {prog : Program} {w : World} {A : Around} {R : Result → Shared → Prop} {I : Addr} {fp wr : List Addr} {n : Nat} {P : Nat → Value → Prop} {St : Nat → Heap → Prop} {s : Shared}
theorem min_done (W : Walks prog w A.in1 I fp wr n P St) (S : Addr) (hSf : S ∉ fp) (vb : Value) (c : Nat) (hst : St n s.heap) (hS : s.heap.get? S = some { cls := .type "list", dict := none, data := .seq #[vb, vb] c, slots := #[] })
    (hR : ∀ h' tk, (∀ b o, b ∉ wr → b ≠ S → s.heap.get? b = some o → h'.get? b = some o) → R (.ok (.ret vb)) { s with heap := h', toks := tk }) : codeAny (model prog w) A (.builtin "min.loop" ⟨[.ref I, .none, .ref S], []⟩) R s := by
  have hSw : S ∉ wr := fun h => hSf (W.sub _ h)
  refine codeAny_builtin F.entry_min_loop ?_
  rw [Around.under_plainId F.plain_min_loop _]
  show wpAny _ A.in1 (seqItems? (.ref S) >>= _) _ _ s
  refine wpAny_bind (wpAny_seqItems hS rfl ?_)
  show wpAny _ A.in1 (tryCatch (pyNext (.ref I)) _ >>= _) _ _ s
  refine wpAny_bind (wpAny_tryCatch (W.done s _ _ hst fun h' tk hk' => ?_))
  have hS' := hk' S _ hSw hS
  show wpAny _ A.in1 (updateSeq S (fun _ => #[]) >>= _) _ _ _
  refine wpAny_bind ?_
  refine wpAny_updateSeq hS' rfl (wpAny_bind (wpAny_letGo (wpAny_pure ?_)))
  exact hR _ tk fun b o hbw hbS e => (Heap.get?_update_other _ _ (Ne.symm hbS)).trans (hk' b o hbw e)
theorem min_next (W : Walks prog w A.in1 I fp wr n P St) (S : Addr) (hSf : S ∉ fp) (vb : Value) (c j : Nat) (hj : j < n) (hst : St j s.heap) (hS : s.heap.get? S = some { cls := .type "list", dict := none, data := .seq #[vb, vb] c, slots := #[] }) (bt : Bool)
    (hcmp : ∀ v s', P j v → (∀ b o, b ∉ wr → s.heap.get? b = some o → s'.heap.get? b = some o) → RcG .Lt A.in1 s' v vb bt)
    (hR : ∀ v h' tk c', P j v → St (j + 1) h' → h'.get? S = some { cls := .type "list", dict := none, data := .seq #[if bt then v else vb, if bt then v else vb] c', slots := #[] } → (∀ b o, b ∉ wr → b ≠ S → s.heap.get? b = some o → h'.get? b = some o) →
      codeAny (model prog w) A (.builtin "min.loop" ⟨[.ref I, .none, .ref S], []⟩) R { s with heap := h', toks := tk }) : codeAny (model prog w) A (.builtin "min.loop" ⟨[.ref I, .none, .ref S], []⟩) R s := by
  have hSw : S ∉ wr := fun h => hSf (W.sub _ h)
  have hname : (toString "min" ++ toString ".loop" : String) = "min.loop" := by decide
  refine codeAny_builtin F.entry_min_loop ?_
  rw [Around.under_plainId F.plain_min_loop _]
  show wpAny _ A.in1 (seqItems? (.ref S) >>= _) _ _ s
  refine wpAny_bind (wpAny_seqItems hS rfl ?_)
  show wpAny _ A.in1 (tryCatch (pyNext (.ref I)) _ >>= _) _ _ s
  refine wpAny_bind (wpAny_tryCatch (W.item j s _ _ hj hst fun v h' tk hP hst' hk' => ?_))
  have hS' := hk' S _ hSw hS
  show wpAny _ A.in1 (tryCatch (holding [v, v] (richCompare .Lt v vb >>= _)) _ >>= _) _ _ _
  refine wpAny_bind (wpAny_tryCatch (wpAny_holding (wpAny_bind (hcmp v { s with heap := h', toks := tk } hP hk' prog w _ _ ?_))))
  refine wpAny_bind (wpAny_holding (wpAny_truthy_bool ?_))
  refine wpAny_bind (wpAny_letGo (wpAny_pure ?_))
  cases bt with
  | true =>
    simp only [if_true]
    refine wpAny_bind ?_
    refine wpAny_updateSeq hS' rfl (wpAny_bind (wpAny_letGo ?_))
    rw [hname]
    refine wpAny_pure ⟨plainId_quiet F.plain_min_loop _, hR v _ tk _ hP (W.frame _ _ _ hst' fun b hbf o e => ?_) (Heap.get?_update_self _ hS' rfl) fun b o hbw hbS e => (Heap.get?_update_other _ _ (Ne.symm hbS)).trans (hk' b o hbw e)⟩
    exact (Heap.get?_update_other _ _ (fun h : S = b => hSf (by rw [h]; exact hbf))).trans e
  | false =>
    simp only [Bool.false_eq_true, if_false]
    refine wpAny_bind (wpAny_letGo ?_)
    rw [hname]
    exact wpAny_pure ⟨plainId_quiet F.plain_min_loop _, hR v h' tk c hP hst' hS' fun b o hbw hbS e => hk' b o hbw e⟩
theorem min_first (W : Walks prog w A.in1 I fp wr n P St) (S : Addr) (hSf : S ∉ fp) (hn : 0 < n) {c : Nat} (hst : St 0 s.heap)
    (hS : s.heap.get? S = some { cls := .type "list", dict := none, data := .seq #[] c, slots := #[] })
    (hR : ∀ v h' tk c', P 0 v → St 1 h' → h'.get? S = some { cls := .type "list", dict := none, data := .seq #[v, v] c', slots := #[] } → (∀ b o, b ∉ wr → b ≠ S → s.heap.get? b = some o → h'.get? b = some o) →
      codeAny (model prog w) A (.builtin "min.loop" ⟨[.ref I, .none, .ref S], []⟩) R { s with heap := h', toks := tk }) : codeAny (model prog w) A (.builtin "min.loop" ⟨[.ref I, .none, .ref S], []⟩) R s := by
  have hSw : S ∉ wr := fun h => hSf (W.sub _ h)
  have hname : (toString "min" ++ toString ".loop" : String) = "min.loop" := by decide
  refine codeAny_builtin F.entry_min_loop ?_
  rw [Around.under_plainId F.plain_min_loop _]
  show wpAny _ A.in1 (seqItems? (.ref S) >>= _) _ _ s
  refine wpAny_bind (wpAny_seqItems hS rfl ?_)
  show wpAny _ A.in1 (tryCatch (pyNext (.ref I)) _ >>= _) _ _ s
  refine wpAny_bind (wpAny_tryCatch (W.item 0 s _ _ hn hst fun v h' tk hP hst' hk' => ?_))
  have hS' := hk' S _ hSw hS
  show wpAny _ A.in1 (updateSeq S (fun _ => #[v, v]) >>= _) _ _ _
  refine wpAny_bind ?_
  refine wpAny_updateSeq hS' rfl ?_
  rw [hname]
  refine wpAny_pure ⟨plainId_quiet F.plain_min_loop _, hR v _ tk _ hP (W.frame _ _ _ hst' fun b hbf o e => ?_) (Heap.get?_update_self _ hS' rfl) fun b o hbw hbS e => (Heap.get?_update_other _ _ (Ne.symm hbS)).trans (hk' b o hbw e)⟩
  exact (Heap.get?_update_other _ _ (fun h : S = b => hSf (by rw [h]; exact hbf))).trans e
end
section
variable {c : Cx} {n : Nat}
theorem c_min {ds : List D} {d : D} (ok : c.Ok n) (hds : ds = [d] ∨ (∃ d', ds = [d', d] ∧ Alike d d' ∧ dep d ≤ 10 ∧ ans .Lt (cmpd d d') = true) ∨ (∃ d', ds = [d, d'] ∧ Alike d' d ∧ dep d' ≤ 10 ∧ ans .Lt (cmpd d' d) = false)) : CallD c (.builtin "min") [.list ds] d := fun s vs x r => by
  obtain ⟨v, r', rfl, r1, r2⟩ := repL_cons.mp r; obtain rfl := repL_nil.mp r2
  obtain ⟨l, items, rfl, pl, hl, rl⟩ := rep_list.mp r1
  have hname : (toString "min" ++ toString ".loop" : String) = "min.loop" := by decide
  refine call_function_tree F.kind_min F.plain_min F.entry_min (F.args_min1 _) ?_
  show wpAny _ c.A.in1 (Builtin.Builtins.bindParams "min" ["key", "default"] 0 ⟨[], []⟩ >>= _) _ _ s
  refine wpAny_bind (wpAny_of_eq (show Builtin.Builtins.bindParams "min" ["key", "default"] 0 ⟨[], []⟩ = pure [none, none] from rfl) ?_)
  refine wpAny_bind (wpAny_pure ?_)
  refine wpAny_bind (wpAny_pyIter_list hl (wpAny_bind (wpAny_newObj_type ?_)))
  have hlt : l < s.heap.objs.size := let ⟨o, ho, _⟩ := hl; Heap.lt_size ho
  have W := Walks.list (prog := c.W.prog) (w := c.W.w) (A := c.A.in1) ok.rm.hd s.heap.objs.size l (Nat.ne_of_lt hlt) items
  generalize hH : s.heap.push { cls := .type "list_iterator", data := .fields #[.ref l, .int 0 0] } = H at *
  have hHs : H.objs.size = s.heap.objs.size + 1 := by rw [← hH, Heap.size_push]
  have kH : Stays s.heap H := fun b o e => by rw [← hH]; exact Heap.get?_push_of_some _ e
  have hSf : H.objs.size ∉ [s.heap.objs.size, l] := by
    rw [hHs]
    intro hm
    rcases List.mem_cons.mp hm with e | e
    · exact Nat.succ_ne_self _ e
    · rw [← List.mem_singleton.mp e] at hlt
      exact Nat.not_succ_lt_self hlt
  have lv : ∀ b o, s.heap.get? b = some o → b ∉ [s.heap.objs.size] ∧ b ≠ H.objs.size := fun b o e => by
    have := Heap.lt_size e
    refine ⟨fun hm => ?_, fun q => ?_⟩
    · rw [List.mem_singleton.mp hm] at this; exact Nat.lt_irrefl _ this
    · rw [q, hHs] at this; exact Nat.not_succ_lt_self this
  rw [hname]
  refine wpAny_pure ⟨plainId_quiet F.plain_min_loop _, ?_⟩
  have hst0 : (H.push { cls := .type "list", dict := none, data := .seq ([] : List Value).toArray }).IsListIter s.heap.objs.size l 0 ∧ (H.push { cls := .type "list", dict := none, data := .seq ([] : List Value).toArray }).IsList l items :=
    ⟨⟨_, Heap.get?_push_of_some _ (by rw [← hH]; exact Heap.get?_push_size _ rfl), rfl, rfl⟩, hl.at fun o e => Heap.get?_push_of_some _ (kH _ _ e)⟩
  have hlen : items.size = ds.length := by rw [← rl.length]; simp
  have k0 : Stays s.heap (H.push { cls := .type "list", dict := none, data := .seq ([] : List Value).toArray }) := fun b o e => Heap.get?_push_of_some _ (kH _ _ e)
  have hpos : 0 < items.size := by
    rw [hlen]
    rcases hds with e | ⟨_, e, _⟩ | ⟨_, e, _⟩
    · rw [e]; simp
    · rw [e]; simp
    · rw [e]; simp
  refine min_first (s := { s with heap := H.push { cls := .type "list", dict := none, data := .seq ([] : List Value).toArray } }) W H.objs.size hSf hpos (c := 0) hst0 (Heap.get?_push_size H rfl) fun v0 h1 tk1 c1 p0 st1 hS1 k1 => ?_
  have s1 : Stays s.heap h1 := fun b o e => k1 b o (lv b o e).1 (lv b o e).2 (k0 b o e)
  rcases hds with e | ⟨d', e, al, hd, hc⟩ | ⟨d', e, al, hd, hc⟩
  · subst e
    have hn1 : items.size = 1 := hlen
    rw [hn1] at W
    refine min_done W H.objs.size hSf v0 c1 st1 hS1 fun h2 tk2 k2 => ?_
    have s2 : Stays s.heap h2 := fun b o e => k2 b o (lv b o e).1 (lv b o e).2 (s1 b o e)
    refine ⟨kp_both s s2, ?_⟩
    obtain ⟨d0, e0, rep0⟩ := rl.at' (i := 0) (v := v0) (by simpa using p0)
    simp at e0; subst e0
    exact rep0.keep s2
  · subst e
    have hn2 : items.size = 2 := hlen
    have W2 := W
    rw [hn2] at W2
    obtain ⟨d0, e0, rep0⟩ := rl.at' (i := 0) (v := v0) (by simpa using p0)
    simp at e0; subst e0
    refine min_next W2 H.objs.size hSf v0 c1 1 (by decide) st1 hS1 true (fun v s' p1 ks => ?_) fun v h2 tk2 c2 p1 st2 hS2 k2 => ?_
    · obtain ⟨d1, e1, rep1⟩ := rl.at' (i := 1) (v := v) (by simpa using p1)
      simp at e1; subst e1
      have ks' : Stays s.heap s'.heap := fun b o e => ks b o (lv b o e).1 (s1 b o e)
      have q := (cmpA_of al c.A.in1 s' v v0 (rep1.keep ks') (rep0.keep ks') (by have := ok.rm.un; show c.A.units + 1 + dep _ < 9900; omega)).rlt
      rw [hc] at q
      exact q
    · refine min_done W2 H.objs.size hSf v c2 st2 hS2 fun h3 tk3 k3 => ?_
      have s3 : Stays s.heap h3 := fun b o e => k3 b o (lv b o e).1 (lv b o e).2 (k2 b o (lv b o e).1 (lv b o e).2 (s1 b o e))
      refine ⟨kp_both s s3, ?_⟩
      obtain ⟨d1, e1, rep1⟩ := rl.at' (i := 1) (v := v) (by simpa using p1)
      simp at e1; subst e1
      exact rep1.keep s3
  · subst e
    have hn2 : items.size = 2 := hlen
    have W2 := W
    rw [hn2] at W2
    obtain ⟨d0, e0, rep0⟩ := rl.at' (i := 0) (v := v0) (by simpa using p0)
    simp at e0; subst e0
    refine min_next W2 H.objs.size hSf v0 c1 1 (by decide) st1 hS1 false (fun v s' p1 ks => ?_) fun v h2 tk2 c2 p1 st2 hS2 k2 => ?_
    · obtain ⟨d1, e1, rep1⟩ := rl.at' (i := 1) (v := v) (by simpa using p1)
      simp at e1; subst e1
      have ks' : Stays s.heap s'.heap := fun b o e => ks b o (lv b o e).1 (s1 b o e)
      have q := (cmpA_of al c.A.in1 s' v v0 (rep1.keep ks') (rep0.keep ks') (by have := ok.rm.un; show c.A.units + 1 + dep _ < 9900; omega)).rlt
      rw [hc] at q
      exact q
    · refine min_done W2 H.objs.size hSf v0 c2 st2 hS2 fun h3 tk3 k3 => ?_
      have s3 : Stays s.heap h3 := fun b o e => k3 b o (lv b o e).1 (lv b o e).2 (k2 b o (lv b o e).1 (lv b o e).2 (s1 b o e))
      refine ⟨kp_both s s3, ?_⟩
      obtain ⟨d1, e1, rep1⟩ := rl.at' (i := 1) (v := v) (by simpa using p1)
      simp at e1; subst e1
      exact rep0.keep s3
end
section
variable {prog : Program} {w : World} {A : Around} {R : Result → Shared → Prop} {I : Addr} {fp wr : List Addr} {n : Nat} {P : Nat → Value → Prop} {St : Nat → Heap → Prop} {s : Shared}
theorem max_done (W : Walks prog w A.in1 I fp wr n P St) (S : Addr) (hSf : S ∉ fp) (vb : Value) (c : Nat) (hst : St n s.heap) (hS : s.heap.get? S = some { cls := .type "list", dict := none, data := .seq #[vb, vb] c, slots := #[] })
    (hR : ∀ h' tk, (∀ b o, b ∉ wr → b ≠ S → s.heap.get? b = some o → h'.get? b = some o) → R (.ok (.ret vb)) { s with heap := h', toks := tk }) : codeAny (model prog w) A (.builtin "max.loop" ⟨[.ref I, .none, .ref S], []⟩) R s := by
  have hSw : S ∉ wr := fun h => hSf (W.sub _ h)
  refine codeAny_builtin F.entry_max_loop ?_
  rw [Around.under_plainId F.plain_max_loop _]
  show wpAny _ A.in1 (seqItems? (.ref S) >>= _) _ _ s
  refine wpAny_bind (wpAny_seqItems hS rfl ?_)
  show wpAny _ A.in1 (tryCatch (pyNext (.ref I)) _ >>= _) _ _ s
  refine wpAny_bind (wpAny_tryCatch (W.done s _ _ hst fun h' tk hk' => ?_))
  have hS' := hk' S _ hSw hS
  show wpAny _ A.in1 (updateSeq S (fun _ => #[]) >>= _) _ _ _
  refine wpAny_bind ?_
  refine wpAny_updateSeq hS' rfl (wpAny_bind (wpAny_letGo (wpAny_pure ?_)))
  exact hR _ tk fun b o hbw hbS e => (Heap.get?_update_other _ _ (Ne.symm hbS)).trans (hk' b o hbw e)
theorem max_next (W : Walks prog w A.in1 I fp wr n P St) (S : Addr) (hSf : S ∉ fp) (vb : Value) (c j : Nat) (hj : j < n) (hst : St j s.heap) (hS : s.heap.get? S = some { cls := .type "list", dict := none, data := .seq #[vb, vb] c, slots := #[] }) (bt : Bool)
    (hcmp : ∀ v s', P j v → (∀ b o, b ∉ wr → s.heap.get? b = some o → s'.heap.get? b = some o) → RcG .Gt A.in1 s' v vb bt)
    (hR : ∀ v h' tk c', P j v → St (j + 1) h' → h'.get? S = some { cls := .type "list", dict := none, data := .seq #[if bt then v else vb, if bt then v else vb] c', slots := #[] } → (∀ b o, b ∉ wr → b ≠ S → s.heap.get? b = some o → h'.get? b = some o) →
      codeAny (model prog w) A (.builtin "max.loop" ⟨[.ref I, .none, .ref S], []⟩) R { s with heap := h', toks := tk }) : codeAny (model prog w) A (.builtin "max.loop" ⟨[.ref I, .none, .ref S], []⟩) R s := by
  have hSw : S ∉ wr := fun h => hSf (W.sub _ h)
  have hname : (toString "max" ++ toString ".loop" : String) = "max.loop" := by decide
  refine codeAny_builtin F.entry_max_loop ?_
  rw [Around.under_plainId F.plain_max_loop _]
  show wpAny _ A.in1 (seqItems? (.ref S) >>= _) _ _ s
  refine wpAny_bind (wpAny_seqItems hS rfl ?_)
  show wpAny _ A.in1 (tryCatch (pyNext (.ref I)) _ >>= _) _ _ s
  refine wpAny_bind (wpAny_tryCatch (W.item j s _ _ hj hst fun v h' tk hP hst' hk' => ?_))
  have hS' := hk' S _ hSw hS
  show wpAny _ A.in1 (tryCatch (holding [v, v] (richCompare .Gt v vb >>= _)) _ >>= _) _ _ _
  refine wpAny_bind (wpAny_tryCatch (wpAny_holding (wpAny_bind (hcmp v { s with heap := h', toks := tk } hP hk' prog w _ _ ?_))))
  refine wpAny_bind (wpAny_holding (wpAny_truthy_bool ?_))
  refine wpAny_bind (wpAny_letGo (wpAny_pure ?_))
  cases bt with
  | true =>
    simp only [if_true]
    refine wpAny_bind ?_
    refine wpAny_updateSeq hS' rfl (wpAny_bind (wpAny_letGo ?_))
    rw [hname]
    refine wpAny_pure ⟨plainId_quiet F.plain_max_loop _, hR v _ tk _ hP (W.frame _ _ _ hst' fun b hbf o e => ?_) (Heap.get?_update_self _ hS' rfl) fun b o hbw hbS e => (Heap.get?_update_other _ _ (Ne.symm hbS)).trans (hk' b o hbw e)⟩
    exact (Heap.get?_update_other _ _ (fun h : S = b => hSf (by rw [h]; exact hbf))).trans e
  | false =>
    simp only [Bool.false_eq_true, if_false]
    refine wpAny_bind (wpAny_letGo ?_)
    rw [hname]
    exact wpAny_pure ⟨plainId_quiet F.plain_max_loop _, hR v h' tk c hP hst' hS' fun b o hbw hbS e => hk' b o hbw e⟩
theorem max_first (W : Walks prog w A.in1 I fp wr n P St) (S : Addr) (hSf : S ∉ fp) (hn : 0 < n) {c : Nat} (hst : St 0 s.heap)
    (hS : s.heap.get? S = some { cls := .type "list", dict := none, data := .seq #[] c, slots := #[] })
    (hR : ∀ v h' tk c', P 0 v → St 1 h' → h'.get? S = some { cls := .type "list", dict := none, data := .seq #[v, v] c', slots := #[] } → (∀ b o, b ∉ wr → b ≠ S → s.heap.get? b = some o → h'.get? b = some o) →
      codeAny (model prog w) A (.builtin "max.loop" ⟨[.ref I, .none, .ref S], []⟩) R { s with heap := h', toks := tk }) : codeAny (model prog w) A (.builtin "max.loop" ⟨[.ref I, .none, .ref S], []⟩) R s := by
  have hSw : S ∉ wr := fun h => hSf (W.sub _ h)
  have hname : (toString "max" ++ toString ".loop" : String) = "max.loop" := by decide
  refine codeAny_builtin F.entry_max_loop ?_
  rw [Around.under_plainId F.plain_max_loop _]
  show wpAny _ A.in1 (seqItems? (.ref S) >>= _) _ _ s
  refine wpAny_bind (wpAny_seqItems hS rfl ?_)
  show wpAny _ A.in1 (tryCatch (pyNext (.ref I)) _ >>= _) _ _ s
  refine wpAny_bind (wpAny_tryCatch (W.item 0 s _ _ hn hst fun v h' tk hP hst' hk' => ?_))
  have hS' := hk' S _ hSw hS
  show wpAny _ A.in1 (updateSeq S (fun _ => #[v, v]) >>= _) _ _ _
  refine wpAny_bind ?_
  refine wpAny_updateSeq hS' rfl ?_
  rw [hname]
  refine wpAny_pure ⟨plainId_quiet F.plain_max_loop _, hR v _ tk _ hP (W.frame _ _ _ hst' fun b hbf o e => ?_) (Heap.get?_update_self _ hS' rfl) fun b o hbw hbS e => (Heap.get?_update_other _ _ (Ne.symm hbS)).trans (hk' b o hbw e)⟩
  exact (Heap.get?_update_other _ _ (fun h : S = b => hSf (by rw [h]; exact hbf))).trans e
end
section
variable {c : Cx} {n : Nat}
theorem c_max {ds : List D} {d : D} (ok : c.Ok n) (hds : ds = [d] ∨ (∃ d', ds = [d', d] ∧ Alike d d' ∧ dep d ≤ 10 ∧ ans .Gt (cmpd d d') = true) ∨ (∃ d', ds = [d, d'] ∧ Alike d' d ∧ dep d' ≤ 10 ∧ ans .Gt (cmpd d' d) = false)) : CallD c (.builtin "max") [.list ds] d := fun s vs x r => by
  obtain ⟨v, r', rfl, r1, r2⟩ := repL_cons.mp r; obtain rfl := repL_nil.mp r2
  obtain ⟨l, items, rfl, pl, hl, rl⟩ := rep_list.mp r1
  have hname : (toString "max" ++ toString ".loop" : String) = "max.loop" := by decide
  refine call_function_tree F.kind_max F.plain_max F.entry_max (F.args_max1 _) ?_
  show wpAny _ c.A.in1 (Builtin.Builtins.bindParams "max" ["key", "default"] 0 ⟨[], []⟩ >>= _) _ _ s
  refine wpAny_bind (wpAny_of_eq (show Builtin.Builtins.bindParams "max" ["key", "default"] 0 ⟨[], []⟩ = pure [none, none] from rfl) ?_)
  refine wpAny_bind (wpAny_pure ?_)
  refine wpAny_bind (wpAny_pyIter_list hl (wpAny_bind (wpAny_newObj_type ?_)))
  have hlt : l < s.heap.objs.size := let ⟨o, ho, _⟩ := hl; Heap.lt_size ho
  have W := Walks.list (prog := c.W.prog) (w := c.W.w) (A := c.A.in1) ok.rm.hd s.heap.objs.size l (Nat.ne_of_lt hlt) items
  generalize hH : s.heap.push { cls := .type "list_iterator", data := .fields #[.ref l, .int 0 0] } = H at *
  have hHs : H.objs.size = s.heap.objs.size + 1 := by rw [← hH, Heap.size_push]
  have kH : Stays s.heap H := fun b o e => by rw [← hH]; exact Heap.get?_push_of_some _ e
  have hSf : H.objs.size ∉ [s.heap.objs.size, l] := by
    rw [hHs]
    intro hm
    rcases List.mem_cons.mp hm with e | e
    · exact Nat.succ_ne_self _ e
    · rw [← List.mem_singleton.mp e] at hlt
      exact Nat.not_succ_lt_self hlt
  have lv : ∀ b o, s.heap.get? b = some o → b ∉ [s.heap.objs.size] ∧ b ≠ H.objs.size := fun b o e => by
    have := Heap.lt_size e
    refine ⟨fun hm => ?_, fun q => ?_⟩
    · rw [List.mem_singleton.mp hm] at this; exact Nat.lt_irrefl _ this
    · rw [q, hHs] at this; exact Nat.not_succ_lt_self this
  rw [hname]
  refine wpAny_pure ⟨plainId_quiet F.plain_max_loop _, ?_⟩
  have hst0 : (H.push { cls := .type "list", dict := none, data := .seq ([] : List Value).toArray }).IsListIter s.heap.objs.size l 0 ∧ (H.push { cls := .type "list", dict := none, data := .seq ([] : List Value).toArray }).IsList l items :=
    ⟨⟨_, Heap.get?_push_of_some _ (by rw [← hH]; exact Heap.get?_push_size _ rfl), rfl, rfl⟩, hl.at fun o e => Heap.get?_push_of_some _ (kH _ _ e)⟩
  have hlen : items.size = ds.length := by rw [← rl.length]; simp
  have k0 : Stays s.heap (H.push { cls := .type "list", dict := none, data := .seq ([] : List Value).toArray }) := fun b o e => Heap.get?_push_of_some _ (kH _ _ e)
  have hpos : 0 < items.size := by
    rw [hlen]
    rcases hds with e | ⟨_, e, _⟩ | ⟨_, e, _⟩
    · rw [e]; simp
    · rw [e]; simp
    · rw [e]; simp
  refine max_first (s := { s with heap := H.push { cls := .type "list", dict := none, data := .seq ([] : List Value).toArray } }) W H.objs.size hSf hpos (c := 0) hst0 (Heap.get?_push_size H rfl) fun v0 h1 tk1 c1 p0 st1 hS1 k1 => ?_
  have s1 : Stays s.heap h1 := fun b o e => k1 b o (lv b o e).1 (lv b o e).2 (k0 b o e)
  rcases hds with e | ⟨d', e, al, hd, hc⟩ | ⟨d', e, al, hd, hc⟩
  · subst e
    have hn1 : items.size = 1 := hlen
    rw [hn1] at W
    refine max_done W H.objs.size hSf v0 c1 st1 hS1 fun h2 tk2 k2 => ?_
    have s2 : Stays s.heap h2 := fun b o e => k2 b o (lv b o e).1 (lv b o e).2 (s1 b o e)
    refine ⟨kp_both s s2, ?_⟩
    obtain ⟨d0, e0, rep0⟩ := rl.at' (i := 0) (v := v0) (by simpa using p0)
    simp at e0; subst e0
    exact rep0.keep s2
  · subst e
    have hn2 : items.size = 2 := hlen
    have W2 := W
    rw [hn2] at W2
    obtain ⟨d0, e0, rep0⟩ := rl.at' (i := 0) (v := v0) (by simpa using p0)
    simp at e0; subst e0
    refine max_next W2 H.objs.size hSf v0 c1 1 (by decide) st1 hS1 true (fun v s' p1 ks => ?_) fun v h2 tk2 c2 p1 st2 hS2 k2 => ?_
    · obtain ⟨d1, e1, rep1⟩ := rl.at' (i := 1) (v := v) (by simpa using p1)
      simp at e1; subst e1
      have ks' : Stays s.heap s'.heap := fun b o e => ks b o (lv b o e).1 (s1 b o e)
      have q := (cmpA_of al c.A.in1 s' v v0 (rep1.keep ks') (rep0.keep ks') (by have := ok.rm.un; show c.A.units + 1 + dep _ < 9900; omega)).rgt
      rw [hc] at q
      exact q
    · refine max_done W2 H.objs.size hSf v c2 st2 hS2 fun h3 tk3 k3 => ?_
      have s3 : Stays s.heap h3 := fun b o e => k3 b o (lv b o e).1 (lv b o e).2 (k2 b o (lv b o e).1 (lv b o e).2 (s1 b o e))
      refine ⟨kp_both s s3, ?_⟩
      obtain ⟨d1, e1, rep1⟩ := rl.at' (i := 1) (v := v) (by simpa using p1)
      simp at e1; subst e1
      exact rep1.keep s3
  · subst e
    have hn2 : items.size = 2 := hlen
    have W2 := W
    rw [hn2] at W2
    obtain ⟨d0, e0, rep0⟩ := rl.at' (i := 0) (v := v0) (by simpa using p0)
    simp at e0; subst e0
    refine max_next W2 H.objs.size hSf v0 c1 1 (by decide) st1 hS1 false (fun v s' p1 ks => ?_) fun v h2 tk2 c2 p1 st2 hS2 k2 => ?_
    · obtain ⟨d1, e1, rep1⟩ := rl.at' (i := 1) (v := v) (by simpa using p1)
      simp at e1; subst e1
      have ks' : Stays s.heap s'.heap := fun b o e => ks b o (lv b o e).1 (s1 b o e)
      have q := (cmpA_of al c.A.in1 s' v v0 (rep1.keep ks') (rep0.keep ks') (by have := ok.rm.un; show c.A.units + 1 + dep _ < 9900; omega)).rgt
      rw [hc] at q
      exact q
    · refine max_done W2 H.objs.size hSf v0 c2 st2 hS2 fun h3 tk3 k3 => ?_
      have s3 : Stays s.heap h3 := fun b o e => k3 b o (lv b o e).1 (lv b o e).2 (k2 b o (lv b o e).1 (lv b o e).2 (s1 b o e))
      refine ⟨kp_both s s3, ?_⟩
      obtain ⟨d1, e1, rep1⟩ := rl.at' (i := 1) (v := v) (by simpa using p1)
      simp at e1; subst e1
      exact rep0.keep s3
end
end Mine
end

section
open PySem PySem.W PyProof.Rows PySem.Calls
namespace Mine

namespace MF
theorem mro_map : mroOf (.type "map") = pure [.type "map", .type "object"] := by rw [mroOf_type]; kernel_rfl
theorem lookup_map_new : typeLookup (.type "map") "__new__" = pure (some (.builtin "map.__new__")) := by rw [typeLookup_type, builtinLookup_eq_fast]; kernel_rfl
theorem slot_map_init : Slot "map" "__init__" "object.__init__" :=
  .of (owner := "object") (n := "__init__") (by rw [typeLookup_type, builtinLookup_eq_fast]; kernel_rfl) (by decide +kernel) (by decide +kernel) (by decide +kernel)
    (by first | exact .inl (by decide +kernel) | exact .inr (by decide +kernel)) (by rw [isSubtype_type]; kernel_rfl)
theorem called_map : TypeCalled "map" "map.__new__" "object.__init__" :=
  ⟨by decide +kernel, by decide +kernel, ⟨_, _, mro_map⟩, madeBy_type mro_map lookup_map_new (by decide +kernel), by decide +kernel, by rw [isSubtype_type]; kernel_rfl, slot_map_init⟩
theorem typeCall_map_2 (a b : Value) : checkTypeCall "map" ⟨[a, b], []⟩ = pure () := by kernel_rfl
theorem newCall_map_2 (a b : Value) : checkBuiltinCall "map.__new__" ⟨[.type "map", a, b], []⟩ = pure () := by kernel_rfl
theorem entry_map_new : entryFor table "map.__new__" = some Builtin.«map.__new__» := entryFor_of_tree (by kernel_rfl)
theorem slot_map_next : Slot "map" "__next__" "map.__next__" :=
  .of (owner := "map") (n := "__next__") (by rw [typeLookup_type, builtinLookup_eq_fast]; kernel_rfl) (by decide +kernel) (by decide +kernel) (by decide +kernel)
    (by first | exact .inl (by decide +kernel) | exact .inr (by decide +kernel)) (by rw [isSubtype_type]; kernel_rfl)
theorem slot_map_iter : Slot "map" "__iter__" "map.__iter__" :=
  .of (owner := "map") (n := "__iter__") (by rw [typeLookup_type, builtinLookup_eq_fast]; kernel_rfl) (by decide +kernel) (by decide +kernel) (by decide +kernel)
    (by first | exact .inl (by decide +kernel) | exact .inr (by decide +kernel)) (by rw [isSubtype_type]; kernel_rfl)
theorem entry_map_next : entryFor table "map.__next__" = some Builtin.«map.__next__» := entryFor_of_tree (by kernel_rfl)
theorem entry_map_iter : entryFor table "map.__iter__" = some Builtin.«dict_keyiterator.__iter__» :=
  entryFor_alias (id' := "dict_keyiterator.__iter__") (by kernel_rfl) (by first | rfl | decide +kernel | (unfold String.splitOn; simp +decide [String.splitOnAux])) (by decide +kernel) (by kernel_rfl)
theorem args_map_next_1 (a : Value) : argsOk "map.__next__" ⟨[a], []⟩ := by unfold argsOk; kernel_rfl
theorem args_map_iter_1 (a : Value) : argsOk "map.__iter__" ⟨[a], []⟩ := by unfold argsOk; kernel_rfl
theorem nolen_map : typeLookup (.type "map") "__len__" = pure none := by rw [typeLookup_type, builtinLookup_eq_fast]; kernel_rfl
theorem nohint_map : typeLookup (.type "map") "__length_hint__" = pure none := by rw [typeLookup_type, builtinLookup_eq_fast]; kernel_rfl
theorem sub_map : isSubtype (.type "map") (.type "map") = pure true := by rw [isSubtype_type]; kernel_rfl
end MF

theorem meets_map_new (f : Value) (l : Addr) (items : Array Value) : Meets (Builtin.«map.__new__» ⟨[.type "map", f, .ref l], []⟩)
    (fun _ R s => s.heap.IsList l items ∧ ∀ H1 H2 H3, H1 = s.heap.push { cls := .type "list_iterator", data := .fields #[.ref l, .int 0 0] } → H2 = H1.push { cls := .type "tuple", data := .seq #[.ref s.heap.objs.size] } → H3 = H2.push { cls := .type "map", data := .fields #[.ref H1.objs.size, f] } → R (.ok (.ret (.ref H2.objs.size))) { s with heap := H3 }) := by
  intro prog w A R s h
  obtain ⟨hl, h⟩ := h
  have f1 := MF.sub_map
  obtain ⟨hp, g, d, tk, os⟩ := s
  refine wpAny_bind ?_
  unfold Builtin.SmallTypes.newClass
  dsimp only
  refine wpAny_bind (wpAny_pure ?_)
  simp only [Bool.not_true, Bool.false_eq_true, if_false]
  refine wpAny_bind (wpAny_of_eq f1 ?_)
  simp only [Bool.not_true, Bool.false_eq_true, if_false]
  refine wpAny_pure ?_
  dsimp only
  refine wpAny_bind (wpAny_pure ?_)
  refine wpAny_bind ?_
  show wpAny _ _ (do
    let its ← forIn [Value.ref l] (#[] : Array Value) fun x its => do
      let v ← holding its.toList (pyIter x)
      pure (ForInStep.yield (its.push v))
    pure its.toList) _ _ _
  rw [List.forIn_cons]
  refine wpAny_bind (wpAny_bind (wpAny_bind (wpAny_holding (wpAny_pyIter_list hl (wpAny_pure ?_)))))
  dsimp only
  rw [List.forIn_nil]
  refine wpAny_pure (wpAny_pure ?_)
  refine wpAny_bind (wpAny_newObj_type ?_ (by show (#[Value.ref hp.objs.size] : Array Value).size ≤ sizeLine; exact sizeLine_ge (by simp)))
  refine wpAny_bind ?_
  unfold Builtin.SmallTypes.newRecord
  refine wpAny_newObj_type (wpAny_pure ?_)
  exact h _ _ _ rfl rfl rfl

section
variable {prog : Program} {w : World} {A : Around} {E : Value → Shared → Prop} {s : Shared}
noncomputable abbrev IsMap (h : Heap) (M T : Addr) (f : Value) : Prop := h.get? M = some { cls := .type "map", data := .fields #[.ref T, f] }
theorem call_map {f : Value} {l : Addr} {items : Array Value} {Q : Value → Shared → Prop} (hl : s.heap.IsList l items)
    (h : ∀ H1 H2 H3, H1 = s.heap.push { cls := .type "list_iterator", data := .fields #[.ref l, .int 0 0] } → H2 = H1.push { cls := .type "tuple", data := .seq #[.ref s.heap.objs.size] } → H3 = H2.push { cls := .type "map", data := .fields #[.ref H1.objs.size, f] } → Q (.ref H2.objs.size) { s with heap := H3 }) :
    wpAny (model prog w) A (call (.type "map") [f, .ref l]) Q E s :=
  callType_new MF.called_map (by decide) (MF.typeCall_map_2 _ _) (MF.newCall_map_2 _ _) (fun obj => F.args_object_init_3 obj _ _) MF.entry_map_new (meets_map_new f l items)
    ⟨hl, fun H1 H2 H3 e1 e2 e3 => by subst e3; exact ⟨⟨_, Heap.get?_push_size _ rfl, rfl⟩, h H1 H2 _ e1 e2 rfl⟩⟩

theorem map_next_item {M T I l : Addr} {f : Value} {i : Nat} {items : Array Value} {x : Value} {Q : Option Value → Shared → Prop} (hM : IsMap s.heap M T f) (hT : s.heap.IsTuple T #[.ref I]) (hI : s.heap.IsListIter I l i) (hl : s.heap.IsList l items) (hx : items[i]? = some x) (hIM : M ≠ I)
    (h : ∀ h', h'.IsListIter I l (i + 1) → Heap.SameBut I s.heap h' → wpAny (model prog w) A.in1 (call f [x]) (fun v s' => Q (some v) s') NoE { s with heap := h' }) : wpAny (model prog w) A (pyNext (.ref M)) Q E s := by
  have hTy : s.TypeIs (.ref M) "map" := ⟨_, hM, rfl⟩
  unfold pyNext
  refine wpAny_bind (wpAny_attempt (wpAny_callSpecial?_slot (name := Str.ofString "__next__") hTy MF.slot_map_next (wpAny_call_entry MF.slot_map_next hTy MF.entry_map_next ?_ (MF.args_map_next_1 _))))
  show wpAny _ _ (field (.ref M) 0 >>= _) _ _ s
  refine wpAny_bind (wpAny_field hM rfl (x := .ref T) rfl ?_)
  obtain ⟨oT, hoT, hcT, nT, hdT⟩ := id hT
  refine wpAny_bind (wpAny_seqItems hoT hdT ?_)
  show wpAny _ _ (do
    let items ← forIn #[Value.ref I] (#[] : Array Value) fun it items => do
      let v ← holding items.toList (Builtin.SmallTypes.nextOf it)
      pure (ForInStep.yield (items.push v))
    let f ← field (.ref M) 1
    let result ← holding items.toList (call f items.toList)
    letGo items.toList [result]
    ret result) _ _ s
  refine wpAny_bind ?_
  rw [← Array.forIn_toList]
  show wpAny _ _ (forIn [Value.ref I] _ _) _ _ _
  rw [List.forIn_cons]
  refine wpAny_bind (wpAny_bind (wpAny_holding ?_))
  unfold Builtin.SmallTypes.nextOf
  obtain ⟨o, ho, hc, hd⟩ := id hI
  obtain ⟨ol, hol, _, nl, hdl⟩ := id hl
  refine wpAny_bind (wpAny_callSpecial?_slot (name := Str.ofString "__next__") hI.typeIs slot_listiter_next (wpAny_call_entry slot_listiter_next hI.typeIs entry_listiter_next ?_ (args_listiter_next _)))
  show wpAny _ _ (field (.ref I) 0 >>= _) _ _ s
  refine wpAny_bind (wpAny_field ho hd (x := .ref l) rfl ?_)
  show wpAny _ _ (if (Value.ref l == Value.none) = true then _ else _) _ _ s
  rw [if_neg (show ¬ ((Value.ref l == Value.none) = true) from Bool.false_ne_true)]
  show wpAny _ _ (field (.ref I) 1 >>= _) _ _ s
  refine wpAny_bind (wpAny_field ho hd (x := .int i 0) rfl ?_)
  show wpAny _ _ (seqItems? (.ref l) >>= _) _ _ s
  refine wpAny_bind (wpAny_seqItems hol hdl ?_)
  simp only [Int.toNat_natCast, hx]
  refine wpAny_bind (wpAny_setField ho hd (by simp) (wpAny_pure ⟨x, rfl, wpAny_pure (wpAny_pure ?_)⟩))
  dsimp only
  rw [List.forIn_nil]
  refine wpAny_pure ?_
  have hit : (s.heap.update I (Obj.mapFields (·.setIfInBounds 1 (rawInt (((i : Nat) : Int) + 1))))).IsListIter I l (i + 1) :=
    ⟨_, Heap.get?_update_self _ ho (Obj.isFreed_of_fields (Obj.data_mapFields hd _)), (Obj.cls_mapFields ..).trans hc, by
      rw [Obj.data_mapFields hd]; simp [rawInt]⟩
  refine wpAny_bind (wpAny_field (Heap.get?_update_other _ _ (Ne.symm hIM) |>.trans hM) rfl (x := f) rfl ?_)
  refine wpAny_bind (wpAny_holding (noE (h _ hit (Heap.SameBut.update ..)) fun v s' hq => wpAny_bind (wpAny_letGo (wpAny_pure ⟨v, rfl, wpAny_pure hq⟩))))
theorem map_next_end {M T I l : Addr} {f : Value} {i : Nat} {items : Array Value} {Q : Option Value → Shared → Prop} (hh : A.handled = none) (hM : IsMap s.heap M T f) (hT : s.heap.IsTuple T #[.ref I]) (hI : s.heap.IsListIter I l i) (hl : s.heap.IsList l items) (hx : items[i]? = none)
    (h : ∀ h', Heap.ExtBut I s.heap h' → Q none { s with heap := h' }) : wpAny (model prog w) A (pyNext (.ref M)) Q E s := by
  have hTy : s.TypeIs (.ref M) "map" := ⟨_, hM, rfl⟩
  unfold pyNext
  refine wpAny_bind (wpAny_attempt (wpAny_callSpecial?_slot (name := Str.ofString "__next__") hTy MF.slot_map_next (wpAny_call_entry MF.slot_map_next hTy MF.entry_map_next ?_ (MF.args_map_next_1 _))))
  show wpAny _ _ (field (.ref M) 0 >>= _) _ _ s
  refine wpAny_bind (wpAny_field hM rfl (x := .ref T) rfl ?_)
  obtain ⟨oT, hoT, hcT, nT, hdT⟩ := id hT
  refine wpAny_bind (wpAny_seqItems hoT hdT ?_)
  show wpAny _ _ (do
    let items ← forIn #[Value.ref I] (#[] : Array Value) fun it items => do
      let v ← holding items.toList (Builtin.SmallTypes.nextOf it)
      pure (ForInStep.yield (items.push v))
    let f ← field (.ref M) 1
    let result ← holding items.toList (call f items.toList)
    letGo items.toList [result]
    ret result) _ _ s
  refine wpAny_bind ?_
  rw [← Array.forIn_toList]
  show wpAny _ _ (forIn [Value.ref I] _ _) _ _ _
  rw [List.forIn_cons]
  refine wpAny_bind (wpAny_bind (wpAny_holding ?_))
  unfold Builtin.SmallTypes.nextOf
  obtain ⟨o, ho, hc, hd⟩ := id hI
  obtain ⟨ol, hol, _, nl, hdl⟩ := id hl
  refine wpAny_bind (wpAny_callSpecial?_slot (name := Str.ofString "__next__") hI.typeIs slot_listiter_next (wpAny_call_entry slot_listiter_next hI.typeIs entry_listiter_next ?_ (args_listiter_next _)))
  show wpAny _ _ (field (.ref I) 0 >>= _) _ _ s
  refine wpAny_bind (wpAny_field ho hd (x := .ref l) rfl ?_)
  show wpAny _ _ (if (Value.ref l == Value.none) = true then _ else _) _ _ s
  rw [if_neg (show ¬ ((Value.ref l == Value.none) = true) from Bool.false_ne_true)]
  show wpAny _ _ (field (.ref I) 1 >>= _) _ _ s
  refine wpAny_bind (wpAny_field ho hd (x := .int i 0) rfl ?_)
  show wpAny _ _ (seqItems? (.ref l) >>= _) _ _ s
  refine wpAny_bind (wpAny_seqItems hol hdl ?_)
  simp only [Int.toNat_natCast, hx]
  refine wpAny_bind (wpAny_rule (wpAny_bind (wpAny_setField ho hd (by simp) ?_)))
  show wpAny _ _ (newExc (.type "StopIteration") [] >>= _) _ _ _
  refine wpAny_bind ?_
  simp only [newExc, newTuple]
  refine wpAny_bind (wpAny_newObj_type ?_ (by size_fits))
  refine wpAny_bind (m := firstArgMember _ _) (wpAny_of_eq (a := Value.none) (by first | rfl | (simp only [firstArgMember]; rfl)) ?_)
  refine wpAny_newObj_type ?_ (by size_fits)
  simp only [raiseNew]
  refine wpAny_bind (wpAny_handled ?_)
  rw [show A.in1.in1.handled = none from hh]
  refine wpAny_bind (wpAny_pure (wpAny_throw ?_))
  refine wpAny_bind (wpAny_isInstance (T := "StopIteration") (b := true) ⟨_, Heap.get?_push_size _ rfl, rfl⟩ isSubtype_stop ?_)
  exact wpAny_pure (h _ (((Heap.SameBut.update ..).extBut.push _).push _))
theorem map_self {M T : Addr} {f : Value} {Q : Value → Shared → Prop} (hM : IsMap s.heap M T f) (h : Q (.ref M) s) : wpAny (model prog w) A (pyIter (.ref M)) Q E s := by
  have hTy : s.TypeIs (.ref M) "map" := ⟨_, hM, rfl⟩
  refine wpAny_pyIter_slot hTy MF.slot_map_iter (wpAny_call_entry MF.slot_map_iter hTy MF.entry_map_iter ?_ (MF.args_map_iter_1 _))
  show wpAny _ _ (ret (.ref M)) _ _ s
  exact wpAny_pure ⟨_, rfl, "map", _, hTy, MF.slot_map_next.lookup, h⟩

theorem extend_loop {R : Result → Shared → Prop} {I S : Addr} {res : Value} {N : Nat} (J : Nat → Shared → Prop)
    (turn : ∀ i s', J i s' → i < N → ∃ acc cc, s'.heap.get? S = some { cls := .type "list", dict := none, data := .seq acc cc, slots := #[] } ∧ acc.size = i ∧
      wpAny (model prog w) A.in1 (pyNext (.ref I)) (fun r s1 => ∃ v, r = some v ∧ s1.heap.get? S = some { cls := .type "list", dict := none, data := .seq acc cc, slots := #[] } ∧
        (∀ h' c', h'.get? S = some { cls := .type "list", dict := none, data := .seq (acc.push v) c', slots := #[] } → Heap.SameBut S s1.heap h' → J (i + 1) { s1 with heap := h' })) NoE s')
    (done : ∀ s', J N s' → wpAny (model prog w) A.in1 (pyNext (.ref I)) (fun r s1 => r = none ∧ R (.ok (.ret res)) s1) NoE s') (hN : N ≤ 100000) :
    ∀ (k i : Nat) (s' : Shared), N - i = k → i ≤ N → J i s' → codeAny (model prog w) A (.builtin "list.extend.loop" ⟨[.ref S, .ref I, res], []⟩) R s' := by
  intro k
  induction k with
  | zero =>
    intro i s' hk hi hJ
    obtain rfl : i = N := by omega
    refine codeAny_builtin F.entry_extend_loop ?_
    rw [Around.under_plainId F.plain_extend_loop _]
    show wpAny _ A.in1 (pyNext (.ref I) >>= _) _ _ s'
    refine wpAny_bind (noE (done s' hJ) fun r s1 ⟨e, hR⟩ => ?_)
    subst e
    exact wpAny_pure hR
  | succ k ih =>
    intro i s' hk hi hJ
    obtain ⟨acc, cc, hS, hsz, hn⟩ := turn i s' hJ (by omega)
    refine codeAny_builtin F.entry_extend_loop ?_
    rw [Around.under_plainId F.plain_extend_loop _]
    show wpAny _ A.in1 (pyNext (.ref I) >>= _) _ _ s'
    refine wpAny_bind (noE hn fun r s1 ⟨v, e, hS1, hJ1⟩ => ?_)
    subst e
    show wpAny _ A.in1 (updateSeq S (·.push v) >>= _) _ _ _
    refine wpAny_bind ?_
    have hl : acc.size ≤ sizeLine := by rw [hsz]; exact sizeLine_ge (by omega)
    refine wpAny_updateSeq hS1 rfl (wpAny_pure ⟨plainId_quiet F.plain_extend_loop _, ih (i + 1) _ (by omega) (by omega) (hJ1 _ _ (Heap.get?_update_self _ hS1 rfl) (Heap.SameBut.update ..))⟩) hl (by show (acc.push v).size ≤ sizeLine + 1; rw [Array.size_push]; omega)

theorem collect_map {M T : Addr} {f : Value} {Q : List Value → Shared → Prop} (hM : IsMap s.heap M T f)
    (run : ∀ h1 c1, h1.get? s.heap.objs.size = some { cls := .type "list", dict := none, data := .seq #[] c1, slots := #[] } → Stays s.heap h1 →
      codeAny (model prog w) A (.builtin "list.extend.loop" ⟨[.ref s.heap.objs.size, .ref M, .ref s.heap.objs.size], []⟩) (fun r s' => ∃ acc c', r = .ok (.ret (.ref s.heap.objs.size)) ∧ s'.heap.get? s.heap.objs.size = some { cls := .type "list", dict := none, data := .seq acc c', slots := #[] } ∧ Q acc.toList s') { s with heap := h1 }) :
    wpAny (model prog w) A (collect (.ref M)) Q E s := by
  have hSM : s.heap.objs.size ≠ M := fun e => by have := Heap.lt_size hM; rw [e] at this; exact Nat.lt_irrefl _ this
  have hTy : s.TypeIs (.ref M) "map" := ⟨_, hM, rfl⟩
  unfold collect
  refine wpAny_bind (wpAny_runValue (codeAny_builtin F.entry_proto_collect ?_))
  rw [Around.under_plainId F.plain_proto_collect _]
  show wpAny _ A.in1 (newList [] >>= fun l => again (.builtin "list.__iadd__" ⟨[l, .ref M], []⟩)) _ _ s
  refine wpAny_bind (wpAny_newObj_type ?_)
  refine wpAny_pure ⟨plainId_quiet F.plain_list_iadd _, codeAny_builtin F.entry_list_iadd ?_⟩
  rw [Around.under_plainId F.plain_list_iadd _]
  have hM1 : IsMap (s.heap.push { cls := .type "list", data := .seq ([] : List Value).toArray }) M T f := Heap.get?_push_of_some _ hM
  show wpAny _ A.in1 (Builtin.List.listExtendWith (.ref s.heap.objs.size) (.ref M) (.ref s.heap.objs.size)) _ _ _
  unfold Builtin.List.listExtendWith
  refine wpAny_bind (wpAny_typeOf (T := "map") ⟨_, hM1, rfl⟩ ?_)
  have h1 : Builtin.List.listSameRef (.ref s.heap.objs.size) (.ref M) = false := by simp [Builtin.List.listSameRef, hSM]
  have h2 : (Value.type "map" == Value.type "list") = false := by decide
  have h3 : (Value.type "map" == Value.type "tuple") = false := by decide
  simp only [h1, h2, h3, Bool.or_false, Bool.false_eq_true, if_false]
  refine wpAny_bind (map_self hM1 ?_)
  refine wpAny_bind (wpAny_holding ?_)
  unfold Builtin.List.listLengthHint
  refine wpAny_bind (wpAny_specialOf (T := "map") ⟨_, hM1, rfl⟩ MF.nolen_map ?_)
  show wpAny _ A.in1 (specialOf (Value.ref M) (Str.ofString "__length_hint__") >>= _) _ _ _
  refine wpAny_bind (wpAny_specialOf (T := "map") ⟨_, hM1, rfl⟩ MF.nohint_map ?_)
  refine wpAny_pure ?_
  show wpAny _ A.in1 (rule "list.extend.makes-room" >>= fun _ => Builtin.List.listTouch (.ref s.heap.objs.size) >>= fun _ =>
    again (.builtin "list.extend.loop" ⟨[.ref s.heap.objs.size, .ref M, .ref s.heap.objs.size], []⟩)) _ _ _
  refine wpAny_bind (wpAny_rule ?_)
  have hS₁ : (s.heap.push { cls := .type "list", data := .seq ([] : List Value).toArray }).get? s.heap.objs.size = some { cls := .type "list", data := .seq ([] : List Value).toArray } := Heap.get?_push_size _ rfl
  refine wpAny_bind ?_
  show wpAny _ A.in1 (updateSeq s.heap.objs.size (·.push .none) >>= fun _ => updateSeq s.heap.objs.size (·.pop)) _ _ _
  refine wpAny_bind (wpAny_updateSeq hS₁ rfl ?_)
  have hS₂ := Heap.get?_update_self (Obj.mapSeq (·.push Value.none)) hS₁ rfl
  refine wpAny_updateSeq hS₂ rfl ?_
  have hS₃ := Heap.get?_update_self (Obj.mapSeq (·.pop)) hS₂ rfl
  have oth : ∀ b o, b ≠ s.heap.objs.size → (s.heap.push { cls := .type "list", data := .seq ([] : List Value).toArray }).get? b = some o →
      (((s.heap.push { cls := .type "list", data := .seq ([] : List Value).toArray }).update s.heap.objs.size (Obj.mapSeq (·.push Value.none))).update s.heap.objs.size (Obj.mapSeq (·.pop))).get? b = some o :=
    fun b o hb e => (Heap.get?_update_other _ _ (Ne.symm hb)).trans ((Heap.get?_update_other _ _ (Ne.symm hb)).trans e)
  refine wpAny_pure ⟨plainId_quiet F.plain_extend_loop _, codeAny_mono (run _ _ hS₃ fun b o e => oth b o (Nat.ne_of_lt (Heap.lt_size e)) (Heap.get?_push_of_some _ e)) fun r s' ⟨acc, c', e, hS', hq⟩ => ?_⟩
  subst e
  show wpAny _ A (load s.heap.objs.size >>= _) _ _ s'
  exact wpAny_bind (wpAny_load hS' (wpAny_pure hq))
theorem tuple_map {M T : Addr} {f : Value} {Q : Value → Shared → Prop} (hM : IsMap s.heap M T f)
    (run : ∀ h1 c1, h1.get? s.heap.objs.size = some { cls := .type "list", dict := none, data := .seq #[] c1, slots := #[] } → Stays s.heap h1 →
      codeAny (model prog w) A.in1.in1 (.builtin "list.extend.loop" ⟨[.ref s.heap.objs.size, .ref M, .ref s.heap.objs.size], []⟩) (fun r s' => ∃ acc c', r = .ok (.ret (.ref s.heap.objs.size)) ∧ s'.heap.get? s.heap.objs.size = some { cls := .type "list", dict := none, data := .seq acc c', slots := #[] } ∧
        acc.size ≤ 1000 ∧ Q (.ref s'.heap.objs.size) { s' with heap := s'.heap.push { cls := .type "tuple", data := .seq acc } }) { s with heap := h1 }) :
    wpAny (model prog w) A (call (.type "tuple") [.ref M]) Q E s := by
  refine callType_codes (Q₁ := fun obj s₁ => s₁.TypeIs obj "tuple" ∧ Q obj s₁) F.called_tuple (F.typeCall_tuple_1 _) F.entry_object_init ?_ fun obj s₁ h₁ => ?_
  · refine codeAny_of_tree ?_
    show wpAny _ A.in1.in1 (do checkBuiltinCall "tuple.__new__" ⟨[.type "tuple", .ref M], []⟩; again (.builtin "tuple.__new__" ⟨[.type "tuple", .ref M], []⟩)) _ _ s
    refine wpAny_bind (wpAny_of_eq (F.newCall_tuple_1 _) (wpAny_pure ⟨plainId_quiet F.plain_tuple_new _, codeAny_builtin F.entry_tuple_new ?_⟩))
    rw [Around.under_plainId F.plain_tuple_new _]
    have hsub := sub_tuple_self
    have hinit := init_tuple_lookup
    have hmh := madeHere_tuple
    have hTI : s.TypeIs (.ref M) "map" := ⟨_, hM, rfl⟩
    wp_walk using wpAny_typeOf hTI, collect_map hM
    intro h1 c1 e1 k1
    refine codeAny_mono (run h1 c1 e1 k1) fun r s' ⟨acc, c', e, hS', hsz, hq⟩ => ⟨acc, c', e, hS', ?_⟩
    refine wpAny_bind (wpAny_pure ?_)
    dsimp only
    unfold Builtin.Tuple.tupleExact
    have ea : acc.toList.toArray = acc := by simp
    rw [ea]
    refine wpAny_bind (wpAny_newObj_type ?_ (by show acc.size ≤ sizeLine; exact sizeLine_ge (by omega)))
    exact wpAny_pure ⟨⟨_, Heap.get?_push_size _ rfl, rfl⟩, hq⟩
  · exact ⟨h₁.1, F.args_object_init_2 obj _, object_init_meets F.called_tuple.init.lookup F.called_tuple.made (by decide) _ _ _ _ s₁ ⟨h₁.1, rfl, h₁.2⟩⟩
end
end Mine
end

section
open PySem PySem.W PyProof.Rows PySem.Calls
namespace Mine

noncomputable def EvR (c : Cx) (ρ κ : Loc) (e : Expr) (R : Shared → Value → Shared → Prop) : Prop :=
  ∀ s, FrD c ρ κ s.heap → wpAny c.W.M c.A (eval e c.env) (fun v s' => Kp s s' ∧ R s v s') NoE s
noncomputable def EvRL (c : Cx) (ρ κ : Loc) (es : List Expr) (R : Shared → List Value → Shared → Prop) : Prop :=
  ∀ pos s, FrD c ρ κ s.heap → wpAny c.W.M c.A (spliced (backTo pos (starEach es c.env))) (fun vs s' => Kp s s' ∧ R s vs s') NoE s
section
variable {c : Cx} {ρ κ : Loc} {n : Nat}
theorem evRL_of {es : List Expr} {ds : List D} (h : EvL c ρ κ es ds) : EvRL c ρ κ es (fun _ vs s' => RepL c.P s'.heap ds vs) := h.go
theorem evRL_one {e : Expr} {R : Shared → Value → Shared → Prop} (h : EvR c ρ κ e R) (he : starEach [e] c.env = (false, eval e c.env) :: starEach [] c.env := by rfl) : EvRL c ρ κ [e] (fun s vs s' => ∃ v, vs = [v] ∧ R s v s') := fun pos s F =>
  args_cons (noE (h s F) fun v s1 ⟨k1, r1⟩ => args_nil ⟨k1, v, rfl, r1⟩) he
theorem evR_call {f : Expr} {fv : Value} {es : List Expr} {RL : Shared → List Value → Shared → Prop} {R : Shared → Value → Shared → Prop} {pos : Pos} (hf : Ev c ρ κ f (.val fv)) (ha : EvRL c ρ κ es RL) (hk : Keepers c fv)
    (hc : ∀ s0 vs s, FrD c ρ κ s0.heap → FrD c ρ κ s.heap → Kp s0 s → RL s0 vs s → wpAny c.W.M c.A (call fv vs) (fun v s' => Kp s0 s' ∧ (∀ s₁, Kp s₁ s0 → R s₁ v s')) NoE s)
    (he : eval (.Call f es [] pos) c.env = (do callWith pos (← eval f c.env) [] (backTo pos (starEach es c.env)) (backToKw pos (keywordEach [] c.env))) := by rfl)
    (hp : ∃ x r, backTo pos (starEach es c.env) = (false, x) :: r := by exact ⟨_, _, rfl⟩) (hq : (backTo pos (starEach es c.env)).any (·.1) = false := by rfl) :
    EvR c ρ κ (.Call f es [] pos) R := fun s F => by
  rw [he]
  refine wpAny_bind (noE (hf.go s F) fun v s1 ⟨k1, r1⟩ => ?_)
  obtain rfl := rep_val.mp r1
  refine callWith_of (P := fun h => St c h) (by show ((backTo pos (starEach es c.env)).any (·.1) || false) = false; rw [hq]; rfl) hk ?_
  have key := ha pos s1 (F.on k1.stays)
  obtain ⟨x, r, e⟩ := hp
  rw [e] at key ⊢
  refine evalArgs_plain (noE key fun vs s2 ⟨k2, r2⟩ => ⟨((F.on k1.stays).on k2.stays).toSt, ?_⟩)
  exact noE (hc s1 vs s2 (F.on k1.stays) ((F.on k1.stays).on k2.stays) k2 r2) fun v s3 ⟨k3, r3⟩ => ⟨k1.trans k3, r3 s k1⟩
theorem evR_to {e : Expr} {R : Shared → Value → Shared → Prop} {d : D} (h : EvR c ρ κ e R) (hd : ∀ s v s', R s v s' → Rep c.P s'.heap d v) : Ev c ρ κ e d := ⟨fun s F => noE (h s F) fun v s1 ⟨k1, r⟩ => ⟨k1, hd _ _ _ r⟩⟩

/- tuple(map(f, list)) -/
noncomputable def Cx.dp4 (c : Cx) (P' : Addr → Prop) : Cx := { c with A := c.A.in1.in1.in1.in1, P := P' }
theorem dp4_ok {P' : Addr → Prop} (ok : c.Ok (n + 4)) : (c.dp4 P').Ok n := ⟨ok.gd, ok.rm.in1.in1.in1.in1, ok.kind, ok.glob, ok.blt⟩
theorem none_of_kp {s s' : Shared} (k : Kp s s') {b : Addr} (h : s'.heap.get? b = none) : s.heap.get? b = none := by
  cases q : s.heap.get? b with
  | none => rfl
  | some o => rw [k.stays b o q] at h; cases h

inductive MapO (c : Cx) (f : Value) (ds : List D) (s0 : Shared) (v : Value) (s : Shared) : Prop
  | mk (M T I l : Addr) (items : Array Value) (e : v = .ref M) (hM : IsMap s.heap M T f) (hT : s.heap.IsTuple T #[.ref I]) (hI : s.heap.IsListIter I l 0) (hL : s.heap.IsList l items) (rl : RepL c.P s.heap ds items.toList)
    (n1 : M ≠ I) (n2 : T ≠ I) (n3 : l ≠ I) (hI0 : s0.heap.get? I = none) : MapO c f ds s0 v s
inductive TupI (S I l : Addr) (s : Shared) (P' : Addr → Prop) (es : List D) (n i : Nat) (s' : Shared) : Prop
  | mk (h : Heap) (tk : Nat) (acc : Array Value) (cc : Nat) (e : s' = { s with heap := h, toks := tk }) (hS : h.get? S = some { cls := .type "list", dict := none, data := .seq acc cc, slots := #[] }) (r : RepL P' h (es.take i) acc.toList)
    (hI : h.IsListIter I l i) (hi : i ≤ n) (kh : ∀ b o, b ≠ I → s.heap.get? b = some o → h.get? b = some o) (nw : New P' h) : TupI S I l s P' es n i s'
theorem ev_tuplemap {tf mf ff le : Expr} {p1 p2 : Pos} {f : Value} {ds es : List D} (ok : c.Ok n) (h1 : Ev c ρ κ tf (.val (.type "tuple"))) (h2 : Ev c ρ κ mf (.val (.type "map"))) (h3 : Ev c ρ κ ff (.val f)) (h4 : Ev c ρ κ le (.list ds)) (hl : es.length = ds.length) (hn : ds.length ≤ 1000)
    (hc : ∀ (P' : Addr → Prop) (j : Nat) (d e : D), ds[j]? = some d → es[j]? = some e → CallD (c.dp4 P') f [d] e)
    (he1 : eval (.Call tf [.Call mf [ff, le] [] p2] [] p1) c.env = (do callWith p1 (← eval tf c.env) [] (backTo p1 (starEach [.Call mf [ff, le] [] p2] c.env)) (backToKw p1 (keywordEach [] c.env))) := by rfl)
    (he2 : eval (.Call mf [ff, le] [] p2) c.env = (do callWith p2 (← eval mf c.env) [] (backTo p2 (starEach [ff, le] c.env)) (backToKw p2 (keywordEach [] c.env))) := by rfl)
    (g1 : starEach [.Call mf [ff, le] [] p2] c.env = (false, eval (.Call mf [ff, le] [] p2) c.env) :: starEach [] c.env := by rfl)
    (g2 : starEach [ff, le] c.env = (false, eval ff c.env) :: starEach [le] c.env := by rfl) (g3 : starEach [le] c.env = (false, eval le c.env) :: starEach [] c.env := by rfl)
    (hp1 : ∃ x r, backTo p1 (starEach [.Call mf [ff, le] [] p2] c.env) = (false, x) :: r := by exact ⟨_, _, rfl⟩) (hq1 : (backTo p1 (starEach [.Call mf [ff, le] [] p2] c.env)).any (·.1) = false := by rfl)
    (hp2 : ∃ x r, backTo p2 (starEach [ff, le] c.env) = (false, x) :: r := by exact ⟨_, _, rfl⟩) (hq2 : (backTo p2 (starEach [ff, le] c.env)).any (·.1) = false := by rfl) :
    Ev c ρ κ (.Call tf [.Call mf [ff, le] [] p2] [] p1) (.tup es) := by
  have hm : EvR c ρ κ (.Call mf [ff, le] [] p2) (fun s0 v s => MapO c f ds s0 v s) := by
    refine evR_call h2 (evRL_of (evL_cons h3 (evL_cons h4 evL_nil g3) g2)) keeps_type (fun s0 vs s F0 F k r => ?_) he2 hp2 hq2
    obtain ⟨v1, r1', rfl, r1, r2⟩ := repL_cons.mp r
    obtain ⟨v2, r2', rfl, r3, r4⟩ := repL_cons.mp r2
    obtain rfl := repL_nil.mp r4
    obtain rfl := rep_val.mp r1
    obtain ⟨l, items, rfl, pl, hL, rl⟩ := rep_list.mp r3
    refine call_map hL fun H1 H2 H3 e1 e2 e3 => ?_
    have z1 : H1.objs.size = s.heap.objs.size + 1 := by rw [e1, Heap.size_push]
    have z2 : H2.objs.size = s.heap.objs.size + 2 := by rw [e2, Heap.size_push, z1]
    have kk : Stays s.heap H3 := fun b o e => by rw [e3]; refine Heap.get?_push_of_some _ ?_; rw [e2]; refine Heap.get?_push_of_some _ ?_; rw [e1]; exact Heap.get?_push_of_some _ e
    have gI : H3.get? s.heap.objs.size = some { cls := .type "list_iterator", data := .fields #[.ref l, .int 0 0] } := by rw [e3]; refine Heap.get?_push_of_some _ ?_; rw [e2]; refine Heap.get?_push_of_some _ ?_; rw [e1]; exact Heap.get?_push_size _ rfl
    have gT : H3.get? H1.objs.size = some { cls := .type "tuple", data := .seq #[.ref s.heap.objs.size] } := by rw [e3]; refine Heap.get?_push_of_some _ ?_; rw [e2]; exact Heap.get?_push_size _ rfl
    have gM : H3.get? H2.objs.size = some { cls := .type "map", data := .fields #[.ref H1.objs.size, v1] } := by rw [e3]; exact Heap.get?_push_size _ rfl
    refine ⟨k.trans (kp_heap s kk), fun s₁ k₁ => ⟨H2.objs.size, H1.objs.size, s.heap.objs.size, l, items, rfl, gM, ⟨_, gT, rfl, _, rfl⟩, ⟨_, gI, rfl, rfl⟩, hL.at fun o e => kk _ o e, rl.keep kk, ?_, ?_, ?_, ?_⟩⟩
    · rw [z2]; exact Nat.ne_of_gt (by omega)
    · rw [z1]; exact Nat.ne_of_gt (by omega)
    · obtain ⟨o, ho, _⟩ := hL; exact Nat.ne_of_lt (Heap.lt_size ho)
    · exact none_of_kp (k₁.trans k) (Heap.get?_none_of_le (Nat.le_refl _))
  refine evR_to (evR_call (R := fun _ v s' => Rep c.P s'.heap (.tup es) v) h1 (evRL_one hm g1) keeps_type (fun s0 vs s F0 F k r => ?_) he1 hp1 hq1) fun _ _ _ h => h
  obtain ⟨v, rfl, M, T, I, l, items, rfl, hM, hT, hI, hL, rl, hMI, hTI, hlI, hI0⟩ := r
  have hlen : items.size = ds.length := by rw [← rl.length]; simp
  refine tuple_map hM fun h1 c1 e1 k1 => ?_
  generalize hS : s.heap.objs.size = S at *
  have sS : ∀ b o, s.heap.get? b = some o → b ≠ S := fun b o e q => by have := Heap.lt_size e; rw [hS, q] at this; exact Nat.lt_irrefl _ this
  let P' : Addr → Prop := fun a => c.P a ∧ a ≠ S
  have hSnew : c.P S := F.new S (by
    cases q : s.heap.get? S with
    | none => rfl
    | some o => exact absurd rfl (sS S o q))
  refine extend_loop (N := ds.length) (fun i s' => TupI S I l s P' es ds.length i s') ?_ ?_ (by omega) ds.length 0 { s with heap := h1 } (by omega) (Nat.zero_le _)
      ⟨h1, s.toks, #[], c1, rfl, e1, by simpa using repL_nil.mpr rfl, hI.at fun o e => k1 _ o e, Nat.zero_le _, fun b o _ e => k1 b o e, fun a e => ⟨F.new a ?_, ?_⟩⟩
  · rintro i s' ⟨h, tk, acc, cc, rfl, hSh, racc, hIh, hi, kh, hnew⟩ hlt
    have hacc : acc.size = i := by
      have := racc.length
      rw [List.length_take, Array.length_toList] at this
      omega
    refine ⟨acc, cc, hSh, hacc, ?_⟩
    obtain ⟨d, hd⟩ : ∃ d, ds[i]? = some d := ⟨_, List.getElem?_eq_getElem hlt⟩
    obtain ⟨e, hee⟩ : ∃ e, es[i]? = some e := ⟨_, List.getElem?_eq_getElem (by omega)⟩
    obtain ⟨x, hx, rx⟩ := rl.at hd
    have hx' : items[i]? = some x := by simpa using hx
    have hTh : h.IsTuple T #[.ref I] := hT.at fun o e => kh _ o hTI e
    have hLh : h.IsList l items := hL.at fun o e => kh _ o hlI e
    refine map_next_item (s := { s with heap := h, toks := tk }) (kh _ _ hMI hM) hTh hIh hLh hx' hMI fun h2 hI2 hs2 => ?_
    have ext2 := hs2.extBut
    have hIns : ∀ o, h.get? I = some o → ¬ SeqO o := fun o e ⟨vs, n, q⟩ => by
      obtain ⟨o', ho', _, hd'⟩ := hIh
      rw [ho'] at e; cases e; rw [hd'] at q; cases q
    have hIS : S ≠ I := fun q => hIns _ (q ▸ hSh) ⟨_, _, rfl⟩
    have hnew2 : New P' h2 := fun a e => by
      by_cases q : a = I
      · obtain ⟨o, ho, _⟩ := hI2
        rw [q, ho] at e; cases e
      · exact hnew a (by rw [← hs2.2 a q]; exact e)
    have st : St (c.dp4 P') h2 := ⟨fun b o e => by
      have e0 := F0.keep b o e
      have bI : b ≠ I := fun q => by rw [q, hI0] at e0; cases e0
      exact ext2 b o bI (kh b o bI (F.keep b o e)), hnew2⟩
    have rx2 : Rep P' h2 d x := rx.mono fun a o pa ha hsq => by
      have aI : a ≠ I := fun q => by
        obtain ⟨o', ho', _, hd'⟩ := hI
        rw [q, ho'] at ha; cases ha
        obtain ⟨vs, n, q⟩ := hsq; rw [hd'] at q; cases q
      exact ⟨⟨pa, sS a o ha⟩, ext2 a o aI (kh a o aI ha)⟩
    refine noE (hc P' i d e hd hee _ [x] st (repL_cons.mpr ⟨x, [], rfl, rx2, repL_nil.mpr rfl⟩)) fun v s3 ⟨k3, r3⟩ => ?_
    obtain ⟨h3, tk3, rfl, hk3⟩ := k3
    have hS3 : h3.get? S = some { cls := .type "list", dict := none, data := .seq acc cc, slots := #[] } := hk3 _ _ (ext2 _ _ hIS hSh)
    refine ⟨v, rfl, hS3, fun h4 c4 hS4 hs4 => ⟨h4, tk3, acc.push v, c4, rfl, hS4, ?_, ?_, hlt, ?_, ?_⟩⟩
    · rw [List.take_succ, hee, Array.toList_push]
      refine RepL.snoc (racc.mono fun a o pa ha hsq => ⟨pa, hs4.extBut a o pa.2 (hk3 a o (ext2 a o (fun q => hIns o (q ▸ ha) hsq) ha))⟩) (r3.mono fun a o pa ha hsq => ⟨pa, hs4.extBut a o pa.2 ha⟩)
    · exact hI2.at fun o e => hs4.extBut _ o (Ne.symm hIS) (hk3 _ o e)
    · exact fun b o bI e => hs4.extBut b o (sS b o e) (hk3 b o (ext2 b o bI (kh b o bI e)))
    · intro a e
      by_cases q : a = S
      · subst q; rw [hS4] at e; cases e
      · exact (hnew2.keep hk3) a (by rw [← hs4.2 a q]; exact e)
  · rintro s' ⟨h, tk, acc, cc, rfl, hSh, racc, hIh, hi, kh, hnew⟩
    have hTh : h.IsTuple T #[.ref I] := hT.at fun o e => kh _ o hTI e
    have hLh : h.IsList l items := hL.at fun o e => kh _ o hlI e
    refine map_next_end (s := { s with heap := h, toks := tk }) ok.rm.hd (kh _ _ hMI hM) hTh hIh hLh (by rw [Array.getElem?_eq_none]; omega) fun h2 hx2 => ⟨rfl, ?_⟩
    have hIns : ∀ o, h.get? I = some o → ¬ SeqO o := fun o e ⟨vs, n, q⟩ => by
      obtain ⟨o', ho', _, hd'⟩ := hIh
      rw [ho'] at e; cases e; rw [hd'] at q; cases q
    have hIS : S ≠ I := fun q => hIns _ (q ▸ hSh) ⟨_, _, rfl⟩
    have hacc : acc.size = ds.length := by
      have := racc.length
      rw [List.length_take, Array.length_toList] at this
      omega
    have k0 : Stays s0.heap h2 := fun b o e => by
      have bI : b ≠ I := fun q => by rw [q, hI0] at e; cases e
      exact hx2 b o bI (kh b o bI (k.stays b o e))
    have hS2 := hx2 _ _ hIS hSh
    refine ⟨acc, cc, rfl, hS2, by omega, ?_, fun _ _ => ?_⟩
    · obtain ⟨a1, a2, rfl, _⟩ := k
      exact ⟨_, _, rfl, fun b o e => Heap.get?_push_of_some _ (k0 b o e)⟩
    · refine rep_tup.mpr ⟨_, acc, rfl, ?_, ⟨_, Heap.get?_push_size _ rfl, rfl, _, rfl⟩, ?_⟩
      · refine F0.new _ ?_
        cases q : s0.heap.get? h2.objs.size with
        | none => rfl
        | some o => exact absurd (Heap.lt_size (k0 _ o q)) (Nat.lt_irrefl _)
      · rw [List.take_of_length_le (by omega)] at racc
        exact racc.mono fun a o pa ha hsq => ⟨pa.1, Heap.get?_push_of_some _ (hx2 a o (fun q => hIns o (q ▸ ha) hsq) ha)⟩
  · cases q : s.heap.get? a with
    | none => rfl
    | some o => rw [k1 a o q] at e; cases e
  · rintro rfl
    rw [e1] at e; cases e
end
end Mine
end

section
open PySem PySem.W PyProof.Rows PySem.Calls
namespace Mine
namespace SF
theorem slot_bool_hash : Slot "bool" "__hash__" "int.__hash__" :=
  .of (owner := "int") (n := "__hash__") (by rw [typeLookup_type, builtinLookup_eq_fast]; kernel_rfl) (by decide +kernel) (by decide +kernel) (by decide +kernel)
    (by first | exact .inl (by decide +kernel) | exact .inr (by decide +kernel)) (by rw [isSubtype_type]; kernel_rfl)
theorem entry_set_iter : entryFor table "set.__iter__" = some Builtin.«frozenset.__iter__» :=
  entryFor_alias (id' := "frozenset.__iter__") (by kernel_rfl) (by first | rfl | decide +kernel | (unfold String.splitOn; simp +decide [String.splitOnAux])) (by decide +kernel) (by kernel_rfl)
theorem slot_siter_next : Slot "set_iterator" "__next__" "set_iterator.__next__" :=
  .of (owner := "set_iterator") (n := "__next__") (by rw [typeLookup_type, builtinLookup_eq_fast]; kernel_rfl) (by decide +kernel) (by decide +kernel) (by decide +kernel)
    (by first | exact .inl (by decide +kernel) | exact .inr (by decide +kernel)) (by rw [isSubtype_type]; kernel_rfl)
theorem entry_siter_next : entryFor table "set_iterator.__next__" = some Builtin.«set_iterator.__next__» := entryFor_of_tree (by kernel_rfl)
theorem args_siter_next (a : Value) : argsOk "set_iterator.__next__" ⟨[a], []⟩ := by unfold argsOk; kernel_rfl
end SF
section
variable {prog : Program} {w : World} {A : Around} {E : Value → Shared → Prop} {s : Shared}
theorem pyHash_true {Q : Int → Shared → Prop} (h : Q 1 { s with toks := s.toks + 1 }) :
    wpAny (model prog w) A (pyHash (.bool true)) Q E s := by
  have hT : s.TypeIs (.bool true) "bool" := (rfl : typeOf (.bool true) = pure (.type "bool"))
  unfold pyHash
  refine wpAny_bind ?_
  rw [cRoomFor, if_neg (by decide)]; refine wpAny_pure ?_
  refine wpAny_bind (wpAny_specialOf hT SF.slot_bool_hash.lookup ?_)
  show wpAny _ _ (if (some (Value.builtin "int.__hash__") == some Value.none) = true then _ else _) Q E s
  rw [if_neg (by rw [beq_builtin_none]; exact Bool.false_ne_true)]
  refine wpAny_bind (wpAny_specialOf hT SF.slot_bool_hash.lookup ?_)
  show wpAny _ _ (callSpecialIfBoundUnlessNone? (.bool true) "__hash__" _ >>= _) Q E s
  refine wpAny_bind (wpAny_callSpecialIfBoundUnlessNone?_slot hT SF.slot_bool_hash
    (wpAny_call_entry SF.slot_bool_hash hT entry_int_hash
      (show wpAny _ _ (do ret (← mkInt 1)) _ _ s from wpAny_ret_mkInt ?_) (args_int_hash _)))
  exact wpAny_pure h

noncomputable def set0 (led : Bool) : Obj := { cls := .type "set", dict := none, data := .set #[] 0 (.fresh 0 0 led) }
noncomputable def tab1 (led : Bool) : SetTable := { mask := 7, place := #[1], dummies := #[], finger := 0, led := led, moves := 0, plain := true }
noncomputable def set1 (led : Bool) : Obj := { cls := .type "set", dict := none, data := .set #[(1, .bool true)] 1 (tab1 led) }
theorem lay1 (led : Bool) : layNew (.fresh 0 0 led) #[] 1 (.bool true) = (#[(1, .bool true)], tab1 led, false, false) := by cases led <;> rfl

theorem add_true_0 {a : Addr} {led : Bool} {Q : Value → Shared → Prop} (ha : s.heap.get? a = some (set0 led))
    (h : ∀ h', h'.get? a = some (set1 led) → Heap.SameBut a s.heap h' → Q .none { s with heap := h', toks := s.toks + 1 }) :
    wpAny (model prog w) A (call (.builtin "set.add") [.ref a, .bool true]) Q E s := by
  have hT : s.TypeIs (.ref a) "set" := ⟨_, ha, rfl⟩
  refine wpAny_call_entry F.slot_set_add hT F.entry_set_add ?_ (F.args_set_add_2 _ _)
  unfold Builtin.«set.add» Builtin.Frozenset.oneOther
  simp only [List.isEmpty_nil, bind_assoc]
  unfold Builtin.Frozenset.addrOf setAdd
  refine wpAny_bind (wpAny_pure ?_)
  try dsimp only
  refine wpAny_bind (wpAny_pure ?_)
  try dsimp only
  refine wpAny_bind ?_
  refine wpAny_holding ?_
  refine wpAny_bind (pyHash_true ?_)
  unfold setAddHashed setAddHashedIn
  refine wpAny_holding (wpAny_bind (wpAny_setState_of (s := { s with toks := s.toks + 1 }) ha rfl rfl ?_))
  dsimp only
  rw [show byScan (.bool true) #[] = true by simp [byScan, Value.scannable, scanBound]]
  simp only [↓reduceIte]
  unfold setAddByScan
  refine wpAny_bind (wpAny_bind (wpAny_rule ?_))
  show wpAny _ _ (pure ScanMet.absent >>= _) _ _ _
  refine wpAny_bind (wpAny_pure ?_)
  dsimp only
  rw [lay1]
  dsimp only
  refine wpAny_bind (wpAny_pure ?_)
  rw [if_pos (show (tab1 led).plain = true from rfl)]
  refine wpAny_bind (wpAny_pure ?_)
  simp only [if_true]
  refine wpAny_bind (wpAny_storeSet_of (s := { s with toks := s.toks + 1 }) ha rfl ?_)
  rw [if_neg (show ¬ ((!false && (tab1 led).tooFull) = true) by cases led <;> decide)]
  refine wpAny_pure (wpAny_pure ?_)
  exact wpAny_pure ⟨_, rfl, h _ (by rw [Heap.get?_update_self _ ha (by rw [putSet_of _ _ rfl]; rfl), putSet_of _ _ rfl]; rfl) (Heap.SameBut.update ..)⟩

theorem eqBool_true {Q : Bool → Shared → Prop} (h : Q true s) : wpAny (model prog w) A (eqBool (.bool true) (.bool true)) Q E s := by
  unfold eqBool
  first
    | (refine wpAny_bind (wpAny_pure ?_); exact wpAny_pure h)
    | (wp_walk; exact h)

theorem add_true_1 {a : Addr} {led : Bool} {Q : Value → Shared → Prop} (ha : s.heap.get? a = some (set1 led))
    (h : Q .none { s with toks := s.toks + 1 }) :
    wpAny (model prog w) A (call (.builtin "set.add") [.ref a, .bool true]) Q E s := by
  have hT : s.TypeIs (.ref a) "set" := ⟨_, ha, rfl⟩
  refine wpAny_call_entry F.slot_set_add hT F.entry_set_add ?_ (F.args_set_add_2 _ _)
  unfold Builtin.«set.add» Builtin.Frozenset.oneOther
  simp only [List.isEmpty_nil, bind_assoc]
  unfold Builtin.Frozenset.addrOf setAdd
  refine wpAny_bind (wpAny_pure ?_)
  try dsimp only
  refine wpAny_bind (wpAny_pure ?_)
  try dsimp only
  refine wpAny_bind ?_
  refine wpAny_holding ?_
  refine wpAny_bind (pyHash_true ?_)
  unfold setAddHashed setAddHashedIn
  refine wpAny_holding (wpAny_bind (wpAny_setState_of (s := { s with toks := s.toks + 1 }) ha rfl rfl ?_))
  dsimp only
  rw [show byScan (.bool true) #[(1, .bool true)] = true by simp [byScan, Value.scannable, scanBound]]
  simp only [↓reduceIte]
  unfold setAddByScan
  refine wpAny_bind (wpAny_bind (wpAny_rule ?_))
  show wpAny _ _ (setScanFrom a (.bool true) 1 true [(1, .bool true)] 0 >>= _) _ _ _
  unfold setScanFrom
  rw [if_pos (by decide)]
  refine wpAny_bind (wpAny_bind (wpAny_setEpoch_of (s := { s with toks := s.toks + 1 }) ha rfl rfl ?_))
  refine wpAny_bind (eqBool_true ?_)
  simp only [Bool.and_self, ↓reduceIte]
  refine wpAny_pure ?_
  dsimp only
  refine wpAny_pure (wpAny_pure ?_)
  exact wpAny_pure ⟨_, rfl, h⟩
end
section
variable {prog : Program} {w : World} {A : Around} {E : Value → Shared → Prop} {s : Shared}
noncomputable abbrev sled (w : World) : Bool := !(w.params.followText "set-order")
theorem newSet_ {Q : Value → Shared → Prop} (h : Q (.ref s.heap.objs.size) { s with heap := s.heap.push (set0 (sled w)) }) :
    wpAny (model prog w) A (newSet (.type "set")) Q E s := by
  unfold newSet setsByText
  refine wpAny_bind (wpAny_bind (wpAny_askSetting (wpAny_pure ?_)))
  dsimp only
  simp only [newObj]
  exact wpAny_bind (wpAny_alloc (wpAny_pure h))
noncomputable def sitObj (a : Addr) (x : Value) (i j : Int) : Obj := { cls := .type "set_iterator", data := .fields #[.int i 0, .int j 0, x, .int 1 0, .int 1 0] }
theorem pyIter_set1 {a : Addr} {Q : Value → Shared → Prop} (ha : s.heap.get? a = some (set1 (sled w)))
    (h : Q (.ref s.heap.objs.size) { s with heap := s.heap.push (sitObj a (.ref a) 0 0) }) : wpAny (model prog w) A (pyIter (.ref a)) Q E s := by
  have hT : s.TypeIs (.ref a) "set" := ⟨_, ha, rfl⟩
  refine wpAny_pyIter_slot hT F.slot_set_iter (wpAny_call_entry F.slot_set_iter hT SF.entry_set_iter ?_ (F.args_set_iter_1 _))
  unfold Builtin.«frozenset.__iter__»
  show wpAny _ _ (Builtin.Frozenset.slot0 "__iter__" _ >>= _) _ _ s
  refine wpAny_bind (wpAny_pure ?_)
  refine wpAny_bind (wpAny_bind (wpAny_setEntries_of ha rfl rfl (wpAny_pure ?_)))
  refine wpAny_bind ?_
  unfold setDrawn
  refine wpAny_bind (wpAny_setState_of ha rfl rfl ?_)
  dsimp only
  unfold setsByText
  refine wpAny_bind (wpAny_bind (wpAny_askSetting (wpAny_pure ?_)))
  refine wpAny_pure ?_
  split
  · rename_i h1
    exfalso
    revert h1
    show (!(w.params.followText "set-order") && _) = true → False
    cases (w.params.followText "set-order") <;> exact fun h1 => Bool.false_ne_true h1
  · refine wpAny_bind (wpAny_pure ?_)
    refine wpAny_bind (wpAny_setEpoch_of ha rfl rfl ?_)
    refine wpAny_bind (m := newFields _ _) (wpAny_newObj_type ?_)
    refine wpAny_pure ⟨_, rfl, "set_iterator", _, ⟨_, Heap.get?_push_size _ rfl, rfl⟩, SF.slot_siter_next.lookup, ?_⟩
    exact h
theorem raise_stop {I : Addr} {Q : Fin → Shared → Prop} {E' : Value → Shared → Prop} (hh : A.handled = none)
    (h : ∀ h' x, (Heap.ExtBut I s.heap h') → Shared.TypeIs { s with heap := h' } x "StopIteration" → E' x { s with heap := h' }) :
    wpAny (model prog w) A (do raiseNew (← newExc (.type "StopIteration") []) : Sem Fin) Q E' s := by
  refine wpAny_bind ?_
  simp only [newExc, newTuple]
  refine wpAny_bind (wpAny_newObj_type ?_ (by size_fits))
  refine wpAny_bind (m := firstArgMember _ _) (wpAny_of_eq (a := Value.none) (by first | rfl | (simp only [firstArgMember]; rfl)) ?_)
  refine wpAny_newObj_type ?_ (by size_fits)
  simp only [raiseNew]
  refine wpAny_bind (wpAny_handled ?_)
  rw [hh]
  refine wpAny_bind (wpAny_pure (wpAny_throw ?_))
  exact h _ _ (((Heap.ExtBut.refl I s.heap).push _).push _) ⟨_, Heap.get?_push_size _ rfl, rfl⟩
theorem walk1 {a : Addr} (ha : s.heap.get? a = some (set1 (sled w))) {Q : Array (Int × Value) → Shared → Prop} (hb : w.params.followText "set-order" = true)
    (h : Q #[(1, .bool true)] s) : wpAny (model prog w) A (setWalk a) Q E s := by
  unfold setWalk
  refine wpAny_bind (wpAny_setState_of ha rfl rfl ?_)
  dsimp only
  unfold setsByText
  refine wpAny_bind (wpAny_bind (wpAny_askSetting (wpAny_pure ?_)))
  rw [show (⟨(model prog w).prog, (model prog w).w.params⟩ : Setting).params.followText "set-order" = true from hb]
  simp only [if_true]
  refine wpAny_bind (wpAny_askSetting (wpAny_pure ?_))
  have : ∀ f : Nat → Nat, pickOrder f #[((1 : Int), Value.bool true)] = #[(1, .bool true)] := by
    intro f
    simp [pickOrder, pickOrder.go, Nat.mod_one]
  rw [this]
  exact h
theorem setNext_0 {a : Addr} (ha : s.heap.get? a = some (set1 (sled w))) {Q : Option (Value × Nat) → Shared → Prop} (h : ∀ j : Nat, (w.params.followText "set-order" = true ∧ j = 0) ∨ (w.params.followText "set-order" = false ∧ j = 2) → Q (some (.bool true, j)) s) :
    wpAny (model prog w) A (setNext a 0 0 1) Q E s := by
  unfold setNext
  refine wpAny_bind (wpAny_setState_of ha rfl rfl ?_)
  dsimp only
  refine wpAny_bind (m := setsByText) (wpAny_bind (wpAny_askSetting (wpAny_pure ?_)))
  cases hb : w.params.followText "set-order" with
  | true =>
    rw [show (⟨(model prog w).prog, (model prog w).w.params⟩ : Setting).params.followText "set-order" = true from hb]
    simp only [if_true]
    refine wpAny_bind (walk1 ha hb (wpAny_pure ?_))
    exact h 0 (.inl ⟨hb, rfl⟩)
  | false =>
    rw [show (⟨(model prog w).prog, (model prog w).w.params⟩ : Setting).params.followText "set-order" = false from hb]
    simp only [Bool.false_eq_true, if_false]
    have el : sled w = true := by rw [sled, hb]; rfl
    rw [el]
    refine wpAny_ite_false rfl ?_
    refine wpAny_bind (wpAny_of_eq (a := ()) rfl (wpAny_pure ?_))
    exact h 2 (.inr ⟨hb, rfl⟩)
theorem setNext_1 {a : Addr} (ha : s.heap.get? a = some (set1 (sled w))) {j : Nat} (hj : (w.params.followText "set-order" = true ∧ j = 0) ∨ (w.params.followText "set-order" = false ∧ j = 2)) {Q : Option (Value × Nat) → Shared → Prop} (h : Q none s) :
    wpAny (model prog w) A (setNext a j 1 1) Q E s := by
  unfold setNext
  refine wpAny_bind (wpAny_setState_of ha rfl rfl ?_)
  dsimp only
  refine wpAny_bind (m := setsByText) (wpAny_bind (wpAny_askSetting (wpAny_pure ?_)))
  cases hb : w.params.followText "set-order" with
  | true =>
    rw [show (⟨(model prog w).prog, (model prog w).w.params⟩ : Setting).params.followText "set-order" = true from hb]
    simp only [if_true]
    refine wpAny_bind (walk1 ha hb (wpAny_pure ?_))
    exact h
  | false =>
    rw [show (⟨(model prog w).prog, (model prog w).w.params⟩ : Setting).params.followText "set-order" = false from hb]
    simp only [Bool.false_eq_true, if_false]
    have el : sled w = true := by rw [sled, hb]; rfl
    rw [el]
    refine wpAny_ite_false rfl ?_
    refine wpAny_bind (wpAny_of_eq (a := ()) rfl (wpAny_pure ?_))
    rcases hj with ⟨e, _⟩ | ⟨_, rfl⟩
    · rw [hb] at e; cases e
    · exact h
theorem siter_item {I a : Addr} (hI : s.heap.get? I = some (sitObj a (.ref a) 0 0)) (ha : s.heap.get? a = some (set1 (sled w))) {Q : Option Value → Shared → Prop}
    (h : ∀ h' (j : Nat), ((w.params.followText "set-order" = true ∧ j = 0) ∨ (w.params.followText "set-order" = false ∧ j = 2)) → h'.get? I = some (sitObj a (.ref a) j 1) → Heap.SameBut I s.heap h' → Q (some (.bool true)) { s with heap := h' }) :
    wpAny (model prog w) A (pyNext (.ref I)) Q E s := by
  have hTy : s.TypeIs (.ref I) "set_iterator" := ⟨_, hI, rfl⟩
  unfold pyNext
  refine wpAny_bind (wpAny_attempt (wpAny_callSpecial?_slot (name := Str.ofString "__next__") hTy SF.slot_siter_next (wpAny_call_entry SF.slot_siter_next hTy SF.entry_siter_next ?_ (SF.args_siter_next _))))
  unfold Builtin.«set_iterator.__next__»
  refine wpAny_bind (wpAny_pure ?_)
  refine wpAny_bind (wpAny_fieldsOf hI rfl ?_)
  dsimp only
  refine wpAny_bind (wpAny_setEntries_of ha rfl rfl ?_)
  rw [if_neg (by decide)]
  refine wpAny_bind (setNext_0 ha fun j hj => ?_)
  dsimp only
  refine wpAny_bind (wpAny_setField hI rfl (by simp) ?_)
  have h1 := Heap.get?_update_self (Obj.mapFields (·.setIfInBounds 0 (rawInt (j : Int)))) hI rfl
  refine wpAny_bind (wpAny_setField h1 rfl (by simp) ?_)
  have h2 := Heap.get?_update_self (Obj.mapFields (·.setIfInBounds 1 (rawInt (0 + 1)))) h1 rfl
  exact wpAny_pure ⟨_, rfl, wpAny_pure (h _ j hj h2 ((Heap.SameBut.update ..).trans (Heap.SameBut.update ..)))⟩
theorem isSubtype_stop' : isSubtype (.type "StopIteration") (.type "StopIteration") = pure true := by rw [isSubtype_type]; kernel_rfl
theorem siter_end {I a : Addr} {j : Nat} (hh : A.handled = none) (hj : (w.params.followText "set-order" = true ∧ j = 0) ∨ (w.params.followText "set-order" = false ∧ j = 2)) (hI : s.heap.get? I = some (sitObj a (.ref a) j 1)) (ha : s.heap.get? a = some (set1 (sled w))) {Q : Option Value → Shared → Prop}
    (h : ∀ h', Heap.ExtBut I s.heap h' → Q none { s with heap := h' }) :
    wpAny (model prog w) A (pyNext (.ref I)) Q E s := by
  have hTy : s.TypeIs (.ref I) "set_iterator" := ⟨_, hI, rfl⟩
  unfold pyNext
  refine wpAny_bind (wpAny_attempt (wpAny_callSpecial?_slot (name := Str.ofString "__next__") hTy SF.slot_siter_next (wpAny_call_entry SF.slot_siter_next hTy SF.entry_siter_next ?_ (SF.args_siter_next _))))
  unfold Builtin.«set_iterator.__next__»
  refine wpAny_bind (wpAny_pure ?_)
  refine wpAny_bind (wpAny_fieldsOf hI rfl ?_)
  dsimp only
  refine wpAny_bind (wpAny_setEntries_of ha rfl rfl ?_)
  rw [if_neg (by decide)]
  show wpAny _ _ (setNext a j 1 1 >>= _) _ _ _
  refine wpAny_bind (setNext_1 ha hj ?_)
  dsimp only
  refine wpAny_bind (wpAny_setField hI rfl (by simp) ?_)
  refine raise_stop (I := I) (s := { s with heap := _ }) hh fun h' x hx ht => ?_
  refine wpAny_bind (wpAny_isInstance (T := "StopIteration") (b := true) ht isSubtype_stop' ?_)
  exact wpAny_pure (h _ (fun b o hb e => hx b o hb ((Heap.get?_update_other _ _ (Ne.symm hb)).trans e)))
end

theorem eval_SetComp' (elt : Expr) (gens : List Comprehension) (scope : Scope) (pos : Pos) (env : Env) : eval (.SetComp elt gens scope pos) env = comprehension (.SetComp elt gens scope pos) scope env (firstIterPos gens pos) (newSet (.type "set")) (firstAsync gens) (firstIter gens env) := rfl
theorem compTurn_set (elt target iter : Expr) (scope : Scope) (pos : Pos) (it acc : Value) (env : Env) :
    compTurn (.SetComp elt [⟨target, iter, [], 0⟩] scope pos) 0 it acc env = (do
      standAt iter.pos
      match ← pyNext it with
      | none => pure (.done .next)
      | some v =>
        letOwnedTupleGo target it v
        assign target env v
        (do let v ← eval elt env; standAt elt.pos; let _ ← call (.builtin "set.add") [acc, v])
        again (.compLoop (.SetComp elt [⟨target, iter, [], 0⟩] scope pos) 0 it acc env)) := by rfl
section
variable {prog : Program} {w : World} {A : Around} {E : Value → Shared → Prop} {R : Result → Shared → Prop} {s : Shared}
theorem setLoop_own {elt target iter : Expr} {scope : Scope} {pos : Pos} {it acc : Value} {env : Env} (I : Nat → Shared → Prop)
    (turn : ∀ n s, I n s → wpAny (model prog w) A (pyNext it) (fun r s₁ => match r with
      | none => R (.ok .next) s₁
      | some v => wpAny (model prog w) A (letOwnedTupleGo target it v) (fun _ s₁' => wpAny (model prog w) A (assign target env v) (fun _ s₂ =>
          wpAny (model prog w) A (eval elt env) (fun x s₄ =>
              wpAny (model prog w) A (call (.builtin "set.add") [acc, x]) (fun _ s₅ => ∃ m, m < n ∧ I m s₅) NoE s₄) NoE s₂) NoE s₁') NoE s₁) NoE s)
    (n : Nat) (h : I n s) :
    codeAny (model prog w) A (.compLoop (.SetComp elt [⟨target, iter, [], 0⟩] scope pos) 0 it acc env) R s := by
  refine codeAny_loop rfl I (fun n s hI => ?_) n h
  show wpAny _ A ((compTurn (.SetComp elt [⟨target, iter, [], 0⟩] scope pos) 0 it acc env).onRaise (fun x => do noteFrame x env; theTreesLotGoes x)) _ _ s
  refine wpAny_noted ?_
  rw [compTurn_set]
  refine wpAny_bind (wpAny_standAt (wpAny_bind (noE (turn n s hI) (fun r s₁ h₁ => ?_))))
  cases r with
  | none => exact wpAny_pure h₁
  | some v =>
    refine wpAny_bind (noE h₁ fun _ s₁' h₁' => ?_)
    refine wpAny_bind (noE h₁' (fun _ s₂ h₂ => wpAny_bind (wpAny_bind (noE h₂ (fun x s₄ h₄ => wpAny_bind (wpAny_standAt (wpAny_bind (noE h₄ (fun _ s₅ h₅ => ?_)))))))))
    exact wpAny_pure (wpAny_pure ⟨rfl, h₅⟩)
theorem codeAny_compStart_set {elt target iter : Expr} {ifs : List Expr} {rest : List Comprehension} {scope : Scope} {pos : Pos} {it acc : Value} {env : Env}
    (h0 : codeAny (model prog w) A (.compLoop (.SetComp elt (⟨target, iter, ifs, 0⟩ :: rest) scope pos) 0 it acc env) R s)
    (h : wpAny (model prog w) A (pyIter it) (fun it' s' => codeAny (model prog w) A (.compLoop (.SetComp elt (⟨target, iter, ifs, 0⟩ :: rest) scope pos) 0 it' acc env) R s')
      (notedBy (model prog w) A env fun x s' => R (.error x) s') s) :
    codeAny (model prog w) A (.compStart (.SetComp elt (⟨target, iter, ifs, 0⟩ :: rest) scope pos) 0 it acc env) R s := by
  refine codeAny_of_tree ?_
  show wpAny _ _ ((compStart (.SetComp elt (⟨target, iter, ifs, 0⟩ :: rest) scope pos) 0 it acc env).onRaise (fun x => do noteFrame x env; standAt theWindowsPlace)) _ _ s
  refine wpAny_notedAt ?_
  unfold compStart
  show wpAny _ _ (ask >>= _) _ _ s
  refine wpAny_bind (wpAny_askSetting (wpAny_ite ?_))
  split
  · first
      | exact wpAny_bind (wpAny_pure (wpAny_pure (And.intro rfl h0)))
      | exact wpAny_pure (And.intro rfl h0)
  · first
      | exact wpAny_bind (wpAny_rule (wpAny_bind (wpAny_standAt (wpAny_bind (wpAny_mono h (fun it' s' h' => wpAny_pure (And.intro rfl h')) fun _ _ x => x)))))
      | (refine wpAny_bind (wpAny_rule ?_); show wpAny _ _ (standAt iter.pos >>= _) _ _ s; exact wpAny_bind (wpAny_standAt (wpAny_bind (wpAny_mono h (fun it' s' h' => wpAny_pure (And.intro rfl h')) fun _ _ x => x))))
end

inductive SetI (c : Cx) (D C : Addr) (s2 : Shared) (StI : Nat → Heap → Prop) (wr : List Addr) (N : Nat) (P' : Addr → Prop) (k : Nat) (s' : Shared) : Prop
  | mk (h' : Heap) (tk : Nat) (m' : Str → Option Value) (j : Nat) (e : s' = { s2 with heap := h', toks := tk }) (hst : StI j h') (hp : h'.get? D = some (if j = 0 then set0 (sled c.W.w) else set1 (sled c.W.w))) (hn : h'.Ns C m')
    (hj : j ≤ N) (hk : k = N + 1 - j) (keep : ∀ b o, b ≠ C → b ∉ wr → b ≠ D → s2.heap.get? b = some o → h'.get? b = some o) (nw : New P' h') : SetI c D C s2 StI wr N P' k s'
theorem setcomp_core {st : Bool} {c : Cx} {n : Nat} {ρ κ κ' : Loc} {N : Nat} {it : Nat → D} {target : Expr} {pos : Pos} {ρi : Nat → Loc} {elt iter : Expr} {scope : Scope} {cl : List (Str × Addr)} {Q : Value → Shared → Prop} {s : Shared}
    (ok : c.Ok n) (hI : EvI c ρ κ st target iter N it) (hN0 : 0 < N)
    (hclos : closureFor scope c.env = pure cl) (hcell : ∀ y ∈ scope.names, y.2 ≠ .cell) (hkind : scope.kind = .function) (hnames : ∀ y ∈ scope.names, y.2 = .local → scope.names.lookup y.1 = some .local)
    (hs : ∀ x, foldedSetIterable iter c.env x = pure x)
    (hsub : ∀ y a, cl.lookup y = some a → c.env.cells.lookup y = some a) (hκ : ∀ y d, κ'.lookup y = some d → κ.lookup y = some d)
    (hasg : ∀ C P' i, i < N → (c.comp scope cl C P').Ok n → OwnL (c.comp scope cl C P') → AsgT (c.comp scope cl C P') [] κ' (assign target (c.comp scope cl C P').env) (it i) (ρi i) κ' [C])
    (helt : ∀ C P' i, i < N → (c.comp scope cl C P').Ok n → Ev (c.comp scope cl C P') (ρi i) κ' elt (bo true))
    (F : FrD c ρ κ s.heap)
    (hQ : ∀ D h' tk, s.heap.get? D = none → Stays s.heap h' → New c.P h' → h'.get? D = some (set1 (sled c.W.w)) → Q (.ref D) { s with heap := h', toks := tk }) :
    wpAny c.W.M c.A (eval (.SetComp elt [⟨target, iter, [], 0⟩] scope pos) c.env) Q NoE s := by
  rw [eval_SetComp']
  refine wpAny_comprehension_free (use := none) rfl hs hclos hkind hnames (noE (hI.go s F) fun xv s1 ⟨k1, q1⟩ => noE q1 fun itv s2 ⟨k2, I, fp, wr, Pi, StI, e, W, hst₀, c6, c1, c2, c3, c5⟩ => ?_)
  subst e
  have kk := k1.trans k2
  have F2 := F.on kk.stays
  refine newSet_ (wpAny_newFunctionEnv hcell (by intro y hy; simp at hy) (fun h₁ hns₁ hsb₁ => ?_) hkind)
  dsimp only at hns₁ hsb₁ ⊢
  generalize hH2 : s2.heap.push (set0 (sled c.W.w)) = H2 at hns₁ hsb₁ ⊢
  have hC : H2.objs.size = s2.heap.objs.size + 1 := by rw [← hH2, Heap.size_push]
  have hDC : s2.heap.objs.size ≠ H2.objs.size := by rw [hC]; exact Nat.ne_of_lt (Nat.lt_succ_self _)
  have below : ∀ b, b < s2.heap.objs.size → b ≠ H2.objs.size ∧ b ≠ s2.heap.objs.size := fun b hb => ⟨by rw [hC]; exact Nat.ne_of_lt (Nat.lt_succ_of_lt hb), Nat.ne_of_lt hb⟩
  have old : ∀ b o, s2.heap.get? b = some o → h₁.get? b = some o := fun b o e => hsb₁.extBut b o (below b (Heap.lt_size e)).1 (Heap.get?_push_of_some _ (hH2 ▸ Heap.get?_push_of_some _ e))
  have hacc : h₁.get? s2.heap.objs.size = some (set0 (sled c.W.w)) := hsb₁.extBut _ _ hDC (Heap.get?_push_of_some _ (hH2 ▸ Heap.get?_push_size _ rfl))
  have hDf : s2.heap.objs.size ∉ fp := fun hm => Nat.lt_irrefl _ (c6 _ hm)
  have hCf : H2.objs.size ∉ fp := fun hm => by have := c6 _ hm; rw [hC] at this; exact Nat.not_succ_lt_self this
  have hst₁ : StI 0 h₁ := W.frame _ _ _ hst₀ fun b _ o e => old b o e
  generalize hDn : s2.heap.objs.size = D at *
  generalize hCn : H2.objs.size = C at *
  have hwD : ∀ b ∈ wr, b ≠ D := fun b hb e => hDf (e ▸ W.sub _ hb)
  have hwC : ∀ b ∈ wr, b ≠ C := fun b hb e => hCf (e ▸ W.sub _ hb)
  have hwP : ∀ b ∈ wr, c.P b := fun b hb => F.new b (c1 b hb)
  -- what stood before the walk stands
  have w1 : ∀ b o, s.heap.get? b = some o → b ∉ wr := fun b o e hb => by rw [c1 b hb] at e; cases e
  have sD : ∀ b o, s2.heap.get? b = some o → b ≠ C ∧ b ≠ D := fun b o e => below b (by have := Heap.lt_size e; rw [hDn] at this; exact this)
  let P' : Addr → Prop := fun a => c.P a ∧ a ≠ D ∧ a ∉ wr
  have nsC : ∀ {h : Heap} {m : Str → Option Value}, h.Ns C m → ∀ o, h.get? C = some o → ¬ SeqO o := fun hn => ns_not_seq hn
  let R := compPost c.W.M c.A NoE none Q (.ref D) C
  have loop : ∀ s3 : Shared, s3 = { s2 with heap := h₁, toks := s2.toks + ([] : List (Str × Value)).length } →
      codeAny c.W.M c.A (.compLoop (.SetComp elt [⟨target, iter, [], 0⟩] scope pos) 0 (.ref I) (.ref D) (compEnvC scope cl C c.env)) R s3 := by
    rintro s3 rfl
    refine setLoop_own (fun k s' => SetI c D C s2 StI wr N P' k s') ?_ (N + 1)
      ⟨h₁, _, _, 0, rfl, hst₁, by rw [if_pos rfl]; exact hacc, hns₁, Nat.zero_le _, rfl, fun b o _ _ _ e => old b o e, fun a e => ?_⟩
    rotate_left
    · -- new
      have : s2.heap.get? a = none := by
        cases q : s2.heap.get? a with
        | none => rfl
        | some o => rw [old a o q] at e; cases e
      refine ⟨F2.new a this, ?_, fun hw => ?_⟩
      · rintro rfl
        rw [hacc] at e; cases e
      · obtain ⟨o, ho, _⟩ := c3 _ _ hst₁ a hw
        rw [e] at ho; cases ho
    rintro k s' ⟨H, tk, m', j, rfl, hst', hacc', hn', hj, rfl, hk, hnew⟩
    by_cases hlt : j < N
    · refine noE (W.item j _ (fun v s1' => wpAny c.W.M c.A (assign target (compEnvC scope cl C c.env) v) (fun _ s₂ =>
          wpAny c.W.M c.A (eval elt (compEnvC scope cl C c.env)) (fun x s₄ =>
              wpAny c.W.M c.A (call (.builtin "set.add") [.ref D, x]) (fun _ s₅ => ∃ m, m < N + 1 - j ∧ SetI c D C s2 StI wr N P' m s₅) NoE s₄) NoE s₂) NoE s1') hlt hst' fun v h1 tk1 hPv hst1 hk1 => ?_) fun r s1' ⟨v, e, q⟩ => by subst e; exact q
      have hn1 : h1.Ns C m' := hn'.at' fun o e => hk1 _ o (fun hw => hwC _ hw rfl) e
      have hacc1 := hk1 _ _ (fun hw => hwD _ hw rfl) hacc'
      have hnew1 : New P' h1 := fun a e => by
        by_cases hw : a ∈ wr
        · obtain ⟨o, ho, _⟩ := c3 _ _ hst1 a hw
          rw [e] at ho; cases ho
        · refine hnew a ?_
          cases q : H.get? a with
          | none => rfl
          | some o => rw [hk1 a o hw q] at e; cases e
      have up1 : ∀ b o, b ≠ C → b ∉ wr → b ≠ D → s2.heap.get? b = some o → h1.get? b = some o := fun b o h1' h2' h3' e => hk1 b o h2' (hk b o h1' h2' h3' e)
      have okc : (c.comp scope cl C P').Ok n := comp_ok ok hkind
      have owc : OwnL (c.comp scope cl C P') := by
        show c.h₀.get? C = none
        cases q : c.h₀.get? C with
        | none => rfl
        | some o => exact absurd rfl (sD C o (kk.stays C o (F.keep C o q))).1
      have lowD1 : ∀ a o, s.heap.get? a = some o → SeqO o → c.P a → P' a ∧ h1.get? a = some o := fun a o ha hs pa =>
        have ha2 := kk.stays a o ha
        ⟨⟨pa, (sD a o ha2).2, w1 a o ha⟩, up1 a o (sD a o ha2).1 (w1 a o ha) (sD a o ha2).2 ha2⟩
      have hrep : Rep P' h1 (it j) v := c5 j v H h1 hlt hPv P' hnew fun a o pa ha hs hw => ⟨⟨pa, (sD a o ha).2, hw⟩, up1 a o (sD a o ha).1 hw (sD a o ha).2 ha⟩
      have F0 : FrD (c.comp scope cl C P') [] κ' h1 := by
        refine ⟨⟨fun b o e => ?_, hnew1⟩, ⟨_, hn1, fun y d e => by cases e⟩, fun y a e => ?_⟩
        · have e1 := F.keep b o e
          have e2 := kk.stays b o e1
          exact up1 b o (sD b o e2).1 (w1 b o e1) (sD b o e2).2 e2
        · obtain ⟨o, vo, p1, p2, p3⟩ := F.cel y a (hsub y a e)
          have e2 := kk.stays a o p1
          refine ⟨o, vo, up1 a o (sD a o e2).1 (w1 a o p1) (sD a o e2).2 e2, p2, fun d e' => ?_⟩
          obtain ⟨u, q1, q2⟩ := p3 d (hκ y d e')
          exact ⟨u, q1, q2.mono fun a o pa ha hs => lowD1 a o ha hs pa⟩
      refine noE (hasg C P' j hlt okc owc _ v F0 hrep) fun _ s2' ⟨F', ⟨h2, tk2, e2'⟩, kc⟩ => ?_
      subst e2'
      replace F' : FrD (c.comp scope cl C P') (ρi j) κ' h2 := F'
      have ext2 : ∀ b o, b ≠ C → h1.get? b = some o → h2.get? b = some o := fun b o hb e => kc b o (fun hm => hb (List.mem_singleton.mp hm)) e
      obtain ⟨m2, hn2, _⟩ := id F'.loc
      replace hn2 : h2.Ns C m2 := hn2
      have up2 : ∀ b o, b ≠ C → b ∉ wr → b ≠ D → s2.heap.get? b = some o → h2.get? b = some o := fun b o h1' h2' h3' e => ext2 b o h1' (up1 b o h1' h2' h3' e)
      have hst2 : StI (j + 1) h2 := W.frame _ _ _ hst1 fun b hb o e => ext2 b o (fun h => hCf (h ▸ hb)) e
      have hacc2 := ext2 _ _ hDC hacc1
      have hnew2 : New P' h2 := F'.new
      refine noE ((helt C P' j hlt okc).go _ F') fun y s4 ⟨k4, r4⟩ => ?_
      obtain rfl := rep_val.mp r4
      obtain ⟨h4, tk4, rfl, hk4⟩ := k4
      have hacc4 := hk4 _ _ hacc2
      have fin : ∀ h5 tk5, h5.get? D = some (set1 (sled c.W.w)) → Heap.SameBut D h4 h5 → ∃ m, m < N + 1 - j ∧ SetI c D C s2 StI wr N P' m ({ s2 with heap := h5, toks := tk5 } : Shared) := fun h5 tk5 g5 hs5 => by
        have ext5 := hs5.extBut
        refine ⟨N + 1 - (j + 1), turn_lt hlt, h5, tk5, _, j + 1, rfl, ?_, by rw [if_neg (Nat.succ_ne_zero j)]; exact g5, (hn2.keeps hk4).sameBut hs5 (Ne.symm hDC), hlt, rfl, fun b o a1 a2 a3 e => ext5 b o a3 (hk4 b o (up2 b o a1 a2 a3 e)), fun a e => ?_⟩
        · exact W.frame _ _ _ hst2 fun b hb o e => ext5 b o (fun h => hDf (h ▸ hb)) (hk4 b o e)
        · by_cases q : a = D
          · subst q
            rw [g5] at e; cases e
          · exact (hnew2.keep hk4) a (by rw [← hs5.2 a q]; exact e)
      by_cases hj0 : j = 0
      · rw [if_pos hj0] at hacc4
        exact add_true_0 hacc4 fun h5 g5 hs5 => fin h5 _ g5 hs5
      · rw [if_neg hj0] at hacc4
        exact add_true_1 hacc4 (fin h4 _ hacc4 (Heap.SameBut.refl _ _))
    · have hjN : j = N := Nat.le_antisymm hj (Nat.le_of_not_lt hlt)
      subst hjN
      refine W.done _ _ hst' fun h1 tk1 hk1 => ?_
      rw [if_neg (Nat.ne_of_gt hN0)] at hacc'
      have hacc1 := hk1 _ _ (fun hw => hwD _ hw rfl) hacc'
      have hn1 : h1.Ns C m' := hn'.at' fun o e => hk1 _ o (fun hw => hwC _ hw rfl) e
      have eS : ∃ h tk, s2 = { s with heap := h, toks := tk } := by
        obtain ⟨a1, a2, e1, _⟩ := kk
        subst e1; exact ⟨_, _, rfl⟩
      obtain ⟨ha, ta, eS⟩ := eS
      have hCn' : s.heap.get? C = none := by
        cases q : s.heap.get? C with
        | none => rfl
        | some o => exact absurd rfl (sD C o (kk.stays C o q)).1
      refine ⟨m', hn1, fun h'' hs'' => ?_⟩
      have fin := hQ D h'' tk1 ?_ ?_ ?_ ?_
      · rw [eS]; exact fin
      · cases q : s.heap.get? D with
        | none => rfl
        | some o => exact absurd rfl (sD D o (kk.stays D o q)).2
      · intro b o e
        have e2 := kk.stays b o e
        exact hs''.extBut b o (sD b o e2).1 (hk1 b o (w1 b o e) (hk b o (sD b o e2).1 (w1 b o e) (sD b o e2).2 e2))
      · intro a e
        by_cases hw : a ∈ wr
        · exact hwP a hw
        · by_cases hc : a = C
          · rw [hc]; exact F.new C hCn'
          · refine (hnew a ?_).1
            cases q : H.get? a with
            | none => rfl
            | some o => rw [hs''.extBut a o hc (hk1 a o hw q)] at e; cases e
      · exact hs''.extBut _ _ hDC hacc1
  refine codeAny_compStart_set (loop _ rfl) (noE (Q := fun it' s' => it' = .ref I ∧ s' = _) (W.self 0 _ _ hst₁ ⟨rfl, rfl⟩) fun it' s' ⟨e1, e2⟩ => ?_)
  subst e1; subst e2
  exact loop _ rfl

theorem x_unpackSet {st : Bool} {c : Cx} {n : Nat} {ρ κ κ' : Loc} {N : Nat} {it : Nat → D} {target : Expr} {x : Str} {px tpos pos spos : Pos} {k : Nat} {ρi : Nat → Loc} {elt iter : Expr} {scope : Scope} {cl : List (Str × Addr)} {rest : List Stmt} {Q : Flow → Shared → Prop}
    (ok : c.Ok n) (ow : OwnL c) (hk : c.env.kindOf x = some .local) (hI : EvI c ρ κ st target iter N it) (hN0 : 0 < N)
    (hclos : closureFor scope c.env = pure cl) (hcell : ∀ y ∈ scope.names, y.2 ≠ .cell) (hkind : scope.kind = .function) (hnames : ∀ y ∈ scope.names, y.2 = .local → scope.names.lookup y.1 = some .local)
    (hs : ∀ x, foldedSetIterable iter c.env x = pure x)
    (hsub : ∀ y a, cl.lookup y = some a → c.env.cells.lookup y = some a) (hκ : ∀ y d, κ'.lookup y = some d → κ.lookup y = some d)
    (hasg : ∀ C P' i, i < N → (c.comp scope cl C P').Ok n → OwnL (c.comp scope cl C P') → AsgT (c.comp scope cl C P') [] κ' (assign target (c.comp scope cl C P').env) (it i) (ρi i) κ' [C])
    (helt : ∀ C P' i, i < N → (c.comp scope cl C P').Ok n → Ev (c.comp scope cl C P') (ρi i) κ' elt (bo true))
    (h : Xs c ((x, bo true) :: ρ) κ rest Q)
    (hsw : swapsWithSole [.Tuple [.Name x px] k tpos] (.SetComp elt [⟨target, iter, [], 0⟩] scope pos) spos.line c.env = pure false := by rfl)
    (hw : swappedStores [.Tuple [.Name x px] k tpos] (.SetComp elt [⟨target, iter, [], 0⟩] scope pos) c.env = pure none := by rfl) :
    Xs c ρ κ (.Assign [.Tuple [.Name x px] k tpos] (.SetComp elt [⟨target, iter, [], 0⟩] scope pos) spos :: rest) Q := ⟨fun s F b => by
  refine wpAny_execs_cons (Assign_Tuple (setcomp_core ok hI hN0 hclos hcell hkind hnames hs hsub hκ hasg helt F fun D h' tk hD st nw gD => ?_) hsw hw)
  have F1 : FrD c ρ κ h' := F.on st
  have hTy : (⟨h', s.gens, s.drawn, tk, s.os⟩ : Shared).TypeIs (.ref D) "set" := ⟨_, gD, rfl⟩
  rw [arm_assign_Tuple]
  refine wpAny_bind (wpAny_standAt ?_)
  unfold unpack
  show wpAny _ _ (do
    let items ← holding [Value.ref D] (unpackItems (.ref D) 1 none)
    assignInOrder [assign (.Name x px) c.env] items) _ _ _
  refine wpAny_bind (wpAny_holding ?_)
  unfold unpackItems
  refine wpAny_bind ?_
  unfold notIterableAtAll
  refine wpAny_bind (wpAny_specialOf hTy PySem.F.slot_set_iter.lookup (wpAny_pure ?_))
  simp only [Bool.false_eq_true, if_false]
  refine wpAny_bind (wpAny_holding (pyIter_set1 (s := ⟨h', s.gens, s.drawn, tk, s.os⟩) gD ?_))
  dsimp only
  have st1 : Stays h' (h'.push (sitObj D (.ref D) 0 0)) := stays_push _ _
  have gD1 := st1 _ _ gD
  have gI1 : (h'.push (sitObj D (.ref D) 0 0)).get? h'.objs.size = some (sitObj D (.ref D) 0 0) := Heap.get?_push_size _ rfl
  generalize hH1 : h'.push (sitObj D (.ref D) 0 0) = H1 at *
  have hID : D ≠ h'.objs.size := Nat.ne_of_lt (Heap.lt_size gD)
  generalize hI0 : h'.objs.size = I at *
  have sI : ∀ b o, h'.get? b = some o → b ≠ I := fun b o e q => by have := Heap.lt_size e; rw [hI0, q] at this; exact Nat.lt_irrefl _ this
  refine wpAny_bind (wpAny_holding ?_)
  unfold draw
  refine wpAny_bind (siter_item (s := ⟨H1, s.gens, s.drawn, tk, s.os⟩) gI1 gD1 fun H2 j hj gI2 hs2 => ?_)
  dsimp only
  refine wpAny_bind (wpAny_holding ?_)
  show wpAny _ _ (pure []) _ _ _
  refine wpAny_pure (wpAny_pure ?_)
  rw [if_neg (by simp)]
  have gD2 := hs2.extBut _ _ hID gD1
  refine wpAny_bind (wpAny_holding (siter_end (s := ⟨H2, s.gens, s.drawn, tk, s.os⟩) ok.rm.hd hj gI2 gD2 fun H3 hx3 => ?_))
  simp only [Option.isSome_none, Bool.false_eq_true, if_false]
  have kk : Stays h' H3 := fun b o e => hx3 b o (sI b o e) (hs2.extBut b o (sI b o e) (st1 b o e))
  refine wpAny_pure ?_
  show wpAny _ _ (do holding [] (assign (.Name x px) c.env (.bool true)); assignInOrder [] []) _ _ _
  refine wpAny_bind (wpAny_holding (wpAny_assign_Name (store_loc ok ow (F1.on kk) (d := bo true) (rep_val.mpr rfl) hk fun h2 tk2 F2 hs2 => wpAny_pure ?_)))
  exact h.go _ F2 (b.set _ _)⟩
end Mine
end

section
open PySem PySem.W PyProof.Rows PySem.Calls
namespace Mine
section
variable {α : Type} {p : α → Prop} {a b c d e f g : α}
theorem all2 (h1 : p a) (h2 : p b) : ∀ x ∈ [a, b], p x := List.forall_mem_cons.mpr ⟨h1, List.forall_mem_singleton.mpr h2⟩
theorem all3 (h1 : p a) (h2 : p b) (h3 : p c) : ∀ x ∈ [a, b, c], p x := List.forall_mem_cons.mpr ⟨h1, all2 h2 h3⟩
theorem all4 (h1 : p a) (h2 : p b) (h3 : p c) (h4 : p d) : ∀ x ∈ [a, b, c, d], p x := List.forall_mem_cons.mpr ⟨h1, all3 h2 h3 h4⟩
theorem all7 (h1 : p a) (h2 : p b) (h3 : p c) (h4 : p d) (h5 : p e) (h6 : p f) (h7 : p g) : ∀ x ∈ [a, b, c, d, e, f, g], p x :=
  List.forall_mem_cons.mpr ⟨h1, List.forall_mem_cons.mpr ⟨h2, List.forall_mem_cons.mpr ⟨h3, all4 h4 h5 h6 h7⟩⟩⟩
end
section
variable {c : Cx} {n : Nat} {ρ κ : Loc}
theorem listiter_ns {h : Heap} {it l : Addr} {i : Nat} (x : h.IsListIter it l i) : ∃ o, h.get? it = some o ∧ ¬ SeqO o := by
  obtain ⟨o, ho, _, hd⟩ := x
  exact ⟨o, ho, fun ⟨vs, n, q⟩ => by rw [hd] at q; cases q⟩
theorem evI_enum {f e : Expr} {elts : List Expr} {k : Nat} {tpos pos : Pos} {ds : List D} {st : Bool} (ok : c.Ok n) (hf : Ev c ρ κ f (.val (.type "enumerate"))) (he : EvL c ρ κ [e] [.list ds])
    (hc : eval (.Call f [e] [] pos) c.env = (do callWith pos (← eval f c.env) [] (backTo pos (starEach [e] c.env)) (backToKw pos (keywordEach [] c.env))) := by rfl)
    (hp : ∃ x r, backTo pos (starEach [e] c.env) = (false, x) :: r := by exact ⟨_, _, rfl⟩) (hq : (backTo pos (starEach [e] c.env)).any (·.1) = false := by rfl) :
    EvI c ρ κ st (.Tuple elts k tpos) (.Call f [e] [] pos) ds.length (fun i => .tup [.int i, ds.getD i dNone]) := ⟨fun s F => by
  rw [hc]
  refine wpAny_bind (noE (hf.go s F) fun v s1 ⟨k1, r1⟩ => ?_)
  obtain rfl := rep_val.mp r1
  refine callWith_of (P := fun h => St c h) (by show ((backTo pos (starEach [e] c.env)).any (·.1) || false) = false; rw [hq]; rfl) keeps_type ?_
  refine noE (evalArgs_D he (F.on k1.stays) hp) fun a s2 ⟨e, k2, r2⟩ => ⟨((F.on k1.stays).on k2.stays).toSt, ?_⟩
  rw [e]
  obtain ⟨v, r', e2, r3, r4⟩ := repL_cons.mp r2
  obtain rfl := repL_nil.mp r4
  rw [e2]
  have F2 := (F.on k1.stays).on k2.stays
  obtain ⟨l, items, rfl, pl, hL, rl⟩ := rep_list.mp r3
  have kk := k1.trans k2
  have hlen : items.size = ds.length := by rw [← rl.length]; simp
  obtain ⟨ol, hol, _, nl, hdl⟩ := id hL
  have hlt : l < s2.heap.objs.size := Heap.lt_size hol
  show wpAny _ _ (call (.type "enumerate") [.ref l]) _ _ _
  refine call_enumerate_list hL fun h' hE hI hsz hk => ⟨kk.trans (kp_heap s2 hk), ?_⟩
  have W := WalksT.enumerate (prog := c.W.prog) (w := c.W.w) ok.rm.hd (s2.heap.objs.size + 1) s2.heap.objs.size l (Nat.succ_ne_self _) (Nat.ne_of_lt (Nat.lt_succ_of_lt hlt)) (Nat.ne_of_lt hlt) items
  rw [hlen] at W
  have none0 : ∀ b, s2.heap.objs.size ≤ b → s.heap.get? b = none := fun b hb => none_of_kp kk (Heap.get?_none_of_le hb)
  refine wpAny_pyIter_enum hE ⟨kp_refl _, _, _, _, _, _, rfl, Wk.tuples W, ⟨⟨_, hE⟩, hI, hL.at fun o e => hk _ o e⟩, ?_, ?_, ?_, ?_, ?_⟩
  · rw [hsz]
    exact all3 (p := fun b => b < s2.heap.objs.size + 2) (Nat.lt_succ_self _) (Nat.lt_succ_of_lt (Nat.lt_succ_self _)) (Nat.lt_succ_of_lt (Nat.lt_succ_of_lt hlt))
  · exact all2 (none0 _ (Nat.le_succ _)) (none0 _ (Nat.le_refl _))
  · refine all3 (.inl (none0 _ (Nat.le_succ _))) (.inl (none0 _ (Nat.le_refl _))) ?_
    cases q : s.heap.get? l with
    | none => exact .inl rfl
    | some o =>
      have := kk.stays l o q
      rw [hol] at this; cases this
      exact .inr ⟨ol, rfl, ⟨_, _, hdl⟩, pl⟩
  · intro i h hst
    obtain ⟨⟨old, hE'⟩, hI', _⟩ := hst
    obtain ⟨o, h1, h2⟩ := listiter_ns hI'
    exact all2 ⟨_, hE', fun _ ⟨vs, n, q⟩ => by cases q⟩ ⟨o, h1, fun _ => h2⟩
  · intro i v h h'' hi hPv Pp hnew hkeep
    obtain ⟨T, vals, rfl, hT0, hT, t, x, hx, rfl⟩ := hPv
    refine rep_tup.mpr ⟨T, _, rfl, hnew T hT0, hT, repL_cons.mpr ⟨_, _, rfl, rep_int.mpr ⟨t, rfl⟩, repL_cons.mpr ⟨x, [], rfl, ?_, repL_nil.mpr rfl⟩⟩⟩
    obtain ⟨d, hd, rd⟩ := rl.at' (i := i) (v := x) (by simpa using hx)
    rw [getD_some _ hd]
    refine rd.mono fun a o pa ha hs => hkeep a o pa (hk a o ha) hs fun hw => ?_
    have := Heap.lt_size ha
    exact all2 (p := fun x => a ≠ x) (fun e => Nat.lt_irrefl _ (Nat.lt_of_succ_lt (e ▸ this))) (fun e => Nat.lt_irrefl _ (e ▸ this)) a hw rfl⟩
end
section
variable {c : Cx} {n : Nat} {ρ κ : Loc} {Q : Flow → Shared → Prop}
theorem x_brk {pos : Pos} {rest : List Stmt} (h : ∀ s, FrD c ρ κ s.heap → From c s → Q .brk s) : Xs c ρ κ (.Break pos :: rest) Q := ⟨fun s F b =>
  wpAny_execs_cons (wpAny_Break (h s F b))⟩
theorem x_forP {target iter : Expr} {body rest : List Stmt} {pos : Pos} {N : Nat} {it : Nat → D} (Jp : Nat → Prop) (ρs κs ρt κt : Nat → Loc) {ws : List Addr}
    (ok : c.Ok n) (ow : OwnL c) (oc : OwnC c) (hnd : ∀ p ∈ c.env.cells, c.env.cells.lookup p.1 = some p.2)
    (hI : EvI c ρ κ true target iter N it) (hs : ∀ x, foldedSetIterable iter c.env x = pure x)
    (h1 : ∀ y d, (ρs 0).lookup y = some d → ρ.lookup y = some d) (h2 : ∀ y d, (κs 0).lookup y = some d → κ.lookup y = some d)
    (hws : ∀ b ∈ ws, b ∈ hidden c) (j0 : Jp 0)
    (hasg : ∀ h i, i < N → (c.at h).Ok n → OwnL (c.at h) → OwnC (c.at h) → AsgT (c.at h) (ρs i) (κs i) (assign target (c.at h).env) (it i) (ρt i) (κt i) ws)
    (turn : ∀ h i, i < N → Jp i → (c.at h).Ok n → OwnL (c.at h) → OwnC (c.at h) → Stays c.h₀ h → Xs (c.at h) (ρt i) (κt i) body (fun f s => match f with
      | .next | .cont => FrD (c.at h) (ρs (i + 1)) (κs (i + 1)) s.heap ∧ From c s ∧ Jp (i + 1)
      | .brk => wpAny c.W.M c.A (execs rest c.env) Q NoE s
      | .ret v => Q (.ret v) s))
    (done : Jp N → Xs c (ρs N) (κs N) rest Q) : Xs c ρ κ (.For target iter body [] pos :: rest) Q := ⟨fun s F b => by
  refine forJ ρs κs ρt κt (fun i _ => Jp i) ok ow oc hnd hI hs h1 h2 hws (fun _ _ _ h _ => h) hasg (fun h i hi okh owh och k J => ⟨fun s F b => noE ((turn h i hi J okh owh och k).go s F b) fun f s4 h4 => ?_⟩) (fun s F b J => (done J).go s F b) F b j0
  have go : FrD (c.at h) (ρs (i + 1)) (κs (i + 1)) s4.heap ∧ From c s4 ∧ Jp (i + 1) → FrD c (ρs (i + 1)) (κs (i + 1)) s4.heap ∧ From c s4 ∧ Jp (i + 1) ∧ (∀ b o, h.get? b = some o → (SeqO o → c.P b) → s4.heap.get? b = some o) := fun ⟨F4, b4, J4⟩ =>
    ⟨F4.base k, b4, J4, fun b o e _ => F4.keep b o e⟩
  cases f with
  | next => exact go h4
  | cont => exact go h4
  | brk => exact h4
  | ret v => exact h4⟩

/- lists and tuples -/
theorem opB_tup {ds : List D} (h : ds.length ≤ 100000) : OpB c (.tup ds) (!ds.isEmpty) := fun s v x r => by
  obtain ⟨a, vs, rfl, _, hL, rl⟩ := rep_tup.mp r
  have hlen : vs.size = ds.length := by rw [← rl.length]; simp
  refine truthy_tuple hL (by omega) ⟨kp_toks s _, ?_⟩
  cases ds with
  | nil => simp at hlen; subst hlen; rfl
  | cons d ds => rw [List.length_cons] at hlen; simp [Array.isEmpty, hlen]
theorem c_len_list {ds : List D} (h : ds.length ≤ 100000) : CallD c (.builtin "len") [.list ds] (.int ds.length) := fun s vs x r => by
  obtain ⟨v, r', rfl, r1, r2⟩ := repL_cons.mp r; obtain rfl := repL_nil.mp r2
  obtain ⟨a, vs, rfl, _, hL, rl⟩ := rep_list.mp r1
  have hlen : vs.size = ds.length := by rw [← rl.length]; simp
  exact call_len_list hL (by omega) ⟨kp_toks s _, rep_int.mpr ⟨_, by rw [hlen]⟩⟩
theorem op_item_list {ds : List D} {i : Int} {d : D} (h0 : 0 ≤ i) (h1 : ds[i.toNat]? = some d) (h2 : ds.length ≤ 100000) : Op2 c getItem (.list ds) (.int i) d := fun s v1 v2 x r1 r2 => by
  obtain ⟨a, vs, rfl, _, hL, rl⟩ := rep_list.mp r1; obtain ⟨u, rfl⟩ := rep_int.mp r2
  obtain ⟨v, hv, rv⟩ := rl.at h1
  have hl : i.toNat < ds.length := by
    rcases Nat.lt_or_ge i.toNat ds.length with q | q
    · exact q
    · rw [List.getElem?_eq_none q] at h1; cases h1
  exact wpAny_getItem_list hL h0 (by omega) (by simpa using hv) ⟨kp_refl s, rv⟩
theorem op_item_tup {ds : List D} {i : Int} {d : D} (h0 : 0 ≤ i) (h1 : ds[i.toNat]? = some d) (h2 : ds.length ≤ 100000) : Op2 c getItem (.tup ds) (.int i) d := fun s v1 v2 x r1 r2 => by
  obtain ⟨a, vs, rfl, _, hL, rl⟩ := rep_tup.mp r1; obtain ⟨u, rfl⟩ := rep_int.mp r2
  have hlen : vs.size = ds.length := by rw [← rl.length]; simp
  obtain ⟨v, hv, rv⟩ := rl.at h1
  have hl : i.toNat < ds.length := by
    rcases Nat.lt_or_ge i.toNat ds.length with q | q
    · exact q
    · rw [List.getElem?_eq_none q] at h1; cases h1
  refine PyProof.Rows.getItem_tuple (j := i.toNat) hL (by omega) (by omega) ?_ (by simpa using hv) ⟨kp_refl s, rv⟩
  rw [hlen]; exact seq_at h0 hl h2
end
end Mine
end

section
open PySem PySem.W PyProof.Rows PySem.Calls
namespace Mine
theorem range_map_at {α β : Type} [Inhabited α] (xs : List α) (p : α → Bool) (f : α → β) : ((List.range xs.length).filter fun i => p (xs.getD i default)).map (fun i => f (xs.getD i default)) = (xs.filter p).map f := by
  have : ∀ (l : List α) (pre : List α), ((List.range' pre.length l.length).filter fun i => p ((pre ++ l).getD i default)).map (fun i => f ((pre ++ l).getD i default)) = (l.filter p).map f := by
    intro l
    induction l with
    | nil => intro pre; rfl
    | cons d l ih =>
      intro pre
      rw [List.length_cons, List.range'_succ, List.filter_cons, List.filter_cons]
      have e : (pre ++ d :: l).getD pre.length default = d := by simp
      have := ih (pre ++ [d])
      rw [List.length_append, List.length_singleton, List.append_assoc] at this
      simp only [List.singleton_append] at this
      rw [e]
      split
      · rw [List.map_cons, List.map_cons, e, this]
      · exact this
  have h := this xs []
  rw [List.range_eq_range']
  simpa using h
theorem getD_mem {α : Type} [Inhabited α] {xs : List α} {i : Nat} (h : i < xs.length) : xs.getD i default ∈ xs := by
  rw [List.getD_eq_getElem?_getD, List.getElem?_eq_getElem h]
  exact List.getElem_mem h
theorem getD_map {α : Type} [Inhabited α] {xs : List α} (enc : α → D) {i : Nat} (h : i < xs.length) : (xs.map enc).getD i dNone = enc (xs.getD i default) := by
  rw [List.getD_eq_getElem?_getD, List.getD_eq_getElem?_getD, List.getElem?_eq_getElem h, List.getElem?_map, List.getElem?_eq_getElem h]; rfl
section
variable {c : Cx} {n : Nat} {ρ κ : Loc}
theorem EvI.congr {st : Bool} {tgt e : Expr} {N N' : Nat} {it it' : Nat → D} (h : EvI c ρ κ st tgt e N it) (hN : N = N') (hi : ∀ i, i < N → it i = it' i) : EvI c ρ κ st tgt e N' it' := by
  subst hN
  exact ⟨fun s F => noE (h.go s F) fun v s1 ⟨k1, q⟩ => ⟨k1, noE q fun r s2 ⟨k2, I, fp, wr, Pi, StI, e, W, st, a1, a2, a3, a4, a5⟩ =>
    ⟨k2, I, fp, wr, Pi, StI, e, W, st, a1, a2, a3, a4, fun i v h h' hi' hp => by rw [← hi i hi']; exact a5 i v h h' hi' hp⟩⟩⟩
theorem evI_listA {α : Type} [Inhabited α] {xs : List α} {enc : α → D} {st : Bool} {tgt e : Expr} (ok : c.Ok n) (h : Ev c ρ κ e (.list (xs.map enc))) : EvI c ρ κ st tgt e xs.length (fun i => enc (xs.getD i default)) :=
  (evI_of h (itr_list ok) st).congr (by simp) fun i hi => getD_map enc (by simpa using hi)
theorem evI_tupA {α : Type} [Inhabited α] {xs : List α} {enc : α → D} {st : Bool} {tgt e : Expr} (ok : c.Ok n) (h : Ev c ρ κ e (.tup (xs.map enc))) : EvI c ρ κ st tgt e xs.length (fun i => enc (xs.getD i default)) :=
  (evI_of h (itr_tup ok) st).congr (by simp) fun i hi => getD_map enc (by simpa using hi)
theorem evI_strA {l : List Nat} {st : Bool} {tgt e : Expr} (ok : c.Ok n) (h : Ev c ρ κ e (.str (tx l))) : EvI c ρ κ st tgt e l.length (fun i => .str (tx [l.getD i default])) := evI_of h (itr_str ok) st
theorem evI_rangeA {N : Nat} {st : Bool} {tgt e : Expr} (h : EvI c ρ κ st tgt e N (fun i => .int i)) : EvI c ρ κ st tgt e (List.range N).length (fun i => .int ((List.range N).getD i default : Nat)) :=
  h.congr (by simp) fun i hi => by
    rw [List.getD_eq_getElem?_getD, List.getElem?_range hi]; rfl

theorem ev_compA {α : Type} [Inhabited α] (xs : List α) (enc : α → D) (pf : α → Bool) (f : α → D) (ρa : α → Loc) {st : Bool} {κ' : Loc} {target : Expr} {pos : Pos} {elt iter : Expr} {ifs : List Expr} {scope : Scope} {cl : List (Str × Addr)} {ds : List D}
    (ok : c.Ok n) (hI : EvI c ρ κ st target iter xs.length (fun i => enc (xs.getD i default))) (hN : xs.length ≤ 100000)
    (hclos : closureFor scope c.env = pure cl) (hcell : ∀ y ∈ scope.names, y.2 ≠ .cell) (hkind : scope.kind = .function) (hnames : ∀ y ∈ scope.names, y.2 = .local → scope.names.lookup y.1 = some .local)
    (hs : ∀ x, foldedSetIterable iter c.env x = pure x)
    (hsub : ∀ y a, cl.lookup y = some a → c.env.cells.lookup y = some a) (hκ : ∀ y d, κ'.lookup y = some d → κ.lookup y = some d)
    (hds : (xs.filter pf).map f = ds)
    (hasg : ∀ C P' x, x ∈ xs → (c.comp scope cl C P').Ok n → OwnL (c.comp scope cl C P') → AsgT (c.comp scope cl C P') [] κ' (assign target (c.comp scope cl C P').env) (enc x) (ρa x) κ' [C])
    (htest : ∀ C P' x, x ∈ xs → (c.comp scope cl C P').Ok n → EvIfs (c.comp scope cl C P') (ρa x) κ' ifs (pf x))
    (helt : ∀ C P' x, x ∈ xs → pf x = true → (c.comp scope cl C P').Ok n → Ev (c.comp scope cl C P') (ρa x) κ' elt (f x)) :
    Ev c ρ κ (.ListComp elt [⟨target, iter, ifs, 0⟩] scope pos) (.list ds) := by
  rw [← hds, ← range_map_at xs pf f]
  exact ev_comp (p := fun i => pf (xs.getD i default)) (g := fun i => f (xs.getD i default)) (ρi := fun i => ρa (xs.getD i default)) ok hI hN hclos hcell hkind hnames hs hsub hκ (fun C P' i hi => hasg C P' _ (getD_mem hi)) (fun C P' i hi => htest C P' _ (getD_mem hi)) (fun C P' i hi => helt C P' _ (getD_mem hi))
theorem x_asgCompA {α : Type} [Inhabited α] (xs : List α) (enc : α → D) (pf : α → Bool) (f : α → D) (ρa : α → Loc) {st : Bool} {κ' : Loc} {target : Expr} {y : Str} {py pos spos : Pos} {elt iter : Expr} {ifs : List Expr} {scope : Scope} {cl : List (Str × Addr)} {ds : List D} {rest : List Stmt} {Q : Flow → Shared → Prop}
    (ok : c.Ok n) (ow : OwnL c) (hk : c.env.kindOf y = some .local) (hI : EvI c ρ κ st target iter xs.length (fun i => enc (xs.getD i default))) (hN : xs.length ≤ 100000)
    (hclos : closureFor scope c.env = pure cl) (hcell : ∀ y ∈ scope.names, y.2 ≠ .cell) (hkind : scope.kind = .function) (hnames : ∀ y ∈ scope.names, y.2 = .local → scope.names.lookup y.1 = some .local)
    (hs : ∀ x, foldedSetIterable iter c.env x = pure x)
    (hsub : ∀ y a, cl.lookup y = some a → c.env.cells.lookup y = some a) (hκ : ∀ y d, κ'.lookup y = some d → κ.lookup y = some d)
    (hsw : swapsWith (.ListComp elt [⟨target, iter, ifs, 0⟩] scope pos) (some (.Name y py)) spos.line c.env = pure true)
    (hds : (xs.filter pf).map f = ds)
    (hasg : ∀ C P' x, x ∈ xs → (c.comp scope cl C P').Ok n → OwnL (c.comp scope cl C P') → AsgT (c.comp scope cl C P') [] κ' (assign target (c.comp scope cl C P').env) (enc x) (ρa x) κ' [C])
    (htest : ∀ C P' x, x ∈ xs → (c.comp scope cl C P').Ok n → EvIfs (c.comp scope cl C P') (ρa x) κ' ifs (pf x))
    (helt : ∀ C P' x, x ∈ xs → pf x = true → (c.comp scope cl C P').Ok n → Ev (c.comp scope cl C P') (ρa x) κ' elt (f x))
    (h : Xs c ((y, .list ds) :: ρ) κ rest Q) :
    Xs c ρ κ (.Assign [.Name y py] (.ListComp elt [⟨target, iter, ifs, 0⟩] scope pos) spos :: rest) Q := by
  rw [← hds, ← range_map_at xs pf f] at h
  exact x_asgComp (p := fun i => pf (xs.getD i default)) (g := fun i => f (xs.getD i default)) (ρi := fun i => ρa (xs.getD i default)) ok ow hk hI hN hclos hcell hkind hnames hs hsub hκ hsw (fun C P' i hi => hasg C P' _ (getD_mem hi)) (fun C P' i hi => htest C P' _ (getD_mem hi)) (fun C P' i hi => helt C P' _ (getD_mem hi)) h
end
section
variable {c : Cx} {n : Nat} {ρ κ : Loc} {Q : Flow → Shared → Prop}
theorem x_forB {target iter : Expr} {body rest : List Stmt} {pos : Pos} {N : Nat} {it : Nat → D} (Jp : Nat → Prop) (ρs κs ρt κt : Nat → Loc) (ρr κr : Loc) {ws : List Addr}
    (ok : c.Ok n) (ow : OwnL c) (oc : OwnC c) (hnd : ∀ p ∈ c.env.cells, c.env.cells.lookup p.1 = some p.2)
    (hI : EvI c ρ κ true target iter N it) (hs : ∀ x, foldedSetIterable iter c.env x = pure x)
    (h1 : ∀ y d, (ρs 0).lookup y = some d → ρ.lookup y = some d) (h2 : ∀ y d, (κs 0).lookup y = some d → κ.lookup y = some d)
    (hws : ∀ b ∈ ws, b ∈ hidden c) (j0 : Jp 0)
    (hasg : ∀ h i, i < N → (c.at h).Ok n → OwnL (c.at h) → OwnC (c.at h) → AsgT (c.at h) (ρs i) (κs i) (assign target (c.at h).env) (it i) (ρt i) (κt i) ws)
    (turn : ∀ h i, i < N → Jp i → (c.at h).Ok n → OwnL (c.at h) → OwnC (c.at h) → Xs (c.at h) (ρt i) (κt i) body (fun f s => match f with
      | .next | .cont => FrD (c.at h) (ρs (i + 1)) (κs (i + 1)) s.heap ∧ From c s ∧ Jp (i + 1)
      | .brk => FrD (c.at h) ρr κr s.heap ∧ From c s
      | .ret v => False))
    (done : Jp N → (∀ y d, ρr.lookup y = some d → (ρs N).lookup y = some d) ∧ (∀ y d, κr.lookup y = some d → (κs N).lookup y = some d))
    (hrest : Xs c ρr κr rest Q) : Xs c ρ κ (.For target iter body [] pos :: rest) Q :=
  x_forP Jp ρs κs ρt κt ok ow oc hnd hI hs h1 h2 hws j0 hasg (fun h i hi J okh owh och k => ⟨fun s F b => noE ((turn h i hi J okh owh och).go s F b) fun f s4 h4 => by
    cases f with
    | next => exact h4
    | cont => exact h4
    | brk => exact hrest.go s4 (h4.1.base k) h4.2
    | ret v => exact h4.elim⟩) fun J => x_weak hrest (done J).1 (done J).2
end
end Mine
end

section
open PySem PySem.W PyProof.Rows PySem.Calls
namespace Mine
/- the text's own defs, as the top has left them -/
noncomputable def fdOf (P : Params) (a : Addr) : FuncData := match (heap_39 P).lookup a with
  | some ⟨_, _, .func fd, _⟩ => fd
  | _ => default
noncomputable def bodyOf (fd : FuncData) : List Stmt := match fd.body with
  | .stmts b => b
  | _ => []
noncomputable abbrev fnObj (fd : FuncData) : Obj := { cls := .type "function", data := .func fd }
noncomputable def plainFd (fd : FuncData) : Prop := fd.closure = [] ∧ fd.scope.isCoroutine = false ∧ fd.scope.isGenerator = false ∧ fd.scope.kind = .function ∧ fd.globals = mainGlobals ∧ fd.builtins = builtinsNs

theorem g_QUOPRI_MAP (P : Params) : nsIn (heap_39 P) mainGlobals "_QUOPRI_MAP" = some (some (.ref 40)) := by kernel_rfl!
theorem g_QUOPRI_HEADER_MAP (P : Params) : nsIn (heap_39 P) mainGlobals "_QUOPRI_HEADER_MAP" = some (some (.ref 45)) := by kernel_rfl!
theorem g_QUOPRI_BODY_ENCODE_MAP (P : Params) : nsIn (heap_39 P) mainGlobals "_QUOPRI_BODY_ENCODE_MAP" = some (some (.ref 70)) := by kernel_rfl!
theorem g_quote (P : Params) : nsIn (heap_39 P) mainGlobals "quote" = some (some (.ref 60)) := by kernel_rfl!
theorem g_header_encode (P : Params) : nsIn (heap_39 P) mainGlobals "header_encode" = some (some (.ref 68)) := by kernel_rfl!
theorem g_body_encode (P : Params) : nsIn (heap_39 P) mainGlobals "body_encode" = some (some (.ref 81)) := by kernel_rfl!
theorem g_fspath (P : Params) : nsIn (heap_39 P) mainGlobals "fspath" = some (some (.ref 154)) := by kernel_rfl!
theorem g_get_sep (P : Params) : nsIn (heap_39 P) mainGlobals "_get_sep" = some (some (.ref 168)) := by kernel_rfl!
theorem g_join (P : Params) : nsIn (heap_39 P) mainGlobals "join" = some (some (.ref 175)) := by kernel_rfl!
theorem g_commonpath (P : Params) : nsIn (heap_39 P) mainGlobals "commonpath" = some (some (.ref 180)) := by kernel_rfl!
theorem g_law_text (P : Params) : nsIn (heap_39 P) mainGlobals "_law_text" = some (some (.ref 187)) := by kernel_rfl!
theorem g_law_written (P : Params) : nsIn (heap_39 P) mainGlobals "_law_written" = some (some (.ref 192)) := by kernel_rfl!
theorem g_law_names (P : Params) : nsIn (heap_39 P) mainGlobals "_law_names" = some (some (.ref 199)) := by kernel_rfl!
theorem g_law_spelled (P : Params) : nsIn (heap_39 P) mainGlobals "_law_spelled" = some (some (.ref 204)) := by kernel_rfl!
theorem g_law_compare (P : Params) : nsIn (heap_39 P) mainGlobals "_law_compare" = some (some (.ref 211)) := by kernel_rfl!
theorem g_reduce (P : Params) : nsIn (heap_39 P) mainGlobals "reduce" = some (some (.ref 37)) := by kernel_rfl!
theorem g_cmp_to_key (P : Params) : nsIn (heap_39 P) mainGlobals "cmp_to_key" = some (some (.ref 28)) := by kernel_rfl!
theorem g_initial_missing (P : Params) : nsIn (heap_39 P) mainGlobals "_initial_missing" = some (some (.ref 29)) := by kernel_rfl!
theorem g_ord (P : Params) : nsIn (heap_39 P) mainGlobals "ord" = some none := by kernel_rfl!
theorem bt_ord : bootBuiltins "ord" = some (.builtin "ord") := by decide +kernel
theorem g_chr (P : Params) : nsIn (heap_39 P) mainGlobals "chr" = some none := by kernel_rfl!
theorem bt_chr : bootBuiltins "chr" = some (.builtin "chr") := by decide +kernel
theorem g_abs (P : Params) : nsIn (heap_39 P) mainGlobals "abs" = some none := by kernel_rfl!
theorem bt_abs : bootBuiltins "abs" = some (.builtin "abs") := by decide +kernel
theorem g_len (P : Params) : nsIn (heap_39 P) mainGlobals "len" = some none := by kernel_rfl!
theorem bt_len : bootBuiltins "len" = some (.builtin "len") := by decide +kernel
theorem g_isinstance (P : Params) : nsIn (heap_39 P) mainGlobals "isinstance" = some none := by kernel_rfl!
theorem bt_isinstance : bootBuiltins "isinstance" = some (.builtin "isinstance") := by decide +kernel
theorem g_issubclass (P : Params) : nsIn (heap_39 P) mainGlobals "issubclass" = some none := by kernel_rfl!
theorem bt_issubclass : bootBuiltins "issubclass" = some (.builtin "issubclass") := by decide +kernel
theorem g_type (P : Params) : nsIn (heap_39 P) mainGlobals "type" = some none := by kernel_rfl!
theorem bt_type : bootBuiltins "type" = some (.type "type") := by decide +kernel
theorem g_str (P : Params) : nsIn (heap_39 P) mainGlobals "str" = some none := by kernel_rfl!
theorem bt_str : bootBuiltins "str" = some (.type "str") := by decide +kernel
theorem g_bytes (P : Params) : nsIn (heap_39 P) mainGlobals "bytes" = some none := by kernel_rfl!
theorem bt_bytes : bootBuiltins "bytes" = some (.type "bytes") := by decide +kernel
theorem g_tuple (P : Params) : nsIn (heap_39 P) mainGlobals "tuple" = some none := by kernel_rfl!
theorem bt_tuple : bootBuiltins "tuple" = some (.type "tuple") := by decide +kernel
theorem g_map (P : Params) : nsIn (heap_39 P) mainGlobals "map" = some none := by kernel_rfl!
theorem bt_map : bootBuiltins "map" = some (.type "map") := by decide +kernel
theorem g_range (P : Params) : nsIn (heap_39 P) mainGlobals "range" = some none := by kernel_rfl!
theorem bt_range : bootBuiltins "range" = some (.type "range") := by decide +kernel
theorem g_sorted (P : Params) : nsIn (heap_39 P) mainGlobals "sorted" = some none := by kernel_rfl!
theorem bt_sorted : bootBuiltins "sorted" = some (.builtin "sorted") := by decide +kernel
theorem g_zip (P : Params) : nsIn (heap_39 P) mainGlobals "zip" = some none := by kernel_rfl!
theorem bt_zip : bootBuiltins "zip" = some (.type "zip") := by decide +kernel
theorem g_min (P : Params) : nsIn (heap_39 P) mainGlobals "min" = some none := by kernel_rfl!
theorem bt_min : bootBuiltins "min" = some (.builtin "min") := by decide +kernel
theorem g_max (P : Params) : nsIn (heap_39 P) mainGlobals "max" = some none := by kernel_rfl!
theorem bt_max : bootBuiltins "max" = some (.builtin "max") := by decide +kernel
theorem g_enumerate (P : Params) : nsIn (heap_39 P) mainGlobals "enumerate" = some none := by kernel_rfl!
theorem bt_enumerate : bootBuiltins "enumerate" = some (.type "enumerate") := by decide +kernel
theorem g_iter (P : Params) : nsIn (heap_39 P) mainGlobals "iter" = some none := by kernel_rfl!
theorem bt_iter : bootBuiltins "iter" = some (.builtin "iter") := by decide +kernel
theorem k60 (P : Params) : (heap_39 P).lookup 60 = some (fnObj (fdOf P 60)) := by kernel_rfl!
theorem b60 (P : Params) : (fdOf P 60).body = .stmts (bodyOf (fdOf P 60)) := by kernel_rfl!
theorem c60 (P : Params) : codeIn (heap_39 P) (fdOf P 60).code (fdOf P 60).qualname = true := by kernel_rfl!
theorem s60 (P : Params) : plainFd (fdOf P 60) := ⟨rfl, rfl, rfl, rfl, rfl, rfl⟩
theorem h60 (P : Params) : keepIn (heap_39 P) (.ref 60) = true := by kernel_rfl!
theorem a60 (P : Params) (v0 : Value) : bindArgs (fdOf P 60) ⟨[v0], []⟩ = pure [(("c" : Str), v0)] := by kernel_rfl!
theorem k154 (P : Params) : (heap_39 P).lookup 154 = some (fnObj (fdOf P 154)) := by kernel_rfl!
theorem b154 (P : Params) : (fdOf P 154).body = .stmts (bodyOf (fdOf P 154)) := by kernel_rfl!
theorem c154 (P : Params) : codeIn (heap_39 P) (fdOf P 154).code (fdOf P 154).qualname = true := by kernel_rfl!
theorem s154 (P : Params) : plainFd (fdOf P 154) := ⟨rfl, rfl, rfl, rfl, rfl, rfl⟩
theorem h154 (P : Params) : keepIn (heap_39 P) (.ref 154) = true := by kernel_rfl!
theorem a154 (P : Params) (v0 : Value) : bindArgs (fdOf P 154) ⟨[v0], []⟩ = pure [(("path" : Str), v0)] := by kernel_rfl!
theorem k168 (P : Params) : (heap_39 P).lookup 168 = some (fnObj (fdOf P 168)) := by kernel_rfl!
theorem b168 (P : Params) : (fdOf P 168).body = .stmts (bodyOf (fdOf P 168)) := by kernel_rfl!
theorem c168 (P : Params) : codeIn (heap_39 P) (fdOf P 168).code (fdOf P 168).qualname = true := by kernel_rfl!
theorem s168 (P : Params) : plainFd (fdOf P 168) := ⟨rfl, rfl, rfl, rfl, rfl, rfl⟩
theorem h168 (P : Params) : keepIn (heap_39 P) (.ref 168) = true := by kernel_rfl!
theorem a168 (P : Params) (v0 : Value) : bindArgs (fdOf P 168) ⟨[v0], []⟩ = pure [(("path" : Str), v0)] := by kernel_rfl!
theorem k180 (P : Params) : (heap_39 P).lookup 180 = some (fnObj (fdOf P 180)) := by kernel_rfl!
theorem b180 (P : Params) : (fdOf P 180).body = .stmts (bodyOf (fdOf P 180)) := by kernel_rfl!
theorem c180 (P : Params) : codeIn (heap_39 P) (fdOf P 180).code (fdOf P 180).qualname = true := by kernel_rfl!
theorem s180 (P : Params) : plainFd (fdOf P 180) := ⟨rfl, rfl, rfl, rfl, rfl, rfl⟩
theorem h180 (P : Params) : keepIn (heap_39 P) (.ref 180) = true := by kernel_rfl!
theorem a180 (P : Params) (v0 : Value) : bindArgs (fdOf P 180) ⟨[v0], []⟩ = pure [(("paths" : Str), v0)] := by kernel_rfl!
theorem k187 (P : Params) : (heap_39 P).lookup 187 = some (fnObj (fdOf P 187)) := by kernel_rfl!
theorem b187 (P : Params) : (fdOf P 187).body = .stmts (bodyOf (fdOf P 187)) := by kernel_rfl!
theorem c187 (P : Params) : codeIn (heap_39 P) (fdOf P 187).code (fdOf P 187).qualname = true := by kernel_rfl!
theorem s187 (P : Params) : plainFd (fdOf P 187) := ⟨rfl, rfl, rfl, rfl, rfl, rfl⟩
theorem h187 (P : Params) : keepIn (heap_39 P) (.ref 187) = true := by kernel_rfl!
theorem a187 (P : Params) (v0 : Value) : bindArgs (fdOf P 187) ⟨[v0], []⟩ = pure [(("x" : Str), v0)] := by kernel_rfl!
theorem k192 (P : Params) : (heap_39 P).lookup 192 = some (fnObj (fdOf P 192)) := by kernel_rfl!
theorem b192 (P : Params) : (fdOf P 192).body = .stmts (bodyOf (fdOf P 192)) := by kernel_rfl!
theorem c192 (P : Params) : codeIn (heap_39 P) (fdOf P 192).code (fdOf P 192).qualname = true := by kernel_rfl!
theorem s192 (P : Params) : plainFd (fdOf P 192) := ⟨rfl, rfl, rfl, rfl, rfl, rfl⟩
theorem h192 (P : Params) : keepIn (heap_39 P) (.ref 192) = true := by kernel_rfl!
theorem a192 (P : Params) (v0 v1 : Value) : bindArgs (fdOf P 192) ⟨[v0, v1], []⟩ = pure [(("text" : Str), v0), (("way" : Str), v1)] := by kernel_rfl!
theorem k199 (P : Params) : (heap_39 P).lookup 199 = some (fnObj (fdOf P 199)) := by kernel_rfl!
theorem b199 (P : Params) : (fdOf P 199).body = .stmts (bodyOf (fdOf P 199)) := by kernel_rfl!
theorem c199 (P : Params) : codeIn (heap_39 P) (fdOf P 199).code (fdOf P 199).qualname = true := by kernel_rfl!
theorem s199 (P : Params) : plainFd (fdOf P 199) := ⟨rfl, rfl, rfl, rfl, rfl, rfl⟩
theorem h199 (P : Params) : keepIn (heap_39 P) (.ref 199) = true := by kernel_rfl!
theorem a199 (P : Params) (v0 v1 : Value) : bindArgs (fdOf P 199) ⟨[v0, v1], []⟩ = pure [(("text" : Str), v0), (("way" : Str), v1)] := by kernel_rfl!
theorem k204 (P : Params) : (heap_39 P).lookup 204 = some (fnObj (fdOf P 204)) := by kernel_rfl!
theorem b204 (P : Params) : (fdOf P 204).body = .stmts (bodyOf (fdOf P 204)) := by kernel_rfl!
theorem c204 (P : Params) : codeIn (heap_39 P) (fdOf P 204).code (fdOf P 204).qualname = true := by kernel_rfl!
theorem s204 (P : Params) : plainFd (fdOf P 204) := ⟨rfl, rfl, rfl, rfl, rfl, rfl⟩
theorem h204 (P : Params) : keepIn (heap_39 P) (.ref 204) = true := by kernel_rfl!
theorem a204 (P : Params) (v0 : Value) : bindArgs (fdOf P 204) ⟨[v0], []⟩ = pure [(("name" : Str), v0)] := by kernel_rfl!
theorem k211 (P : Params) : (heap_39 P).lookup 211 = some (fnObj (fdOf P 211)) := by kernel_rfl!
theorem b211 (P : Params) : (fdOf P 211).body = .stmts (bodyOf (fdOf P 211)) := by kernel_rfl!
theorem c211 (P : Params) : codeIn (heap_39 P) (fdOf P 211).code (fdOf P 211).qualname = true := by kernel_rfl!
theorem s211 (P : Params) : plainFd (fdOf P 211) := ⟨rfl, rfl, rfl, rfl, rfl, rfl⟩
theorem h211 (P : Params) : keepIn (heap_39 P) (.ref 211) = true := by kernel_rfl!
theorem a211 (P : Params) (v0 v1 : Value) : bindArgs (fdOf P 211) ⟨[v0, v1], []⟩ = pure [(("one" : Str), v0), (("other" : Str), v1)] := by kernel_rfl!
theorem k28 (P : Params) : (heap_39 P).lookup 28 = some (fnObj (fdOf P 28)) := by kernel_rfl!
theorem b28 (P : Params) : (fdOf P 28).body = .stmts (bodyOf (fdOf P 28)) := by kernel_rfl!
theorem c28 (P : Params) : codeIn (heap_39 P) (fdOf P 28).code (fdOf P 28).qualname = true := by kernel_rfl!
theorem s28 (P : Params) : plainFd (fdOf P 28) := ⟨rfl, rfl, rfl, rfl, rfl, rfl⟩
theorem h28 (P : Params) : keepIn (heap_39 P) (.ref 28) = true := by kernel_rfl!
theorem a28 (P : Params) (v0 : Value) : bindArgs (fdOf P 28) ⟨[v0], []⟩ = pure [(("mycmp" : Str), v0)] := by kernel_rfl!
theorem k81 (P : Params) : (heap_39 P).lookup 81 = some (fnObj (fdOf P 81)) := by kernel_rfl!
theorem b81 (P : Params) : (fdOf P 81).body = .stmts (bodyOf (fdOf P 81)) := by kernel_rfl!
theorem c81 (P : Params) : codeIn (heap_39 P) (fdOf P 81).code (fdOf P 81).qualname = true := by kernel_rfl!
theorem s81 (P : Params) : plainFd (fdOf P 81) := ⟨rfl, rfl, rfl, rfl, rfl, rfl⟩
theorem h81 (P : Params) : keepIn (heap_39 P) (.ref 81) = true := by kernel_rfl!
theorem k175 (P : Params) : (heap_39 P).lookup 175 = some (fnObj (fdOf P 175)) := by kernel_rfl!
theorem b175 (P : Params) : (fdOf P 175).body = .stmts (bodyOf (fdOf P 175)) := by kernel_rfl!
theorem c175 (P : Params) : codeIn (heap_39 P) (fdOf P 175).code (fdOf P 175).qualname = true := by kernel_rfl!
theorem s175 (P : Params) : plainFd (fdOf P 175) := ⟨rfl, rfl, rfl, rfl, rfl, rfl⟩
theorem h175 (P : Params) : keepIn (heap_39 P) (.ref 175) = true := by kernel_rfl!
theorem k68 (P : Params) : (heap_39 P).lookup 68 = some (fnObj (fdOf P 68)) := by kernel_rfl!
theorem b68 (P : Params) : (fdOf P 68).body = .stmts (bodyOf (fdOf P 68)) := by kernel_rfl!
theorem c68 (P : Params) : codeIn (heap_39 P) (fdOf P 68).code (fdOf P 68).qualname = true := by kernel_rfl!
theorem s68 (P : Params) : plainFd (fdOf P 68) := ⟨rfl, rfl, rfl, rfl, rfl, rfl⟩
theorem h68 (P : Params) : keepIn (heap_39 P) (.ref 68) = true := by kernel_rfl!
theorem k37 (P : Params) : (heap_39 P).lookup 37 = some (fnObj (fdOf P 37)) := by kernel_rfl!
theorem b37 (P : Params) : (fdOf P 37).body = .stmts (bodyOf (fdOf P 37)) := by kernel_rfl!
theorem c37 (P : Params) : codeIn (heap_39 P) (fdOf P 37).code (fdOf P 37).qualname = true := by kernel_rfl!
theorem s37 (P : Params) : plainFd (fdOf P 37) := ⟨rfl, rfl, rfl, rfl, rfl, rfl⟩
theorem h37 (P : Params) : keepIn (heap_39 P) (.ref 37) = true := by kernel_rfl!

theorem call_defL {c : Cx} {n : Nat} {f : Addr} {ds : List D} {d : D} {bds : List (Str × D)} (ok : c.Ok (n + 1))
    (hf : ∀ P, (heap_39 P).lookup f = some (fnObj (fdOf P f))) (hb : ∀ P, (fdOf P f).body = .stmts (bodyOf (fdOf P f))) (hc : ∀ P, codeIn (heap_39 P) (fdOf P f).code (fdOf P f).qualname = true)
    (hs : ∀ P, plainFd (fdOf P f))
    (hbind : Binds c (fdOf c.W.w.params f) ds bds) (hl : ∀ x ∈ bds, (fdOf c.W.w.params f).scope.names.lookup x.1 = some .local) (hnd : (bds.map (·.1)).Nodup)
    (h : ∀ s, St c s.heap → (c.into (fdOf c.W.w.params f) f s).Ok n → Xs (c.into (fdOf c.W.w.params f) f s) bds [] (bodyOf (fdOf c.W.w.params f)) (Ret (c.into (fdOf c.W.w.params f) f s) d)) : CallD c (.ref f) ds d := by
  obtain ⟨h1, h2, h3, h4, h5, h6⟩ := hs c.W.w.params
  refine call_def (bds := bds) (ρ := bds) (κ := []) ok (Nat.succ_pos _) (hf _) rfl (hb _) (hc _) h1 hbind (fun k x hx => .inl (hl x hx)) hnd (fun x d e => ?_) (fun x d e => by cases e) (fun s x => h s x (into_ok ok x h4 h5 h6)) h2 h3 h4
  have hm := mem_of_lookup e
  exact ⟨hm, hl _ hm⟩
section ops
variable {c : Cx} {ρ κ : Loc} {n : Nat}
theorem L {x : Str} {pos : Pos} {d : D} (ok : c.Ok n) (hk : c.env.kindOf x = some .local := by rfl) (hx : ρ.lookup x = some d := by rfl) (hd : (x == ("__debug__" : Str)) = false := by rfl) : Ev c ρ κ (.Name x pos) d := ev_loc ok hk hx hd
theorem G {x : Str} {pos : Pos} {v : Value} (ok : c.Ok n) (hx : ∀ P, nsIn (heap_39 P) mainGlobals x = some (some v)) (hk : c.env.kindOf x = some .globalImplicit := by rfl) (hd : (x == ("__debug__" : Str)) = false := by rfl) : Ev c ρ κ (.Name x pos) (.val v) := ev_glob ok hk (hx _) hd
theorem Bl {x : Str} {pos : Pos} {v : Value} (ok : c.Ok n) (hx : ∀ P, nsIn (heap_39 P) mainGlobals x = some none) (hv : bootBuiltins x = some v) (hk : c.env.kindOf x = some .globalImplicit := by rfl) (hn : x ≠ "__name__" := by decide) (hd : (x == ("__debug__" : Str)) = false := by rfl) : Ev c ρ κ (.Name x pos) (.val v) := ev_blt ok hk (hx _) hv hn hd
theorem ev_tx {x : Str} {k : Nat} {pos : Pos} (l : List Nat) (h : x = tx l := by rfl) : Ev c ρ κ (.Constant (.str x) k pos) (.str (tx l)) := h ▸ ev_str
theorem binds1 {fd : FuncData} {x : Str} {d : D} (h : ∀ v, bindArgs fd ⟨[v], []⟩ = pure [(x, v)]) : Binds c fd [d] [(x, d)] := fun s vs q r => by
  obtain ⟨v, r', rfl, r1, r2⟩ := repL_cons.mp r; obtain rfl := repL_nil.mp r2
  rw [h]; exact wpAny_pure ⟨kp_refl s, repB_cons r1 repB_nil⟩
theorem binds2 {fd : FuncData} {x y : Str} {d e : D} (h : ∀ v u, bindArgs fd ⟨[v, u], []⟩ = pure [(x, v), (y, u)]) : Binds c fd [d, e] [(x, d), (y, e)] := fun s vs q r => by
  obtain ⟨v, r', rfl, r1, r2⟩ := repL_cons.mp r; obtain ⟨u, r'', rfl, r3, r4⟩ := repL_cons.mp r2; obtain rfl := repL_nil.mp r4
  rw [h]; exact wpAny_pure ⟨kp_refl s, repB_cons r1 (repB_cons r3 repB_nil)⟩
end ops
end Mine
end

section
open PySem PySem.W PyProof.Rows PySem.Calls
namespace Mine

section
variable {prog : Program} {w : World} {A : Around} {E : Value → Shared → Prop}
theorem sub_str_str : isSubtype (.type "str") (.type "str") = pure true := by rw [isSubtype_type]; kernel_rfl
theorem issub_nested_self {s : Shared} {tk : Tok} {i : Int} {Q : Fin → Shared → Prop} (hq : Q (.done (.ret (.bool true))) s) : wpAny (model prog w) A (Builtin.«issubclass.nested» ⟨[.type "str", .type "str", .int i tk], []⟩) Q E s := by
  have f1 := sub_str_str
  repeat (any_goals (first | assumption | wp_step))
theorem kind_nested : builtinKind "issubclass.nested" = none := by decide +kernel
theorem plain_nested : plainId "issubclass.nested" = true := by decide +kernel
theorem args_nested (a b c : Value) : argsOk "issubclass.nested" ⟨[a, b, c], []⟩ := by unfold argsOk; kernel_rfl
theorem issub_nested_tup {s : Shared} {tp : Addr} {x : Value} {Q : Fin → Shared → Prop} (ht : s.heap.IsTuple tp #[.type "str", x]) (hq : Q (.done (.ret (.bool true))) s) :
    wpAny (model prog w) A (Builtin.«issubclass.nested» ⟨[.type "str", .ref tp, rawInt 0], []⟩) Q E s := by
  obtain ⟨h, g, d, t, os⟩ := s
  obtain ⟨o, ho, hc, n, hd⟩ := ht
  have hT2 : (⟨h, g, d, t, os⟩ : Shared).TypeIs (.ref tp) "tuple" := ⟨_, ho, hc⟩
  have f1 := F.isi_sub_tuple
  repeat (any_goals (first | assumption | wp_step))
  rw [hd]
  refine wpAny_pure (wpAny_bind ?_)
  simp only [Option.getD_some]
  rw [← Array.forIn_toList]
  show wpAny _ _ (forIn [Value.type "str", x] _ _) _ _ _
  rw [List.forIn_cons]
  refine wpAny_bind (wpAny_bind ?_)
  with_reducible refine call_function_entry kind_nested plain_nested F.entry_issubclass_nested (args_nested _ _ _) ?_
  refine issub_nested_self ⟨_, rfl, ?_⟩
  refine wpAny_bind (wpAny_truthy_bool ?_)
  exact wpAny_bind (wpAny_pure (wpAny_pure (wpAny_pure (wpAny_pure hq))))
end

section ops
variable {c : Cx} {ρ κ : Loc} {n : Nat}
theorem c_issub : CallD c (.builtin "issubclass") [.val (.type "str"), .tup [.val (.type "str"), .val (.type "bytes")]] (bo true) := fun s vs x r => by
  obtain ⟨v, r', rfl, r1, r2⟩ := repL_cons.mp r; obtain ⟨v2, r'', rfl, r3, r4⟩ := repL_cons.mp r2; obtain rfl := repL_nil.mp r4
  obtain rfl := rep_val.mp r1; obtain ⟨a, vs, rfl, _, ht, hl⟩ := rep_tup.mp r3
  obtain ⟨u1, q1, e1, f1, g1⟩ := repL_cons.mp hl; obtain ⟨u2, q2, rfl, f2, g2⟩ := repL_cons.mp g1; obtain rfl := repL_nil.mp g2
  obtain rfl := rep_val.mp f1; obtain rfl := rep_val.mp f2
  obtain ⟨l⟩ := vs
  dsimp only at e1
  subst e1
  have M : Meets (Builtin.«issubclass» ⟨[.type "str", .ref a], []⟩) (fun A R s => s.heap.IsTuple a #[.type "str", .type "bytes"] ∧ R (.ok (.ret (.bool true))) s) := fun prog w A R s h => issubclass_outer (issub_nested_tup h.1 h.2)
  with_reducible refine call_issubclass M ?_
  exact ⟨ht, kp_refl s, rep_val.mpr rfl⟩
theorem c_isi_bytes {a : Str} : CallD c (.builtin "isinstance") [.str a, .val (.type "bytes")] (bo false) := fun s vs x r => by
  obtain ⟨v, r', rfl, r1, r2⟩ := repL_cons.mp r; obtain ⟨v2, r'', rfl, r3, r4⟩ := repL_cons.mp r2; obtain rfl := repL_nil.mp r4
  obtain ⟨t, rfl⟩ := rep_str.mp r1; obtain rfl := rep_val.mp r3
  with_reducible exact IsiPair.str_bytes ⟨kp_toks s _, rep_val.mpr rfl⟩
theorem c_type_str {a : Str} : CallD c (.type "type") [.str a] (.val (.type "str")) := fun s vs x r => by
  obtain ⟨v, r', rfl, r1, r2⟩ := repL_cons.mp r; obtain rfl := repL_nil.mp r2
  obtain ⟨t, rfl⟩ := rep_str.mp r1
  have hT : s.TypeIs (.str a t) "str" := (rfl : typeOf (.str a t) = pure (.type "str"))
  with_reducible refine call_type_of hT (by decide) ?_
  exact ⟨kp_refl s, rep_val.mpr rfl⟩

end ops
noncomputable def hexd (n : Nat) : Nat := if n < 10 then 48 + n else 55 + n
noncomputable def esc (i : Nat) : List Nat := [61, hexd (i / 16), hexd (i % 16)]
noncomputable def isTx (l : List Nat) : Value → Bool
  | .str x _ => x.cps.toList == l
  | _ => false
theorem isTx_spec {l : List Nat} {v : Value} (h : isTx l v = true) : ∃ t, v = .str (tx l) t := by
  cases v <;> simp only [isTx, Bool.false_eq_true] at h
  rename_i x t
  refine ⟨t, ?_⟩
  rw [← tx_eq x, eq_of_beq h]
noncomputable def seqOf (P : Params) (a : Addr) : Array Value := match (heap_39 P).lookup a with
  | some ⟨_, _, .seq vs _, _⟩ => vs
  | _ => #[]
noncomputable def epOf (P : Params) (a : Addr) : Nat := match (heap_39 P).lookup a with
  | some ⟨_, _, .seq _ n, _⟩ => n
  | _ => 0
theorem m40 (P : Params) : (heap_39 P).lookup 40 = some { cls := .type "list", data := .seq (seqOf P 40) (epOf P 40) } := by kernel_rfl!
noncomputable def eachTx (f : Nat → List Nat) : Nat → List Value → Bool
  | _, [] => true
  | i, v :: r => isTx (f i) v && eachTx f (i + 1) r
theorem eachTx_at {f : Nat → List Nat} : ∀ {i : Nat} {vs : List Value} {j : Nat} {v : Value}, eachTx f i vs = true → vs[j]? = some v → isTx (f (i + j)) v = true
  | _, [], _, _, _, h => by simp at h
  | i, u :: r, 0, v, h, e => by simp at e; subst e; simp only [eachTx, Bool.and_eq_true] at h; exact h.1
  | i, u :: r, j + 1, v, h, e => by
    simp only [eachTx, Bool.and_eq_true] at h
    have := eachTx_at (j := j) h.2 (by simpa using e)
    rwa [show i + (j + 1) = i + 1 + j by omega]
theorem m40all (P : Params) : ((seqOf P 40).toList.length == 256 && eachTx esc 0 (seqOf P 40).toList) = true := by kernel_rfl!
theorem m40at (P : Params) {i : Nat} (hi : i < 256) : ∃ t, (seqOf P 40)[i]? = some (.str (tx (esc i)) t) := by
  have h := m40all P
  rw [Bool.and_eq_true] at h
  have hl : (seqOf P 40).toList.length = 256 := eq_of_beq h.1
  obtain ⟨v, hv⟩ : ∃ v, (seqOf P 40).toList[i]? = some v := ⟨_, List.getElem?_eq_getElem (by omega)⟩
  have q := eachTx_at h.2 hv
  rw [Nat.zero_add] at q
  obtain ⟨t, rfl⟩ := isTx_spec q
  exact ⟨t, by simpa using hv⟩

theorem tab_item {c : Cx} {n : Nat} {a : Addr} {l : List Nat} {i : Nat} (ok : c.Ok n) (hm : ∀ P, (heap_39 P).lookup a = some { cls := .type "list", data := .seq (seqOf P a) (epOf P a) }) (hv : ∀ P, ∃ t, (seqOf P a)[i]? = some (.str (tx l) t)) (hi : i < 256) :
    Op2 c getItem (.val (.ref a)) (.int i) (.str (tx l)) := by
  intro s v1 v2 x r1 r2
  obtain rfl := rep_val.mp r1
  obtain ⟨t, rfl⟩ := rep_int.mp r2
  obtain ⟨t', hv⟩ := hv c.W.w.params
  have hl : s.heap.IsList a (seqOf c.W.w.params a) := ⟨_, x.keep _ _ (ok.gd.K _ _ (hm _)), rfl, _, rfl⟩
  with_reducible refine wpAny_getItem_list hl (by omega) (by omega) (by simpa using hv) ⟨kp_refl s, rep_str.mpr ⟨_, rfl⟩⟩
theorem tab_type {c : Cx} {n : Nat} {a : Addr} (ok : c.Ok n) (hm : ∀ P, (heap_39 P).lookup a = some { cls := .type "list", data := .seq (seqOf P a) (epOf P a) }) : HasT c (.val (.ref a)) "list" := by
  intro s v x r
  obtain rfl := rep_val.mp r
  exact ⟨_, x.keep _ _ (ok.gd.K _ _ (hm _)), rfl⟩
theorem one_local {fd : FuncData} {x : Str} {d : D} (h : fd.scope.names.lookup x = some .local) : ∀ y ∈ [(x, d)], fd.scope.names.lookup y.1 = some .local := by
  intro y hy; rw [List.mem_singleton.mp hy]; exact h

theorem c_quote {c : Cx} {n : Nat} (ok : c.Ok (n + 1)) {i : Nat} (hi : i < 256) : CallD c (.ref 60) [.str (tx [i])] (.str (tx (esc i))) := by
  refine call_defL ok k60 b60 c60 s60 (binds1 (a60 _)) (one_local rfl) (by simp) fun s x ok => x_retD ?_
  exact ev_sub (d1 := .val (.ref 40)) (G ok g_QUOPRI_MAP) (ev_call (Bl ok g_ord bt_ord) (evL_cons (L ok) evL_nil) keeps_blt c_ord) (tab_type ok m40) slot_list_getitem.lookup (tab_item ok m40 (fun P => m40at P hi) hi)

theorem c_fspath {c : Cx} {n : Nat} (ok : c.Ok (n + 1)) {a : Str} : CallD c (.ref 154) [.str a] (.str a) := by
  refine call_defL ok k154 b154 c154 s154 (binds1 (a154 _)) (one_local rfl) (by simp) fun s x ok => ?_
  refine x_asg ok into_own rfl (ev_call (Bl ok g_type bt_type) (evL_cons (L ok) evL_nil) keeps_type c_type_str) ?_
  refine x_if (evB_val (ev_call (Bl ok g_issubclass bt_issubclass) (evL_cons (L ok) (evL_cons (ev_tupD (evL_cons (Bl ok g_str bt_str) (evL_cons (Bl ok g_bytes bt_bytes) evL_nil)) (by decide)) evL_nil)) keeps_blt c_issub) opB_bool) (fun _ => ?_) (fun e => nomatch e)
  exact x_ret (L ok) fun v s F b r => ⟨v, rfl, b, F.toSt, r⟩

theorem c_getsep {c : Cx} {n : Nat} (ok : c.Ok (n + 1)) {a : Str} : CallD c (.ref 168) [.str a] (.str (tx [47])) := by
  refine call_defL ok k168 b168 c168 s168 (binds1 (a168 _)) (one_local rfl) (by simp) fun s x ok => ?_
  refine x_if (evB_val (ev_call (Bl ok g_isinstance bt_isinstance) (evL_cons (L ok) (evL_cons (Bl ok g_bytes bt_bytes) evL_nil)) keeps_blt c_isi_bytes) opB_bool) (fun e => nomatch e) (fun _ => ?_)
  exact x_ret (ev_tx [47]) fun v s F b r => ⟨v, rfl, b, F.toSt, r⟩
end Mine
end

section
open PySem PySem.W PyProof.Rows PySem.Calls
namespace Mine

noncomputable def tabT : List Nat := [47, 97, 32, 46, 90, 61, 33, 57, 126, 64, 95, 45, 9, 47, 98, 123]
noncomputable def sgn (r : Nat) : Nat := if r % 32 < 16 then tabT.getD (r % 32) 0 else r / 32 % 256
noncomputable def sgn' (r : Nat) : Nat := if sgn r ∈ [13, 10] then 46 else sgn r
noncomputable def nxt (r : Nat) : Nat := if r % 32 < 16 then r / 32 else r / 8192
structure Txt5 (l : List Nat) : Prop where
  len : l.length ≤ 5
  oct : ∀ k ∈ l, k < 256 ∧ k ≠ 10 ∧ k ≠ 13
theorem sgn_lt (r : Nat) : sgn r < 256 := by
  unfold sgn
  split
  · rename_i h
    have : ∀ i, i < 16 → tabT.getD i 0 < 256 := by decide
    exact this _ h
  · exact Nat.mod_lt _ (by decide)
theorem sgn'_ok (r : Nat) : sgn' r < 256 ∧ sgn' r ≠ 10 ∧ sgn' r ≠ 13 := by
  have := sgn_lt r
  unfold sgn'
  split
  · decide
  · rename_i h
    simp only [List.mem_cons, List.mem_nil_iff, or_false, not_or] at h
    exact ⟨this, h.2, h.1⟩
theorem fm (a b : Nat) : (a : Int).fmod b = ((a % b : Nat) : Int) := (Int.ofNat_fmod a b).symm
theorem fd (a b : Nat) : (a : Int).fdiv b = ((a / b : Nat) : Int) := (Int.ofNat_fdiv a b).symm

noncomputable def TextIs (d : D) : Prop := ∃ l, d = .str (tx l) ∧ Txt5 l

noncomputable abbrev Sub (ρ' ρ : Loc) : Prop := ∀ y d, ρ'.lookup y = some d → ρ.lookup y = some d
theorem sub_nil {ρ : Loc} : Sub [] ρ := fun y d e => by cases e
theorem sub_cons {ρ r : Loc} {x : Str} {d : D} (h : ρ.lookup x = some d) (hs : Sub r ρ) : Sub ((x, d) :: r) ρ := fun y d' e => by
  rw [List.lookup_cons] at e
  split at e
  · rename_i q; rw [eq_of_beq q]; cases e; exact h
  · exact hs y d' e
noncomputable def ltRun : Nat → Nat → List Nat
  | 0, _ => []
  | n + 1, r => if r = 0 then [] else sgn' r :: ltRun n (nxt r)
theorem ltRun_ok : ∀ n r, (ltRun n r).length ≤ n ∧ ∀ k ∈ ltRun n r, k < 256 ∧ k ≠ 10 ∧ k ≠ 13
  | 0, r => ⟨Nat.le_refl _, fun k h => by cases h⟩
  | n + 1, r => by
    unfold ltRun
    split
    · exact ⟨Nat.zero_le _, fun k h => by cases h⟩
    · have ih := ltRun_ok n (nxt r)
      refine ⟨by simpa using ih.1, fun k h => ?_⟩
      rcases List.mem_cons.mp h with rfl | h
      · exact sgn'_ok r
      · exact ih.2 k h
noncomputable def lawText (x : Int) : List Nat := ltRun 5 x.natAbs
theorem lawText_ok (x : Int) : Txt5 (lawText x) := ⟨(ltRun_ok 5 _).1, (ltRun_ok 5 _).2⟩

theorem c_law_text {c : Cx} {n : Nat} (ok : c.Ok (n + 1)) {x : Int} : CallD c (.ref 187) [.int x] (.str (tx (lawText x))) := by
  refine call_defL ok k187 b187 c187 s187 (binds1 (a187 _)) (one_local rfl) (by simp) fun s x' ok => ?_
  refine x_asg ok into_own rfl (ev_tx []) ?_
  refine x_asg ok into_own rfl (ev_call (Bl ok g_abs bt_abs) (evL_cons (L ok) evL_nil) keeps_blt c_abs) ?_
  have hx : (if x < 0 then -x else x) = (x.natAbs : Int) := by split <;> omega
  rw [hx]
  refine x_weak (ρ' := [("text", .str (tx [])), ("rest", .int (x.natAbs : Int))]) (κ' := []) ?_ (sub_cons rfl (sub_cons rfl sub_nil)) (fun y d e => e)
  refine x_while (fun m ρ => ∃ (l : List Nat) (r : Nat), ρ = ([("text", .str (tx l)), ("rest", .int r)] : Loc) ∧ l.length + m = 5 ∧ l ++ ltRun m r = lawText x) 5 ⟨[], x.natAbs, rfl, rfl, rfl⟩ ?_
  rintro m ρ' ⟨l, r, rfl, hm, hl⟩
  refine ⟨_, evB_bop (evAnd_cons (evB_cmp (L ok) ev_int op_gt_int) fun _ => evAnd_cons (evB_cmp (ev_call (Bl ok g_len bt_len) (evL_cons (L ok) evL_nil) keeps_blt (c_len_str (a := l) (by omega))) ev_int op_lt_int) fun _ => evAnd_nil), fun hb => ?_, fun hb => ?_⟩
  · refine x_retD (ev_as (L ok (d := .str (tx l))) fun h v q => ?_)
    have : l = lawText x := by
      rw [← hl]
      simp only [Bool.and_true, Bool.and_eq_false_iff, decide_eq_false_iff_not] at hb
      rcases hb with hb | hb
      · have : r = 0 := by omega
        subst this
        cases m <;> simp [ltRun]
      · have : m = 0 := by omega
        subst this
        simp [ltRun]
    rw [← this]; exact q
  · simp only [Bool.and_true, Bool.and_eq_true, decide_eq_true_eq] at hb
    obtain ⟨m', rfl⟩ : ∃ m', m = m' + 1 := ⟨m - 1, by omega⟩
    have hr0 : r ≠ 0 := by omega
    have hstep : (l ++ [sgn' r]) ++ ltRun m' (nxt r) = lawText x := by
      rw [← hl]; simp [ltRun, hr0]
    have hmod : (r : Int).fmod 32 = ((r % 32 : Nat) : Int) := fm r 32
    have hdiv : (r : Int).fdiv 32 = ((r / 32 : Nat) : Int) := fd r 32
    refine x_if (evB_cmp (ev_bin (L ok) ev_int (op_mod_int (by decide))) ev_int op_lt_int) (fun h => ?_) (fun h => ?_)
    · rw [hmod, decide_eq_true_eq] at h
      have h' : r % 32 < 16 := by omega
      have hs : sgn r = tabT.getD (r % 32) 0 := by unfold sgn; rw [if_pos h']
      have hn : nxt r = r / 32 := by unfold nxt; rw [if_pos h']
      refine x_asg ok into_own rfl (ev_sub (ev_tx tabT) (ev_bin (L ok) ev_int (op_mod_int (by decide))) hasT_str F.slot_str_getitem.lookup (op_item_str (k := sgn r) (by rw [hmod]; omega) ?_ (by decide))) ?_
      · rw [hmod, hs]
        show tabT[r % 32]? = _
        have : ∀ i, i < 16 → tabT[i]? = some (tabT.getD i 0) := by decide
        exact this _ h'
      refine x_aug ok into_own rfl rfl ev_int (op_idiv_int (by decide) (by decide)) ?_
      rw [hdiv, ← hn]
      refine x_fall ?_
      refine x_aug ok into_own rfl rfl (d1 := .str (tx [sgn' r])) (ev_ite (evB_cmp (L ok) (ev_tx [13, 10]) op_in_str) (fun h => ev_tx _ ?_) (fun h => ?_)) (op_iadd_str (by simp; omega)) (x_nil fun s F b => ⟨rfl, m', _, by omega, ⟨l ++ [sgn' r], nxt r, rfl, by simp; omega, hstep⟩, F.weak (sub_cons rfl (sub_cons rfl sub_nil)) fun _ _ e => e, b⟩)
      · rw [show sgn' r = 46 by unfold sgn'; rw [if_pos (of_decide_eq_true h)]]; rfl
      · rw [show sgn' r = sgn r by unfold sgn'; rw [if_neg (of_decide_eq_false h)]]; exact L ok
    · rw [hmod, decide_eq_false_iff_not] at h
      have h' : ¬ r % 32 < 16 := by omega
      have hs : sgn r = r / 32 % 256 := by unfold sgn; rw [if_neg h']
      have hn : nxt r = r / 8192 := by unfold nxt; rw [if_neg h']
      have hmod2 : ((r : Int).fdiv 32).fmod 256 = ((r / 32 % 256 : Nat) : Int) := by rw [hdiv]; exact fm _ 256
      have hdiv2 : (r : Int).fdiv 8192 = ((r / 8192 : Nat) : Int) := fd r 8192
      have hlt : r / 32 % 256 < 256 := Nat.mod_lt _ (by decide)
      refine x_asg ok into_own rfl (ev_call (Bl ok g_chr bt_chr) (evL_cons (ev_bin (ev_bin (L ok) ev_int (op_div_int (by decide) (by decide))) ev_int (op_mod_int (by decide))) evL_nil) keeps_blt (c_chr (by rw [hmod2]; omega) (by rw [hmod2]; omega))) ?_
      rw [hmod2, show (((r / 32 % 256 : Nat) : Int)).toNat = sgn r by rw [hs]; rfl]
      refine x_aug ok into_own rfl rfl ev_int (op_idiv_int (by decide) (by decide)) ?_
      rw [hdiv2, ← hn]
      refine x_fall ?_
      refine x_aug ok into_own rfl rfl (d1 := .str (tx [sgn' r])) (ev_ite (evB_cmp (L ok) (ev_tx [13, 10]) op_in_str) (fun h => ev_tx _ ?_) (fun h => ?_)) (op_iadd_str (by simp; omega)) (x_nil fun s F b => ⟨rfl, m', _, by omega, ⟨l ++ [sgn' r], nxt r, rfl, by simp; omega, hstep⟩, F.weak (sub_cons rfl (sub_cons rfl sub_nil)) fun _ _ e => e, b⟩)
      · rw [show sgn' r = 46 by unfold sgn'; rw [if_pos (of_decide_eq_true h)]]; rfl
      · rw [show sgn' r = sgn r by unfold sgn'; rw [if_neg (of_decide_eq_false h)]]; exact L ok
end Mine
end

section
open PySem PySem.W PyProof.Rows PySem.Calls
namespace Mine

theorem a175 (P : Params) (v0 v1 : Value) : bindArgs (fdOf P 175) ⟨[v0, v1], []⟩ = (do let t ← newTuple [v1]; pure [(("a" : Str), v0), (("p" : Str), t)]) := by kernel_rfl!
noncomputable def joinP (a b : List Nat) : List Nat := if b.head? == some 47 || !(!a.isEmpty) then b else if a.getLast? == some 47 then a ++ b else a ++ ([47] ++ b)
theorem joinP_len (a b : List Nat) : (joinP a b).length ≤ a.length + b.length + 1 := by
  unfold joinP; split
  · omega
  · split <;> simp <;> omega
theorem two_local {fd : FuncData} {x y : Str} {d e : D} (h : fd.scope.names.lookup x = some .local) (h' : fd.scope.names.lookup y = some .local) : ∀ z ∈ [(x, d), (y, e)], fd.scope.names.lookup z.1 = some .local := by
  intro z hz
  rcases List.mem_cons.mp hz with rfl | hz
  · exact h
  · rw [List.mem_singleton.mp hz]; exact h'

theorem c_join2 {c : Cx} {n : Nat} (ok : c.Ok (n + 2)) {a b : List Nat} (ha : a.length ≤ 1000) (hb : b.length ≤ 1000) : CallD c (.ref 175) [.str (tx a), .str (tx b)] (.str (tx (joinP a b))) := by
  refine call_defL ok k175 b175 c175 s175 (bds := [("a", .str (tx a)), ("p", .tup [.str (tx b)])]) ?_ (two_local rfl rfl) (by show ([("a" : Str), "p"] : List Str).Nodup; decide) fun s x ok => ?_
  · intro s vs q r
    obtain ⟨v, r', rfl, r1, r2⟩ := repL_cons.mp r; obtain ⟨u, r'', rfl, r3, r4⟩ := repL_cons.mp r2; obtain rfl := repL_nil.mp r4
    rw [a175]
    refine wpAny_bind (noE (newTuple_D (c := { c with A := c.A.in1 }) (ds := [.str (tx b)]) ⟨q.keep, q.new⟩ r2 (by simp)) fun t s1 ⟨k1, r1'⟩ => wpAny_pure ⟨k1, repB_cons (r1.keep k1.stays) (repB_cons r1' repB_nil)⟩)
  have own : OwnL (c.into (fdOf c.W.w.params 175) 175 s) := into_own
  refine x_asg ok own rfl (ev_call (G ok g_fspath) (evL_cons (L ok) evL_nil) (keeps_fn ok (h154 _)) (c_fspath ok)) ?_
  refine x_asg ok own rfl (ev_call (G ok g_get_sep) (evL_cons (L ok) evL_nil) (keeps_fn ok (h168 _)) (c_getsep ok)) ?_
  refine x_asg ok own rfl (L ok) ?_
  refine x_try ?_
  refine x_for (N := 1) (fun i => if i = 0 then [("path", .str (tx a)), ("sep", .str (tx [47]))] else [("path", .str (tx (joinP a b))), ("sep", .str (tx [47]))]) (fun _ => []) (fun _ => [("b", .str (tx b)), ("path", .str (tx a)), ("sep", .str (tx [47]))]) (fun _ => []) ok own (ownC_nil rfl) (fun p hp => by cases hp) (evI_of (L ok (d := .tup [.str (tx b)])) (itr_tup ok)) (fun x => rfl) (sub_cons rfl (sub_cons rfl sub_nil)) sub_nil
    (ws := [(c.into (fdOf c.W.w.params 175) 175 s).env.locals]) (fun b hb => by rw [List.mem_singleton.mp hb]; exact .head _) (fun h i hi ok ow oc => ?_) (fun h i hi ok ow oc st => ?_) ?_
  · obtain rfl : i = 0 := by omega
    exact asg_loc ok ow rfl
  · obtain rfl : i = 0 := by omega
    refine x_asg ok ow rfl (ev_call (G ok g_fspath) (evL_cons (L ok) evL_nil) (keeps_fn ok (h154 _)) (c_fspath ok)) ?_
    refine x_if (evB_bop (evOr_cons (evB_val (ev_meth (L ok) m_startswith (evL_cons (L ok) evL_nil) keeps_blt c_startswith) opB_bool) fun _ => evOr_cons (evB_not (evB_val (L ok) (opB_str (by omega)))) fun _ => evOr_nil)) (fun h1 => ?_) (fun h1 => ?_)
    · have e : joinP a b = b := by unfold joinP; rw [if_pos]; simpa using h1
      refine x_asg ok ow rfl (L ok) (x_fall (x_nil fun s F b' => ⟨F.weak ?_ fun _ _ e => e, b'⟩))
      rw [if_neg (by decide), e]
      exact sub_cons rfl (sub_cons rfl sub_nil)
    · have h1' : (b.head? == some 47 || !(!a.isEmpty)) = false := by simpa using h1
      refine x_if (evB_val (ev_meth (L ok) m_endswith (evL_cons (L ok) evL_nil) keeps_blt c_endswith) opB_bool) (fun h2 => ?_) (fun h2 => ?_)
      · have e : joinP a b = a ++ b := by unfold joinP; rw [h1', h2]; rfl
        refine x_aug ok ow rfl rfl (L ok) (op_iadd_str (by omega)) (x_fall (x_fall (x_nil fun s F b' => ⟨F.weak ?_ fun _ _ e => e, b'⟩)))
        rw [if_neg (by decide), e]
        exact sub_cons rfl (sub_cons rfl sub_nil)
      · have e : joinP a b = a ++ ([47] ++ b) := by unfold joinP; rw [h1', h2]; rfl
        refine x_aug ok ow rfl rfl (ev_bin (L ok) (L ok) (op_add_str (by simp; omega))) (op_iadd_str (by simp; omega)) (x_fall (x_fall (x_nil fun s F b' => ⟨F.weak ?_ fun _ _ e => e, b'⟩)))
        rw [if_neg (by decide), e]
        exact sub_cons rfl (sub_cons rfl sub_nil)
  · refine x_fall ?_
    exact x_retD (L ok)
end Mine
end

section
open PySem PySem.W PyProof.Rows PySem.Calls
namespace Mine
noncomputable abbrev st (l : List Nat) : D := .str (tx l)
noncomputable abbrev strL (ps : List (List Nat)) : D := .list (ps.map st)
noncomputable def keepP (c : List Nat) : Bool := !c.isEmpty && c != [46]
noncomputable def partsOf (l : List Nat) : List (List Nat) := (splitOn 47 l).filter keepP
noncomputable def cpre : List (List Nat) → List (List Nat) → List (List Nat)
  | a :: l, b :: m => if a = b then a :: cpre l m else []
  | _, _ => []
theorem evAndV {c : Cx} {ρ κ : Loc} {e e' : Expr} {pos : Pos} {b q : Bool} (h1 : EvB c ρ κ e b) (h2 : b = true → EvB c ρ κ e' q) : EvB c ρ κ (.BoolOp .And [e, e'] pos) (b && q) := by
  have := evB_bop (pos := pos) (evAnd_cons h1 fun h => evAnd_cons (h2 h) fun _ => evAnd_nil)
  simpa using this
theorem subA_nil {r : List (Str × Addr)} : ∀ y a, ([] : List (Str × Addr)).lookup y = some a → r.lookup y = some a := fun y a e => by cases e
theorem subA_cons {r l : List (Str × Addr)} {x : Str} {b : Addr} (h : r.lookup x = some b) (hs : ∀ y a, l.lookup y = some a → r.lookup y = some a) : ∀ y a, ((x, b) :: l).lookup y = some a → r.lookup y = some a := fun y a e => by
  rw [List.lookup_cons] at e
  split at e
  · rename_i q; rw [eq_of_beq q]; cases e; exact h
  · exact hs y a e
theorem Cl {c : Cx} {ρ κ : Loc} {n : Nat} {x : Str} {pos : Pos} {d : D} {a : Addr} (ok : c.Ok n) (ha : c.env.cells.lookup x = some a) (hk : c.env.kindOf x = some .cell := by rfl) (hx : κ.lookup x = some d := by rfl) (hd : (x == ("__debug__" : Str)) = false := by rfl) : Ev c ρ κ (.Name x pos) d := ev_cell ok hk ha hx hd
theorem filter_true {α : Type} (l : List α) : l.filter (fun _ => true) = l := List.filter_eq_self.mpr fun _ _ => rfl
theorem splitOn_sub {k : Nat} : ∀ {l q : List Nat}, q ∈ splitOn k l → q.length ≤ l.length
  | [], q, h => by simp [splitOn] at h; simp [h]
  | a :: l, q, h => by
    rw [splitOn] at h
    split at h
    · rcases List.mem_cons.mp h with rfl | h
      · simp
      · have := splitOn_sub h; simp; omega
    · split at h
      · simp at h; simp [h]
      · rename_i p r e
        rcases List.mem_cons.mp h with rfl | h
        · have := splitOn_sub (k := k) (l := l) (q := p) (by rw [e]; exact .head _); simp; omega
        · have := splitOn_sub (k := k) (l := l) (q := q) (by rw [e]; exact .tail _ h); simp; omega
noncomputable def MinOf (op : CmpOp) (ds : List D) (d : D) : Prop := ds = [d] ∨ (∃ d', ds = [d', d] ∧ Alike d d' ∧ dep d ≤ 10 ∧ ans op (cmpd d d') = true) ∨ (∃ d', ds = [d, d'] ∧ Alike d' d ∧ dep d' ≤ 10 ∧ ans op (cmpd d' d) = false)
theorem cpre_take : ∀ (a b : List (List Nat)), a.take (cpre a b).length = cpre a b
  | [], _ => rfl
  | _ :: _, [] => rfl
  | x :: a, y :: b => by
    unfold cpre
    split
    · simp [cpre_take a b]
    · rfl
theorem cpre_at : ∀ (a b : List (List Nat)) (i : Nat) (x y : List Nat), i ≤ (cpre a b).length → a[i]? = some x → b[i]? = some y → (x = y ↔ i < (cpre a b).length)
  | [], _, i, x, y, _, h, _ => by simp at h
  | _ :: _, [], i, x, y, _, _, h => by simp at h
  | u :: a, v :: b, 0, x, y, _, h1, h2 => by
    simp at h1 h2; subst h1; subst h2
    unfold cpre
    split
    · rename_i e; simp [e]
    · rename_i e; simp [e]
  | u :: a, v :: b, i + 1, x, y, h, h1, h2 => by
    unfold cpre at h ⊢
    split at h
    · rename_i e
      rw [if_pos e]
      have := cpre_at a b i x y (by simpa using h) (by simpa using h1) (by simpa using h2)
      simpa using this
    · simp at h
set_option maxHeartbeats 0 in
theorem c_commonpath {c : Cx} {n : Nat} (ok : c.Ok (n + 6)) {ps : List (List Nat)} (h0 : ps ≠ []) (hl : ps.length ≤ 2) (ha : ∀ p ∈ ps, p.length ≤ 1000 ∧ p.head? = some 47) {s1 s2 : List (List Nat)} (hmin : MinOf .Lt (ps.map fun p => strL (partsOf p)) (strL s1)) (hmax : MinOf .Gt (ps.map fun p => strL (partsOf p)) (strL s2))
    (h1l : s1.length ≤ 1000) (h2l : s2.length ≤ 1000) (h1s : ∀ p ∈ s1, p.length ≤ 1000) (hj : (joinW [47] (cpre s1 s2)).length ≤ 1000) (hpre : ∀ i, i < s1.length → i ≤ (cpre s1 s2).length → i < s2.length) :
    CallD c (.ref 180) [strL ps] (st (47 :: joinW [47] (cpre s1 s2))) := by
  refine call_defL ok k180 b180 c180 s180 (binds1 (a180 _)) (one_local rfl) (by simp) fun s x ok => ?_
  have own : OwnL (c.into (fdOf c.W.w.params 180) 180 s) := into_own
  have ownC : OwnC (c.into (fdOf c.W.w.params 180) 180 s) := into_cells (by 
    show List.Pairwise _ [((("curdir" : Str)), s.heap.objs.size + 1 + 1), ("sep", s.heap.objs.size + 1)]
    simp) (fun x a hm => by
    replace hm : (x, a) ∈ [((("curdir" : Str)), s.heap.objs.size + 1 + 1), ("sep", s.heap.objs.size + 1)] := hm
    simp at hm
    rcases hm with ⟨_, rfl⟩ | ⟨_, rfl⟩
    · exact Nat.le_add_right _ 2
    · exact Nat.le_succ _)
  have hlen : (ps.map st).length ≤ 1000 := by simp; omega
  refine x_asg ok own rfl (d := .tup (ps.map st)) (ev_tuplemap ok (Bl ok g_tuple bt_tuple) (Bl ok g_map bt_map) (G ok g_fspath) (L ok) rfl hlen fun P' j d e h1 h2 => ?_) ?_
  · rw [h1] at h2; cases h2
    have hm := List.mem_of_getElem? h1
    obtain ⟨p, hp, rfl⟩ := List.mem_map.mp hm
    exact c_fspath (dp4_ok (n := n + 1) ok)
  refine x_if (evB_not (evB_val (L ok) (opB_tup (by omega)))) (fun h => ?_) (fun _ => ?_)
  · cases ps with
    | nil => exact absurd rfl h0
    | cons p r => cases h
  refine x_fall ?_
  refine x_if (evB_val (ev_call (Bl ok g_isinstance bt_isinstance) (evL_cons (ev_sub (d := st (ps.getD 0 [])) (L ok) ev_int hasT_tup PySem.F.slot_tuple_getitem.lookup (op_item_tup (by decide) ?_ (by omega))) (evL_cons (Bl ok g_bytes bt_bytes) evL_nil)) keeps_blt c_isi_bytes) opB_bool) (fun e => nomatch e) (fun _ => ?_)
  · cases ps with
    | nil => exact absurd rfl h0
    | cons p r => rfl
  refine x_asgC ok ownC rfl rfl (ev_tx [47]) ?_
  refine x_asgC ok ownC rfl rfl (ev_tx [46]) ?_
  refine x_fall ?_
  refine x_try ?_
  refine x_asgCompA ps st (fun _ => true) (fun p => strL (splitOn 47 p)) (fun p => [("path", st p)]) (κ' := [("sep", st [47])]) ok own rfl (evI_tupA (st := true) ok (L ok)) (by simp at hlen; omega) (cl := [("sep", s.heap.objs.size + 1)]) rfl (by decide) rfl (by decide) (fun _ => rfl) (subA_cons rfl subA_nil) (sub_cons rfl sub_nil) rfl (congrArg _ (filter_true ps)) (fun C P' p hp ok ow => asg_loc ok ow rfl) (fun C P' p hp ok => evIfs_nil) (fun C P' p hp _ ok => ?_) ?_
  · exact ev_meth (L ok) m_split (evL_cons (Cl ok rfl) evL_nil) keeps_blt (c_split (by have := (ha p hp).1; omega))
  refine x_try ?_
  refine x_unpackSet (N := ps.length) (κ' := [("sep", st [47])]) (ρi := fun i => [("p", st (ps.getD i default))]) ok own rfl (evI_tupA (enc := st) (st := true) ok (L ok)) (by have := List.length_pos_iff.mpr h0; omega) (cl := [("sep", s.heap.objs.size + 1)]) rfl (by decide) rfl (by decide) (fun _ => rfl) (subA_cons rfl subA_nil) (sub_cons rfl sub_nil) (fun C P' i hi ok ow => asg_loc ok ow rfl) (fun C P' i hi ok => ?_) ?_
  · refine ev_as (ev_meth (L ok) m_startswith (evL_cons (Cl ok rfl) evL_nil) keeps_blt c_startswith) fun h v q => ?_
    rw [(ha _ (getD_mem hi)).2] at q
    exact q
  refine x_fall ?_
  refine x_asgCompA ps (fun p => strL (splitOn 47 p)) (fun _ => true) (fun p => strL (partsOf p)) (fun p => [("s", strL (splitOn 47 p))]) (κ' := [("curdir", st [46])]) ok own rfl (evI_listA (xs := ps) (enc := fun p => strL (splitOn 47 p)) (st := true) ok (L ok)) (by simp at hlen; omega) (cl := [("curdir", s.heap.objs.size + 1 + 1)]) rfl (by decide) rfl (by decide) (fun _ => rfl) (subA_cons rfl subA_nil) (sub_cons rfl sub_nil) rfl (congrArg _ (filter_true ps)) (fun C P' p hp ok ow => asg_loc ok ow rfl) (fun C P' p hp ok => evIfs_nil) (fun C P' p hp _ ok => ?_) ?_
  · refine ev_compA (splitOn 47 p) st keepP st (fun q => [("c", st q)]) (κ' := [("curdir", st [46])]) (st := true) ok ?_ ?_ (cl := [("curdir", s.heap.objs.size + 1 + 1)]) rfl (by decide) rfl (by decide) (fun _ => rfl) (subA_cons rfl subA_nil) (sub_cons rfl sub_nil) rfl (fun C P' q hq ok ow => asg_loc ok ow rfl) (fun C P' q hq ok => evIfs_one ?_) (fun C P' q hq _ ok => L ok)
    · exact evI_listA ok (L ok)
    · have := splitOn_len 47 p; have := (ha p hp).1; omega
    · exact evAndV (evB_val (L ok) (opB_str (by have := splitOn_sub hq; have := (ha p hp).1; omega))) fun _ => evB_cmp (L ok) (Cl ok rfl) op_ne_str
  refine x_asg ok own rfl (d := strL s1) (ev_call (Bl ok g_min bt_min) (evL_cons (L ok) evL_nil) keeps_blt (c_min ok hmin)) ?_
  refine x_asg ok own rfl (d := strL s2) (ev_call (Bl ok g_max bt_max) (evL_cons (L ok) evL_nil) keeps_blt (c_max ok hmax)) ?_
  refine x_asg ok own rfl (d := strL s1) (L ok) ?_
  refine x_forB (N := s1.length) (fun i => i ≤ (cpre s1 s2).length) (fun _ => [("common", strL s1), ("s2", strL s2), ("s1", strL s1), ("isabs", bo true)]) (fun _ => [("sep", st [47])]) (fun i => ("c", (s1.map st).getD i dNone) :: ("i", .int i) :: [("common", strL s1), ("s2", strL s2), ("s1", strL s1), ("isabs", bo true)]) (fun _ => [("sep", st [47])]) [("common", strL (cpre s1 s2)), ("isabs", bo true)] [("sep", st [47])] (ws := [(c.into (fdOf c.W.w.params 180) 180 s).env.locals])
    ok own ownC ?_ ((evI_enum (ds := s1.map st) ok (Bl ok g_enumerate bt_enumerate) (evL_cons (L ok) evL_nil)).congr (by simp) fun i _ => rfl) (fun _ => rfl) (sub_cons rfl (sub_cons rfl (sub_cons rfl (sub_cons rfl sub_nil)))) (sub_cons rfl sub_nil) (fun b hb => by rw [List.mem_singleton.mp hb]; exact .head _) (Nat.zero_le _) (fun h i hi ok ow oc => ?_) (fun h i hi J ok ow oc => ?_) (fun J => ?_) ?_
  · intro p hp
    replace hp : p ∈ [((("curdir" : Str)), s.heap.objs.size + 1 + 1), ("sep", s.heap.objs.size + 1)] := hp
    simp only [List.mem_cons, List.not_mem_nil, or_false] at hp
    rcases hp with rfl | rfl <;> rfl
  · refine asg_tuple (ds := [.int i, (s1.map st).getD i dNone]) hasT_tup PyProof.Rows.slot_tuple_iter (itr_tup ok) (fun j hj => ?_) rfl rfl (asgL_cons (asg_loc ok ow rfl) (fun h o b F hb e => locals_not_seq F hb e) (asgL_cons (asg_loc ok ow rfl) (fun h o b F hb e => locals_not_seq F hb e) asgL_nil))
    rw [List.getD_eq_getElem?_getD, List.getElem?_eq_getElem hj]; rfl
  · have e1 : (s1.map st).getD i dNone = st s1[i] := by
      rw [List.getD_eq_getElem?_getD, List.getElem?_map, List.getElem?_eq_getElem hi]; rfl
    have hi2 := hpre i hi J
    have heq := cpre_at s1 s2 i s1[i] s2[i] J (List.getElem?_eq_getElem hi) (List.getElem?_eq_getElem hi2)
    rw [e1]
    refine x_if (evB_cmp (L ok) (ev_sub (d := st s2[i]) (L ok) (L ok) hasT_list PySem.slot_list_getitem.lookup (op_item_list (by omega) ?_ (by simp; omega))) op_ne_str) (fun hne => ?_) (fun heq' => ?_)
    · rw [List.getElem?_map, show ((i : Int)).toNat = i from rfl, List.getElem?_eq_getElem hi2]; rfl
    · have hm : i = (cpre s1 s2).length := by
        have h1 : s1[i] ≠ s2[i] := by simpa using hne
        have h2 : ¬ i < (cpre s1 s2).length := fun q => h1 (heq.mpr q)
        omega
      refine x_asg ok ow rfl (d := strL (cpre s1 s2)) ?_ (x_brk fun s F b => ⟨F.weak (sub_cons rfl (sub_cons rfl sub_nil)) fun _ _ e => e, b⟩)
      refine ev_as (ev_slice (L ok) evO_none (evO_some (L ok)) hasT_list PySem.slot_list_getitem.lookup (opS_list (b := i) (by simp; omega))) fun h v q => ?_
      rw [← List.map_take, hm, cpre_take] at q
      exact q
    · refine x_fall (x_nil fun s F b => ⟨F.weak (sub_cons rfl (sub_cons rfl (sub_cons rfl (sub_cons rfl sub_nil)))) fun _ _ e => e, b, ?_⟩)
      have h1 : s1[i] = s2[i] := by simpa using heq'
      exact heq.mp h1
  · have : cpre s1 s2 = s1 := by
      have h := cpre_take s1 s2
      rwa [List.take_of_length_le J, eq_comm] at h
    rw [this]
    exact ⟨sub_cons rfl (sub_cons rfl sub_nil), sub_cons rfl sub_nil⟩
  · refine x_asg ok own rfl (d := st [47]) (ev_ite (q := true) (evB_val (L ok) opB_bool) (fun _ => Cl ok rfl) fun h => nomatch h) ?_
    have hc : (cpre s1 s2).length ≤ s1.length := by rw [← cpre_take s1 s2]; simp; omega
    refine x_ret (d := st (47 :: joinW [47] (cpre s1 s2))) ?_ fun v s F b r => ⟨v, rfl, b, F.toSt, r⟩
    refine ev_as (ev_bin (L ok) (ev_meth (Cl ok rfl) m_join (evL_cons (L ok) evL_nil) keeps_blt (c_join ⟨by omega, by simp, fun p hp => h1s p (by rw [← cpre_take s1 s2] at hp; exact List.mem_of_mem_take hp)⟩)) (op_add_str ?_)) fun h v q => q
    simp; omega
end Mine
end

section
open PySem PySem.W PyProof.Rows PySem.Calls
namespace Mine
noncomputable abbrev Sg := Nat × List Nat
noncomputable def encS (x : Sg) : D := .list [.int (x.2.headD 0), .int x.1, st x.2]
noncomputable abbrev encN (m : List Sg) : D := .list (m.map encS)
noncomputable abbrev encR (r : List (List Sg)) : D := .list (r.map encN)
noncomputable def spelled (m : List Sg) : List Nat := (m.map (·.2)).flatten
theorem joinW_nil : ∀ ps : List (List Nat), joinW [] ps = ps.flatten
  | [] => rfl
  | [p] => by simp [joinW]
  | p :: q :: r => by
    show p ++ [] ++ joinW [] (q :: r) = _
    rw [joinW_nil (q :: r)]; simp
theorem c_spelled {c : Cx} {n : Nat} (ok : c.Ok (n + 1)) {m : List Sg} (hm : m.length ≤ 1000) (hc : ∀ x ∈ m, x.2.length ≤ 1000) : CallD c (.ref 204) [encN m] (st (spelled m)) := by
  refine call_defL ok k204 b204 c204 s204 (binds1 (a204 _)) (one_local rfl) (by simp) fun s x ok => x_retD ?_
  refine ev_as (ev_meth (ev_tx []) m_join (evL_cons (ev_compA m encS (fun _ => true) (fun x => st x.2) (fun x => [("code", st x.2), ("octet", .int x.1), ("lead", .int (x.2.headD 0))]) (st := true) (κ' := []) (ds := (m.map (·.2)).map st) ok (evI_listA (xs := m) (enc := encS) ok (L ok)) (by omega) (cl := []) rfl (by decide) rfl (by decide) (fun _ => rfl) subA_nil sub_nil ?_ (fun C P' x hx ok ow => ?_) (fun C P' x hx ok => evIfs_nil) (fun C P' x hx _ ok => L ok)) evL_nil) keeps_blt (c_join ⟨by simp; omega, by simp, fun p hp => ?_⟩)) fun h v q => ?_
  · rw [filter_true, List.map_map]; rfl
  · refine asg_tuple (ds := [.int (x.2.headD 0), .int x.1, st x.2]) hasT_list PySem.F.slot_list_iter (itr_list ok) (fun j hj => ?_) rfl rfl (asgL_cons (asg_loc ok ow rfl) (fun h o b F hb e => locals_not_seq F hb e) (asgL_cons (asg_loc ok ow rfl) (fun h o b F hb e => locals_not_seq F hb e) (asgL_cons (asg_loc ok ow rfl) (fun h o b F hb e => locals_not_seq F hb e) asgL_nil)))
    rw [List.getD_eq_getElem?_getD, List.getElem?_eq_getElem hj]; rfl
  · obtain ⟨x, hx, rfl⟩ := List.mem_map.mp hp
    exact hc x hx
  · rw [joinW_nil] at q; exact q
end Mine
end

section
open PySem PySem.W PyProof.Rows PySem.Calls
namespace Mine
structure Clean (p : List Nat) : Prop where
  ne : p ≠ []
  sl : 47 ∉ p
  dot : p ≠ [46]
noncomputable def place (ps : List (List Nat)) : List Nat := 47 :: joinW [47] ps
theorem keep_clean {ps : List (List Nat)} (h : ∀ p ∈ ps, Clean p) : ps.filter keepP = ps := List.filter_eq_self.mpr fun p hp => by
  have := h p hp
  unfold keepP
  have h1 : p.isEmpty = false := by
    cases p with
    | nil => exact absurd rfl this.ne
    | cons _ _ => rfl
  simp [h1, this.dot]
theorem partsOf_place {ps : List (List Nat)} (h : ∀ p ∈ ps, Clean p) : partsOf (place ps) = ps := by
  unfold partsOf place
  rw [show splitOn 47 (47 :: joinW [47] ps) = [] :: splitOn 47 (joinW [47] ps) by rw [splitOn, if_pos rfl]]
  rw [List.filter_cons_of_neg (by decide)]
  cases ps with
  | nil => rfl
  | cons p r =>
    rw [splitOn_join (by simp) fun q hq => (h q hq).sl]
    exact keep_clean h
noncomputable abbrev ordP (a b : List (List Nat)) : Ordering := cmpL (a.map st) (b.map st)
theorem cmpd_st (a b : List Nat) : cmpd (st a) (st b) = ordL a b := by
  unfold cmpd; rw [tx_cps, tx_cps]
theorem ordP_cons (a b : List Nat) (r t : List (List Nat)) : ordP (a :: r) (b :: t) = if ordL a b = .eq then ordP r t else ordL a b := by
  show cmpL (st a :: r.map st) (st b :: t.map st) = _
  rw [cmpL, cmpd_st]
theorem ordL_self : ∀ a : List Nat, ordL a a = .eq
  | [] => rfl
  | a :: r => by unfold ordL; simp [ordL_self r]
theorem ordL_iff {a b : List Nat} : ordL a b = .eq ↔ a = b := by
  have := ordL_eq a b
  constructor
  · intro h; rw [h] at this; simpa using this.symm
  · rintro rfl; exact ordL_self a
theorem ordL_swap : ∀ a b : List Nat, ordL b a = (ordL a b).swap
  | [], [] => rfl
  | [], _ :: _ => rfl
  | _ :: _, [] => rfl
  | a :: r, b :: t => by
    unfold ordL
    by_cases h : a < b
    · have : ¬ b < a := by omega
      simp [h, this]
    · by_cases h2 : b < a
      · simp [h, h2]
      · simp [h, h2]; exact ordL_swap r t
theorem ordP_eq : ∀ {a b : List (List Nat)}, ordP a b = .eq → a = b
  | [], [], _ => rfl
  | [], _ :: _, h => by simp [ordP, cmpL] at h
  | _ :: _, [], h => by simp [ordP, cmpL] at h
  | a :: r, b :: t, h => by
    rw [ordP_cons] at h
    split at h
    · rename_i e
      rw [ordL_iff.mp e, ordP_eq h]
    · rename_i e; exact absurd h e
theorem ordP_self : ∀ a : List (List Nat), ordP a a = .eq
  | [] => by simp [ordP, cmpL]
  | a :: r => by rw [ordP_cons, ordL_self, if_pos rfl, ordP_self r]
theorem ordP_swap : ∀ a b : List (List Nat), ordP b a = (ordP a b).swap
  | [], [] => by simp [ordP, cmpL]
  | [], _ :: _ => by simp [ordP, cmpL]
  | _ :: _, [] => by simp [ordP, cmpL]
  | a :: r, b :: t => by
    rw [ordP_cons, ordP_cons, ordL_swap a b]
    cases h : ordL a b with
    | eq => simp; exact ordP_swap r t
    | lt => simp
    | gt => simp
theorem cpre_comm : ∀ a b : List (List Nat), cpre a b = cpre b a
  | [], [] => rfl
  | [], _ :: _ => rfl
  | _ :: _, [] => rfl
  | a :: r, b :: t => by
    unfold cpre
    by_cases h : a = b
    · subst h; simp [cpre_comm r t]
    · rw [if_neg h, if_neg (Ne.symm h)]
theorem cpre_self : ∀ a : List (List Nat), cpre a a = a
  | [] => rfl
  | a :: r => by unfold cpre; rw [if_pos rfl, cpre_self r]
theorem cpre_fit : ∀ (a b : List (List Nat)) (i : Nat), ordP a b ≠ .gt → i < a.length → i ≤ (cpre a b).length → i < b.length
  | [], _, i, _, h, _ => by simp at h
  | a :: r, [], i, h, _, _ => by simp [ordP, cmpL] at h
  | a :: r, b :: t, 0, _, _, _ => by simp
  | a :: r, b :: t, i + 1, h, h1, h2 => by
    rw [ordP_cons] at h
    unfold cpre at h2
    split at h2
    · rename_i e
      subst e
      rw [ordL_self, if_pos rfl] at h
      have := cpre_fit r t i h (by simpa using h1) (by simpa using h2)
      simpa using this
    · simp at h2
theorem joinW_cons (sep p : List Nat) (r : List (List Nat)) : joinW sep (p :: r) = p ++ (if r = [] then [] else sep ++ joinW sep r) := by
  cases r with
  | nil => simp [joinW]
  | cons q r => simp [joinW]
theorem joinW_take (sep : List Nat) : ∀ (ps : List (List Nat)) (k : Nat), (joinW sep (ps.take k)).length ≤ (joinW sep ps).length
  | [], k => by simp
  | p :: r, 0 => by simp [joinW]
  | p :: r, k + 1 => by
    have := joinW_take sep r k
    rw [List.take_succ_cons, joinW_cons, joinW_cons]
    split
    · simp
    · rename_i h
      have : r ≠ [] := by rintro rfl; simp at h
      rw [if_neg this]
      simp; omega
theorem joinW_mem {sep : List Nat} : ∀ {ps : List (List Nat)} {p : List Nat}, p ∈ ps → p.length ≤ (joinW sep ps).length
  | [], _, h => by cases h
  | q :: r, p, h => by
    rw [joinW_cons]
    rcases List.mem_cons.mp h with rfl | h
    · simp
    · have := joinW_mem (sep := sep) h
      rw [if_neg (List.ne_nil_of_mem h)]
      simp; omega
theorem joinW_count : ∀ {ps : List (List Nat)}, (∀ p ∈ ps, p ≠ []) → ps.length ≤ (joinW [47] ps).length
  | [], _ => by simp
  | p :: r, h => by
    have h1 := joinW_count (ps := r) fun q hq => h q (.tail _ hq)
    have h2 : 0 < p.length := List.length_pos_iff.mpr (h p (.head _))
    rw [joinW_cons]
    split
    · rename_i e; subst e; simp; omega
    · simp; omega
theorem alike_st : ∀ a b : List (List Nat), AlikeL (a.map st) (b.map st)
  | [], _ => by simp [AlikeL]
  | _ :: _, [] => by simp [AlikeL]
  | a :: r, b :: t => by
    simp only [List.map_cons, AlikeL, Alike, true_and]
    exact alike_st r t
theorem depL_st : ∀ a : List (List Nat), depL (a.map st) = 0
  | [] => rfl
  | a :: r => by simp only [List.map_cons, depL, dep]; rw [depL_st r]; rfl
theorem minOf2 {op : CmpOp} {a b d : List (List Nat)} (h : (ans op (ordP b a) = true ∧ d = b) ∨ (ans op (ordP b a) = false ∧ d = a)) : MinOf op [strL a, strL b] (strL d) := by
  have al : ∀ x y, Alike (strL x) (strL y) := fun x y => by unfold Alike; exact alike_st x y
  have dp : ∀ x : List (List Nat), dep (strL x) ≤ 10 := fun x => by unfold dep; rw [depL_st]; decide
  have cm : ∀ x y, cmpd (strL x) (strL y) = ordP x y := fun x y => by unfold cmpd; rfl
  rcases h with ⟨h, rfl⟩ | ⟨h, rfl⟩
  · exact .inr (.inl ⟨_, rfl, al _ _, dp _, by rw [cm]; exact h⟩)
  · exact .inr (.inr ⟨_, rfl, al _ _, dp _, by rw [cm]; exact h⟩)

theorem c_cp1 {c : Cx} {n : Nat} (ok : c.Ok (n + 6)) {l : List Nat} (hl : l.length ≤ 900) (hh : l.head? = some 47) (hj : (joinW [47] (partsOf l)).length ≤ 900) :
    CallD c (.ref 180) [.list [st l]] (st (47 :: joinW [47] (partsOf l))) := by
  have hp : ∀ p ∈ partsOf l, p.length ≤ 900 := fun p hp => Nat.le_trans (joinW_mem hp) hj
  have hn : ∀ p ∈ partsOf l, p ≠ [] := fun p hp e => by subst e; exact absurd (List.mem_filter.mp hp).2 (by decide)
  have hc := joinW_count hn
  have key := c_commonpath (ps := [l]) (s1 := partsOf l) (s2 := partsOf l) ok (by simp) (by simp) (fun p hp => by rw [List.mem_singleton.mp hp]; exact ⟨by omega, hh⟩) (.inl rfl) (.inl rfl) (by omega) (by omega)
    (fun p h => by have := hp p h; omega) (by rw [cpre_self]; omega) (fun i h _ => h)
  rw [cpre_self] at key
  exact key
theorem c_cp2 {c : Cx} {n : Nat} (ok : c.Ok (n + 6)) {a b : List (List Nat)} (ha : ∀ p ∈ a, Clean p) (hb : ∀ p ∈ b, Clean p) (la : (place a).length ≤ 900) (lb : (place b).length ≤ 900) :
    CallD c (.ref 180) [.list [st (place a), st (place b)]] (st (place (cpre a b))) := by
  have ma : ∀ p ∈ a, p.length ≤ 900 := fun p hp => by have := joinW_mem (sep := [47]) hp; simp [place] at la; omega
  have mb : ∀ p ∈ b, p.length ≤ 900 := fun p hp => by have := joinW_mem (sep := [47]) hp; simp [place] at lb; omega
  have ca := joinW_count fun p hp => (ha p hp).ne
  have cb := joinW_count fun p hp => (hb p hp).ne
  have la' : (joinW [47] a).length ≤ 900 := by simp [place] at la; omega
  have lb' : (joinW [47] b).length ≤ 900 := by simp [place] at lb; omega
  have hw := ordP_swap a b
  have pa := partsOf_place ha
  have pb := partsOf_place hb
  have mk : ∀ s1 s2 : List (List Nat), MinOf .Lt [strL a, strL b] (strL s1) → MinOf .Gt [strL a, strL b] (strL s2) → (s1 = a ∨ s1 = b) → (s2 = a ∨ s2 = b) → cpre s1 s2 = cpre a b → ordP s1 s2 ≠ .gt →
      CallD c (.ref 180) [.list [st (place a), st (place b)]] (st (place (cpre a b))) := fun s1 s2 h1 h2 e1 e2 e3 h3 => by
    have l1 : s1.length ≤ 1000 := by rcases e1 with rfl | rfl <;> omega
    have l2 : s2.length ≤ 1000 := by rcases e2 with rfl | rfl <;> omega
    have m1 : ∀ p ∈ s1, p.length ≤ 1000 := fun p hp => by
      rcases e1 with rfl | rfl
      · have := ma p hp; omega
      · have := mb p hp; omega
    have hj : (joinW [47] (cpre s1 s2)).length ≤ 1000 := by
      have := joinW_take [47] a (cpre a b).length
      rw [cpre_take] at this
      rw [e3]; omega
    have key := c_commonpath (ps := [place a, place b]) (s1 := s1) (s2 := s2) ok (by simp) (by simp) (fun p hp => by
        rcases List.mem_cons.mp hp with rfl | hp
        · exact ⟨by omega, rfl⟩
        · rw [List.mem_singleton.mp hp]; exact ⟨by omega, rfl⟩) (by simpa [pa, pb] using h1) (by simpa [pa, pb] using h2) l1 l2 m1 hj (fun i h h' => cpre_fit s1 s2 i h3 h h')
    rw [e3] at key
    exact key
  cases h : ordP a b with
  | eq =>
    have e := ordP_eq h
    subst e
    exact mk a a (minOf2 (.inr ⟨by rw [h]; rfl, rfl⟩)) (minOf2 (.inr ⟨by rw [h]; rfl, rfl⟩)) (.inl rfl) (.inl rfl) rfl (by rw [h]; decide)
  | lt =>
    exact mk a b (minOf2 (.inr ⟨by rw [hw, h]; rfl, rfl⟩)) (minOf2 (.inl ⟨by rw [hw, h]; rfl, rfl⟩)) (.inl rfl) (.inr rfl) rfl (by rw [h]; decide)
  | gt =>
    exact mk b a (minOf2 (.inl ⟨by rw [hw, h]; rfl, rfl⟩)) (minOf2 (.inr ⟨by rw [hw, h]; rfl, rfl⟩)) (.inr rfl) (.inl rfl) (cpre_comm b a) (by rw [hw, h]; decide)
end Mine
end

section
open PySem PySem.W PyProof.Rows PySem.Calls
namespace Mine
theorem dw_clean {ps : List (List Nat)} (h : ∀ p ∈ ps, Clean p) : (joinW [47] ps).dropWhile (· == 47) = joinW [47] ps := by
  cases ps with
  | nil => rfl
  | cons p r =>
    have hp := h p (.head _)
    rw [joinW_cons]
    cases p with
    | nil => exact absurd rfl hp.ne
    | cons x p =>
      have : x ≠ 47 := fun e => hp.sl (by rw [e]; exact .head _)
      simp [this]
theorem drop_f : ∀ (a : List (List Nat)) (k : Nat), (∀ p ∈ a, Clean p) → k ≤ a.length → ((joinW [47] a).drop (joinW [47] (a.take k)).length).dropWhile (· == 47) = joinW [47] (a.drop k)
  | a, 0, h, _ => by simp [joinW, dw_clean h]
  | [], k + 1, _, hk => by simp at hk
  | p :: r, k + 1, h, hk => by
    have hr : ∀ q ∈ r, Clean q := fun q hq => h q (.tail _ hq)
    rw [List.take_succ_cons, List.drop_succ_cons, joinW_cons, joinW_cons]
    by_cases e : r = []
    · subst e; simp [joinW]
    · rw [if_neg e]
      cases k with
      | zero =>
        simp only [List.take_zero, if_true, List.append_nil, List.drop_left, List.drop_zero]
        show List.dropWhile _ (47 :: joinW [47] r) = _
        rw [List.dropWhile_cons, if_pos (by decide), dw_clean hr]
      | succ k =>
        have e2 : r.take (k + 1) ≠ [] := by
          cases r with
          | nil => exact absurd rfl e
          | cons _ _ => simp
        rw [if_neg e2, List.length_append, ← List.append_assoc]
        have := drop_f r (k + 1) hr (by simpa using hk)
        have e3 : p.length + (([47] : List Nat) ++ joinW [47] (r.take (k + 1))).length = (p ++ [47]).length + (joinW [47] (r.take (k + 1))).length := by simp; omega
        rw [e3]
        rw [List.drop_append, List.drop_eq_nil_of_le (by omega), List.nil_append, Nat.add_sub_cancel_left]
        exact this
theorem drop_place {a : List (List Nat)} {k : Nat} (h : ∀ p ∈ a, Clean p) (hk : k ≤ a.length) : ((place a).drop (place (a.take k)).length).dropWhile (· == 47) = joinW [47] (a.drop k) := by
  unfold place
  rw [List.length_cons, List.drop_succ_cons]
  exact drop_f a k h hk
theorem joinW_drop (sep : List Nat) : ∀ (ps : List (List Nat)) (k : Nat), (joinW sep (ps.drop k)).length ≤ (joinW sep ps).length
  | [], k => by simp
  | p :: r, 0 => by simp
  | p :: r, k + 1 => by
    have := joinW_drop sep r k
    rw [List.drop_succ_cons, joinW_cons]
    split
    · rename_i e; subst e; simp [joinW]
    · simp; omega
theorem place_len {a : List (List Nat)} {k : Nat} : (place (a.take k)).length ≤ (place a).length := by
  unfold place
  have := joinW_take [47] a k
  simp; omega
theorem split_first {ps : List (List Nat)} (h : ∀ p ∈ ps, Clean p) : (splitOn 47 (joinW [47] ps))[0]? = some (ps.headD []) := by
  cases ps with
  | nil => rfl
  | cons p r => rw [splitOn_join (by simp) fun q hq => (h q hq).sl]; rfl
theorem cpre_len : ∀ a b : List (List Nat), (cpre a b).length ≤ a.length := fun a b => by
  have := congrArg List.length (cpre_take a b)
  rw [List.length_take] at this
  omega
theorem ord_first : ∀ (a b : List (List Nat)), (∀ p ∈ a, p ≠ []) → (∀ p ∈ b, p ≠ []) → ordL ((a.drop (cpre a b).length).headD []) ((b.drop (cpre a b).length).headD []) = ordP a b
  | [], [], _, _ => by simp [cpre, ordP, cmpL, ordL]
  | [], q :: _, _, hb => by
    have := hb q (.head _)
    cases q with
    | nil => exact absurd rfl this
    | cons _ _ => simp [cpre, ordP, cmpL, ordL]
  | q :: _, [], ha, _ => by
    have := ha q (.head _)
    cases q with
    | nil => exact absurd rfl this
    | cons _ _ => simp [cpre, ordP, cmpL, ordL]
  | p :: a, q :: b, ha, hb => by
    rw [ordP_cons]
    unfold cpre
    by_cases e : p = q
    · subst e
      rw [if_pos rfl, ordL_self, if_pos rfl]
      exact ord_first a b (fun p hp => ha p (.tail _ hp)) fun p hp => hb p (.tail _ hp)
    · rw [if_neg e]
      have : ordL p q ≠ .eq := fun h => e (ordL_iff.mp h)
      rw [if_neg this]
      rfl
noncomputable def cmpNum (a b : List (List Nat)) : Int := match ordP a b with
  | .lt => -7
  | .gt => 3
  | .eq => 0
theorem cmpNum_lt {a b : List (List Nat)} (ha : ∀ p ∈ a, p ≠ []) (hb : ∀ p ∈ b, p ≠ []) : (decide (((a.drop (cpre a b).length).headD []) < ((b.drop (cpre a b).length).headD [])) = true ↔ ordP a b = .lt) := by
  rw [← ord_first a b ha hb, ← ordL_lt, beq_iff_eq]
theorem cmpNum_gt {a b : List (List Nat)} (ha : ∀ p ∈ a, p ≠ []) (hb : ∀ p ∈ b, p ≠ []) : (decide (((b.drop (cpre a b).length).headD []) < ((a.drop (cpre a b).length).headD [])) = true ↔ ordP a b = .gt) := by
  rw [← ord_first a b ha hb, ← ordL_gt, beq_iff_eq]
theorem op_neg_int {c : Cx} {a : Int} : Op1 c (unaryOp .USub) (.int a) (.int (-a)) := fun s v x r => by
  obtain ⟨t, rfl⟩ := rep_int.mp r
  exact PyProof.Rows.neg_int ⟨kp_toks s _, rep_int.mpr ⟨_, rfl⟩⟩
set_option maxHeartbeats 0 in
theorem c_compare {c : Cx} {n : Nat} (ok : c.Ok (n + 7)) {a b : List (List Nat)} (ha : ∀ p ∈ a, Clean p) (hb : ∀ p ∈ b, Clean p) (la : (place a).length ≤ 900) (lb : (place b).length ≤ 900) :
    CallD c (.ref 211) [st (place a), st (place b)] (.int (cmpNum a b)) := by
  refine call_defL ok k211 b211 c211 s211 (binds2 (a211 _)) (two_local rfl rfl) (by show ([("one" : Str), "other"] : List Str).Nodup; decide) fun s x ok => ?_
  have own : OwnL (c.into (fdOf c.W.w.params 211) 211 s) := into_own
  have ea : a.take (cpre a b).length = cpre a b := cpre_take a b
  have eb : b.take (cpre a b).length = cpre a b := by rw [cpre_comm a b]; exact cpre_take b a
  have hla : (place (cpre a b)).length ≤ (place a).length := by rw [← ea]; exact place_len
  have hlb : (place (cpre a b)).length ≤ (place b).length := by rw [← eb]; exact place_len
  have ka : (cpre a b).length ≤ a.length := cpre_len a b
  have kb : (cpre a b).length ≤ b.length := by rw [cpre_comm]; exact cpre_len b a
  refine x_asg ok own rfl (d := .int (place (cpre a b)).length) (ev_call (Bl ok g_len bt_len) (evL_cons (ev_call (G ok g_commonpath) (evL_cons (ev_listD (evL_cons (L ok) (evL_cons (L ok) evL_nil)) (by simp)) evL_nil) (keeps_fn ok (h180 _)) (c_cp2 (n := n) ok ha hb la lb)) evL_nil) keeps_blt (c_len_str (by omega))) ?_
  have ja : (joinW [47] (a.drop (cpre a b).length)).length ≤ 900 := by have := joinW_drop [47] a (cpre a b).length; simp [place] at la; omega
  have jb : (joinW [47] (b.drop (cpre a b).length)).length ≤ 900 := by have := joinW_drop [47] b (cpre a b).length; simp [place] at lb; omega
  have lt := cmpNum_lt (fun p hp => (ha p hp).ne) (fun p hp => (hb p hp).ne)
  have gt := cmpNum_gt (fun p hp => (ha p hp).ne) (fun p hp => (hb p hp).ne)
  refine x_asg ok own rfl (d := st ((a.drop (cpre a b).length).headD [])) ?_ ?_
  · refine ev_sub (ev_meth (d0 := st (joinW [47] (a.drop (cpre a b).length))) ?_ m_split (evL_cons (ev_tx [47]) evL_nil) keeps_blt (c_split (by omega))) ev_int hasT_list PySem.slot_list_getitem.lookup (op_item_list (by decide) ?_ ?_)
    · refine ev_as (ev_meth (ev_slice (L ok) (evO_some (L ok)) evO_none hasT_str PySem.F.slot_str_getitem.lookup (opS_from (l := place a) (a := (place (cpre a b)).length) (by omega) hla)) m_lstrip (evL_cons (ev_tx [47]) evL_nil) keeps_blt (c_lstrip (by simp; omega))) fun h v q => ?_
      have := drop_place ha ka
      rw [ea] at this
      rw [this] at q
      exact q
    · rw [show ((0 : Int)).toNat = 0 from rfl, List.getElem?_map, split_first fun p hp => ha p (List.mem_of_mem_drop hp)]; rfl
    · rw [List.length_map]; have := splitOn_len 47 (joinW [47] (a.drop (cpre a b).length)); omega
  refine x_asg ok own rfl (d := st ((b.drop (cpre a b).length).headD [])) ?_ ?_
  · refine ev_sub (ev_meth (d0 := st (joinW [47] (b.drop (cpre a b).length))) ?_ m_split (evL_cons (ev_tx [47]) evL_nil) keeps_blt (c_split (by omega))) ev_int hasT_list PySem.slot_list_getitem.lookup (op_item_list (by decide) ?_ ?_)
    · refine ev_as (ev_meth (ev_slice (L ok) (evO_some (L ok)) evO_none hasT_str PySem.F.slot_str_getitem.lookup (opS_from (l := place b) (a := (place (cpre a b)).length) (by omega) hlb)) m_lstrip (evL_cons (ev_tx [47]) evL_nil) keeps_blt (c_lstrip (by simp; omega))) fun h v q => ?_
      have := drop_place hb kb
      rw [eb] at this
      rw [this] at q
      exact q
    · rw [show ((0 : Int)).toNat = 0 from rfl, List.getElem?_map, split_first fun p hp => hb p (List.mem_of_mem_drop hp)]; rfl
    · rw [List.length_map]; have := splitOn_len 47 (joinW [47] (b.drop (cpre a b).length)); omega
  refine x_if (evB_cmp (L ok) (L ok) op_lt_str) (fun h1 => ?_) (fun h1 => ?_)
  · have e := lt.mp h1
    exact x_ret (ev_un ev_int op_neg_int) fun v s F b r => ⟨v, rfl, b, F.toSt, by unfold cmpNum; rw [e]; exact r⟩
  refine x_fall ?_
  refine x_if (evB_cmp (L ok) (L ok) op_gt_str) (fun h2 => ?_) (fun h2 => ?_)
  · have e := gt.mp h2
    exact x_ret ev_int fun v s F b r => ⟨v, rfl, b, F.toSt, by unfold cmpNum; rw [e]; exact r⟩
  refine x_fall ?_
  have e : ordP a b = .eq := by
    cases h : ordP a b with
    | eq => rfl
    | lt => rw [lt.mpr h] at h1; cases h1
    | gt => rw [gt.mpr h] at h2; cases h2
  exact x_ret ev_int fun v s F b r => ⟨v, rfl, b, F.toSt, by unfold cmpNum; rw [e]; exact r⟩
end Mine
end

section
open PySem PySem.W PyProof.Rows PySem.Calls
namespace Mine
theorem kind_iter : builtinKind "iter" = none := by decide +kernel
theorem plain_iter : plainId "iter" = true := by decide +kernel
theorem args_iter1 (a : Value) : argsOk "iter" ⟨[a], []⟩ := by unfold argsOk; kernel_rfl
theorem entry_iter : entryFor table "iter" = some Builtin.«iter» := entryFor_of_tree (by kernel_rfl)
theorem call_iter_list {prog : Program} {w : World} {A : Around} {E : Value → Shared → Prop} {s : Shared} {l : Addr} {items : Array Value} {Q : Value → Shared → Prop} (hl : s.heap.IsList l items)
    (h : Q (.ref s.heap.objs.size) { s with heap := s.heap.push { cls := .type "list_iterator", data := .fields #[.ref l, .int 0 0] } }) : wpAny (model prog w) A (call (.builtin "iter") [.ref l]) Q E s := by
  refine call_function_entry kind_iter plain_iter entry_iter (args_iter1 _) ?_
  unfold Builtin.«iter»
  refine wpAny_bind (m := someArgs "iter" 1 2 _) (wpAny_pure ?_)
  dsimp only
  refine wpAny_bind (wpAny_pyIter_list hl ?_)
  exact wpAny_pure ⟨_, rfl, h⟩
section
variable {c : Cx} {n : Nat} {ρ κ : Loc} {Q : Flow → Shared → Prop}
inductive ForI (c : Cx) (ρs : Nat → Loc) (I l : Addr) (items : Array Value) (ds : List D) (k : Nat) (s' : Shared) : Prop
  | mk (j : Nat) (F : FrD c (ρs j) [] s'.heap) (b : From c s') (gI : s'.heap.IsListIter I l j) (gl : s'.heap.IsList l items) (rl : RepL c.P s'.heap ds items.toList) (hj : j ≤ ds.length) (hk : k = ds.length + 1 - j) : ForI c ρs I l items ds k s'
theorem forIt {x : Str} {px : Pos} {iter : Expr} {body rest : List Stmt} {pos : Pos} {ds : List D} {I l : Addr} {items : Array Value} (ρs : Nat → Loc) {s : Shared}
    (ok : c.Ok n) (ow : OwnL c) (hcl : c.env.cells = []) (hk : c.env.kindOf x = some .local) (hit : Ev c ρ [] iter (.val (.ref I))) (hs : ∀ x, foldedSetIterable iter c.env x = pure x)
    (h1 : Sub (ρs 0) ρ) (hIp : c.P I) (hI0 : c.h₀.get? I = none) (hIL : I ≠ c.env.locals) (hlI : l ≠ I)
    (turn : ∀ h i d, ds[i]? = some d → (c.at h).Ok n → OwnL (c.at h) → Xs (c.at h) ((x, d) :: ρs i) [] body (fun f s => f = .next ∧ FrD (c.at h) (ρs (i + 1)) [] s.heap ∧ From c s))
    (done : Xs c (ρs ds.length) [] rest Q)
    (F : FrD c ρ [] s.heap) (b : From c s) (gI : s.heap.IsListIter I l 0) (gl : s.heap.IsList l items) (rl : RepL c.P s.heap ds items.toList) :
    wpAny c.W.M c.A (execs (.For (.Name x px) iter body [] pos :: rest) c.env) Q NoE s := by
  have hlen : items.size = ds.length := by rw [← rl.length]; simp
  have W := Walks.list (prog := c.W.prog) (w := c.W.w) (A := c.A) ok.rm.hd I l hlI items
  rw [hlen] at W
  have oc : OwnC c := ownC_nil hcl
  have hid : ∀ b, b ∈ hidden c → b = c.env.locals := fun b hb => by
    unfold hidden at hb; rw [hcl] at hb; exact List.mem_singleton.mp hb
  have lns : ∀ {h : Heap}, h.IsList l items → FrD c (ρs 0) [] h ∨ True → ∃ o, h.get? l = some o ∧ SeqO o := fun ⟨o, ho, _, n, hd⟩ _ => ⟨o, ho, ⟨_, _, hd⟩⟩
  have hwr : ∀ b ∈ [I], c.P b ∧ c.h₀.get? b = none ∧ b ∉ hidden c := fun b hb => by
    rw [List.mem_singleton.mp hb]; exact ⟨hIp, hI0, fun hm => hIL (hid _ hm)⟩
  refine wpAny_execs_cons (wpAny_For (noE (hit.go s F) fun xv s1 ⟨k1, r1⟩ => ?_) hs)
  obtain rfl := rep_val.mp r1
  have gI1 : s1.heap.IsListIter I l 0 := gI.at fun o e => k1.stays _ o e
  have gl1 : s1.heap.IsList l items := gl.at fun o e => k1.stays _ o e
  refine W.self 0 s1 _ _ ⟨gI1, gl1⟩ ?_
  refine codeAny_forLoop_any (fun k s' => ForI c ρs I l items ds k s') ?_ (ds.length + 1)
    ⟨0, (F.on k1.stays).weak h1 fun _ _ e => e, b.on k1, gI1, gl1, rl.keep k1.stays, Nat.zero_le _, rfl⟩
  rintro k s' ⟨j, Fj, bj, gIj, glj, rlj, hj, rfl⟩
  have Ins : ∀ {h : Heap} {i : Nat}, h.IsListIter I l i → ∀ b ∈ [I], ∃ o, h.get? b = some o ∧ ¬ SeqO o := fun x b hb => by rw [List.mem_singleton.mp hb]; exact listiter_ns x
  by_cases hlt : j < ds.length
  · obtain ⟨d, hd⟩ : ∃ d, ds[j]? = some d := ⟨_, List.getElem?_eq_getElem hlt⟩
    refine W.item j s' _ _ hlt ⟨gIj, glj⟩ fun v h1 tk1 hPv hst1 hk1 => ?_
    have F1 : FrD c (ρs j) [] h1 := Fj.iter hwr (Ins gIj) hk1
    have rl1 : RepL c.P h1 ds items.toList := rlj.mono fun a o pa ha hsq => ⟨pa, hk1 a o (fun hm => by obtain ⟨o', h1, h2⟩ := Ins gIj a hm; rw [ha] at h1; cases h1; exact h2 hsq) ha⟩
    obtain ⟨d', hd', rv⟩ := rl1.at' (i := j) (v := v) (by simpa using hPv)
    rw [hd] at hd'; cases hd'
    refine plain_go (s := { s' with heap := h1, toks := tk1 }) (by obtain ⟨⟨o, ho, hc, hdd⟩, _⟩ := hst1; exact ⟨o, _, ho, hc, rfl⟩) ?_
    have okh := hid_ok ok ow oc F1.keep
    have Fh := hid_fr F1
    refine noE (asg_loc (px := px) okh hid_own hk { s' with heap := h1, toks := tk1 } v Fh rv) fun _ s2 ⟨F2, ⟨h2, tk2, e2⟩, k2⟩ => ?_
    subst e2
    refine noE ((turn _ j d hd okh hid_own).go _ F2 (bj.set _ _)) fun f s3 ⟨e3, F3, b3⟩ => ?_
    subst e3
    have gIh : (hideAll h1 (hidden c)).IsListIter I l (j + 1) := hst1.1.at fun o e => hideAll_get _ e fun hm => hIL (hid _ hm)
    have glh : (hideAll h1 (hidden c)).IsList l items := hst1.2.at fun o e => hideAll_get _ e fun hm => by
      have := hid _ hm
      obtain ⟨m, hn, _⟩ := F1.loc
      obtain ⟨o2, ho2, hs2⟩ := lns hst1.2 (.inr trivial)
      rw [this] at ho2
      exact ns_not_seq hn o2 ho2 hs2
    refine ⟨ds.length + 1 - (j + 1), turn_lt hlt, j + 1, F3.base (hid_keep ow oc F1.keep), b3, gIh.at fun o e => F3.keep _ o e, glh.at fun o e => F3.keep _ o e, ?_, hlt, rfl⟩
    refine rl1.mono fun a o pa ha hsq => ⟨pa, F3.keep a o (hideAll_get _ ha fun hm => ?_)⟩
    have := hid _ hm
    obtain ⟨m, hn, _⟩ := F1.loc
    rw [this] at ha
    exact ns_not_seq hn o ha hsq
  · have hjN : j = ds.length := Nat.le_antisymm hj (Nat.le_of_not_lt hlt)
    subst hjN
    refine W.done s' _ _ ⟨gIj, glj⟩ fun h1 tk1 hk1 => ?_
    exact wpAny_execs_nil (done.go _ (Fj.iter hwr (Ins gIj) hk1) (bj.set _ _))
end
end Mine
end

section
open PySem PySem.W PyProof.Rows PySem.Calls
namespace Mine
theorem m30 (P : Params) : (heap_39 P).lookup 30 = some { cls := .type "tuple", data := .seq (seqOf P 30) (epOf P 30) } := by kernel_rfl!
theorem m61 (P : Params) : (heap_39 P).lookup 61 = some { cls := .type "tuple", data := .seq (seqOf P 61) (epOf P 61) } := by kernel_rfl!
theorem m74 (P : Params) : (heap_39 P).lookup 74 = some { cls := .type "tuple", data := .seq (seqOf P 74) (epOf P 74) } := by kernel_rfl!
theorem a37 (P : Params) (v0 v1 v2 : Value) : ∃ k : Option (Array Value) → Sem (List (Str × Value)), bindArgs (fdOf P 37) ⟨[v0, v1, v2], []⟩ = (seqItems? (.ref 30) >>= k) ∧ k (some (seqOf P 30)) = pure [(("function" : Str), v0), (("sequence" : Str), v1), (("initial" : Str), v2)] := ⟨_, rfl, by kernel_rfl!⟩
theorem binds_dflt {c : Cx} {n : Nat} {fd : FuncData} {a : Addr} {ds : List D} {bds : List (Str × D)} (ok : c.Ok n) (hm : ∀ P, (heap_39 P).lookup a = some { cls := .type "tuple", data := .seq (seqOf P a) (epOf P a) })
    (h : ∀ (s : Shared) vs, RepL c.P s.heap ds vs → ∃ (k : Option (Array Value) → Sem (List (Str × Value))) (bs : List (Str × Value)), bindArgs fd ⟨vs, []⟩ = (seqItems? (.ref a) >>= k) ∧ k (some (seqOf c.W.w.params a)) = pure bs ∧ RepB c.P s.heap bds bs) : Binds c fd ds bds := fun s vs x r => by
  obtain ⟨k, bs, e1, e2, rb⟩ := h s vs r
  rw [e1]
  refine wpAny_bind (wpAny_seqItems (x.keep _ _ (ok.gd.K _ _ (hm _))) rfl ?_)
  rw [e2]
  exact wpAny_pure ⟨kp_refl s, rb⟩
theorem op_is_str_ref {c : Cx} {x : Str} {a : Addr} : Op2 c (compareOp .Is) (.str x) (.val (.ref a)) (bo false) := fun s v1 v2 _ r1 r2 => by
  obtain ⟨t, rfl⟩ := rep_str.mp r1; obtain rfl := rep_val.mp r2
  exact wpAny_is_other rfl (fun e => nomatch e) ⟨kp_refl s, rep_val.mpr rfl⟩
noncomputable def sumL (es : List (List Nat)) : Nat := (es.map fun e => e.length + 1).sum
theorem sumL_cons (e : List Nat) (es : List (List Nat)) : sumL (e :: es) = e.length + 1 + sumL es := by simp [sumL]
theorem fold_len : ∀ (es : List (List Nat)) (a : List Nat), (es.foldl joinP a).length ≤ a.length + sumL es
  | [], a => by simp
  | e :: es, a => by
    have := fold_len es (joinP a e)
    have := joinP_len a e
    rw [List.foldl_cons, sumL_cons]; omega
theorem sumL_take : ∀ (es : List (List Nat)) (i : Nat), sumL (es.take i) ≤ sumL es
  | [], i => by simp
  | e :: es, 0 => by simp [sumL]
  | e :: es, i + 1 => by
    have := sumL_take es i
    rw [List.take_succ_cons, sumL_cons, sumL_cons]; omega
theorem sumL_mem : ∀ {es : List (List Nat)} {e : List Nat}, e ∈ es → e.length + 1 ≤ sumL es
  | [], _, h => by cases h
  | a :: es, e, h => by
    rw [sumL_cons]
    rcases List.mem_cons.mp h with rfl | h
    · omega
    · have := sumL_mem h; omega
inductive IterO (c : Cx) (ds : List D) (s0 : Shared) (v : Value) (s : Shared) : Prop
  | mk (I l : Addr) (items : Array Value) (e : v = .ref I) (gI : s.heap.IsListIter I l 0) (gl : s.heap.IsList l items) (rl : RepL c.P s.heap ds items.toList) (n1 : l ≠ I) (n0 : s0.heap.get? I = none) : IterO c ds s0 v s
theorem evR_iter {c : Cx} {ρ κ : Loc} {f e : Expr} {pos : Pos} {ds : List D} (hf : Ev c ρ κ f (.val (.builtin "iter"))) (he : EvL c ρ κ [e] [.list ds])
    (hc : eval (.Call f [e] [] pos) c.env = (do callWith pos (← eval f c.env) [] (backTo pos (starEach [e] c.env)) (backToKw pos (keywordEach [] c.env))) := by rfl)
    (hp : ∃ x r, backTo pos (starEach [e] c.env) = (false, x) :: r := by exact ⟨_, _, rfl⟩) (hq : (backTo pos (starEach [e] c.env)).any (·.1) = false := by rfl) :
    EvR c ρ κ (.Call f [e] [] pos) (fun s0 v s => IterO c ds s0 v s) :=
  evR_call hf (evRL_of he) keeps_blt (fun s0 vs s F0 F k r => by
      obtain ⟨v1, r1', rfl, r1, r2⟩ := repL_cons.mp r
      obtain rfl := repL_nil.mp r2
      obtain ⟨l, items, rfl, pl, hL, rl⟩ := rep_list.mp r1
      refine call_iter_list hL ?_
      refine ⟨k.trans (kp_heap s (stays_push _ _)), fun s₁ k₁ => ⟨_, l, items, rfl, ⟨_, Heap.get?_push_size _ rfl, rfl, rfl⟩, hL.at fun o e => Heap.get?_push_of_some _ e, rl.keep (stays_push _ _), ?_, none_of_kp (k₁.trans k) (Heap.get?_none_of_le (Nat.le_refl _))⟩⟩
      obtain ⟨o, ho, _⟩ := hL; exact Nat.ne_of_lt (Heap.lt_size ho)) hc hp hq
theorem x_asgIter {c : Cx} {n : Nat} {ρ κ : Loc} {x : Str} {px : Pos} {f e : Expr} {pos spos : Pos} {ds : List D} {rest : List Stmt} {Q : Flow → Shared → Prop} (ok : c.Ok n) (ow : OwnL c) (hk : c.env.kindOf x = some .local) (hf : Ev c ρ κ f (.val (.builtin "iter"))) (he : EvL c ρ κ [e] [.list ds])
    (h : ∀ (s : Shared) (I l : Addr) (items : Array Value), FrD c ((x, .val (.ref I)) :: ρ) κ s.heap → From c s → s.heap.IsListIter I l 0 → s.heap.IsList l items → RepL c.P s.heap ds items.toList → l ≠ I → c.P I → c.h₀.get? I = none → I ≠ c.env.locals → wpAny c.W.M c.A (execs rest c.env) Q NoE s)
    (hc : eval (.Call f [e] [] pos) c.env = (do callWith pos (← eval f c.env) [] (backTo pos (starEach [e] c.env)) (backToKw pos (keywordEach [] c.env))) := by rfl)
    (hp : ∃ x r, backTo pos (starEach [e] c.env) = (false, x) :: r := by exact ⟨_, _, rfl⟩) (hq : (backTo pos (starEach [e] c.env)).any (·.1) = false := by rfl)
    (hs : swapsWith (.Call f [e] [] pos) (some (.Name x px)) spos.line c.env = pure false := by rfl) :
    Xs c ρ κ (.Assign [.Name x px] (.Call f [e] [] pos) spos :: rest) Q := ⟨fun s F b => by
  refine wpAny_execs_cons (wpAny_Assign_Name (noE (evR_iter hf he hc hp hq s F) fun v s1 ⟨k1, I, l, items, e, gI, gl, rl, hlI, hI0⟩ => ?_) hs)
  subst e
  have F1 := F.on k1.stays
  have hIh : c.h₀.get? I = none := by
    cases q : c.h₀.get? I with
    | none => rfl
    | some o => have := F.keep I o q; rw [hI0] at this; cases this
  have hIL : I ≠ c.env.locals := by
    rintro rfl
    obtain ⟨m, ⟨o, _, _, ho, _⟩, _⟩ := F.loc
    rw [hI0] at ho; cases ho
  refine store_loc ok ow F1 (d := .val (.ref I)) (rep_val.mpr rfl) hk fun h2 tk2 F2 hs2 => ?_
  obtain ⟨m1, hn1, _⟩ := id F1.loc
  have hL1 := ns_not_seq hn1
  exact h _ I l items F2 ((b.on k1).set h2 tk2) (gI.at fun o e => hs2.extBut _ o hIL e) (gl.at fun o e => hs2.extBut _ o (fun q => by
    obtain ⟨o', ho', _, n, hd'⟩ := gl
    rw [q] at ho'; exact hL1 o' ho' ⟨_, _, hd'⟩) e) (rl.same hs2.extBut hL1) hlI (F.new I hI0) hIh hIL⟩
theorem x_hold {c : Cx} {n : Nat} {ρ κ : Loc} {ss : List Stmt} {Q : Flow → Shared → Prop} {s : Shared} (ok : c.Ok n) (ow : OwnL c) (oc : OwnC c) (F : FrD c ρ κ s.heap) (b : From c s)
    (h : (c.at (hideAll s.heap (hidden c))).Ok n → OwnL (c.at (hideAll s.heap (hidden c))) → Xs (c.at (hideAll s.heap (hidden c))) ρ κ ss Q) : wpAny c.W.M c.A (execs ss c.env) Q NoE s :=
  (h (hid_ok ok ow oc F.keep) hid_own).go s (hid_fr F) b
set_option maxHeartbeats 0 in
theorem c_reduce {c : Cx} {n : Nat} (ok : c.Ok (n + 3)) {es : List (List Nat)} {a : List Nat} (hb : a.length + sumL es ≤ 1000) :
    CallD c (.ref 37) [.val (.ref 175), strL es, st a] (st (es.foldl joinP a)) := by
  refine call_defL ok k37 b37 c37 s37 (bds := [("function", .val (.ref 175)), ("sequence", strL es), ("initial", st a)]) (binds_dflt ok m30 fun s vs r => ?_) (fun z hz => ?_) (by show ([("function" : Str), "sequence", "initial"] : List Str).Nodup; decide) fun s x ok => ?_
  · obtain ⟨v, r', rfl, r1, r2⟩ := repL_cons.mp r; obtain ⟨u, r'', rfl, r3, r4⟩ := repL_cons.mp r2; obtain ⟨t, r3', rfl, r5, r6⟩ := repL_cons.mp r4; obtain rfl := repL_nil.mp r6
    obtain ⟨k, e1, e2⟩ := a37 c.W.w.params v u t
    exact ⟨k, _, e1, e2, repB_cons r1 (repB_cons r3 (repB_cons r5 repB_nil))⟩
  · simp only [List.mem_cons, List.not_mem_nil, or_false] at hz
    rcases hz with rfl | rfl | rfl <;> rfl
  have own : OwnL (c.into (fdOf c.W.w.params 37) 37 s) := into_own
  have oc : OwnC (c.into (fdOf c.W.w.params 37) 37 s) := ownC_nil rfl
  refine x_asgIter ok own rfl (ds := es.map st) (Bl ok g_iter bt_iter) (evL_cons (L ok) evL_nil) fun s1 I l items F b gI gl rl hlI pI hI0 hIL => ?_
  refine x_hold ok own oc F b fun okh owh => ?_
  refine x_if (evB_cmp (L okh) (G okh g_initial_missing) op_is_str_ref) (fun e => nomatch e) fun _ => ?_
  refine x_asg okh owh rfl (d := st a) (L okh) (x_fall ⟨fun s2 F2 b2 => ?_⟩)
  have F3 := F2.base (hid_keep own oc F.keep)
  have hid : ∀ b, b ∈ hidden (c.into (fdOf c.W.w.params 37) 37 s) → b = (c.into (fdOf c.W.w.params 37) 37 s).env.locals := fun b hb => List.mem_singleton.mp hb
  obtain ⟨m1, hn1, _⟩ := id F.loc
  have hL1 := ns_not_seq hn1
  have ks : ∀ b o, b ≠ (c.into (fdOf c.W.w.params 37) 37 s).env.locals → s1.heap.get? b = some o → s2.heap.get? b = some o := fun b o hb e => F2.keep b o (hideAll_get _ e fun hm => hb (hid _ hm))
  refine forIt (c := c.into (fdOf c.W.w.params 37) 37 s) (ds := es.map st) (I := I) (l := l) (items := items) (fun i => [("value", st ((es.take i).foldl joinP a)), ("function", .val (.ref 175))]) ok own rfl rfl (L ok) (fun _ => rfl) (sub_cons rfl (sub_cons rfl sub_nil)) pI hI0 hIL hlI (fun h i d hd ok ow => ?_) ?_ F3 b2 (gI.at fun o e => ks _ o hIL e) (gl.at fun o e => ks _ o (fun q => by
    obtain ⟨o', ho', _, n, hd'⟩ := gl
    rw [q] at ho'; exact hL1 o' ho' ⟨_, _, hd'⟩) e) (rl.mono fun a o pa ha hsq => ⟨pa, ks a o (fun q => hL1 o (q ▸ ha) hsq) ha⟩)
  · rw [List.getElem?_map] at hd
    obtain ⟨e, he, hd⟩ := Option.map_eq_some_iff.mp hd
    subst hd
    have h1 := fold_len (es.take i) a
    have h2 := sumL_take es i
    have h3 := sumL_mem (List.mem_of_getElem? he)
    refine x_asg ok ow rfl (d := st (joinP ((es.take i).foldl joinP a) e)) (ev_call (L ok) (evL_cons (L ok) (evL_cons (L ok) evL_nil)) (keeps_fn ok (h175 _)) (c_join2 ok (by omega) (by omega))) (x_nil fun s F b => ⟨rfl, F.weak ?_ fun _ _ e => e, b⟩)
    rw [List.take_succ, he, List.foldl_append]
    exact sub_cons rfl (sub_cons rfl sub_nil)
  · refine x_retD (ev_as (L ok) fun h v q => ?_)
    rw [List.length_map, List.take_length] at q
    exact q
end Mine
end

section
open PySem PySem.W PyProof.Rows PySem.Calls
namespace Mine
theorem forIn_inv {α σ : Type} {M : Model} {A : Around} {E : Value → Shared → Prop} {Q : σ → Shared → Prop} {body : α → σ → Sem (ForInStep σ)} (I : List α → σ → Shared → Prop)
    (step : ∀ a r x s, I (a :: r) x s → wpAny M A (body a x) (fun y s' => ∃ x', y = .yield x' ∧ I r x' s') E s) (done : ∀ x s, I [] x s → Q x s) :
    ∀ l x s, I l x s → wpAny M A (forIn l x body) Q E s
  | [], x, s, h => by rw [List.forIn_nil]; exact wpAny_pure (done x s h)
  | a :: r, x, s, h => by
    rw [List.forIn_cons]
    refine wpAny_bind (wpAny_mono (step a r x s h) (fun y s' ⟨x', e, h'⟩ => ?_) fun _ _ e => e)
    subst e
    exact forIn_inv I step done r x' s' h'
theorem entry_translate : entryFor table "str.translate" = some Builtin.«str.translate» := entryFor_of_tree (by kernel_rfl)
theorem args_translate (a b : Value) : argsOk "str.translate" ⟨[a, b], []⟩ := by unfold argsOk; kernel_rfl
section
variable {prog : Program} {w : World} {A : Around} {E : Value → Shared → Prop} {s : Shared}
theorem tableLookup_str {a : Addr} {items : Array Value} {k : Nat} {x : Str} {u : Tok} {Q : Builtin.Str.Mapped → Shared → Prop} (hL : s.heap.IsList a items) (hx : items[k]? = some (.str x u)) (hk : k < 1000)
    (h : ∀ tk, Q (.text x) { s with toks := tk }) : wpAny (model prog w) A (Builtin.Str.tableLookup (.ref a) k) Q E s := by
  unfold Builtin.Str.tableLookup
  refine wpAny_bind (wpAny_attempt (wpAny_bind (wpAny_mkInt ?_)))
  refine wpAny_getItem_list (s := { s with toks := s.toks + 1 }) hL (by omega) (by omega) (by simpa using hx) ?_
  dsimp only
  refine wpAny_bind (m := asInt? _) (wpAny_pure ?_)
  refine wpAny_bind (m := asStr? _) (wpAny_pure ?_)
  exact wpAny_pure (h _)
theorem fold_cps : ∀ (ps : List Str) (a : Array Nat), (ps.foldl (fun acc p => acc ++ p.cps) a).toList = a.toList ++ (ps.map (·.cps.toList)).flatten
  | [], a => by simp
  | p :: ps, a => by rw [List.foldl_cons, fold_cps ps]; simp
theorem flat_len {enc : Nat → List Nat} {m : Nat} : ∀ {q : List Nat}, (∀ c ∈ q, (enc c).length ≤ m) → ((q.map enc).flatten).length ≤ m * q.length
  | [], _ => by simp
  | c :: q, h => by
    have h1 := flat_len (q := q) fun c hc => h c (.tail _ hc)
    have h2 := h c (.head _)
    simp only [List.map_cons, List.flatten_cons, List.length_append, List.length_cons, Nat.mul_succ]
    omega
inductive TlI (l : List Nat) (enc : Nat → List Nat) (s : Shared) (r : List Nat) (x : List Str × Nat × Bool × List (Nat × Option Nat) × Bool) (s' : Shared) : Prop
  | mk (tk : Nat) (p : List Nat) (e1 : l = p ++ r) (e : s' = { s with toks := tk }) (e2 : (x.1.reverse.map (·.cps.toList)).flatten = (p.map enc).flatten) (e3 : x.2.1 = ((p.map enc).flatten).length) (e4 : x.2.2.2.2 = false)
    (e5 : ∀ k v, x.2.2.2.1.lookup k = some v → ∃ d, v = some d ∧ enc k = [d]) : TlI l enc s r x s'
theorem tl_body {l : List Nat} {t : Tok} {a : Addr} {items : Array Value} {enc : Nat → List Nat} {Q : Fin → Shared → Prop} (hl : l ≠ []) (hn : l.length ≤ 100)
    (hL : s.heap.IsList a items) (ht : ∀ c ∈ l, ∃ u, items[c]? = some (.str (tx (enc c)) u)) (he : ∀ c ∈ l, c < 1000 ∧ (enc c).length ≤ 3 ∧ ∀ k ∈ enc c, k < 128)
    (h : ∀ tk t', Q (.done (.ret (.str (tx ((l.map enc).flatten)) t'))) { s with toks := tk }) : wpAny (model prog w) A (Builtin.«str.translate» ⟨[.str (tx l) t, .ref a], []⟩) Q E s := by
  unfold Builtin.«str.translate»
  refine wpAny_bind (m := Builtin.Str.strOneArg _ _) (wpAny_pure ?_)
  dsimp only
  rw [if_neg (by rw [tx_len]; simpa using hl)]
  rw [← Array.forIn_toList, tx_cps]
  refine wpAny_bind (forIn_inv (σ := List Str × Nat × Bool × List (Nat × Option Nat) × Bool) (fun r x s' => TlI l enc s r x s') ?_ ?_ _ _ _ ⟨s.toks, [], rfl, rfl, rfl, rfl, rfl, fun k v e => by cases e⟩)
  · rintro k r ⟨pieces, total, fast, known, ad⟩ s' ⟨tk, p, e1, rfl, e2, e3, e4, e5⟩
    dsimp only at e2 e3 e4 e5 ⊢
    subst e4
    have hk : k ∈ l := by rw [e1]; simp
    obtain ⟨u, hu⟩ := ht k hk
    obtain ⟨hk1, hk2, hk3⟩ := he k hk
    have htot : total ≤ 300 := by
      rw [e3]
      have : ∀ q : List Nat, (∀ c ∈ q, c ∈ l) → ((q.map enc).flatten).length ≤ 3 * q.length := by
        intro q
        induction q with
        | nil => intro _; simp
        | cons c q ih =>
          intro hq
          have h1 := ih fun c hc => hq c (.tail _ hc)
          have h2 := (he c (hq c (.head _))).2.1
          simp only [List.map_cons, List.flatten_cons, List.length_append, List.length_cons]
          omega
      have h1 := this p fun c hc => by rw [e1]; simp [hc]
      have h2 : p.length ≤ l.length := by rw [e1]; simp
      omega
    have hnl : ¬ (Builtin.Str.tooLong total = true) := by
      unfold Builtin.Str.tooLong
      have := sizeLine_ge (n := total) (by omega)
      simp; omega
    refine KFB.if_not (eq_false_of_ne_true hnl) ?_
    have fin : ∀ (x : List Str × Nat × Bool × List (Nat × Option Nat) × Bool) (tk' : Nat) (y : Str), x.1 = y :: pieces → y.cps.toList = enc k → x.2.1 = total + (enc k).length → x.2.2.2.2 = false → (∀ k v, x.2.2.2.1.lookup k = some v → ∃ d, v = some d ∧ enc k = [d]) →
        ∃ x', ForInStep.yield x = ForInStep.yield x' ∧ TlI l enc s r x' ({ s with toks := tk' } : Shared) := fun x tk' y f1 f2 f3 f4 f5 =>
      ⟨x, rfl, tk', p ++ [k], by rw [e1]; simp, rfl, by rw [f1, List.reverse_cons, List.map_append, List.flatten_append, e2]; simp [f2], by rw [f3, e3]; simp, f4, f5⟩
    have slow : ∀ (s' : Shared) kn, (∃ tk', s' = { s with toks := tk' }) → (∀ k v, kn.lookup k = some v → ∃ d, v = some d ∧ enc k = [d]) → wpAny (model prog w) A (do
        let __do_lift ← Builtin.Str.tableLookup (Value.ref a) k
        match __do_lift with
          | Builtin.Str.Mapped.keep => pure (ForInStep.yield ((({ cps := #[k] } : Str) :: pieces, total + 1, false, kn, false) : List Str × Nat × Bool × List (Nat × Option Nat) × Bool))
          | Builtin.Str.Mapped.drop => pure (ForInStep.yield (pieces, total, false, kn, true))
          | Builtin.Str.Mapped.char d => pure (ForInStep.yield (({ cps := #[d] } : Str) :: pieces, total + 1, false, kn, false))
          | Builtin.Str.Mapped.text t => pure (ForInStep.yield (t :: pieces, total + t.length, false, kn, false)))
        (fun y s' => ∃ x', y = .yield x' ∧ TlI l enc s r x' s') E s' := by
      rintro s' kn ⟨tk', rfl⟩ hkn
      refine wpAny_bind (tableLookup_str (s := { s with toks := tk' }) hL hu hk1 fun tk2 => wpAny_pure ?_)
      exact fin (tx (enc k) :: pieces, total + (tx (enc k)).length, false, kn, false) tk2 _ rfl (tx_cps _) (by rw [tx_len]) rfl hkn
    cases fast with
    | false =>
      refine KFB.if_not rfl ?_
      refine KFB.if_not rfl ?_
      exact slow _ _ ⟨_, rfl⟩ e5
    | true =>
      refine KFB.if_so rfl ?_
      cases hlk : known.lookup k with
      | some v =>
        obtain ⟨d, rfl, hd⟩ := e5 k v hlk
        refine wpAny_bind (wpAny_pure ?_)
        refine wpAny_pure ?_
        exact fin (({ cps := #[d] } : Str) :: pieces, total + 1, true, known, false) tk _ rfl hd.symm (by rw [hd]; rfl) rfl e5
      | none =>
        refine wpAny_bind (tableLookup_str (s := { s with toks := tk }) hL hu hk1 fun tk2 => ?_)
        dsimp only
        by_cases h1 : (enc k).length = 1
        · obtain ⟨d, hd⟩ := List.length_eq_one_iff.mp h1
          have hd128 := hk3 d (by rw [hd]; exact .head _)
          have hc : ((tx (enc k)).length == 1 && (tx (enc k)).cps.all fun x => decide (x < 128)) = true := by
            rw [hd]; simp [tx, Str.length, hd128]
          rw [if_pos hc]
          refine wpAny_bind (wpAny_pure ?_)
          have hg : (tx (enc k)).cps[0]? = some d := by rw [hd]; rfl
          rw [hg]
          refine wpAny_pure ?_
          exact fin (({ cps := #[d] } : Str) :: pieces, total + 1, true, (k, some d) :: known, false) tk2 _ rfl hd.symm (by rw [hd]; rfl) rfl fun k' v e => by
            rw [List.lookup_cons] at e
            split at e
            · rename_i q; cases e; exact ⟨d, rfl, by rw [eq_of_beq q]; exact hd⟩
            · exact e5 k' v e
        · have hc : ((tx (enc k)).length == 1 && (tx (enc k)).cps.all fun x => decide (x < 128)) = false := by
            rw [tx_len]; simp [h1]
          rw [if_neg (by rw [hc]; exact Bool.false_ne_true)]
          refine wpAny_bind (wpAny_pure ?_)
          refine wpAny_bind (wpAny_rule ?_)
          refine KFB.if_not rfl ?_
          exact slow _ _ ⟨_, rfl⟩ e5
  · rintro ⟨pieces, total, fast, known, ad⟩ s' ⟨tk, p, e1, rfl, e2, e3, e4, e5⟩
    rw [List.append_nil] at e1
    subst e1
    dsimp only at e2 e3 e4 e5 ⊢
    have htot : total ≤ 300 := by
      rw [e3]
      have := flat_len (enc := enc) (m := 3) (q := l) fun c hc => (he c hc).2.1
      omega
    have hnl : ¬ (Builtin.Str.tooLong total = true) := by
      unfold Builtin.Str.tooLong
      have := sizeLine_ge (n := total) (by omega)
      simp; omega
    refine KFB.if_not (eq_false_of_ne_true hnl) ?_
    have e : (⟨pieces.reverse.foldl (fun acc p => acc ++ p.cps) #[]⟩ : Str) = tx ((l.map enc).flatten) := by
      refine (tx_eq _).symm.trans (congrArg tx ?_)
      show (pieces.reverse.foldl (fun acc p => acc ++ p.cps) #[]).toList = _
      rw [fold_cps, e2]; rfl
    rw [e]
    unfold retStr
    refine wpAny_bind (wpAny_mkStr (wpAny_pure (h _ _)) ?_)
    rw [tx_len, ← e3]; exact sizeLine_ge (by omega)
end
theorem c_translate {c : Cx} {n : Nat} {a : Addr} {l : List Nat} {enc : Nat → List Nat} (ok : c.Ok n) (hl : l ≠ []) (hn : l.length ≤ 100) (hm : ∀ P, (heap_39 P).lookup a = some { cls := .type "list", data := .seq (seqOf P a) (epOf P a) })
    (hv : ∀ P, ∀ k ∈ l, ∃ t, (seqOf P a)[k]? = some (.str (tx (enc k)) t)) (he : ∀ k ∈ l, k < 1000 ∧ (enc k).length ≤ 3 ∧ ∀ x ∈ enc k, x < 128) :
    CallD c (.builtin "str.translate") [st l, .val (.ref a)] (st ((l.map enc).flatten)) := fun s vs x r => by
  obtain ⟨v, r', rfl, r1, r2⟩ := repL_cons.mp r; obtain ⟨v2, r'', rfl, r3, r4⟩ := repL_cons.mp r2; obtain rfl := repL_nil.mp r4
  obtain ⟨t, rfl⟩ := rep_str.mp r1; obtain rfl := rep_val.mp r3
  have hL : s.heap.IsList a (seqOf c.W.w.params a) := ⟨_, x.keep _ _ (ok.gd.K _ _ (hm _)), rfl, _, rfl⟩
  refine wpAny_call_entry PySem.F.slot_str_translate (typeIs_str _ _ _) entry_translate ?_ (args_translate _ _)
  exact tl_body hl hn hL (hv _) he fun tk t' => ⟨_, rfl, kp_toks s _, rep_str.mpr ⟨t', rfl⟩⟩
end Mine
end

section
open PySem PySem.W PyProof.Rows PySem.Calls
namespace Mine
open Builtin
theorem road_latin {b : Array UInt8} {id : String} : _codecs.decodeRoad id b (PySem.Str.ofString "latin1") none [] = (_codecs.runDecoder id _codecs.latin1Decoder none true b 0 [] >>= fun r => mkStr ⟨r.1⟩) := by kernel_rfl
theorem entry_latin (c : UInt8) (cs : List UInt8) (t t0 : Tok) : «bytes.decode» ⟨[.bytes (c :: cs).toArray t, .str (PySem.Str.ofString "latin1") t0], []⟩ = (mkStr (PySem.Str.ofString "utf-8") >>= fun _ => mkStr (PySem.Str.ofString "latin1") >>= fun e => mkStr (PySem.Str.ofString "bytes.decode") >>= fun d =>
    call (.builtin "_codecs.decode.text") [.bytes (c :: cs).toArray t, e, .none, d] >>= fun v => ret v) := by kernel_rfl
theorem run_latin {M : Model} {A : Around} {E : Value → Shared → Prop} {s : Shared} {id : String} {b : Array UInt8} {Q : Array Nat × Nat → Shared → Prop} (hb : b.size ≤ 1000) (h : ∀ n, Q (b.map (·.toNat), n) s) :
    wpAny M A (_codecs.runDecoder id _codecs.latin1Decoder none true b 0 []) Q E s := by
  unfold _codecs.runDecoder
  dsimp only
  simp only [Std.Legacy.Range.forIn_eq_forIn_range']
  refine wpAny_bind (forIn_inv (σ := Nat × Array Nat × _codecs.Faults) (fun r x s' => s' = s ∧ x.1 + r.length = b.size ∧ x.2.1.toList = (b.toList.take x.1).map (·.toNat)) ?_ ?_ _ _ _ ⟨rfl, by simp [Std.Legacy.Range.size], rfl⟩)
  · rintro k r ⟨p, out, fs⟩ s' ⟨rfl, e1, e2⟩
    dsimp only at e1 e2 ⊢
    rw [List.length_cons] at e1
    have ho : out.size = p := by rw [← Array.length_toList, e2]; simp; omega
    rw [if_neg (by have := sizeLine_ge (n := p) (by omega); omega), if_neg (by omega)]
    show wpAny _ _ (pure (ForInStep.yield (p + 1, out ++ [(b.getD p 0).toNat].toArray, fs))) _ _ _
    refine wpAny_pure ⟨_, rfl, rfl, by dsimp only; omega, ?_⟩
    have hp : p < b.size := by omega
    rw [List.take_add_one, List.map_append, ← e2]
    simp [hp]
  · rintro ⟨p, out, fs⟩ s' ⟨rfl, e1, e2⟩
    dsimp only at e1 e2 ⊢
    refine wpAny_pure ?_
    have : out = b.map (·.toNat) := by
      apply Array.toList_inj.mp
      rw [e2, Array.toList_map, List.take_of_length_le (by simp at e1 ⊢; omega)]
    rw [this]
    exact h _
theorem meets_latin (c : UInt8) (cs : List UInt8) (t t0 : Tok) (hb : (c :: cs).length ≤ 1000) :
    Meets («bytes.decode» ⟨[.bytes (c :: cs).toArray t, .str (PySem.Str.ofString "latin1") t0], []⟩) (fun _ R s => ∀ t' k, R (.ok (.ret (.str (tx ((c :: cs).map (·.toNat))) t'))) { s with toks := k }) := by
  refine .of_wp fun prog w A R s h => ?_
  rw [entry_latin]
  refine wpAny_bind (wpAny_mkStr ?_ (by decide))
  refine wpAny_bind (wpAny_mkStr ?_ (by decide))
  refine wpAny_bind (wpAny_mkStr ?_ (by decide))
  refine wpAny_bind (call_function_entry KBd.kind_text KBd.plain_text KBd.entry_text (KBd.args_text _ _ _ _) ?_)
  show wpAny _ _ (Bytes.bytesLike _ (.bytes (c :: cs).toArray t) >>= fun r => _) _ _ _
  refine wpAny_bind (wpAny_of_eq KBd.like_eq ?_)
  refine wpAny_bind (wpAny_of_eq KBd.held_eq ?_)
  show wpAny _ _ (_codecs.decodeRoad _ (c :: cs).toArray (PySem.Str.ofString "latin1") none [] >>= fun v => _) _ _ _
  rw [road_latin]
  refine wpAny_bind (wpAny_bind (run_latin (by simpa using hb) fun n => ?_))
  have e : (⟨(c :: cs).toArray.map (·.toNat)⟩ : Str) = tx ((c :: cs).map (·.toNat)) := by simp [tx]
  rw [e]
  refine wpAny_mkStr (wpAny_pure ⟨_, rfl, wpAny_pure ⟨_, rfl, h _ _⟩⟩) ?_
  rw [tx_len, List.length_map]; exact sizeLine_ge (by omega)
theorem args_decode2 (a b : Value) : argsOk "bytes.decode" ⟨[a, b], []⟩ := by unfold argsOk; kernel_rfl
section
variable {c : Cx} {ρ κ : Loc} {n : Nat}
theorem m_decode {b : Array UInt8} : Meth c (.bytes b) "decode" (.builtin "bytes.decode") := fun pl s v x r => by
  obtain ⟨t, rfl⟩ := rep_bytes.mp r
  exact KBd.method ⟨rfl, rfl⟩
theorem c_decode {l : List UInt8} (h0 : l ≠ []) (hl : l.length ≤ 1000) : CallD c (.builtin "bytes.decode") [.bytes l.toArray, st [108, 97, 116, 105, 110, 49]] (st (l.map (·.toNat))) := fun s vs x r => by
  obtain ⟨v, r', rfl, r1, r2⟩ := repL_cons.mp r; obtain ⟨v2, r'', rfl, r3, r4⟩ := repL_cons.mp r2; obtain rfl := repL_nil.mp r4
  obtain ⟨t, rfl⟩ := rep_bytes.mp r1; obtain ⟨t0, rfl⟩ := rep_str.mp r3
  cases l with
  | nil => exact absurd rfl h0
  | cons a l =>
    have e : tx [108, 97, 116, 105, 110, 49] = Str.ofString "latin1" := rfl
    rw [e]
    exact call_meets FB.slot_bytes_decode (typeIs_bytes _ _ _) FB.entry_bytes_decode (args_decode2 _ _) (meets_latin a l t t0 hl) fun t' k => ⟨kp_toks s _, rep_str.mpr ⟨t', rfl⟩⟩
/- f-strings of texts -/
noncomputable def EvJ (c : Cx) (ρ κ : Loc) (es : List Expr) (l : List Nat) : Prop :=
  ∀ out s, FrD c ρ κ s.heap → out.length + l.length ≤ 100000 → wpAny c.W.M c.A (joinParts (tx out) (evalEach es c.env)) (Gives c s (st (out ++ l))) NoE s
theorem evJ_nil : EvJ c ρ κ [] [] := fun out s F h => by
  show wpAny _ _ (joinParts (tx out) []) _ _ _
  exact PyProof.Rows.joinParts_nil ⟨kp_toks s _, rep_str.mpr ⟨_, by rw [List.append_nil]⟩⟩ (by rw [tx_len]; exact sizeLine_ge (by simpa using h))
theorem evJ_cons {e : Expr} {es : List Expr} {a b : List Nat} (h1 : Ev c ρ κ e (st a)) (h2 : EvJ c ρ κ es b) (he : evalEach (e :: es) c.env = eval e c.env :: evalEach es c.env := by rfl) : EvJ c ρ κ (e :: es) (a ++ b) := fun out s F h => by
  rw [he]
  refine PyProof.Rows.joinParts_cons (noE (h1.go s F) fun v s1 ⟨k1, r1⟩ => ?_)
  obtain ⟨t, rfl⟩ := rep_str.mp r1
  dsimp only
  rw [List.length_append] at h
  rw [tx_append]
  refine ⟨by rw [tx_len, List.length_append]; exact sizeLine_ge (by omega), ?_⟩
  refine noE (h2 (out ++ a) s1 (F.on k1.stays) (by rw [List.length_append]; omega)) fun v s2 ⟨k2, r2⟩ => ⟨k1.trans k2, ?_⟩
  rw [← List.append_assoc]; exact r2
theorem ev_joined {e1 e2 : Expr} {es : List Expr} {pos : Pos} {l : List Nat} (h : EvJ c ρ κ (e1 :: e2 :: es) l) (hl : l.length ≤ 100000) : Ev c ρ κ (.JoinedStr (e1 :: e2 :: es) pos) (st l) := ⟨fun s F => by
  have := h [] s F (by simpa using hl)
  exact this⟩
theorem ev_fmt {e : Expr} {pos : Pos} {a : List Nat} (h : Ev c ρ κ e (st a)) (ha : a.length ≤ 100000) : Ev c ρ κ (.FormattedValue e 115 none pos) (st a) := ⟨fun s F => by
  rw [arm_eval_FormattedValue]
  refine wpAny_bind (noE (h.go s F) fun v s1 ⟨k1, r1⟩ => wpAny_bind (m := standAt _) (wpAny_standAt ?_))
  obtain ⟨t, rfl⟩ := rep_str.mp r1
  have hsz : (tx a).length ≤ sizeLine := by rw [tx_len]; exact sizeLine_ge ha
  show wpAny _ _ (do let v' ← holding [.str (tx a) t] (habitSame "fstring-hands-on-the-str" (.str (tx a) t)); formatField v' Str.empty) _ _ s1
  refine wpAny_bind (wpAny_holding (wpAny_habitSame_str ?_ ?_ hsz))
  · exact wpAny_formatField_str ⟨k1, rep_str.mpr ⟨_, rfl⟩⟩ ⟨k1.trans (kp_toks s1 _), rep_str.mpr ⟨_, rfl⟩⟩ hsz
  · exact wpAny_formatField_str ⟨k1.trans (kp_toks s1 _), rep_str.mpr ⟨_, rfl⟩⟩ ⟨k1.trans (kp_toks s1 _), rep_str.mpr ⟨_, rfl⟩⟩ hsz⟩
end
end Mine
end

section
open PySem PySem.W PyProof.Rows PySem.Calls
namespace Mine
theorem m45 (P : Params) : (heap_39 P).lookup 45 = some { cls := .type "list", data := .seq (seqOf P 45) (epOf P 45) } := by kernel_rfl!
theorem m70 (P : Params) : (heap_39 P).lookup 70 = some { cls := .type "list", data := .seq (seqOf P 70) (epOf P 70) } := by kernel_rfl!
noncomputable def isAlnum (k : Nat) : Bool := (97 ≤ k && k ≤ 122) || (65 ≤ k && k ≤ 90) || (48 ≤ k && k ≤ 57)
noncomputable def plain0 (k : Nat) : Bool := isAlnum k || k == 45 || k == 33 || k == 42 || k == 43 || k == 47
noncomputable def hdrEnc (k : Nat) : List Nat := if k = 32 then [95] else if plain0 k then [k] else esc k
noncomputable def plain1 (k : Nat) : Bool := (32 ≤ k && k ≤ 126 && k != 61) || k == 9 || k == 10 || k == 13
noncomputable def bodyEnc (k : Nat) : List Nat := if plain1 k then [k] else esc k
theorem m45all (P : Params) : ((seqOf P 45).toList.length == 256 && eachTx hdrEnc 0 (seqOf P 45).toList) = true := by kernel_rfl!
theorem m70all (P : Params) : ((seqOf P 70).toList.length == 256 && eachTx bodyEnc 0 (seqOf P 70).toList) = true := by kernel_rfl!
theorem tab_at {vs : Array Value} {f : Nat → List Nat} (h : (vs.toList.length == 256 && eachTx f 0 vs.toList) = true) {i : Nat} (hi : i < 256) : ∃ t, vs[i]? = some (.str (tx (f i)) t) := by
  rw [Bool.and_eq_true] at h
  have hl : vs.toList.length = 256 := eq_of_beq h.1
  obtain ⟨v, hv⟩ : ∃ v, vs.toList[i]? = some v := ⟨_, List.getElem?_eq_getElem (by omega)⟩
  have q := eachTx_at h.2 hv
  rw [Nat.zero_add] at q
  obtain ⟨t, rfl⟩ := isTx_spec q
  exact ⟨t, by simpa using hv⟩
end Mine
end

section
open PySem PySem.W PyProof.Rows PySem.Calls
namespace Mine
theorem a68 (P : Params) (v0 v1 : Value) : ∃ k : Option (Array Value) → Sem (List (Str × Value)), bindArgs (fdOf P 68) ⟨[v0, v1], []⟩ = (seqItems? (.ref 61) >>= k) ∧ k (some (seqOf P 61)) = pure [(("header_bytes" : Str), v0), (("charset" : Str), v1)] := ⟨_, rfl, by kernel_rfl!⟩
theorem opB_bytes {c : Cx} {b : Array UInt8} (h : b.size ≤ 1000) : OpB c (.bytes b) (!b.isEmpty) := fun s v x r => by
  obtain ⟨t, rfl⟩ := rep_bytes.mp r
  refine truthy_bytes (by omega) ⟨kp_toks s _, ?_⟩
  cases e : b.isEmpty with
  | true => simp at e; subst e; rfl
  | false => simp at e; simp; omega
theorem hdr_small (k : Nat) (hk : k < 256) : k < 1000 ∧ (hdrEnc k).length ≤ 3 ∧ ∀ x ∈ hdrEnc k, x < 128 := by
  have : ∀ k, k < 256 → (hdrEnc k).length ≤ 3 ∧ ∀ x ∈ hdrEnc k, x < 128 := by decide +kernel
  exact ⟨by omega, this k hk⟩
theorem body_small (k : Nat) (hk : k < 256) : k < 1000 ∧ (bodyEnc k).length ≤ 3 ∧ ∀ x ∈ bodyEnc k, x < 128 := by
  have : ∀ k, k < 256 → (bodyEnc k).length ≤ 3 ∧ ∀ x ∈ bodyEnc k, x < 128 := by decide +kernel
  exact ⟨by omega, this k hk⟩
noncomputable def hdrText (l : List Nat) : List Nat := if l = [] then [] else [61, 63, 120, 63, 113, 63] ++ ((l.map hdrEnc).flatten ++ [63, 61])
theorem c_header {c : Cx} {n : Nat} (ok : c.Ok (n + 1)) {l : List UInt8} (hl : l.length ≤ 100) : CallD c (.ref 68) [.bytes l.toArray, st [120]] (st (hdrText (l.map (·.toNat)))) := by
  refine call_defL ok k68 b68 c68 s68 (bds := [("header_bytes", .bytes l.toArray), ("charset", st [120])]) (binds_dflt ok m61 fun s vs r => ?_) (two_local rfl rfl) (by show ([("header_bytes" : Str), "charset"] : List Str).Nodup; decide) fun s x ok => ?_
  · obtain ⟨v, r', rfl, r1, r2⟩ := repL_cons.mp r; obtain ⟨u, r'', rfl, r3, r4⟩ := repL_cons.mp r2; obtain rfl := repL_nil.mp r4
    obtain ⟨k, e1, e2⟩ := a68 c.W.w.params v u
    exact ⟨k, _, e1, e2, repB_cons r1 (repB_cons r3 repB_nil)⟩
  have own : OwnL (c.into (fdOf c.W.w.params 68) 68 s) := into_own
  have oct : ∀ k ∈ l.map (·.toNat), k < 256 := fun k hk => by
    obtain ⟨u, _, rfl⟩ := List.mem_map.mp hk
    exact u.toNat_lt
  refine x_if (evB_not (evB_val (L ok) (opB_bytes (by simp; omega)))) (fun h => ?_) (fun h => ?_)
  · have : l = [] := by simpa using h
    subst this
    exact x_ret (ev_tx []) fun v s F b r => ⟨v, rfl, b, F.toSt, r⟩
  · have h0 : l ≠ [] := by simpa using h
    refine x_fall ?_
    refine x_asg ok own rfl (d := st (((l.map (·.toNat)).map hdrEnc).flatten)) (ev_meth (ev_meth (L ok) m_decode (evL_cons (ev_tx [108, 97, 116, 105, 110, 49]) evL_nil) keeps_blt (c_decode h0 (by omega))) m_translate (evL_cons (G ok g_QUOPRI_HEADER_MAP) evL_nil) keeps_blt (c_translate ok (by simpa using h0) (by simpa using hl) m45 (fun P k hk => tab_at (m45all P) (oct k hk)) fun k hk => hdr_small k (oct k hk))) ?_
    have hfl := flat_len (enc := hdrEnc) (m := 3) (q := l.map (·.toNat)) fun c hc => (hdr_small c (oct c hc)).2.1
    rw [List.length_map] at hfl
    refine x_retD ?_
    refine ev_as (ev_joined (evJ_cons (ev_tx [61, 63]) (evJ_cons (ev_fmt (L ok (d := st [120])) (by decide)) (evJ_cons (ev_tx [63, 113, 63]) (evJ_cons (ev_fmt (L ok) (by omega)) (evJ_cons (ev_tx [63, 61]) evJ_nil))))) (by simp only [List.length_append, List.length_cons, List.length_nil]; omega)) fun h v q => ?_
    have e : l.map (·.toNat) ≠ [] := by simpa using h0
    unfold hdrText
    rw [if_neg e]
    exact q
end Mine
end

section
open PySem PySem.W PyProof.Rows PySem.Calls
namespace Mine
namespace AP
theorem slot_md_get : Slot "method_descriptor" "__get__" "method_descriptor.__get__" :=
  .of (owner := "method_descriptor") (n := "__get__") (by rw [typeLookup_type, builtinLookup_eq_fast]; kernel_rfl) (by decide +kernel) (by decide +kernel) (by decide +kernel)
    (by first | exact .inl (by decide +kernel) | exact .inr (by decide +kernel)) (by rw [isSubtype_type]; kernel_rfl)
theorem entry_md_get : entryFor table "method_descriptor.__get__" = some Builtin.«method_descriptor.__get__» := entryFor_of_tree (by kernel_rfl)
theorem args_md_get (a b c : Value) : argsOk "method_descriptor.__get__" ⟨[a, b, c], []⟩ := by unfold argsOk; kernel_rfl
theorem md_noset : typeLookup (.type "method_descriptor") "__set__" = pure none := by rw [typeLookup_type, builtinLookup_eq_fast]; kernel_rfl
theorem md_nodel : typeLookup (.type "method_descriptor") "__delete__" = pure none := by rw [typeLookup_type, builtinLookup_eq_fast]; kernel_rfl
theorem told : Manifest.toldItsClass.contains "list.append" = false := by decide +kernel
theorem sub_owner : isSubtype (.type "list") (.type (".".intercalate ("list.append".cutAt '.').dropLast)) = pure true := by
  rw [show (".".intercalate ("list.append".cutAt '.').dropLast) = "list" by decide +kernel, isSubtype_type]; kernel_rfl
end AP
section
variable {prog : Program} {w : World} {A : Around} {E : Value → Shared → Prop} {h : Heap} {g : Array GenState} {d : Drawn} {t : Nat} {os : OsState} {a : Addr} {o : Obj}
noncomputable abbrev bndObj (a : Addr) : Obj := { cls := .type "builtin_function_or_method", data := .fields #[.builtin "list.append", .ref a] }
theorem append_get {R : Result → Shared → Prop} (hx : h.get? a = some o) (hc : o.cls = .type "list") (hq : R (.ok (.ret (.ref h.objs.size))) ⟨h.push (bndObj a), g, d, t, os⟩) :
    codeAny (model prog w) A (.call (.builtin "method_descriptor.__get__") ⟨[.builtin "list.append", .ref a, .type "list"], []⟩) R ⟨h, g, d, t, os⟩ := by
  have hT : (⟨h, g, d, t, os⟩ : Shared).TypeIs (.ref a) "list" := ⟨_, hx, hc⟩
  have hT5 : (⟨h, g, d, t, os⟩ : Shared).TypeIs (.builtin "list.append") "method_descriptor" := type_list_append
  have f1 := AP.told
  have f8 := AP.sub_owner
  refine codeAny_call_builtin AP.slot_md_get.plain AP.entry_md_get (AP.slot_md_get.check _ _ _ _ _ _ _ _ hT5 (AP.args_md_get _ _ _) ?_)
  unfold Builtin.«method_descriptor.__get__»
  refine wpAny_bind (wpAny_of_eq (a := ((Value.builtin "list.append"), some (.ref a), some (Value.type "list"))) (by rfl) ?_)
  dsimp only
  rw [f1]
  simp only [Bool.false_eq_true, if_false]
  refine wpAny_bind ?_
  refine wpAny_bind (wpAny_of_eq (a := ((_ : Str), Value.type (".".intercalate ("list.append".cutAt '.').dropLast))) rfl ?_)
  refine wpAny_bind (wpAny_isInstance hT f8 ?_)
  simp only [Bool.not_true, Bool.false_eq_true, if_false]
  refine wpAny_pure ?_
  refine wpAny_bind (m := newFields _ _) (wpAny_newObj_type ?_)
  exact wpAny_pure hq
theorem md_has : typeLookup (.type "method_descriptor") "__get__" = pure (some (.builtin "method_descriptor.__get__")) := AP.slot_md_get.lookup
theorem append_entry {tk : Tok} {xs : Array Value} {k : Nat} {sl : Array (Option Value)} {Q : Fin → Shared → Prop} (hx : h.get? a = some { cls := .type "list", dict := none, data := .seq xs k, slots := sl }) (hq : Q (.done (.ret (.ref h.objs.size))) ⟨h.push (bndObj a), g, d, t, os⟩) :
    wpAny (model prog w) A (Builtin.«object.__getattribute__» ⟨[.ref a, .str "append" tk], []⟩) Q E ⟨h, g, d, t, os⟩ := by
  have hT : (⟨h, g, d, t, os⟩ : Shared).TypeIs (.ref a) "list" := ⟨_, hx, rfl⟩
  have hT5 : (⟨h, g, d, t, os⟩ : Shared).TypeIs (.builtin "list.append") "method_descriptor" := type_list_append
  have f4 := slot_list_append.lookup
  have f5 := type_list_append
  have f6 := md_has
  have f7 := AP.md_noset
  have f8 := AP.md_nodel
  repeat (any_goals (first | assumption | wp_step))
  refine append_get hx rfl ?_
  exact wpAny_pure hq
theorem append_attr {xs : Array Value} {k : Nat} {sl : Array (Option Value)} {Q : Value → Shared → Prop} (hx : h.get? a = some { cls := .type "list", dict := none, data := .seq xs k, slots := sl }) (hq : Q (.ref h.objs.size) ⟨h.push (bndObj a), g, d, t + 1, os⟩) :
    wpAny (model prog w) A (getAttr (.ref a) "append" true) Q E ⟨h, g, d, t, os⟩ := by
  have hT : ∀ tk', (⟨h, g, d, tk', os⟩ : Shared).TypeIs (.ref a) "list" := fun _ => ⟨_, hx, rfl⟩
  have f3 := PySem.F.slot_list_getattribute.lookup
  have f4 := PySem.F.slot_list_getattribute.bind (.ref a)
  unfold getAttr getAttrBy
  repeat (any_goals (first | assumption | exact hT _ | wp_step))
  refine codeAny_call_builtin PySem.F.slot_list_getattribute.plain PySem.F.entry_list_ga (PySem.F.slot_list_getattribute.check _ _ _ _ _ _ _ _ (hT _) (PySem.F.args_list_getattribute_2 _ _) (append_entry hx ?_))
  exact wpAny_pure hq
end
end Mine
end

section
open PySem PySem.W PyProof.Rows PySem.Calls
namespace Mine
section
variable {prog : Program} {w : World} {A : Around} {E : Value → Shared → Prop} {s : Shared}
theorem bnd_keeps {M : Model} {h : Heap} {b a : Addr} (hb : h.get? b = some (bndObj a)) : Looks M h (keeperOf (.ref b)) .machine := fun A Q E s k q => by
  unfold keeperOf
  exact wpAny_bind (wpAny_load (k _ _ hb) (wpAny_pure q))
theorem sig_append : Manifest.signature? "list.append" = some ⟨.oneArg, "list.append", "append", .self, [⟨"object", .posOnly, true⟩]⟩ := by
  rw [signature?_of (id := "list.append") (n := ['d', 'n', 'e', 'p', 'p', 'a']) (o := ['t', 's', 'i', 'l']) (by kernel_rfl) PySem.F.owner_list]; kernel_rfl
theorem kind_append : builtinKind "list.append" = some .method := by kernel_rfl
theorem sub_list_module : isSubtype (.type "list") (.type "module") = pure false := by rw [isSubtype_type]; kernel_rfl
theorem check_bnd (v x : Value) : Bind.checkArgs "list.append" ⟨.oneArg, "list.append", "append", .self, [⟨"object", .posOnly, true⟩]⟩ ⟨[v, x], []⟩ = pure () := by kernel_rfl
theorem varargs_append : Manifest.varargsMethods.contains "list.append" = false := by decide +kernel
theorem call_bnd {b a : Addr} {items : Array Value} {x : Value} {Q : Value → Shared → Prop} (hb : s.heap.get? b = some (bndObj a)) (hl : s.heap.PlainList a items) (hsz : items.size ≤ 1000)
    (h : ∀ h', h'.PlainList a (items.push x) → Heap.SameBut a s.heap h' → Q .none { s with heap := h' }) : wpAny (model prog w) A (call (.ref b) [x]) Q E s := by
  obtain ⟨n, hp⟩ := hl
  have hT : s.TypeIs (.ref a) "list" := ⟨_, hp, rfl⟩
  refine wpAny_call (codeAny_of_tree ?_)
  show wpAny _ _ (callAny (.ref b) _) _ _ _
  unfold callAny
  refine wpAny_bind (wpAny_load hb ?_)
  dsimp only
  rw [if_pos (by decide)]
  show wpAny _ _ (checkBoundCall "list.append" ⟨[.ref a, x], []⟩ >>= fun _ => again (.builtin "list.append" ⟨[.ref a, x], []⟩)) _ _ _
  refine wpAny_bind ?_
  unfold checkBoundCall
  rw [sig_append]
  dsimp only
  rw [kind_append]
  dsimp only
  rw [if_neg (by decide)]
  refine wpAny_bind (wpAny_isInstance hT sub_list_module ?_)
  rw [varargs_append]
  simp only [Bool.or_self, Bool.false_eq_true, if_false]
  refine wpAny_bind ?_
  refine wpAny_bind (wpAny_loadPart hp (wpAny_pure ?_))
  simp only [Bool.false_eq_true, if_false]
  refine wpAny_bind (wpAny_typeOf hT ?_)
  dsimp only
  rw [show toString (Bind.lastOf "list") ++ toString "." ++ toString (Bind.lastOf "list.append") = "list.append" by decide +kernel]
  refine wpAny_of_eq (check_bnd _ _) ?_
  refine wpAny_pure ⟨plainId_quiet (by decide +kernel) _, codeAny_builtin entry_list_append ?_⟩
  have hd : (⟨.type "list", none, .seq items n, #[]⟩ : Obj).data = .seq items n := rfl
  show wpAny _ _ (updateSeq a (·.push x) >>= fun _ => ret .none) _ _ s
  refine wpAny_bind ?_
  refine wpAny_updateSeq hp hd (wpAny_pure (h _ ?_ (Heap.SameBut.update ..))) (by exact sizeLine_ge (by omega)) (by show (items.push x).size ≤ sizeLine + 1; rw [Array.size_push]; have := sizeLine_ge (n := items.size) (by omega); omega)
  obtain ⟨n', hd'⟩ := Obj.data_mapSeq hd (·.push x)
  have := Heap.get?_update_self (Obj.mapSeq (·.push x)) hp rfl
  exact ⟨_, this⟩
end

noncomputable def Cx.sub (c : Cx) (S : List Addr) : Cx := { c with P := fun a => c.P a ∧ a ∉ S }
noncomputable def Cx.off (c : Cx) (e : Addr) : Cx := c.at (hideAll c.h₀ [e])
section
variable {c : Cx} {n : Nat} {ρ κ : Loc} {Q : Flow → Shared → Prop}
theorem sub_ok {S : List Addr} (ok : c.Ok n) : (c.sub S).Ok n := ⟨ok.gd, ok.rm, ok.kind, ok.glob, ok.blt⟩
theorem FrD.subOn {S : List Addr} {h h' : Heap} (F : FrD c ρ κ h) (k : Stays h h') (hS : ∀ a ∈ S, h.get? a = none ∧ ∃ o, h'.get? a = some o) : FrD (c.sub S) ρ κ h' := by
  have r2 : ∀ {d : D} {v : Value}, Rep c.P h d v → Rep (c.sub S).P h' d v := fun r => r.mono fun a o pa ha _ => ⟨⟨pa, fun hm => by rw [(hS a hm).1] at ha; cases ha⟩, k _ _ ha⟩
  refine ⟨⟨fun b o e => k _ _ (F.keep b o e), fun a e => ⟨F.new a ?_, fun hm => ?_⟩⟩, ?_, fun y a e => ?_⟩
  · cases q : h.get? a with
    | none => rfl
    | some o => rw [k _ _ q] at e; cases e
  · obtain ⟨o, ho⟩ := (hS a hm).2
    rw [e] at ho; cases ho
  · obtain ⟨m, hn, hm⟩ := F.loc
    exact ⟨m, hn.keeps k, fun y d e => let ⟨v, a, b⟩ := hm y d e; ⟨v, a, r2 b⟩⟩
  · obtain ⟨o, vo, p1, p2, p3⟩ := F.cel y a e
    exact ⟨o, vo, k _ _ p1, p2, fun d e => let ⟨v, p, q⟩ := p3 d e; ⟨v, p, r2 q⟩⟩
theorem fresh_h0 {h : Heap} {e : Addr} (F : FrD c ρ κ h) (he : h.get? e = none) : c.h₀.get? e = none := by
  cases q : c.h₀.get? e with
  | none => rfl
  | some o => have := F.keep e o q; rw [he] at this; cases this
theorem fresh_loc {h : Heap} {e : Addr} (F : FrD c ρ κ h) (he : h.get? e = none) : e ≠ c.env.locals := by
  rintro rfl
  obtain ⟨m, ⟨o, _, _, ho, _⟩, _⟩ := F.loc
  rw [he] at ho; cases ho
theorem x_newlist {x : Str} {px pos spos : Pos} {rest : List Stmt} (ok : c.Ok n) (ow : OwnL c) (hk : c.env.kindOf x = some .local)
    (h : ∀ s e, c.P e → c.h₀.get? e = none → e ≠ c.env.locals → FrD (c.sub [e]) ((x, .val (.ref e)) :: ρ) κ s.heap → From c s → s.heap.PlainList e #[] → wpAny c.W.M c.A (execs rest c.env) Q NoE s)
    (hs : swapsWith (.List [] pos) (some (.Name x px)) spos.line c.env = pure false := by rfl) :
    Xs c ρ κ (.Assign [.Name x px] (.List [] pos) spos :: rest) Q := ⟨fun s F b => by
  refine wpAny_execs_cons (wpAny_Assign_Name (List_ (wpAny_pure (wpAny_newObj_type ?_))) hs)
  have hn : s.heap.get? s.heap.objs.size = none := Heap.get?_none_of_le (Nat.le_refl _)
  have g : (s.heap.push { cls := .type "list", data := .seq ([] : List Value).toArray }).get? s.heap.objs.size = some { cls := .type "list", data := .seq ([] : List Value).toArray } := Heap.get?_push_size _ rfl
  have F1 : FrD (c.sub [s.heap.objs.size]) ρ κ (s.heap.push { cls := .type "list", data := .seq ([] : List Value).toArray }) := F.subOn (stays_push _ _) fun a ha => by
    rw [List.mem_singleton.mp ha]; exact ⟨hn, _, g⟩
  have hL := fresh_loc F hn
  refine store_loc (c := c.sub [s.heap.objs.size]) (s := { s with heap := s.heap.push { cls := .type "list", data := .seq ([] : List Value).toArray } }) (sub_ok ok) ow F1 (d := .val (.ref s.heap.objs.size)) (rep_val.mpr rfl) hk fun h' tk F2 hs2 => ?_
  exact h _ _ (F.new _ hn) (fresh_h0 F hn) hL F2 (b.set _ _) ⟨_, hs2.extBut _ _ hL g⟩⟩
theorem x_bound {y x : Str} {py px pos spos : Pos} {rest : List Stmt} {e : Addr} {items : Array Value} {s : Shared} (ok : c.Ok n) (ow : OwnL c) (hk : c.env.kindOf y = some .local) (hx : Ev c ρ κ (.Name x px) (.val (.ref e))) (heL : e ≠ c.env.locals)
    (F : FrD c ρ κ s.heap) (b : From c s) (hp : s.heap.PlainList e items)
    (h : ∀ s bd, FrD c ((y, .val (.ref bd)) :: ρ) κ s.heap → From c s → s.heap.PlainList e items → s.heap.get? bd = some (bndObj e) → bd ≠ c.env.locals → bd ≠ e → wpAny c.W.M c.A (execs rest c.env) Q NoE s)
    (hs : swapsWith (.Attribute (.Name x px) "append" pos) (some (.Name y py)) spos.line c.env = pure false := by rfl) :
    wpAny c.W.M c.A (execs (.Assign [.Name y py] (.Attribute (.Name x px) "append" pos) spos :: rest) c.env) Q NoE s := by
  refine wpAny_execs_cons (wpAny_Assign_Name (Attribute_name (noE (hx.go s F) fun v s1 ⟨k1, r1⟩ => ?_)) hs)
  obtain rfl := rep_val.mp r1
  obtain ⟨k0, hp⟩ := hp
  have hp1 := k1.stays _ _ hp
  have F1 := F.on k1.stays
  obtain ⟨hh, gg, dd, tt, oo⟩ := s1
  refine append_attr hp1 ?_
  have g : (hh.push (bndObj e)).get? hh.objs.size = some (bndObj e) := Heap.get?_push_size _ rfl
  have hn : hh.get? hh.objs.size = none := Heap.get?_none_of_le (Nat.le_refl _)
  have F2 : FrD c ρ κ (hh.push (bndObj e)) := F1.on (stays_push _ _)
  have hL := fresh_loc F1 hn
  refine store_loc (s := ⟨hh.push (bndObj e), gg, dd, tt + 1, oo⟩) ok ow F2 (d := .val (.ref hh.objs.size)) (rep_val.mpr rfl) hk fun h' tk F3 hs3 => ?_
  refine h _ _ F3 (((b.on k1).set (hh.push (bndObj e)) (tt + 1)).set h' tk) ⟨_, hs3.extBut _ _ heL (Heap.get?_push_of_some _ hp1)⟩ (hs3.extBut _ _ hL g) hL fun q => ?_
  rw [← q, hn] at hp1; cases hp1
theorem off_of {e : Addr} {h h' : Heap} {items items' : Array Value} (F : FrD c ρ κ h) (hcP : ¬ c.P e) (hp : h.PlainList e items) (hp' : h'.PlainList e items') (hs : Heap.SameBut e h h') : FrD (c.off e) ρ κ h' := by
  have ext := hs.extBut
  obtain ⟨k, hp⟩ := hp
  obtain ⟨k', hp'⟩ := hp'
  have rp : ∀ {d : D} {v : Value}, Rep c.P h d v → Rep c.P h' d v := fun r => r.mono fun a o pa ha _ => ⟨pa, ext a o (fun q => hcP (q ▸ pa)) ha⟩
  refine ⟨⟨fun b o q => ?_, fun a q => F.new a ?_⟩, ?_, fun y a q => ?_⟩
  · have q1 := of_hideAll _ q
    refine ext b o (fun hb => ?_) (F.keep b o q1)
    subst hb
    have : (hideAll c.h₀ [b]).get? b = none := hideAll_none _ (.head _)
    rw [show (c.off b).h₀ = hideAll c.h₀ [b] from rfl, this] at q; cases q
  · by_cases hae : a = e
    · rw [hae, hp'] at q; cases q
    · rw [← hs.2 a hae]; exact q
  · obtain ⟨m, hn, hm⟩ := F.loc
    have hL : c.env.locals ≠ e := fun q => by
      have := ns_not_seq hn _ (q ▸ hp)
      exact this ⟨_, _, rfl⟩
    exact ⟨m, hn.sameBut hs hL, fun y d e => let ⟨v, a, b⟩ := hm y d e; ⟨v, a, rp b⟩⟩
  · obtain ⟨o, vo, p1, p2, p3⟩ := F.cel y a q
    refine ⟨o, vo, ext a o (fun hae => ?_) p1, p2, fun d e => let ⟨v, p, q⟩ := p3 d e; ⟨v, p, rp q⟩⟩
    subst hae
    rw [hp] at p1; cases p1; cases p2
theorem x_appendB {f arg : Expr} {pos p : Pos} {rest : List Stmt} {e bd : Addr} {items : Array Value} {d : D} (ok : c.Ok n) (hcP : ¬ c.P e) (hsz : items.size ≤ 1000) (hp : c.h₀.PlainList e items) (hb : c.h₀.get? bd = some (bndObj e))
    (hf : Ev c ρ κ f (.val (.ref bd))) (ha : EvL c ρ κ [arg] [d])
    (h : ∀ s v, FrD (c.off e) ρ κ s.heap → From c s → s.heap.PlainList e (items.push v) → Rep c.P s.heap d v → wpAny c.W.M c.A (execs rest c.env) Q NoE s)
    (he : eval (.Call f [arg] [] pos) c.env = (do callWith pos (← eval f c.env) [] (backTo pos (starEach [arg] c.env)) (backToKw pos (keywordEach [] c.env))) := by rfl)
    (hpp : ∃ x r, backTo pos (starEach [arg] c.env) = (false, x) :: r := by exact ⟨_, _, rfl⟩) (hq : (backTo pos (starEach [arg] c.env)).any (·.1) = false := by rfl)
    (hi : interactive c.env = false := by rfl) (hs : swapsWith (.Call f [arg] [] pos) none p.line c.env = pure false := by rfl) :
    Xs c ρ κ (.Expr (.Call f [arg] [] pos) p :: rest) Q := ⟨fun s F b => by
  refine wpAny_execs_cons (wpAny_Expr_any ?_ hi hs)
  rw [he]
  refine wpAny_bind (noE (hf.go s F) fun v s1 ⟨k1, r1⟩ => ?_)
  obtain rfl := rep_val.mp r1
  refine callWith_of (P := fun h => St c h) (by show ((backTo pos (starEach [arg] c.env)).any (·.1) || false) = false; rw [hq]; rfl) (fun h x => ⟨.machine, .inr (.inl rfl), bnd_keeps (x.keep _ _ hb)⟩) ?_
  refine noE (evalArgs_D ha (F.on k1.stays) hpp) fun a s2 ⟨e1, k2, r2⟩ => ⟨((F.on k1.stays).on k2.stays).toSt, ?_⟩
  have F2 := (F.on k1.stays).on k2.stays
  obtain ⟨v, r', e2, r3, r4⟩ := repL_cons.mp r2
  obtain rfl := repL_nil.mp r4
  rw [e1, e2]
  obtain ⟨k0, hp0⟩ := hp
  have hp2 : s2.heap.PlainList e items := ⟨k0, F2.keep _ _ hp0⟩
  refine call_bnd (F2.keep _ _ hb) hp2 hsz fun h' hp' hs' => ?_
  exact h _ v (off_of F2 hcP hp2 hp' hs') (((b.on k1).on k2).seth _) hp' (r3.mono fun a o pa ha _ => ⟨pa, hs'.extBut a o (fun q => hcP (q ▸ pa)) ha⟩)⟩
theorem x_append {o arg : Expr} {apos pos p : Pos} {rest : List Stmt} {e : Addr} {items : Array Value} {d : D} {pl : Sem Bool} (ok : c.Ok n) (hcP : ¬ c.P e) (hsz : items.size ≤ 1000) (hp : c.h₀.PlainList e items)
    (hf : Ev c ρ κ o (.val (.ref e))) (ha : EvL c ρ κ [arg] [d])
    (h : ∀ s v, FrD (c.off e) ρ κ s.heap → From c s → s.heap.PlainList e (items.push v) → Rep c.P s.heap d v → wpAny c.W.M c.A (execs rest c.env) Q NoE s)
    (he : eval (.Call (.Attribute o "append" apos) [arg] [] pos) c.env = (do
      let ov ← eval o c.env
      standAt apos.atName
      let (f, first) ← holding [ov] (getMethod ov "append" pl)
      callWith pos f first (backTo pos (starEach [arg] c.env)) []) := by rfl)
    (hpp : ∃ x r, backTo pos (starEach [arg] c.env) = (false, x) :: r := by exact ⟨_, _, rfl⟩) (hq : (backTo pos (starEach [arg] c.env)).any (·.1) = false := by rfl)
    (hi : interactive c.env = false := by rfl) (hs : swapsWith (.Call (.Attribute o "append" apos) [arg] [] pos) none p.line c.env = pure false := by rfl) :
    Xs c ρ κ (.Expr (.Call (.Attribute o "append" apos) [arg] [] pos) p :: rest) Q := ⟨fun s F b => by
  refine wpAny_execs_cons (wpAny_Expr_any ?_ hi hs)
  obtain ⟨k0, hp0⟩ := hp
  refine MethodCall_ (pl := pl) (noE (hf.go s F) fun v s1 ⟨k1, r1⟩ => ?_) he
  obtain rfl := rep_val.mp r1
  have F1 := F.on k1.stays
  refine getMethod_list_append (F1.keep _ _ hp0) rfl rfl ?_
  refine callWith_of (P := fun h => St c h) (by show ((backTo pos (starEach [arg] c.env)).any (·.1) || false) = false; rw [hq]; rfl) keeps_blt ?_
  refine noE (evalArgs_D ha F1 hpp) fun a s2 ⟨e1, k2, r2⟩ => ⟨(F1.on k2.stays).toSt, ?_⟩
  have F2 := F1.on k2.stays
  obtain ⟨v, r', e2, r3, r4⟩ := repL_cons.mp r2
  obtain rfl := repL_nil.mp r4
  rw [e1, e2]
  have hp2 : s2.heap.PlainList e items := ⟨k0, F2.keep _ _ hp0⟩
  show wpAny _ _ (call (.builtin "list.append") [.ref e, v]) _ _ _
  refine wpAny_list_append_plain (hsz := sizeLine_ge (by omega)) hp2 fun h' hp' hs' => ?_
  exact h _ v (off_of F2 hcP hp2 hp' hs') (((b.on k1).on k2).seth _) hp' (r3.mono fun a o pa ha _ => ⟨pa, hs'.extBut a o (fun q => hcP (q ▸ pa)) ha⟩)⟩
end
section
variable {c : Cx} {n : Nat} {ρ κ : Loc}
noncomputable def Cx.hid (c : Cx) (h : Heap) (S : List Addr) : Cx := c.at (hideAll h (S ++ hidden c))
theorem hids_keep (ow : OwnL c) (oc : OwnC c) {h : Heap} {S : List Addr} (hS : ∀ e ∈ S, c.h₀.get? e = none) (k : Stays c.h₀ h) : Stays c.h₀ (hideAll h (S ++ hidden c)) := fun b o e => hideAll_get _ (k b o e) fun hm => by
  rcases List.mem_append.mp hm with hm | hm
  · rw [hS b hm] at e; cases e
  rcases List.mem_cons.mp hm with q | hm
  · unfold OwnL at ow; rw [q, ow] at e; cases e
  · obtain ⟨p, hp, rfl⟩ := List.mem_map.mp hm
    rw [oc.own p.1 p.2 hp] at e; cases e
theorem hids_ok (ok : c.Ok n) (ow : OwnL c) (oc : OwnC c) {h : Heap} {S : List Addr} (hS : ∀ e ∈ S, c.h₀.get? e = none) (k : Stays c.h₀ h) : (c.hid h S).Ok n := ⟨ok.gd.keep (hids_keep ow oc hS k), ok.rm, ok.kind, ok.glob, ok.blt⟩
theorem hids_own {h : Heap} {S : List Addr} : OwnL (c.hid h S) := hideAll_none _ (List.mem_append_right _ (.head _))
theorem hids_ownC (oc : OwnC c) {h : Heap} {S : List Addr} : OwnC (c.hid h S) := ⟨oc.apart, fun x a hm => hideAll_none _ (List.mem_append_right _ (.tail _ (List.mem_map.mpr ⟨(x, a), hm, rfl⟩)))⟩
theorem hids_fr {h : Heap} {S : List Addr} (F : FrD c ρ κ h) : FrD (c.hid h S) ρ κ h := ⟨⟨fun b o e => of_hideAll _ e, F.new⟩, F.loc, F.cel⟩
theorem hids_none {h : Heap} {S : List Addr} {e : Addr} (he : e ∈ S) : (c.hid h S).h₀.get? e = none := hideAll_none _ (List.mem_append_left _ he)
theorem hids_at {h : Heap} {S : List Addr} {b : Addr} {o : Obj} (hb : h.get? b = some o) (h1 : b ∉ S) (h2 : b ∉ hidden c) : (c.hid h S).h₀.get? b = some o := hideAll_get _ hb fun hm => by
  rcases List.mem_append.mp hm with hm | hm
  · exact h1 hm
  · exact h2 hm
theorem FrD.put {x : Str} {v : Value} {d : D} {h : Heap} (F : FrD c ρ κ h) (hx : ρ.lookup x = some (.val v)) (r : Rep c.P h d v) : FrD c ((x, d) :: ρ) κ h := by
  refine ⟨F.toSt, ?_, F.cel⟩
  obtain ⟨m, hn, hm⟩ := F.loc
  refine ⟨m, hn, fun y d' e => ?_⟩
  rw [List.lookup_cons] at e
  split at e
  · rename_i q
    cases e
    obtain ⟨u, hu, ru⟩ := hm x _ hx
    exact ⟨u, by rw [eq_of_beq q]; exact hu, by rw [rep_val.mp ru]; exact r⟩
  · exact hm y d' e
theorem FrD.wide {P' : Addr → Prop} {h : Heap} (F : FrD c ρ κ h) (hP : ∀ a, c.P a → P' a) : FrD { c with P := P' } ρ κ h := by
  have rp : ∀ {d : D} {v : Value}, Rep c.P h d v → Rep P' h d v := fun r => r.mono fun a o pa ha _ => ⟨hP a pa, ha⟩
  refine ⟨⟨F.keep, fun a e => hP a (F.new a e)⟩, ?_, fun y a e => ?_⟩
  · obtain ⟨m, hn, hm⟩ := F.loc
    exact ⟨m, hn, fun y d e => let ⟨v, a, b⟩ := hm y d e; ⟨v, a, rp b⟩⟩
  · obtain ⟨o, vo, p1, p2, p3⟩ := F.cel y a e
    exact ⟨o, vo, p1, p2, fun d e => let ⟨v, p, q⟩ := p3 d e; ⟨v, p, rp q⟩⟩
theorem keep_off {h₀ h : Heap} {e : Addr} (k : Stays h₀ h) (he : h₀.get? e = none) : Stays h₀ (hideAll h [e]) := fun b o q => hideAll_get _ (k b o q) fun hm => by
  rw [List.mem_singleton.mp hm, he] at q; cases q
end
end Mine
end

section
open PySem PySem.W PyProof.Rows PySem.Calls
namespace Mine
open PySem.Builtin PySem.Builtin.Str PySem.StrLaws in
theorem cuts_one {l : List Nat} (h0 : l ≠ []) (h : ∀ k ∈ l, Unicode.isLineBreak k = false) : lineCuts (tx l) = [(0, (tx l).length)] := by
  have run : ∀ (m cur : Nat) (st : LsSt), cur + m ≤ l.length → Id.run (forIn (m := Id) (List.range' cur m) st (lsBody (tx l))) = st := by
    intro m
    induction m with
    | zero => intro cur st _; rfl
    | succ m ih =>
      intro cur st hc
      rw [List.range'_succ, List.forIn_cons]
      have hk : Unicode.isLineBreak ((tx l).cps.getD cur 0) = false := by
        have : cur < l.length := by omega
        have e : (tx l).cps.getD cur 0 = l[cur] := by simp [tx, this]
        rw [e]; exact h _ (List.getElem_mem this)
      have : lsBody (tx l) cur st = pure (ForInStep.yield (st.fst, st.snd)) := by
        unfold lsBody
        rw [hk]; simp
      rw [this]
      exact ih (cur + 1) st (by omega)
  unfold lineCuts
  rw [ls_eq, run _ _ _ (by rw [tx_len]; omega)]
  have : 0 < l.length := List.length_pos_iff.mpr h0
  simp [lsEnd, tx_len, this]
theorem c_splitlines {c : Cx} {l : List Nat} (h0 : l ≠ []) (hn : l.length ≤ 1000) (h : ∀ k ∈ l, Unicode.isLineBreak k = false) : CallD c (.builtin "str.splitlines") [st l] (.list [st l]) := fun s vs x r => by
  obtain ⟨v, r', rfl, r1, r2⟩ := repL_cons.mp r; obtain rfl := repL_nil.mp r2
  obtain ⟨t, rfl⟩ := rep_str.mp r1
  have hc := cuts_one h0 h
  refine call_meets PySem.F.slot_str_splitlines (typeIs_str _ _ _) PySem.F.entry_str_splitlines (PySem.F.args_str_splitlines_1 _) (meets_str_splitlines (tx l) t (by rw [tx_len]; exact sizeLine_ge (by omega)) (by rw [hc]; exact sizeLine_ge (by simp))) ?_
  rw [hc]
  rw [if_pos (by simp)]
  unfold listOfItself
  refine ⟨kp_heap s (stays_push _ _), rep_list.mpr ⟨_, #[.str (tx l) t], rfl, x.new.at, ⟨_, Heap.get?_push_size _ rfl, rfl, _, rfl⟩, repL_cons.mpr ⟨_, [], rfl, rep_str.mpr ⟨t, rfl⟩, repL_nil.mpr rfl⟩⟩⟩
noncomputable def eolV (P : Params) : Value := ((seqOf P 74)[1]?).getD .none
theorem eol_is (P : Params) : isTx [10] (eolV P) = true := by kernel_rfl!
theorem a81 (P : Params) (v0 v1 : Value) : ∃ k : Option (Array Value) → Sem (List (Str × Value)), bindArgs (fdOf P 81) ⟨[v0, v1], []⟩ = (seqItems? (.ref 74) >>= k) ∧ k (some (seqOf P 74)) = pure [(("body" : Str), v0), (("maxlinelen" : Str), v1), (("eol" : Str), eolV P)] := ⟨_, rfl, by kernel_rfl!⟩
noncomputable def crlfV (P : Params) : Value := match nsIn (heap_39 P) mainGlobals "CRLF" with
  | some (some v) => v
  | _ => .none
theorem g_CRLF (P : Params) : nsIn (heap_39 P) mainGlobals "CRLF" = some (some (crlfV P)) := by kernel_rfl!
theorem crlf_is (P : Params) : isTx [13, 10] (crlfV P) = true := by kernel_rfl!
noncomputable def bodyRaw (l : List Nat) : List Nat := (l.map bodyEnc).flatten
noncomputable def bodyText (l : List Nat) : List Nat := match (bodyRaw l).getLast? with
  | some k => if k = 32 ∨ k = 9 then (bodyRaw l).dropLast ++ esc k else bodyRaw l
  | none => []
structure Oct (l : List Nat) : Prop where
  len : l.length ≤ 20
  oct : ∀ k ∈ l, k < 256 ∧ k ≠ 10 ∧ k ≠ 13
theorem bodyEnc_in' : ∀ k, k < 256 → (k == 10 || k == 13 || (!(bodyEnc k).isEmpty && (bodyEnc k).length ≤ 3 && (bodyEnc k).all fun x => (32 ≤ x && x ≤ 126) || x == 9)) = true := by decide +kernel
theorem bodyEnc_in (k : Nat) (h : k < 256) (h1 : k ≠ 10) (h2 : k ≠ 13) : bodyEnc k ≠ [] ∧ (bodyEnc k).length ≤ 3 ∧ ∀ x ∈ bodyEnc k, ((32 ≤ x ∧ x ≤ 126) ∨ x = 9) := by
  have := bodyEnc_in' k h
  simpa [h1, h2, and_assoc] using this
theorem bodyRaw_in {l : List Nat} (h : Oct l) : ∀ x ∈ bodyRaw l, (32 ≤ x ∧ x ≤ 126) ∨ x = 9 := fun x hx => by
  obtain ⟨p, hp, hx⟩ := List.mem_flatten.mp hx
  obtain ⟨k, hk, rfl⟩ := List.mem_map.mp hp
  have := h.oct k hk
  exact (bodyEnc_in k this.1 this.2.1 this.2.2).2.2 x hx
theorem bodyRaw_ne {l : List Nat} (h : Oct l) (h0 : l ≠ []) : bodyRaw l ≠ [] := by
  cases l with
  | nil => exact absurd rfl h0
  | cons k l =>
    have := h.oct k (.head _)
    have := (bodyEnc_in k this.1 this.2.1 this.2.2).1
    unfold bodyRaw
    rw [List.map_cons, List.flatten_cons]
    simp [this]
theorem bodyRaw_len {l : List Nat} (h : Oct l) : (bodyRaw l).length ≤ 60 := by
  have := flat_len (enc := bodyEnc) (m := 3) (q := l) fun k hk => by
    have := h.oct k hk
    exact (bodyEnc_in k this.1 this.2.1 this.2.2).2.1
  have := h.len
  unfold bodyRaw; omega
theorem nobreak' : ∀ x, x < 128 → (!((32 ≤ x && x ≤ 126) || x == 9) || !Unicode.isLineBreak x) = true := by decide +kernel
theorem nobreak {x : Nat} (h : (32 ≤ x ∧ x ≤ 126) ∨ x = 9) : Unicode.isLineBreak x = false := by
  have := nobreak' x (by omega)
  have h2 : ((32 ≤ x && x ≤ 126) || x == 9) = true := by simpa using h
  rw [h2] at this
  simpa using this
end Mine
end

section
open PySem PySem.W PyProof.Rows PySem.Calls
namespace Mine
theorem op_sub_nn {c : Cx} {a b : Int} : Op2 c (binaryOp .Sub) (.int a) (.int b) (.int (a - b)) := op_sub_int
theorem body_true {l : List Nat} {k : Nat} (h : (bodyRaw l).getLast? = some k) (hk : k = 32 ∨ k = 9) : bodyText l = (bodyRaw l).dropLast ++ esc k := by
  unfold bodyText; rw [h]; simp [hk]
theorem body_false {l : List Nat} {k : Nat} (h : (bodyRaw l).getLast? = some k) (hk : ¬ (k = 32 ∨ k = 9)) : bodyText l = bodyRaw l := by
  unfold bodyText; rw [h]; simp only [if_neg hk]
set_option maxHeartbeats 0 in
theorem c_body {c : Cx} {n : Nat} (ok : c.Ok (n + 2)) {l : List Nat} (hl : Oct l) : CallD c (.ref 81) [st l, .int 99] (st (bodyText l)) := by
  obtain ⟨et, he⟩ := isTx_spec (eol_is c.W.w.params)
  refine call_defL ok k81 b81 c81 s81 (bds := [("body", st l), ("maxlinelen", .int 99), ("eol", st [10])]) (binds_dflt ok m74 fun s vs r => ?_) (fun z hz => ?_) (by show ([("body" : Str), "maxlinelen", "eol"] : List Str).Nodup; decide) fun s x ok => ?_
  · obtain ⟨v, r', rfl, r1, r2⟩ := repL_cons.mp r; obtain ⟨u, r'', rfl, r3, r4⟩ := repL_cons.mp r2; obtain rfl := repL_nil.mp r4
    obtain ⟨k, e1, e2⟩ := a81 c.W.w.params v u
    exact ⟨k, _, e1, e2, repB_cons r1 (repB_cons r3 (repB_cons (rep_str.mpr ⟨et, he⟩) repB_nil))⟩
  · simp only [List.mem_cons, List.not_mem_nil, or_false] at hz
    rcases hz with rfl | rfl | rfl <;> rfl
  have own : OwnL (c.into (fdOf c.W.w.params 81) 81 s) := into_own
  have oc : OwnC (c.into (fdOf c.W.w.params 81) 81 s) := ownC_nil rfl
  refine x_if (evB_cmp (L ok) ev_int op_lt_int) (fun h => absurd h (by decide)) (fun _ => x_fall ?_)
  have hll := hl.len
  refine x_if (evB_not (evB_val (L ok) (opB_str (by omega)))) (fun h => ?_) (fun h => x_fall ?_)
  · have : l = [] := by simpa using h
    subst this
    exact x_ret (L ok) fun v s F b r => ⟨v, rfl, b, F.toSt, r⟩
  have h0 : l ≠ [] := by simpa using h
  have hb0 := bodyRaw_ne hl h0
  have hbl := bodyRaw_len hl
  have hbi := bodyRaw_in hl
  obtain ⟨kl, hkl⟩ : ∃ k, (bodyRaw l).getLast? = some k := by
    cases q : (bodyRaw l).getLast? with
    | none => exact absurd (List.getLast?_eq_none_iff.mp q) hb0
    | some k => exact ⟨k, rfl⟩
  have hlen1 : 0 < (bodyRaw l).length := List.length_pos_iff.mpr hb0
  have hkm : kl ∈ bodyRaw l := List.mem_of_getLast? hkl
  have hk128 : kl < 128 := by have := hbi kl hkm; omega
  refine x_asg ok own rfl (d := st (bodyRaw l)) (ev_meth (L ok) m_translate (evL_cons (G ok g_QUOPRI_BODY_ENCODE_MAP) evL_nil) keeps_blt (c_translate ok h0 (by omega) m70 (fun P k hk => tab_at (m70all P) (hl.oct k hk).1) fun k hk => body_small k (hl.oct k hk).1)) ?_
  refine x_asg ok own rfl (d := st ([61] ++ [10])) (ev_bin (ev_tx [61]) (L ok) (op_add_str (by decide))) ?_
  refine x_asg ok own rfl (ev_bin (L ok) ev_int op_sub_int) ?_
  refine x_newlist ok own rfl fun s1 e hPe he0 heL F1 b1 hp1 => ?_
  refine x_bound (c := (c.into (fdOf c.W.w.params 81) 81 s).sub [e]) (sub_ok ok) own rfl (L (sub_ok ok)) heL F1 b1 hp1 fun s2 bd F2 b2 hp2 hbd hbdL hbde => ?_
  let c0 := c.into (fdOf c.W.w.params 81) 81 s
  let c1 := c0.sub [e]
  let c2 := c1.hid s2.heap [e]
  have oc1 : OwnC c1 := ⟨oc.apart, oc.own⟩
  have hhid : ∀ b, b ∈ hidden c1 → b = c0.env.locals := fun b hb => List.mem_singleton.mp hb
  have ok2 : c2.Ok (n + 1) := hids_ok (c := c1) (sub_ok ok) own oc1 (fun a ha => by rw [List.mem_singleton.mp ha]; exact he0) F2.keep
  have own2 : OwnL c2 := hids_own
  have oc2 : OwnC c2 := hids_ownC oc1
  have F2' : FrD c2 _ [] s2.heap := hids_fr F2
  have hbd2 : c2.h₀.get? bd = some (bndObj e) := hids_at hbd (by simpa using hbde) fun hm => hbdL (hhid _ hm)
  have heP : ¬ c2.P e := fun hp => hp.2 (.head _)
  have he2 : c2.h₀.get? e = none := hids_none (.head _)
  have b2' : From c2 s2 := b2
  show wpAny c2.W.M c2.A (execs _ c2.env) (Ret c0 (st (bodyText l))) NoE s2
  refine forJ (c := c2) (N := 1) (it := fun i => [st (bodyRaw l)].getD i dNone) (fun _ => [("append", .val (.ref bd)), ("encoded_body", .val (.ref e)), ("maxlinelen", .int 99), ("body", st (bodyRaw l)), ("eol", st [10])]) (fun _ => []) (fun _ => ("line", st (bodyRaw l)) :: [("append", .val (.ref bd)), ("encoded_body", .val (.ref e)), ("maxlinelen", .int 99), ("body", st (bodyRaw l)), ("eol", st [10])]) (fun _ => []) (ws := [c2.env.locals])
    (fun i h => ∃ items, h.PlainList e items ∧ RepL c2.P h (if i = 0 then [] else [st (bodyText l)]) items.toList) ok2 own2 oc2 (fun p hp => by cases hp)
    (evI_of (ev_meth0 (L ok2) m_splitlines keeps_blt (c_splitlines hb0 (by omega) fun k hk => nobreak (hbi k hk))) (itr_list ok2)) (fun _ => rfl)
    (sub_cons rfl (sub_cons rfl (sub_cons rfl (sub_cons rfl (sub_cons rfl sub_nil))))) sub_nil (fun b hb => by rw [List.mem_singleton.mp hb]; exact .head _) ?_ (fun h i hi ok ow oc => ?_) (fun h i hi ok ow oc hst J => ?_) (fun s3 F3 b3 J3 => ?_) F2' b2' ⟨#[], hp2, repL_nil.mpr rfl⟩
  · rintro i h h' ⟨items, ⟨k, hp⟩, hr⟩ hk
    exact ⟨items, ⟨k, hk _ _ hp ⟨_, _, rfl⟩⟩, hr.mono fun a o pa ha hs => ⟨pa, hk a o ha hs⟩⟩
  · obtain rfl : i = 0 := by omega
    exact asg_loc ok ow rfl
  · obtain rfl : i = 0 := by omega
    obtain ⟨items, hp, hr⟩ := J
    have hi0 : items.size = 0 := by have := hr.length; simpa using this
    have hbdh : (c2.at h).h₀.get? bd = some (bndObj e) := hst _ _ hbd2
    have fin : ∀ (d : D) (s4 : Shared) (v : Value) (ρ' : Loc), d = st (bodyText l) → FrD ((c2.at h).off e) ρ' [] s4.heap → From (c2.at h) s4 → s4.heap.PlainList e (items.push v) → Rep c2.P s4.heap d v →
        (Sub [("append", .val (.ref bd)), ("encoded_body", .val (.ref e)), ("maxlinelen", .int 99), ("body", st (bodyRaw l)), ("eol", st [10])] ρ') →
        FrD c2 [("append", .val (.ref bd)), ("encoded_body", .val (.ref e)), ("maxlinelen", .int 99), ("body", st (bodyRaw l)), ("eol", st [10])] [] s4.heap ∧ From c2 s4 ∧ (∃ items, s4.heap.PlainList e items ∧ RepL c2.P s4.heap (if 0 + 1 = 0 then [] else [st (bodyText l)]) items.toList) ∧ (∀ b o, h.get? b = some o → (SeqO o → c2.P b) → s4.heap.get? b = some o) := fun d s4 v ρ' hd F4 b4 hp4 hr4 hsub => by
      subst hd
      refine ⟨(F4.base (c := c2) (h₀ := hideAll h [e]) (keep_off hst he2)).weak hsub fun _ _ e => e, b4, ⟨_, hp4, ?_⟩, fun b o hb hs => ?_⟩
      · have : items = #[] := Array.eq_empty_of_size_eq_zero hi0
        subst this
        exact repL_cons.mpr ⟨v, [], rfl, hr4, repL_nil.mpr rfl⟩
      · refine F4.keep b o (hideAll_get _ hb fun hm => ?_)
        rw [List.mem_singleton.mp hm] at hb hs
        obtain ⟨k, hp⟩ := hp
        rw [hp] at hb; cases hb
        exact heP (hs ⟨_, _, rfl⟩)
    refine x_asg ok ow rfl ev_int ?_
    refine x_asg ok ow rfl (d := .int (((bodyRaw l).length : Int) - 1 - 99)) (ev_bin (ev_bin (ev_call (Bl ok g_len bt_len) (evL_cons (L ok (d := st (bodyRaw l))) evL_nil) keeps_blt (c_len_str (by omega))) ev_int op_sub_int) (L ok) op_sub_int) ?_
    refine x_while (fun m ρ' => m = 0 ∧ ρ' = _) 0 ⟨rfl, rfl⟩ ?_
    rintro m ρ' ⟨rfl, rfl⟩
    refine ⟨_, evB_cmp (L ok) (L ok) op_le_int, fun _ => ?_, fun h => absurd (of_decide_eq_true h) (by omega)⟩
    refine x_if (evAndV (evB_val (L ok) (opB_str (by omega))) fun _ => evB_cmp (ev_sub (d := st [kl]) (L ok) (ev_un ev_int op_neg_int) hasT_str PySem.F.slot_str_getitem.lookup (op_last_str hkl (by omega))) (ev_tx [32, 9]) op_in_str) (fun ht => ?_) (fun ht => ?_)
    · have hk : kl = 32 ∨ kl = 9 := by
        rw [Bool.and_eq_true] at ht
        simpa using ht.2
      refine x_asg ok ow rfl (ev_bin (L ok) (L ok) op_sub_int) ?_
      refine x_if (evB_cmp (L ok) ev_int op_ge_int) (fun _ => ?_) (fun h => absurd (of_decide_eq_false h) (by omega))
      refine x_asg ok ow rfl (d := st (esc kl)) (ev_call (G ok g_quote) (evL_cons (ev_sub (d := st [kl]) (L ok) (ev_un ev_int op_neg_int) hasT_str PySem.F.slot_str_getitem.lookup (op_last_str hkl (by omega))) evL_nil) (keeps_fn ok (h60 _)) (c_quote ok (by omega))) (x_fall ?_)
      refine x_appendB (d := st (bodyText l)) ok heP (by omega) hp hbdh (L ok) (evL_cons (ev_as (ev_bin (ev_slice (L ok) (evO_some (L ok)) (evO_some (ev_un ev_int op_neg_int)) hasT_str PySem.F.slot_str_getitem.lookup (opS_mid (l := bodyRaw l) (a := 0) ((bodyRaw l).length - 1) (by omega) (by decide) (by omega) (by omega) (by omega))) (L ok) (op_add_str ?_)) fun h v q => ?_) evL_nil) fun s4 v F4 b4 hp4 hr4 => wpAny_execs_nil (wpAny_execs_nil (fin _ s4 v _ rfl F4 b4 hp4 hr4 ?_))
      · simp [esc]; omega
      · rw [body_true hkl hk, List.dropLast_eq_take]
        simpa using q
      · exact sub_cons rfl (sub_cons rfl (sub_cons rfl (sub_cons rfl (sub_cons rfl sub_nil))))
    · have hk : ¬ (kl = 32 ∨ kl = 9) := fun hk => by
        have h1 : (bodyRaw l).isEmpty = false := by cases q : bodyRaw l with | nil => exact absurd q hb0 | cons _ _ => rfl
        rw [h1] at ht
        simp at ht
        omega
      refine x_appendB (d := st (bodyText l)) ok heP (by omega) hp hbdh (L ok) (evL_cons (ev_as (ev_slice (L ok) (evO_some (L ok)) evO_none hasT_str PySem.F.slot_str_getitem.lookup (opS_from (a := 0) (by omega) (by omega))) fun h v q => ?_) evL_nil) fun s4 v F4 b4 hp4 hr4 => wpAny_execs_nil (wpAny_execs_nil (fin _ s4 v _ rfl F4 b4 hp4 hr4 ?_))
      · rw [body_false hkl hk]
        simpa using q
      · exact sub_cons rfl (sub_cons rfl (sub_cons rfl (sub_cons rfl (sub_cons rfl sub_nil))))
  · obtain ⟨items, hp, hr⟩ := J3
    have st0 : Stays c0.h₀ c2.h₀ := hids_keep (c := c1) own oc1 (fun a ha => by rw [List.mem_singleton.mp ha]; exact he0) F2.keep
    have st3 : Stays c0.h₀ s3.heap := fun b o q => F3.keep b o (st0 b o q)
    have ok3 : (c0.hid s3.heap []).Ok (n + 1) := hids_ok ok own oc (fun a ha => by cases ha) st3
    have F4 : FrD (c0.hid s3.heap []) _ [] s3.heap := hids_fr (c := { c2 with P := c0.P }) (F3.wide fun a pa => pa.1)
    have F5 := F4.put (x := "encoded_body") (v := .ref e) rfl (d := strL [bodyText l]) (rep_list.mpr ⟨e, items, rfl, hPe, hp.isList, hr.mono fun a o pa ha _ => ⟨pa.1, ha⟩⟩)
    show wpAny (c0.hid s3.heap []).W.M (c0.hid s3.heap []).A (execs _ (c0.hid s3.heap []).env) (Ret c0 (st (bodyText l))) NoE s3
    obtain ⟨t0, ht0⟩ := isTx_spec (crlf_is c.W.w.params)
    refine (?_ : Xs (c0.hid s3.heap []) _ [] _ (Ret c0 (st (bodyText l)))).go s3 F5 b3
    refine x_if (evB_cmp (ev_sub (d := st [kl]) (L ok3) (ev_un ev_int op_neg_int) hasT_str PySem.F.slot_str_getitem.lookup (op_last_str hkl (by omega))) (ev_as (d' := st [13, 10]) (ev_glob ok3 rfl (g_CRLF _) rfl) fun h v q => ?_) op_in_str) (fun hcr => ?_) (fun _ => ?_)
    · rw [rep_val.mp q]; exact rep_str.mpr ⟨t0, ht0⟩
    · have := hbi kl hkm
      have h2 := of_decide_eq_true hcr
      simp only [List.mem_cons, List.not_mem_nil, or_false] at h2
      omega
    · refine x_fall ?_
      refine x_ret (ev_meth (L ok3) m_join (evL_cons (L ok3 (d := strL [bodyText l])) evL_nil) keeps_blt (c_join (ps := [bodyText l]) ⟨by simp, by simp, fun p hp => ?_⟩)) fun v s F b r => ⟨v, rfl, b, ⟨fun b o q => F.keep b o (hids_keep own oc (fun a ha => by cases ha) st3 b o q), F.new⟩, r⟩
      rw [List.mem_singleton.mp hp]
      by_cases hk : kl = 32 ∨ kl = 9
      · rw [body_true hkl hk]; simp [esc]; omega
      · rw [body_false hkl hk]; omega
end Mine
end

section
open PySem PySem.W PyProof.Rows PySem.Calls
namespace Mine
theorem ints_of_rep {P : Addr → Prop} {h : Heap} : ∀ {ns : List Int} {vs : List Value}, RepL P h (ns.map .int) vs → IntsAre vs ns
  | [], vs, r => by rw [repL_nil.mp r]; exact .nil
  | n :: ns, vs, r => by
    obtain ⟨v, r', rfl, r1, r2⟩ := repL_cons.mp r
    obtain ⟨t, rfl⟩ := rep_int.mp r1
    exact .cons n t (ints_of_rep r2)
noncomputable abbrev octs (l : List Nat) : List UInt8 := l.map (·.toUInt8)
theorem octs_back {l : List Nat} (h : ∀ k ∈ l, k < 256) : (octs l).map (·.toNat) = l := by
  rw [List.map_map]
  conv => rhs; rw [← List.map_id l]
  exact List.map_congr_left fun k hk => by simpa using Nat.mod_eq_of_lt (h k hk)
theorem c_bytes {c : Cx} {n : Nat} (ok : c.Ok n) {l : List Nat} (hl : l.length ≤ 1000) (ho : ∀ k ∈ l, k < 256) : CallD c (.type "bytes") [.list (l.map fun k : Nat => D.int k)] (.bytes (octs l).toArray) := fun s vs x r => by
  obtain ⟨v, r', rfl, r1, r2⟩ := repL_cons.mp r; obtain rfl := repL_nil.mp r2
  obtain ⟨a, items, rfl, pa, hL, rl⟩ := rep_list.mp r1
  have e : l.map (fun k : Nat => D.int k) = (l.map fun k : Nat => (k : Int)).map .int := by rw [List.map_map]; rfl
  rw [e] at rl
  have hi := ints_of_rep rl
  have hlen := rl.length
  refine call_bytes_ints (vs := items.toList) (by simpa using hL) hi (fun n hn => ?_) (by rw [hlen]; simp; exact sizeLine_ge (by omega)) ok.rm.hd fun h' t k hk => ⟨⟨h', k, rfl, hk⟩, rep_bytes.mpr ⟨t, ?_⟩⟩
  · obtain ⟨k, hk, rfl⟩ := List.mem_map.mp hn
    have := ho k hk
    omega
  · unfold byteArr octs
    rw [List.map_map]
    rfl
noncomputable def quoEnc (k : Nat) : List Nat := if k = 47 then [47] else esc k
noncomputable def written (way : Nat) (l : List Nat) : List Nat := if way = 1 then bodyText l else if way = 2 then (l.map quoEnc).flatten else (l.map hdrEnc).flatten
theorem evB_eq {c : Cx} {ρ κ : Loc} {e : Expr} {b b' : Bool} (h : EvB c ρ κ e b) (hb : b = b') : EvB c ρ κ e b' := hb ▸ h
theorem quo_len (k : Nat) : (quoEnc k).length ≤ 3 := by unfold quoEnc esc; split <;> simp
theorem bodyText_nil : bodyText [] = [] := rfl
set_option maxHeartbeats 0 in
theorem c_written {c : Cx} {n : Nat} (ok : c.Ok (n + 3)) {l : List Nat} (hl : Oct l) {way : Nat} (hw : way < 3) : CallD c (.ref 192) [st l, .int way] (st (written way l)) := by
  refine call_defL ok k192 b192 c192 s192 (binds2 (a192 _)) (two_local rfl rfl) (by show ([("text" : Str), "way"] : List Str).Nodup; decide) fun s x ok => ?_
  have own : OwnL (c.into (fdOf c.W.w.params 192) 192 s) := into_own
  have hll := hl.len
  refine x_if (evB_cmp (L ok) ev_int op_eq_int) (fun h => ?_) (fun h1 => x_fall ?_)
  · have e : way = 1 := by have : (way : Int) = 1 := by simpa using h
                           omega
    subst e
    exact x_ret (ev_call (G ok g_body_encode) (evL_cons (L ok) (evL_cons ev_int evL_nil)) (keeps_fn ok (h81 _)) (c_body ok hl)) fun v s F b r => ⟨v, rfl, b, F.toSt, r⟩
  have hw1 : way ≠ 1 := fun e => by subst e; exact absurd h1 (by decide)
  refine x_if (evB_cmp (L ok) ev_int op_eq_int) (fun h => ?_) (fun h2 => x_fall ?_)
  · have e : way = 2 := by have : (way : Int) = 2 := by simpa using h
                           omega
    subst e
    refine x_ret (d := st (written 2 l)) (ev_as (ev_meth (ev_tx []) m_join (evL_cons (ev_compA l (fun k => st [k]) (fun _ => true) (fun k => st (quoEnc k)) (fun k => [("sign", st [k])]) (st := true) (κ' := []) (ds := (l.map quoEnc).map st) ok (evI_strA ok (L ok)) (by omega) (cl := []) rfl (by decide) rfl (by decide) (fun _ => rfl) subA_nil sub_nil ?_ (fun C P' k hk ok ow => asg_loc ok ow rfl) (fun C P' k hk ok => evIfs_nil) (fun C P' k hk _ ok => ?_)) evL_nil) keeps_blt (c_join ⟨by simp; omega, by simp, fun p hp => ?_⟩)) fun h v q => ?_) fun v s F b r => ⟨v, rfl, b, F.toSt, r⟩
    · rw [filter_true, List.map_map]; rfl
    · refine ev_ite (evB_cmp (L ok) (ev_tx [47]) op_eq_str) (fun e => ?_) (fun e => ?_)
      · have : k = 47 := by simpa using e
        subst this
        exact L ok
      · have : k ≠ 47 := by simpa using e
        rw [show quoEnc k = esc k by unfold quoEnc; rw [if_neg this]]
        exact ev_call (G ok g_quote) (evL_cons (L ok) evL_nil) (keeps_fn ok (h60 _)) (c_quote ok (hl.oct k hk).1)
    · obtain ⟨k, _, rfl⟩ := List.mem_map.mp hp
      have := quo_len k; omega
    · rw [joinW_nil] at q; exact q
  have hw2 : way ≠ 2 := fun e => by subst e; exact absurd h2 (by decide)
  have hw0 : written way l = (l.map hdrEnc).flatten := by unfold written; rw [if_neg hw1, if_neg hw2]
  rw [hw0]
  have ho : ∀ k ∈ l, k < 256 := fun k hk => (hl.oct k hk).1
  have hfl := flat_len (enc := hdrEnc) (m := 3) (q := l) fun c hc => (hdr_small c (ho c hc)).2.1
  have hht : (hdrText l).length ≤ 1000 := by unfold hdrText; split <;> simp only [List.length_append, List.length_cons, List.length_nil] <;> omega
  refine x_asg ok own rfl (d := st (hdrText l)) (ev_as (ev_call (G ok g_header_encode) (evL_cons (ev_call (Bl ok g_bytes bt_bytes) (evL_cons (ev_compA l (fun k => st [k]) (fun _ => true) (fun k : Nat => .int k) (fun k => [("sign", st [k])]) (st := true) (κ' := []) (ds := l.map fun k : Nat => .int k) ok (evI_strA ok (L ok)) (by omega) (cl := []) rfl (by decide) rfl (by decide) (fun _ => rfl) subA_nil sub_nil (by rw [filter_true]) (fun C P' k hk ok ow => asg_loc ok ow rfl) (fun C P' k hk ok => evIfs_nil) (fun C P' k hk _ ok => ev_call (Bl ok g_ord bt_ord) (evL_cons (L ok) evL_nil) keeps_blt c_ord)) evL_nil) keeps_type (c_bytes ok (by omega) ho)) (evL_cons (ev_tx [120]) evL_nil)) (keeps_fn ok (h68 _)) (c_header ok (l := octs l) (by simp; omega))) fun h v q => ?_) ?_
  · rw [octs_back ho] at q; exact q
  by_cases h0 : l = []
  · subst h0
    refine x_if (evB_bop (evAnd_cons (q := true) (evB_cmp (L ok) (ev_tx []) op_ne_str) fun h => absurd h (by decide))) (fun h => absurd h (by decide)) (fun _ => x_fall ?_)
    exact x_ret (L ok) fun v s F b r => ⟨v, rfl, b, F.toSt, r⟩
  · have eh : hdrText l = [61, 63, 120, 63, 113, 63] ++ ((l.map hdrEnc).flatten ++ [63, 61]) := by unfold hdrText; rw [if_neg h0]
    have hlen : (hdrText l).length = (l.map hdrEnc).flatten.length + 8 := by rw [eh]; simp
    refine x_if (q := true) ?_ (fun _ => ?_) (fun h => nomatch h)
    · refine evB_bop (evAnd_cons (b := true) (q := true) ?_ fun _ => evAnd_cons (b := true) (q := true) ?_ fun _ => evAnd_cons (b := true) (q := true) ?_ fun _ => evAnd_nil)
      · exact evB_eq (evB_cmp (L ok) (ev_tx []) op_ne_str) (by simp [h0])
      · exact evB_eq (evB_cmp (ev_slice (L ok) evO_none (evO_some ev_int) hasT_str PySem.F.slot_str_getitem.lookup (opS_to (l := hdrText l) (a := 6) (by omega) (by omega))) (ev_tx [61, 63, 120, 63, 113, 63]) op_eq_str) (by rw [eh]; rfl)
      · refine evB_eq (evB_cmp (ev_slice (L ok) (evO_some (ev_un ev_int op_neg_int)) evO_none hasT_str PySem.F.slot_str_getitem.lookup (opS_neg (l := hdrText l) ((hdrText l).length - 2) (by omega) (by decide) (by omega))) (ev_tx [63, 61]) op_eq_str) ?_
        have : (hdrText l).drop ((hdrText l).length - 2) = [63, 61] := by
          rw [hlen, eh, ← List.append_assoc]
          exact List.drop_left' (by simp)
        rw [this]; rfl
    · refine x_ret (d := st ((l.map hdrEnc).flatten)) (ev_as (ev_slice (L ok) (evO_some ev_int) (evO_some (ev_un ev_int op_neg_int)) hasT_str PySem.F.slot_str_getitem.lookup (opS_mid (l := hdrText l) (a := 6) ((hdrText l).length - 2) (by omega) (by decide) (by omega) (by omega) (by omega))) fun h v q => ?_) fun v s F b r => ⟨v, rfl, b, F.toSt, r⟩
      have : ((hdrText l).drop 6).take ((hdrText l).length - 2 - 6) = (l.map hdrEnc).flatten := by
        rw [hlen, eh, List.drop_left' (by rfl)]
        exact List.take_left' (by omega)
      rw [this] at q
      exact q
end Mine
end

section
open PySem PySem.W PyProof.Rows PySem.Calls
namespace Mine
section
variable {c : Cx} {n : Nat} {ρ κ : Loc} {Q : Flow → Shared → Prop}
theorem forRange {x : Str} {px : Pos} {f e : Expr} {body rest : List Stmt} {cpos pos : Pos} {N : Nat} {s : Shared} (ok : c.Ok n) (hN : N ≤ 100000) (hf : Ev c ρ κ f (.val (.type "range"))) (he : EvL c ρ κ [e] [.int N])
    (F : FrD c ρ κ s.heap)
    (run : ∀ (s2 : Shared) (I : Addr), Kp s s2 → s.heap.get? I = none → (∃ o, s2.heap.get? I = some o) → ∃ J : Nat → Shared → Prop, J 0 s2 ∧
      (∀ i (s' : Shared) v h tk, i < N → J i s' → Rep c.P h (.int i) v → (∃ o, s'.heap.get? I = some o ∧ ¬ SeqO o) → (∃ o, h.get? I = some o ∧ ¬ SeqO o) → (∀ b o, b ≠ I → s'.heap.get? b = some o → h.get? b = some o) →
        wpAny c.W.M c.A (assign (.Name x px) c.env v) (fun _ s₂ => wpAny c.W.M c.A (execs body c.env) (fun f s₃ => f = .next ∧ J (i + 1) s₃ ∧ (∀ o, h.get? I = some o → s₃.heap.get? I = some o)) NoE s₂) NoE { s' with heap := h, toks := tk }) ∧
      (∀ (s' : Shared) h tk, J N s' → (∃ o, s'.heap.get? I = some o ∧ ¬ SeqO o) → (∀ b o, b ≠ I → s'.heap.get? b = some o → h.get? b = some o) → wpAny c.W.M c.A (execs rest c.env) Q NoE { s' with heap := h, toks := tk }))
    (hc : eval (.Call f [e] [] cpos) c.env = (do callWith cpos (← eval f c.env) [] (backTo cpos (starEach [e] c.env)) (backToKw cpos (keywordEach [] c.env))) := by rfl)
    (hp : ∃ x r, backTo cpos (starEach [e] c.env) = (false, x) :: r := by exact ⟨_, _, rfl⟩) (hq : (backTo cpos (starEach [e] c.env)).any (·.1) = false := by rfl)
    (hs : ∀ x, foldedSetIterable (.Call f [e] [] cpos) c.env x = pure x := by intro _; rfl) :
    wpAny c.W.M c.A (execs (.For (.Name x px) (.Call f [e] [] cpos) body [] pos :: rest) c.env) Q NoE s := by
  refine wpAny_execs_cons (wpAny_For ?_ hs)
  rw [hc]
  refine wpAny_bind (noE (hf.go s F) fun v s1 ⟨k1, r1⟩ => ?_)
  obtain rfl := rep_val.mp r1
  refine callWith_of (P := fun h => St c h) (by show ((backTo cpos (starEach [e] c.env)).any (·.1) || false) = false; rw [hq]; rfl) keeps_type ?_
  refine noE (evalArgs_D he (F.on k1.stays) hp) fun a s2 ⟨e, k2, r2⟩ => ⟨((F.on k1.stays).on k2.stays).toSt, ?_⟩
  rw [e]
  obtain ⟨v, r', e2, r3, r4⟩ := repL_cons.mp r2
  obtain rfl := repL_nil.mp r4
  obtain ⟨t, rfl⟩ := rep_int.mp r3
  rw [e2]
  show wpAny _ _ (call (.type "range") [.int (N : Int) t]) _ _ _
  refine call_range_1 ?_
  have kk := k1.trans k2
  generalize hH : s2.heap.push { cls := .type "range", data := .fields #[.int 0 s2.toks, .int (N : Int) t, .int 1 (s2.toks + 1)] } = H
  have hr : IsRange H s2.heap.objs.size 0 (N : Int) 1 s2.toks t (s2.toks + 1) := by rw [← hH]; exact Heap.get?_push_size _ rfl
  have k3 : Stays s2.heap H := by rw [← hH]; exact stays_push _ _
  refine wpAny_pyIter_range hr (range_small hN) ?_
  dsimp only
  have gI : (H.push { cls := .type "range_iterator", data := .fields #[rawInt 0, rawInt (Builtin.Range.rangeSize 0 (N : Int) 1), rawInt 1] }).get? H.objs.size = some { cls := .type "range_iterator", data := .fields #[rawInt 0, rawInt (Builtin.Range.rangeSize 0 (N : Int) 1), rawInt 1] } := Heap.get?_push_size _ rfl
  have hI0 : s.heap.get? H.objs.size = none := by
    cases q : s.heap.get? H.objs.size with
    | none => rfl
    | some o => exact absurd (Heap.lt_size (k3 _ o (kk.stays _ o q))) (Nat.lt_irrefl _)
  have k4 : Stays s2.heap (H.push { cls := .type "range_iterator", data := .fields #[rawInt 0, rawInt (Builtin.Range.rangeSize 0 (N : Int) 1), rawInt 1] }) := fun b o e => stays_push _ _ b o (k3 b o e)
  generalize hH2 : H.push { cls := .type "range_iterator", data := .fields #[rawInt 0, rawInt (Builtin.Range.rangeSize 0 (N : Int) 1), rawInt 1] } = H2 at *
  generalize hI : H.objs.size = I at *
  rw [range_size] at gI
  obtain ⟨J, j0, turn, done⟩ := run { s2 with heap := H2, toks := s2.toks + 1 + 1 } I (kk.trans (kp_both s2 k4)) hI0 ⟨_, gI⟩
  have W := Walks.range (prog := c.W.prog) (w := c.W.w) (A := c.A) ok.rm.hd I 0 1 N
  have st0 : IsRangeIter H2 I (0 + ((0 : Nat) : Int) * 1) ((N : Int) - ((0 : Nat) : Int)) 1 := by
    rw [show (0 + ((0 : Nat) : Int) * 1) = 0 by omega, show ((N : Int) - ((0 : Nat) : Int)) = (N : Int) by omega]
    exact gI
  have Ins : ∀ {h : Heap} {a b c : Int}, IsRangeIter h I a b c → ∃ o, h.get? I = some o ∧ ¬ SeqO o := fun q => ⟨_, q, fun ⟨vs, n, q⟩ => by cases q⟩
  refine codeAny_forLoop_any (fun k s' => ∃ j : Nat, J j s' ∧ IsRangeIter s'.heap I (0 + (j : Nat) * 1) ((N : Int) - (j : Nat)) 1 ∧ j ≤ N ∧ k = N + 1 - j) ?_ (N + 1) ⟨0, j0, st0, Nat.zero_le _, rfl⟩
  rintro k s' ⟨j, hJ, hst, hj, rfl⟩
  by_cases hlt : j < N
  · refine W.item j s' _ _ hlt hst fun v h1 tk1 hPv hst1 hk1 => ?_
    refine plain_go (s := { s' with heap := h1, toks := tk1 }) ⟨_, _, hst1, rfl, rfl⟩ ?_
    obtain ⟨tv, rfl⟩ := hPv
    refine noE (turn j s' _ h1 tk1 hlt hJ (rep_int.mpr ⟨tv, by simp⟩) (Ins hst) (Ins hst1) fun b o hb e => hk1 b o (fun hm => hb (List.mem_singleton.mp hm)) e) fun _ s3 h3 => noE h3 fun f s4 ⟨e4, J4, k4⟩ => ?_
    subst e4
    exact ⟨N + 1 - (j + 1), turn_lt hlt, j + 1, J4, k4 _ hst1, hlt, rfl⟩
  · have hjN : j = N := Nat.le_antisymm hj (Nat.le_of_not_lt hlt)
    subst hjN
    refine W.done s' _ _ hst fun h1 tk1 hk1 => ?_
    exact wpAny_execs_nil (done s' h1 tk1 hJ (Ins hst) fun b o hb e => hk1 b o (fun hm => hb (List.mem_singleton.mp hm)) e)
theorem x_newlist2 {x : Str} {px pos pos2 spos : Pos} {rest : List Stmt} (ok : c.Ok n) (ow : OwnL c) (hk : c.env.kindOf x = some .local)
    (h : ∀ (s : Shared) (e a : Addr), c.P e → c.P a → c.h₀.get? e = none → c.h₀.get? a = none → e ≠ c.env.locals → a ≠ c.env.locals → e ≠ a → FrD (c.sub [e, a]) ((x, .val (.ref e)) :: ρ) κ s.heap → From c s → s.heap.PlainList e #[.ref a] → s.heap.PlainList a #[] → wpAny c.W.M c.A (execs rest c.env) Q NoE s)
    (hs : swapsWith (.List [.List [] pos2] pos) (some (.Name x px)) spos.line c.env = pure false := by rfl)
    (he : starEach [.List [] pos2] c.env = (false, eval (.List [] pos2) c.env) :: starEach [] c.env := by rfl) :
    Xs c ρ κ (.Assign [.Name x px] (.List [.List [] pos2] pos) spos :: rest) Q := ⟨fun s F b => by
  refine wpAny_execs_cons (wpAny_Assign_Name (List_ (args_cons (List_ (wpAny_pure (wpAny_newObj_type (args_nil (wpAny_newObj_type ?_ (by show (#[Value.ref s.heap.objs.size] : Array Value).size ≤ sizeLine; exact sizeLine_ge (by simp))))))) he)) hs)
  generalize hH : s.heap.push { cls := .type "list", data := .seq ([] : List Value).toArray } = H
  have hn : s.heap.get? s.heap.objs.size = none := Heap.get?_none_of_le (Nat.le_refl _)
  have g : H.get? s.heap.objs.size = some { cls := .type "list", data := .seq ([] : List Value).toArray } := by rw [← hH]; exact Heap.get?_push_size _ rfl
  have k1 : Stays s.heap H := by rw [← hH]; exact stays_push _ _
  have hn2' : H.get? H.objs.size = none := Heap.get?_none_of_le (Nat.le_refl _)
  have hn2 : s.heap.get? H.objs.size = none := by
    cases q : s.heap.get? H.objs.size with
    | none => rfl
    | some o => rw [k1 _ o q] at hn2'; cases hn2'
  show wpAny _ _ _ _ _ { s with heap := H.push { cls := .type "list", data := .seq #[.ref s.heap.objs.size] } }
  have g2 : (H.push { cls := .type "list", data := .seq #[.ref s.heap.objs.size] }).get? H.objs.size = some { cls := .type "list", data := .seq #[.ref s.heap.objs.size] } := Heap.get?_push_size _ rfl
  have g3 := stays_push H { cls := .type "list", data := .seq #[.ref s.heap.objs.size] } _ _ g
  have hne : H.objs.size ≠ s.heap.objs.size := fun e => by rw [e, g] at hn2'; cases hn2'
  have F1 : FrD (c.sub [H.objs.size, s.heap.objs.size]) ρ κ (H.push { cls := .type "list", data := .seq #[.ref s.heap.objs.size] }) := F.subOn (fun b o e => stays_push _ _ b o (k1 b o e)) fun a ha => by
    rcases List.mem_cons.mp ha with rfl | ha
    · exact ⟨hn2, _, g2⟩
    · rw [List.mem_singleton.mp ha]; exact ⟨hn, _, g3⟩
  have hL := fresh_loc F hn
  have hL2 := fresh_loc F hn2
  refine store_loc (c := c.sub [H.objs.size, s.heap.objs.size]) (s := { s with heap := H.push { cls := .type "list", data := .seq #[.ref s.heap.objs.size] } }) (sub_ok ok) ow F1 (d := .val (.ref H.objs.size)) (rep_val.mpr rfl) hk fun h' tk F2 hs2 => ?_
  exact h _ _ _ (F.new _ hn2) (F.new _ hn) (fresh_h0 F hn2) (fresh_h0 F hn) hL2 hL hne F2 (b.set _ _) ⟨_, hs2.extBut _ _ hL2 g2⟩ ⟨_, hs2.extBut _ _ hL g3⟩⟩
theorem evR_newlist {pos : Pos} : EvR c ρ κ (.List [] pos) (fun s v s' => ∃ a, v = .ref a ∧ s'.heap.PlainList a #[] ∧ s.heap.get? a = none) := fun s F =>
  List_ (wpAny_pure (wpAny_newObj_type ⟨kp_heap s (stays_push _ _), _, rfl, ⟨_, Heap.get?_push_size _ rfl⟩, Heap.get?_none_of_le (Nat.le_refl _)⟩))
theorem x_appendNew {o : Expr} {lpos apos pos p : Pos} {rest : List Stmt} {e : Addr} {items : Array Value} {pl : Sem Bool} (ok : c.Ok n) (hcP : ¬ c.P e) (hsz : items.size ≤ 1000) (hp : c.h₀.PlainList e items)
    (hf : Ev c ρ κ o (.val (.ref e)))
    (h : ∀ (s : Shared) (a : Addr), c.P a → c.h₀.get? a = none → a ≠ e → a ≠ c.env.locals → FrD ((c.sub [a]).off e) ρ κ s.heap → From c s → s.heap.PlainList e (items.push (.ref a)) → s.heap.PlainList a #[] → wpAny c.W.M c.A (execs rest c.env) Q NoE s)
    (he : eval (.Call (.Attribute o "append" apos) [.List [] lpos] [] pos) c.env = (do
      let ov ← eval o c.env
      standAt apos.atName
      let (f, first) ← holding [ov] (getMethod ov "append" pl)
      callWith pos f first (backTo pos (starEach [.List [] lpos] c.env)) []) := by rfl)
    (hss : starEach [.List [] lpos] c.env = (false, eval (.List [] lpos) c.env) :: starEach [] c.env := by rfl)
    (hpp : ∃ x r, backTo pos (starEach [.List [] lpos] c.env) = (false, x) :: r := by exact ⟨_, _, rfl⟩) (hq : (backTo pos (starEach [.List [] lpos] c.env)).any (·.1) = false := by rfl)
    (hi : interactive c.env = false := by rfl) (hs : swapsWith (.Call (.Attribute o "append" apos) [.List [] lpos] [] pos) none p.line c.env = pure false := by rfl) :
    Xs c ρ κ (.Expr (.Call (.Attribute o "append" apos) [.List [] lpos] [] pos) p :: rest) Q := ⟨fun s F b => by
  refine wpAny_execs_cons (wpAny_Expr_any ?_ hi hs)
  obtain ⟨k0, hp0⟩ := hp
  refine MethodCall_ (pl := pl) (noE (hf.go s F) fun v s1 ⟨k1, r1⟩ => ?_) he
  obtain rfl := rep_val.mp r1
  have F1 := F.on k1.stays
  refine getMethod_list_append (F1.keep _ _ hp0) rfl rfl ?_
  refine callWith_of (P := fun h => St c h) (by show ((backTo pos (starEach [.List [] lpos] c.env)).any (·.1) || false) = false; rw [hq]; rfl) keeps_blt ?_
  have key := evRL_one (c := c) (ρ := ρ) (κ := κ) (evR_newlist (pos := lpos)) hss pos s1 F1
  obtain ⟨x, r, ex⟩ := hpp
  rw [ex] at key ⊢
  refine evalArgs_plain (noE key fun vs s2 ⟨k2, v, e1, a, e2, ha, ha0⟩ => ⟨(F1.on k2.stays).toSt, ?_⟩)
  subst e1; subst e2
  obtain ⟨ka, ha'⟩ := ha
  have F2 : FrD (c.sub [a]) ρ κ s2.heap := F1.subOn k2.stays fun b hb => by rw [List.mem_singleton.mp hb]; exact ⟨ha0, _, ha'⟩
  have hL := fresh_loc F1 ha0
  have hne : a ≠ e := fun q => by
    have := F1.keep _ _ hp0
    rw [← q, ha0] at this; cases this
  have hp2 : s2.heap.PlainList e items := ⟨k0, F2.keep _ _ hp0⟩
  show wpAny _ _ (call (.builtin "list.append") [.ref e, .ref a]) _ _ _
  refine wpAny_list_append_plain (hsz := sizeLine_ge (by omega)) hp2 fun h' hp' hs' => ?_
  exact h _ a (F1.new _ ha0) (fresh_h0 F1 ha0) hne hL (off_of F2 (fun q => hcP q.1) hp2 hp' hs') (((b.on k1).on k2).seth _) hp' ⟨ka, hs'.extBut _ _ hne ha'⟩⟩
end
end Mine
end

section
open PySem PySem.W PyProof.Rows PySem.Calls
namespace Mine
noncomputable def plainW (way k : Nat) (last : Bool) : Bool :=
  if way = 1 then ((32 ≤ k && k ≤ 126 && k != 61) || k == 9) && (!last || !(k == 32 || k == 9)) else isAlnum k || k == 45 || k == 33 || k == 42 || k == 43
noncomputable def codeW (way k : Nat) (last : Bool) : List Nat := if way = 0 ∧ k = 32 then [95] else if way < 2 ∧ plainW way k last = true then [k] else esc k
noncomputable def stepN (way : Nat) (ns : List (List Sg)) (k : Nat) (last : Bool) : List (List Sg) :=
  if k = 47 then ns ++ [[]] else ns.dropLast ++ [ns.getLastD [] ++ [(k, codeW way k last)]]
noncomputable def namesI (way : Nat) (l : List Nat) : Nat → List (List Sg)
  | 0 => [[]]
  | i + 1 => stepN way (namesI way l i) (l.getD i 0) (decide (i + 1 = l.length))
theorem namesI_ne (way : Nat) (l : List Nat) : ∀ i, namesI way l i ≠ []
  | 0 => by simp [namesI]
  | i + 1 => by unfold namesI stepN; split <;> simp
theorem namesI_len (way : Nat) (l : List Nat) : ∀ i, (namesI way l i).length ≤ i + 1
  | 0 => by simp [namesI]
  | i + 1 => by
    have := namesI_len way l i
    have h0 := List.length_pos_iff.mpr (namesI_ne way l i)
    unfold namesI stepN; split <;> simp <;> omega
theorem namesI_mem (way : Nat) (l : List Nat) : ∀ i, ∀ m ∈ namesI way l i, m.length ≤ i
  | 0, m, h => by simp [namesI] at h; simp [h]
  | i + 1, m, h => by
    have ih := namesI_mem way l i
    unfold namesI stepN at h
    split at h
    · rcases List.mem_append.mp h with h | h
      · have := ih m h; omega
      · rw [List.mem_singleton.mp h]; simp
    · rcases List.mem_append.mp h with h | h
      · have := ih m (List.dropLast_subset _ h); omega
      · rw [List.mem_singleton.mp h]
        have h1 : (namesI way l i).getLastD [] ∈ namesI way l i := by
          rw [List.getLastD_eq_getLast?]
          cases q : (namesI way l i).getLast? with
          | none => exact absurd (List.getLast?_eq_none_iff.mp q) (namesI_ne way l i)
          | some x => exact List.mem_of_getLast? q
        have := ih _ h1
        rw [List.length_append, List.length_singleton]; omega
structure Own2 (P : Addr → Prop) (h : Heap) (N : Addr) (as : List Addr) (ns : List (List Sg)) : Prop where
  top : h.PlainList N (as.map Value.ref).toArray
  len : as.length = ns.length
  at' : ∀ (j : Nat) (a : Addr) (m : List Sg), as[j]? = some a → ns[j]? = some m → ∃ items, h.PlainList a items ∧ RepL P h (m.map encS) items.toList
theorem Own2.on {P P' : Addr → Prop} {h h' : Heap} {N : Addr} {as : List Addr} {ns : List (List Sg)} (o : Own2 P h N as ns) (hk : ∀ b ob, h.get? b = some ob → SeqO ob → (b ∈ N :: as ∨ P b) → h'.get? b = some ob) (hP : ∀ b ob, P b → h.get? b = some ob → P' b) : Own2 P' h' N as ns where
  top := by
    obtain ⟨k, hp⟩ := o.top
    exact ⟨k, hk _ _ hp ⟨_, _, rfl⟩ (.inl (.head _))⟩
  len := o.len
  at' := fun j a m h1 h2 => by
    obtain ⟨items, ⟨k, hp⟩, hr⟩ := o.at' j a m h1 h2
    exact ⟨items, ⟨k, hk _ _ hp ⟨_, _, rfl⟩ (.inl (.tail _ (List.mem_of_getElem? h1)))⟩, hr.mono fun b ob pb hb hs => ⟨hP b ob pb hb, hk b ob hb hs (.inr pb)⟩⟩
theorem Own2.rep {P P' : Addr → Prop} {h : Heap} {N : Addr} {as : List Addr} {ns : List (List Sg)} (o : Own2 P h N as ns) (hP : ∀ b, P b → P' b) (hN : P' N) (has : ∀ a ∈ as, P' a) : Rep P' h (encR ns) (.ref N) := by
  refine rep_list.mpr ⟨N, _, rfl, hN, o.top.isList, ?_⟩
  refine repL_of_at (by simp [o.len]) fun j v d h1 h2 => ?_
  have h1' : (as.map Value.ref)[j]? = some v := by simpa using h1
  rw [List.getElem?_map] at h1' h2
  obtain ⟨a, ha, rfl⟩ := Option.map_eq_some_iff.mp h1'
  obtain ⟨m, hm, rfl⟩ := Option.map_eq_some_iff.mp h2
  obtain ⟨items, hp, hr⟩ := o.at' j a m ha hm
  exact rep_list.mpr ⟨a, items, rfl, has a (List.mem_of_getElem? ha), hp.isList, hr.mono fun b ob pb hb _ => ⟨hP b pb, hb⟩⟩
theorem ev_eqb {c : Cx} {ρ κ : Loc} {e : Expr} {b b' : Bool} (h : Ev c ρ κ e (bo b)) (hb : b = b') : Ev c ρ κ e (bo b') := hb ▸ h
end Mine
end

section
open PySem PySem.W PyProof.Rows PySem.Calls
namespace Mine
noncomputable abbrev Ends (c : Cx) (ρ κ : Loc) : Flow → Shared → Prop := fun f s => f = .next ∧ FrD c ρ κ s.heap ∧ From c s
theorem x_ends {c : Cx} {ρ κ ρ' κ' : Loc} (h1 : Sub ρ' ρ) (h2 : Sub κ' κ) : Xs c ρ κ [] (Ends c ρ' κ') := x_nil fun s F b => ⟨rfl, F.weak h1 h2, b⟩
theorem x_ifJ {c : Cx} {ρ κ : Loc} (ρ' κ' : Loc) {t : Expr} {body orelse rest : List Stmt} {pos : Pos} {q : Bool} {Q : Flow → Shared → Prop} (ht : EvB c ρ κ t q) (h1 : q = true → Xs c ρ κ body (Ends c ρ' κ')) (h2 : q = false → Xs c ρ κ orelse (Ends c ρ' κ')) (hr : Xs c ρ' κ' rest Q) : Xs c ρ κ (.If t body orelse pos :: rest) Q :=
  x_if ht (fun h => ⟨fun s F b => noE ((h1 h).go s F b) fun f s1 ⟨e, F1, b1⟩ => by subst e; exact hr.go s1 F1 b1⟩) (fun h => ⟨fun s F b => noE ((h2 h).go s F b) fun f s1 ⟨e, F1, b1⟩ => by subst e; exact hr.go s1 F1 b1⟩)
theorem hex_at : ∀ m, m < 16 → ([48, 49, 50, 51, 52, 53, 54, 55, 56, 57, 65, 66, 67, 68, 69, 70] : List Nat)[m]? = some (hexd m) := by decide
theorem c_ord' {c : Cx} {k : Nat} : CallD c (.builtin "ord") [st [k]] (.int k) := c_ord
theorem codeW_at (way k : Nat) (last : Bool) : (codeW way k last)[0]? = some ((codeW way k last).headD 0) ∧ (codeW way k last).length ≤ 3 := by
  unfold codeW esc
  split
  · exact ⟨rfl, by decide⟩
  · split
    · exact ⟨rfl, by simp⟩
    · exact ⟨rfl, by simp⟩
inductive NmI (c0 : Cx) (N : Addr) (l : List Nat) (way i : Nat) (s' : Shared) : Prop
  | mk (as : List Addr) (F : FrD (c0.sub (N :: as)) [("names", .val (.ref N)), ("text", st l), ("way", .int way)] [] s'.heap) (b : From c0 s') (o : Own2 (c0.sub (N :: as)).P s'.heap N as (namesI way l i)) (nd : (N :: as).Nodup)
    (hS : ∀ a ∈ N :: as, c0.P a ∧ c0.h₀.get? a = none ∧ a ≠ c0.env.locals) : NmI c0 N l way i s'
theorem pl0 : ∀ k, k < 256 → (!decide (([k] : List Nat) < [97]) && !decide ([122] < [k]) || (!decide ([k] < [65]) && !decide ([90] < [k]) || (!decide ([k] < [48]) && !decide ([57] < [k]) || decide (k ∈ [45, 33, 42, 43])))) = (isAlnum k || k == 45 || k == 33 || k == 42 || k == 43) := by decide +kernel
theorem pl1 : ∀ b : Bool, ∀ k, k < 256 → ((!decide (([k] : List Nat) < [32]) && !decide ([126] < [k]) && [k] != [61] || [k] == [9]) && (!b || !decide (k ∈ [32, 9]))) = plainW 1 k b := by decide +kernel
set_option maxHeartbeats 0 in
theorem c_names {c : Cx} {n : Nat} (ok : c.Ok (n + 1)) {l : List Nat} (hl : Oct l) {way : Nat} (hw : way < 3) : CallD c (.ref 199) [st l, .int way] (encR (namesI way l l.length)) := by
  refine call_defL ok k199 b199 c199 s199 (binds2 (a199 _)) (two_local rfl rfl) (by show ([("text" : Str), "way"] : List Str).Nodup; decide) fun s x ok => ?_
  have own : OwnL (c.into (fdOf c.W.w.params 199) 199 s) := into_own
  have oc : OwnC (c.into (fdOf c.W.w.params 199) 199 s) := ownC_nil rfl
  have hll := hl.len
  refine x_newlist2 ok own rfl fun s1 N A0 hPN hPA hN0 hA0 hNL hAL hNA F1 b1 hpN hpA => ?_
  let c0 := c.into (fdOf c.W.w.params 199) 199 s
  refine forRange (c := c0.sub [N, A0]) (N := l.length) (sub_ok ok) (by omega) (Bl (sub_ok ok) g_range bt_range) (evL_cons (ev_call (Bl (sub_ok ok) g_len bt_len) (evL_cons (L (sub_ok ok) (d := st l)) evL_nil) keeps_blt (c_len_str (by omega))) evL_nil) F1 fun s2 I k2 hI0 hI2 => ?_
  refine ⟨fun i s' => NmI c0 N l way i s', ?_, ?_, ?_⟩
  · refine ⟨[A0], F1.on k2.stays, b1.on k2, ⟨?_, rfl, fun j a m h1 h2 => ?_⟩, by simpa using hNA, fun a ha => ?_⟩
    · obtain ⟨k, hp⟩ := hpN
      exact ⟨k, k2.stays _ _ hp⟩
    · cases j with
      | zero =>
        simp [namesI] at h1 h2
        subst h1; subst h2
        obtain ⟨k, hp⟩ := hpA
        exact ⟨#[], ⟨k, k2.stays _ _ hp⟩, repL_nil.mpr rfl⟩
      | succ j => simp at h1
    · rcases List.mem_cons.mp ha with rfl | ha
      · exact ⟨hPN, hN0, hNL⟩
      · rw [List.mem_singleton.mp ha]; exact ⟨hPA, hA0, hAL⟩
  · rintro i s' v h tk hi ⟨as, F, b, o, nd, hS⟩ rv hIs hIh hk
    have hIN : I ∉ N :: as := fun hm => by
      obtain ⟨oi, h1, h2⟩ := hIs
      rcases List.mem_cons.mp hm with rfl | hm
      · obtain ⟨k, hp⟩ := o.top
        rw [hp] at h1; cases h1; exact h2 ⟨_, _, rfl⟩
      · obtain ⟨j, hj, ej⟩ := List.getElem_of_mem hm
        have hj2 : j < (namesI way l i).length := by rw [← o.len]; exact hj
        obtain ⟨items, ⟨k, hp⟩, _⟩ := o.at' j I _ (by rw [List.getElem?_eq_getElem hj, ej]) (List.getElem?_eq_getElem hj2)
        rw [hp] at h1; cases h1; exact h2 ⟨_, _, rfl⟩
    have hIP : c0.P I := (F1.new I hI0).1
    have hI00 : c0.h₀.get? I = none := fresh_h0 (c := c0.sub [N, A0]) F1 hI0
    have hIL : I ≠ c0.env.locals := fresh_loc (c := c0.sub [N, A0]) F1 hI0
    have F' : FrD (c0.sub (N :: as)) [("names", .val (.ref N)), ("text", st l), ("way", .int way)] [] h := F.iter (wr := [I]) (fun b hb => by
      rw [List.mem_singleton.mp hb]; exact ⟨⟨hIP, hIN⟩, hI00, fun hm => hIL (List.mem_singleton.mp hm)⟩) (fun b hb => by rw [List.mem_singleton.mp hb]; exact hIs) fun b ob hb e => hk b ob (fun q => hb (by rw [q]; exact .head _)) e
    have o' : Own2 (c0.sub (N :: as)).P h N as (namesI way l i) := o.on (fun b ob hb hs _ => hk b ob (fun q => by
      obtain ⟨oi, h1, h2⟩ := hIs
      rw [← q, hb] at h1; cases h1; exact h2 hs) hb) fun _ _ p _ => p
    have ocS : OwnC (c0.sub (N :: as)) := ⟨oc.apart, oc.own⟩
    let ct := (c0.sub (N :: as)).hid h []
    have okt : ct.Ok n := hids_ok (c := c0.sub (N :: as)) (sub_ok ok) own ocS (fun a ha => by cases ha) F'.keep
    have owt : OwnL ct := hids_own
    have hst0 : Stays c0.h₀ ct.h₀ := hids_keep (c := c0.sub (N :: as)) own ocS (fun a ha => by cases ha) F'.keep
    have hct : ∀ b ob, b ≠ c0.env.locals → h.get? b = some ob → ct.h₀.get? b = some ob := fun b ob hb e => hids_at e (by simp) fun hm => hb (List.mem_singleton.mp hm)
    have rv' : Rep ct.P h (.int i) v := rep_int.mpr (rep_int.mp rv)
    refine noE (asg_loc (c := ct) okt owt rfl { s' with heap := h, toks := tk } v (hids_fr F') rv') fun _ s3 ⟨F3, ⟨h3, tk3, e3⟩, k3⟩ => ?_
    subst e3
    obtain ⟨k, hkl⟩ : ∃ k, l[i]? = some k := ⟨_, List.getElem?_eq_getElem hi⟩
    have hkm := hl.oct k (List.mem_of_getElem? hkl)
    refine (?_ : Xs ct _ [] _ _).go _ F3 ((b.set h tk).set h3 tk3)
    refine x_asg okt owt rfl (d := st [k]) (ev_sub (L okt) (L okt) hasT_str PySem.F.slot_str_getitem.lookup (op_item_str (k := k) (by omega) (by simpa using hkl) (by omega))) ?_
    refine x_asg (by exact okt) (by exact owt) (by rfl) (d := bo (isAlnum k || k == 45 || k == 33 || k == 42 || k == 43)) (ev_eqb (by exact ev_bop (by exact evBo_or (by exact ev_cmp2 (by exact ev_tx [97]) (by exact L okt) (by exact ev_tx [122]) (by exact op_le_str) (by exact op_le_str)) (by exact fun _ => evBo_or (by exact ev_cmp2 (by exact ev_tx [65]) (by exact L okt) (by exact ev_tx [90]) (by exact op_le_str) (by exact op_le_str)) (by exact fun _ => evBo_or (by exact ev_cmp2 (by exact ev_tx [48]) (by exact L okt) (by exact ev_tx [57]) (by exact op_le_str) (by exact op_le_str)) (by exact fun _ => evBo_one (by exact ev_cmp (by exact L okt) (by exact ev_tx [45, 33, 42, 43]) (by exact op_in_str))))))) ?_) ?_
    · exact pl0 k hkm.1
    refine x_ifJ (by exact [("plain", bo (plainW way k (decide (i + 1 = l.length)))), ("sign", st [k]), ("k", .int i), ("names", .val (.ref N)), ("text", st l), ("way", .int way)]) (by exact []) (by exact evB_cmp (L okt) ev_int op_eq_int) ?aq1 ?bq1 ?cq1
    · intro h1
      have e : way = 1 := by have : (way : Int) = 1 := by simpa using h1
                             omega
      subst e
      refine x_asg (by exact okt) (by exact owt) (by rfl) (d := bo (plainW 1 k (decide (i + 1 = l.length)))) (ev_eqb (by exact ev_bop (by exact evBo_and (by exact ev_bop (by exact evBo_or (by exact ev_bop (by exact evBo_and (by exact ev_cmp2 (by exact ev_tx [32]) (by exact L okt) (by exact ev_tx [126]) (by exact op_le_str) (by exact op_le_str)) (by exact fun _ => evBo_one (by exact ev_cmp (by exact L okt) (by exact ev_tx [61]) (by exact op_ne_str))))) (by exact fun _ => evBo_one (by exact ev_cmp (by exact L okt) (by exact ev_tx [9]) (by exact op_eq_str))))) (by exact fun _ => evBo_one (by exact ev_bop (by exact evBo_or (by exact ev_cmp (by exact ev_bin (by exact L okt) (by exact ev_int) (by exact op_add_int)) (by exact ev_call (by exact Bl okt g_len bt_len) (by exact evL_cons (by exact L okt) (by exact evL_nil)) (by exact keeps_blt) (by exact c_len_str (by omega))) (by exact op_lt_int)) (by exact fun _ => evBo_one (by exact ev_cmp (by exact L okt) (by exact ev_tx [32, 9]) (by exact op_notin_str)))))))) ?_) (by exact x_ends (sub_cons rfl (sub_cons rfl (sub_cons rfl (sub_cons rfl (sub_cons rfl (sub_cons rfl sub_nil)))))) sub_nil)
      have eb : decide ((i : Int) + 1 < (l.length : Int)) = !decide (i + 1 = l.length) := by
        by_cases q : i + 1 = l.length
        · rw [decide_eq_true q]; exact decide_eq_false (by omega)
        · rw [decide_eq_false q]; exact decide_eq_true (by omega)
      rw [eb]; exact pl1 _ k hkm.1
    · intro h1
      have e : way ≠ 1 := fun e => by subst e; exact absurd h1 (by decide)
      have e2 : plainW way k (decide (i + 1 = l.length)) = (isAlnum k || k == 45 || k == 33 || k == 42 || k == 43) := by unfold plainW; rw [if_neg e]
      rw [e2]
      exact x_ends (sub_cons rfl (sub_cons rfl (sub_cons rfl (sub_cons rfl (sub_cons rfl (sub_cons rfl sub_nil)))))) sub_nil
    have hd16 : ((k : Int).fdiv 16) = ((k / 16 : Nat) : Int) := fd k 16
    have hm16 : ((k : Int).fmod 16) = ((k % 16 : Nat) : Int) := fm k 16
    refine @x_asg _ _ _ _ _ _ _ _ _ _ (by exact st (esc k)) (by exact okt) (by exact owt) (by rfl) (by exact ev_bin (by exact ev_bin (by exact ev_tx [61]) (by exact ev_sub (d := by exact st [hexd (k / 16)]) (by exact ev_tx [48, 49, 50, 51, 52, 53, 54, 55, 56, 57, 65, 66, 67, 68, 69, 70]) (by exact ev_bin (by exact ev_call (by exact Bl okt g_ord bt_ord) (by exact evL_cons (by exact L okt) (by exact evL_nil)) (by exact keeps_blt) (by exact c_ord')) (by exact ev_int) (by exact op_div_int (by decide) (by decide))) (by exact hasT_str) (by exact PySem.F.slot_str_getitem.lookup) (by exact op_item_str (k := hexd (k / 16)) (by rw [hd16]; omega) (by rw [hd16]; exact hex_at _ (by omega)) (by decide))) (by exact op_add_str (by simp))) (by exact ev_sub (d := by exact st [hexd (k % 16)]) (by exact ev_tx [48, 49, 50, 51, 52, 53, 54, 55, 56, 57, 65, 66, 67, 68, 69, 70]) (by exact ev_bin (by exact ev_call (by exact Bl okt g_ord bt_ord) (by exact evL_cons (by exact L okt) (by exact evL_nil)) (by exact keeps_blt) (by exact c_ord')) (by exact ev_int) (by exact op_mod_int (by decide))) (by exact hasT_str) (by exact PySem.F.slot_str_getitem.lookup) (by exact op_item_str (k := hexd (k % 16)) (by rw [hm16]; omega) (by rw [hm16]; exact hex_at _ (Nat.mod_lt _ (by decide))) (by decide))) (by exact op_add_str (by simp))) ?_ (by rfl)
    refine x_ifJ (by exact [("code", st (codeW way k (decide (i + 1 = l.length)))), ("sign", st [k]), ("names", .val (.ref N)), ("text", st l), ("way", .int way)]) (by exact []) (by exact evAndV (evB_cmp (L okt) ev_int op_eq_int) fun _ => evB_cmp (L okt) (ev_tx [32]) op_eq_str) ?aq2 ?bq2 ?cq2
    · intro h1
      have e : way = 0 ∧ k = 32 := by
        rw [Bool.and_eq_true] at h1
        have h2 : (way : Int) = 0 := by simpa using h1.1
        exact ⟨by omega, by simpa using h1.2⟩
      have e2 : codeW way k (decide (i + 1 = l.length)) = [95] := by unfold codeW; rw [if_pos e]
      rw [e2]
      exact x_asg okt owt rfl (ev_tx [95]) (x_ends (sub_cons rfl (sub_cons rfl (sub_cons rfl (sub_cons rfl (sub_cons rfl sub_nil))))) sub_nil)
    · intro h1
      have e : ¬ (way = 0 ∧ k = 32) := fun e => by
        obtain ⟨rfl, rfl⟩ := e
        exact absurd h1 (by decide)
      refine x_ifJ (by exact [("code", st (codeW way k (decide (i + 1 = l.length)))), ("sign", st [k]), ("names", .val (.ref N)), ("text", st l), ("way", .int way)]) (by exact []) (by exact evAndV (evB_cmp (L okt) ev_int op_lt_int) fun _ => evB_val (L okt) opB_bool) ?aq3 ?bq3 (by exact x_ends (sub_cons rfl (sub_cons rfl (sub_cons rfl (sub_cons rfl (sub_cons rfl sub_nil))))) sub_nil)
      · intro h2
        have e3 : way < 2 ∧ plainW way k (decide (i + 1 = l.length)) = true := by
          rw [Bool.and_eq_true] at h2
          have := of_decide_eq_true h2.1
          exact ⟨by omega, h2.2⟩
        have e2 : codeW way k (decide (i + 1 = l.length)) = [k] := by unfold codeW; rw [if_neg e, if_pos e3]
        rw [e2]
        exact x_asg okt owt rfl (L okt) (x_ends (sub_cons rfl (sub_cons rfl (sub_cons rfl (sub_cons rfl (sub_cons rfl sub_nil))))) sub_nil)
      · intro h2
        have e3 : ¬ (way < 2 ∧ plainW way k (decide (i + 1 = l.length)) = true) := fun e3 => by
          rw [e3.2] at h2
          have : decide ((way : Int) < 2) = true := decide_eq_true (by omega)
          rw [this] at h2; cases h2
        have e2 : codeW way k (decide (i + 1 = l.length)) = esc k := by unfold codeW; rw [if_neg e, if_neg e3]
        rw [e2]
        exact x_ends (sub_cons rfl (sub_cons rfl (sub_cons rfl (sub_cons rfl (sub_cons rfl sub_nil))))) sub_nil
    have heq : namesI way l (i + 1) = stepN way (namesI way l i) k (decide (i + 1 = l.length)) := by
      rw [namesI, List.getD_eq_getElem?_getD, hkl]; rfl
    have oct' : Own2 (c0.sub (N :: as)).P ct.h₀ N as (namesI way l i) := o'.on (fun b ob hb hs hor => hct b ob (fun q => by
        obtain ⟨m, hn, _⟩ := F'.loc
        rw [q] at hb
        exact ns_not_seq hn ob hb hs) hb) fun _ _ p _ => p
    have hIct : ∀ oi, h.get? I = some oi → ct.h₀.get? I = some oi := fun oi e => hct I oi hIL e
    have hlen2 := namesI_len way l i
    refine x_if (evB_cmp (L okt) (ev_tx [47]) op_eq_str) (fun h1 => ?_) (fun h1 => ?_)
    · have e : k = 47 := by simpa using h1
      refine x_appendNew okt (fun hp => hp.2 (.head _)) (by rw [List.size_toArray, List.length_map, o.len]; omega) oct'.top (L okt) fun s4 a haP ha0 haN haL F4 b4 hp4 hpa => wpAny_execs_nil (wpAny_execs_nil ⟨rfl, ?_, fun oi e => ?_⟩)
      · have hah : h.get? a = none := by
          cases q : h.get? a with
          | none => rfl
          | some ob => rw [hct a ob haL q] at ha0; cases ha0
        have haS : a ∉ N :: as := fun hm => by
          rcases List.mem_cons.mp hm with rfl | hm
          · exact haN rfl
          · obtain ⟨j, hj, ej⟩ := List.getElem_of_mem hm
            have hj2 : j < (namesI way l i).length := by rw [← o.len]; exact hj
            obtain ⟨items, ⟨k, hp⟩, _⟩ := oct'.at' j a _ (by rw [List.getElem?_eq_getElem hj, ej]) (List.getElem?_eq_getElem hj2)
            rw [ha0] at hp; cases hp
        have ha00 : c0.h₀.get? a = none := by
          cases q : c0.h₀.get? a with
          | none => rfl
          | some ob => rw [hst0 a ob q] at ha0; cases ha0
        refine ⟨as ++ [a], ?_, b4, ?_, ?_, ?_⟩
        · have F5 : FrD ((c0.sub (N :: (as ++ [a]))).at (hideAll ct.h₀ [N])) _ [] s4.heap := FrD.wide (c := (ct.sub [a]).off N) F4 (P' := (c0.sub (N :: (as ++ [a]))).P) fun b pb => ⟨pb.1.1, fun hm => by
            rcases List.mem_cons.mp hm with q | hm
            · exact pb.1.2 (by rw [q]; exact .head _)
            · rcases List.mem_append.mp hm with hm | hm
              · exact pb.1.2 (.tail _ hm)
              · exact pb.2 hm⟩
          exact (F5.base (c := c0.sub (N :: (as ++ [a]))) (h₀ := hideAll ct.h₀ [N]) (keep_off hst0 hN0)).weak (sub_cons rfl (sub_cons rfl (sub_cons rfl sub_nil))) fun _ _ e => e
        · rw [heq]
          unfold stepN
          rw [if_pos e]
          have k4 : ∀ b ob, b ≠ N → ct.h₀.get? b = some ob → s4.heap.get? b = some ob := fun b ob hb q => F4.keep b ob (hideAll_get _ q fun hm => hb (List.mem_singleton.mp hm))
          refine ⟨?_, by simp [o.len], fun j a' m h1 h2 => ?_⟩
          · obtain ⟨kk, hp⟩ := hp4
            exact ⟨kk, by simpa using hp⟩
          · rcases Nat.lt_or_ge j as.length with hj | hj
            · rw [List.getElem?_append_left hj] at h1
              rw [List.getElem?_append_left (by rw [← o.len]; exact hj)] at h2
              obtain ⟨items, ⟨kk, hp⟩, hr⟩ := oct'.at' j a' m h1 h2
              have hm := List.mem_of_getElem? h1
              refine ⟨items, ⟨kk, k4 a' _ (fun q => ?_) hp⟩, hr.mono fun b ob pb hb hs => ⟨⟨pb.1, fun hm => ?_⟩, k4 b ob (fun q => pb.2 (by rw [q]; exact .head _)) hb⟩⟩
              · rw [q] at hm; exact (List.nodup_cons.mp nd).1 hm
              · rcases List.mem_cons.mp hm with q | hm
                · exact pb.2 (by rw [q]; exact .head _)
                · rcases List.mem_append.mp hm with hm | hm
                  · exact pb.2 (.tail _ hm)
                  · rw [List.mem_singleton.mp hm, ha0] at hb; cases hb
            · rw [List.getElem?_append_right hj] at h1
              rw [List.getElem?_append_right (by rw [← o.len]; exact hj)] at h2
              have hj0 : j - as.length = 0 := by
                cases q : j - as.length with
                | zero => rfl
                | succ _ => rw [q] at h1; simp at h1
              rw [hj0] at h1
              rw [← o.len, hj0] at h2
              simp at h1 h2
              subst h1; subst h2
              exact ⟨#[], hpa, repL_nil.mpr rfl⟩
        · rw [← List.cons_append]
          exact List.nodup_append.mpr ⟨nd, by simp, fun b hb d hd q => by rw [List.mem_singleton.mp hd] at q; exact haS (q ▸ hb)⟩
        · intro b hb
          rw [← List.cons_append] at hb
          rcases List.mem_append.mp hb with hb | hb
          · exact hS b hb
          · rw [List.mem_singleton.mp hb]; exact ⟨haP.1, ha00, haL⟩
      · exact F4.keep I oi (hideAll_get _ (hIct oi e) fun hm => hIN (by rw [List.mem_singleton.mp hm]; exact .head _))
    · have e : k ≠ 47 := by simpa using h1
      have hns := namesI_ne way l i
      have hpos : 0 < as.length := by rw [o.len]; exact List.length_pos_iff.mpr hns
      obtain ⟨A, hA⟩ : ∃ A, as[as.length - 1]? = some A := ⟨_, List.getElem?_eq_getElem (by omega)⟩
      obtain ⟨m, hm⟩ : ∃ m, (namesI way l i)[as.length - 1]? = some m := ⟨_, List.getElem?_eq_getElem (by rw [← o.len]; omega)⟩
      have hAm := List.mem_of_getElem? hA
      have hmm := List.mem_of_getElem? hm
      have hmlen := namesI_mem way l i m hmm
      obtain ⟨items, hpA', hrA⟩ := oct'.at' _ A m hA hm
      have hil : items.size = m.length := by have := hrA.length; simpa using this
      have hAN : A ≠ N := fun q => (List.nodup_cons.mp nd).1 (q ▸ hAm)
      have hAP : ¬ ct.P A := fun hp => hp.2 (.tail _ hAm)
      have ncat := codeW_at way k (decide (i + 1 = l.length))
      have topct := oct'.top
      refine x_append (d := by exact encS (k, codeW way k (decide (i + 1 = l.length)))) (by exact okt) (by exact hAP) ?hsz (by exact hpA') ?_ ?_ ?_
      case hsz => omega
      · refine ev_sub (d1 := by exact .val (.ref N)) (by exact L okt) (by exact ev_un (by exact ev_int) (by exact op_neg_int)) ?_ (by exact PySem.slot_list_getitem.lookup) ?_
        · intro s v st r
          obtain rfl := rep_val.mp r
          obtain ⟨kk, hp⟩ := topct
          exact ⟨_, st.keep _ _ hp, rfl⟩
        · intro s v1 v2 st r1 r2
          obtain rfl := rep_val.mp r1
          obtain ⟨u, rfl⟩ := rep_int.mp r2
          obtain ⟨kk, hp⟩ := topct
          have hL : s.heap.IsList N (as.map Value.ref).toArray := ⟨_, st.keep _ _ hp, rfl, _, rfl⟩
          refine wpAny_getItem_list_neg hL (by decide) (by simp; omega) (by decide) (x := .ref A) ?_ ⟨kp_refl s, rep_val.mpr rfl⟩
          rw [show (-1 + (((as.map Value.ref).toArray).size : Int)).toNat = as.length - 1 by simp; omega]
          simp [hA]
      · exact evL_cons (by exact ev_listD (by exact evL_cons (by exact ev_call (by exact Bl okt g_ord bt_ord) (by exact evL_cons (by exact ev_sub (d := by exact st [(codeW way k (decide (i + 1 = l.length))).headD 0]) (by exact L okt) (by exact ev_int) (by exact hasT_str) (by exact PySem.F.slot_str_getitem.lookup) (by exact op_item_str (by decide) ncat.1 (by omega))) (by exact evL_nil)) (by exact keeps_blt) (by exact c_ord')) (by exact evL_cons (by exact ev_call (by exact Bl okt g_ord bt_ord) (by exact evL_cons (by exact L okt) (by exact evL_nil)) (by exact keeps_blt) (by exact c_ord')) (by exact evL_cons (by exact L okt) (by exact evL_nil)))) (by simp)) (by exact evL_nil)
      intro s4 v F4 b4 hp4 hr4
      refine wpAny_execs_nil (wpAny_execs_nil ⟨rfl, ?_, fun oi e => ?_⟩)
      · have k4 : ∀ b ob, b ≠ A → ct.h₀.get? b = some ob → s4.heap.get? b = some ob := fun b ob hb q => F4.keep b ob (hideAll_get _ q fun hm => hb (List.mem_singleton.mp hm))
        refine ⟨as, (F4.base (c := c0.sub (N :: as)) (h₀ := hideAll ct.h₀ [A]) (keep_off hst0 (hS A (.tail _ hAm)).2.1)).weak (sub_cons rfl (sub_cons rfl (sub_cons rfl sub_nil))) fun _ _ e => e, b4, ?_, nd, hS⟩
        rw [heq]
        unfold stepN
        rw [if_neg e]
        refine ⟨?_, by rw [List.length_append, List.length_dropLast, List.length_singleton, ← o.len]; omega, fun j a' m' g1 g2 => ?_⟩
        · obtain ⟨kk, hp⟩ := topct
          exact ⟨kk, k4 N _ (Ne.symm hAN) hp⟩
        · have hj : j < as.length := by
            rcases Nat.lt_or_ge j as.length with q | q
            · exact q
            · rw [List.getElem?_eq_none q] at g1; cases g1
          have hdl : (namesI way l i).dropLast.length = as.length - 1 := by rw [List.length_dropLast, ← o.len]
          by_cases hjl : j = as.length - 1
          · subst hjl
            rw [hA] at g1; cases g1
            rw [List.getElem?_append_right (by omega), hdl, Nat.sub_self] at g2
            simp only [List.getElem?_cons_zero, Option.some.injEq] at g2
            have hlast : (namesI way l i).getLastD [] = m := by
              rw [List.getLastD_eq_getLast?, List.getLast?_eq_getElem?, ← o.len, hm]; rfl
            rw [hlast] at g2
            subst g2
            refine ⟨items.push v, hp4, ?_⟩
            rw [List.map_append, Array.toList_push]
            exact RepL.snoc (hrA.mono fun b ob pb hb _ => ⟨pb, k4 b ob (fun q => hAP (q ▸ pb)) hb⟩) hr4
          · rw [List.getElem?_append_left (by omega), List.getElem?_dropLast] at g2
            rw [if_pos (by rw [← o.len]; omega)] at g2
            obtain ⟨items', ⟨kk, hp'⟩, hr'⟩ := oct'.at' j a' m' g1 g2
            refine ⟨items', ⟨kk, k4 a' _ (fun q => ?_) hp'⟩, hr'.mono fun b ob pb hb _ => ⟨pb, k4 b ob (fun q => hAP (q ▸ pb)) hb⟩⟩
            subst q
            have nd2 := (List.nodup_cons.mp nd).2
            have hj2 : as.length - 1 < as.length := by omega
            rw [List.getElem?_eq_getElem hj] at g1
            rw [List.getElem?_eq_getElem hj2] at hA
            have ee : as[j] = as[as.length - 1] := by rw [Option.some.inj g1, Option.some.inj hA]
            exact hjl ((List.getElem_inj nd2).mp ee)
      · exact F4.keep I oi (hideAll_get _ (hIct oi e) fun hm => hIN (by rw [List.mem_singleton.mp hm]; exact .tail _ hAm))
  · rintro s' h tk ⟨as, F, b, o, nd, hS⟩ hIs hk
    have hIN : I ∉ N :: as := fun hm => by
      obtain ⟨oi, h1, h2⟩ := hIs
      rcases List.mem_cons.mp hm with rfl | hm
      · obtain ⟨k, hp⟩ := o.top
        rw [hp] at h1; cases h1; exact h2 ⟨_, _, rfl⟩
      · obtain ⟨j, hj, ej⟩ := List.getElem_of_mem hm
        have hj2 : j < (namesI way l l.length).length := by rw [← o.len]; exact hj
        obtain ⟨items, ⟨k, hp⟩, _⟩ := o.at' j I _ (by rw [List.getElem?_eq_getElem hj, ej]) (List.getElem?_eq_getElem hj2)
        rw [hp] at h1; cases h1; exact h2 ⟨_, _, rfl⟩
    have hIP : c0.P I := (F1.new I hI0).1
    have F' : FrD (c0.sub (N :: as)) [("names", .val (.ref N)), ("text", st l), ("way", .int way)] [] h := F.iter (wr := [I]) (fun b hb => by
      rw [List.mem_singleton.mp hb]; exact ⟨⟨hIP, hIN⟩, fresh_h0 (c := c0.sub [N, A0]) F1 hI0, fun hm => fresh_loc (c := c0.sub [N, A0]) F1 hI0 (List.mem_singleton.mp hm)⟩) (fun b hb => by rw [List.mem_singleton.mp hb]; exact hIs) fun b ob hb e => hk b ob (fun q => hb (by rw [q]; exact .head _)) e
    have o' : Own2 (c0.sub (N :: as)).P h N as (namesI way l l.length) := o.on (fun b ob hb hs _ => hk b ob (fun q => by
      obtain ⟨oi, h1, h2⟩ := hIs
      rw [← q, hb] at h1; cases h1; exact h2 hs) hb) fun _ _ p _ => p
    have F6 : FrD c0 [("names", .val (.ref N)), ("text", st l), ("way", .int way)] [] h := FrD.wide (c := c0.sub (N :: as)) F' (P' := c0.P) fun a pa => pa.1
    have F7 := F6.put (x := "names") (v := .ref N) rfl (o'.rep (fun b pb => pb.1) (hS N (.head _)).1 fun a ha => (hS a (.tail _ ha)).1)
    exact (x_retD (L ok) : Xs c0 _ [] _ (Ret c0 _)).go _ F7 (b.set h tk)
end Mine
end

section
open PySem PySem.W PyProof.Rows PySem.Calls
namespace Mine
noncomputable def Ents : List (Str × Value) → List DictEntry → Prop
  | [], es => es = []
  | (x, v) :: r, es => ∃ hh t es', es = ⟨hh, .str x t, v⟩ :: es' ∧ Ents r es'
noncomputable def Dct (h : Heap) (a : Addr) (l : List (Str × Value)) : Prop := ∃ es n, h.get? a = some ⟨.type "dict", none, .dict es n, #[]⟩ ∧ Ents l es.toList
noncomputable def putL (x : Str) (v : Value) : List (Str × Value) → List (Str × Value)
  | [] => [(x, v)]
  | (y, u) :: r => if (y == x) = true then (y, v) :: r else (y, u) :: putL x v r
noncomputable def dropL (x : Str) : List (Str × Value) → List (Str × Value)
  | [] => []
  | (y, u) :: r => if (y == x) = true then r else (y, u) :: dropL x r
theorem strBeq_comm (x y : Str) : (x == y) = (y == x) := by
  by_cases h : x = y
  · subst h; rfl
  · have h1 : (x == y) = false := by simpa using h
    have h2 : (y == x) = false := by simpa using fun e : y = x => h e.symm
    rw [h1, h2]
theorem Ents.find {x : Str} : ∀ {l : List (Str × Value)} {es : List DictEntry}, Ents l es → (es.find? (·.key.isStr x)).map (·.val) = l.lookup x
  | [], es, e => by rw [show es = [] from e]; rfl
  | (y, v) :: r, es, e => by
    obtain ⟨hh, t, es', rfl, e'⟩ := e
    rw [List.find?_cons, List.lookup_cons, strBeq_comm x y]
    show Option.map _ (match (y == x) with | true => _ | false => _) = _
    cases y == x with
    | true => rfl
    | false => exact e'.find
theorem Ents.noref : ∀ {l : List (Str × Value)} {es : List DictEntry}, Ents l es → es.any (·.refKey) = false
  | [], es, e => by rw [show es = [] from e]; rfl
  | (y, v) :: r, es, e => by
    obtain ⟨hh, t, es', rfl, e'⟩ := e
    rw [List.any_cons, e'.noref]; rfl
theorem Ents.put {x : Str} {v : Value} {hv : Int} {tv : Tok} : ∀ {l : List (Str × Value)} {es : List DictEntry}, Ents l es →
    Ents (putL x v l) (match es.findIdx? (·.key.isStr x) with | some i => es.modify i fun e => { e with val := v } | none => es ++ [⟨hv, .str x tv, v⟩])
  | [], es, e => by rw [show es = [] from e]; exact ⟨_, _, _, rfl, rfl⟩
  | (y, u) :: r, es, e => by
    obtain ⟨hh, t, es', rfl, e'⟩ := e
    have ih := e'.put (x := x) (v := v) (hv := hv) (tv := tv)
    rw [List.findIdx?_cons]
    show Ents (if (y == x) = true then _ else _) (match (if (y == x) = true then some 0 else _) with | some i => _ | none => _)
    cases y == x with
    | true => exact ⟨_, _, _, rfl, e'⟩
    | false =>
      simp only [Bool.false_eq_true, if_false]
      cases q : es'.findIdx? (·.key.isStr x) with
      | none =>
        rw [q] at ih
        exact ⟨_, _, _, rfl, ih⟩
      | some i =>
        rw [q] at ih
        exact ⟨_, _, _, rfl, ih⟩
theorem Ents.drop {x : Str} : ∀ {l : List (Str × Value)} {es : List DictEntry}, Ents l es →
    Ents (dropL x l) (match es.findIdx? (·.key.isStr x) with | some i => es.eraseIdx i | none => es)
  | [], es, e => by rw [show es = [] from e]; rfl
  | (y, u) :: r, es, e => by
    obtain ⟨hh, t, es', rfl, e'⟩ := e
    have ih := e'.drop (x := x)
    rw [List.findIdx?_cons]
    show Ents (if (y == x) = true then _ else _) (match (if (y == x) = true then some 0 else _) with | some i => _ | none => _)
    cases y == x with
    | true => exact e'
    | false =>
      simp only [Bool.false_eq_true, if_false]
      cases q : es'.findIdx? (·.key.isStr x) with
      | none =>
        rw [q] at ih
        exact ⟨_, _, _, rfl, ih⟩
      | some i =>
        rw [q] at ih
        exact ⟨_, _, _, rfl, ih⟩
theorem Dct.keep {h h' : Heap} {a : Addr} {l : List (Str × Value)} (x : Dct h a l) (k : ∀ o, h.get? a = some o → h'.get? a = some o) : Dct h' a l :=
  let ⟨es, n, e, q⟩ := x; ⟨es, n, k _ e, q⟩
section
variable {M : Model} {A : Around} {E : Value → Shared → Prop} {s : Shared} {a : Addr} {l : List (Str × Value)} {x : Str} {v : Value}
theorem dct_get {Q : Option Value → Shared → Prop} (hD : Dct s.heap a l) (h : Q (l.lookup x) s) : wpAny M A (nsGet a x) Q E s := by
  obtain ⟨es, n, e, q⟩ := hD
  unfold nsGet
  refine wpAny_bind (wpAny_loadPart e ?_)
  rw [nsLook_eq]
  unfold nsLookByArray
  dsimp only
  rw [← Array.find?_toList]
  have hf := q.find (x := x)
  cases hq : es.toList.find? (·.key.isStr x) with
  | some en => rw [hq] at hf; rw [← hf] at h; exact wpAny_pure h
  | none =>
    rw [hq] at hf; rw [← hf] at h
    dsimp only
    rw [← Array.any_toList, q.noref]
    exact wpAny_pure h
theorem dct_upd {h : Heap} {hv : Int} {tv : Tok} (hD : Dct h a l) : Dct (h.update a (Obj.putName x hv (.str x tv) v)) a (putL x v l) := by
  obtain ⟨es, n, e, q⟩ := hD
  have put := q.put (x := x) (v := v) (hv := hv) (tv := tv)
  obtain ⟨L⟩ := es
  cases hi : L.findIdx? (·.key.isStr x) with
  | some i =>
    rw [hi] at put
    have ho : Obj.putName x hv (.str x tv) v ⟨.type "dict", none, .dict ⟨L⟩ n, #[]⟩ = ⟨.type "dict", none, .dict (Array.modify ⟨L⟩ i fun e => { e with val := v }) n, #[]⟩ := by
      simp only [Obj.putName_eq, Obj.putNameByArray, List.findIdx?_toArray, hi]
    exact ⟨_, n, by rw [← ho]; exact Heap.get?_update_self _ e (by rw [ho]; rfl), by simpa using put⟩
  | none =>
    rw [hi] at put
    have ho : Obj.putName x hv (.str x tv) v ⟨.type "dict", none, .dict ⟨L⟩ n, #[]⟩ = ⟨.type "dict", none, .dict (Array.push ⟨L⟩ ⟨hv, .str x tv, v⟩) (n + 1), #[]⟩ := by
      simp only [Obj.putName_eq, Obj.putNameByArray, List.findIdx?_toArray, hi]
    exact ⟨_, n + 1, by rw [← ho]; exact Heap.get?_update_self _ e (by rw [ho]; rfl), by simpa using put⟩
theorem dct_set {Q : Unit → Shared → Prop} (hD : Dct s.heap a l) (h : ∀ h', Dct h' a (putL x v l) → Heap.SameBut a s.heap h' → Q () { s with heap := h', toks := s.toks + 1 }) : wpAny M A (nsSet a x v) Q E s := by
  have hD' := hD
  obtain ⟨es, n, e, q⟩ := hD
  unfold nsSet strHash
  refine wpAny_bind (wpAny_bind (wpAny_askSetting (wpAny_pure ?_)))
  refine wpAny_bind (wpAny_mkText ?_)
  refine wpAny_bind (wpAny_loadPart e ?_)
  dsimp only
  rw [aRefKeyMayBeTheName_at, ← Array.any_toList (p := fun e : DictEntry => e.refKey), q.noref]
  simp only [Bool.and_false, Bool.false_eq_true, if_false]
  exact wpAny_updatePart e (h _ (dct_upd hD') (Heap.SameBut.update ..))
theorem dct_del {Q : Bool → Shared → Prop} (hD : Dct s.heap a l) (hx : (l.lookup x).isSome = true) (h : ∀ h', Dct h' a (dropL x l) → Heap.SameBut a s.heap h' → Q true { s with heap := h' }) : wpAny M A (nsDel a x) Q E s := by
  obtain ⟨es, n, e, q⟩ := hD
  unfold nsDel
  refine wpAny_bind (wpAny_loadPart e ?_)
  obtain ⟨L⟩ := es
  have drop := q.drop (x := x)
  have hf := q.find (x := x)
  have hany : L.any (·.key.isStr x) = true := by
    cases hq : L.find? (·.key.isStr x) with
    | none => rw [hq] at hf; rw [← hf] at hx; cases hx
    | some en => exact List.any_eq_true.mpr ⟨en, List.mem_of_find?_eq_some hq, List.find?_some (p := fun e : DictEntry => e.key.isStr x) hq⟩
  rw [nsHas_eq]
  unfold nsHasByArray
  simp only [List.any_toArray, hany, if_true]
  refine wpAny_bind (wpAny_pure ?_)
  simp only [if_true]
  refine wpAny_bind (wpAny_updatePart e (wpAny_pure (h _ ?_ (Heap.SameBut.update ..))))
  cases hi : L.findIdx? (·.key.isStr x) with
  | some i =>
    rw [hi] at drop
    have ho : Obj.dropName x ⟨.type "dict", none, .dict ⟨L⟩ n, #[]⟩ = ⟨.type "dict", none, .dict (Array.eraseIdxIfInBounds ⟨L⟩ i) (n + 1), #[]⟩ := by
      simp only [Obj.dropName_eq, Obj.dropNameByArray, List.findIdx?_toArray, hi]
    exact ⟨_, n + 1, by rw [← ho]; exact Heap.get?_update_self _ e (by rw [ho]; rfl), by simpa using drop⟩
  | none =>
    have := List.findIdx?_eq_none_iff.mp hi
    obtain ⟨en, h1, h2⟩ := List.any_eq_true.mp hany
    rw [this en h1] at h2; cases h2
theorem dct_entries {part : Option Value} {Q : Array DictEntry → Shared → Prop} (hD : Dct s.heap a l) (h : ∀ es, Ents l es.toList → Q es s) : wpAny M A (dictEntries a part) Q E s := by
  obtain ⟨es, n, e, q⟩ := hD
  unfold dictEntries
  exact wpAny_bind (wpAny_loadPart e (wpAny_pure (h _ q)))
end
end Mine
end

section
open PySem PySem.W PyProof.Rows PySem.Calls
namespace Mine
section
variable {prog : Program} {w : World} {A : Around} {E : Value → Shared → Prop} {s : Shared}
noncomputable abbrev prepObj : Obj := { cls := .type "builtin_function_or_method", data := .fields #[.builtin "type.__prepare__", .type "type"] }
theorem owner_prep : (kfb_private% "ownerAndName") "type.__prepare__" = ("type", "__prepare__") := by first | decide +kernel | kernel_rfl
theorem type_prep : typeOf (.builtin "type.__prepare__") = pure (.type "classmethod_descriptor") := by show builtinType _ = _; rw [builtinType_eq_fast]; kernel_rfl
theorem sub_type_type : isSubtype (.type "type") (.type "type") = pure true := by rw [isSubtype_type]; kernel_rfl
theorem prep_get {P : Fin → Shared → Prop} (h : P (.done (.ret (.ref s.heap.objs.size))) { s with heap := s.heap.push prepObj }) :
    wpAny (model prog w) A (Builtin.«classmethod_descriptor.__get__» ⟨[.builtin "type.__prepare__", .none, .type "type"], []⟩) P E s := by
  unfold Builtin.«classmethod_descriptor.__get__»
  refine wpAny_bind (wpAny_of_eq (a := (.builtin "type.__prepare__", none, some (.type "type"))) (by first | rfl | kernel_rfl) ?_)
  simp only [owner_prep]
  refine wpAny_bind (wpAny_of_eq (a := .type "type") rfl ?_)
  refine wpAny_bind (wpAny_of_eq (a := true) (by rfl) ?_)
  refine KFB.if_not rfl ?_
  refine wpAny_bind (wpAny_of_eq (a := true) sub_type_type ?_)
  refine KFB.if_not rfl ?_
  exact wpAny_bind (wpAny_newObj_type (wpAny_pure h))
theorem attr_prep {K : Frag} {Q : Option Value → Shared → Prop} (X : K.In s.heap)
    (h : Q (some (.ref s.heap.objs.size)) { s with heap := s.heap.push prepObj, toks := s.toks + 1 }) :
    wpAny (model prog w) A (getAttr? (.type "type") "__prepare__") Q E s := by
  have hstub : opaqueClassAbove (.type "type") = pure none := by unfold opaqueClassAbove; dsimp only; rw [show Manifest.isStub "type" = false by decide +kernel]; rfl
  have ht : typeOf (.type "type") = pure (.type "type") := by first | rfl | kernel_rfl
  have L0 : Looks (model prog w) s.heap (typeOf (.type "type")) (.type "type") := Looks.of_pure ht
  have hg : findIn K (.type "type") "__getattribute__" = some (some (.builtin "type.__getattribute__")) := type_tga
  have LO : Looks (model prog w) s.heap (opaqueClassAbove (.type "type")) none := Looks.of_pure hstub
  have e : findCls K (.type "type") (.type "type") "__prepare__" = some (.get (.builtin "classmethod_descriptor.__get__") (.builtin "type.__prepare__") .none (.type "type")) := by kernel_rfl
  have L0' : Looks (model prog w) s.heap (hookBefore (.type "type")) none := looks_hook (mc := .type "type") X (r := none) (by kernel_rfl)
  unfold getAttr? getAttrBy?
  refine wpAny_bind (wpAny_mkText (wpAny_bind (wpAny_attempt ?_)))
  unfold getAttrBy
  refine wpAny_holding (wpAny_bind (L0.at (wpAny_bind ((looks_findIn X hg).at ?_))))
  dsimp only
  rw [show (onTheHeap (.type "type") && Value.builtin "type.__getattribute__" == Value.builtin "object.__getattribute__") = false from rfl, if_neg (by decide)]
  unfold getAttrByItsOwn
  refine wpAny_bind (L0'.at (wpAny_bind (wpAny_attempt (wpAny_holding ?_))))
  unfold callGetattribute
  rw [show (false && onTheHeap (Value.builtin "type.__getattribute__")) = false from rfl, if_neg (by decide)]
  unfold boundAndCalled
  rw [KF.slot_tga.bind]
  refine wpAny_bind (wpAny_pure ?_)
  show wpAny _ _ (call (.builtin "type.__getattribute__") [.type "type", .str "__prepare__" s.toks]) _ _ _
  refine wpAny_call ?_
  refine codeAny_call_builtin KF.slot_tga.plain KF.entry_tga ?_
  refine @check_slot (model prog w) _ _ { s with toks := s.toks + 1 } "type.__getattribute__" "type" "__getattribute__" (.type "type") [.str "__prepare__" s.toks] [] _ (by decide +kernel) (by decide +kernel) (L0.andThen (looks_subIn (K := K) X (by show subIn K (.type "type") _ = _; rfl))) (KF.args_tga (.type "type") (.str "__prepare__" s.toks)) ?_
  have L1 : Looks (model prog w) ({ s with toks := s.toks + 1 } : Shared).heap (typeOf (.type "type")) (.type "type") := L0
  have key := fun {A : Around} {E : Value → Shared → Prop} (Q : Fin → Shared → Prop) h => @tga_run prog w A E { s with toks := s.toks + 1 } K (.type "type") (.type "type") "__prepare__" s.toks _ Q X LO L1 e h
  refine key _ ?_
  show wpAny _ _ (holding [.builtin "type.__prepare__"] (call (.builtin "classmethod_descriptor.__get__") [.builtin "type.__prepare__", .none, .type "type"]) >>= fun v => ret v) _ _ _
  refine wpAny_bind (wpAny_holding (wpAny_call_entry KFB.slot_get type_prep KFB.entry_get (prep_get ⟨_, rfl, wpAny_pure (wpAny_pure (wpAny_pure ?_))⟩) (KFB.args_get _ _ _)))
  exact h
theorem sig_prep : Manifest.signature? "type.__prepare__" = some ⟨.hand, "type.__prepare__", "__prepare__", .cls, []⟩ := by kernel_rfl
theorem kind_prep : builtinKind "type.__prepare__" = some .classMethod := by kernel_rfl
theorem sub_type_module : isSubtype (.type "type") (.type "module") = pure false := by rw [isSubtype_type]; kernel_rfl
theorem varargs_prep : Manifest.varargsMethods.contains "type.__prepare__" = false := by decide +kernel
theorem entry_prep : entryFor table "type.__prepare__" = some Builtin.«type.__prepare__» := entryFor_of_tree (by kernel_rfl)
theorem call_prep {b : Addr} {x y : Value} {Q : Value → Shared → Prop} (hb : s.heap.get? b = some prepObj)
    (h : Q (.ref s.heap.objs.size) { s with heap := s.heap.push ⟨.type "dict", none, .dict #[] 0, #[]⟩ }) : wpAny (model prog w) A (call (.ref b) [x, y]) Q E s := by
  refine wpAny_call (codeAny_of_tree ?_)
  show wpAny _ _ (callAny (.ref b) _) _ _ _
  unfold callAny
  refine wpAny_bind (wpAny_load hb ?_)
  dsimp only
  rw [if_pos (by decide)]
  show wpAny _ _ (checkBoundCall "type.__prepare__" ⟨[.type "type", x, y], []⟩ >>= fun _ => again (.builtin "type.__prepare__" ⟨[.type "type", x, y], []⟩)) _ _ _
  refine wpAny_bind ?_
  unfold checkBoundCall
  rw [sig_prep]
  dsimp only
  rw [kind_prep]
  dsimp only
  rw [if_neg (by decide)]
  refine wpAny_bind (wpAny_of_eq (a := false) (by unfold isInstance; rw [show typeOf (.type "type") = pure (.type "type") from rfl]; exact sub_type_module) ?_)
  rw [varargs_prep]
  simp only [Bool.or_self, Bool.false_eq_true, if_false]
  refine wpAny_bind (wpAny_bind (wpAny_of_eq (a := true) rfl ?_))
  refine wpAny_pure ?_
  rw [if_pos rfl]
  refine wpAny_bind (wpAny_pure ?_)
  dsimp only
  refine wpAny_of_eq (a := ()) (by kernel_rfl) ?_
  refine wpAny_pure ⟨plainId_quiet (by decide +kernel) _, codeAny_builtin entry_prep ?_⟩
  show wpAny _ _ (newDict >>= fun v => ret v) _ _ s
  unfold newDict
  exact wpAny_bind (wpAny_newObj_type (wpAny_pure h))
end
end Mine
end

section
open PySem PySem.W PyProof.Rows PySem.Calls
namespace Mine
section
variable {M : Model} {A : Around} {E : Value → Shared → Prop} {s : Shared}
theorem wp_classCode {env : Env} {c P : Addr} {ps : Array Value} {pos : Pos} {firstLine : Nat} {name qual : Str} {scope : Scope} {Q : Value → Shared → Prop}
    (hc : env.code = .ref c) (C : CodeHd s.heap c P) (hP : s.heap.get? P = some (tabObj ps)) (ht : TriplesOk ps.toList) (hnf : codeAmong pos ps.toList = none)
    (h : ∀ c' P' h' tk, Heap.ExtBut P s.heap h' → s.heap.objs.size ≤ c' → s.heap.objs.size ≤ P' → h'.get? P = some (tabObj (ps ++ #[rawInt pos.line, rawInt pos.col, .ref c'])) →
      CodeHd h' c' P' → h'.get? P' = some (tabObj #[]) → Q (.ref c') { s with heap := h', toks := tk }) :
    wpAny M A (classCode env pos firstLine name qual scope) Q E s := by
  obtain ⟨o, vs, file, tf, flags, tg, inF, text, tt, e1, e2, e3, e4, e5, e6, e7, e8, e9, hne⟩ := id C
  have hPd : (tabObj ps).data = .fields ps := rfl
  unfold classCode codeAt
  rw [hc, if_neg (show ¬ ((Value.ref c == Value.none) = true) from Bool.false_ne_true)]
  refine wpAny_bind (wpAny_fieldsOf e1 e3 ?_)
  rw [e5]
  refine wpAny_bind (wpAny_fieldsOf hP hPd ?_)
  rw [hnf, e6, e7, e8, e9]
  refine wpAny_bind (wpAny_newCodeX fun c' P' h' tk hk h1 h2 hcode htab hrec => ?_)
  have hP' := hk _ _ hP
  refine wpAny_bind (wpAny_updateFieldsOfTheText hP' hPd ?_)
  generalize hf : (Obj.mapFields (fun vs => if (codeAmong pos vs.toList).isSome = true then vs else vs ++ #[rawInt pos.line, rawInt pos.col, .ref c'])) = f
  have hfo : f (tabObj ps) = tabObj (ps ++ #[rawInt pos.line, rawInt pos.col, .ref c']) := by
    rw [← hf]
    simp only [Obj.mapFields, hnf]
    rfl
  have hget := Heap.get?_update_self f hP' (by rw [hfo]; rfl)
  rw [hfo] at hget
  refine wpAny_bind (wpAny_fieldsOf hget rfl ?_)
  have hl : (ps ++ #[rawInt pos.line, rawInt pos.col, Value.ref c']).toList = ps.toList ++ [rawInt pos.line, rawInt pos.col, .ref c'] := by simp
  rw [hl, codeAmong_snoc _ ht hnf]
  have sb : Heap.SameBut P h' (h'.update P f) := Heap.SameBut.update ..
  have hcP : c' ≠ P := Nat.ne_of_gt (Nat.lt_of_lt_of_le (Heap.lt_size hP) h1)
  have hPP : P' ≠ P := Nat.ne_of_gt (Nat.lt_of_lt_of_le (Heap.lt_size hP) h2)
  exact wpAny_pure (h c' P' _ _ (fun b o' hb e => sb.extBut b o' hb (hk b o' e)) h1 h2 hget (CodeHd.of (hcode.extBut sb.extBut hcP hPP) (htab.extBut sb.extBut hcP hPP)) (sb.extBut _ _ hPP htab.2))
end
structure BS (g h : Heap) (P D : Addr) (ps : Array Value) (l : List (Str × Value)) : Prop where
  keep : Stays g h
  gP : g.get? P = none
  gD : g.get? D = none
  tab : h.get? P = some (tabObj ps)
  ok : TriplesOk ps.toList
  ns : Dct h D l
theorem BS.ne {g h : Heap} {P D : Addr} {ps : Array Value} {l : List (Str × Value)} (x : BS g h P D ps l) : P ≠ D := fun e => by
  obtain ⟨es, n, e1, _⟩ := x.ns
  rw [← e, x.tab] at e1; cases e1
theorem BS.up {g h h' : Heap} {P D : Addr} {ps ps' : Array Value} {l l' : List (Str × Value)} (x : BS g h P D ps l) (k : ∀ b o, b ≠ P → b ≠ D → h.get? b = some o → h'.get? b = some o) (ht : h'.get? P = some (tabObj ps')) (hok : TriplesOk ps'.toList) (hn : Dct h' D l') :
    BS (hideAll h' [P, D]) h' P D ps' l' ∧ Stays g (hideAll h' [P, D]) := by
  refine ⟨⟨fun b o e => of_hideAll _ e, hideAll_none _ (by simp), hideAll_none _ (by simp), ht, hok, hn⟩, fun b o e => ?_⟩
  have hP : b ≠ P := fun q => by rw [q, x.gP] at e; cases e
  have hD : b ≠ D := fun q => by rw [q, x.gD] at e; cases e
  exact hideAll_get _ (k b o hP hD (x.keep b o e)) (by simp [hP, hD])
theorem bs_at {h : Heap} {P D b : Addr} {o : Obj} (e : h.get? b = some o) (h1 : b ≠ P) (h2 : b ≠ D) : (hideAll h [P, D]).get? b = some o := hideAll_get _ e (by simp [h1, h2])
noncomputable def Sm (b s : Shared) : Prop := ∃ h tk, s = { b with heap := h, toks := tk }
theorem sm_refl (s : Shared) : Sm s s := ⟨s.heap, s.toks, rfl⟩
theorem Sm.set {b s : Shared} (x : Sm b s) (h : Heap) (tk : Nat) : Sm b { s with heap := h, toks := tk } := by obtain ⟨h', tk', rfl⟩ := x; exact ⟨h, tk, rfl⟩
theorem Sm.trans {a b c : Shared} (x : Sm a b) (y : Sm b c) : Sm a c := by
  obtain ⟨h, t, rfl⟩ := x
  obtain ⟨h', t', rfl⟩ := y
  exact ⟨h', t', rfl⟩
section
variable {W : Wd} {A : Around} {s : Shared} {env : Env} {g : Heap} {P D cc : Addr} {ps : Array Value} {l : List (Str × Value)} {Q : Flow → Shared → Prop}
theorem store_cls {M : Model} {x : Str} {v : Value} {R : Unit → Shared → Prop} (hx : env.kindOf x = some .local ∨ (env.kindOf x = none ∧ compilersOwnNames.contains x = true)) (hD : Dct s.heap env.locals l)
    (h : ∀ h' tk, Dct h' env.locals (putL x v l) → Heap.SameBut env.locals s.heap h' → R () { s with heap := h', toks := tk }) (hk : env.scope.kind = .class) : wpAny M A (storeName env x v) R NoE s := by
  have key : wpAny M A (localSet env x v) R NoE s := by
    have hD' := hD
    obtain ⟨es, n, e, q⟩ := hD
    unfold localSet
    refine wpAny_bind (wpAny_load e ?_)
    show wpAny _ _ (if (Value.type "dict" == Value.type "dict") = true then _ else _) _ _ _
    rw [if_pos (by decide)]
    exact dct_set hD' fun h' d sb => h _ _ d sb
  have hb : env.blockKind ≠ .function := by unfold Env.blockKind; rw [hk]; decide
  unfold storeName
  rcases hx with hx | ⟨hx, hc⟩
  · rw [hx]
    simp only [show (some NameKind.local == some NameKind.globalImplicit) = false from rfl, Bool.false_and, Bool.false_eq_true, if_false, hk, show (ScopeKind.class == ScopeKind.class) = true from rfl, Bool.true_or, if_true]
    exact key
  · rw [hx]
    have hb' : (env.blockKind == .function) = false := by
      unfold Env.blockKind; rw [hk]; rfl
    simp only [show ((none : Option NameKind) == some NameKind.globalImplicit) = false from rfl, Bool.false_and, Bool.false_eq_true, if_false, hk, show (ScopeKind.class == ScopeKind.class) = true from rfl, Bool.true_or, if_true, hc, hb', Bool.not_true, Bool.and_false, Bool.or_false]
    exact key
theorem cls_store {M : Model} {x : Str} {v : Value} {R : Unit → Shared → Prop} (B : BS g s.heap P D ps l) (hloc : env.locals = D) (hk : env.scope.kind = .class) (hx : env.kindOf x = some .local ∨ (env.kindOf x = none ∧ compilersOwnNames.contains x = true))
    (h : ∀ s' g', Stays g g' → BS g' s'.heap P D ps (putL x v l) → (∀ b o, b ≠ D → s.heap.get? b = some o → s'.heap.get? b = some o) → (∀ b, b ≠ P → b ≠ D → ∀ o, s.heap.get? b = some o → g'.get? b = some o) → Sm s s' → R () s') : wpAny M A (storeName env x v) R NoE s := by
  subst hloc
  refine store_cls hx B.ns (fun h' tk d sb => ?_) hk
  obtain ⟨B', k'⟩ := B.up (h' := h') (fun b o h1 h2 e => sb.extBut b o h2 e) (sb.extBut _ _ B.ne B.tab) B.ok d
  exact h _ _ k' B' (fun b o hb e => sb.extBut b o hb e) (fun b h1 h2 o e => bs_at (sb.extBut b o h2 e) h1 h2) ⟨h', tk, rfl⟩
theorem cls_str {M : Model} {x : Str} {px cpos pos : Pos} {v : Str} {k : Nat} {rest : List Stmt} (B : BS g s.heap P D ps l) (hloc : env.locals = D) (hk : env.scope.kind = .class) (hx : env.kindOf x = some .local)
    (h : ∀ s' g' t, Stays g g' → BS g' s'.heap P D ps (putL x (.str v t) l) → Sm s s' → wpAny M A (execs rest env) Q NoE s')
    (hs : swapsWith (.Constant (.str v) k cpos) (some (.Name x px)) pos.line env = pure false := by rfl) : wpAny M A (execs (.Assign [.Name x px] (.Constant (.str v) k cpos) pos :: rest) env) Q NoE s :=
  wpAny_execs_cons (wpAny_Assign_Name (wpAny_Constant_str (cls_store (s := { s with toks := s.toks + 1 }) B hloc hk (.inl hx) fun s' g' k' B' _ _ b => h s' g' s.toks k' B' (((sm_refl s).set s.heap (s.toks + 1)).trans b))) hs)
theorem cls_none {M : Model} {x : Str} {px cpos pos : Pos} {k : Nat} {rest : List Stmt} (B : BS g s.heap P D ps l) (hloc : env.locals = D) (hk : env.scope.kind = .class) (hx : env.kindOf x = some .local)
    (h : ∀ s' g', Stays g g' → BS g' s'.heap P D ps (putL x .none l) → Sm s s' → wpAny M A (execs rest env) Q NoE s')
    (hs : swapsWith (.Constant .none k cpos) (some (.Name x px)) pos.line env = pure false := by rfl) : wpAny M A (execs (.Assign [.Name x px] (.Constant .none k cpos) pos :: rest) env) Q NoE s :=
  wpAny_execs_cons (wpAny_Assign_Name (wpAny_Constant_none (cls_store B hloc hk (.inl hx) fun s' g' k' B' _ _ b => h s' g' k' B' b)) hs)
theorem cls_list {M : Model} {x : Str} {px cpos lpos pos : Pos} {v : Str} {k : Nat} {rest : List Stmt} (B : BS g s.heap P D ps l) (hloc : env.locals = D) (hk : env.scope.kind = .class) (hx : env.kindOf x = some .local)
    (h : ∀ s' g' a t, Stays g g' → BS g' s'.heap P D ps (putL x (.ref a) l) → g'.get? a = some { cls := .type "list", data := .seq #[.str v t] } → Sm s s' → wpAny M A (execs rest env) Q NoE s')
    (hs : swapsWith (.List [.Constant (.str v) k cpos] lpos) (some (.Name x px)) pos.line env = pure false := by rfl)
    (he : starEach [.Constant (.str v) k cpos] env = (false, eval (.Constant (.str v) k cpos) env) :: starEach [] env := by rfl) : wpAny M A (execs (.Assign [.Name x px] (.List [.Constant (.str v) k cpos] lpos) pos :: rest) env) Q NoE s := by
  refine wpAny_execs_cons (wpAny_Assign_Name (List_ (args_cons (wpAny_Constant_str (args_nil (wpAny_newObj_type ?_ (by show (#[Value.str v s.toks] : Array Value).size ≤ sizeLine; exact sizeLine_ge (by simp))))) he)) hs)
  have k1 := stays_push s.heap { cls := .type "list", data := .seq [Value.str v s.toks].toArray }
  have hp : (s.heap.push { cls := .type "list", data := .seq [Value.str v s.toks].toArray }).get? s.heap.objs.size = some { cls := .type "list", data := .seq #[.str v s.toks] } := Heap.get?_push_size _ rfl
  obtain ⟨B1, k2⟩ := B.up (fun b o _ _ e => k1 b o e) (k1 _ _ B.tab) B.ok (B.ns.keep fun o e => k1 _ _ e)
  have hn : s.heap.get? s.heap.objs.size = none := Heap.get?_none_of_le (Nat.le_refl _)
  have n1 : s.heap.objs.size ≠ P := fun q => by have := B.tab; rw [← q, hn] at this; cases this
  have n2 : s.heap.objs.size ≠ D := fun q => by
    obtain ⟨es, n, e, _⟩ := B.ns
    rw [← q, hn] at e; cases e
  refine cls_store (s := { s with heap := s.heap.push { cls := .type "list", data := .seq [Value.str v s.toks].toArray }, toks := s.toks + 1 }) B1 hloc hk (.inl hx) fun s' g' k' B' _ kk b => ?_
  exact h s' g' _ _ (fun b o e => k' b o (k2 b o e)) B' (kk _ n1 n2 _ hp) (((sm_refl s).set _ _).trans b)
theorem top_builtinsAt {h : Heap} (G : Gd W g) (k : Stays g h) (hP : h.get? P = some (tabObj ps)) : mainGlobals ≠ P ∧ h.Ns mainGlobals W.mg ∧ h.BuiltinsAt W.mg P := by
  have hgs := G.T.g.keeps k
  obtain ⟨bm, ob, b1, b2, b3, b4, b5, b6⟩ := G.T.bmain
  have hgP : mainGlobals ≠ P := fun q => by
    obtain ⟨o, es, ep, e, hd, _⟩ := hgs
    rw [q, hP] at e; cases e; cases hd
  have hbP : bm ≠ P := fun q => by
    have e := k _ _ b3
    rw [q, hP] at e; cases e; cases b4
  have hbG : bm ≠ mainGlobals := fun q => by
    obtain ⟨o, es, ep, e, hd, _⟩ := G.T.g
    rw [q, e] at b3; cases b3; rw [hd] at b6; cases b6
  exact ⟨hgP, hgs, bm, ob, b1, b2, hbG, hbP, k _ _ b3, b4, b5, b6⟩
theorem cls_def {M : Model} {name : Str} {params : Arguments} {body : List Stmt} {scope : Scope} {pos : Pos} {rest : List Stmt} {clos : List (Str × Addr)} (G : Gd W g) (B : BS g s.heap P D ps l) (C : CodeHd g cc P)
    (hloc : env.locals = D) (hk : env.scope.kind = .class) (hgl : env.globals = mainGlobals) (hcode : env.code = .ref cc) (hx : env.kindOf name = some .local) (hcl : closureFor scope env = pure clos) (hnf : codeAmong pos ps.toList = none)
    (h : ∀ s' g' f c' ctv doc, Stays g g' → BS g' s'.heap P D (ps ++ #[rawInt pos.line, rawInt pos.col, .ref c']) (putL name (.ref f) l) → g'.get? f = some (fnMade name (qualnameIn env name name) params body scope clos doc ((W.mg "__name__").getD .none) c' ctv) →
      g'.CodeRec (.ref c') (qualnameIn env name name) → Sm s s' → wpAny M A (execs rest env) Q NoE s')
    (hd0 : params.defaults = [] := by rfl) (hk0 : params.kw_defaults = [] := by rfl) (ha : annTrees params none env = [] := by rfl) :
    wpAny M A (execs (.FunctionDef name params body [] none [] scope none name pos :: rest) env) Q NoE s := by
  obtain ⟨hgP, hgs, hb⟩ := top_builtinsAt G B.keep B.tab
  refine wpAny_execs_cons (nestDef_K hd0 hk0 ha (makeFunction_K hcl hgl hgs hcode (C.keeps B.keep) B.tab B.ok hnf hgP hb fun c' ctv doc h' tk hx' h1 h2 hrec ht' => ?_))
  generalize hfo : fnMade name (qualnameIn env name name) params body scope clos doc ((W.mg "__name__").getD .none) c' ctv = fo
  have hDP := B.ne.symm
  have k1 := stays_push h' fo
  have hn : h'.get? h'.objs.size = none := Heap.get?_none_of_le (Nat.le_refl _)
  have hp : (h'.push fo).get? h'.objs.size = some fo := Heap.get?_push_size _ (by rw [← hfo]; rfl)
  have hok' : TriplesOk (ps ++ #[rawInt pos.line, rawInt pos.col, .ref c']).toList := by
    rw [show (ps ++ #[rawInt pos.line, rawInt pos.col, Value.ref c']).toList = ps.toList ++ [rawInt pos.line, rawInt pos.col, .ref c'] by simp]
    exact TriplesOk_snoc _ _ _ _ B.ok
  obtain ⟨B1, k2⟩ := B.up (h' := h'.push fo) (fun b o n1 n2 e => k1 _ _ (hx' b o n1 e)) (k1 _ _ ht') hok' (B.ns.keep fun o e => k1 _ _ (hx' _ o hDP e))
  have n1 : h'.objs.size ≠ P := fun q => by rw [← q, hn] at ht'; cases ht'
  have n2 : h'.objs.size ≠ D := fun q => by
    obtain ⟨es, n, e, _⟩ := B.ns
    have := hx' _ _ hDP e
    rw [← q, hn] at this; cases this
  have m1 : c' ≠ P := Nat.ne_of_gt (Nat.lt_of_lt_of_le (Heap.lt_size B.tab) h1)
  have m2 : c' ≠ D := by
    obtain ⟨es, n, e, _⟩ := B.ns
    exact Nat.ne_of_gt (Nat.lt_of_lt_of_le (Heap.lt_size e) h1)
  refine cls_store (s := { s with heap := h'.push fo, toks := tk }) B1 hloc hk (.inl hx) fun s' g' k' B' _ kk b => ?_
  obtain ⟨c₂, oc, vs, t, e2, hoc, hd, hv⟩ := hrec
  cases e2
  exact h s' g' _ c' ctv doc (fun b o e => k' b o (k2 b o e)) B' (by rw [hfo]; exact kk _ n1 n2 _ hp) ⟨_, oc, vs, t, rfl, kk _ m1 m2 _ (k1 _ _ hoc), hd, hv⟩ (((sm_refl s).set _ _).trans b)
end
end Mine
end

section
open PySem PySem.W PyProof.Rows PySem.Calls
namespace Mine
section
variable {prog : Program} {w : World} {A : Around} {E : Value → Shared → Prop} {s : Shared}
noncomputable abbrev objT : Obj := { cls := .type "tuple", data := .seq #[.type "object"] }
theorem nt_ext : Builtin.extendedBase [.type "object"] = pure (.type "object") := by kernel_rfl
theorem nt_hook : Builtin.mroHook? (.type "type") = pure none := by
  unfold Builtin.mroHook?
  rw [typeLookup_type, builtinLookup_eq_fast]; kernel_rfl
theorem nt_made : Bind.madeBy (.type "object") = pure (some "object.__new__") := by kernel_rfl
theorem nt_best : Builtin.Slots.bestBase [.type "object"] = pure (.type "object") := by kernel_rfl
theorem nt_names : Builtin.Slots.slotNamesOf (.type "object") = pure [] := by kernel_rfl
theorem nt_dict : Builtin.Slots.givesDict (.type "object") = pure false := by kernel_rfl
theorem nt_weak : Builtin.Slots.givesWeak (.type "object") = pure false := by kernel_rfl
theorem nt_var : Builtin.Slots.varSize (.type "object") = pure false := by kernel_rfl
theorem nt_turned : Builtin.notOverATurnedClass [.type "object"] = pure () := by kernel_rfl
theorem nt_note (a : Addr) : Builtin.noteSubclassOfBuiltin "object" a = pure () := by kernel_rfl

noncomputable abbrev bodyL (v0 v2 : Value) (qual : Str) (tq : Tok) (sl f0 f1 f2 f3 f4 f5 sa : Addr) : List (Str × Value) :=
  [("__module__", v0), ("__qualname__", .str qual tq), ("__firstlineno__", v2), ("__slots__", .ref sl), ("__init__", .ref f0), ("__lt__", .ref f1), ("__gt__", .ref f2), ("__eq__", .ref f3), ("__le__", .ref f4), ("__ge__", .ref f5), ("__hash__", .none), ("__static_attributes__", .ref sa)]
noncomputable abbrev bodyL2 (v0 v2 : Value) (sl f0 f1 f2 f3 f4 f5 sa : Addr) : List (Str × Value) :=
  [("__module__", v0), ("__firstlineno__", v2), ("__slots__", .ref sl), ("__init__", .ref f0), ("__lt__", .ref f1), ("__gt__", .ref f2), ("__eq__", .ref f3), ("__le__", .ref f4), ("__ge__", .ref f5), ("__hash__", .none), ("__static_attributes__", .ref sa)]
theorem nt_any {l : List (Str × Value)} {es : Array DictEntry} (q : Ents l es.toList) (x : Str) : es.any (·.key.isStr x) = (l.lookup x).isSome := by
  have hf := q.find (x := x)
  rw [← Array.any_toList, Bool.eq_iff_iff, ← hf, Option.isSome_map, List.any_eq_true]
  constructor
  · rintro ⟨e, h1, h2⟩
    rw [List.find?_isSome]; exact ⟨e, h1, h2⟩
  · intro h
    rw [List.find?_isSome] at h
    exact h
theorem forIn1 {α β : Type} {M : Model} {x : α} {b : β} {f : α → β → Sem (ForInStep β)} {Q : β → Shared → Prop}
    (h : wpAny M A (f x b) (fun r s' => match r with | .done b' => Q b' s' | .yield b' => Q b' s') E s) : wpAny M A (forIn [x] b f) Q E s := by
  rw [List.forIn_cons]
  refine wpAny_bind (wpAny_mono h (fun r s' hr => ?_) fun _ _ e => e)
  cases r with
  | done b' => exact wpAny_pure hr
  | yield b' => exact wpAny_pure hr
theorem nt_type : isType (.type "object") = pure true := rfl
theorem nt_tof : typeOf (.type "object") = pure (.type "type") := rfl
theorem forArr1 {β : Type} {M : Model} {x : Str} {b : β} {f : Str → β → Sem (ForInStep β)} {Q : β → Shared → Prop}
    (h : wpAny M A (f x b) (fun r s' => match r with | .done b' => Q b' s' | .yield b' => Q b' s') E s) : wpAny M A (forIn (#[x] : Array Str) b f) Q E s := by
  rw [← Array.forIn_toList]
  show wpAny M A (forIn [x] b f) Q E s
  rw [List.forIn_cons]
  refine wpAny_bind (wpAny_mono h (fun r s' hr => ?_) fun _ _ e => e)
  cases r with
  | done b' => exact wpAny_pure hr
  | yield b' => exact wpAny_pure hr
noncomputable abbrev planK : Builtin.Slots.Plan := { names := ["obj"], dict := false, weak := false, inherited := [] }
theorem slots_read {l : List (Str × Value)} {es : Array DictEntry} {sl : Addr} {ts : Tok} {Q : Builtin.Slots.Plan → Shared → Prop} (q : Ents l es.toList) (hl : l.lookup ("__slots__" : Str) = some (Value.ref sl)) (ho : l.lookup ("obj" : Str) = none)
    (hsl : s.heap.get? sl = some { cls := .type "list", data := .seq #[.str "obj" ts] }) (h : ∀ s', Stays s.heap s'.heap → Sm s s' → Q planK s') :
    wpAny (model prog w) A (Builtin.Slots.read "K" [.type "object"] es) Q E s := by
  wp_delta
  refine wpAny_bind (wpAny_of_eq nt_best ?_)
  refine wpAny_bind (wpAny_of_eq nt_names ?_)
  refine wpAny_bind (wpAny_of_eq nt_dict ?_)
  refine wpAny_bind (wpAny_of_eq nt_weak ?_)
  refine wpAny_bind (wpAny_of_eq nt_var ?_)
  have hf := q.find (x := "__slots__")
  rw [hl] at hf
  obtain ⟨en, h1, h2⟩ := Option.map_eq_some_iff.mp hf
  rw [Array.find?_toList] at h1
  obtain ⟨hh0, key0, val0⟩ := en
  subst h2
  rw [h1]
  refine wpAny_bind (wpAny_rule ?_)
  refine wpAny_bind (wpAny_bind (wpAny_load hsl (wpAny_pure ?_)))
  refine KFB.if_not rfl ?_
  refine wpAny_bind (collect_list (vs := [.str "obj" ts]) ⟨_, hsl, rfl, _, rfl⟩ ?_)
  have kk : Stays s.heap ((s.heap.push (seqObj "list" #[] 0)).update s.heap.objs.size (Obj.mapSeq (· ++ [Value.str "obj" ts].toArray))) := fun b o e => by
    rw [Heap.get?_update_ne _ _ _ _ (Nat.ne_of_lt (Heap.lt_size e))]
    exact Heap.get?_push_of_some _ e
  have hQ := h { s with heap := (s.heap.push (seqObj "list" #[] 0)).update s.heap.objs.size (Obj.mapSeq (· ++ [Value.str "obj" ts].toArray)) } kk ⟨_, _, rfl⟩
  generalize (s.heap.push (seqObj "list" #[] 0)).update s.heap.objs.size (Obj.mapSeq (· ++ [Value.str "obj" ts].toArray)) = H at hQ ⊢
  refine KFB.if_so rfl ?_
  refine wpAny_bind (wpAny_of_eq nt_var ?_)
  refine KFB.if_not rfl ?_
  refine wpAny_bind (forIn1 (x := Value.str "obj" ts) ?_)
  refine wpAny_of_eq (a := ForInStep.yield (false, false, #[("obj" : Str)], [])) ?_ ?_
  · kernel_rfl
  have hany : (es.any fun e => e.key.isStr "obj") = false := by rw [nt_any q, ho]; rfl
  refine wpAny_bind (forArr1 (x := "obj") ?_)
  refine KFB.if_not (c := (es.any fun e => e.key.isStr "obj") && _) (by rw [hany]; rfl) ?_
  refine wpAny_of_eq (a := ForInStep.yield ([("obj" : Str)], 3)) (by kernel_rfl) ?_
  refine wpAny_of_eq (a := planK) ?_ hQ
  kernel_rfl
theorem Ents.length : ∀ {l : List (Str × Value)} {es : List DictEntry}, Ents l es → es.length = l.length
  | [], es, e => by rw [show es = [] from e]; rfl
  | (y, v) :: r, es, e => by
    obtain ⟨hh, t, es', rfl, e'⟩ := e
    rw [List.length_cons, List.length_cons, e'.length]
theorem forIn2 {β : Type} {M : Model} {x y : Str} {b : β} {f : Str → β → Sem (ForInStep β)} {Q : β → Shared → Prop}
    (h : wpAny M A (f x b) (fun r s' => ∃ b', r = .yield b' ∧ wpAny M A (f y b') (fun r s' => ∃ b', r = .yield b' ∧ Q b' s') E s') E s) : wpAny M A (forIn [x, y] b f) Q E s := by
  rw [List.forIn_cons]
  refine wpAny_bind (wpAny_mono h (fun r s' hr => ?_) fun _ _ e => e)
  obtain ⟨b', rfl, hr⟩ := hr
  show wpAny M A (forIn [y] b' f) Q E s'
  rw [List.forIn_cons]
  refine wpAny_bind (wpAny_mono hr (fun r s' hr => ?_) fun _ _ e => e)
  obtain ⟨b', rfl, hr⟩ := hr
  exact wpAny_pure hr
theorem nt_lin : Builtin.linearize [.type "object"] mroOf = pure [.type "object"] := by kernel_rfl
structure MS (b H : Heap) (N a : Addr) (cd : ClassData) (sl : Array (Option Value)) (l : List (Str × Value)) : Prop where
  keep : Stays b H
  bN : b.get? N = none
  bA : b.get? a = none
  ns : Dct H N l
  cls : H.get? a = some ⟨.type "type", none, .cls cd, sl⟩
theorem MS.ne {b H : Heap} {N a : Addr} {cd : ClassData} {sl : Array (Option Value)} {l : List (Str × Value)} (x : MS b H N a cd sl l) : N ≠ a := fun e => by
  obtain ⟨es, n, h, _⟩ := x.ns
  rw [e, x.cls] at h
  have := congrArg (fun o : Option Obj => o.map (·.data)) h
  cases this
theorem MS.upN {b H H' : Heap} {N a : Addr} {cd : ClassData} {sl : Array (Option Value)} {l l' : List (Str × Value)} (x : MS b H N a cd sl l) (hs : Heap.SameBut N H H') (hD : Dct H' N l') : MS b H' N a cd sl l' :=
  ⟨fun y o e => hs.extBut y o (fun q => by rw [q, x.bN] at e; cases e) (x.keep y o e), x.bN, x.bA, hD, hs.extBut _ _ x.ne.symm x.cls⟩
theorem MS.upA {b H H' : Heap} {N a : Addr} {cd cd' : ClassData} {sl sl' : Array (Option Value)} {l : List (Str × Value)} (x : MS b H N a cd sl l) (hs : Heap.SameBut a H H') (hC : H'.get? a = some ⟨.type "type", none, .cls cd', sl'⟩) : MS b H' N a cd' sl' l :=
  ⟨fun y o e => hs.extBut y o (fun q => by rw [q, x.bA] at e; cases e) (x.keep y o e), x.bN, x.bA, x.ns.keep fun o e => hs.extBut _ _ x.ne e, hC⟩
section
variable {M : Model} {b : Heap} {N a : Addr} {cd : ClassData} {sl : Array (Option Value)} {l : List (Str × Value)}
theorem dct_get' {x : Str} {r : Option Value} {Q : Option Value → Shared → Prop} (D : Dct s.heap N l) (hr : l.lookup x = r) (h : Q r s) : wpAny M A (nsGet N x) Q E s := dct_get D (hr ▸ h)
theorem ms_get {x : Str} {r : Option Value} {Q : Option Value → Shared → Prop} (B : MS b s.heap N a cd sl l) (hr : l.lookup x = r) (h : Q r s) : wpAny M A (nsGet N x) Q E s := dct_get B.ns (hr ▸ h)
theorem ms_set {x : Str} {v : Value} {Q : Unit → Shared → Prop} (B : MS b s.heap N a cd sl l) (h : ∀ s', MS b s'.heap N a cd sl (putL x v l) → Sm s s' → Q () s') : wpAny M A (nsSet N x v) Q E s :=
  dct_set B.ns fun h' d sb => h _ (B.upN sb d) ⟨_, _, rfl⟩
theorem ms_del {x : Str} {Q : Bool → Shared → Prop} (B : MS b s.heap N a cd sl l) (hx : (l.lookup x).isSome = true) (h : ∀ s', MS b s'.heap N a cd sl (dropL x l) → Sm s s' → Q true s') : wpAny M A (nsDel N x) Q E s :=
  dct_del B.ns hx fun h' d sb => h _ (B.upN sb d) ⟨_, _, rfl⟩
theorem ms_slot {i : Nat} {v : Option Value} {sl' : Array (Option Value)} {Q : Unit → Shared → Prop} (B : MS b s.heap N a cd sl l) (hi : i < 100) (hsl : (sl ++ Array.replicate (i + 1 - sl.size) none).setIfInBounds i v = sl') (h : ∀ s', MS b s'.heap N a cd sl' l → Sm s s' → Q () s') : wpAny M A (setSlotAt a i v) Q E s := by
  subst hsl
  unfold setSlotAt
  rw [if_neg (by rw [sizeLine_eq]; omega)]
  exact wpAny_updatePart B.cls (h _ (B.upA (Heap.SameBut.update ..) (Heap.get?_update_self _ B.cls rfl)) ⟨_, _, rfl⟩)
theorem ms_upd {f : ClassData → ClassData} {cd' : ClassData} {Q : Unit → Shared → Prop} (B : MS b s.heap N a cd sl l) (hf : f cd = cd') (hp : (Data.cls cd').pastItsLine = none) (h : ∀ s', MS b s'.heap N a cd' sl l → Sm s s' → Q () s') : wpAny M A (updateCls a f) Q E s := by
  subst hf
  unfold updateCls
  refine wpAny_bind (wpAny_load B.cls (wpAny_bind (wpAny_update B.cls ?_)))
  have g : (s.heap.update a (Obj.mapCls f)).get? a = some ⟨.type "type", none, .cls (f cd), sl⟩ := Heap.get?_update_self (Obj.mapCls f) B.cls rfl
  exact wpAny_lookBehind g hp (h _ (B.upA (Heap.SameBut.update ..) g) ⟨_, _, rfl⟩)
theorem ms_slotAt {i : Nat} {r : Option Value} {Q : Option Value → Shared → Prop} (B : MS b s.heap N a cd sl l) (hr : (sl[i]?).join = r) (h : Q r s) : wpAny M A (slotAt a i) Q E s := by
  subst hr
  unfold slotAt
  exact wpAny_bind (wpAny_loadPart B.cls (wpAny_pure h))
theorem ms_look {x : Str} {r : Option Value} {Q : Option Value → Shared → Prop} (B : MS b s.heap N a cd sl l) (hN : cd.ns = N) (hm : cd.mro = [.ref a, .type "object"]) (hr : l.lookup x = none) (ho : builtinOwn "object" x = r) (h : Q r s) : wpAny M A (typeLookup (.ref a) x) Q E s := by
  subst ho
  rw [typeLookup_eq]
  refine wpAny_bind (wpAny_bind (wpAny_bind (wpAny_load B.cls (wpAny_pure (wpAny_pure ?_)))))
  rw [hm, lookupAlong_cons]
  refine wpAny_bind (wpAny_bind (wpAny_bind (wpAny_load B.cls (wpAny_pure ?_))))
  show wpAny M A (nsGet cd.ns x) _ _ _
  rw [hN]
  refine ms_get B hr ?_
  show wpAny M A (lookupAlong [.type "object"] x) Q E s
  rw [lookupAlong_cons]
  refine wpAny_bind (wpAny_pure ?_)
  revert h
  generalize builtinOwn "object" x = r
  intro h
  cases r with
  | none => exact wpAny_pure h
  | some v => exact wpAny_pure h
theorem ms_refresh {Q : Unit → Shared → Prop} (B : MS b s.heap N a cd sl l) (hs : (sl[4]?).join = some (.builtin "object.__new__")) (hN : cd.ns = N) (hm : cd.mro = [.ref a, .type "object"]) (hr : l.lookup ("__new__" : Str) = none) (h : Q () s) : wpAny M A (Bind.refreshMaker a) Q E s := by
  unfold Bind.refreshMaker
  refine wpAny_bind (ms_slotAt B hs ?_)
  refine KFB.if_not rfl ?_
  refine wpAny_bind (ms_look B hN hm hr (r := some (.builtin "object.__new__")) (by rw [builtinOwn_eq_fast]; kernel_rfl) ?_)
  refine KFB.if_not (by kernel_rfl) ?_
  exact wpAny_pure h
theorem ms_setV {x : Str} {v : Value} {Q : Unit → Shared → Prop} (B : MS b s.heap N a cd sl l) (hl : l.length < 1000) (h : ∀ s', MS b s'.heap N a cd sl (putL x v l) → Sm s s' → Q () s') : wpAny M A (nsSetByValue N x v) Q E s := by
  obtain ⟨es, n, e, q⟩ := B.ns
  unfold nsSetByValue
  refine wpAny_bind (wpAny_loadPart e ?_)
  dsimp only
  have hz : es.size ≤ sizeLine := by rw [← Array.length_toList, q.length]; exact sizeLine_ge (by omega)
  rw [show (decide (es.size > sizeLine)) = false from decide_eq_false (by omega)]
  exact ms_set B h
theorem any_newObj {T : String} {data : Data} {Q : Value → Shared → Prop} (hd : sizeOk data) (hf : (⟨.type T, none, data, #[]⟩ : Obj).isFreed = false) (h : ∀ s' a, s'.heap.get? a = some ⟨.type T, none, data, #[]⟩ → Stays s.heap s'.heap → s.heap.get? a = none → Sm s s' → Q (.ref a) s') : wpAny M A (newObj (.type T) data) Q E s :=
  wpAny_newObj_type (h _ _ (Heap.get?_push_size _ hf) (stays_push _ _) (Heap.get?_none_of_le (Nat.le_refl _)) ⟨_, _, rfl⟩) hd
theorem any_alloc {o : Obj} {Q : Addr → Shared → Prop} (ho : o.isFreed = false) (h : ∀ s' a, s'.heap.get? a = some o → Stays s.heap s'.heap → s.heap.get? a = none → Sm s s' → Q a s') : wpAny M A (alloc o) Q E s :=
  wpAny_alloc (h _ _ (Heap.get?_push_size _ ho) (stays_push _ _) (Heap.get?_none_of_le (Nat.le_refl _)) ⟨_, _, rfl⟩)
end
theorem MS.rebase {b H : Heap} {N a : Addr} {cd : ClassData} {sl : Array (Option Value)} {l : List (Str × Value)} (x : MS b H N a cd sl l) : MS (hideAll H [N, a]) H N a cd sl l ∧ Stays b (hideAll H [N, a]) :=
  ⟨⟨fun y o e => of_hideAll _ e, hideAll_none _ (by simp), hideAll_none _ (by simp), x.ns, x.cls⟩, fun y o e => hideAll_get _ (x.keep y o e) (by
    have h1 : y ≠ N := fun q => by rw [q, x.bN] at e; cases e
    have h2 : y ≠ a := fun q => by rw [q, x.bA] at e; cases e
    simp [h1, h2])⟩
theorem MS.stay {b H H' : Heap} {N a : Addr} {cd : ClassData} {sl : Array (Option Value)} {l : List (Str × Value)} (x : MS b H N a cd sl l) (k : Stays H H') : MS b H' N a cd sl l :=
  ⟨fun y o e => k _ _ (x.keep y o e), x.bN, x.bA, x.ns.keep fun o e => k _ _ e, k _ _ x.cls⟩
noncomputable abbrev mdObj (a : Addr) (t : Tok) : Obj := { cls := .type "member_descriptor", data := .fields #[.str "obj" t, .ref a, .builtin "proto.slot", .builtin "proto.slot#set", rawInt 0] }
theorem ms_install {b : Heap} {N a : Addr} {cd : ClassData} {sl : Array (Option Value)} {l : List (Str × Value)} {Q : Unit → Shared → Prop} (B : MS b s.heap N a cd sl l) (hl : l.length < 1000) (hr : l.lookup ("obj" : Str) = none)
    (h : ∀ s' b' md t, Stays b b' → MS b' s'.heap N a { cd with hasDict := false, slotNames := ["obj"] } sl (putL "obj" (.ref md) l) → b'.get? md = some (mdObj a t) → b.get? md = none → Sm s s' → Q () s')
    (hsub : cd.subclasses = []) : wpAny (model prog w) A (Builtin.Slots.install (.ref a) N [.type "object"] planK) Q E s := by
  wp_delta
  refine wpAny_bind (forIn1 (x := ("obj" : Str)) ?_)
  refine wpAny_bind (ms_get B hr ?_)
  refine KFB.if_so rfl ?_
  refine wpAny_bind (wpAny_mkStr ?_ (by show 3 ≤ sizeLine; exact sizeLine_ge (by decide)))
  refine wpAny_bind (any_newObj (T := "member_descriptor") (data := .fields #[.str "obj" s.toks, .ref a, .builtin "proto.slot", .builtin "proto.slot#set", rawInt 0]) (by show 5 ≤ sizeLine + 2; have := sizeLine_ge (n := 5) (by decide); omega) rfl fun s1 md hmd k1 hn m1 => ?_)
  have k1' : Stays s.heap s1.heap := k1
  have hn' : s.heap.get? md = none := hn
  obtain ⟨B1, kb1⟩ := (B.stay k1').rebase
  have n1 : md ≠ N := fun q => by
    obtain ⟨es, n, e, _⟩ := B.ns
    rw [← q, hn'] at e; cases e
  have n2 : md ≠ a := fun q => by have e := B.cls; rw [← q, hn'] at e; cases e
  have hmd' : (hideAll s1.heap [N, a]).get? md = some (mdObj a s.toks) := hideAll_get _ hmd (by simp [n1, n2])
  have hnb : b.get? md = none := by
    cases z : b.get? md with
    | none => rfl
    | some o => rw [B.keep _ _ z] at hn'; cases hn'
  refine wpAny_bind (ms_setV (v := .ref md) B1 hl fun s2 B2 m2 => wpAny_pure ?_)
  refine wpAny_bind (forIn1 (x := Value.type "object") (wpAny_bind (wpAny_of_eq nt_dict (KFB.if_not rfl (wpAny_pure ?_)))))
  show wpAny (model prog w) A (updateCls a fun c => { c with hasDict := false, slotNames := ["obj"] }) _ _ _
  refine ms_upd (cd' := { cd with hasDict := false, slotNames := ["obj"] }) B2 rfl ?_ fun s3 B3 m3 => ?_
  · unfold Data.pastItsLine
    dsimp only
    rw [hsub, if_neg]
    rw [sizeLine_eq]; simp
  · exact h s3 _ md s.toks kb1 B3 hmd' hnb (((((sm_refl s).set s.heap (s.toks + 1)).trans m1).trans m2).trans m3)
theorem Ents.mem : ∀ {l : List (Str × Value)} {es : List DictEntry} {e : DictEntry}, Ents l es → e ∈ es → ∃ x t v hh, e = ⟨hh, .str x t, v⟩ ∧ (x, v) ∈ l
  | [], es, e, q, h => by rw [show es = [] from q] at h; cases h
  | (y, v) :: r, es, e, q, h => by
    obtain ⟨hh, t, es', rfl, q'⟩ := q
    rcases List.mem_cons.mp h with rfl | h
    · exact ⟨y, t, v, hh, rfl, .head _⟩
    · obtain ⟨x, t', v', hh', h1, h2⟩ := q'.mem h
      exact ⟨x, t', v', hh', h1, .tail _ h2⟩
theorem forArrAll {α β : Type} {M : Model} {es : Array α} {b : β} {f : α → β → Sem (ForInStep β)} {Q : β → Shared → Prop}
    (hP : ∀ e ∈ es.toList, wpAny M A (f e b) (fun r s' => r = .yield b ∧ s' = s) E s) (hq : Q b s) : wpAny M A (forIn es b f) Q E s := by
  rw [← Array.forIn_toList]
  generalize es.toList = l at hP
  induction l with
  | nil => rw [List.forIn_nil]; exact wpAny_pure hq
  | cons e l ih =>
    rw [List.forIn_cons]
    refine wpAny_bind (wpAny_mono (hP e (.head _)) (fun r s' hr => ?_) fun _ _ e => e)
    obtain ⟨rfl, rfl⟩ := hr
    exact ih fun e he => hP e (.tail _ he)
noncomputable def NoHook (M : Model) (h : Heap) (v : Value) : Prop := (∀ x t, Builtin.laidUnderItsOwnName (.str x t) v = false) ∧ Looks M h (specialOf v "__set_name__") none
theorem nh_type {M : Model} {h : Heap} {T : String} {a : Addr} {o : Obj} (ho : h.get? a = some o) (hc : o.cls = .type T) (hT : fastLookup T "__set_name__" = some none) : NoHook M h (.ref a) := by
  refine ⟨fun x t => rfl, fun A Q E s k q => ?_⟩
  have hTy : s.TypeIs (.ref a) T := ⟨_, k _ _ ho, hc⟩
  exact wpAny_specialOf hTy (by rw [typeLookup_type, builtinLookup_eq_fast, hT]) q
theorem nh_str {M : Model} {h : Heap} {x : Str} {t : Tok} : NoHook M h (.str x t) := ⟨fun x t => rfl, fun A Q E s k q => by
  have hTy : s.TypeIs (.str x t) "str" := rfl
  exact wpAny_specialOf hTy (by rw [typeLookup_type, builtinLookup_eq_fast]; kernel_rfl) q⟩
theorem nh_int {M : Model} {h : Heap} {x : Int} {t : Tok} : NoHook M h (.int x t) := ⟨fun x t => rfl, fun A Q E s k q => by
  have hTy : s.TypeIs (.int x t) "int" := rfl
  exact wpAny_specialOf hTy (by rw [typeLookup_type, builtinLookup_eq_fast]; kernel_rfl) q⟩
theorem nh_none {M : Model} {h : Heap} : NoHook M h .none := ⟨fun x t => rfl, fun A Q E s k q => by
  have hTy : s.TypeIs .none "NoneType" := rfl
  exact wpAny_specialOf hTy (by rw [typeLookup_type, builtinLookup_eq_fast]; kernel_rfl) q⟩
theorem NoHook.keeps {M : Model} {h h' : Heap} {v : Value} (x : NoHook M h v) (k : Stays h h') : NoHook M h' v := ⟨x.1, x.2.keeps k⟩
end
end Mine
end

section
open PySem PySem.W PyProof.Rows PySem.Calls
namespace Mine
section
variable {prog : Program} {w : World} {A : Around} {E : Value → Shared → Prop} {s : Shared} {b : Heap} {N a : Addr} {cd : ClassData} {sl : Array (Option Value)} {l : List (Str × Value)}
noncomputable abbrev supObj (a : Addr) : Obj := { cls := .type "super", dict := none, data := .fields #[.ref a, .ref a, .ref a], slots := #[] }
theorem ms_isType {M : Model} {Q : Bool → Shared → Prop} (B : MS b s.heap N a cd sl l) (h : Q true s) : wpAny M A (isType (.ref a)) Q E s := by
  unfold isType loadHead
  exact wpAny_bind (wpAny_loadPart B.cls (wpAny_pure h))
theorem ms_sub {M : Model} {Q : Bool → Shared → Prop} (B : MS b s.heap N a cd sl l) (hm : cd.mro = [.ref a, .type "object"]) (h : Q true s) : wpAny M A (isSubtype (.ref a) (.ref a)) Q E s := by
  unfold isSubtype
  refine wpAny_bind (wpAny_bind (wpAny_bind (wpAny_load B.cls (wpAny_pure (wpAny_pure ?_)))))
  rw [hm]
  refine KFB.if_not rfl ?_
  refine wpAny_pure ?_
  have : List.contains [Value.ref a, .type "object"] (.ref a) = true := by simp
  rw [this]; exact h
theorem sup_make {Q : Value → Shared → Prop} (B : MS b s.heap N a cd sl l) (hm : cd.mro = [.ref a, .type "object"])
    (h : ∀ s' so, s'.heap.get? so = some (supObj a) → Stays s.heap s'.heap → Sm s s' → Q (.ref so) s') : wpAny (model prog w) A (call (.type "super") [.ref a, .ref a]) Q E s := by
  refine ks_callType_codesW (Q₁ := fun obj s₁ => obj = .ref s.heap.objs.size ∧ s₁ = { s with heap := s.heap.push { cls := .type "super", data := .fields #[.none, .none, .none] } }) F.ks_called_super (fun hq => ?_) F.ks_entry_super_init
    (ks_code_super_new _ _ ⟨rfl, rfl⟩) fun obj s₁ h₁ => ?_
  · unfold checkTypeCall
    refine KFB.if_so (c := ("super" == "super") && true) (by decide) ?_
    refine wpAny_bind (m := isType _) (ms_isType B ?_)
    refine KFB.if_not rfl ?_
    refine wpAny_of_eq (a := ()) (by kernel_rfl) hq
  obtain ⟨rfl, rfl⟩ := h₁
  have hso : (s.heap.push { cls := .type "super", data := .fields #[.none, .none, .none] }).get? s.heap.objs.size = some { cls := .type "super", dict := none, data := .fields #[.none, .none, .none], slots := #[] } := Heap.get?_push_at rfl rfl
  have B' := B.stay (stays_push s.heap { cls := .type "super", data := .fields #[.none, .none, .none] })
  refine ⟨⟨_, hso, rfl⟩, F.ks_initArgs_super _ _ _, ?_⟩
  wp_delta
  refine wpAny_bind (wpAny_pure ?_)
  refine wpAny_bind (wpAny_pure ?_)
  refine wpAny_bind (ms_isType (s := { s with heap := s.heap.push { cls := .type "super", data := .fields #[.none, .none, .none] } }) B' ?_)
  refine KFB.if_not rfl ?_
  refine KFB.if_not rfl ?_
  refine wpAny_bind (wpAny_bind (ms_isType (s := { s with heap := s.heap.push { cls := .type "super", data := .fields #[.none, .none, .none] } }) B' ?_))
  refine KFB.if_so rfl ?_
  refine wpAny_bind (ms_sub (s := { s with heap := s.heap.push { cls := .type "super", data := .fields #[.none, .none, .none] } }) B' hm ?_)
  refine KFB.if_so rfl ?_
  refine wpAny_pure ?_
  refine ks_wpAny_super_set3 hso fun h' e k => ⟨rfl, h _ _ e (fun y o ey => k y o (Nat.ne_of_lt (Heap.lt_size ey)) (Heap.get?_push_of_some _ ey)) ⟨_, _, rfl⟩⟩
noncomputable abbrev subObj (a : Addr) : Obj := { cls := .type "builtin_function_or_method", data := .fields #[.builtin "object.__init_subclass__", .ref a] }
theorem own_is : builtinOwn "object" "__init_subclass__" = some (.builtin "object.__init_subclass__") := by rw [builtinOwn_eq_fast]; kernel_rfl
theorem type_is : typeOf (.builtin "object.__init_subclass__") = pure (.type "classmethod_descriptor") := by show builtinType _ = _; rw [builtinType_eq_fast]; kernel_rfl
theorem owner_is : (kfb_private% "ownerAndName") "object.__init_subclass__" = ("object", "__init_subclass__") := by first | decide +kernel | kernel_rfl
theorem is_get {P : Fin → Shared → Prop} (B : MS b s.heap N a cd sl l) (hm : cd.mro = [.ref a, .type "object"]) (h : ∀ s' so, s'.heap.get? so = some (subObj a) → Stays s.heap s'.heap → Sm s s' → P (.done (.ret (.ref so))) s') :
    wpAny (model prog w) A (Builtin.«classmethod_descriptor.__get__» ⟨[.builtin "object.__init_subclass__", .none, .ref a], []⟩) P E s := by
  unfold Builtin.«classmethod_descriptor.__get__»
  refine wpAny_bind (wpAny_of_eq (a := (.builtin "object.__init_subclass__", none, some (.ref a))) (by first | rfl | kernel_rfl) ?_)
  simp only [owner_is]
  refine wpAny_bind (wpAny_of_eq (a := .ref a) rfl ?_)
  refine wpAny_bind (ms_isType B ?_)
  refine KFB.if_not rfl ?_
  have hsub : ∀ Q : Bool → Shared → Prop, Q true s → wpAny (model prog w) A (isSubtype (.ref a) (.type "object")) Q E s := fun Q hq => by
    unfold isSubtype
    refine wpAny_bind (wpAny_bind (wpAny_bind (wpAny_load B.cls (wpAny_pure (wpAny_pure ?_)))))
    rw [hm]
    refine KFB.if_not rfl ?_
    refine wpAny_pure ?_
    have : List.contains [Value.ref a, .type "object"] (.type "object") = true := by simp
    rw [this]; exact hq
  refine wpAny_bind (hsub _ ?_)
  refine KFB.if_not rfl ?_
  exact wpAny_bind (any_newObj (by show 2 ≤ sizeLine + 2; omega) rfl fun s' so h1 h2 _ h3 => wpAny_pure (h s' so h1 h2 h3))
theorem forIn1E {α β : Type} {M : Model} {x : α} {b : β} {f : α → β → Sem (ForInStep β)} {l : List α} {Q : β → Shared → Prop} (hl : l = [x])
    (h : wpAny M A (f x b) (fun r s' => match r with | .done b' => Q b' s' | .yield b' => Q b' s') E s) : wpAny M A (forIn l b f) Q E s := by subst hl; exact forIn1 h
theorem sup_get {so : Addr} {tk : Tok} {Q : Fin → Shared → Prop} (B : MS b s.heap N a cd sl l) (hm : cd.mro = [.ref a, .type "object"]) (hop : Looks (model prog w) s.heap (opaqueClassAbove (.ref a)) none) (hso : s.heap.get? so = some (supObj a))
    (h : ∀ s' f, s'.heap.get? f = some (subObj a) → Stays s.heap s'.heap → Sm s s' → Q (.done (.ret (.ref f))) s') :
    wpAny (model prog w) A (Builtin.«super.__getattribute__» ⟨[.ref so, .str "__init_subclass__" tk], []⟩) Q E s := by
  have hdt : (supObj a).data = .fields #[.ref a, .ref a, .ref a] := rfl
  wp_delta
  refine wpAny_bind (wpAny_pure ?_)
  refine KFB.if_not rfl ?_
  refine wpAny_bind (wpAny_pure ?_)
  refine wpAny_bind (wpAny_field (i := 0) hso hdt rfl ?_)
  refine wpAny_bind (wpAny_field (i := 1) hso hdt rfl ?_)
  refine wpAny_bind (wpAny_field (i := 2) hso hdt rfl ?_)
  refine KFB.if_not (by rfl) ?_
  refine wpAny_bind (m := notOfAnOpaqueClass _ _ _) (ks_wpAny_notOpaque hop ?_)
  refine KFB.if_not (by rfl) ?_
  refine wpAny_bind (wpAny_bind (wpAny_bind (wpAny_load B.cls (wpAny_pure (wpAny_pure ?_)))))
  refine wpAny_bind (forIn1E (x := Value.type "object") (by rw [hm]; simp) ?_)
  refine wpAny_bind (wpAny_of_eq (a := some (.builtin "object.__init_subclass__")) (by show pure (builtinOwn _ _) = _; rw [own_is]) ?_)
  refine wpAny_bind (wpAny_of_eq type_is ?_)
  refine wpAny_bind (wpAny_of_eq KFB.slot_get.lookup ?_)
  refine wpAny_bind (m := holding _ (call _ _)) (wpAny_holding ?_)
  rw [if_pos (show (#[Value.ref a, Value.ref a, Value.ref a][1] == #[Value.ref a, Value.ref a, Value.ref a][2]) = true by simp)]
  refine wpAny_call_entry KFB.slot_get type_is KFB.entry_get (is_get (s := s) B hm fun s' f h1 h2 h3 => ⟨_, rfl, ?_⟩) (KFB.args_get _ _ _)
  exact wpAny_pure (wpAny_pure (h s' f h1 h2 h3))
theorem sup_attr {so : Addr} {Q : Value → Shared → Prop} (B : MS b s.heap N a cd sl l) (hm : cd.mro = [.ref a, .type "object"]) (hop : Looks (model prog w) s.heap (opaqueClassAbove (.ref a)) none) (hso : s.heap.get? so = some (supObj a))
    (h : ∀ s' f, s'.heap.get? f = some (subObj a) → Stays s.heap s'.heap → Sm s s' → Q (.ref f) s') : wpAny (model prog w) A (getAttr (.ref so) "__init_subclass__") Q E s := by
  have hT : ∀ t', ({ s with toks := t' } : Shared).TypeIs (.ref so) "super" := fun _ => ⟨_, hso, rfl⟩
  have hlk := F.ks_slot_super_ga.lookup
  unfold getAttr getAttrBy
  refine wpAny_bind (wpAny_mkText (wpAny_holding (wpAny_bind (wpAny_typeOf (hT _) (wpAny_bind (wpAny_of_eq hlk ?_))))))
  show wpAny _ _ (getAttrByItsOwn (.ref so) (.str "__init_subclass__" s.toks) (.type "super") (.builtin "super.__getattribute__") true false) _ _ _
  unfold getAttrByItsOwn hookBefore callGetattribute boundAndCalled
  refine wpAny_bind (wpAny_of_eq (show (if onTheHeap (.type "super") then typeLookup (.type "super") "__getattr__" else pure none) = pure none from rfl) ?_)
  refine wpAny_bind (wpAny_attempt (wpAny_holding ?_))
  show wpAny _ _ (bindSpecial (.builtin "super.__getattribute__") (.ref so) >>= _) _ _ _
  refine wpAny_bind (wpAny_of_eq (F.ks_slot_super_ga.bind _) ?_)
  refine wpAny_call_entry F.ks_slot_super_ga (hT _) F.ks_entry_super_ga (sup_get (s := { s with toks := s.toks + 1 }) B hm hop hso fun s' f h1 h2 h3 => ⟨_, rfl, wpAny_pure ?_⟩) (F.ks_gaArgs_super _ _)
  exact h s' f h1 h2 (((sm_refl s).set s.heap (s.toks + 1)).trans h3)
theorem sig_is : Manifest.signature? "object.__init_subclass__" = some ⟨.noArgs, "object.__init_subclass__", "__init_subclass__", .cls, []⟩ := by kernel_rfl
theorem entry_is : entryFor table "object.__init_subclass__" = some Builtin.«object.__init_subclass__» := entryFor_of_tree (by kernel_rfl)
theorem kind_is : builtinKind "object.__init_subclass__" = some .classMethod := by kernel_rfl
theorem varargs_is : Manifest.varargsMethods.contains "object.__init_subclass__" = false := by decide +kernel
theorem check_is (a : Addr) : Bind.checkArgs "object.__init_subclass__" ⟨.noArgs, toString ("cmp_to_key.<locals>.K" : Str).toString ++ toString "." ++ toString (Bind.lastOf "object.__init_subclass__"), "__init_subclass__", .cls, []⟩ ⟨[.ref a], []⟩ = pure () := by kernel_rfl
theorem sup_call {f : Addr} {Q : Value → Shared → Prop} (B : MS b s.heap N a cd sl l) (hqn : cd.qualname = "cmp_to_key.<locals>.K") (hm : cd.mro = [.ref a, .type "object"]) (hf : s.heap.get? f = some (subObj a)) (h : Q .none s) : wpAny (model prog w) A (call (.ref f) []) Q E s := by
  refine wpAny_call (codeAny_of_tree ?_)
  show wpAny _ _ (callAny (.ref f) _) _ _ _
  unfold callAny
  refine wpAny_bind (wpAny_load hf ?_)
  dsimp only
  rw [if_pos (by decide)]
  show wpAny _ _ (checkBoundCall "object.__init_subclass__" ⟨[.ref a], []⟩ >>= fun _ => again (.builtin "object.__init_subclass__" ⟨[.ref a], []⟩)) _ _ _
  refine wpAny_bind ?_
  unfold checkBoundCall
  rw [sig_is]
  dsimp only
  rw [kind_is]
  dsimp only
  rw [if_neg (by decide)]
  refine wpAny_bind (wpAny_isInstance (T := "type") ⟨_, B.cls, rfl⟩ sub_type_module ?_)
  rw [varargs_is]
  refine KFB.if_not rfl ?_
  refine wpAny_bind (m := isType _) (ms_isType B ?_)
  refine KFB.if_so rfl ?_
  refine wpAny_bind (wpAny_pure ?_)
  refine wpAny_bind (wpAny_bind (wpAny_load B.cls (wpAny_pure ?_)))
  refine wpAny_bind (wpAny_typeOf (T := "type") ⟨_, B.cls, rfl⟩ ?_)
  refine KFB.if_so rfl ?_
  rw [hqn]
  refine wpAny_of_eq (check_is a) ?_
  refine wpAny_pure ⟨plainId_quiet (by decide +kernel) _, codeAny_builtin entry_is ?_⟩
  refine wpAny_of_eq (a := .done (.ret .none)) (by kernel_rfl) ?_
  exact h
end
end Mine
end

section
open PySem PySem.W PyProof.Rows PySem.Calls
namespace Mine
section
variable {prog : Program} {w : World} {A : Around} {E : Value → Shared → Prop} {s : Shared}
noncomputable abbrev clsK (N a : Addr) : ClassData := { name := "K", bases := [.type "object"], mro := [.ref a, .type "object"], ns := N, qualname := "cmp_to_key.<locals>.K", hasDict := false, slotNames := ["obj"], hasDel := false }
noncomputable abbrev slotsK (bT : Addr) (tn tq : Tok) : Array (Option Value) := #[some (.ref bT), none, some (.str "K" tn), some (.str "cmp_to_key.<locals>.K" tq), some (.builtin "object.__new__"), some (.bool false)]
noncomputable abbrev classL (v0 v2 : Value) (sl f0 f1 f2 f3 f4 f5 sa md : Addr) : List (Str × Value) :=
  [("__module__", v0), ("__firstlineno__", v2), ("__slots__", .ref sl), ("__init__", .ref f0), ("__lt__", .ref f1), ("__gt__", .ref f2), ("__eq__", .ref f3), ("__le__", .ref f4), ("__ge__", .ref f5), ("__hash__", .none), ("__static_attributes__", .ref sa), ("obj", .ref md), ("__doc__", .none)]
noncomputable def qualK : Str := "cmp_to_key.<locals>.K"
theorem type_new {bT D : Addr} {tn : Tok} {v0 v2 : Value} {tq ts : Tok} {sl f0 f1 f2 f3 f4 f5 sa : Addr} {Q : Fin → Shared → Prop}
    (hop : ∀ C, Looks (model prog w) s.heap (opaqueClassAbove (.ref C)) none) (nh : ∀ v ∈ [v0, v2, .ref sl, .ref f0, .ref f1, .ref f2, .ref f3, .ref f4, .ref f5, .ref sa], NoHook (model prog w) s.heap v)
    (hDs : D ≠ sysModules) (hb : s.heap.get? bT = some objT) (hD : Dct s.heap D (bodyL v0 v2 ("cmp_to_key.<locals>.K" : Str) tq sl f0 f1 f2 f3 f4 f5 sa)) (hsl : s.heap.get? sl = some { cls := .type "list", data := .seq #[.str "obj" ts] })
    (h : ∀ s' b' N a md t, Stays s.heap b' → MS b' s'.heap N a (clsK N a) (slotsK bT tn tq) (classL v0 v2 sl f0 f1 f2 f3 f4 f5 sa md) → b'.get? md = some (mdObj a t) → Sm s s' → Q (.done (.ret (.ref a))) s') :
    wpAny (model prog w) A (Builtin.«type.__new__» ⟨[.type "type", .str "K" tn, .ref bT, .ref D], []⟩) Q E s := by
  have hTb : s.TypeIs (.ref bT) "tuple" := ⟨_, hb, rfl⟩
  have hTd : s.TypeIs (.ref D) "dict" := by obtain ⟨es, n, e, _⟩ := hD; exact ⟨_, e, rfl⟩
  wp_delta
  refine wpAny_bind (m := asStr? _) (wpAny_pure ?_)
  wp_delta
  refine wpAny_bind (wpAny_isInstance (b := true) hTb (by rw [isSubtype_type]; kernel_rfl) ?_)
  refine KFB.if_not rfl ?_
  refine wpAny_bind (wpAny_isInstance (b := true) hTd (by rw [isSubtype_type]; kernel_rfl) ?_)
  refine KFB.if_not rfl ?_
  wp_delta
  refine wpAny_bind (wpAny_bind (wpAny_load hb (wpAny_pure ?_)))
  refine KFB.if_not (c := D == sysModules) (by simpa using hDs) ?_
  refine wpAny_bind (m := dictEntries D) (dct_entries hD fun es q => ?_)
  refine wpAny_bind (wpAny_specialOf hTd (r := some (.builtin "dict.__iter__")) (by rw [typeLookup_type, builtinLookup_eq_fast]; kernel_rfl) ?_)
  refine KFB.if_so (c := es.isEmpty || (some (Value.builtin "dict.__iter__") == some (Value.builtin "dict.__iter__"))) (by simp) ?_
  refine wpAny_bind (wpAny_pure ?_)
  refine wpAny_bind (wpAny_holding (slots_read q rfl rfl hsl fun s1 k1 m1 => ?_))
  refine wpAny_bind (any_newObj (by show es.size ≤ sizeLine + 1; rw [← Array.length_toList, q.length]; exact Nat.le_succ_of_le (sizeLine_ge (by show 12 ≤ _; decide))) rfl fun s2 N hN k2 hnN m2 => ?_)
  have hDN : Dct s2.heap N (bodyL v0 v2 ("cmp_to_key.<locals>.K" : Str) tq sl f0 f1 f2 f3 f4 f5 sa) := ⟨es, _, hN, q⟩
  refine KFB.if_not (c := !(es.any fun e => e.key.isStr "__module__")) (by rw [nt_any q]; rfl) ?_
  refine wpAny_bind (wpAny_of_eq (a := ()) (by kernel_rfl) ?_)
  refine KFB.if_not (c := ("K" : Str).cps.contains 0) (by kernel_rfl) ?_
  refine wpAny_bind (dct_get' (r := some (.str ("cmp_to_key.<locals>.K" : Str) tq)) hDN (by kernel_rfl) ?_)
  refine wpAny_bind (dct_get' (r := some (.str ("cmp_to_key.<locals>.K" : Str) tq)) hDN (by kernel_rfl) ?_)
  refine wpAny_bind (wpAny_pure (wpAny_bind (wpAny_pure ?_)))
  refine wpAny_bind (dct_get' (r := none) hDN (by kernel_rfl) ?_)
  refine wpAny_bind (any_alloc rfl fun s3 a hA k3 hnA m3 => ?_)
  have k30 : Stays s.heap s3.heap := fun b o e => k3 _ _ (k2 _ _ (k1 _ _ e))
  have bN : s.heap.get? N = none := by
    cases z : s.heap.get? N with
    | none => rfl
    | some o => rw [k1 _ _ z] at hnN; cases hnN
  have bA : s.heap.get? a = none := by
    cases z : s.heap.get? a with
    | none => rfl
    | some o => rw [k2 _ _ (k1 _ _ z)] at hnA; cases hnA
  have B3 : MS s.heap s3.heap N a { name := "K", bases := [.type "object"], mro := [], ns := N, qualname := ("cmp_to_key.<locals>.K" : Str) } #[] (bodyL v0 v2 ("cmp_to_key.<locals>.K" : Str) tq sl f0 f1 f2 f3 f4 f5 sa) := ⟨k30, bN, bA, hDN.keep fun o e => k3 _ _ e, hA⟩
  refine KFB.if_so (c := !false) rfl ?_
  refine wpAny_bind (ms_slot (sl' := #[some (.ref bT)]) B3 (by decide) rfl fun s4 B4 m4 => ?_)
  refine wpAny_bind (ms_slot (sl' := #[some (.ref bT), none, some (.str "K" tn)]) B4 (by decide) rfl fun s5 B5 m5 => ?_)
  refine wpAny_bind (ms_slot (sl' := #[some (.ref bT), none, some (.str "K" tn), some (.str ("cmp_to_key.<locals>.K" : Str) tq)]) B5 (by decide) rfl fun s6 B6 m6 => ?_)
  refine wpAny_bind (ms_del B6 (by kernel_rfl) fun s7 B7 m7 => ?_)
  have B7' : MS s.heap s7.heap N a _ _ (bodyL2 v0 v2 sl f0 f1 f2 f3 f4 f5 sa) := B7
  refine wpAny_bind (ms_get (r := none) B7' (by kernel_rfl) ?_)
  refine wpAny_bind (forIn2 (wpAny_bind (ms_get (r := none) B7' (by kernel_rfl) (wpAny_pure ⟨_, rfl, wpAny_bind (ms_get (r := none) B7' (by kernel_rfl) (wpAny_pure ⟨_, rfl, ?_⟩))⟩))))
  refine wpAny_bind (ms_get (r := none) B7' (by kernel_rfl) ?_)
  refine wpAny_bind (ms_get (r := none) B7' (by kernel_rfl) ?_)
  refine wpAny_bind (wpAny_of_eq nt_hook ?_)
  refine wpAny_bind (m := Builtin.linearize [.type "object"] mroOf) (wpAny_of_eq nt_lin (wpAny_bind (wpAny_pure ?_)))
  have hfil : List.filter (fun x => x != Value.ref a) (Value.ref a :: [Value.type "object"]) = [Value.type "object"] := by
    rw [List.filter_cons]; simp
  refine wpAny_bind (wpAny_of_eq (a := false) ?_ ?_)
  · rw [hfil]; kernel_rfl
  refine wpAny_bind (ms_upd (cd' := { name := "K", bases := [.type "object"], mro := [.ref a, .type "object"], ns := N, qualname := "cmp_to_key.<locals>.K", hasDel := false }) B7' ?_ rfl fun s8 B8 m8 => ?_)
  · show ({ name := "K", bases := [.type "object"], mro := [.ref a, .type "object"], ns := N, qualname := "cmp_to_key.<locals>.K", hasDel := (es.any fun e => e.key.isStr "__del__") || false } : ClassData) = _
    rw [nt_any q]; rfl
  refine wpAny_bind (m := Bind.madeBy (.type "object")) (wpAny_of_eq nt_made ?_)
  refine wpAny_bind (ms_slot (sl' := #[some (.ref bT), none, some (.str "K" tn), some (.str ("cmp_to_key.<locals>.K" : Str) tq), some (.builtin "object.__new__")]) B8 (by decide) rfl fun s9 B9 m9 => ?_)
  refine wpAny_bind (ms_refresh B9 rfl rfl rfl (by kernel_rfl) ?_)
  refine wpAny_bind (ms_install B9 (by show 11 < 1000; decide) (by kernel_rfl) (fun s10 b1 md tmd kb B10 hmd hmb m10 => ?_) rfl)
  refine wpAny_bind (m := Builtin.Slots.givesWeak (.type "object")) (wpAny_of_eq nt_weak ?_)
  refine wpAny_bind (ms_slot (sl' := #[some (.ref bT), none, some (.str "K" tn), some (.str ("cmp_to_key.<locals>.K" : Str) tq), some (.builtin "object.__new__"), some (.bool false)]) B10 (by decide) rfl fun s11 B11 m11 => ?_)
  refine KFB.if_not (c := false) rfl ?_
  refine KFB.if_not (c := false) rfl ?_
  refine wpAny_bind (ms_get (r := none) B11 (by kernel_rfl) ?_)
  refine KFB.if_so (c := true) rfl ?_
  refine wpAny_bind (ms_set B11 fun s12 B12 m12 => ?_)
  refine wpAny_bind (ms_get (r := some (.ref f3)) B12 (by kernel_rfl) ?_)
  refine KFB.if_so (c := true) rfl ?_
  refine wpAny_bind (ms_get (r := some .none) B12 (by kernel_rfl) ?_)
  refine KFB.if_not (c := false) rfl ?_
  refine wpAny_bind (forIn1 (x := Value.type "object") ?_)
  refine wpAny_bind (wpAny_of_eq (nt_note a) (wpAny_pure ?_))
  refine (?_ : wpAny _ _ _ _ _ _)
  wp_delta
  have B12' : MS b1 s12.heap N a (clsK N a) (slotsK bT tn tq) (classL v0 v2 sl f0 f1 f2 f3 f4 f5 sa md) := B12
  have ks : Stays s.heap s12.heap := fun y o e => B12.keep _ _ (kb _ _ e)
  have nh2 : ∀ p ∈ classL v0 v2 sl f0 f1 f2 f3 f4 f5 sa md, NoHook (model prog w) s12.heap p.2 := fun p hp => by
    have up : ∀ v ∈ [v0, v2, .ref sl, .ref f0, .ref f1, .ref f2, .ref f3, .ref f4, .ref f5, .ref sa], NoHook (model prog w) s12.heap v := fun v hv => (nh v hv).keeps ks
    simp only [List.mem_cons, List.not_mem_nil, or_false] at hp up
    rcases hp with rfl | rfl | rfl | rfl | rfl | rfl | rfl | rfl | rfl | rfl | rfl | rfl | rfl
    all_goals first
      | exact nh_none
      | exact nh_type (B12.keep _ _ hmd) rfl (by kernel_rfl)
      | exact up _ (by simp)
  refine wpAny_bind (wpAny_tryCatch (wpAny_holding ?_))
  refine wpAny_bind (dct_entries B12'.ns fun es2 q2 => ?_)
  refine wpAny_bind (forArrAll (fun e he => ?_) ?_)
  · obtain ⟨x, t, v, hh0, rfl, hm⟩ := q2.mem he
    exact wpAny_bind (wpAny_pure (KFB.if_not rfl (wpAny_pure ⟨rfl, rfl⟩)))
  refine KFB.if_not rfl ?_
  refine wpAny_bind (dct_entries B12'.ns fun es3 q3 => ?_)
  refine wpAny_bind (forArrAll (fun e he => ?_) ?_)
  · obtain ⟨x, t, v, hh0, rfl, hm⟩ := q3.mem he
    have n := nh2 _ hm
    refine KFB.if_not (n.1 x t) ?_
    refine wpAny_bind (n.2.here ?_)
    exact wpAny_pure ⟨rfl, rfl⟩
  refine wpAny_bind (sup_make B12' rfl fun s13 so hso k13 m13 => ?_)
  have B13 := B12'.stay k13
  refine wpAny_bind (wpAny_holding (sup_attr B13 rfl ((hop a).keeps fun y o e => k13 _ _ (ks _ _ e)) hso fun s14 sf hsf k14 m14 => ?_))
  have B14 := B13.stay k14
  refine wpAny_bind (sup_call B14 rfl rfl hsf (wpAny_pure ?_))
  refine wpAny_pure (h s14 b1 N a md tmd kb B14 hmd ?_)
  exact (((((((((((((m1.trans m2).trans m3).trans m4).trans m5).trans m6).trans m7).trans m8).trans m9).trans m10).trans m11).trans m12).trans m13).trans m14)
end
end Mine
end

section
open PySem PySem.W PyProof.Rows PySem.Calls
namespace Mine
section
variable {prog : Program} {w : World} {A : Around} {E : Value → Shared → Prop} {s : Shared}
theorem entry_tnew : entryFor table "type.__new__" = some Builtin.«type.__new__» := entryFor_of_tree (by kernel_rfl)
theorem entry_tinit : entryFor table "type.__init__" = some Builtin.«type.__init__» := entryFor_of_tree (by kernel_rfl)
theorem slot_tinit : Slot "type" "__init__" "type.__init__" := .of (owner := "type") (n := "__init__") (by rw [typeLookup_type, builtinLookup_eq_fast]; kernel_rfl) (by decide +kernel) (by decide +kernel) (by decide +kernel)
  (by first | exact .inl (by decide +kernel) | exact .inr (by decide +kernel)) (by rw [isSubtype_type]; kernel_rfl)
theorem check_tcall (a b c : Value) : checkTypeCall "type" ⟨[a, b, c], []⟩ = pure () := by kernel_rfl
theorem check_tnew (a b c : Value) : checkBuiltinCall "type.__new__" ⟨[.type "type", a, b, c], []⟩ = pure () := by kernel_rfl
theorem args_tinit (a b c d : Value) : argsOk "type.__init__" ⟨[a, b, c, d], []⟩ := by unfold argsOk; kernel_rfl
theorem made_type : Bind.madeBy (.type "type") = pure (some "type.__new__") := by kernel_rfl
theorem mro_type : mroOf (.type "type") = pure [.type "type", .type "object"] := by rw [mroOf_type]; kernel_rfl
theorem call_type {bT D : Addr} {tn : Tok} {v0 v2 : Value} {tq ts : Tok} {sl f0 f1 f2 f3 f4 f5 sa : Addr} {Q : Value → Shared → Prop}
    (hop : ∀ C, Looks (model prog w) s.heap (opaqueClassAbove (.ref C)) none) (nh : ∀ v ∈ [v0, v2, .ref sl, .ref f0, .ref f1, .ref f2, .ref f3, .ref f4, .ref f5, .ref sa], NoHook (model prog w) s.heap v)
    (hDs : D ≠ sysModules) (hb : s.heap.get? bT = some objT) (hD : Dct s.heap D (bodyL v0 v2 "cmp_to_key.<locals>.K" tq sl f0 f1 f2 f3 f4 f5 sa)) (hsl : s.heap.get? sl = some { cls := .type "list", data := .seq #[.str "obj" ts] })
    (h : ∀ s' b' N a md t, Stays s.heap b' → MS b' s'.heap N a (clsK N a) (slotsK bT tn tq) (classL v0 v2 sl f0 f1 f2 f3 f4 f5 sa md) → b'.get? md = some (mdObj a t) → Sm s s' → Q (.ref a) s') :
    wpAny (model prog w) A (call (.type "type") [.str "K" tn, .ref bT, .ref D]) Q E s := by
  refine wpAny_call (codeAny_of_tree ?_)
  show wpAny _ _ (callAny (.type "type") _) _ _ _
  refine wpAny_pure ⟨Code.quiet_builtin _ (by decide +kernel), codeAny_builtin F.entry_type_call ?_⟩
  rw [Around.under_plain (weight_type_call_type "type" _ []) rfl]
  wp_delta
  refine KFB.if_so (by decide) ?_
  refine KFB.if_not rfl ?_
  refine KFB.if_not rfl ?_
  refine KFB.if_not (by kernel_rfl) ?_
  refine wpAny_bind (wpAny_of_eq (check_tcall _ _ _) ?_)
  refine wpAny_bind (wpAny_of_eq mro_type ?_)
  refine KFB.if_not rfl ?_
  refine wpAny_bind (m := Bind.madeBy (.type "type")) (wpAny_of_eq made_type ?_)
  refine wpAny_bind (m := pure (Value.builtin "type.__new__")) (wpAny_pure ?_)
  refine wpAny_bind (wpAny_holding (wpAny_call ?_))
  refine codeAny_call_builtin (by decide +kernel) entry_tnew (wpAny_of_eq (check_tnew _ _ _) ?_)
  refine type_new hop nh hDs hb hD hsl fun s' b' N a md t k B hmd m => ?_
  have hT : s'.TypeIs (.ref a) "type" := ⟨_, B.cls, rfl⟩
  refine wpAny_bind (wpAny_isInstance hT sub_type_type ?_)
  refine KFB.if_not rfl ?_
  refine wpAny_bind (wpAny_holding (wpAny_callSpecial?_slot hT slot_tinit (wpAny_call_entry slot_tinit hT entry_tinit ?_ (args_tinit _ _ _ _))))
  refine wpAny_of_eq (a := .done (.ret .none)) ?_ ⟨_, rfl, ?_⟩
  · kernel_rfl
  refine KFB.if_not rfl ?_
  exact wpAny_pure (h s' b' N a md t k B hmd m)
end
end Mine
end

section
open PySem PySem.W PyProof.Rows PySem.Calls
namespace Mine
/- the class statement of cmp_to_key, taken apart -/
noncomputable def kStmt (P : Params) : Stmt := (bodyOf (fdOf P 28)).headD (.Pass ⟨0, 0, 0, 0⟩)
noncomputable def kBody (P : Params) : List Stmt := match kStmt P with
  | .ClassDef _ _ _ b _ _ _ _ _ _ _ => b
  | _ => []
noncomputable def kScope (P : Params) : Scope := match kStmt P with
  | .ClassDef _ _ _ _ _ _ sc _ _ _ _ => sc
  | _ => default
noncomputable def kDef (P : Params) (i : Nat) : Stmt := (kBody P).getD i (.Pass ⟨0, 0, 0, 0⟩)
noncomputable def sPar : Stmt → Arguments
  | .FunctionDef _ p _ _ _ _ _ _ _ _ => p
  | _ => default
noncomputable def sBody : Stmt → List Stmt
  | .FunctionDef _ _ b _ _ _ _ _ _ _ => b
  | _ => []
noncomputable def sScope : Stmt → Scope
  | .FunctionDef _ _ _ _ _ _ sc _ _ _ => sc
  | _ => default
noncomputable def kEnv (P : Params) (D cc fr cell : Addr) : Env := { scope := kScope P, locals := D, globals := mainGlobals, qual := "cmp_to_key.<locals>.K" ++ ".", code := .ref cc, frame := some fr, builtins := builtinsNs, cells := [("mycmp", cell)] }
noncomputable abbrev kFn (W : Wd) (i : Nat) (name qual : Str) (clos : List (Str × Addr)) (doc : Value) (c' : Addr) (ctv : Value) : Obj :=
  fnMade name qual (sPar (kDef W.w.params i)) (sBody (kDef W.w.params i)) (sScope (kDef W.w.params i)) clos doc ((W.mg "__name__").getD .none) c' ctv
noncomputable def FnK (W : Wd) (h : Heap) (f : Addr) (i : Nat) (name qual : Str) (clos : List (Str × Addr)) : Prop := ∃ doc c' ctv, h.get? f = some (kFn W i name qual clos doc c' ctv) ∧ h.CodeRec (.ref c') qual
theorem FnK.keep {W : Wd} {h h' : Heap} {f : Addr} {i : Nat} {name qual : Str} {clos : List (Str × Addr)} (x : FnK W h f i name qual clos) (k : Stays h h') : FnK W h' f i name qual clos := by
  obtain ⟨doc, c', ctv, e, c₂, oc, vs, t, e2, hoc, hd, hv⟩ := x
  exact ⟨doc, c', ctv, k _ _ e, c₂, oc, vs, t, e2, k _ _ hoc, hd, hv⟩
noncomputable abbrev sQ (x : Str) : Str := "cmp_to_key.<locals>.K" ++ "." ++ x
section
variable {W : Wd} {A : Around} {s : Shared} {g : Heap} {P D cc fr cell : Addr} {Q : Flow → Shared → Prop}
set_option maxHeartbeats 1000000
theorem body_K {M : Model} {v0 v2 : Value} {tq : Tok} (G : Gd W g) (B : BS g s.heap P D #[] [("__module__", v0), ("__qualname__", .str "cmp_to_key.<locals>.K" tq), ("__firstlineno__", v2)]) (C : CodeHd g cc P)
    (h : ∀ s' g' ps' t0 sl ts f0 f1 f2 f3 f4 f5, Stays g g' → BS g' s'.heap P D ps' [("__module__", .str "cpy313.functools" t0), ("__qualname__", .str "cmp_to_key.<locals>.K" tq), ("__firstlineno__", v2), ("__slots__", .ref sl), ("__init__", .ref f0), ("__lt__", .ref f1), ("__gt__", .ref f2), ("__eq__", .ref f3), ("__le__", .ref f4), ("__ge__", .ref f5), ("__hash__", .none)] →
      g'.get? sl = some { cls := .type "list", data := .seq #[.str "obj" ts] } →
      FnK W g' f0 2 "__init__" (sQ "__init__") [] → FnK W g' f1 3 "__lt__" (sQ "__lt__") [("mycmp", cell)] → FnK W g' f2 4 "__gt__" (sQ "__gt__") [("mycmp", cell)] → FnK W g' f3 5 "__eq__" (sQ "__eq__") [("mycmp", cell)] →
      FnK W g' f4 6 "__le__" (sQ "__le__") [("mycmp", cell)] → FnK W g' f5 7 "__ge__" (sQ "__ge__") [("mycmp", cell)] → Sm s s' → Q .next s') :
    wpAny M A (execs (kBody W.w.params) (kEnv W.w.params D cc fr cell)) Q NoE s := by
  refine cls_str B rfl rfl rfl fun s1 g1 t0 k1 B1 m1 => ?_
  refine cls_list B1 rfl rfl rfl fun s2 g2 sl ts k2 B2 hsl m2 => ?_
  have G2 : Gd W g2 := G.keep fun b o e => k2 _ _ (k1 _ _ e)
  have C2 : CodeHd g2 cc P := C.keeps fun b o e => k2 _ _ (k1 _ _ e)
  refine cls_def G2 B2 C2 rfl rfl rfl rfl rfl rfl (by kernel_rfl) fun s3 g3 f0 c0 ct0 d0 k3 B3 hf0 hc0 m3 => ?_
  have G3 := G2.keep k3
  have C3 := C2.keeps k3
  refine cls_def G3 B3 C3 rfl rfl rfl rfl rfl rfl (by kernel_rfl) fun s4 g4 f1 c1 ct1 d1 k4 B4 hf1 hc1 m4 => ?_
  have G4 := G3.keep k4
  have C4 := C3.keeps k4
  refine cls_def G4 B4 C4 rfl rfl rfl rfl rfl rfl (by kernel_rfl) fun s5 g5 f2 c2 ct2 d2 k5 B5 hf2 hc2 m5 => ?_
  have G5 := G4.keep k5
  have C5 := C4.keeps k5
  refine cls_def G5 B5 C5 rfl rfl rfl rfl rfl rfl (by kernel_rfl) fun s6 g6 f3 c3 ct3 d3 k6 B6 hf3 hc3 m6 => ?_
  have G6 := G5.keep k6
  have C6 := C5.keeps k6
  refine cls_def G6 B6 C6 rfl rfl rfl rfl rfl rfl (by kernel_rfl) fun s7 g7 f4 c4 ct4 d4 k7 B7 hf4 hc4 m7 => ?_
  have G7 := G6.keep k7
  have C7 := C6.keeps k7
  refine cls_def G7 B7 C7 rfl rfl rfl rfl rfl rfl (by kernel_rfl) fun s8 g8 f5 c5 ct5 d5 k8 B8 hf5 hc5 m8 => ?_
  have G8 := G7.keep k8
  have C8 := C7.keeps k8
  refine cls_none B8 rfl rfl rfl fun s9 g9 k9 B9 m9 => wpAny_execs_nil ?_
  have e8 : Stays g8 g9 := k9
  have e7 : Stays g7 g9 := fun b o e => e8 _ _ (k8 _ _ e)
  have e6 : Stays g6 g9 := fun b o e => e7 _ _ (k7 _ _ e)
  have e5 : Stays g5 g9 := fun b o e => e6 _ _ (k6 _ _ e)
  have e4 : Stays g4 g9 := fun b o e => e5 _ _ (k5 _ _ e)
  have e3 : Stays g3 g9 := fun b o e => e4 _ _ (k4 _ _ e)
  have e2 : Stays g2 g9 := fun b o e => e3 _ _ (k3 _ _ e)
  refine h s9 g9 _ t0 sl ts f0 f1 f2 f3 f4 f5 (fun b o e => e2 _ _ (k2 _ _ (k1 _ _ e))) B9 (e2 _ _ hsl) (FnK.keep ⟨d0, c0, ct0, hf0, hc0⟩ e3) (FnK.keep ⟨d1, c1, ct1, hf1, hc1⟩ e4) (FnK.keep ⟨d2, c2, ct2, hf2, hc2⟩ e5) (FnK.keep ⟨d3, c3, ct3, hf3, hc3⟩ e6) (FnK.keep ⟨d4, c4, ct4, hf4, hc4⟩ e7) (FnK.keep ⟨d5, c5, ct5, hf5, hc5⟩ e8) ?_
  exact m1.trans (m2.trans (m3.trans (m4.trans (m5.trans (m6.trans (m7.trans (m8.trans m9)))))))
end
end Mine
end

section
open PySem PySem.W PyProof.Rows PySem.Calls
namespace Mine
structure KAt (W : Wd) (g : Heap) (cell a N md f0 f1 f2 f3 f4 f5 : Addr) : Prop where
  cls : ∃ bT tn tq, g.get? a = some ⟨.type "type", none, .cls (clsK N a), slotsK bT tn tq⟩
  ns : ∃ v0 v2 sl sa, Dct g N (classL v0 v2 sl f0 f1 f2 f3 f4 f5 sa md)
  md : ∃ t, g.get? md = some (mdObj a t)
  init : FnK W g f0 2 "__init__" (sQ "__init__") []
  lt : FnK W g f1 3 "__lt__" (sQ "__lt__") [("mycmp", cell)]
  gt : FnK W g f2 4 "__gt__" (sQ "__gt__") [("mycmp", cell)]
  eq : FnK W g f3 5 "__eq__" (sQ "__eq__") [("mycmp", cell)]
  le : FnK W g f4 6 "__le__" (sQ "__le__") [("mycmp", cell)]
  ge : FnK W g f5 7 "__ge__" (sQ "__ge__") [("mycmp", cell)]
theorem KAt.keep {W : Wd} {g g' : Heap} {cell a N md f0 f1 f2 f3 f4 f5 : Addr} (x : KAt W g cell a N md f0 f1 f2 f3 f4 f5) (k : Stays g g') : KAt W g' cell a N md f0 f1 f2 f3 f4 f5 where
  cls := let ⟨bT, tn, tq, e⟩ := x.cls; ⟨bT, tn, tq, k _ _ e⟩
  ns := let ⟨v0, v2, sl, sa, e⟩ := x.ns; ⟨v0, v2, sl, sa, e.keep fun o e => k _ _ e⟩
  md := let ⟨t, e⟩ := x.md; ⟨t, k _ _ e⟩
  init := x.init.keep k
  lt := x.lt.keep k
  gt := x.gt.keep k
  eq := x.eq.keep k
  le := x.le.keep k
  ge := x.ge.keep k
theorem hideAll_notin {h : Heap} {l : List Addr} {b : Addr} {o : Obj} (e : (hideAll h l).get? b = some o) : b ∉ l := fun hm => by
  rw [hideAll_none _ hm] at e; cases e
section
variable {W : Wd} {A : Around} {s : Shared} {g : Heap} {P c cell : Addr} {ps : Array Value} {env : Env} {pos : Pos} {line : Nat} {Q : Value → Shared → Prop}
theorem any_prep {prog : Program} {w : World} {E : Value → Shared → Prop} {K : Frag} {Q : Option Value → Shared → Prop} (X : K.In s.heap) (h : ∀ s' p, s'.heap.get? p = some prepObj → Stays s.heap s'.heap → Sm s s' → Q (some (.ref p)) s') :
    wpAny (model prog w) A (getAttr? (.type "type") "__prepare__") Q E s := attr_prep X (h _ _ (Heap.get?_push_size _ rfl) (stays_push _ _) ⟨_, _, rfl⟩)
theorem any_cprep {prog : Program} {w : World} {E : Value → Shared → Prop} {b : Addr} {x y : Value} {Q : Value → Shared → Prop} (hb : s.heap.get? b = some prepObj)
    (h : ∀ s' D, s'.heap.get? D = some ⟨.type "dict", none, .dict #[] 0, #[]⟩ → Stays s.heap s'.heap → s.heap.objs.size ≤ D → Sm s s' → Q (.ref D) s') : wpAny (model prog w) A (call (.ref b) [x, y]) Q E s :=
  call_prep hb (h _ _ (Heap.get?_push_size _ rfl) (stays_push _ _) (Nat.le_refl _) ⟨_, _, rfl⟩)
theorem any_classCode {M : Model} {E : Value → Shared → Prop} {env : Env} {c P : Addr} {ps : Array Value} {pos : Pos} {firstLine : Nat} {name qual : Str} {scope : Scope} {Q : Value → Shared → Prop}
    (hc : env.code = .ref c) (C : CodeHd s.heap c P) (hP : s.heap.get? P = some (tabObj ps)) (ht : TriplesOk ps.toList) (hnf : codeAmong pos ps.toList = none)
    (h : ∀ s' c' P', Heap.ExtBut P s.heap s'.heap → s.heap.objs.size ≤ P' → s'.heap.get? P = some (tabObj (ps ++ #[rawInt pos.line, rawInt pos.col, .ref c'])) →
      CodeHd s'.heap c' P' → s'.heap.get? P' = some (tabObj #[]) → Sm s s' → Q (.ref c') s') :
    wpAny M A (classCode env pos firstLine name qual scope) Q E s := wp_classCode hc C hP ht hnf fun c' P' h' tk x _ l2 h1 h2 h3 => h _ c' P' x l2 h1 h2 h3 ⟨h', tk, rfl⟩
theorem BS.stay {g h h' : Heap} {P D : Addr} {ps : Array Value} {l : List (Str × Value)} (x : BS g h P D ps l) (k : Stays h h') : BS (hideAll h' [P, D]) h' P D ps l ∧ Stays g (hideAll h' [P, D]) :=
  x.up (fun b o _ _ e => k b o e) (k _ _ x.tab) x.ok (x.ns.keep fun o e => k _ _ e)
theorem mg_name (G : Gd W g) : ∃ v, W.mg "__name__" = some v := by
  have h : ((nsIn (heap_39 W.w.params) mainGlobals "__name__").bind id).isSome = true := by kernel_rfl!
  cases q : nsIn (heap_39 W.w.params) mainGlobals "__name__" with
  | none => rw [q] at h; cases h
  | some r =>
    cases r with
    | none => rw [q] at h; cases h
    | some v => exact ⟨v, mg_of G.K G.T.g q⟩
theorem opaqueK (G : Gd W g) {h : Heap} (k : Stays g h) (C : Addr) : Looks W.M h (opaqueClassAbove (.ref C)) none :=
  looks_opaque (G.K.keeps k) (by show nsIn (heap_39 W.w.params) cStatics "thirdparty.any" = some none; kernel_rfl!)
theorem any_tup {M : Model} {E : Value → Shared → Prop} {vs : List Value} {Q : Value → Shared → Prop} (h : ∀ s' a, s'.heap.get? a = some { cls := .type "tuple", data := .seq vs.toArray } → Stays s.heap s'.heap → s.heap.get? a = none → Sm s s' → Q (.ref a) s') : wpAny M A (newTextTuple vs) Q E s :=
  wpAny_newTextTuple (h _ _ (Heap.get?_push_size _ rfl) (stays_push _ _) (Heap.get?_none_of_le (Nat.le_refl _)) ⟨_, _, rfl⟩)
theorem FnK.off {h : Heap} {f i : Nat} {name qual : Str} {clos : List (Str × Addr)} (x : FnK W h f i name qual clos) (hP : h.get? P = some (tabObj ps)) (hok : TriplesOk ps.toList) : FnK W (hideAll h [P]) f i name qual clos := by
  obtain ⟨doc, c', ctv, e, c₂, oc, vs, t, e2, hoc, hd, hv⟩ := x
  have n1 : f ≠ P := fun q => by rw [q, hP] at e; cases e
  have n2 : c₂ ≠ P := fun q => by
    rw [q, hP] at hoc
    have e3 := Option.some.inj hoc
    rw [← e3] at hd
    injection hd with hd
    subst hd
    rw [← Array.getElem?_toList] at hv
    generalize ps.toList = l at hv hok
    match l, hok with
    | [], _ => cases hv
    | .int _ _ :: .int _ _ :: _ :: _, _ => cases hv
  exact ⟨doc, c', ctv, hideAll_get _ e (by simp [n1]), c₂, oc, vs, t, e2, hideAll_get _ hoc (by simp [n2]), hd, hv⟩
theorem KAt.off {h : Heap} {a N md f0 f1 f2 f3 f4 f5 : Addr} (x : KAt W h cell a N md f0 f1 f2 f3 f4 f5) (hP : h.get? P = some (tabObj ps)) (hok : TriplesOk ps.toList) : KAt W (hideAll h [P]) cell a N md f0 f1 f2 f3 f4 f5 where
  cls := let ⟨bT, tn, tq, e⟩ := x.cls; ⟨bT, tn, tq, hideAll_get _ e (by
    have n1 : a ≠ P := fun q => by rw [q, hP] at e; cases e
    simp [n1])⟩
  ns := let ⟨v0, v2, sl, sa, es, n, e, q⟩ := x.ns; ⟨v0, v2, sl, sa, es, n, hideAll_get _ e (by
    have n1 : N ≠ P := fun q => by rw [q, hP] at e; cases e
    simp [n1]), q⟩
  md := let ⟨t, e⟩ := x.md; ⟨t, hideAll_get _ e (by
    have n1 : md ≠ P := fun q => by rw [q, hP] at e; cases e
    simp [n1])⟩
  init := x.init.off hP hok
  lt := x.lt.off hP hok
  gt := x.gt.off hP hok
  eq := x.eq.off hP hok
  le := x.le.off hP hok
  ge := x.ge.off hP hok
theorem nh_fn {M : Model} {h : Heap} {f i : Nat} {name qual : Str} {clos : List (Str × Addr)} (x : FnK W h f i name qual clos) : NoHook M h (.ref f) := by
  obtain ⟨doc, c', ctv, e, _⟩ := x
  exact nh_type e rfl (by kernel_rfl)
theorem load_name {M : Model} {E : Value → Shared → Prop} {P : Params} {D cc fr cell : Addr} {mg : Str → Option Value} {v : Value} {l : List (Str × Value)} {Q : Value → Shared → Prop} (hD : Dct s.heap D l) (hl : l.lookup ("__name__" : Str) = none) (hg : s.heap.Ns mainGlobals mg) (hv : mg "__name__" = some v) (h : Q v s) :
    wpAny M A (loadName (kEnv P D cc fr cell) "__name__") Q E s := by
  have hD' := hD
  obtain ⟨es, n, e, q⟩ := hD
  unfold loadName
  refine KFB.if_not (by kernel_rfl) ?_
  have hk : (kEnv P D cc fr cell).blockKind = .class := by kernel_rfl
  have hn : (kEnv P D cc fr cell).kindOf "__name__" = none := by kernel_rfl
  rw [hk, hn]
  refine KFB.if_not (by kernel_rfl) ?_
  have key : ∀ Q : Option Value → Shared → Prop, Q none s → wpAny M A (localGet (kEnv P D cc fr cell) "__name__") Q E s := fun Q hq => by
    unfold localGet
    refine wpAny_bind (wpAny_load (o := ⟨.type "dict", none, .dict es n, #[]⟩) e ?_)
    show wpAny _ _ (if (Value.type "dict" == Value.type "dict") = true then _ else _) _ _ _
    rw [if_pos (by decide)]
    exact dct_get' (N := D) hD' hl hq
  refine wpAny_bind (key _ ?_)
  unfold loadGlobal
  refine wpAny_bind (wpAny_nsGet hg ?_)
  rw [hv]
  exact wpAny_pure h
theorem build_K (G : Gd W g) (k0 : Stays g s.heap) (g23 : g.get? P = none) (hP : s.heap.get? P = some (tabObj ps)) (hok : TriplesOk ps.toList) (hnf : codeAmong pos ps.toList = none) (C : CodeHd g c P)
    (hcode : env.code = .ref c) (hcl : closureFor (kScope W.w.params) { env with globals := mainGlobals } = pure [(("mycmp" : Str), cell)]) (hroom : A.depth < 1000)
    (h : ∀ s' g' ps' a N md f0 f1 f2 f3 f4 f5, Stays g g' → Stays g' s'.heap → g'.get? P = none → s'.heap.get? P = some (tabObj ps') → TriplesOk ps'.toList → KAt W g' cell a N md f0 f1 f2 f3 f4 f5 → s.heap.get? N = none → Sm s s' → Q (.ref a) s') :
    wpAny W.M A (buildClass "K" "cmp_to_key.<locals>.K" [.type "object"] [] (kBody W.w.params) (kScope W.w.params) ["obj"] line { env with globals := mainGlobals } pos none) Q NoE s := by
  wp_delta
  refine wpAny_bind (any_newObj (T := "tuple") (data := .seq #[.type "object"]) (by show 1 ≤ sizeLine; exact sizeLine_ge (by decide)) rfl fun s1 bT hbT k1 _ m1 => ?_)
  refine wpAny_bind (forIn1 (x := Value.type "object") (wpAny_bind (wpAny_of_eq nt_type (KFB.if_so rfl (wpAny_pure ?_)))))
  refine wpAny_bind (wpAny_of_eq nt_tof ?_)
  refine wpAny_bind (m := isType (.type "type")) (wpAny_of_eq (a := true) rfl ?_)
  refine KFB.if_so rfl ?_
  refine wpAny_bind (forIn1 (x := Value.type "object") (wpAny_bind (wpAny_of_eq nt_tof (wpAny_bind (wpAny_of_eq sub_type_type (KFB.if_so rfl (wpAny_bind (wpAny_pure (wpAny_pure ?_)))))))))
  refine wpAny_bind (wpAny_mkText ?_)
  refine wpAny_bind (wpAny_pure ?_)
  refine wpAny_holding ?_
  refine wpAny_bind (any_prep (K := W.K) (G.K.keeps fun b o e => k1 _ _ (k0 b o e)) fun s2 p hp k2 m2 => ?_)
  refine wpAny_bind (any_cprep hp fun s3 D hD k3 hzD m3 => ?_)
  have hnD : s2.heap.get? D = none := Heap.get?_none_of_le hzD
  have hDs : D ≠ sysModules := fun q => by
    obtain ⟨o, es, ep, e, _⟩ := G.T.g
    have h1 := Heap.lt_size (k2 _ _ (k1 _ _ (k0 _ _ e)))
    rw [q] at hzD
    exact absurd (Nat.lt_of_lt_of_le h1 hzD) (by decide)
  have k03 : Stays s.heap s3.heap := fun b o e => k3 _ _ (k2 _ _ (k1 _ _ e))
  have hnD0 : s.heap.get? D = none := by
    cases z : s.heap.get? D with
    | none => rfl
    | some o => rw [k2 _ _ (k1 _ _ z)] at hnD; cases hnD
  refine wpAny_bind (m := notTheModulesDict _ D) (KFB.if_not (c := D == sysModules) (by simpa using hDs) (wpAny_pure ?_))
  have hTd : s3.TypeIs (.ref D) "dict" := ⟨_, hD, rfl⟩
  refine wpAny_bind (wpAny_specialOf hTd (r := some (.builtin "dict.__getitem__")) (by rw [typeLookup_type, builtinLookup_eq_fast]; kernel_rfl) ?_)
  refine KFB.if_not rfl ?_
  refine wpAny_holding ?_
  refine KFB.if_not (by kernel_rfl) ?_
  refine wpAny_bind (wpAny_pure ?_)
  refine KFB.if_not (by kernel_rfl) ?_
  refine wpAny_bind (wpAny_pure ?_)
  have hPs : P ≠ D := fun q => by rw [q, hnD0] at hP; cases hP
  have hP3 := k03 _ _ hP
  have C3 : CodeHd s3.heap c P := C.keeps fun b o e => k03 _ _ (k0 b o e)
  refine wpAny_bind (any_classCode (env := { env with globals := mainGlobals }) hcode C3 hP3 hok hnf fun s4 cc Pk x4 l2 ht4 C4 hPk m4 => ?_)
  obtain ⟨hgP, hg3, hb3⟩ := top_builtinsAt G (fun b o e => k03 _ _ (k0 b o e)) hP3
  have g4k : Stays g s4.heap := fun b o e => x4 _ _ (fun q => by rw [q, g23] at e; cases e) (k03 _ _ (k0 b o e))
  have hg4 : s4.heap.Ns mainGlobals W.mg := G.T.g.keeps g4k
  obtain ⟨bm, ob, b1, b2, b3, b4, b5, b6⟩ := G.T.bmain
  refine wpAny_bind (wpAny_builtinsFor hg4 b1 b2 (g4k _ _ b3) b4 b5 b6 ?_)
  refine wpAny_bind (m := newBodyFrame (.ref cc) mainGlobals D builtinsNs) (wpAny_bind (m := nsGet _ _) (wpAny_nsGet hg4 (any_alloc rfl fun s5 fr _ k5 hn5 m5 => ?_)))
  refine wpAny_bind (wpAny_of_eq hcl ?_)
  refine wpAny_holding ?_
  refine wpAny_bind (wpAny_enterFrame ((G.T.nolimit.keeps g4k).keeps k5) (by show A.depth < 1000; omega) ?_)
  obtain ⟨v, hv⟩ := mg_name G
  have hD5 : Dct s5.heap D [] := ⟨#[], 0, k5 _ _ (x4 _ _ hPs.symm hD), rfl⟩
  have B5 : BS (hideAll s5.heap [Pk, D]) s5.heap Pk D #[] [] := ⟨fun b o e => of_hideAll _ e, hideAll_none _ (by simp), hideAll_none _ (by simp), k5 _ _ hPk, trivial, hD5⟩
  refine wpAny_bind (wpAny_onRaise (noE ?_ fun _ _ q => q))
  refine wpAny_bind (load_name (P := W.w.params) (cc := cc) (fr := fr) (cell := cell) hD5 (by kernel_rfl) (hg4.keeps k5) hv ?_)
  refine wpAny_bind (cls_store (env := kEnv W.w.params D cc fr cell) B5 rfl rfl (.inl (by kernel_rfl)) fun s6 g6 k6 B6 _ _ m6 => ?_)
  refine wpAny_bind (wpAny_mkText ?_)
  refine wpAny_bind (cls_store (s := { s6 with toks := s6.toks + 1 }) (env := kEnv W.w.params D cc fr cell) B6 rfl rfl (.inr ⟨by kernel_rfl, by kernel_rfl⟩) fun s7 g7 k7 B7 _ _ m7 => ?_)
  refine wpAny_bind (wpAny_mkInt ?_)
  refine wpAny_bind (cls_store (s := { s7 with toks := s7.toks + 1 }) (env := kEnv W.w.params D cc fr cell) B7 rfl rfl (.inr ⟨by kernel_rfl, by kernel_rfl⟩) fun s8 g8 k8 B8 _ _ m8 => ?_)
  refine wpAny_pure ?_
  have B8' : BS g8 s8.heap Pk D #[] [("__module__", v), ("__qualname__", .str "cmp_to_key.<locals>.K" s6.toks), ("__firstlineno__", .int line s7.toks)] := B8
  have k58 : Stays (hideAll s5.heap [Pk, D]) g8 := fun b o e => k8 _ _ (k7 _ _ (k6 _ _ e))
  have in5 : ∀ b o, b ≠ Pk → b ≠ D → s5.heap.get? b = some o → (hideAll s5.heap [Pk, D]).get? b = some o := fun b o h1 h2 e => bs_at e h1 h2
  have hPk3 : s3.heap.get? Pk = none := Heap.get?_none_of_le l2
  have old : ∀ b o, s3.heap.get? b = some o → b ≠ P → b ≠ D → g8.get? b = some o := fun b o e h1 h2 => k58 _ _ (in5 b o (fun q => by rw [q, hPk3] at e; cases e) h2 (k5 _ _ (x4 b o h1 e)))
  have hgD : g.get? D = none := by
    cases z : g.get? D with
    | none => rfl
    | some o => rw [k0 _ _ z] at hnD0; cases hnD0
  have kg8 : Stays g g8 := fun b o e => old b o (k03 _ _ (k0 _ _ e)) (fun q => by rw [q, g23] at e; cases e) (fun q => by rw [q, hgD] at e; cases e)
  have C8 : CodeHd g8 cc Pk := by
    obtain ⟨o, vs, file, tf, flags, tg, inF, text, tt, e1, r⟩ := C4
    have hne : cc ≠ Pk := r.2.2.2.2.2.2.2.2
    have hcD : cc ≠ D := fun q => by
      rw [q, x4 _ _ hPs.symm hD] at e1
      have e2 := Option.some.inj e1
      rw [← e2] at r
      have e3 : (Value.type "dict") = .type "code" := r.1
      injection e3 with e3
      exact absurd e3 (by decide)
    exact ⟨o, vs, file, tf, flags, tg, inF, text, tt, k58 _ _ (in5 _ _ hne hcD (k5 _ _ e1)), r⟩
  refine wpAny_bind (wpAny_run (codeAny_body (by kernel_rfl) (by kernel_rfl) (noE (body_K (cell := cell) (fr := fr) (G.keep kg8) B8' C8 fun s9 g9 ps9 t0 sl ts f0 f1 f2 f3 f4 f5 k9 B9 hsl hf0 hf1 hf2 hf3 hf4 hf5 m9 => ?_) fun _ _ q => q)))
  refine wpAny_bind (wpAny_onRaise (noE ?_ fun _ _ q => q))
  refine wpAny_bind (wpAny_mkStrs fun vs => ?_)
  refine wpAny_bind (any_tup fun s10 sa hsa k10 hn10 m10 => ?_)
  obtain ⟨B10, kb10⟩ := B9.stay k10
  refine wpAny_bind (cls_store (env := kEnv W.w.params D cc fr cell) B10 rfl rfl (.inr ⟨by kernel_rfl, by kernel_rfl⟩) fun s11 g11 k11 B11 kk11 _ m11 => ?_)
  refine wpAny_pure ?_
  have B11' : BS g11 s11.heap Pk D ps9 (bodyL (.str "cpy313.functools" t0) (.int line s7.toks) "cmp_to_key.<locals>.K" s6.toks sl f0 f1 f2 f3 f4 f5 sa) := B11
  have k9s : Stays g9 s11.heap := fun b o e => B11.keep _ _ (k11 _ _ (kb10 _ _ e))
  have k8s : Stays g8 s11.heap := fun b o e => k9s _ _ (k9 _ _ e)
  have kgs : Stays g s11.heap := fun b o e => k8s _ _ (kg8 _ _ e)
  have hPP : P ≠ Pk := fun q => by rw [q, hPk3] at hP3; cases hP3
  have hP11 : s11.heap.get? P = some (tabObj (ps ++ #[rawInt pos.line, rawInt pos.col, .ref cc])) := k8s _ _ (k58 _ _ (in5 _ _ hPP hPs (k5 _ _ ht4)))
  have hok' : TriplesOk (ps ++ #[rawInt pos.line, rawInt pos.col, .ref cc]).toList := by
    rw [show (ps ++ #[rawInt pos.line, rawInt pos.col, Value.ref cc]).toList = ps.toList ++ [rawInt pos.line, rawInt pos.col, .ref cc] by simp]
    exact TriplesOk_snoc _ _ _ _ hok
  have hbT3 := k3 _ _ (k2 _ _ hbT)
  have hbT11 : s11.heap.get? bT = some objT := k8s _ _ (old _ _ hbT3 (fun q => by rw [q, hP3] at hbT3; cases hbT3) (fun q => by
    rw [q, hD] at hbT3
    have e2 := congrArg Obj.cls (Option.some.inj hbT3)
    have e3 : (Value.type "dict") = .type "tuple" := e2
    injection e3 with e3
    exact absurd e3 (by decide)))
  have hsa11 : s11.heap.get? sa = some { cls := .type "tuple", data := .seq vs.toArray } := kk11 _ _ (fun q => by
    obtain ⟨es, n, e, _⟩ := B10.ns
    rw [← q, hsa] at e
    have e2 := congrArg Obj.cls (Option.some.inj e)
    have e3 : (Value.type "tuple") = .type "dict" := e2
    injection e3 with e3
    exact absurd e3 (by decide)) hsa
  refine wpAny_bind (call_type (fun C => opaqueK G kgs C) (fun v hv => ?_) hDs hbT11 B11'.ns (k9s _ _ hsl) fun s12 b' N a md t kb B hmd m12 => wpAny_pure ?_)
  · simp only [List.mem_cons, List.not_mem_nil, or_false] at hv
    rcases hv with rfl | rfl | rfl | rfl | rfl | rfl | rfl | rfl | rfl | rfl
    · exact nh_str
    · exact nh_int
    · exact nh_type (k9s _ _ hsl) rfl (by kernel_rfl)
    · exact (nh_fn hf0).keeps k9s
    · exact (nh_fn hf1).keeps k9s
    · exact (nh_fn hf2).keeps k9s
    · exact (nh_fn hf3).keeps k9s
    · exact (nh_fn hf4).keeps k9s
    · exact (nh_fn hf5).keeps k9s
    · exact nh_type hsa11 rfl (by kernel_rfl)
  have kE : Stays s11.heap s12.heap := fun b o e => B.keep _ _ (kb _ _ e)
  have hP12 := kE _ _ hP11
  have KA : KAt W s12.heap cell a N md f0 f1 f2 f3 f4 f5 := {
    cls := ⟨_, _, _, B.cls⟩, ns := ⟨_, _, _, _, B.ns⟩, md := ⟨_, B.keep _ _ hmd⟩
    init := (hf0.keep k9s).keep kE, lt := (hf1.keep k9s).keep kE, gt := (hf2.keep k9s).keep kE, eq := (hf3.keep k9s).keep kE, le := (hf4.keep k9s).keep kE, ge := (hf5.keep k9s).keep kE }
  refine h s12 (hideAll s12.heap [P]) _ a N md f0 f1 f2 f3 f4 f5 (fun b o e => hideAll_get _ (kE _ _ (kgs _ _ e)) ?_) (fun b o e => of_hideAll _ e) (hideAll_none _ (by simp)) hP12 hok' (KA.off hP12 hok') ?_ ?_
  · intro hm
    rw [List.mem_singleton.mp hm, g23] at e; cases e
  · cases z : s.heap.get? N with
    | none => rfl
    | some o =>
      have e11 : ∃ o', s11.heap.get? N = some o' := by
        by_cases q : N = P
        · exact ⟨_, by rw [q]; exact hP11⟩
        · exact ⟨o, k8s _ _ (old _ _ (k03 _ _ z) q fun q2 => by rw [q2, hnD0] at z; cases z)⟩
      obtain ⟨o', e11⟩ := e11
      have := kb _ _ e11
      rw [B.bN] at this; cases this
  · exact ((((((((((((m1.set _ _).trans m2).trans m3).trans m4).trans m5).trans m6).set _ _).trans m7).set _ _).trans m8).trans m9).set _ _).trans m10 |>.trans m11 |>.trans m12
end
end Mine
end

section
open PySem PySem.W PyProof.Rows PySem.Calls
namespace Mine
section
variable {c : Cx} {n : Nat} {s : Shared} {ps : Array Value} {Q : Value → Shared → Prop}
theorem bt_build : bootBuiltins "__build_class__" = some (.builtin "__build_class__") := by decide +kernel
theorem bt_object : bootBuiltins "object" = some (.type "object") := by decide +kernel
theorem g_object (P : Params) : nsIn (heap_39 P) mainGlobals "object" = some none := by kernel_rfl!
theorem FnK.offL {W : Wd} {h : Heap} {f i L : Nat} {name qual : Str} {clos : List (Str × Addr)} {m : Str → Option Value} (x : FnK W h f i name qual clos) (hn : h.Ns L m) : FnK W (hideAll h [L]) f i name qual clos := by
  obtain ⟨doc, c', ctv, e, c₂, oc, vs, t, e2, hoc, hd, hv⟩ := x
  obtain ⟨o, es, ep, ho, hdo, _⟩ := hn
  have n1 : f ≠ L := fun q => by rw [q, ho] at e; cases e; cases hdo
  have n2 : c₂ ≠ L := fun q => by rw [q, ho] at hoc; cases hoc; rw [hdo] at hd; cases hd
  exact ⟨doc, c', ctv, hideAll_get _ e (by simp [n1]), c₂, oc, vs, t, e2, hideAll_get _ hoc (by simp [n2]), hd, hv⟩
theorem KAt.offL {W : Wd} {h : Heap} {L cell a N md f0 f1 f2 f3 f4 f5 : Addr} {m : Str → Option Value} (x : KAt W h cell a N md f0 f1 f2 f3 f4 f5) (hn : h.Ns L m) (hm : m "__module__" = none) : KAt W (hideAll h [L]) cell a N md f0 f1 f2 f3 f4 f5 where
  cls := let ⟨bT, tn, tq, e⟩ := x.cls; ⟨bT, tn, tq, hideAll_get _ e (by
    obtain ⟨o, es, ep, ho, hdo, _⟩ := hn
    have n1 : a ≠ L := fun q => by rw [q, ho] at e; cases e; cases hdo
    simp [n1])⟩
  ns := let ⟨v0, v2, sl, sa, es, n, e, q⟩ := x.ns; ⟨v0, v2, sl, sa, es, n, hideAll_get _ e (by
    obtain ⟨o, es', ep, ho, hdo, _, hf⟩ := hn
    have n1 : N ≠ L := fun z => by
      rw [z, ho] at e; cases e; cases hdo
      have h1 := hf "__module__"
      have h2 := q.find (x := "__module__")
      rw [Array.find?_toList] at h2
      rw [hm] at h1
      unfold nsFind findBy at h1
      rw [h1] at h2
      cases h2
    simp [n1]), q⟩
  md := let ⟨t, e⟩ := x.md; ⟨t, hideAll_get _ e (by
    obtain ⟨o, es, ep, ho, hdo, _⟩ := hn
    have n1 : md ≠ L := fun q => by rw [q, ho] at e; cases e; cases hdo
    simp [n1])⟩
  init := x.init.offL hn
  lt := x.lt.offL hn
  gt := x.gt.offL hn
  eq := x.eq.offL hn
  le := x.le.offL hn
  ge := x.ge.offL hn
theorem evalArgs_f {M : Model} {A : Around} {E : Value → Shared → Prop} {f : Value} {args : List (Bool × Sem Value)} {Q : Args → Shared → Prop} (h : wpAny M A (spliced args) (fun vs s' => Q ⟨vs, []⟩ s') E s) : wpAny M A (evalArgs f false args []) Q E s := by
  unfold evalArgs
  show wpAny M A (spliced args >>= _) Q E s
  refine wpAny_bind (wpAny_mono h (fun vs s' h' => ?_) fun _ _ x => x)
  refine wpAny_bind (wpAny_pure ?_)
  refine wpAny_holding ?_
  refine KFB.if_so rfl ?_
  exact wpAny_bind (wpAny_pure (wpAny_bind (wpAny_pure (wpAny_pure h'))))
theorem call_ctk {lam : Addr} (ok : c.Ok (n + 3)) (x : St c s.heap) (g23 : c.h₀.get? 23 = none) (hP : s.heap.get? 23 = some (tabObj ps)) (hok : TriplesOk ps.toList) (hnf : codeAmong (Stmt.pos (kStmt c.W.w.params)) ps.toList = none) (C : CodeHd c.h₀ 27 23)
    (h : ∀ s' g' ps' cell a N md f0 f1 f2 f3 f4 f5, Stays c.h₀ g' → Stays g' s'.heap → g'.get? 23 = none → s'.heap.get? 23 = some (tabObj ps') → TriplesOk ps'.toList → KAt c.W g' cell a N md f0 f1 f2 f3 f4 f5 → (∃ o, g'.get? cell = some o ∧ o.data = .cell (some (.ref lam))) →
      (∀ b o, b ≠ 23 → s.heap.get? b = some o → g'.get? b = some o) → s.heap.get? cell = none → s.heap.get? N = none → Sm s s' → Q (.ref a) s') :
    wpAny c.W.M c.A (call (.ref 28) [.ref lam]) Q NoE s := by
  refine wpAny_call ?_
  have hr := ok.rm.dp
  have K := ok.gd.K.keeps x.keep
  refine codeAny_call_function (fd := fdOf c.W.w.params 28) (by show c.A.depth < 1000; omega) (K _ _ (k28 _)) rfl (s28 _).2.1 (s28 _).2.2.1 (b28 _) (codeRec_of K (c28 _)) ?_
  rw [a28]
  refine wpAny_pure ?_
  rw [(s28 c.W.w.params).1]
  refine wpAny_newFunctionEnv_cells (s28 _).2.2.2.1 (fun y hy => ?_) fun env he s2 I => ?_
  · rw [List.mem_singleton.mp hy]
    exact .inr ⟨by kernel_rfl, by kernel_rfl⟩
  have hC : env = (c.into (fdOf c.W.w.params 28) 28 s).env := he
  subst hC
  have k2 := I.toInCall.keep
  refine ⟨(ok.gd.T.nolimit.keeps x.keep).keeps k2, codeAny_func (noE ?_ fun _ _ q => q)⟩
  have G2 : Gd c.W (hideAll s2.heap [23]) := ok.gd.keep fun b o e => hideAll_get _ (k2 _ _ (x.keep _ _ e)) (fun hm => by rw [List.mem_singleton.mp hm, g23] at e; cases e)
  refine wpAny_execs_cons ?_
  rw [arm_exec_ClassDef]
  refine wpAny_bind (wpAny_pure ?_)
  refine wpAny_bind (wpAny_standAt ?_)
  have kk : Stays c.h₀ s2.heap := fun b o e => k2 _ _ (x.keep _ _ e)
  have mb : c.W.mb "__build_class__" = some (.builtin "__build_class__") := by rw [ok.gd.T.builtins _ (by decide)]; exact bt_build
  have hguard : ∀ R : Unit → Shared → Prop, R () s2 → wpAny c.W.M (c.into (fdOf c.W.w.params 28) 28 s).A (buildClassGuard (c.into (fdOf c.W.w.params 28) 28 s).env) R NoE s2 := fun R hR => by
    unfold buildClassGuard
    refine wpAny_bind (m := nsGet builtinsNs _) (wpAny_nsGet (ok.gd.T.b.keeps kk) ?_)
    rw [mb]
    exact wpAny_pure hR
  refine wpAny_bind (hguard _ ?_)
  refine wpAny_bind (wpAny_holding ?_)
  have F : FrD (c.into (fdOf c.W.w.params 28) 28 s) [] [] s2.heap := ⟨⟨k2, x.new.keep k2⟩, ⟨_, I.toInCall.ns, fun y d e => nomatch e⟩, fun y a e => by
    obtain ⟨o, ho, hd'⟩ := I.cell y a e
    exact ⟨o, _, ho, hd', fun d e => nomatch e⟩⟩
  have ok2 : (c.into (fdOf c.W.w.params 28) 28 s).Ok (n + 2) := into_ok ok x
  have hargs := (evL_cons (Bl ok2 (x := "object") (pos := ⟨7, 12, 7, 18⟩) g_object bt_object) evL_nil).go ⟨7, 4, 28, 23⟩ s2 F
  refine wpAny_bind (m := evalArgs _ _ _ _) (evalArgs_f (noE hargs fun vs s3 hh3 => ?_))
  obtain ⟨k3, r3⟩ := hh3
  obtain ⟨v0, r', e1, r4, r5⟩ := repL_cons.mp r3
  obtain rfl := repL_nil.mp r5
  obtain rfl := rep_val.mp r4
  subst e1
  let L := s.heap.objs.size
  have hP3 : s3.heap.get? 23 = some (tabObj ps) := k3.stays _ _ (k2 _ _ hP)
  have kc3 : Stays c.h₀ (hideAll s3.heap [23]) := fun b o e => hideAll_get _ (k3.stays _ _ (kk _ _ e)) (fun hm => by rw [List.mem_singleton.mp hm, g23] at e; cases e)
  refine wpAny_bind (wpAny_standAt (wpAny_holding ?_))
  have key := fun {Q : Value → Shared → Prop} => build_K (Q := Q) (s := s3) (A := (c.into (fdOf c.W.w.params 28) 28 s).A) (pos := Stmt.pos (kStmt c.W.w.params)) (line := (Stmt.pos (kStmt c.W.w.params)).line) (env := (c.into (fdOf c.W.w.params 28) 28 s).env) (cell := s.heap.objs.size + 1) (ok.gd.keep kc3) (fun b o e => of_hideAll _ e) (hideAll_none _ (by simp)) hP3 hok hnf (C.keeps kc3) (show (fdOf c.W.w.params 28).code = .ref 27 by kernel_rfl!) (by kernel_rfl) (by have := ok2.rm.dp; omega)
  refine key fun s4 g4 ps4 a N md f0 f1 f2 f3 f4 f5 kg4 ks4 g423 hP4 hok4 KA nN m4 => ?_
  refine wpAny_bind (wpAny_pure ?_)
  refine wpAny_bind (wpAny_standAt ?_)
  have hnL := I.toInCall.ns
  have hL23 : L ≠ 23 := Nat.ne_of_gt (Heap.lt_size hP)
  have up : ∀ b o, b ≠ 23 → s2.heap.get? b = some o → g4.get? b = some o := fun b o h1 e => kg4 _ _ (hideAll_get _ (k3.stays _ _ e) (by simp [h1]))
  obtain ⟨m0, hm0, hnL4⟩ : ∃ m : Str → Option Value, m "__module__" = none ∧ g4.Ns L m := by
    obtain ⟨o, es, ep, e, r⟩ := hnL
    refine ⟨_, ?_, ⟨o, es, ep, up _ _ hL23 e, r⟩⟩
    kernel_rfl
  refine wpAny_bind (wpAny_bindName (wpAny_storeName_local (env := (c.into (fdOf c.W.w.params 28) 28 s).env) (by kernel_rfl) (hnL4.keeps ks4) (fun h5 hn5 sb5 => wpAny_pure ?_) (by kernel_rfl)))
  refine wpAny_execs_cons (wpAny_Return_some (wpAny_Name (wpAny_loadName_local (v := .ref a) ok2.kind (by kernel_rfl) hn5 (by simp) ?_) (by rfl)))
  have k45 : Stays (hideAll g4 [L]) (hideAll h5 [23, L]) := fun b o e => by
    have hbL : b ≠ L := fun q => hideAll_notin e (by simp [q])
    have e4 := of_hideAll _ e
    have hb23 : b ≠ 23 := fun q => by rw [q, g423] at e4; cases e4
    exact hideAll_get _ (sb5.extBut _ _ hbL (ks4 _ _ e4)) (by simp [hbL, hb23])
  have upL : ∀ b o, b ≠ 23 → b ≠ L → s2.heap.get? b = some o → (hideAll h5 [23, L]).get? b = some o := fun b o h1 h2 e => k45 _ _ (hideAll_get _ (up _ _ h1 e) (by simp [h2]))
  have hLn : s.heap.get? L = none := Heap.get?_none_of_le (Nat.le_refl _)
  refine h _ (hideAll h5 [23, L]) ps4 (s.heap.objs.size + 1) a N md f0 f1 f2 f3 f4 f5 (fun b o e => ?_) (fun b o e => of_hideAll _ e) (hideAll_none _ (by simp)) (sb5.extBut _ _ hL23.symm hP4) hok4 ((KA.offL hnL4 hm0).keep k45) ?_ (fun b o h1 e => ?_) (Heap.get?_none_of_le (Nat.le_succ _)) ?_ ?_
  · refine upL b o (fun q => by rw [q, g23] at e; cases e) (fun q => ?_) (kk _ _ e)
    rw [q] at e
    rw [x.keep _ _ e] at hLn; cases hLn
  · obtain ⟨o, ho, hd'⟩ := I.cell "mycmp" (s.heap.objs.size + 1) (by kernel_rfl)
    have hlt := Heap.lt_size hP
    exact ⟨o, upL _ _ (Nat.ne_of_gt (Nat.lt_succ_of_lt hlt)) (Nat.succ_ne_self _) ho, by rw [hd']; kernel_rfl⟩
  · exact upL b o h1 (fun q => by rw [q, hLn] at e; cases e) (k2 _ _ e)
  · cases z : s.heap.get? N with
    | none => rfl
    | some o =>
      have := k3.stays _ _ (k2 _ _ z)
      rw [nN] at this; cases this
  · obtain ⟨h2, t2, rfl⟩ := I.toInCall.same
    obtain ⟨h3, t3, rfl, _⟩ := k3
    exact (((sm_refl s).set h2 t2).set h3 t3 |>.trans m4).set _ _
end
end Mine
end

section
open PySem PySem.W PyProof.Rows PySem.Calls
namespace Mine
section
variable {W : Wd} {h : Heap} {cell a N md f0 f1 f2 f3 f4 f5 : Addr}
theorem lookup1 {a : Addr} {o : Obj} : List.lookup a [(a, o)] = some o := by rw [List.lookup_cons, beq_self_eq_true]
theorem in1 {a : Addr} {o : Obj} (e : h.get? a = some o) : Frag.In [(a, o)] h := fun b o' q => by
  rw [List.lookup_cons] at q
  split at q
  · rename_i z; cases q; rw [eq_of_beq z]; exact e
  · cases q
theorem kat_makes {M : Model} (x : KAt W h cell a N md f0 f1 f2 f3 f4 f5) : Makes M h a := by
  obtain ⟨bT, tn, tq, e⟩ := x.cls
  refine makes_of (in1 e) ?_
  unfold makesIn
  rw [lookup1]
  have h1 : (clsK N a).mro.contains (.ref a) = true := by simp
  have h2 : (clsK N a).mro.contains (.type "object") = true := by simp
  have h3 : specialIn [(a, (⟨.type "type", none, .cls (clsK N a), slotsK bT tn tq⟩ : Obj))] (.ref a) "__call__" = some (some (.builtin "type.__call__")) := by
    unfold specialIn typeIn
    dsimp only
    rw [lookup1]
    kernel_rfl
  have h4 : instIn [(a, (⟨.type "type", none, .cls (clsK N a), slotsK bT tn tq⟩ : Obj))] (.ref a) (.type "type") = some true := by
    unfold instIn typeIn
    dsimp only
    rw [lookup1]
    kernel_rfl
  simp only [h1, h2, h3, h4]
  rfl
end
end Mine
end

section
open PySem PySem.W PyProof.Rows PySem.Calls
namespace Mine
section
variable {W : Wd} {M : Model} {h : Heap} {cell a N md f0 f1 f2 f3 f4 f5 : Addr}
theorem kat_look (x : KAt W h cell a N md f0 f1 f2 f3 f4 f5) {name : Str} {v : Value} (hl : ∀ v0 v2 sl sa, (classL v0 v2 sl f0 f1 f2 f3 f4 f5 sa md).lookup name = some v) : Looks M h (typeLookup (.ref a) name) (some v) := by
  intro A Q E s k q
  obtain ⟨bT, tn, tq, e⟩ := x.cls
  obtain ⟨v0, v2, sl, sa, D⟩ := x.ns
  have e' := k _ _ e
  have D' : Dct s.heap N _ := D.keep fun o z => k _ _ z
  rw [typeLookup_eq]
  refine wpAny_bind (wpAny_bind (wpAny_bind (wpAny_load e' (wpAny_pure (wpAny_pure ?_)))))
  show wpAny M A (lookupAlong [.ref a, .type "object"] name) Q E s
  rw [lookupAlong_cons]
  refine wpAny_bind (wpAny_bind (wpAny_bind (wpAny_load e' (wpAny_pure ?_))))
  show wpAny M A (nsGet N name) _ _ _
  exact dct_get' D' (hl v0 v2 sl sa) (wpAny_pure q)
theorem kat_init (x : KAt W h cell a N md f0 f1 f2 f3 f4 f5) : Looks M h (typeLookup (.ref a) "__init__") (some (.ref f0)) := kat_look x fun _ _ _ _ => by kernel_rfl
theorem fnk_bind {f i : Nat} {name qual : Str} {clos : List (Str × Addr)} (x : FnK W h f i name qual clos) (self : Value) : Looks M h (bindSpecial (.ref f) self) (.ref f, [self]) := by
  obtain ⟨doc, c', ctv, e, _⟩ := x
  exact bind_fn (in1 e) self (by unfold typeIn; dsimp only; rw [lookup1]; rfl)
end
end Mine
end

section
open PySem PySem.W PyProof.Rows PySem.Calls
namespace Mine
structure KFrag (K : Frag) (a N md f0 f1 f2 f3 f4 f5 : Addr) : Prop where
  cls : ∃ bT tn tq, K.lookup a = some ⟨.type "type", none, .cls (clsK N a), slotsK bT tn tq⟩
  ns : ∃ v0 v2 sl sa es n, K.lookup N = some ⟨.type "dict", none, .dict es n, #[]⟩ ∧ Ents (classL v0 v2 sl f0 f1 f2 f3 f4 f5 sa md) es.toList
  md : ∃ t, K.lookup md = some (mdObj a t)
section
variable {W : Wd} {M : Model} {h : Heap} {cell a N md f0 f1 f2 f3 f4 f5 : Addr} {K : Frag}
theorem kat_frag (x : KAt W h cell a N md f0 f1 f2 f3 f4 f5) : ∃ K : Frag, K.In h ∧ KFrag K a N md f0 f1 f2 f3 f4 f5 := by
  obtain ⟨bT, tn, tq, e1⟩ := x.cls
  obtain ⟨v0, v2, sl, sa, es, n, e2, q⟩ := x.ns
  obtain ⟨t, e3⟩ := x.md
  have n1 : N ≠ a := fun z => by
    rw [z, e1] at e2
    have := congrArg Obj.data (Option.some.inj e2)
    cases this
  have n2 : md ≠ a := fun z => by
    rw [z, e1] at e3
    have := congrArg Obj.data (Option.some.inj e3)
    cases this
  have n3 : md ≠ N := fun z => by
    rw [z, e2] at e3
    have := congrArg Obj.data (Option.some.inj e3)
    cases this
  have b1 : (N == a) = false := by simpa using n1
  have b2 : (md == a) = false := by simpa using n2
  have b3 : (md == N) = false := by simpa using n3
  refine ⟨[(a, ⟨.type "type", none, .cls (clsK N a), slotsK bT tn tq⟩), (N, ⟨.type "dict", none, .dict es n, #[]⟩), (md, mdObj a t)], fun b o z => ?_, ⟨bT, tn, tq, ?_⟩, ⟨v0, v2, sl, sa, es, n, ?_, q⟩, ⟨t, ?_⟩⟩
  · rw [List.lookup_cons] at z
    split at z
    · rename_i w; cases z; rw [eq_of_beq w]; exact e1
    · rw [List.lookup_cons] at z
      split at z
      · rename_i w; cases z; rw [eq_of_beq w]; exact e2
      · rw [List.lookup_cons] at z
        split at z
        · rename_i w; cases z; rw [eq_of_beq w]; exact e3
        · cases z
  · rw [List.lookup_cons, beq_self_eq_true]
  · rw [List.lookup_cons, b1, List.lookup_cons, beq_self_eq_true]
  · rw [List.lookup_cons, b2, List.lookup_cons, b3, List.lookup_cons, beq_self_eq_true]
theorem KFrag.find (F : KFrag K a N md f0 f1 f2 f3 f4 f5) {name : Str} {v : Value} (hl : ∀ v0 v2 sl sa, (classL v0 v2 sl f0 f1 f2 f3 f4 f5 sa md).lookup name = some v) : findIn K (.ref a) name = some (some v) := by
  obtain ⟨bT, tn, tq, e1⟩ := F.cls
  obtain ⟨v0, v2, sl, sa, es, n, e2, q⟩ := F.ns
  have hf := q.find (x := name)
  rw [hl] at hf
  obtain ⟨en, h1, h2⟩ := Option.map_eq_some_iff.mp hf
  unfold findIn
  dsimp only
  rw [e1]
  show alongIn K name [.ref a, .type "object"] = _
  unfold alongIn
  have : ownIn K name (.ref a) = some (some v) := by
    unfold ownIn
    dsimp only
    rw [e1]
    show nsIn K N name = _
    unfold nsIn
    rw [e2]
    dsimp only
    rw [h1]
    dsimp only
    rw [h2]
  rw [this]
theorem KFrag.find0 (F : KFrag K a N md f0 f1 f2 f3 f4 f5) {name : Str} {r : Option Value} (hl : ∀ v0 v2 sl sa, (classL v0 v2 sl f0 f1 f2 f3 f4 f5 sa md).lookup name = none) (ho : fastBuiltinOwn "object" name = r) : findIn K (.ref a) name = some r := by
  obtain ⟨bT, tn, tq, e1⟩ := F.cls
  obtain ⟨v0, v2, sl, sa, es, n, e2, q⟩ := F.ns
  have hf := q.find (x := name)
  rw [hl] at hf
  have h1 := Option.map_eq_none_iff.mp hf
  unfold findIn
  dsimp only
  rw [e1]
  show alongIn K name [.ref a, .type "object"] = _
  unfold alongIn
  have : ownIn K name (.ref a) = some none := by
    unfold ownIn
    dsimp only
    rw [e1]
    show nsIn K N name = _
    unfold nsIn
    rw [e2]
    dsimp only
    rw [h1]
    dsimp only
    rw [q.noref]
    rfl
  rw [this]
  show alongIn K name [.type "object"] = _
  unfold alongIn ownIn
  dsimp only
  rw [ho]
  cases r <;> rfl
end
end Mine
end

section
open PySem PySem.W PyProof.Rows PySem.Calls
namespace Mine
section
variable {K : Frag} {a N md f0 f1 f2 f3 f4 f5 : Addr}
theorem KFrag.slot (F : KFrag K a N md f0 f1 f2 f3 f4 f5) : slotIn K md a = some 0 := by
  obtain ⟨bT, tn, tq, e1⟩ := F.cls
  obtain ⟨t, e3⟩ := F.md
  unfold slotIn recIn clsIn
  rw [e1, e3]
  show (if (("proto.slot" == "proto.slot" && "proto.slot#set" == "proto.slot#set" && !(clsK N a).mro.isEmpty && (clsK N a).mro.contains (.ref a) && decide ((0 : Int).toNat < (clsK N a).slotNames.length)) : Bool) = true then some ((clsK N a).slotNames.length - 1 - (0 : Int).toNat) else none) = some 0
  rw [if_pos (by simp)]
  rfl
theorem KFrag.plain (F : KFrag K a N md f0 f1 f2 f3 f4 f5) : plainOver K a = true := by
  obtain ⟨bT, tn, tq, e1⟩ := F.cls
  unfold plainOver clsIn
  rw [e1]
  rfl
theorem KFrag.taker (F : KFrag K a N md f0 f1 f2 f3 f4 f5) : takerIn K a "obj" = some (some (.ref md)) := by
  obtain ⟨t, e3⟩ := F.md
  unfold takerIn
  rw [F.find (v := .ref md) fun _ _ _ _ => by kernel_rfl]
  have : takesIn K (.ref md) = some true := by
    unfold takesIn specialIn typeIn
    dsimp only
    rw [e3]
    kernel_rfl
  show (takesIn K (.ref md)).map _ = _
  rw [this]; rfl
theorem KFrag.setattr (F : KFrag K a N md f0 f1 f2 f3 f4 f5) : findIn K (.ref a) "__setattr__" = some (some (.builtin "object.__setattr__")) := F.find0 (fun _ _ _ _ => by kernel_rfl) (by kernel_rfl)
theorem KFrag.tmd (F : KFrag K a N md f0 f1 f2 f3 f4 f5) : typeIn K (.ref md) = some (.type "member_descriptor") := by
  obtain ⟨t, e3⟩ := F.md
  unfold typeIn
  dsimp only
  rw [e3]; rfl
end
end Mine
end

section
open PySem PySem.W PyProof.Rows PySem.Calls
namespace Mine
section
variable {K : Frag} {a N md f0 f1 f2 f3 f4 f5 : Addr}
theorem KFrag.isCls (F : KFrag K a N md f0 f1 f2 f3 f4 f5) : isClsIn K a = true := by
  obtain ⟨bT, tn, tq, e1⟩ := F.cls
  unfold isClsIn clsIn
  rw [e1]; rfl
theorem KFrag.pget (F : KFrag K a N md f0 f1 f2 f3 f4 f5) : plainGet K a "obj" = true := by
  unfold plainGet
  rw [F.find0 (name := "__getattribute__") (r := some (.builtin "object.__getattribute__")) (fun _ _ _ _ => by kernel_rfl) (by kernel_rfl), F.find0 (name := "__getattr__") (r := none) (fun _ _ _ _ => by kernel_rfl) (by kernel_rfl)]
  kernel_rfl
theorem KFrag.obj (F : KFrag K a N md f0 f1 f2 f3 f4 f5) : findIn K (.ref a) "obj" = some (some (.ref md)) := F.find fun _ _ _ _ => by kernel_rfl
theorem KFrag.mget (F : KFrag K a N md f0 f1 f2 f3 f4 f5) : specialIn K (.ref md) "__get__" = some (some (.builtin "member_descriptor.__get__")) := by
  unfold specialIn
  rw [F.tmd]; kernel_rfl
theorem KFrag.mtakes (F : KFrag K a N md f0 f1 f2 f3 f4 f5) : takesIn K (.ref md) = some true := by
  unfold takesIn specialIn
  rw [F.tmd]; kernel_rfl
end
noncomputable abbrev instK (a dx : Addr) (v : Value) : Obj := { cls := .ref a, dict := some dx, data := .plain, slots := #[some v] }
noncomputable def Inst (h : Heap) (a y : Addr) (v : Value) : Prop := ∃ dx, h.get? y = some (instK a dx v) ∧ h.get? dx = some emptyDict
theorem Inst.on {h h' : Heap} {a y : Addr} {v : Value} (x : Inst h a y v) (k : Stays h h') : Inst h' a y v := by
  obtain ⟨dx, e1, e2⟩ := x
  exact ⟨dx, k _ _ e1, k _ _ e2⟩
theorem Inst.at {h : Heap} {a y : Addr} {v : Value} (x : Inst h a y v) : ∃ ox od, InstAt h y ox a (some od) ∧ (ox.slots[0]?).join = some v := by
  obtain ⟨dx, e1, e2⟩ := x
  exact ⟨_, emptyDict, ⟨e1, rfl, rfl, e2⟩, rfl⟩
noncomputable abbrev envF (fd : FuncData) (f L : Addr) : Env := newEnv fd.scope L fd.globals fd.closure (fd.qualname ++ ".<locals>.") (some f) fd.code none fd.builtins
section
variable {prog : Program} {w : World} {A : Around} {s : Shared} {f : Addr} {fo : Obj} {fd : FuncData} {vs : List Value} {binds : List (Str × Value)} {R : Result → Shared → Prop}
theorem call_fnA {body : List Stmt} (hroom : A.depth < 1000) (hlim : s.heap.NoLimit) (ho : s.heap.get? f = some fo) (hd : fo.data = .func fd) (hb : fd.body = .stmts body) (hcd : s.heap.CodeRec fd.code fd.qualname)
    (hbind : bindArgs fd ⟨vs, []⟩ = pure binds) (hcell : ∀ x ∈ fd.scope.names, x.2 ≠ .cell) (hloc : ∀ x ∈ binds, fd.scope.names.lookup x.1 = some .local)
    (h : ∀ h', h'.Ns s.heap.objs.size (fun x => binds.reverse.lookup x) → Stays s.heap h' → (∀ b, h'.get? b = none → s.heap.get? b = none) →
      wpAny (model prog w) (A.deeper (envF fd f s.heap.objs.size)) (execs body (envF fd f s.heap.objs.size)) (fun fl s' => R (.ok (.ret (match fl with | .ret v => v | _ => .none))) s') NoE { s with heap := h', toks := s.toks + binds.length })
    (hco : fd.scope.isCoroutine = false := by rfl) (hgen : fd.scope.isGenerator = false := by rfl) (hk : fd.scope.kind = .function := by rfl) : codeAny (model prog w) A (.call (.ref f) ⟨vs, []⟩) R s := by
  refine codeAny_call_function hroom ho hd hco hgen hb hcd ?_
  rw [hbind]
  refine wpAny_pure (wpAny_newFunctionEnv hcell hloc (fun h₁ hns hsb => ?_) hk)
  have hk₁ : ∀ b o, s.heap.get? b = some o → h₁.get? b = some o := fun b o e => hsb.extBut b o (Nat.ne_of_lt (Heap.lt_size e)) (Heap.get?_push_of_some _ e)
  refine ⟨hlim.keeps hk₁, codeAny_func (noE (h h₁ hns hk₁ fun b e => ?_) fun _ _ q => q)⟩
  cases q : s.heap.get? b with
  | none => rfl
  | some o => rw [hk₁ _ _ q] at e; cases e
theorem call_fnE {body : Expr} (hroom : A.depth < 1000) (hlim : s.heap.NoLimit) (ho : s.heap.get? f = some fo) (hd : fo.data = .func fd) (hb : fd.body = .expr body) (hcd : s.heap.CodeRec fd.code fd.qualname)
    (hbind : bindArgs fd ⟨vs, []⟩ = pure binds) (hcell : ∀ x ∈ fd.scope.names, x.2 ≠ .cell) (hloc : ∀ x ∈ binds, fd.scope.names.lookup x.1 = some .local)
    (h : ∀ h', h'.Ns s.heap.objs.size (fun x => binds.reverse.lookup x) → Stays s.heap h' → (∀ b, h'.get? b = none → s.heap.get? b = none) →
      wpAny (model prog w) (A.deeper (envF fd f s.heap.objs.size)) (eval body (envF fd f s.heap.objs.size)) (fun v s' => R (.ok (.ret v)) s') NoE { s with heap := h', toks := s.toks + binds.length })
    (hco : fd.scope.isCoroutine = false := by rfl) (hgen : fd.scope.isGenerator = false := by rfl) (hk : fd.scope.kind = .function := by rfl) : codeAny (model prog w) A (.call (.ref f) ⟨vs, []⟩) R s := by
  refine kla_callFunE hroom ho hd hco hgen hb hcd ?_
  rw [hbind]
  refine wpAny_pure (wpAny_newFunctionEnv hcell hloc (fun h₁ hns hsb => ?_) hk)
  have hk₁ : ∀ b o, s.heap.get? b = some o → h₁.get? b = some o := fun b o e => hsb.extBut b o (Nat.ne_of_lt (Heap.lt_size e)) (Heap.get?_push_of_some _ e)
  refine ⟨hlim.keeps hk₁, kla_codeExpr (noE (h h₁ hns hk₁ fun b e => ?_) fun _ _ q => q)⟩
  cases q : s.heap.get? b with
  | none => rfl
  | some o => rw [hk₁ _ _ q] at e; cases e
end
end Mine
end

section
open PySem PySem.W PyProof.Rows PySem.Calls
namespace Mine
noncomputable abbrev fdK (W : Wd) (i : Nat) (name qual : Str) (clos : List (Str × Addr)) (doc : Value) (c' : Addr) (ctv : Value) : FuncData := match (kFn W i name qual clos doc c' ctv).data with
  | .func fd => fd
  | _ => default
theorem bindK0 (W : Wd) (doc : Value) (c' : Addr) (ctv x v : Value) : bindArgs (fdK W 2 "__init__" (sQ "__init__") [] doc c' ctv) ⟨[x, v], []⟩ = pure [(("self" : Str), x), (("obj" : Str), v)] := by kernel_rfl
theorem namesK0 (W : Wd) : (sScope (kDef W.w.params 2)).names = [(("self" : Str), .local), (("obj" : Str), .local)] := by kernel_rfl
theorem under_type (A : Around) (C : Addr) (vals : List Value) : (A.under (.builtin "type.__call__" ⟨.ref C :: vals, []⟩)).depth = A.depth + 1 ∧ (A.under (.builtin "type.__call__" ⟨.ref C :: vals, []⟩)).handled = A.handled := ⟨rfl, rfl⟩
section
variable {c : Cx} {n : Nat} {cell a N md f0 f1 f2 f3 f4 f5 : Addr}
noncomputable def InstF (g h : Heap) (a y : Addr) (v : Value) : Prop := ∃ dx, h.get? y = some (instK a dx v) ∧ h.get? dx = some emptyDict ∧ g.get? y = none ∧ g.get? dx = none
theorem InstF.inst {g h : Heap} {a y : Addr} {v : Value} (x : InstF g h a y v) : Inst h a y v := let ⟨dx, e1, e2, _⟩ := x; ⟨dx, e1, e2⟩
theorem call_KF {s : Shared} (ok : c.Ok (n + 2)) (x : St c s.heap) (KA : KAt c.W c.h₀ cell a N md f0 f1 f2 f3 f4 f5) (v : Value) :
    wpAny c.W.M c.A (call (.ref a) [v]) (fun r s' => Kp s s' ∧ ∃ y, r = .ref y ∧ InstF s.heap s'.heap a y v) NoE s := by
  have K1 := KA.keep x.keep
  have lim := ok.gd.T.nolimit.keeps x.keep
  refine wpAny_call ?_
  obtain ⟨h, g, d, t, os⟩ := s
  refine make_core (kat_makes K1) (kat_init K1) (fun self => fnk_bind K1.init self) (.inl rfl) ?_
  generalize hg1 : (h.push emptyDict).push (instObj a h.objs.size) = g1
  have k1 : Stays h g1 := fun b o e => by rw [← hg1]; exact Heap.get?_push_of_some _ (Heap.get?_push_of_some _ e)
  have hz1 : g1.objs.size = h.objs.size + 2 := by rw [← hg1, Heap.size_push, Heap.size_push]
  have ey : g1.get? (h.objs.size + 1) = some (instObj a h.objs.size) := by rw [← hg1]; heap_get
  have ed : g1.get? h.objs.size = some emptyDict := by rw [← hg1]; heap_get
  have K2 := K1.keep k1
  obtain ⟨doc, c', ctv, e0, rec0⟩ := K2.init
  obtain ⟨u1, u2⟩ := under_type c.A a [v]
  have hr := ok.rm.dp
  refine call_fnA (fd := fdK c.W 2 "__init__" (sQ "__init__") [] doc c' ctv) (by rw [u1]; omega) (lim.keeps k1) e0 rfl rfl rec0 (bindK0 c.W doc c' ctv _ _) (fun z hz => ?_) (fun z hz => ?_) fun h2 hn2 k2 n2 => ?_
  · have hz' : z ∈ [(("self" : Str), NameKind.local), (("obj" : Str), NameKind.local)] := by rw [← namesK0 c.W]; exact hz
    simp only [List.mem_cons, List.not_mem_nil, or_false] at hz'
    rcases hz' with rfl | rfl <;> decide
  · show (sScope (kDef c.W.w.params 2)).names.lookup z.1 = _
    rw [namesK0]
    simp only [List.mem_cons, List.not_mem_nil, or_false] at hz
    rcases hz with rfl | rfl <;> rfl
  refine wpAny_execs_cons (plainObj_wpAny_Assign_Attribute (wpAny_Name (wpAny_loadName_local (v := v) rfl (by kernel_rfl) hn2 rfl ?_) rfl) rfl)
  refine wpAny_Name (wpAny_loadName_local (v := .ref (h.objs.size + 1)) rfl (by kernel_rfl) hn2 rfl ?_) rfl
  dsimp only at k2 hn2 n2
  obtain ⟨Kf, X, F⟩ := kat_frag K1
  have hyn : h.get? (h.objs.size + 1) = none := Heap.get?_none_of_le (Nat.le_succ _)
  have hgn : g1.get? g1.objs.size = none := Heap.get?_none_of_le (Nat.le_refl _)
  have hyL : h.objs.size + 1 ≠ g1.objs.size := by omega
  have Fr2 : Fr (hideAll g1 [h.objs.size + 1]) g1.objs.size h2 _ := ⟨hn2, fun b o e => k2 _ _ (of_hideAll _ e), Nat.le_of_eq (hideAll_size _ _)⟩
  have N2 : News (hideAll g1 [h.objs.size + 1]) g1.objs.size h2 [(h.objs.size + 1, instObj a h.objs.size)] := fun p hp => by
    rw [List.mem_singleton.mp hp]
    exact ⟨k2 _ _ ey, hyL, hideAll_none _ (by simp)⟩
  have keepH : Stays h (hideAll g1 [h.objs.size + 1]) := fun b o e => hideAll_get _ (k1 _ _ e) fun hm => by rw [List.mem_singleton.mp hm, hyn] at e; cases e
  have X2 : Kf.In (hideAll g1 [h.objs.size + 1]) := X.keeps keepH
  have I2 : InstAt h2 (h.objs.size + 1) (instObj a h.objs.size) a (some emptyDict) := ⟨k2 _ _ ey, rfl, rfl, k2 _ _ ed⟩
  refine set_slot (K := Kf) (p := md) (i := 0) Fr2 X2 N2 I2 F.setattr F.plain F.taker F.tmd F.slot (by decide) (ox' := instK a h.objs.size v) rfl rfl (.head fun p hp => nomatch hp) fun h3 F3 N3 => ?_
  refine wpAny_execs_nil ⟨rfl, ?_⟩
  have e3 := (N3 _ (.head _)).1
  refine ⟨⟨h3, _, rfl, fun b o e => F3.keep _ _ (keepH _ _ e)⟩, _, rfl, h.objs.size, e3, F3.keep _ _ (hideAll_get _ ed (by simp)), hyn, Heap.get?_none_of_le (Nat.le_refl _)⟩
theorem call_K {s : Shared} (ok : c.Ok (n + 2)) (x : St c s.heap) (KA : KAt c.W c.h₀ cell a N md f0 f1 f2 f3 f4 f5) (v : Value) :
    wpAny c.W.M c.A (call (.ref a) [v]) (fun r s' => Kp s s' ∧ ∃ y, r = .ref y ∧ Inst s'.heap a y v) NoE s :=
  noE (call_KF ok x KA v) fun r s' ⟨k, y, e, I⟩ => ⟨k, y, e, I.inst⟩
end
end Mine
end

section
open PySem PySem.W PyProof.Rows PySem.Calls
namespace Mine
noncomputable def Cx.clo (c : Cx) (fd : FuncData) (f : Addr) (s : Shared) : Cx := { W := c.W, A := c.A.deeper (envF fd f s.heap.objs.size), env := envF fd f s.heap.objs.size, h₀ := s.heap, P := c.P, b := s }
theorem lookup_mem {α : Type} {x : Str} {v : α} : ∀ {l : List (Str × α)}, (l.map (·.1)).Nodup → (x, v) ∈ l → l.lookup x = some v
  | (y, u) :: r, hn, h => by
    rw [List.map_cons, List.nodup_cons] at hn
    rw [List.lookup_cons]
    rcases List.mem_cons.mp h with e | h2
    · cases e; simp
    · have : (x == y) = false := by
        simp only [beq_eq_false_iff_ne]
        rintro rfl
        exact hn.1 (List.mem_map.mpr ⟨(x, v), h2, rfl⟩)
      rw [this]
      exact lookup_mem hn.2 h2
section
variable {c : Cx} {n : Nat} {s : Shared} {fd : FuncData} {f : Addr}
theorem clo_ok (ok : c.Ok (n + 1)) (x : St c s.heap) (hk : fd.scope.kind = .function := by rfl) (hg : fd.globals = mainGlobals := by rfl) (hb : fd.builtins = builtinsNs := by rfl) : (c.clo fd f s).Ok n :=
  ⟨ok.gd.keep x.keep, ok.rm.deeper _, hk, hg, hb⟩
theorem clo_fr {h2 : Heap} {binds : List (Str × Value)} {bds κ : Loc} (x : St c s.heap) (rb : RepB c.P s.heap bds binds) (hnd : (bds.map (·.1)).Nodup) (hn2 : h2.Ns s.heap.objs.size (fun x => binds.reverse.lookup x)) (k2 : Stays s.heap h2)
    (hκ : ∀ y a, fd.closure.lookup y = some a → ∃ o vo, s.heap.get? a = some o ∧ o.data = .cell vo ∧ ∀ d, κ.lookup y = some d → ∃ v, vo = some v ∧ Rep c.P s.heap d v) : FrD (c.clo fd f s) bds κ h2 where
  keep := k2
  new := x.new.keep k2
  loc := ⟨_, hn2, fun y d e => by
    obtain ⟨v, hv, r⟩ := rb.mem (mem_of_lookup e)
    refine ⟨v, lookup_mem ?_ (List.mem_reverse.mpr hv), r.keep k2⟩
    rw [List.map_reverse, rb.names]
    exact List.pairwise_reverse.mpr (hnd.imp fun q => Ne.symm q)⟩
  cel := fun y a e => by
    obtain ⟨o, vo, h1, h3, h4⟩ := hκ y a e
    exact ⟨o, vo, k2 _ _ h1, h3, fun d e => let ⟨v, p, q⟩ := h4 d e; ⟨v, p, q.keep k2⟩⟩
theorem keeps_heap {h : Heap} {fo : Obj} (hf : h.get? f = some fo) (hd : ∃ fd, fo.data = .func fd) (hc : fo.cls = .type "function") : Keepers { c with h₀ := h } (.ref f) := fun h' x => by
  refine keeps_K (K := [(f, fo)]) ?_ h' ((in1 hf).keeps x.keep)
  obtain ⟨fd, hd⟩ := hd
  obtain ⟨oc, od, da, sl⟩ := fo
  dsimp only at hd hc
  subst hd
  unfold keepIn
  dsimp only
  rw [lookup1]
theorem ev_slot {ρ κ : Loc} {nx : Str} {np pos : Pos} {d : D} {cell a N md f0 f1 f2 f3 f4 f5 y : Addr} {v : Value} (KA : KAt c.W c.h₀ cell a N md f0 f1 f2 f3 f4 f5) (I : Inst c.h₀ a y v) (r : Rep c.P c.h₀ d v) (hv : handedIn v = true) (ho : Ev c ρ κ (.Name nx np) (.val (.ref y))) : Ev c ρ κ (.Attribute (.Name nx np) "obj" pos) d := ⟨fun s F => by
  refine Attribute_name (noE (ho.go s F) fun w s1 ⟨k1, r1⟩ => ?_)
  obtain rfl := rep_val.mp r1
  have F1 := F.on k1.stays
  have kk := F1.keep
  obtain ⟨K, X, KF⟩ := kat_frag (KA.keep kk)
  obtain ⟨ox, od, I2, hsl⟩ := (I.on kk).at
  refine get_bind X I2 (plainGet_of KF.pget).1 (findObj_data KF.isCls KF.obj KF.mget KF.mtakes) (plainGet_of KF.pget).2 (wpAny_call (slot_get (s := { s1 with toks := s1.toks + 1 }) X I2 KF.slot hsl (handed_on hv ?_)))
  exact ⟨k1.trans (kp_toks s1 _), r.keep kk⟩⟩
end
end Mine
end

section
open PySem PySem.W PyProof.Rows PySem.Calls
namespace Mine
structure KOk (c : Cx) (lam cell a N md f0 f1 f2 f3 f4 f5 : Addr) : Prop where
  KA : KAt c.W c.h₀ cell a N md f0 f1 f2 f3 f4 f5
  cell : ∃ o, c.h₀.get? cell = some o ∧ o.data = .cell (some (.ref lam))
  lam : ∃ fo, c.h₀.get? lam = some fo ∧ (∃ fd, fo.data = .func fd) ∧ fo.cls = .type "function"
theorem KOk.at {c : Cx} {lam cell a N md f0 f1 f2 f3 f4 f5 : Addr} (x : KOk c lam cell a N md f0 f1 f2 f3 f4 f5) {c' : Cx} (hW : c'.W = c.W) (k : Stays c.h₀ c'.h₀) : KOk c' lam cell a N md f0 f1 f2 f3 f4 f5 where
  KA := by rw [hW]; exact x.KA.keep k
  cell := let ⟨o, h1, h2⟩ := x.cell; ⟨o, k _ _ h1, h2⟩
  lam := let ⟨o, h1, h2⟩ := x.lam; ⟨o, k _ _ h1, h2⟩
structure Held (c : Cx) (a y : Addr) (d : D) : Prop where
  at' : ∃ v, Inst c.h₀ a y v ∧ Rep c.P c.h₀ d v ∧ handedIn v = true
noncomputable def CmpAt (c : Cx) (n : Nat) (lam : Addr) (d1 d2 : D) (k : Int) : Prop := ∀ c' : Cx, c'.W = c.W → c'.P = c.P → Stays c.h₀ c'.h₀ → c'.Ok n → CallD c' (.ref lam) [d1, d2] (.int k)
theorem bindK (W : Wd) (clos : List (Str × Addr)) (doc : Value) (c' : Addr) (ctv x v : Value) (name qual : Str) : bindArgs (fdK W 3 name qual clos doc c' ctv) ⟨[x, v], []⟩ = pure [(("self" : Str), x), (("other" : Str), v)] ∧ bindArgs (fdK W 4 name qual clos doc c' ctv) ⟨[x, v], []⟩ = pure [(("self" : Str), x), (("other" : Str), v)] ∧
    bindArgs (fdK W 5 name qual clos doc c' ctv) ⟨[x, v], []⟩ = pure [(("self" : Str), x), (("other" : Str), v)] ∧ bindArgs (fdK W 6 name qual clos doc c' ctv) ⟨[x, v], []⟩ = pure [(("self" : Str), x), (("other" : Str), v)] ∧ bindArgs (fdK W 7 name qual clos doc c' ctv) ⟨[x, v], []⟩ = pure [(("self" : Str), x), (("other" : Str), v)] := ⟨by kernel_rfl, by kernel_rfl, by kernel_rfl, by kernel_rfl, by kernel_rfl⟩
theorem namesK (W : Wd) : (sScope (kDef W.w.params 3)).names = [(("self" : Str), .local), (("other" : Str), .local), (("mycmp" : Str), .free)] := by kernel_rfl
section
variable {c : Cx} {n : Nat} {lam cell a N md f0 f1 f2 f3 f4 f5 y z : Addr} {d1 d2 : D} {k : Int}
theorem k_core {f : Addr} {fo : Obj} {fd : FuncData} {op : CmpOp} {b : Bool} {p1 p2 p3 p4 p5 p6 p7 p8 p9 : Pos} {q : Nat} (ok : c.Ok (n + 1)) (K : KOk c lam cell a N md f0 f1 f2 f3 f4 f5) (h1 : Held c a y d1) (h2 : Held c a z d2) (hc : CmpAt c n lam d1 d2 k)
    (ho : c.h₀.get? f = some fo) (hd : fo.data = .func fd) (hcd : c.h₀.CodeRec fd.code fd.qualname)
    (hb : fd.body = .stmts [Stmt.Return (some (.Compare (.Call (.Name "mycmp" p1) [.Attribute (.Name "self" p2) "obj" p3, .Attribute (.Name "other" p4) "obj" p5] [] p6) [op] [.Constant (.int 0) q p7] p8)) p9])
    (hbind : ∀ x v, bindArgs fd ⟨[x, v], []⟩ = pure [(("self" : Str), x), (("other" : Str), v)]) (hn : fd.scope.names = [(("self" : Str), .local), (("other" : Str), .local), (("mycmp" : Str), .free)]) (hcl : fd.closure = [(("mycmp" : Str), cell)])
    (hop : ∀ c' : Cx, Op2 c' (compareOp op) (.int k) (.int 0) (bo b)) (hco : fd.scope.isCoroutine = false) (hgen : fd.scope.isGenerator = false) (hk : fd.scope.kind = .function) (hg : fd.globals = mainGlobals) (hbn : fd.builtins = builtinsNs) :
    CallD c (.ref f) [.val (.ref y), .val (.ref z)] (bo b) := fun s vs x r => by
  obtain ⟨v, r', rfl, r1, r2⟩ := repL_cons.mp r; obtain ⟨u, r'', rfl, r3, r4⟩ := repL_cons.mp r2; obtain rfl := repL_nil.mp r4
  obtain rfl := rep_val.mp r1; obtain rfl := rep_val.mp r3
  have hr := ok.rm.dp
  obtain ⟨c₂, oc, cvs, ct, e2, hoc, hcd2, hcv⟩ := hcd
  refine wpAny_call (call_fnA (by omega) (ok.gd.T.nolimit.keeps x.keep) (x.keep _ _ ho) hd hb ⟨c₂, oc, cvs, ct, e2, x.keep _ _ hoc, hcd2, hcv⟩ (hbind _ _) (fun w hw => ?_) (fun w hw => ?_) (fun h' hns k' n' => ?_) hco hgen hk)
  · rw [hn] at hw
    simp only [List.mem_cons, List.not_mem_nil, or_false] at hw
    rcases hw with rfl | rfl | rfl <;> decide
  · rw [hn]
    simp only [List.mem_cons, List.not_mem_nil, or_false] at hw
    rcases hw with rfl | rfl <;> rfl
  have okc : (c.clo fd f s).Ok n := clo_ok ok x hk hg hbn
  have Kc : KOk (c.clo fd f s) lam cell a N md f0 f1 f2 f3 f4 f5 := K.at rfl x.keep
  obtain ⟨v1, i1, q1, e1⟩ := h1.at'
  obtain ⟨v2, i2, q2, e3⟩ := h2.at'
  have F : FrD (c.clo fd f s) [("self", .val (.ref y)), ("other", .val (.ref z))] [("mycmp", .val (.ref lam))] h' := clo_fr x (repB_cons (rep_val.mpr rfl) (repB_cons (rep_val.mpr rfl) repB_nil)) (by show ([("self" : Str), "other"] : List Str).Nodup; decide) hns k' fun w aw e => by
    rw [hcl, List.lookup_cons] at e
    split at e
    · rename_i q
      cases e
      obtain ⟨o, ho1, ho2⟩ := Kc.cell
      refine ⟨o, _, ho1, ho2, fun d e => ?_⟩
      rw [List.lookup_cons, q] at e
      cases e
      exact ⟨_, rfl, rep_val.mpr rfl⟩
    · cases e
  have hkof : ∀ w, (c.clo fd f s).env.kindOf w = fd.scope.names.lookup w := fun w => rfl
  have e := ev_call (c := c.clo fd f s) (ρ := [("self", .val (.ref y)), ("other", .val (.ref z))]) (κ := [("mycmp", .val (.ref lam))]) (pos := p6)
    (ev_free (x := "mycmp") (pos := p1) (d := .val (.ref lam)) (a := cell) okc (by rw [hkof, hn]; rfl) (by show fd.closure.lookup _ = _; rw [hcl]; rfl) rfl rfl rfl)
    (evL_cons (ev_slot (np := p2) (pos := p3) Kc.KA (i1.on x.keep) (q1.keep x.keep) e1 (ev_loc (x := "self") okc (by rw [hkof, hn]; rfl) rfl rfl))
      (evL_cons (ev_slot (np := p4) (pos := p5) Kc.KA (i2.on x.keep) (q2.keep x.keep) e3 (ev_loc (x := "other") okc (by rw [hkof, hn]; rfl) rfl rfl)) evL_nil))
    (by obtain ⟨lo, l1, l2, l3⟩ := Kc.lam; exact keeps_heap (c := c.clo fd f s) l1 l2 l3) (hc (c.clo fd f s) rfl rfl x.keep okc)
  have R := x_retD (rest := []) (pos := p9) (ev_cmp (pos := p8) e (ev_int (k := q) (pos := p7)) (hop _))
  refine noE (R.go _ F ⟨h', _, rfl⟩) fun fl s' hq => ?_
  obtain ⟨v, rfl, ⟨h3, t3, e5⟩, x3, r5⟩ := hq
  subst e5
  exact ⟨⟨h3, t3, rfl, x3.keep⟩, r5⟩
end
end Mine
end

section
open PySem PySem.W PyProof.Rows PySem.Calls
namespace Mine
section
variable {W : Wd} {A : Around} {E : Value → Shared → Prop} {s : Shared} {cell a N md f0 f1 f2 f3 f4 f5 f y : Addr} {v : Value}
theorem own_special {name : Str} {i : Nat} {qual : Str} {clos : List (Str × Addr)} {args : List Value} {Q : Option Value → Shared → Prop} (KA : KAt W s.heap cell a N md f0 f1 f2 f3 f4 f5) (I : Inst s.heap a y v)
    (hl : ∀ v0 v2 sl sa, (classL v0 v2 sl f0 f1 f2 f3 f4 f5 sa md).lookup name = some (.ref f)) (hf : FnK W s.heap f i name qual clos)
    (h : wpAny W.M A (call (.ref f) (.ref y :: args)) (fun r => Q (some r)) E s) : wpAny W.M A (callSpecialIfBound? (.ref y) name args) Q E s := by
  obtain ⟨ox, od, I2, _⟩ := I.at
  have call2 : wpAny W.M A (call (.ref f) ([.ref y] ++ args) >>= fun r => pure (some r)) Q E s := wpAny_bind (wpAny_mono h (fun r s' q => wpAny_pure q) fun _ _ q => q)
  have look := kat_look (M := W.M) KA hl
  unfold callSpecialIfBound? bindSpecialIfBound?
  refine wpAny_holding ?_
  refine wpAny_bind (wpAny_bind (wpAny_bind (I2.type.here (look.here ?_))))
  refine wpAny_bind (wpAny_askSetting (wpAny_ite ?_))
  have bnd := fnk_bind (M := W.M) hf (.ref y)
  split
  · exact wpAny_bind (bnd.here (wpAny_pure call2))
  · exact wpAny_tryCatch (wpAny_bind (bnd.here (wpAny_pure call2)))
theorem own_rich {op : CmpOp} {i : Nat} {qual : Str} {clos : List (Str × Addr)} {z : Addr} {u : Value} {b : Bool} {Q : Value → Shared → Prop} (hu : A.units < cLine) (KA : KAt W s.heap cell a N md f0 f1 f2 f3 f4 f5) (I : Inst s.heap a y v) (J : Inst s.heap a z u)
    (hl : ∀ v0 v2 sl sa, (classL v0 v2 sl f0 f1 f2 f3 f4 f5 sa md).lookup (cmpInfo op).2.1 = some (.ref f)) (hf : FnK W s.heap f i (cmpInfo op).2.1 qual clos)
    (h : wpAny W.M A (call (.ref f) [.ref y, .ref z]) (fun r s' => r = .bool b ∧ Q (.bool b) s') E s) : wpAny W.M A (richCompare op (.ref y) (.ref z)) Q E s := by
  obtain ⟨ox, od, I2, _⟩ := I.at
  obtain ⟨oz, ez, J2, _⟩ := J.at
  unfold richCompare
  rw [oneThing_ref]
  refine wpAny_holding (wpAny_bind (wpAny_cRoomFor hu ?_))
  dsimp only
  refine wpAny_bind (I2.type.here (wpAny_bind (J2.type.here ?_)))
  have e : (Value.ref a != Value.ref a) = false := by simp
  rw [e]
  refine wpAny_bind (wpAny_pure ?_)
  simp only [Bool.false_eq_true, if_false]
  refine wpAny_bind ?_
  unfold tryCompare
  refine wpAny_bind (own_special KA I hl hf (wpAny_mono h (fun r s' q => ?_) fun _ _ q => q))
  obtain ⟨rfl, q⟩ := q
  exact wpAny_pure (wpAny_pure q)
theorem own_lt {i : Nat} {qual : Str} {clos : List (Str × Addr)} {z : Addr} {b : Bool} {Q : Bool → Shared → Prop} (hu : A.units < cLine) (KA : KAt W s.heap cell a N md f0 f1 f2 f3 f4 f5) (I : Inst s.heap a y v)
    (hl : ∀ v0 v2 sl sa, (classL v0 v2 sl f0 f1 f2 f3 f4 f5 sa md).lookup ("__lt__" : Str) = some (.ref f)) (hf : FnK W s.heap f i "__lt__" qual clos)
    (h : wpAny W.M A (call (.ref f) [.ref y, .ref z]) (fun r s' => r = .bool b ∧ Q b s') E s) : wpAny W.M A (keyLt' oneType' (.ref y) (.ref z)) Q E s := by
  rw [keyLt'_oneType, oneLt'_eq]
  simp only [if_true]
  refine wpAny_bind (wpAny_cRoomFor hu ?_)
  refine wpAny_bind (own_special KA I hl hf (wpAny_mono h (fun r s' q => ?_) fun _ _ q => q))
  obtain ⟨rfl, q⟩ := q
  exact wpAny_truthy_bool q
end
section
variable {c : Cx} {n : Nat} {lam cell a N md f0 f1 f2 f3 f4 f5 y z : Addr} {d1 d2 : D} {k : Int}
theorem Held.inst {c : Cx} {a y : Addr} {d : D} (x : Held c a y d) : ∃ v, Inst c.h₀ a y v := let ⟨v, h, _⟩ := x.at'; ⟨v, h⟩
theorem k_lt (ok : c.Ok (n + 1)) (K : KOk c lam cell a N md f0 f1 f2 f3 f4 f5) (h1 : Held c a y d1) (h2 : Held c a z d2) (hc : CmpAt c n lam d1 d2 k) : CallD c (.ref f1) [.val (.ref y), .val (.ref z)] (bo (decide (k < 0))) := by
  obtain ⟨doc, c', ctv, e, rec⟩ := K.KA.lt
  exact k_core (fd := fdK c.W 3 _ _ _ doc c' ctv) ok K h1 h2 hc e rfl rec rfl (fun x v => (bindK c.W _ doc c' ctv x v _ _).1) (namesK c.W) rfl (fun c' => op_lt_int) rfl rfl rfl rfl rfl
theorem k_gt (ok : c.Ok (n + 1)) (K : KOk c lam cell a N md f0 f1 f2 f3 f4 f5) (h1 : Held c a y d1) (h2 : Held c a z d2) (hc : CmpAt c n lam d1 d2 k) : CallD c (.ref f2) [.val (.ref y), .val (.ref z)] (bo (decide (k > 0))) := by
  obtain ⟨doc, c', ctv, e, rec⟩ := K.KA.gt
  exact k_core (fd := fdK c.W 4 _ _ _ doc c' ctv) ok K h1 h2 hc e rfl rec rfl (fun x v => (bindK c.W _ doc c' ctv x v _ _).2.1) rfl rfl (fun c' => op_gt_int) rfl rfl rfl rfl rfl
theorem k_eq (ok : c.Ok (n + 1)) (K : KOk c lam cell a N md f0 f1 f2 f3 f4 f5) (h1 : Held c a y d1) (h2 : Held c a z d2) (hc : CmpAt c n lam d1 d2 k) : CallD c (.ref f3) [.val (.ref y), .val (.ref z)] (bo (k == 0)) := by
  obtain ⟨doc, c', ctv, e, rec⟩ := K.KA.eq
  exact k_core (fd := fdK c.W 5 _ _ _ doc c' ctv) ok K h1 h2 hc e rfl rec rfl (fun x v => (bindK c.W _ doc c' ctv x v _ _).2.2.1) rfl rfl (fun c' => op_eq_int) rfl rfl rfl rfl rfl
theorem k_le (ok : c.Ok (n + 1)) (K : KOk c lam cell a N md f0 f1 f2 f3 f4 f5) (h1 : Held c a y d1) (h2 : Held c a z d2) (hc : CmpAt c n lam d1 d2 k) : CallD c (.ref f4) [.val (.ref y), .val (.ref z)] (bo (decide (k ≤ 0))) := by
  obtain ⟨doc, c', ctv, e, rec⟩ := K.KA.le
  exact k_core (fd := fdK c.W 6 _ _ _ doc c' ctv) ok K h1 h2 hc e rfl rec rfl (fun x v => (bindK c.W _ doc c' ctv x v _ _).2.2.2.1) rfl rfl (fun c' => op_le_int) rfl rfl rfl rfl rfl
theorem k_ge (ok : c.Ok (n + 1)) (K : KOk c lam cell a N md f0 f1 f2 f3 f4 f5) (h1 : Held c a y d1) (h2 : Held c a z d2) (hc : CmpAt c n lam d1 d2 k) : CallD c (.ref f5) [.val (.ref y), .val (.ref z)] (bo (decide (k ≥ 0))) := by
  obtain ⟨doc, c', ctv, e, rec⟩ := K.KA.ge
  exact k_core (fd := fdK c.W 7 _ _ _ doc c' ctv) ok K h1 h2 hc e rfl rec rfl (fun x v => (bindK c.W _ doc c' ctv x v _ _).2.2.2.2) rfl rfl (fun c' => op_ge_int) rfl rfl rfl rfl rfl
theorem opK_lt (ok : c.Ok (n + 1)) (K : KOk c lam cell a N md f0 f1 f2 f3 f4 f5) (h1 : Held c a y d1) (h2 : Held c a z d2) (hc : CmpAt c n lam d1 d2 k) : Op2 c (compareOp .Lt) (.val (.ref y)) (.val (.ref z)) (bo (decide (k < 0))) := fun s v1 v2 x r1 r2 => by
  obtain rfl := rep_val.mp r1; obtain rfl := rep_val.mp r2
  obtain ⟨u1, i1⟩ := h1.inst
  obtain ⟨u2, i2⟩ := h2.inst
  have hu := ok.rm.un
  show wpAny _ _ (richCompare .Lt _ _) _ _ _
  refine own_rich (op := .Lt) (b := decide (k < 0)) (by show c.A.units < 9900; omega) (K.KA.keep x.keep) (i1.on x.keep) (i2.on x.keep) (fun _ _ _ _ => by kernel_rfl) (K.KA.lt.keep x.keep) (noE (k_lt ok K h1 h2 hc s _ x (repL_cons.mpr ⟨_, _, rfl, rep_val.mpr rfl, repL_cons.mpr ⟨_, _, rfl, rep_val.mpr rfl, repL_nil.mpr rfl⟩⟩)) fun v s' q => ?_)
  have e := rep_val.mp q.2
  subst e
  exact ⟨rfl, q.1, rep_val.mpr rfl⟩
theorem opK_gt (ok : c.Ok (n + 1)) (K : KOk c lam cell a N md f0 f1 f2 f3 f4 f5) (h1 : Held c a y d1) (h2 : Held c a z d2) (hc : CmpAt c n lam d1 d2 k) : Op2 c (compareOp .Gt) (.val (.ref y)) (.val (.ref z)) (bo (decide (k > 0))) := fun s v1 v2 x r1 r2 => by
  obtain rfl := rep_val.mp r1; obtain rfl := rep_val.mp r2
  obtain ⟨u1, i1⟩ := h1.inst
  obtain ⟨u2, i2⟩ := h2.inst
  have hu := ok.rm.un
  show wpAny _ _ (richCompare .Gt _ _) _ _ _
  refine own_rich (op := .Gt) (b := decide (k > 0)) (by show c.A.units < 9900; omega) (K.KA.keep x.keep) (i1.on x.keep) (i2.on x.keep) (fun _ _ _ _ => by kernel_rfl) (K.KA.gt.keep x.keep) (noE (k_gt ok K h1 h2 hc s _ x (repL_cons.mpr ⟨_, _, rfl, rep_val.mpr rfl, repL_cons.mpr ⟨_, _, rfl, rep_val.mpr rfl, repL_nil.mpr rfl⟩⟩)) fun v s' q => ?_)
  have e := rep_val.mp q.2
  subst e
  exact ⟨rfl, q.1, rep_val.mpr rfl⟩
theorem opK_eq (ok : c.Ok (n + 1)) (K : KOk c lam cell a N md f0 f1 f2 f3 f4 f5) (h1 : Held c a y d1) (h2 : Held c a z d2) (hc : CmpAt c n lam d1 d2 k) : Op2 c (compareOp .Eq) (.val (.ref y)) (.val (.ref z)) (bo (k == 0)) := fun s v1 v2 x r1 r2 => by
  obtain rfl := rep_val.mp r1; obtain rfl := rep_val.mp r2
  obtain ⟨u1, i1⟩ := h1.inst
  obtain ⟨u2, i2⟩ := h2.inst
  have hu := ok.rm.un
  show wpAny _ _ (richCompare .Eq _ _) _ _ _
  refine own_rich (op := .Eq) (b := k == 0) (by show c.A.units < 9900; omega) (K.KA.keep x.keep) (i1.on x.keep) (i2.on x.keep) (fun _ _ _ _ => by kernel_rfl) (K.KA.eq.keep x.keep) (noE (k_eq ok K h1 h2 hc s _ x (repL_cons.mpr ⟨_, _, rfl, rep_val.mpr rfl, repL_cons.mpr ⟨_, _, rfl, rep_val.mpr rfl, repL_nil.mpr rfl⟩⟩)) fun v s' q => ?_)
  have e := rep_val.mp q.2
  subst e
  exact ⟨rfl, q.1, rep_val.mpr rfl⟩
theorem opK_le (ok : c.Ok (n + 1)) (K : KOk c lam cell a N md f0 f1 f2 f3 f4 f5) (h1 : Held c a y d1) (h2 : Held c a z d2) (hc : CmpAt c n lam d1 d2 k) : Op2 c (compareOp .LtE) (.val (.ref y)) (.val (.ref z)) (bo (decide (k ≤ 0))) := fun s v1 v2 x r1 r2 => by
  obtain rfl := rep_val.mp r1; obtain rfl := rep_val.mp r2
  obtain ⟨u1, i1⟩ := h1.inst
  obtain ⟨u2, i2⟩ := h2.inst
  have hu := ok.rm.un
  show wpAny _ _ (richCompare .LtE _ _) _ _ _
  refine own_rich (op := .LtE) (b := decide (k ≤ 0)) (by show c.A.units < 9900; omega) (K.KA.keep x.keep) (i1.on x.keep) (i2.on x.keep) (fun _ _ _ _ => by kernel_rfl) (K.KA.le.keep x.keep) (noE (k_le ok K h1 h2 hc s _ x (repL_cons.mpr ⟨_, _, rfl, rep_val.mpr rfl, repL_cons.mpr ⟨_, _, rfl, rep_val.mpr rfl, repL_nil.mpr rfl⟩⟩)) fun v s' q => ?_)
  have e := rep_val.mp q.2
  subst e
  exact ⟨rfl, q.1, rep_val.mpr rfl⟩
theorem opK_ge (ok : c.Ok (n + 1)) (K : KOk c lam cell a N md f0 f1 f2 f3 f4 f5) (h1 : Held c a y d1) (h2 : Held c a z d2) (hc : CmpAt c n lam d1 d2 k) : Op2 c (compareOp .GtE) (.val (.ref y)) (.val (.ref z)) (bo (decide (k ≥ 0))) := fun s v1 v2 x r1 r2 => by
  obtain rfl := rep_val.mp r1; obtain rfl := rep_val.mp r2
  obtain ⟨u1, i1⟩ := h1.inst
  obtain ⟨u2, i2⟩ := h2.inst
  have hu := ok.rm.un
  show wpAny _ _ (richCompare .GtE _ _) _ _ _
  refine own_rich (op := .GtE) (b := decide (k ≥ 0)) (by show c.A.units < 9900; omega) (K.KA.keep x.keep) (i1.on x.keep) (i2.on x.keep) (fun _ _ _ _ => by kernel_rfl) (K.KA.ge.keep x.keep) (noE (k_ge ok K h1 h2 hc s _ x (repL_cons.mpr ⟨_, _, rfl, rep_val.mpr rfl, repL_cons.mpr ⟨_, _, rfl, rep_val.mpr rfl, repL_nil.mpr rfl⟩⟩)) fun v s' q => ?_)
  have e := rep_val.mp q.2
  subst e
  exact ⟨rfl, q.1, rep_val.mpr rfl⟩
end
end Mine
end

section
open PySem PySem.W PyProof.Rows PySem.Calls
namespace Mine
/- a sort's questions: each is of two places, the answers decide -/
noncomputable def AskOk {α : Type} (n : Nat) (R : α → Prop) : KasT α → Prop
  | .ret a => R a
  | .ask i j k => i < n ∧ j < n ∧ ∀ b, AskOk n R (k b)
noncomputable def runT {α : Type} (b : Nat → Nat → Bool) : KasT α → α
  | .ret a => a
  | .ask i j k => runT b (k (b i j))
theorem AskOk.bind {α β : Type} {n : Nat} {R : α → Prop} {S : β → Prop} {f : α → KasT β} : ∀ {t : KasT α}, AskOk n R t → (∀ a, R a → AskOk n S (f a)) → AskOk n S (t.bind f)
  | .ret a, h, hf => hf a h
  | .ask i j k, h, hf => ⟨h.1, h.2.1, fun b => (h.2.2 b).bind hf⟩
theorem AskOk.run {α : Type} {n : Nat} {R : α → Prop} (b : Nat → Nat → Bool) : ∀ {t : KasT α}, AskOk n R t → R (runT b t)
  | .ret a, h => h
  | .ask i j k, h => (h.2.2 (b i j)).run b
theorem kas_det {α : Type} {n : Nat} {R : α → Prop} {cmp : Nat → Nat → (Bool → Shared → Prop) → Shared → Prop} {Q : α → Shared → Prop} (b : Nat → Nat → Bool) (I : Shared → Prop)
    (hc : ∀ i j (C : Bool → Shared → Prop) s, i < n → j < n → I s → (∀ s', I s' → C (b i j) s') → cmp i j C s) :
    ∀ {t : KasT α}, AskOk n R t → (∀ s', I s' → Q (runT b t) s') → ∀ s, I s → t.kasWp cmp Q s
  | .ret a, _, hq, s, hI => hq s hI
  | .ask i j k, h, hq, s, hI => hc i j _ s h.1 h.2.1 hI fun s' hI' => kas_det b I hc (h.2.2 (b i j)) hq s' hI'
noncomputable def PB (n : Nat) (p : Array Nat) : Prop := p.Perm (List.toArray (List.range n))
theorem PB.size {n : Nat} {p : Array Nat} (h : PB n p) : p.size = n := by have := h.size_eq; simpa using this
theorem PB.mem {n : Nat} {p : Array Nat} (h : PB n p) {i : Nat} (hi : i ∈ p.toList) : i < n := by
  have h2 : p.toList.Perm (List.range n) := Array.perm_iff_toList_perm.mp h
  exact List.mem_range.mp (h2.mem_iff.mp hi)
theorem PB.at {n : Nat} {p : Array Nat} (h : PB n p) (h0 : 0 < n) (i : Nat) : p.getD i 0 < n := by
  unfold Array.getD
  split
  · rename_i hi
    exact h.mem (by rw [Array.mem_toList_iff]; exact Array.getElem_mem hi)
  · exact h0
theorem PB.rev {n : Nat} {p : Array Nat} (h : PB n p) (i j : Nat) : PB n (kas_rev p i j) := (mirror_perm p i j _).trans h
theorem PB.bub {n : Nat} {p : Array Nat} (h : PB n p) (i j : Nat) : PB n (bubble p i j) := (bubble_perm p i j).trans h
section
variable {n : Nat} (h0 : 0 < n)
include h0
theorem ok_asc {p : Array Nat} (hp : PB n p) : ∀ f m, AskOk n (fun _ => True) (kas_asc p f m)
  | 0, m => trivial
  | f + 1, m => ⟨hp.at h0 _, hp.at h0 _, fun b => by cases b <;> first | trivial | exact ok_asc hp f (m + 1)⟩
theorem ok_desc : ∀ f (p : Array Nat) m q, PB n p → AskOk n (fun r => PB n r.1) (kas_desc f p m q)
  | 0, p, m, q, hp => hp
  | f + 1, p, m, q, hp => ⟨hp.at h0 _, hp.at h0 _, fun b => by
    cases b with
    | true =>
      dsimp only
      rw [if_pos rfl]
      split
      · exact ok_desc f _ _ _ (hp.rev _ _)
      · exact ok_desc f _ _ _ hp
    | false =>
      dsimp only
      rw [if_neg (show ¬ (false = true) by decide)]
      exact ⟨hp.at h0 _, hp.at h0 _, fun b => by
        cases b with
        | true => exact hp
        | false => exact ok_desc f _ _ _ hp⟩⟩
theorem ok_tail3 {p : Array Nat} (hp : PB n p) (a b : Nat) : AskOk n (fun r => PB n r.2) (kas_tail3 a b p) :=
  (ok_asc h0 (hp.rev _ _) _ _).bind fun _ _ => hp.rev _ _
theorem ok_descPart {p : Array Nat} (hp : PB n p) (a b : Nat) : AskOk n (fun r => PB n r.2) (kas_descPart a b p) :=
  (ok_desc h0 _ p _ _ hp).bind fun r hr => by
    split
    · exact ok_tail3 h0 (hr.rev _ _) _ _
    · exact ok_tail3 h0 hr _ _
theorem ok_count {p : Array Nat} (hp : PB n p) (b : Nat) : AskOk n (fun r => PB n r.2) (kas_count b p) :=
  (ok_asc h0 hp _ _).bind fun m _ => by
    split
    · exact hp
    · split
      · exact ⟨hp.at h0 _, hp.at h0 _, fun b => by
          cases b with
          | true => exact hp
          | false => exact ok_descPart h0 (hp.rev _ _) _ _⟩
      · exact ok_descPart h0 hp _ _
theorem ok_place {p : Array Nat} (hp : PB n p) (k : Nat) : ∀ f l r, AskOk n (fun _ => True) (kas_place p k f l r)
  | 0, l, r => trivial
  | f + 1, l, r => by
    unfold kas_place
    split
    · trivial
    · exact ⟨hp.at h0 _, hp.at h0 _, fun b => by cases b <;> exact ok_place hp k f _ _⟩
theorem ok_bin : ∀ f (p : Array Nat) k, PB n p → AskOk n (PB n) (kas_bin f p k)
  | 0, p, k, hp => hp
  | f + 1, p, k, hp => (ok_place h0 hp k _ _ _).bind fun l _ => ok_bin f _ _ (hp.bub _ _)
theorem ok_sort : AskOk n (PB n) (kas_sort n) :=
  (ok_count h0 (p := List.toArray (List.range n)) (Array.Perm.refl _) n).bind fun r hr => by
    split
    · exact ok_bin h0 _ _ _ hr
    · exact hr
end
end Mine
end

section
open PySem PySem.W PyProof.Rows PySem.Calls
namespace Mine
theorem St.put {c : Cx} {h h' : Heap} {a : Addr} {o : Obj} (x : St c h) (hs : Heap.SameBut a h h') (h0 : c.h₀.get? a = none) (ho : h'.get? a = some o) : St c h' :=
  ⟨fun b ob e => hs.extBut b ob (fun q => by rw [q, h0] at e; cases e) (x.keep b ob e), fun b e => x.new b (by
    by_cases q : b = a
    · rw [q, ho] at e; cases e
    · rw [← hs.2 b q]; exact e)⟩
theorem St.fresh {c : Cx} {h : Heap} (x : St c h) {a : Addr} (e : h.get? a = none) : c.h₀.get? a = none := by
  cases q : c.h₀.get? a with
  | none => rfl
  | some o => rw [x.keep _ _ q] at e; cases e
noncomputable def KeyKeep (g : Heap) (KeyP : Nat → Value → Heap → Prop) : Prop := ∀ i v h h', KeyP i v h → Stays g h' → (∀ b o, h.get? b = some o → ¬ SeqO o → h'.get? b = some o) → KeyP i v h'
theorem same_ns {a : Addr} {h h' : Heap} {o : Obj} (hs : Heap.SameBut a h h') (ho : h.get? a = some o) (hq : SeqO o) : ∀ b ob, h.get? b = some ob → ¬ SeqO ob → h'.get? b = some ob := fun b ob e hn =>
  hs.extBut b ob (fun q => by rw [q, ho] at e; cases e; exact hn hq) e
theorem seqO_list {c : String} {xs : Array Value} {n : Nat} : SeqO (seqObj c xs n) := ⟨_, _, rfl⟩
structure KsI (c : Cx) (KeyP : Nat → Value → Heap → Prop) (a kS : Addr) (e1 : Nat) (keys : Array Value) (s : Shared) : Prop where
  fr : From c s
  st : St c s.heap
  la : s.heap.get? a = some (seqObj "list" #[] e1)
  lk : ∃ e, s.heap.get? kS = some (seqObj "list" keys e)
  ks : ∀ i v, keys[i]? = some v → KeyP i v s.heap
section
variable {c : Cx} {n : Nat} {KeyP : Nat → Value → Heap → Prop} {a kS : Addr} {e1 : Nat} {vs : List Value} {ans : Nat → Nat → Bool}
theorem KsI.on {keys : Array Value} {s s' : Shared} (x : KsI c KeyP a kS e1 keys s) (hk : KeyKeep c.h₀ KeyP) (k : Kp s s') : KsI c KeyP a kS e1 keys s' :=
  ⟨x.fr.on k, x.st.on k.stays, k.stays _ _ x.la, let ⟨e, h⟩ := x.lk; ⟨e, k.stays _ _ h⟩, fun i v h => hk _ _ _ _ (x.ks i v h) (x.st.on k.stays).keep fun b o e _ => k.stays _ _ e⟩
theorem zip_item {keys : Array Value} {i : Nat} (hz : keys.size = vs.length) (hi : i < vs.length) : keys[i]? = some (kas_item (keys.zip vs.toArray) i).1 ∧ (kas_item (keys.zip vs.toArray) i).2 = vs.getD i .none := by
  have hi' : i < (keys.zip vs.toArray).size := by rw [Array.size_zip, hz, List.size_toArray, Nat.min_self]; exact hi
  have hk : i < keys.size := by omega
  unfold kas_item
  have e : (keys.zip vs.toArray).getD i (Value.none, Value.none) = (keys.zip vs.toArray)[i] := by
    unfold Array.getD
    rw [dif_pos hi']; rfl
  rw [e, Array.getElem_zip]
  exact ⟨by simp [hk], by simp [hi]⟩
theorem wp_ksort_end {keys : Array Value} {s : Shared} {T : Value} (hz : keys.size = vs.length) (h2 : 2 ≤ vs.length) (h64 : vs.length < 64) (hk : KeyKeep c.h₀ KeyP) (ha0 : c.h₀.get? a = none) (hk0 : c.h₀.get? kS = none) (hak : kS ≠ a)
    (hT : ∀ i v h, KeyP i v h → Looks c.W.M h (typeOf v) T) (hT1 : (T != Value.type "tuple") = true) (hT2 : (T == T) = true)
    (hcmp : ∀ i j v u s', i < vs.length → j < vs.length → St c s'.heap → From c s' → KeyP i v s'.heap → KeyP j u s'.heap → wpAny c.W.M c.A (keyLt' oneType' v u) (fun r s'' => Kp s' s'' ∧ r = ans i j) NoE s')
    (x : KsI c KeyP a kS e1 keys s) :
    wpAny c.W.M c.A (ksk_end a false vs.toArray e1 (.ref kS) keys) (fun fin s' => fin = .done (.ret .none) ∧ From c s' ∧ St c s'.heap ∧ ∃ m, s'.heap.get? a = some (seqObj "list" ((runT ans (kas_sort vs.length)).map fun i => vs.getD i .none) m)) NoE s := by
  have hzs : (keys.zip vs.toArray).size = vs.length := by rw [Array.size_zip, hz, List.size_toArray, Nat.min_self]
  unfold ksk_end
  dsimp only
  rw [if_neg (by decide)]
  have hn2 : ¬ vs.toArray.size < 2 := by rw [List.size_toArray]; omega
  rw [if_neg hn2, if_neg hn2]
  have kk := fun {Q : SortKind → Shared → Prop} => kas_kind (M := c.W.M) (A := c.A) (E := NoE) (s := s) (vs := keys.toList) (T := T) (Q := Q) (by rw [Array.length_toList]; omega) (fun v hv => by
    obtain ⟨i, hi⟩ := List.mem_iff_getElem?.mp hv
    exact hT i v _ (x.ks i v (by simpa using hi))) hT1 hT2
  rw [Array.toArray_toList] at kk
  refine wpAny_bind (kk ?_)
  have ask : (kas_sort vs.length).kasWp (kas_cmp c.W.prog c.W.w c.A oneType' (keys.zip vs.toArray)) (fun p s' => p = runT ans (kas_sort vs.length) ∧ KsI c KeyP a kS e1 keys s') s := by
    refine kas_det ans (KsI c KeyP a kS e1 keys) (fun i j C s' hi hj hI hC => ?_) (ok_sort (by omega)) (fun s' hI => ⟨rfl, hI⟩) s x
    have gi := zip_item hz hi
    have gj := zip_item hz hj
    exact wpAny_mono (hcmp i j _ _ s' hi hj hI.st hI.fr (hI.ks i _ gi.1) (hI.ks j _ gj.1)) (fun r s'' hr => by rw [hr.2]; exact hC s'' (hI.on hk hr.1)) fun _ _ e => e.elim
  have run := kas_runs (E := NoE) (Q := fun _ st' s' => arrOf st' = (runT ans (kas_sort vs.length)).map (kas_item (keys.zip vs.toArray)) ∧ failedOf st' = none ∧ KsI c KeyP a kS e1 keys s') h2 h64
    (fun p' st' s' a1 a2 a3 a4 => ⟨by rw [a2, a4.1], a3, a4.2⟩) ask
  have hrg := kas_range (keys.zip vs.toArray)
  rw [hzs] at hrg
  unfold kas_st at run
  rw [hrg] at run
  refine wpAny_bind (wpAny_mono run ?_ fun _ _ e => e)
  rintro ⟨⟨⟩, st'⟩ s' ⟨har, hf, hI⟩
  dsimp only at har hf hI ⊢
  obtain ⟨e, hlk⟩ := hI.lk
  have pb := (ok_sort (n := vs.length) (by omega)).run ans
  have hout : (arrOf st').map (·.2) = (runT ans (kas_sort vs.length)).map fun i => vs.getD i .none := by
    rw [har, Array.map_map]
    refine Array.map_congr_left fun i hi => ?_
    have := pb.mem (Array.mem_toList_iff.mpr hi)
    exact (zip_item hz this).2
  unfold ksk_tail
  dsimp only
  rw [if_neg (by decide), hout]
  have s1 := Heap.SameBut.update s'.heap kS (Obj.mapSeq fun _ => (#[] : Array Value))
  obtain ⟨c1, hc1⟩ : ∃ m, (s'.heap.update kS (Obj.mapSeq fun _ => (#[] : Array Value))).get? kS = some (seqObj "list" #[] m) := ⟨_, get?_update_seq hlk fun _ => #[]⟩
  have na1 : (s'.heap.update kS (Obj.mapSeq fun _ => (#[] : Array Value))).get? a = some (seqObj "list" #[] e1) := (s1.2 a hak.symm).trans hI.la
  have s2 := Heap.SameBut.update (s'.heap.update kS (Obj.mapSeq fun _ => (#[] : Array Value))) a (Obj.mapSeq fun _ => (runT ans (kas_sort vs.length)).map fun i => vs.getD i .none)
  obtain ⟨c2, hc2⟩ : ∃ m, ((s'.heap.update kS (Obj.mapSeq fun _ => (#[] : Array Value))).update a (Obj.mapSeq fun _ => (runT ans (kas_sort vs.length)).map fun i => vs.getD i .none)).get? a = some (seqObj "list" ((runT ans (kas_sort vs.length)).map fun i => vs.getD i .none) m) := ⟨_, get?_update_seq na1 fun _ => (runT ans (kas_sort vs.length)).map fun i => vs.getD i .none⟩
  have hps := pb.size
  refine wpAny_bind (listUpdate_at hlk rfl ?_ (by rw [hz, sizeLine_eq]; omega) (Nat.zero_le _))
  refine wpAny_bind (wpAny_letGo ?_)
  refine wpAny_bind (seqEpoch_at na1 rfl ?_)
  refine wpAny_bind (listUpdate_at na1 rfl ?_ (Nat.zero_le _) (by rw [Array.size_map, hps, sizeLine_eq]; omega))
  rw [hf]
  simp only [bne_self_eq_false, Bool.false_eq_true, if_false]
  exact wpAny_pure ⟨rfl, hI.fr.seth _, (hI.st.put s1 hk0 hc1).put s2 ha0 hc2, c2, hc2⟩
theorem wp_ksort {s : Shared} {f : Value} {n0 : Nat} {T : Value} (ho : s.heap.get? a = some (seqObj "list" vs.toArray n0)) (ha0 : c.h₀.get? a = none) (h2 : 2 ≤ vs.length) (h64 : vs.length < 64) (hk : KeyKeep c.h₀ KeyP)
    (hT : ∀ i v h, KeyP i v h → Looks c.W.M h (typeOf v) T) (hT1 : (T != Value.type "tuple") = true) (hT2 : (T == T) = true)
    (hkey : ∀ i v, vs[i]? = some v → ∀ s', St c s'.heap → From c s' → wpAny c.W.M c.A (call f [v]) (fun r s'' => Kp s' s'' ∧ KeyP i r s''.heap) NoE s')
    (hcmp : ∀ i j v u s', i < vs.length → j < vs.length → St c s'.heap → From c s' → KeyP i v s'.heap → KeyP j u s'.heap → wpAny c.W.M c.A (keyLt' oneType' v u) (fun r s'' => Kp s' s'' ∧ r = ans i j) NoE s')
    (x : St c s.heap) (b : From c s) :
    wpAny c.W.M c.A (ksk_tree a f false) (fun fin s' => fin = .done (.ret .none) ∧ From c s' ∧ St c s'.heap ∧ ∃ m, s'.heap.get? a = some (seqObj "list" ((runT ans (kas_sort vs.length)).map fun i => vs.getD i .none) m)) NoE s := by
  have s1 := Heap.SameBut.update s.heap a (Obj.mapSeq fun _ => (#[] : Array Value))
  obtain ⟨e1, ho1⟩ : ∃ e1, (s.heap.update a (Obj.mapSeq fun _ => (#[] : Array Value))).get? a = some (seqObj "list" #[] e1) := ⟨_, get?_update_seq ho fun _ => #[]⟩
  have x1 := x.put s1 ha0 ho1
  unfold ksk_tree
  refine wpAny_bind (listItems_at ho rfl ?_)
  refine wpAny_bind (listUpdate_at ho rfl ?_ (by rw [List.size_toArray, sizeLine_eq]; omega) (Nat.zero_le _))
  refine wpAny_bind (seqEpoch_at ho1 rfl ?_)
  refine wpAny_bind (wpAny_newTuple ?_ (by show vs.length ≤ _; rw [sizeLine_eq]; omega))
  refine wpAny_bind (wpAny_newList ?_ (Nat.zero_le _))
  refine wpAny_holding ?_
  generalize hkS : ((s.heap.update a (Obj.mapSeq fun _ => (#[] : Array Value))).push (seqObj "tuple" vs.toArray 0)).objs.size = kS
  have hkn : ((s.heap.update a (Obj.mapSeq fun _ => (#[] : Array Value))).push (seqObj "tuple" vs.toArray 0)).get? kS = none := Heap.get?_none_of_le (by rw [hkS]; exact Nat.le_refl _)
  have x2 := (x1.on (stays_push _ (seqObj "tuple" vs.toArray 0)))
  have hk0 := x2.fresh hkn
  have hak : kS ≠ a := fun q => by rw [q, Heap.get?_push_of_some _ ho1] at hkn; cases hkn
  have I0 : KsI c KeyP a kS e1 #[] { s with heap := ((s.heap.update a (Obj.mapSeq fun _ => (#[] : Array Value))).push (seqObj "tuple" vs.toArray 0)).push (seqObj "list" #[] 0) } :=
    ⟨b.seth _, x2.on (stays_push _ _), Heap.get?_push_of_some _ (Heap.get?_push_of_some _ ho1), ⟨0, by rw [← hkS]; exact Heap.get?_push_size _ rfl⟩, fun i v h => by simp at h⟩
  unfold ksk_rest
  refine wpAny_bind (wpAny_rule ?_)
  rw [List.forIn_toArray]
  refine wpAny_bind (ksk_fold (fun i s' => ∃ keys, keys.size = i ∧ KsI c KeyP a kS e1 keys s') vs 0 _ ⟨#[], rfl, I0⟩ ?step ?done)
  case step =>
    rintro j y s' hy ⟨keys, hz, hI⟩
    simp only [Nat.zero_add] at hz ⊢
    have hj : j < vs.length := (List.getElem?_eq_some_iff.mp hy).1
    refine wpAny_bind (wpAny_attempt (wpAny_mono (hkey j y hy s' hI.st hI.fr) (fun r s'' hr => ?_) fun _ _ hF => hF.elim))
    have hI2 := hI.on hk hr.1
    obtain ⟨e, hlk⟩ := hI2.lk
    have u1 := Heap.SameBut.update s''.heap kS (Obj.mapSeq (·.push r))
    obtain ⟨c2, hc2⟩ : ∃ m, (s''.heap.update kS (Obj.mapSeq (·.push r))).get? kS = some (seqObj "list" (keys.push r) m) := ⟨_, get?_update_seq hlk (·.push r)⟩
    have x5 := hI2.st.put u1 hk0 hc2
    refine wpAny_bind (listUpdate_at hlk rfl ?_ (by rw [hz, sizeLine_eq]; omega) (by rw [Array.size_push, hz, sizeLine_eq]; omega))
    refine wpAny_pure ⟨rfl, keys.push r, by rw [Array.size_push, hz], hI2.fr.seth _, x5, (u1.2 a hak.symm).trans hI2.la, ⟨c2, hc2⟩, fun i v h => ?_⟩
    have kp := same_ns u1 hlk seqO_list
    rw [Array.getElem?_push] at h
    split at h
    · rename_i q
      cases h
      rw [q, hz]; exact hk _ _ _ _ hr.2 x5.keep kp
    · exact hk _ _ _ _ (hI2.ks i v h) x5.keep kp
  case done =>
    rintro s' ⟨keys, hz, hI⟩
    rw [Nat.zero_add] at hz
    obtain ⟨e, hlk⟩ := hI.lk
    refine wpAny_bind (listItems_at hlk rfl ?_)
    exact wp_ksort_end hz h2 h64 hk ha0 hk0 hak hT hT1 hT2 hcmp hI
end
end Mine
end

section
open PySem PySem.W PyProof.Rows PySem.Calls
namespace Mine
noncomputable def Cx.up (c : Cx) (s : Shared) : Cx := { c with A := c.A.in1.in1, h₀ := s.heap, b := s }
theorem up_ok {c : Cx} {n : Nat} {s : Shared} (ok : c.Ok (n + 2)) (x : St c s.heap) : (c.up s).Ok n := ⟨ok.gd.keep x.keep, ok.rm.in1.in1, ok.kind, ok.glob, ok.blt⟩
section
variable {c : Cx} {n : Nat} {ds : List D} {ans : Nat → Nat → Bool}
theorem repL_get {P : Addr → Prop} {h : Heap} {ds : List D} {vs : List Value} (r : RepL P h ds vs) : ∀ (l : List Nat), (∀ i ∈ l, i < ds.length) → RepL P h (l.map fun i => ds.getD i (.int 0)) (l.map fun i => vs.getD i .none)
  | [], _ => repL_nil.mpr rfl
  | i :: l, hl => by
    have hi := hl i (.head _)
    obtain ⟨v, h1, h2⟩ := r.at (i := i) (d := ds.getD i (.int 0)) (by simp [List.getD_eq_getElem?_getD, hi])
    exact repL_cons.mpr ⟨v, _, by simp [List.getD_eq_getElem?_getD, h1], h2, repL_get r l fun j hj => hl j (.tail _ hj)⟩
theorem c_sortedK {s : Shared} {src : Value} {q : Addr} {T : Value} (ok : c.Ok (n + 2)) (x : St c s.heap)
    (hcol : wpAny c.W.M c.A.in1 (collect src) (fun vs s1 => Kp s s1 ∧ RepL c.P s1.heap ds vs) NoE s)
    (h2 : 2 ≤ ds.length) (h64 : ds.length < 64) (KeyP : Shared → Nat → Value → Heap → Prop) (hk : ∀ s1, KeyKeep s1.heap (KeyP s1))
    (hT : ∀ s1 i v h, KeyP s1 i v h → Looks c.W.M h (typeOf v) T) (hT1 : (T != Value.type "tuple") = true) (hT2 : (T == T) = true)
    (hkey : ∀ s1 i d v s', Kp s s1 → ds[i]? = some d → Rep c.P s1.heap d v → St (c.up s1) s'.heap → From (c.up s1) s' → wpAny c.W.M c.A.in1.in1 (call (.ref q) [v]) (fun r s'' => Kp s' s'' ∧ KeyP s1 i r s''.heap) NoE s')
    (hcmp : ∀ s1 i j v u s', Kp s s1 → i < ds.length → j < ds.length → St (c.up s1) s'.heap → From (c.up s1) s' → KeyP s1 i v s'.heap → KeyP s1 j u s'.heap → wpAny c.W.M c.A.in1.in1 (keyLt' oneType' v u) (fun r s'' => Kp s' s'' ∧ r = ans i j) NoE s') :
    wpAny c.W.M c.A (call (.builtin "sorted") [src] [(Str.ofString "key", .ref q)]) (Gives c s (.list ((runT ans (kas_sort ds.length)).toList.map fun i => ds.getD i (.int 0)))) NoE s := by
  refine call_function_entry_kw kind_sorted plain_sorted entry_sorted (ksk_s1 _ _) ?_
  unfold Builtin.«sorted»
  refine wpAny_bind (m := checkCount "sorted" 1 1 _) (wpAny_pure ?_)
  show wpAny _ _ (collect src >>= fun vs => newList vs >>= _) _ _ _
  refine wpAny_bind (noE hcol fun vs s1 hh1 => ?_)
  obtain ⟨k1, r1⟩ := hh1
  have hl1 := r1.length
  refine wpAny_bind (wpAny_newList ?_ (by rw [hl1, sizeLine_eq]; omega))
  have hnD : s1.heap.get? s1.heap.objs.size = none := Heap.get?_none_of_le (Nat.le_refl _)
  have x1 := x.on k1.stays
  have x3 : St (c.up s1) (s1.heap.push (seqObj "list" vs.toArray 0)) := ⟨stays_push _ _, x1.new.keep (stays_push _ _)⟩
  have b3 : From (c.up s1) { s1 with heap := s1.heap.push (seqObj "list" vs.toArray 0) } := ⟨_, _, rfl⟩
  have ho : (s1.heap.push (seqObj "list" vs.toArray 0)).get? s1.heap.objs.size = some (seqObj "list" vs.toArray 0) := Heap.get?_push_size _ rfl
  refine wpAny_bind (wpAny_holding (wpAny_call_entry_kw slot_list_sort ⟨_, ho, rfl⟩ entry_list_sort ?body (ksk_l1 _ _)))
  show wpAny c.W.M c.A.in1.in1 (Builtin.«list.sort» ⟨[.ref s1.heap.objs.size], [(Str.ofString "key", .ref q)]⟩) _ _ _
  rw [ksk_t1]
  have key := wp_ksort (c := c.up s1) (KeyP := KeyP s1) (a := s1.heap.objs.size) (vs := vs) (ans := ans) (s := { s1 with heap := s1.heap.push (seqObj "list" vs.toArray 0) }) (f := .ref q) (T := T) ho hnD (by omega) (by omega) (hk s1) (hT s1) hT1 hT2
    (fun i v hv s' y b => by
      obtain ⟨d, hd, rd⟩ := r1.at' hv
      exact hkey s1 i d v s' k1 hd rd y b)
    (fun i j v u s' hi hj y b => hcmp s1 i j v u s' k1 (by omega) (by omega) y b) x3 b3
  refine wpAny_mono key (fun fin s' h' => ?_) fun _ _ e => e.elim
  obtain ⟨e, b4, x4, m, h4⟩ := h'
  subst e
  refine ⟨_, rfl, ?_⟩
  have pb := (ok_sort (n := vs.length) (by omega)).run ans
  refine wpAny_pure ⟨_, rfl, ?_, rep_list.mpr ⟨_, _, rfl, x1.new _ hnD, ⟨_, h4, rfl, _, rfl⟩, ?_⟩⟩
  · obtain ⟨h5, t5, e5⟩ := b4
    have k5 := x4.keep
    rw [e5] at k5 ⊢
    exact k1.trans ⟨h5, t5, rfl, k5⟩
  · rw [Array.toList_map, ← hl1]
    exact repL_get (r1.keep x4.keep) _ fun i hi => by rw [← hl1]; exact pb.mem hi
theorem coll_list {A : Around} {s : Shared} {v : Value} (r : Rep c.P s.heap (.list ds) v) (hl : ds.length ≤ 1000) : wpAny c.W.M A (collect v) (fun vs s1 => Kp s s1 ∧ RepL c.P s1.heap ds vs) NoE s := by
  obtain ⟨a, items, rfl, _, hL, rl⟩ := rep_list.mp r
  have hlen := rl.length
  have hk : Stays s.heap ((s.heap.push (seqObj "list" #[] 0)).update s.heap.objs.size (Obj.mapSeq (· ++ items.toList.toArray))) := fun b o e => by
    have hlt : b < s.heap.objs.size := Heap.lt_size e
    rw [Heap.get?_update_ne _ _ _ _ (Nat.ne_of_lt hlt)]; exact Heap.get?_push_of_some _ e
  exact collect_list (vs := items.toList) (by simpa using hL) ⟨kp_heap s hk, rl.keep hk⟩ (by rw [hlen, sizeLine_eq]; omega)
theorem repL_ints {P : Addr → Prop} {h : Heap} (vs : List Value) (N : Nat) (hl : vs.length = N) (hv : ∀ (i : Nat) (v : Value), vs[i]? = some v → ∃ t, v = Value.int (i : Int) t) : RepL P h ((List.range N).map fun i : Nat => D.int i) vs := by
  refine repL_of_at (by simp [hl]) fun j v d h1 h2 => ?_
  obtain ⟨t, rfl⟩ := hv j v h1
  rw [List.getElem?_map] at h2
  obtain ⟨i, hi, rfl⟩ := Option.map_eq_some_iff.mp h2
  obtain ⟨h3, h4⟩ := List.getElem?_eq_some_iff.mp hi
  rw [List.getElem_range] at h4
  subst h4
  exact rep_int.mpr ⟨t, rfl⟩
theorem coll_range {A : Around} {s : Shared} {r : Addr} {t u w : Tok} {N : Nat} (hh : A.handled = none) (hr : IsRange s.heap r 0 (N : Int) 1 t u w) (hN : N ≤ 1000) : wpAny c.W.M A (collect (.ref r)) (fun vs s1 => Kp s s1 ∧ RepL c.P s1.heap ((List.range N).map fun i : Nat => D.int i) vs) NoE s := by
  unfold collect
  refine wpAny_bind (wpAny_runValue (codeAny_builtin entry_proto_collect' ?_))
  show wpAny _ _ (do again (.builtin "list.__iadd__" ⟨[← newList [], .ref r], []⟩)) _ _ s
  refine wpAny_bind (wpAny_newList (wpAny_pure ⟨Code.quiet_builtin _ (by decide +kernel), codeAny_builtin entry_list_iadd' ?_⟩))
  show wpAny _ A.in1 (Builtin.List.listExtendWith (.ref s.heap.objs.size) (.ref r) (.ref s.heap.objs.size)) _ _ { s with heap := s.heap.push (seqObj "list" #[] 0) }
  refine wpAny_extend_range (A := A) (R := fun r s' => match r with
    | .ok (.ret v) => wpAny c.W.M A (match v with
      | .ref a => do match (← load a).data with
        | .seq xs _ => pure xs.toList
        | _ => unsupported "internal:collect"
      | _ => unsupported "internal:collect") (fun vs s1 => Kp s s1 ∧ RepL c.P s1.heap ((List.range N).map fun i : Nat => D.int i) vs) NoE s'
    | .ok _ => False
    | .error e => False) (s := { s with heap := s.heap.push (seqObj "list" #[] 0) }) hh (Heap.get?_push_of_some _ hr) (range_small (n := N) (by omega)) (n := N) range_size (by omega) s.heap.objs.size (.ref s.heap.objs.size) 0 (Heap.get?_push_size _ rfl) fun h' tk acc c' hk hS hI => ?_
  refine wpAny_bind (wpAny_load hS ?_)
  refine wpAny_pure ⟨kp_both s fun b o e => hk b o (Nat.ne_of_lt (Heap.lt_size e)) (Heap.get?_push_of_some _ e), repL_ints _ _ (by simp [hI.1]) fun i v hv => ?_⟩
  obtain ⟨tk, e⟩ := hI.2 i v (by simpa using hv)
  exact ⟨tk, by rw [e]; simp⟩
end
end Mine
end

section
open PySem PySem.W PyProof.Rows PySem.Calls
namespace Mine
/- the plain law: what is written, and the names -/
noncomputable def fc (way : Nat) (last : Bool) (k : Nat) : List Nat := if k = 47 then [47] else codeW way k last
theorem joinW_snoc (sep : List Nat) : ∀ (ps : List (List Nat)) (p : List Nat), ps ≠ [] → joinW sep (ps ++ [p]) = joinW sep ps ++ sep ++ p
  | [], _, h => absurd rfl h
  | [q], p, _ => by simp [joinW]
  | q :: q' :: r, p, _ => by
    have ih := joinW_snoc sep (q' :: r) p (by simp)
    show q ++ sep ++ joinW sep ((q' :: r) ++ [p]) = q ++ sep ++ joinW sep (q' :: r) ++ sep ++ p
    rw [ih]; simp
theorem joinW_last (sep : List Nat) : ∀ (ps : List (List Nat)) (q c : List Nat), joinW sep (ps ++ [q ++ c]) = joinW sep (ps ++ [q]) ++ c
  | [], q, c => by simp [joinW]
  | p :: r, q, c => by
    rw [joinW_snoc sep (p :: r) _ (by simp), joinW_snoc sep (p :: r) _ (by simp)]; simp
theorem spelled_snoc (m : List Sg) (x : Sg) : spelled (m ++ [x]) = spelled m ++ x.2 := by unfold spelled; simp
theorem step_w {way : Nat} {ns : List (List Sg)} {k : Nat} {last : Bool} (h : ns ≠ []) : joinW [47] ((stepN way ns k last).map spelled) = joinW [47] (ns.map spelled) ++ fc way last k := by
  unfold stepN fc
  split
  · rw [List.map_append, List.map_singleton, joinW_snoc _ _ _ (by simpa using h)]; simp [spelled]
  · obtain ⟨a, m, rfl⟩ : ∃ a m, ns = a ++ [m] := ⟨ns.dropLast, ns.getLast h, (List.dropLast_concat_getLast h).symm⟩
    have e : (a ++ [m]).getLastD [] = m := by simp [List.getLastD_eq_getLast?]
    rw [e, List.dropLast_concat, List.map_append, List.map_singleton, spelled_snoc, joinW_last, List.map_append, List.map_singleton]
theorem names_w {way : Nat} {l : List Nat} : ∀ i, i < l.length → joinW [47] ((namesI way l i).map spelled) = ((l.take i).map (fc way false)).flatten
  | 0, _ => by simp [namesI, joinW, spelled]
  | i + 1, h => by
    have hi : i < l.length := by omega
    have e : decide (i + 1 = l.length) = false := by simp; omega
    rw [namesI, step_w (namesI_ne way l i), names_w i hi, e, List.take_add_one]
    have e2 : l[i]? = some (l.getD i 0) := by simp [List.getD_eq_getElem?_getD, hi]
    rw [e2]; simp
theorem names_all {way : Nat} {l : List Nat} {k : Nat} : joinW [47] ((namesI way (l ++ [k]) (l ++ [k]).length).map spelled) = (l.map (fc way false)).flatten ++ fc way true k := by
  have hl : (l ++ [k]).length = l.length + 1 := by simp
  rw [hl, namesI, step_w (namesI_ne way _ _), names_w _ (by rw [hl]; omega)]
  have e : decide (l.length + 1 = (l ++ [k]).length) = true := by simp
  rw [e]
  simp
theorem fc_hdr (last : Bool) (k : Nat) : fc 0 last k = hdrEnc k := by
  unfold fc codeW hdrEnc plainW plain0
  by_cases h : k = 47
  · subst h; rfl
  · by_cases h2 : k = 32
    · subst h2; simp
    · simp [h, h2]
theorem fc_quo (last : Bool) (k : Nat) : fc 2 last k = quoEnc k := by
  unfold fc codeW quoEnc; simp
theorem fc_body {k : Nat} (h1 : k ≠ 10) (h2 : k ≠ 13) : fc 1 false k = bodyEnc k := by
  unfold fc codeW bodyEnc plainW plain1
  by_cases h : k = 47
  · subst h; rfl
  · simp [h, h1, h2]
theorem hexd_ne (n : Nat) : hexd n ≠ 32 ∧ hexd n ≠ 9 := by unfold hexd; split <;> omega
theorem fc_end (k : Nat) : fc 1 true k = if k = 32 ∨ k = 9 then esc k else fc 1 false k := by
  unfold fc codeW plainW
  by_cases h : k = 47
  · subst h; rfl
  · by_cases h2 : k = 32 ∨ k = 9
    · rcases h2 with rfl | rfl <;> simp
    · have h3 : k ≠ 32 ∧ k ≠ 9 := by omega
      simp [h, h3]
theorem body_last {l : List Nat} {k : Nat} (hk : Oct (l ++ [k])) : bodyText (l ++ [k]) = (l.map (fc 1 false)).flatten ++ fc 1 true k := by
  have e1 : ∀ x ∈ l ++ [k], fc 1 false x = bodyEnc x := fun x hx => fc_body (hk.oct x hx).2.1 (hk.oct x hx).2.2
  have e2 : l.map (fc 1 false) = l.map bodyEnc := List.map_congr_left fun x hx => e1 x (List.mem_append_left _ hx)
  have ek := e1 k (by simp)
  have hk2 := hk.oct k (by simp)
  have raw : bodyRaw (l ++ [k]) = (l.map bodyEnc).flatten ++ bodyEnc k := by unfold bodyRaw; simp
  rw [fc_end, e2, ek]
  by_cases h : k = 32 ∨ k = 9
  · have eb : bodyEnc k = [k] := by rcases h with rfl | rfl <;> rfl
    rw [if_pos h, body_true (k := k) (by rw [raw, eb]; simp) h, raw, eb]; simp
  · rw [if_neg h]
    have hne := (bodyEnc_in k hk2.1 hk2.2.1 hk2.2.2).1
    obtain ⟨x, hx⟩ : ∃ x, (bodyEnc k).getLast? = some x := by
      cases q : (bodyEnc k).getLast? with
      | none => exact absurd (List.getLast?_eq_none_iff.mp q) hne
      | some x => exact ⟨x, rfl⟩
    have hx2 : ¬ (x = 32 ∨ x = 9) := by
      unfold bodyEnc at hx
      split at hx
      · simp at hx; omega
      · simp only [esc, List.getLast?_cons_cons, List.getLast?_singleton, Option.some.injEq] at hx
        have := hexd_ne (k % 16)
        omega
    rw [body_false (k := x) (by rw [raw, List.getLast?_append, hx]; rfl) hx2, raw]
theorem written_names {l : List Nat} {way : Nat} (hl : Oct l) (hw : way < 3) : written way l = joinW [47] ((namesI way l l.length).map spelled) := by
  rcases List.eq_nil_or_concat l with rfl | ⟨l', k, rfl⟩
  · have : way = 0 ∨ way = 1 ∨ way = 2 := by omega
    rcases this with rfl | rfl | rfl <;> rfl
  · rw [List.concat_eq_append] at hl ⊢
    rw [names_all]
    have : way = 0 ∨ way = 1 ∨ way = 2 := by omega
    rcases this with rfl | rfl | rfl
    · show ((l' ++ [k]).map hdrEnc).flatten = _
      rw [List.map_congr_left fun x _ => fc_hdr false x, fc_hdr]; simp
    · show bodyText (l' ++ [k]) = _
      exact body_last hl
    · show ((l' ++ [k]).map quoEnc).flatten = _
      rw [List.map_congr_left fun x _ => fc_quo false x, fc_quo]; simp
/- signs that are known by how they are written -/
structure Gs (way : Nat) (x : Sg) : Prop where
  lt : x.1 < 256
  how : x.2 = esc x.1 ∨ ∃ c, x.2 = [c] ∧ c ≠ 61 ∧ c ≠ 47 ∧ x.1 = if way = 0 ∧ c = 95 then 32 else c
theorem gs_code {way k : Nat} {last : Bool} (hw : way < 3) (hk : k < 256) (h47 : k ≠ 47) : Gs way (k, codeW way k last) := by
  refine ⟨hk, ?_⟩
  unfold codeW
  by_cases h : way = 0 ∧ k = 32
  · rw [if_pos h]; exact .inr ⟨95, rfl, by decide, by decide, by rw [if_pos ⟨h.1, rfl⟩]; exact h.2⟩
  · rw [if_neg h]
    by_cases h2 : way < 2 ∧ plainW way k last = true
    · rw [if_pos h2]
      refine .inr ⟨k, rfl, fun e => ?_, h47, ?_⟩
      · subst e
        have := h2.2
        unfold plainW isAlnum at this
        split at this <;> simp at this
      · show k = _
        by_cases h3 : way = 0 ∧ k = 95
        · exfalso
          obtain ⟨rfl, rfl⟩ := h3
          have := h2.2
          unfold plainW isAlnum at this
          simp at this
        · rw [if_neg h3]
    · rw [if_neg h2]; exact .inl rfl
theorem names_gs {way : Nat} {l : List Nat} (hw : way < 3) (hl : Oct l) : ∀ i, i ≤ l.length → ∀ m ∈ namesI way l i, ∀ x ∈ m, Gs way x
  | 0, _, m, hm, x, hx => by simp [namesI] at hm; subst hm; cases hx
  | i + 1, h, m, hm, x, hx => by
    have ih := names_gs hw hl i (by omega)
    have hk : l.getD i 0 < 256 := by
      have : l[i]? = some (l.getD i 0) := by simp [List.getD_eq_getElem?_getD, show i < l.length by omega]
      exact (hl.oct _ (List.mem_of_getElem? this)).1
    unfold namesI stepN at hm
    split at hm
    · rcases List.mem_append.mp hm with hm | hm
      · exact ih m hm x hx
      · rw [List.mem_singleton.mp hm] at hx; cases hx
    · rename_i h47
      rcases List.mem_append.mp hm with hm | hm
      · exact ih m (List.dropLast_subset _ hm) x hx
      · rw [List.mem_singleton.mp hm] at hx
        rcases List.mem_append.mp hx with hx | hx
        · refine ih ((namesI way l i).getLastD []) ?_ x hx
          rw [List.getLastD_eq_getLast?]
          cases q : (namesI way l i).getLast? with
          | none => exact absurd (List.getLast?_eq_none_iff.mp q) (namesI_ne way l i)
          | some y => exact List.mem_of_getLast? q
        · rw [List.mem_singleton.mp hx]; exact gs_code hw hk h47
theorem esc47 : ∀ k, k < 256 → 47 ∉ esc k := by decide +kernel
theorem Gs.ne {way : Nat} {x : Sg} (h : Gs way x) : x.2 ≠ [] ∧ 47 ∉ x.2 ∧ x.2.length ≤ 3 := by
  rcases h.how with e | ⟨c, e, _, h2, _⟩
  · rw [e]
    exact ⟨by simp [esc], esc47 _ h.lt, by simp [esc]⟩
  · rw [e]; exact ⟨by simp, by simpa using Ne.symm h2, by simp⟩
theorem spelled_cons (x : Sg) (m : List Sg) : spelled (x :: m) = x.2 ++ spelled m := by unfold spelled; simp
theorem spelled_in {way : Nat} {m : List Sg} (h : ∀ x ∈ m, Gs way x) : 47 ∉ spelled m := fun hm => by
  obtain ⟨p, hp, hx⟩ := List.mem_flatten.mp hm
  obtain ⟨y, hy, rfl⟩ := List.mem_map.mp hp
  exact (h y hy).ne.2.1 hx
theorem spelled_len {way : Nat} : ∀ {m : List Sg}, (∀ x ∈ m, Gs way x) → (spelled m).length ≤ 3 * m.length
  | [], _ => by simp [spelled]
  | x :: m, h => by
    have := spelled_len fun y hy => h y (.tail _ hy)
    have h2 := (h x (.head _)).ne.2.2
    rw [spelled_cons, List.length_append, List.length_cons]; omega
end Mine
end

section
open PySem PySem.W PyProof.Rows PySem.Calls
namespace Mine
theorem ordL_cons (a b : Nat) (r t : List Nat) : ordL (a :: r) (b :: t) = if a < b then .lt else if b < a then .gt else ordL r t := by rw [ordL]
theorem hexd_lt {a b : Nat} (h : a < b) (hb : b < 16) : hexd a < hexd b := by unfold hexd; split <;> split <;> omega
theorem esc_lt {i j : Nat} (hj : j < 256) (h : i < j) (r t : List Nat) : ordL (esc i ++ r) (esc j ++ t) = .lt := by
  unfold esc
  simp only [List.cons_append, List.nil_append, ordL_cons, Nat.lt_irrefl, if_false]
  by_cases h1 : i / 16 < j / 16
  · rw [if_pos (hexd_lt h1 (by omega))]
  · have e : i / 16 = j / 16 := by omega
    rw [e, if_neg (Nat.lt_irrefl _), if_neg (Nat.lt_irrefl _), if_pos (hexd_lt (show i % 16 < j % 16 by omega) (Nat.mod_lt _ (by decide)))]
theorem esc_eq {i : Nat} (r t : List Nat) : ordL (esc i ++ r) (esc i ++ t) = ordL r t := by
  unfold esc
  simp only [List.cons_append, List.nil_append, ordL_cons, Nat.lt_irrefl, if_false]
theorem sg_cmp (x y : Sg) : cmpd (encS x) (encS y) = if ordI (x.2.headD 0) (y.2.headD 0) = .eq then if ordI x.1 y.1 = .eq then ordL x.2 y.2 else ordI x.1 y.1 else ordI (x.2.headD 0) (y.2.headD 0) := by
  unfold encS
  simp only [cmpd, cmpL, tx_cps]
  have : ∀ o : Ordering, (if o = .eq then Ordering.eq else o) = o := fun o => by cases o <;> rfl
  rw [this]
theorem ordI_nn (a b : Nat) : ordI a b = if a < b then .lt else if b < a then .gt else .eq := by
  unfold ordI
  by_cases h : a < b
  · rw [if_pos h, if_pos (by omega)]
  · rw [if_neg h, if_neg (by omega)]
    by_cases h2 : b < a
    · rw [if_pos h2, if_pos (by omega)]
    · rw [if_neg h2, if_neg (by omega)]
theorem sg_ord {way : Nat} {x y : Sg} (hx : Gs way x) (hy : Gs way y) (r t : List Nat) : ordL (x.2 ++ r) (y.2 ++ t) = if cmpd (encS x) (encS y) = .eq then ordL r t else cmpd (encS x) (encS y) := by
  have lx := hx.lt
  have ly := hy.lt
  rw [sg_cmp, ordI_nn, ordI_nn]
  rcases hx.how with ex | ⟨c, ex, hc1, hc2, hc3⟩ <;> rcases hy.how with ey | ⟨d, ey, hd1, hd2, hd3⟩
  · have h1 : x.2.headD 0 = 61 := by rw [ex]; rfl
    have h2 : y.2.headD 0 = 61 := by rw [ey]; rfl
    rw [h1, h2, ex, ey]
    rcases Nat.lt_trichotomy x.1 y.1 with h | h | h
    · rw [esc_lt ly h]; simp [h]
    · rw [h, esc_eq]; simp [ordL_self]
    · have hh : ordL (esc x.1 ++ r) (esc y.1 ++ t) = .gt := by rw [ordL_swap, esc_lt lx h]; rfl
      have h3 : ¬ x.1 < y.1 := by omega
      rw [hh]; simp [h, h3]
  · have h1 : x.2.headD 0 = 61 := by rw [ex]; rfl
    have h2 : y.2.headD 0 = d := by rw [ey]; rfl
    rw [h1, h2, ex, ey]
    unfold esc
    simp only [List.cons_append, List.nil_append, ordL_cons]
    by_cases h : 61 < d
    · simp [h]
    · have : d < 61 := by omega
      simp [h, this]
  · have h1 : x.2.headD 0 = c := by rw [ex]; rfl
    have h2 : y.2.headD 0 = 61 := by rw [ey]; rfl
    rw [h1, h2, ex, ey]
    unfold esc
    simp only [List.cons_append, List.nil_append, ordL_cons]
    by_cases h : c < 61
    · simp [h]
    · have : 61 < c := by omega
      simp [h, this]
  · have h1 : x.2.headD 0 = c := by rw [ex]; rfl
    have h2 : y.2.headD 0 = d := by rw [ey]; rfl
    rw [h1, h2, ex, ey]
    simp only [List.cons_append, List.nil_append, ordL_cons]
    by_cases h : c < d
    · simp [h]
    · by_cases h3 : d < c
      · simp [h, h3]
      · have e : c = d := by omega
        subst e
        have e2 : x.1 = y.1 := by rw [hc3, hd3]
        rw [e2]
        simp [ordL]
theorem names_ord {way : Nat} : ∀ {m m' : List Sg}, (∀ x ∈ m, Gs way x) → (∀ x ∈ m', Gs way x) → ordL (spelled m) (spelled m') = cmpL (m.map encS) (m'.map encS)
  | [], [], _, _ => by simp [spelled, ordL, cmpL]
  | [], y :: t, _, h => by
    obtain ⟨a, r, e⟩ := List.exists_cons_of_ne_nil (h y (.head _)).ne.1
    rw [spelled_cons, e]; simp [spelled, ordL, cmpL]
  | y :: t, [], h, _ => by
    obtain ⟨a, r, e⟩ := List.exists_cons_of_ne_nil (h y (.head _)).ne.1
    rw [spelled_cons, e]; simp [spelled, ordL, cmpL]
  | x :: m, y :: t, hx, hy => by
    rw [spelled_cons, spelled_cons, sg_ord (hx x (.head _)) (hy y (.head _)), names_ord (fun z hz => hx z (.tail _ hz)) fun z hz => hy z (.tail _ hz), List.map_cons, List.map_cons, cmpL]
theorem rows_ord {way : Nat} : ∀ {a b : List (List Sg)}, (∀ m ∈ a, ∀ x ∈ m, Gs way x) → (∀ m ∈ b, ∀ x ∈ m, Gs way x) → ordP (a.map spelled) (b.map spelled) = cmpL (a.map encN) (b.map encN)
  | [], [], _, _ => by simp [ordP, cmpL]
  | [], y :: t, _, _ => by simp [ordP, cmpL]
  | y :: t, [], _, _ => by simp [ordP, cmpL]
  | x :: m, y :: t, hx, hy => by
    rw [List.map_cons, List.map_cons, ordP_cons, rows_ord (fun z hz => hx z (.tail _ hz)) fun z hz => hy z (.tail _ hz), names_ord (hx x (.head _)) (hy y (.head _)), List.map_cons, List.map_cons, cmpL]
    simp only [encN, cmpd]
    rfl
theorem alike_sg (x y : Sg) : Alike (encS x) (encS y) := by unfold encS; simp [Alike, AlikeL]
theorem alike_nm : ∀ a b : List Sg, AlikeL (a.map encS) (b.map encS)
  | [], _ => by simp [AlikeL]
  | _ :: _, [] => by simp [AlikeL]
  | a :: r, b :: t => by simp only [List.map_cons, AlikeL]; exact ⟨alike_sg a b, alike_nm r t⟩
theorem alike_rw : ∀ a b : List (List Sg), AlikeL (a.map encN) (b.map encN)
  | [], _ => by simp [AlikeL]
  | _ :: _, [] => by simp [AlikeL]
  | a :: r, b :: t => by simp only [List.map_cons, AlikeL, Alike]; exact ⟨alike_nm a b, alike_rw r t⟩
theorem dep_sg (x : Sg) : dep (encS x) = 1 := by unfold encS; simp [dep, depL]
theorem dep_nm : ∀ a : List Sg, depL (a.map encS) ≤ 1
  | [] => by simp [depL]
  | a :: r => by simp only [List.map_cons, depL, dep_sg]; have := dep_nm r; omega
theorem dep_rw : ∀ a : List (List Sg), depL (a.map encN) ≤ 2
  | [] => by simp [depL]
  | a :: r => by simp only [List.map_cons, depL, dep]; have := dep_rw r; have := dep_nm a; omega
noncomputable def kept (way : Nat) (l : List Nat) : List (List Sg) := (namesI way l l.length).filter fun m => keepP (spelled m)
theorem kept_gs {way : Nat} {l : List Nat} (hw : way < 3) (hl : Oct l) : ∀ m ∈ kept way l, ∀ x ∈ m, Gs way x := fun m hm => names_gs hw hl _ (Nat.le_refl _) m (List.mem_filter.mp hm).1
theorem kept_map (way : Nat) (l : List Nat) : (kept way l).map spelled = ((namesI way l l.length).map spelled).filter keepP := by
  unfold kept; rw [List.filter_map]; rfl
theorem kept_clean {way : Nat} {l : List Nat} (hw : way < 3) (hl : Oct l) : ∀ p ∈ (kept way l).map spelled, Clean p := fun p hp => by
  obtain ⟨m, hm, rfl⟩ := List.mem_map.mp hp
  have h := (List.mem_filter.mp hm).2
  unfold keepP at h
  rw [Bool.and_eq_true] at h
  exact ⟨fun e => by rw [e] at h; exact absurd h.1 (by decide), spelled_in (kept_gs hw hl m hm), fun e => by rw [e] at h; exact absurd h.2 (by decide)⟩
theorem parts_written {way : Nat} {l : List Nat} (hw : way < 3) (hl : Oct l) : partsOf (joinP [47] (written way l)) = (kept way l).map spelled := by
  have e1 : splitOn 47 (written way l) = (namesI way l l.length).map spelled := by
    rw [written_names hl hw]
    refine splitOn_join (by simpa using namesI_ne way l l.length) fun q hq => ?_
    obtain ⟨m, hm, rfl⟩ := List.mem_map.mp hq
    exact spelled_in (names_gs hw hl _ (Nat.le_refl _) m hm)
  rw [kept_map, ← e1]
  unfold partsOf joinP
  split
  · rfl
  · rw [if_pos (by decide)]
    show (splitOn 47 (47 :: written way l)).filter keepP = _
    rw [splitOn, if_pos rfl, List.filter_cons_of_neg (by decide)]
theorem head_in {k : Nat} {p : List Nat} (h : k ∉ p) : ¬ p.head? = some k := fun e => h (List.mem_of_head? e)
theorem place_snoc {as : List (List Nat)} {p : List Nat} (ha : ∀ q ∈ as, Clean q) (hp : Clean p) : joinP (place as) p = place (as ++ [p]) := by
  unfold joinP
  have h1 : ¬ ((p.head? == some 47) || !(!(place as).isEmpty)) = true := by
    have := head_in hp.sl
    simp [place, this]
  rw [if_neg h1]
  rcases List.eq_nil_or_concat as with rfl | ⟨r, q, rfl⟩
  · rfl
  · rw [List.concat_eq_append] at ha ⊢
    have hq := ha q (by simp)
    have h2 : (place (r ++ [q])).getLast? = q.getLast? := by
      have hx : ∃ y, q.getLast? = some y := by
        cases z : q.getLast? with
        | none => exact absurd (List.getLast?_eq_none_iff.mp z) hq.ne
        | some y => exact ⟨y, rfl⟩
      obtain ⟨y, hy⟩ := hx
      unfold place
      cases r with
      | nil => simp [joinW, List.getLast?_cons, hy]
      | cons a b =>
        rw [joinW_snoc _ _ _ (by simp), List.getLast?_cons, List.getLast?_append, hy]; simp
    have h3 : ¬ ((place (r ++ [q])).getLast? == some 47) = true := by
      rw [h2]
      intro e
      exact hq.sl (List.mem_of_getLast? (by simpa using e))
    rw [if_neg h3]
    unfold place
    rw [joinW_snoc _ (r ++ [q]) p (by simp)]
    simp
theorem fold_place : ∀ {ps as : List (List Nat)}, (∀ q ∈ as, Clean q) → (∀ q ∈ ps, Clean q) → ps.foldl joinP (place as) = place (as ++ ps)
  | [], as, _, _ => by simp
  | p :: r, as, ha, hp => by
    rw [List.foldl_cons, place_snoc ha (hp p (.head _)), fold_place (fun q hq => ?_) fun q hq => hp q (.tail _ hq)]
    · simp
    · rcases List.mem_append.mp hq with h | h
      · exact ha q h
      · rw [List.mem_singleton.mp h]; exact hp p (.head _)
theorem joinW_sum : ∀ {ps : List (List Nat)}, ps ≠ [] → (joinW [47] ps).length + 1 = sumL ps
  | [], h => absurd rfl h
  | [p], _ => by simp [joinW, sumL]
  | p :: q :: r, _ => by
    have := joinW_sum (ps := q :: r) (by simp)
    rw [sumL_cons, ← this]
    show (p ++ [47] ++ joinW [47] (q :: r)).length + 1 = _
    simp; omega
theorem sumL_filter (f : List Nat → Bool) : ∀ ps : List (List Nat), sumL (ps.filter f) ≤ sumL ps
  | [] => by simp
  | p :: r => by
    have := sumL_filter f r
    rw [List.filter_cons]
    split
    · rw [sumL_cons, sumL_cons]; omega
    · rw [sumL_cons]; omega
theorem sumL_nil : sumL [] = 0 := rfl
theorem names_sum {way : Nat} {l : List Nat} (hw : way < 3) (hl : Oct l) : sumL ((namesI way l l.length).map spelled) ≤ 61 := by
  have h0 : (namesI way l l.length).map spelled ≠ [] := by simpa using namesI_ne way l l.length
  rw [← joinW_sum h0, ← written_names hl hw]
  have hn := hl.len
  have h3 : (written way l).length ≤ 60 := by
    rcases List.eq_nil_or_concat l with rfl | ⟨l', k, rfl⟩
    · have : way = 0 ∨ way = 1 ∨ way = 2 := by omega
      rcases this with rfl | rfl | rfl <;> decide
    · rw [List.concat_eq_append] at hl hn ⊢
      rw [written_names hl hw, names_all]
      have hc : ∀ (b : Bool) x, (fc way b x).length ≤ 3 := fun b x => by
        unfold fc; split
        · simp
        · exact (codeW_at way x b).2
      have h1 := flat_len (enc := fc way false) (m := 3) (q := l') fun c _ => hc false c
      have h2 := hc true k
      rw [List.length_append] at hn ⊢
      rw [List.length_singleton] at hn
      omega
  omega
theorem kept_sum {way : Nat} {l : List Nat} (hw : way < 3) (hl : Oct l) : sumL ((kept way l).map spelled) ≤ 61 := by
  rw [kept_map]; exact Nat.le_trans (sumL_filter _ _) (names_sum hw hl)
theorem place_sum (ps : List (List Nat)) : (place ps).length ≤ sumL ps + 1 := by
  unfold place
  by_cases h : ps = []
  · subst h; simp [joinW]
  · have := joinW_sum h
    rw [List.length_cons]; omega
end Mine
end

section
open PySem PySem.W PyProof.Rows PySem.Calls
namespace Mine
/- the law's text, taken apart -/
noncomputable def lawS (P : Params) (i : Nat) : Stmt := (bodyOf (fdOf P 216)).getD i (.Pass ⟨0, 0, 0, 0⟩)
noncomputable def forBody : Stmt → List Stmt
  | .For _ _ b _ _ => b
  | _ => []
noncomputable def asgVal : Stmt → Expr
  | .Assign _ e _ => e
  | .If e _ _ _ => e
  | _ => .Name "" ⟨0, 0, 0, 0⟩
noncomputable def callArg : Expr → Expr
  | .Call _ (e :: _) _ _ => e
  | e => e
noncomputable def callKw : Expr → Expr
  | .Call _ _ (k :: _) _ => k.value
  | e => e
noncomputable def cmpRight : Expr → Expr
  | .Compare _ _ (e :: _) _ => e
  | e => e
noncomputable def lam1 (P : Params) : Expr := callArg (asgVal (lawS P 1))
noncomputable def lam2 (P : Params) : Expr := callKw (cmpRight (asgVal ((forBody (lawS P 2)).getD 9 (.Pass ⟨0, 0, 0, 0⟩))))
noncomputable def lPar : Expr → Arguments
  | .Lambda p _ _ _ => p
  | _ => default
noncomputable def lBody : Expr → Expr
  | .Lambda _ b _ _ => b
  | e => e
noncomputable def lScope : Expr → Scope
  | .Lambda _ _ s _ => s
  | _ => default
noncomputable def lPos : Expr → Pos
  | .Lambda _ _ _ p => p
  | _ => ⟨0, 0, 0, 0⟩
noncomputable abbrev lQ : Str := (("law" : Str) ++ ".<locals>.") ++ "<lambda>"
noncomputable abbrev lamObj (W : Wd) (l : Expr) (clos : List (Str × Addr)) (c' : Addr) (ctv : Value) : Obj := kla_obj "<lambda>" lQ (lPar l) (lBody l) (lScope l) clos ((W.mg "__name__").getD .none) c' ctv
noncomputable def LamF (W : Wd) (h : Heap) (f : Addr) (l : Expr) (clos : List (Str × Addr)) : Prop := ∃ c' ctv, h.get? f = some (lamObj W l clos c' ctv) ∧ h.CodeRec (.ref c') lQ
theorem LamF.keep {W : Wd} {h h' : Heap} {f : Addr} {l : Expr} {clos : List (Str × Addr)} (x : LamF W h f l clos) (k : Stays h h') : LamF W h' f l clos := by
  obtain ⟨c', ctv, e, c₂, oc, vs, t, e2, hoc, hd, hv⟩ := x
  exact ⟨c', ctv, k _ _ e, c₂, oc, vs, t, e2, k _ _ hoc, hd, hv⟩
noncomputable abbrev fdLam (W : Wd) (l : Expr) (clos : List (Str × Addr)) (c' : Addr) (ctv : Value) : FuncData := kla_fn "<lambda>" lQ (lPar l) (lBody l) (lScope l) clos ((W.mg "__name__").getD .none) (.ref c') ctv
theorem bindL1 (W : Wd) (clos : List (Str × Addr)) (c' : Addr) (ctv x v : Value) : bindArgs (fdLam W (lam1 W.w.params) clos c' ctv) ⟨[x, v], []⟩ = pure [(("one" : Str), x), (("other" : Str), v)] := by kernel_rfl
theorem bindL2 (W : Wd) (clos : List (Str × Addr)) (c' : Addr) (ctv x : Value) : bindArgs (fdLam W (lam2 W.w.params) clos c' ctv) ⟨[x], []⟩ = pure [(("k" : Str), x)] := by kernel_rfl
theorem namesL1 (P : Params) : (lScope (lam1 P)).names = [(("one" : Str), .local), (("other" : Str), .local), (("_law_compare" : Str), .globalImplicit)] := by kernel_rfl
theorem namesL2 (P : Params) : (lScope (lam2 P)).names = [(("k" : Str), .local), (("rows" : Str), .free)] := by kernel_rfl
section
variable {c : Cx} {n : Nat} {lam : Addr}
theorem c_lam1 (ok : c.Ok (n + 8)) (hl : LamF c.W c.h₀ lam (lam1 c.W.w.params) []) {a b : List (List Nat)} {i j : Int} (ha : ∀ p ∈ a, Clean p) (hb : ∀ p ∈ b, Clean p) (la : (place a).length ≤ 900) (lb : (place b).length ≤ 900) :
    CallD c (.ref lam) [.list [st (place a), .int i], .list [st (place b), .int j]] (.int (cmpNum a b)) := fun s vs x r => by
  obtain ⟨v, r', rfl, r1, r2⟩ := repL_cons.mp r; obtain ⟨u, r'', rfl, r3, r4⟩ := repL_cons.mp r2; obtain rfl := repL_nil.mp r4
  have hr := ok.rm.dp
  obtain ⟨c', ctv, e, rec⟩ := hl.keep x.keep
  refine wpAny_call (call_fnE (fd := fdLam c.W (lam1 c.W.w.params) [] c' ctv) (by omega) (ok.gd.T.nolimit.keeps x.keep) e rfl rfl rec (bindL1 c.W [] c' ctv _ _) (fun w hw => ?_) (fun w hw => ?_) (fun h' hns k' n' => ?_) rfl rfl rfl)
  · have hw' : w ∈ (lScope (lam1 c.W.w.params)).names := hw
    rw [namesL1] at hw'
    simp only [List.mem_cons, List.not_mem_nil, or_false] at hw'
    rcases hw' with rfl | rfl | rfl <;> decide
  · show (lScope (lam1 c.W.w.params)).names.lookup w.1 = _
    rw [namesL1]
    simp only [List.mem_cons, List.not_mem_nil, or_false] at hw
    rcases hw with rfl | rfl <;> rfl
  let fd := fdLam c.W (lam1 c.W.w.params) [] c' ctv
  have okc : (c.clo fd lam s).Ok (n + 7) := clo_ok (n := n + 7) ok x rfl rfl rfl
  have F : FrD (c.clo fd lam s) [("one", .list [st (place a), .int i]), ("other", .list [st (place b), .int j])] [] h' := clo_fr x (repB_cons r1 (repB_cons r3 repB_nil)) (by show ([("one" : Str), "other"] : List Str).Nodup; decide) hns k' fun w aw e => by cases e
  have ev : Ev (c.clo fd lam s) [("one", .list [st (place a), .int i]), ("other", .list [st (place b), .int j])] [] (lBody (lam1 c.W.w.params)) (.int (cmpNum a b)) :=
    ev_call (G okc g_law_compare) (evL_cons (ev_sub (d1 := .list [st (place a), .int i]) (L okc) ev_int hasT_list PySem.slot_list_getitem.lookup (op_item_list (d := st (place a)) (by decide) rfl (by simp))) (evL_cons (ev_sub (d1 := .list [st (place b), .int j]) (L okc) ev_int hasT_list PySem.slot_list_getitem.lookup (op_item_list (d := st (place b)) (by decide) rfl (by simp))) evL_nil)) (keeps_fn okc (h211 _)) (c_compare okc ha hb la lb)
  refine noE (ev.go _ F) fun v s' hq => ?_
  obtain ⟨⟨h3, t3, e5, k3⟩, r5⟩ := hq
  subst e5
  exact ⟨⟨h3, t3, rfl, fun b o e => k3 _ _ (k' _ _ e)⟩, r5⟩
theorem c_lam2 (ok : c.Ok (n + 1)) {cell : Addr} {ds : List D} {d : D} {i : Nat} (hl : LamF c.W c.h₀ lam (lam2 c.W.w.params) [("rows", cell)]) (hc : ∃ o v, c.h₀.get? cell = some o ∧ o.data = .cell (some v) ∧ Rep c.P c.h₀ (.list ds) v) (hi : ds[i]? = some d) (hlen : ds.length ≤ 1000) :
    CallD c (.ref lam) [.int i] d := fun s vs x r => by
  obtain ⟨v, r', rfl, r1, r2⟩ := repL_cons.mp r; obtain rfl := repL_nil.mp r2
  have hr := ok.rm.dp
  obtain ⟨c', ctv, e, rec⟩ := hl.keep x.keep
  refine wpAny_call (call_fnE (fd := fdLam c.W (lam2 c.W.w.params) [("rows", cell)] c' ctv) (by omega) (ok.gd.T.nolimit.keeps x.keep) e rfl rfl rec (bindL2 c.W _ c' ctv _) (fun w hw => ?_) (fun w hw => ?_) (fun h' hns k' n' => ?_) rfl rfl rfl)
  · have hw' : w ∈ (lScope (lam2 c.W.w.params)).names := hw
    rw [namesL2] at hw'
    simp only [List.mem_cons, List.not_mem_nil, or_false] at hw'
    rcases hw' with rfl | rfl <;> decide
  · show (lScope (lam2 c.W.w.params)).names.lookup w.1 = _
    rw [namesL2]
    rw [List.mem_singleton.mp hw]; rfl
  let fd := fdLam c.W (lam2 c.W.w.params) [("rows", cell)] c' ctv
  have okc : (c.clo fd lam s).Ok n := clo_ok (n := n) ok x rfl rfl rfl
  obtain ⟨o, rv, h1, h2, h3⟩ := hc
  have F : FrD (c.clo fd lam s) [("k", .int i)] [("rows", .list ds)] h' := clo_fr x (repB_cons r1 repB_nil) (by simp) hns k' fun w aw e => by
    have e2 : List.lookup w [(("rows" : Str), cell)] = some aw := e
    rw [List.lookup_cons] at e2
    split at e2
    · rename_i q
      cases e2
      refine ⟨o, _, x.keep _ _ h1, h2, fun d e => ?_⟩
      rw [List.lookup_cons, q] at e
      cases e
      exact ⟨_, rfl, h3.keep x.keep⟩
    · cases e2
  have ev : Ev (c.clo fd lam s) [("k", .int i)] [("rows", .list ds)] (lBody (lam2 c.W.w.params)) d :=
    ev_sub (d1 := .list ds) (ev_free (a := cell) okc rfl rfl rfl rfl rfl) (L okc) hasT_list PySem.slot_list_getitem.lookup (op_item_list (by omega) (by simpa using hi) (by omega))
  refine noE (ev.go _ F) fun v s' hq => ?_
  obtain ⟨⟨h4, t4, e5, k4⟩, r5⟩ := hq
  subst e5
  exact ⟨⟨h4, t4, rfl, fun b o e => k4 _ _ (k' _ _ e)⟩, r5⟩
end
end Mine
end

section
open PySem PySem.W PyProof.Rows PySem.Calls
namespace Mine
noncomputable def lawC (W : Wd) (A : Around) (L fa : Addr) (h : Heap) (P : Addr → Prop) (b : Shared) : Cx := { W, A, env := callEnvC (fdOf W.w.params 216) L fa, h₀ := h, P, b }
noncomputable def TabL (I : Addr) (h : Heap) (p : Pos) : Prop := ∃ ps, h.get? 213 = some (tabObj ps) ∧ TriplesOk ps.toList ∧ (codeAmong p ps.toList = none ∨ ∃ cv, codeAmong p ps.toList = some (.ref cv) ∧ cv ≠ I ∧ h.CodeRec (.ref cv) lQ)
theorem codeRec_stays {h h' : Heap} {cv : Value} {q : Str} (k : ∀ b o, b ≠ 213 → h.get? b = some o → h'.get? b = some o) (x : h.CodeRec cv q) (hP : ∃ ps, h.get? 213 = some (tabObj ps) ∧ TriplesOk ps.toList) : h'.CodeRec cv q := by
  obtain ⟨c₂, oc, vs, t, e2, hoc, hd, hv⟩ := x
  obtain ⟨ps, h1, h2⟩ := hP
  refine ⟨c₂, oc, vs, t, e2, k _ _ (fun q => ?_) hoc, hd, hv⟩
  rw [q, h1] at hoc
  have e3 := Option.some.inj hoc
  rw [← e3] at hd
  injection hd with hd
  subst hd
  rw [← Array.getElem?_toList] at hv
  generalize ps.toList = l at hv h2
  match l, h2 with
  | [], _ => cases hv
  | .int _ _ :: .int _ _ :: _ :: _, _ => cases hv
theorem TabL.on {I : Addr} {h h' : Heap} {p : Pos} (x : TabL I h p) (k : Stays h h') : TabL I h' p := by
  obtain ⟨ps, h1, h2, h3⟩ := x
  refine ⟨ps, k _ _ h1, h2, h3.imp id fun ⟨cv, h4, hI, c₂, oc, vs, t, e2, hoc, hd, hv⟩ => ⟨cv, h4, hI, c₂, oc, vs, t, e2, k _ _ hoc, hd, hv⟩⟩
theorem TabL.to {I I' : Addr} {h : Heap} {p : Pos} (x : TabL I h p) (hI : h.get? I' = none) : TabL I' h p := by
  obtain ⟨ps, h1, h2, h3⟩ := x
  refine ⟨ps, h1, h2, h3.imp id fun ⟨cv, h4, _, c₂, oc, vs, t, e2, hoc, hd, hv⟩ => ⟨cv, h4, fun q => ?_, c₂, oc, vs, t, e2, hoc, hd, hv⟩⟩
  cases e2
  rw [q, hI] at hoc; cases hoc
theorem TabL.but {I : Addr} {h h' : Heap} {p : Pos} (x : TabL I h p) (hI : 213 ≠ I) (k : ∀ b o, b ≠ I → h.get? b = some o → h'.get? b = some o) : TabL I h' p := by
  obtain ⟨ps, h1, h2, h3⟩ := x
  refine ⟨ps, k _ _ hI h1, h2, h3.imp id fun ⟨cv, h4, hc, c₂, oc, vs, t, e2, hoc, hd, hv⟩ => ?_⟩
  cases e2
  exact ⟨_, h4, hc, _, oc, vs, t, rfl, k _ _ hc hoc, hd, hv⟩
theorem codeAmong_other {p p' : Pos} {v : Value} (hp : ¬ (p.line = p'.line ∧ p.col = p'.col)) (l : List Value) (h : TriplesOk l) : codeAmong p' (l ++ [rawInt p.line, rawInt p.col, v]) = codeAmong p' l := by
  fun_induction TriplesOk l with
  | case1 =>
    have : ((p.line : Int) == p'.line && (p.col : Int) == p'.col) = false := by
      rw [Bool.and_eq_false_iff]
      simp only [beq_eq_false_iff_ne, ne_eq]
      omega
    simp only [List.nil_append, rawInt, codeAmong]
    rw [this]; rfl
  | case2 a t b u x rest ih =>
    simp only [List.cons_append, codeAmong]
    rw [ih h]
  | case3 l h1 h2 => exact h.elim
section
variable {c : Cx} {n : Nat} {s : Shared} {l : Expr} {clos : List (Str × Addr)} {p : Pos}
theorem mk_lam {E : Value → Shared → Prop} {par : Arguments} {body : Expr} {sc : Scope} (ok : c.Ok n) (x : St c s.heap) (hcode : c.env.code = .ref 215) (C : CodeHd c.h₀ 215 213) {I : Addr} (hI : ∃ o, s.heap.get? I = some o) (T : TabL I s.heap p)
    (hl : l = .Lambda par body sc p) (hq : c.env.qual ++ "<lambda>" = lQ) (hcl : closureFor sc c.env = pure clos) (hdef : defaultsOf par c.env = ([], [])) :
    wpAny c.W.M c.A (eval (.Lambda par body sc p) c.env) (fun v s' => ∃ f, v = .ref f ∧ Heap.ExtBut 213 s.heap s'.heap ∧ TabL I s'.heap p ∧ LamF c.W s'.heap f l clos ∧ Sm s s' ∧ ∀ p', ¬ (p.line = p'.line ∧ p.col = p'.col) → TabL I s.heap p' → TabL I s'.heap p') E s := by
  obtain ⟨ps, hP, htr, hc⟩ := T
  obtain ⟨hgP, hgs, hb⟩ := top_builtinsAt ok.gd x.keep hP
  refine kla_eval hdef ?_
  rw [hq]
  rcases hc with hc | ⟨cv, hc, hcI, rec⟩
  · refine kla_makeFunction hcl ok.glob hgs hcode (C.keeps x.keep) hP htr hc hgP hb fun c' ctv h' tk hx h1 h2 hrec htb => ?_
    refine ⟨_, rfl, fun b o hne e => Heap.get?_push_of_some _ (hx b o hne e), ⟨_, Heap.get?_push_of_some _ htb, ?_, .inr ⟨c', ?_, ?_, ?_⟩⟩, ⟨c', ctv, by subst hl; exact Heap.get?_push_size _ rfl, ?_⟩, ⟨_, _, rfl⟩, fun p' hp ⟨ps', g1, g2, g3⟩ => ?_⟩
    · rw [show (ps ++ #[rawInt p.line, rawInt p.col, Value.ref c']).toList = ps.toList ++ [rawInt p.line, rawInt p.col, .ref c'] by simp]
      exact TriplesOk_snoc _ _ _ _ htr
    · rw [show (ps ++ #[rawInt p.line, rawInt p.col, Value.ref c']).toList = ps.toList ++ [rawInt p.line, rawInt p.col, .ref c'] by simp]
      exact codeAmong_snoc _ htr hc
    · rintro rfl
      obtain ⟨o, hI⟩ := hI
      exact Nat.lt_irrefl _ (Nat.lt_of_lt_of_le (Heap.lt_size hI) h1)
    · obtain ⟨c₂, oc, vs, t, e2, hoc, hd, hv⟩ := hrec
      exact ⟨c₂, oc, vs, t, e2, Heap.get?_push_of_some _ hoc, hd, hv⟩
    · obtain ⟨c₂, oc, vs, t, e2, hoc, hd, hv⟩ := hrec
      exact ⟨c₂, oc, vs, t, e2, Heap.get?_push_of_some _ hoc, hd, hv⟩
    · have e0 := Option.some.inj (hP.symm.trans g1)
      have e1 : ps = ps' := by
        have := congrArg Obj.data e0
        injection this
      subst e1
      refine ⟨_, Heap.get?_push_of_some _ htb, ?_, ?_⟩
      · rw [show (ps ++ #[rawInt p.line, rawInt p.col, Value.ref c']).toList = ps.toList ++ [rawInt p.line, rawInt p.col, .ref c'] by simp]
        exact TriplesOk_snoc _ _ _ _ htr
      · rw [show (ps ++ #[rawInt p.line, rawInt p.col, Value.ref c']).toList = ps.toList ++ [rawInt p.line, rawInt p.col, .ref c'] by simp, codeAmong_other hp _ htr]
        exact g3.imp id fun ⟨cv, h4, hI', h5⟩ => ⟨cv, h4, hI', codeRec_stays (fun b o hb e => Heap.get?_push_of_some _ (hx b o hb e)) h5 ⟨ps, hP, htr⟩⟩
  · refine kla_makeFunctionHit hcl ok.glob hgs hcode (C.keeps x.keep) hP htr hc hb fun ctv h' tk hk hsz => ?_
    have k : Stays s.heap (h'.push (lamObj c.W l clos cv ctv)) := fun b o e => Heap.get?_push_of_some _ (hk b o e)
    subst hl
    refine ⟨_, rfl, fun b o hne e => k b o e, TabL.on ⟨ps, hP, htr, .inr ⟨cv, hc, hcI, rec⟩⟩ k, ⟨cv, ctv, Heap.get?_push_size _ rfl, ?_⟩, ⟨_, _, rfl⟩, fun p' _ T' => T'.on k⟩
    obtain ⟨c₂, oc, vs, t, e2, hoc, hd, hv⟩ := rec
    exact ⟨c₂, oc, vs, t, e2, k _ _ hoc, hd, hv⟩
theorem FrD.tab {ρ κ : Loc} {h h' : Heap} (F : FrD c ρ κ h) (k : Heap.ExtBut 213 h h') (h0 : c.h₀.get? 213 = none) (t : ∃ ps, h.get? 213 = some (tabObj ps)) (t' : ∃ ps, h'.get? 213 = some (tabObj ps)) : FrD c ρ κ h' where
  keep := fun b o e => k _ _ (fun q => by rw [q, h0] at e; cases e) (F.keep b o e)
  new := fun b e => F.new b (by
    cases q : h.get? b with
    | none => rfl
    | some o =>
      by_cases z : b = 213
      · obtain ⟨ps, ht⟩ := t'
        rw [z, ht] at e; cases e
      · rw [k _ _ z q] at e; cases e)
  loc := by
    obtain ⟨ps, ht⟩ := t
    obtain ⟨m, hn, hm⟩ := F.loc
    have hne : c.env.locals ≠ 213 := fun q => by
      obtain ⟨o, es, ep, e, hd, _⟩ := hn
      rw [q, ht] at e; cases e; cases hd
    exact ⟨m, hn.extBut k hne, fun y d e => let ⟨v, a, b⟩ := hm y d e; ⟨v, a, b.same k fun o e ⟨vs, n, q⟩ => by rw [ht] at e; cases e; cases q⟩⟩
  cel := fun y a e => by
    obtain ⟨ps, ht⟩ := t
    obtain ⟨o, vo, h1, h2, h3⟩ := F.cel y a e
    refine ⟨o, vo, k _ _ (fun q => by rw [q, ht] at h1; cases h1; cases h2) h1, h2, fun d e => let ⟨v, p, q⟩ := h3 d e; ⟨v, p, q.same k fun o e ⟨vs, n, q⟩ => by rw [ht] at e; cases e; cases q⟩⟩
end
end Mine
end

section
open PySem PySem.W PyProof.Rows PySem.Calls
namespace Mine
theorem keylt_list {prog : Program} {w : World} {A : Around} {E : Value → Shared → Prop} {s : Shared} {P : Addr → Prop} {a b : List D} {v u : Value} {Q : Bool → Shared → Prop} (al : AlikeL a b) (r1 : Rep P s.heap (.list a) v) (r2 : Rep P s.heap (.list b) u) (hu : A.units + 1 + depL a < cLine)
    (h : Q (ans .Lt (cmpL a b)) s) : wpAny (model prog w) A (keyLt' oneType' v u) Q E s := by
  obtain ⟨l, items, rfl, _, hl, rl⟩ := rep_list.mp r1
  obtain ⟨m, items2, rfl, _, hb, rb⟩ := rep_list.mp r2
  obtain ⟨⟨cls, dd, data, sl⟩, ho, hc, n, hd⟩ := id hl
  obtain ⟨⟨cls2, dd2, data2, sl2⟩, ho2, hc2, n2, hd2⟩ := id hb
  simp only at hc hd hc2 hd2
  subst hc hd hc2 hd2
  have e1 : items.size = a.length := by rw [← rl.length]; simp
  have e2 : items2.size = b.length := by rw [← rb.length]; simp
  let o : Nat → Ordering := fun j => cmpd (a.getD j dNone) (b.getD j dNone)
  have hcm : ∀ j (h1 : j < items.size) (h2 : j < items2.size), CmpA A.in1 s items[j] items2[j] (o j) := fun j h1 h2 => by
    have q1 : items.toList[j]? = some items[j] := by simp [h1]
    have q2 : items2.toList[j]? = some items2[j] := by simp [h2]
    obtain ⟨d1, p1, s1⟩ := rl.at' q1
    obtain ⟨d2, p2, s2⟩ := rb.at' q2
    have : o j = cmpd d1 d2 := by show cmpd _ _ = _; rw [getD_some _ p1, getD_some _ p2]
    rw [this]
    exact cmpL_of al j d1 d2 p1 p2 A.in1 s _ _ s1 s2 (by show A.units + 1 + depL a < cLine; exact hu)
  have key := scanO_cmpL a b [] [] rfl
  simp only [List.nil_append, List.length_nil] at key
  have z1 : ans .Lt (ordN items.size items2.size) = decide (items.size < items2.size) := by
    show (ordN _ _ == .lt) = _
    rcases ordN_cases items.size items2.size with ⟨h, e⟩ | ⟨h, e⟩ | ⟨h, e⟩
    · rw [e, decide_eq_true (by omega)]; rfl
    · rw [e, decide_eq_false (by omega)]; rfl
    · rw [e, decide_eq_false (by omega)]; rfl
  have res : scan (fun j => o j == .eq) (fun j => ans .Lt (o j)) (decide (items.size < items2.size)) (min items.size items2.size) 0 = ans .Lt (cmpL a b) := by
    rw [scan_ans z1 _ _ fun _ _ _ _ => rfl, e1, e2, key]
  rw [keyLt'_oneType, oneLt'_eq]
  simp only [if_true]
  refine wpAny_bind (wpAny_cRoomFor (by show A.units < cLine; omega) ?_)
  refine wpAny_bind (wpAny_callSpecialIfBound?_slot ⟨_, ho, rfl⟩ F.slot_list_lt (call_meets F.slot_list_lt ⟨_, ho, rfl⟩ F.entry_list_lt (F.args_list_lt_2 _ _) (list_lt l m items items2 n n2 dd dd2 sl sl2 (fun j => o j == .eq) (fun j => ans .Lt (o j))) ⟨ho, ho2, fun j h1 h2 => (hcm j h1 h2).eq, fun j h1 h2 _ => (hcm j h1 h2).rlt, ?_⟩))
  rw [res]
  exact wpAny_truthy_bool h
noncomputable def order (ans : Nat → Nat → Bool) (n : Nat) : List Nat := (runT ans (kas_sort n)).toList
theorem order_mem {ans : Nat → Nat → Bool} {n i : Nat} (h0 : 0 < n) (hi : i ∈ order ans n) : i < n := ((ok_sort h0).run ans).mem hi
theorem order_len {ans : Nat → Nat → Bool} {n : Nat} (h0 : 0 < n) : (order ans n).length = n := by
  have := ((ok_sort h0).run ans).size
  unfold order; simpa using this
theorem order_congr {a b : Nat → Nat → Bool} {n : Nat} (h0 : 0 < n) (h : ∀ i j, i < n → j < n → a i j = b i j) : order a n = order b n := by
  have key : ∀ {α : Type} {R : α → Prop} {t : KasT α}, AskOk n R t → runT a t = runT b t := fun {α R} t ht => by
    induction t with
    | ret a => rfl
    | ask i j k ih =>
      show runT a (k (a i j)) = runT b (k (b i j))
      rw [h i j ht.1 ht.2.1]
      exact ih _ (ht.2.2 _)
  unfold order; rw [key (ok_sort h0)]
noncomputable def thing (ps : List (List (List Nat))) (k : Nat) : D := .list [st (place (ps.getD k [])), .int k]
noncomputable def things (ps : List (List (List Nat))) : List D := (List.range ps.length).map (thing ps)
theorem things_at {ps : List (List (List Nat))} {i : Nat} {d : D} (h : (things ps)[i]? = some d) : i < ps.length ∧ d = thing ps i := by
  unfold things at h
  rw [List.getElem?_map] at h
  obtain ⟨j, hj, rfl⟩ := Option.map_eq_some_iff.mp h
  obtain ⟨h3, h4⟩ := List.getElem?_eq_some_iff.mp hj
  rw [List.getElem_range] at h4
  subst h4
  exact ⟨by simpa using h3, rfl⟩
theorem things_get {ps : List (List (List Nat))} {i : Nat} (h : i < ps.length) : (things ps)[i]? = some (thing ps i) := by
  unfold things; rw [List.getElem?_map, List.getElem?_range h]; rfl
structure PsOk (ps : List (List (List Nat))) : Prop where
  clean : ∀ p ∈ ps, ∀ q ∈ p, Clean q
  len : ∀ p ∈ ps, (place p).length ≤ 900
  two : 2 ≤ ps.length
  few : ps.length < 64
theorem PsOk.at {ps : List (List (List Nat))} (h : PsOk ps) {i : Nat} (hi : i < ps.length) : (∀ q ∈ ps.getD i [], Clean q) ∧ (place (ps.getD i [])).length ≤ 900 := by
  have : ps.getD i [] ∈ ps := by rw [List.getD_eq_getElem?_getD, List.getElem?_eq_getElem hi]; exact List.getElem_mem hi
  exact ⟨h.clean _ this, h.len _ this⟩
section
variable {c : Cx} {n : Nat} {lam cell a N md f0 f1 f2 f3 f4 f5 : Addr} {ps : List (List (List Nat))}
theorem cmpAt_things (hl : LamF c.W c.h₀ lam (lam1 c.W.w.params) []) (hp : PsOk ps) {i j : Nat} (hi : i < ps.length) (hj : j < ps.length) : CmpAt c (n + 8) lam (thing ps i) (thing ps j) (cmpNum (ps.getD i []) (ps.getD j [])) := fun c' hW hP k ok => by
  have hl' : LamF c'.W c'.h₀ lam (lam1 c'.W.w.params) [] := by rw [hW]; exact hl.keep k
  exact c_lam1 ok hl' (hp.at hi).1 (hp.at hj).1 (hp.at hi).2 (hp.at hj).2
theorem sort_K (ok : c.Ok (n + 11)) (K : KOk c lam cell a N md f0 f1 f2 f3 f4 f5) (hl : LamF c.W c.h₀ lam (lam1 c.W.w.params) []) (hp : PsOk ps) {s : Shared} {v : Value} (x : St c s.heap) (r : Rep c.P s.heap (.list (things ps)) v) :
    wpAny c.W.M c.A (call (.builtin "sorted") [v] [(Str.ofString "key", .ref a)]) (Gives c s (.list ((order (fun i j => decide (cmpNum (ps.getD i []) (ps.getD j []) < 0)) ps.length).map fun i => (things ps).getD i (.int 0)))) NoE s := by
  have hlen : (things ps).length = ps.length := by simp [things]
  have key := c_sortedK (c := c) (n := n + 9) (s := s) (src := v) (q := a) (T := .ref a) (ds := things ps) (ans := fun i j => decide (cmpNum (ps.getD i []) (ps.getD j []) < 0)) ok x (coll_list r (by have := hp.few; omega)) (by have := hp.two; omega) (by have := hp.few; omega)
    (fun s1 i v h => ∃ y u, v = .ref y ∧ Inst h a y u ∧ Rep c.P s1.heap (thing ps i) u)
    (fun s1 i v h h' ⟨y, u, e, ⟨dx, e1, e2⟩, ru⟩ _ k => ⟨y, u, e, ⟨dx, k _ _ e1 (fun ⟨_, _, q⟩ => nomatch q), k _ _ e2 (fun ⟨_, _, q⟩ => nomatch q)⟩, ru⟩)
    (fun s1 i v h ⟨y, u, e, I, ru⟩ => by
      subst e
      obtain ⟨ox, od, I2, _⟩ := I.at
      exact I2.type)
    (by rfl) (by simp)
    (fun s1 i d v s' k1 hd rd y b => by
      obtain ⟨hi, rfl⟩ := things_at hd
      have x1 : St c s1.heap := x.on k1.stays
      have ok1 : (c.up s1).Ok (n + 9) := up_ok (n := n + 9) ok x1
      have K1 : KAt (c.up s1).W (c.up s1).h₀ cell a N md f0 f1 f2 f3 f4 f5 := (K.KA.keep x1.keep)
      exact noE (call_K (c := c.up s1) (n := n + 7) ok1 y K1 v) fun r s'' ⟨k2, yy, e, I⟩ => ⟨k2, yy, v, e, I, rd⟩)
    (fun s1 i j v u s' k1 hi hj yst b ⟨yy, vv, e, I, ri⟩ ⟨zz, uu, e2, J, rj⟩ => by
      subst e; subst e2
      rw [hlen] at hi hj
      have x1 : St c s1.heap := x.on k1.stays
      have ks : Stays c.h₀ s'.heap := fun b o e => yst.keep _ _ (x1.keep _ _ e)
      let c' : Cx := { (c.up s1) with h₀ := s'.heap }
      have ok' : c'.Ok (n + 9) := ⟨ok.gd.keep ks, (up_ok (n := n + 9) ok x1).rm, ok.kind, ok.glob, ok.blt⟩
      have K' : KOk c' lam cell a N md f0 f1 f2 f3 f4 f5 := K.at rfl ks
      have y' : St c' s'.heap := ⟨fun _ _ e => e, yst.new⟩
      have hd : ∀ {y : Addr} {d : List D} {u : Value}, Inst s'.heap a y u → Rep c.P s1.heap (.list d) u → Held c' a y (.list d) := fun {y d u} I r => ⟨u, I, Rep.keep r yst.keep, by obtain ⟨l, _, rfl, _⟩ := rep_list.mp r; rfl⟩
      have hu := ok'.rm.un
      refine own_lt (W := c.W) (A := c'.A) (b := decide (cmpNum (ps.getD i []) (ps.getD j []) < 0)) (by show c'.A.units < 9900; omega) K'.KA I (fun _ _ _ _ => by kernel_rfl) K'.KA.lt ?_
      refine noE (k_lt (c := c') (n := n + 8) ok' K' (hd I ri) (hd J rj) (cmpAt_things (c := c') (n := n) (hl.keep ks) hp hi hj) s' _ y' (repL_cons.mpr ⟨_, _, rfl, rep_val.mpr rfl, repL_cons.mpr ⟨_, _, rfl, rep_val.mpr rfl, repL_nil.mpr rfl⟩⟩)) fun r s'' q => ?_
      have e := rep_val.mp q.2
      exact ⟨e, q.1, rfl⟩)
  rw [hlen] at key
  exact key
end
end Mine
end

section
open PySem PySem.W PyProof.Rows PySem.Calls
namespace Mine
theorem repL_vals {P : Addr → Prop} {h : Heap} : ∀ vs : List Value, RepL P h (vs.map D.val) vs
  | [] => repL_nil.mpr rfl
  | v :: r => repL_cons.mpr ⟨v, r, rfl, rep_val.mpr rfl, repL_vals r⟩
theorem ints_get {N : Nat} {l : List Nat} (h : ∀ i ∈ l, i < N) : (l.map fun i => ((List.range N).map fun i : Nat => D.int i).getD i (.int 0)) = l.map fun i : Nat => D.int i := List.map_congr_left fun i hi => by
  rw [List.getD_eq_getElem?_getD, List.getElem?_map, List.getElem?_range (h i hi)]; rfl
section
variable {c : Cx} {n : Nat} {lam cell : Addr} {rs : List (List (List Sg))}
theorem sort_R (ok : c.Ok (n + 4)) (hl : LamF c.W c.h₀ lam (lam2 c.W.w.params) [("rows", cell)]) (hc : ∃ o v, c.h₀.get? cell = some o ∧ o.data = .cell (some v) ∧ Rep c.P c.h₀ (.list (rs.map encR)) v) (h2 : 2 ≤ rs.length) (h64 : rs.length < 64)
    {s : Shared} {r : Addr} {t u w : Tok} (x : St c s.heap) (hr : IsRange s.heap r 0 (rs.length : Int) 1 t u w) :
    wpAny c.W.M c.A (call (.builtin "sorted") [.ref r] [(Str.ofString "key", .ref lam)]) (Gives c s (.list ((order (fun i j => ans .Lt (cmpd (encR (rs.getD i [])) (encR (rs.getD j [])))) rs.length).map fun i : Nat => D.int i))) NoE s := by
  obtain ⟨o, rv, e1, e2, e3⟩ := hc
  obtain ⟨l, items, rfl, pl, hL, rl⟩ := rep_list.mp e3
  have hz : items.toList.length = rs.length := by have := rl.length; simpa using this
  have hlen : ((List.range rs.length).map fun i : Nat => D.int i).length = rs.length := by simp
  have item : ∀ i v, i < rs.length → items.toList[i]? = some v → Rep c.P c.h₀ (encR (rs.getD i [])) v := fun i v hi hv => by
    obtain ⟨d, hd, q⟩ := rl.at' hv
    rw [List.getElem?_map, List.getElem?_eq_getElem hi] at hd
    have : rs.getD i [] = rs[i] := by simp [List.getD_eq_getElem?_getD, hi]
    rw [this]
    cases hd
    exact q
  have key := c_sortedK (c := c) (n := n + 2) (s := s) (src := .ref r) (q := lam) (T := .type "list") (ds := (List.range rs.length).map fun i : Nat => D.int i) (ans := fun i j => ans .Lt (cmpd (encR (rs.getD i [])) (encR (rs.getD j [])))) ok x
    (coll_range (N := rs.length) ok.rm.hd hr (by omega)) (by omega) (by omega)
    (fun s1 i v h => Stays s1.heap h ∧ Stays c.h₀ s1.heap ∧ i < rs.length ∧ items.toList[i]? = some v)
    (fun s1 i v h h' ⟨k, q⟩ k2 _ => ⟨k2, q⟩)
    (fun s1 i v h ⟨k, k0, hi, e⟩ => ?_) (by rfl) (by rfl)
    (fun s1 i d v s' k1 hd rd y b => ?_)
    (fun s1 i j v u s' k1 hi hj y b ⟨k, k0, hi', ei⟩ ⟨_, _, hj', ej⟩ => ?_)
  · rw [hlen] at key
    have e4 := ints_get (N := rs.length) (l := order (fun i j => ans .Lt (cmpd (encR (rs.getD i [])) (encR (rs.getD j [])))) rs.length) fun i hi => order_mem (by omega) hi
    unfold order at e4 ⊢
    rw [e4] at key
    exact key
  · obtain ⟨b, vs, rfl, _, ⟨⟨cls, dd, data, sl⟩, ho, hcl, _⟩, _⟩ := rep_list.mp (item i v hi e)
    simp only at hcl
    subst hcl
    exact (Looks.ld (k _ _ (k0 _ _ ho))).andThen .now
  · have hi : i < rs.length := by have := (List.getElem?_eq_some_iff.mp hd).1; simpa using this
    rw [List.getElem?_map, List.getElem?_range hi] at hd
    cases hd
    have k0 : Stays c.h₀ s1.heap := fun b o e => k1.stays _ _ (x.keep _ _ e)
    have x1 : St c s1.heap := x.on k1.stays
    have ok1 : (c.up s1).Ok (n + 2) := up_ok (n := n + 2) ok x1
    obtain ⟨vi, hvi⟩ : ∃ vi, items.toList[i]? = some vi := ⟨_, List.getElem?_eq_getElem (by omega)⟩
    have cd := c_lam2 (c := c.up s1) (n := n + 1) (cell := cell) (ds := items.toList.map D.val) (d := .val vi) (i := i) ok1 (hl.keep k0) ⟨o, _, k0 _ _ e1, e2, rep_list.mpr ⟨l, items, rfl, pl, hL.at fun o e => k0 _ _ e, repL_vals _⟩⟩ (by rw [List.getElem?_map, hvi]; rfl) (by rw [List.length_map, hz]; omega)
    obtain ⟨ti, rfl⟩ := rep_int.mp rd
    refine noE (cd s' [_] y (repL_cons.mpr ⟨_, _, rfl, rep_int.mpr ⟨ti, rfl⟩, repL_nil.mpr rfl⟩)) fun rr s'' q => ?_
    have e := rep_val.mp q.2
    subst e
    exact ⟨q.1, fun b o e => q.1.stays _ _ (y.keep _ _ e), k0, hi, hvi⟩
  · have r1 := (item i v hi' ei).keep fun b o e => k _ _ (k0 _ _ e)
    have r2 := (item j u hj' ej).keep fun b o e => k _ _ (k0 _ _ e)
    have hu := ok.rm.un
    have hd := dep_rw (rs.getD i [])
    refine keylt_list (alike_rw _ _) r1 r2 (by show c.A.units + 1 + 1 + 1 + _ < 9900; omega) ⟨kp_refl _, ?_⟩
    show _ = ans .Lt (cmpd (.list _) (.list _))
    simp only [cmpd]
end
end Mine
end

section
open PySem PySem.W PyProof.Rows PySem.Calls
namespace Mine
section
variable {c : Cx} {n : Nat} {ρ κ : Loc}
theorem ev_range {f e : Expr} {pos : Pos} {N : Nat} (hf : Ev c ρ κ f (.val (.type "range"))) (he : EvL c ρ κ [e] [.int N])
    (hc : eval (.Call f [e] [] pos) c.env = (do callWith pos (← eval f c.env) [] (backTo pos (starEach [e] c.env)) (backToKw pos (keywordEach [] c.env))) := by rfl)
    (hp : ∃ x r, backTo pos (starEach [e] c.env) = (false, x) :: r := by exact ⟨_, _, rfl⟩) (hq : (backTo pos (starEach [e] c.env)).any (·.1) = false := by rfl) :
    ∀ s, FrD c ρ κ s.heap → wpAny c.W.M c.A (eval (.Call f [e] [] pos) c.env) (fun v s' => ∃ r t u w, v = .ref r ∧ Kp s s' ∧ IsRange s'.heap r 0 (N : Int) 1 t u w) NoE s := fun s F => by
  rw [hc]
  refine wpAny_bind (noE (hf.go s F) fun v s1 ⟨k1, r1⟩ => ?_)
  obtain rfl := rep_val.mp r1
  refine callWith_of (P := fun h => St c h) (by show ((backTo pos (starEach [e] c.env)).any (·.1) || false) = false; rw [hq]; rfl) keeps_type ?_
  refine noE (evalArgs_D he (F.on k1.stays) hp) fun a s2 ⟨e, k2, r2⟩ => ⟨((F.on k1.stays).on k2.stays).toSt, ?_⟩
  rw [e]
  obtain ⟨v, r', e2, r3, r4⟩ := repL_cons.mp r2
  obtain rfl := repL_nil.mp r4
  obtain ⟨t, rfl⟩ := rep_int.mp r3
  rw [e2]
  show wpAny _ _ (call (.type "range") [.int (N : Int) t]) _ _ _
  exact call_range_1 ⟨_, _, _, _, rfl, (k1.trans k2).trans (kp_both s2 (stays_push _ _)), Heap.get?_push_size _ rfl⟩
theorem ev_callKw {f e ek : Expr} {id : String} {name : Str} {pos kp : Pos} {d1 d : D} {kv : Value} (hf : Ev c ρ κ f (.val (.builtin id))) (he : EvL c ρ κ [e] [d1]) (hk : Ev c ρ κ ek (.val kv))
    (hc : ∀ s v, St c s.heap → Rep c.P s.heap d1 v → wpAny c.W.M c.A (call (.builtin id) [v] [(name, kv)]) (Gives c s d) NoE s)
    (hev : eval (.Call f [e] [⟨some name, ek, kp⟩] pos) c.env = (do callWith pos (← eval f c.env) [] (backTo pos (starEach [e] c.env)) (backToKw pos (keywordEach [⟨some name, ek, kp⟩] c.env))) := by rfl)
    (hp : ∃ x r, backTo pos (starEach [e] c.env) = (false, x) :: r := by exact ⟨_, _, rfl⟩) (hq : (backTo pos (starEach [e] c.env)).any (·.1) = false := by rfl)
    (hall : (backToKw pos (keywordEach [⟨some name, ek, kp⟩] c.env)).all (·.1.isSome) = true := by rfl)
    (hkw : (backToKw pos (keywordEach [⟨some name, ek, kp⟩] c.env)).any (·.1.isNone) = false := by rfl)
    (hfm : (backToKw pos (keywordEach [⟨some name, ek, kp⟩] c.env)).filterMap (·.1) = [name] := by rfl) :
    Ev c ρ κ (.Call f [e] [⟨some name, ek, kp⟩] pos) d := ⟨fun s F => by
  rw [hev]
  refine wpAny_bind (noE (hf.go s F) fun v s1 ⟨k1, r1⟩ => ?_)
  obtain rfl := rep_val.mp r1
  refine callWith_builtin_kwB hq hkw ?_
  have key := he.go pos s1 (F.on k1.stays)
  obtain ⟨x, r, e⟩ := hp
  rw [e] at key ⊢
  refine evalArgs_kwB hall (noE key fun vs s2 ⟨k2, r2⟩ => ?_)
  have F2 := (F.on k1.stays).on k2.stays
  refine kws_cons (noE (hk.go s2 F2) fun kv' s3 ⟨k3, r3⟩ => ?_)
  obtain rfl := rep_val.mp r3
  refine kws_nil ?_
  obtain ⟨v, r', rfl, r4, r5⟩ := repL_cons.mp r2
  obtain rfl := repL_nil.mp r5
  rw [hfm]
  exact noE (hc s3 v (F2.on k3.stays).toSt (r4.keep k3.stays)) fun w s4 ⟨k4, r6⟩ => ⟨((k1.trans k2).trans k3).trans k4, r6⟩⟩
end
section
variable {c : Cx} {n : Nat} {lam cell a N md f0 f1 f2 f3 f4 f5 : Addr} {ps : List (List (List Nat))}
noncomputable def ordPs (ps : List (List (List Nat))) : List Nat := order (fun i j => decide (cmpNum (ps.getD i []) (ps.getD j []) < 0)) ps.length
theorem ordPs_things (hp : PsOk ps) : ((ordPs ps).map fun i => (things ps).getD i (.int 0)) = (ordPs ps).map (thing ps) := List.map_congr_left fun i hi => by
  have h2 := hp.two
  have := order_mem (by omega) hi
  rw [List.getD_eq_getElem?_getD, things_get this]; rfl
theorem c_sortedThings (ok : c.Ok (n + 11)) (K : KOk c lam cell a N md f0 f1 f2 f3 f4 f5) (hl : LamF c.W c.h₀ lam (lam1 c.W.w.params) []) (hp : PsOk ps) : ∀ s v, St c s.heap → Rep c.P s.heap (.list (things ps)) v → wpAny c.W.M c.A (call (.builtin "sorted") [v] [(Str.ofString "key", .ref a)]) (Gives c s (.list ((ordPs ps).map (thing ps)))) NoE s := fun s v x r => by
  have := sort_K ok K hl hp x r
  rw [show order (fun i j => decide (cmpNum (ps.getD i []) (ps.getD j []) < 0)) ps.length = ordPs ps from rfl, ordPs_things hp] at this
  exact this
end
end Mine
end

section
open PySem PySem.W PyProof.Rows PySem.Calls
namespace Mine
noncomputable def wayS (P : Params) (i : Nat) : Stmt := (forBody (lawS P 2)).getD i (.Pass ⟨0, 0, 0, 0⟩)
noncomputable def p1 (P : Params) : Pos := lPos (lam1 P)
noncomputable def p2 (P : Params) : Pos := lPos (lam2 P)
noncomputable def ifTest : Stmt → Expr
  | .If e _ _ _ => e
  | _ => .Name "" ⟨0, 0, 0, 0⟩
noncomputable def cmpLeft : Expr → Expr
  | .Compare e _ _ _ => e
  | e => e
theorem lam2_is (P : Params) : lam2 P = .Lambda (lPar (lam2 P)) (lBody (lam2 P)) (lScope (lam2 P)) (p2 P) := by kernel_rfl
section
variable {W : Wd} {A : Around} {Lf fa : Addr} {h : Heap} {P : Addr → Prop} {b0 : Shared} {n : Nat} {ρ κ : Loc} {lam cell a N md f0 f1 f2 f3 f4 f5 : Addr} {ps : List (List (List Nat))} {rs : List (List (List Sg))}
noncomputable abbrev rowsCell (W : Wd) (Lf : Addr) : Addr := Lf + 3
theorem cells_law (W : Wd) (Lf fa : Addr) : (callEnvC (fdOf W.w.params 216) Lf fa).cells = [(("rows" : Str), Lf + 3), (("places" : Str), Lf + 2), (("way" : Str), Lf + 1)] := by kernel_rfl
theorem st9_left (ok : (lawC W A Lf fa h P b0).Ok (n + 12)) (hkey : ρ.lookup ("key" : Str) = some (.val (.ref a))) (hth : ρ.lookup ("things" : Str) = some (.list (things ps))) (K : KOk (lawC W A Lf fa h P b0) lam cell a N md f0 f1 f2 f3 f4 f5) (hl : LamF W h lam (lam1 W.w.params) []) (hp : PsOk ps) :
    Ev (lawC W A Lf fa h P b0) ρ κ (cmpLeft (ifTest (wayS W.w.params 9))) (.list ((ordPs ps).map fun i : Nat => D.int i)) := by
  have h2 := hp.two
  have hN : (ordPs ps).length ≤ 1000 := by
    have := order_len (ans := fun i j => decide (cmpNum (ps.getD i []) (ps.getD j []) < 0)) (n := ps.length) (by omega)
    have h64 := hp.few
    unfold ordPs; omega
  refine ev_compA (ordPs ps) (thing ps) (fun _ => true) (fun i : Nat => D.int i) (fun i => [("k", .int i), ("place", st (place (ps.getD i [])))]) (st := true) (κ' := []) ok
    (evI_listA (xs := ordPs ps) (enc := thing ps) ok (ev_callKw (Bl ok g_sorted bt_sorted) (evL_cons (L ok (hx := hth)) evL_nil) (L ok (hx := hkey)) (c_sortedThings (n := n + 1) ok K hl hp)))
    (by omega) (cl := []) rfl (by decide) rfl (by decide) (fun _ => rfl) subA_nil sub_nil ?_ (fun C P' x hx ok ow => ?_) (fun C P' x hx ok => evIfs_nil) (fun C P' x hx _ ok => L ok)
  · rw [filter_true]
  · refine asg_tuple (ds := [st (place (ps.getD x [])), .int x]) hasT_list PySem.F.slot_list_iter (itr_list ok) (fun j hj => ?_) rfl rfl (asgL_cons (asg_loc ok ow rfl) (fun h o b F hb e => locals_not_seq F hb e) (asgL_cons (asg_loc ok ow rfl) (fun h o b F hb e => locals_not_seq F hb e) asgL_nil))
    rw [List.getD_eq_getElem?_getD, List.getElem?_eq_getElem hj]; rfl
end
end Mine
end

section
open PySem PySem.W PyProof.Rows PySem.Calls
namespace Mine
noncomputable def ordRs (rs : List (List (List Sg))) : List Nat := order (fun i j => ans .Lt (cmpd (encR (rs.getD i [])) (encR (rs.getD j [])))) rs.length
section
variable {c : Cx} {n : Nat} {ρ κ : Loc} {rs : List (List (List Sg))} {cell : Addr} {p : Pos}
theorem sorted_lam {f e : Expr} {pos kp : Pos} {par : Arguments} {body : Expr} {sc : Scope} (ok : c.Ok (n + 4)) (hcode : c.env.code = .ref 215) (C : CodeHd c.h₀ 215 213) (h0 : c.h₀.get? 213 = none)
    (hlam : lam2 c.W.w.params = .Lambda par body sc p) (hql : c.env.qual ++ "<lambda>" = lQ) (hcl : closureFor sc c.env = pure [(("rows" : Str), cell)]) (hdef : defaultsOf par c.env = ([], []))
    (hcell : c.env.cells.lookup ("rows" : Str) = some cell) (hrows : κ.lookup ("rows" : Str) = some (.list (rs.map encR))) (h2 : 2 ≤ rs.length) (h64 : rs.length < 64)
    (hf : Ev c ρ κ f (.val (.builtin "sorted")))
    (he : ∀ s, FrD c ρ κ s.heap → wpAny c.W.M c.A (eval e c.env) (fun v s' => ∃ r t u w, v = .ref r ∧ Kp s s' ∧ IsRange s'.heap r 0 (rs.length : Int) 1 t u w) NoE s)
    (hst : starEach [e] c.env = (false, eval e c.env) :: starEach [] c.env)
    (hev : eval (.Call f [e] [⟨some ("key" : Str), .Lambda par body sc p, kp⟩] pos) c.env = (do callWith pos (← eval f c.env) [] (backTo pos (starEach [e] c.env)) (backToKw pos (keywordEach [⟨some ("key" : Str), .Lambda par body sc p, kp⟩] c.env))))
    (hp : ∃ x r, backTo pos (starEach [e] c.env) = (false, x) :: r) (hq : (backTo pos (starEach [e] c.env)).any (·.1) = false)
    (hall : (backToKw pos (keywordEach [⟨some ("key" : Str), .Lambda par body sc p, kp⟩] c.env)).all (·.1.isSome) = true)
    (hkw : (backToKw pos (keywordEach [⟨some ("key" : Str), .Lambda par body sc p, kp⟩] c.env)).any (·.1.isNone) = false)
    (hfm : (backToKw pos (keywordEach [⟨some ("key" : Str), .Lambda par body sc p, kp⟩] c.env)).filterMap (·.1) = [("key" : Str)])
    {s : Shared} (F : FrD c ρ κ s.heap) {I : Addr} (hI : ∃ o, s.heap.get? I = some o) (T : TabL I s.heap p) :
    wpAny c.W.M c.A (eval (.Call f [e] [⟨some ("key" : Str), .Lambda par body sc p, kp⟩] pos) c.env)
      (fun v s' => Rep c.P s'.heap (.list ((ordRs rs).map fun i : Nat => D.int i)) v ∧ FrD c ρ κ s'.heap ∧ Sm s s' ∧ TabL I s'.heap p ∧ Heap.ExtBut 213 s.heap s'.heap) NoE s := by
  rw [hev]
  refine wpAny_bind (noE (hf.go s F) fun v s1 ⟨k1, r1⟩ => ?_)
  obtain rfl := rep_val.mp r1
  refine callWith_builtin_kwB hq hkw ?_
  have F1 := F.on k1.stays
  have args : wpAny c.W.M c.A (spliced (backTo pos (starEach [e] c.env))) (fun vs s2 => ∃ r t u w, vs = [.ref r] ∧ Kp s1 s2 ∧ IsRange s2.heap r 0 (rs.length : Int) 1 t u w) NoE s1 :=
    args_cons (noE (he s1 F1) fun v s2 q => args_nil (by obtain ⟨r, t, u, w, e1, k2, q⟩ := q; exact ⟨r, t, u, w, by rw [e1], k2, q⟩)) hst
  obtain ⟨x, r, e⟩ := hp
  rw [e] at args ⊢
  refine evalArgs_kwB hall (noE args fun vs s2 q => ?_)
  obtain ⟨r, t, u, w, rfl, k2, hr⟩ := q
  have F2 := F1.on k2.stays
  have T2 := (T.on k1.stays).on k2.stays
  refine kws_cons (noE (mk_lam (l := lam2 c.W.w.params) (clos := [("rows", cell)]) ok F2.toSt hcode C (let ⟨o, e⟩ := hI; ⟨o, k2.stays _ _ (k1.stays _ _ e)⟩) T2 hlam hql hcl hdef) fun fv s3 q => ?_)
  obtain ⟨fa, rfl, x3, T3, L3, m3, _⟩ := q
  refine kws_nil ?_
  rw [hfm]
  obtain ⟨tab2, ht2, _⟩ := T2
  obtain ⟨tab3, ht3, _⟩ := id T3
  have F3 := F2.tab x3 h0 ⟨_, ht2⟩ ⟨_, ht3⟩
  have hr3 : IsRange s3.heap r 0 (rs.length : Int) 1 t u w := x3 _ _ (fun q => by rw [IsRange, q, ht2] at hr; cases hr) hr
  let c' : Cx := { c with h₀ := s3.heap }
  have ok' : c'.Ok (n + 4) := ⟨ok.gd.keep F3.keep, ok.rm, ok.kind, ok.glob, ok.blt⟩
  obtain ⟨o, vo, g1, g2, g3⟩ := F3.cel "rows" cell hcell
  obtain ⟨rv, rfl, rr⟩ := g3 _ hrows
  have st3 : St c' s3.heap := ⟨fun _ _ e => e, F3.new⟩
  have key := sort_R (c := c') (n := n) ok' L3 ⟨o, rv, g1, g2, rr⟩ h2 h64 st3 hr3
  refine noE key fun v s4 q => ⟨q.2, F3.on q.1.stays, ?_, T3.on q.1.stays, fun b o hb e => q.1.stays _ _ (x3 _ _ hb (k2.stays _ _ (k1.stays _ _ e)))⟩
  obtain ⟨h1, t1, e1, _⟩ := k1
  obtain ⟨h2, t2, e2, _⟩ := k2
  obtain ⟨h4, t4, e4, _⟩ := q.1
  subst e1; subst e2
  exact (((sm_refl s).set h1 t1).set h2 t2).trans (m3.trans ⟨h4, t4, e4⟩)
end
section
variable {W : Wd} {A : Around} {Lf fa : Addr} {h : Heap} {P : Addr → Prop} {b0 : Shared} {n : Nat} {ρ κ : Loc} {lam cell a N md f0 f1 f2 f3 f4 f5 : Addr} {ps : List (List (List Nat))} {rs : List (List (List Sg))}
theorem From.sm {c : Cx} {s s' : Shared} (x : From c s) (m : Sm s s') : From c s' := by
  obtain ⟨h, t, rfl⟩ := m
  exact x.set h t
theorem c_len_map {c : Cx} {α : Type} {f : α → D} {l : List α} (hl : l.length ≤ 100000) : CallD c (.builtin "len") [.list (l.map f)] (.int l.length) := by
  have := c_len_list (c := c) (ds := l.map f) (by rw [List.length_map]; exact hl)
  rwa [List.length_map] at this
theorem cells_rows (W : Wd) (Lf fa : Addr) : (callEnvC (fdOf W.w.params 216) Lf fa).cells.lookup ("rows" : Str) = some (Lf + 3) := by rw [cells_law]; rfl
theorem st9_right (ok : (lawC W A Lf fa h P b0).Ok (n + 4)) (hrows : κ.lookup ("rows" : Str) = some (.list (rs.map encR))) (h2 : 2 ≤ rs.length) (h64 : rs.length < 64) (C : CodeHd h 215 213) (h0 : h.get? 213 = none)
    {s : Shared} (F : FrD (lawC W A Lf fa h P b0) ρ κ s.heap) {I : Addr} (hI : ∃ o, s.heap.get? I = some o) (T : TabL I s.heap (p2 W.w.params)) :
    wpAny W.M A (eval (cmpRight (ifTest (wayS W.w.params 9))) (lawC W A Lf fa h P b0).env)
      (fun v s' => Rep P s'.heap (.list ((ordRs rs).map fun i : Nat => D.int i)) v ∧ FrD (lawC W A Lf fa h P b0) ρ κ s'.heap ∧ Sm s s' ∧ TabL I s'.heap (p2 W.w.params) ∧ Heap.ExtBut 213 s.heap s'.heap) NoE s := by
  refine sorted_lam (c := lawC W A Lf fa h P b0) (n := n) (p := p2 W.w.params) (cell := Lf + 3) (rs := rs) ok (by kernel_rfl) C h0 (lam2_is _) (by kernel_rfl) ?_ (by kernel_rfl) (cells_rows _ _ _) hrows h2 h64 (Bl ok g_sorted bt_sorted)
    (ev_range (Bl ok g_range bt_range) (evL_cons (ev_call (Bl ok g_len bt_len) (evL_cons (Cl (a := Lf + 3) ok (cells_rows _ _ _) rfl hrows) evL_nil) keeps_blt (c_len_map (f := encR) (l := rs) (by omega))) evL_nil)) rfl rfl ⟨_, _, rfl⟩ rfl rfl rfl rfl F hI T
  all_goals kernel_rfl
end
end Mine
end

section
open PySem PySem.W PyProof.Rows PySem.Calls
namespace Mine
noncomputable abbrev intL (l : List Nat) : D := .list (l.map fun i : Nat => D.int i)
theorem alike_int : ∀ a b : List Nat, AlikeL (a.map fun i : Nat => D.int i) (b.map fun i : Nat => D.int i)
  | [], _ => by simp [AlikeL]
  | _ :: _, [] => by simp [AlikeL]
  | a :: r, b :: t => by simp only [List.map_cons, AlikeL, Alike, true_and]; exact alike_int r t
theorem depL_int : ∀ a : List Nat, depL (a.map fun i : Nat => D.int i) = 0
  | [] => rfl
  | a :: r => by simp only [List.map_cons, depL, dep]; rw [depL_int r]; rfl
theorem cmp_int_self : ∀ a : List Nat, cmpL (a.map fun i : Nat => D.int i) (a.map fun i : Nat => D.int i) = .eq
  | [] => by simp [cmpL]
  | a :: r => by
    have e : cmpd (D.int a) (D.int a) = .eq := by unfold cmpd ordI; simp
    rw [List.map_cons, cmpL, if_pos e]
    exact cmp_int_self r
theorem ne_ints {c : Cx} {n : Nat} (ok : c.Ok n) (l : List Nat) : Op2 c (compareOp .NotEq) (intL l) (intL l) (bo false) := by
  have := op_rne (c := c) (d1 := intL l) (d2 := intL l) ok (by unfold dep; rw [depL_int]; decide) (by unfold Alike; exact alike_int l l)
  rwa [show cmpd (intL l) (intL l) = .eq by unfold cmpd; exact cmp_int_self l] at this
section
variable {W : Wd} {A : Around} {Lf fa : Addr} {h : Heap} {P : Addr → Prop} {b0 : Shared} {n : Nat} {ρ κ : Loc} {lam cell a N md f0 f1 f2 f3 f4 f5 : Addr} {ps : List (List (List Nat))} {rs : List (List (List Sg))}
structure Rows2 (ps : List (List (List Nat))) (rs : List (List (List Sg))) : Prop where
  ok : PsOk ps
  len : rs.length = ps.length
  ord : ∀ i j, i < ps.length → j < ps.length → ordP (ps.getD i []) (ps.getD j []) = cmpd (encR (rs.getD i [])) (encR (rs.getD j []))
theorem Rows2.order (x : Rows2 ps rs) : ordPs ps = ordRs rs := by
  have h2 := x.ok.two
  unfold ordPs ordRs
  rw [x.len]
  refine order_congr (by omega) fun i j hi hj => ?_
  rw [← x.ord i j hi hj]
  unfold cmpNum
  cases ordP (ps.getD i []) (ps.getD j []) <;> rfl
theorem st9 (ok : (lawC W A Lf fa h P b0).Ok (n + 12)) (hkey : ρ.lookup ("key" : Str) = some (.val (.ref a))) (hth : ρ.lookup ("things" : Str) = some (.list (things ps))) (hrows : κ.lookup ("rows" : Str) = some (.list (rs.map encR)))
    (K : KOk (lawC W A Lf fa h P b0) lam cell a N md f0 f1 f2 f3 f4 f5) (hl : LamF W h lam (lam1 W.w.params) []) (R : Rows2 ps rs) (C : CodeHd h 215 213) (h0 : h.get? 213 = none)
    {s : Shared} (F : FrD (lawC W A Lf fa h P b0) ρ κ s.heap) (b : From (lawC W A Lf fa h P b0) s) {I : Addr} (hI : ∃ o, s.heap.get? I = some o) (T : TabL I s.heap (p2 W.w.params)) :
    wpAny W.M A (execs [wayS W.w.params 9] (lawC W A Lf fa h P b0).env)
      (fun f s' => f = .next ∧ FrD (lawC W A Lf fa h P b0) ρ κ s'.heap ∧ From (lawC W A Lf fa h P b0) s' ∧ TabL I s'.heap (p2 W.w.params) ∧ Heap.ExtBut 213 s.heap s'.heap) NoE s := by
  have h2 := R.ok.two
  have h64 := R.ok.few
  have hlen := R.len
  have hleft := st9_left (κ := κ) (n := n) ok hkey hth K hl R.ok
  refine wpAny_execs_cons (wpAny_If (wpAny_isTrue_Compare1 (noE (hleft.go s F) fun v1 s1 q1 => ?_) rfl))
  obtain ⟨k1, r1⟩ := q1
  have F1 := F.on k1.stays
  have T1 := T.on k1.stays
  obtain ⟨tab1, ht1, _⟩ := id T1
  refine noE (st9_right (n := n + 8) ok hrows (by omega) (by omega) C h0 F1 (let ⟨o, e⟩ := hI; ⟨o, k1.stays _ _ e⟩) T1) fun v2 s2 q2 => ?_
  obtain ⟨r2, F2, m2, T2, x2⟩ := q2
  have r1' := r1.same x2 fun o e ⟨vs, n, q⟩ => by rw [ht1] at e; cases e; cases q
  rw [R.order] at r1'
  refine noE (ne_ints ok (ordRs rs) s2 v1 v2 F2.toSt r1' r2) fun v3 s3 q3 => ?_
  obtain ⟨k3, r3⟩ := q3
  obtain rfl := rep_val.mp r3
  refine wpAny_truthy_bool ?_
  exact wpAny_execs_nil (wpAny_execs_nil ⟨rfl, F2.on k3.stays, ((b.on k1).sm m2).on k3, T2.on k3.stays, fun b o hb e => k3.stays _ _ (x2 _ _ hb (k1.stays _ _ e))⟩)
end
end Mine
end

section
open PySem PySem.W PyProof.Rows PySem.Calls
namespace Mine
section
variable {c : Cx} {n : Nat} {ρ κ : Loc}
theorem ne_strs (ok : c.Ok n) (l : List (List Nat)) : Op2 c (compareOp .NotEq) (strL l) (strL l) (bo false) := by
  have := op_rne (c := c) (d1 := strL l) (d2 := strL l) ok (by unfold dep; rw [depL_st]; decide) (by unfold Alike; exact alike_st l l)
  have e : cmpd (strL l) (strL l) = .eq := by unfold cmpd; exact ordP_self l
  rwa [e] at this
theorem op_notin_tup {a b l : List Nat} : Op2 c (compareOp .NotIn) (st l) (.tup [st a, st b]) (bo (!(a == l || b == l))) := fun s v1 v2 x r1 r2 => by
  obtain ⟨t, rfl⟩ := rep_str.mp r1
  obtain ⟨tp, items, rfl, _, ht, hl⟩ := rep_tup.mp r2
  obtain ⟨u1, q1, e1, f1, g1⟩ := repL_cons.mp hl; obtain ⟨u2, q2, rfl, f2, g2⟩ := repL_cons.mp g1; obtain rfl := repL_nil.mp g2
  obtain ⟨t1, rfl⟩ := rep_str.mp f1
  obtain ⟨t2, rfl⟩ := rep_str.mp f2
  refine notin_tuple_strs (ys := [tx a, tx b]) ht (by rw [e1]; exact .cons _ _ (.cons _ _ .nil)) ⟨kp_refl s, rep_val.mpr ?_⟩
  simp only [List.any_cons, List.any_nil, Bool.or_false, tx_beq]
theorem notin_keep (l : List Nat) : (!(([] : List Nat) == l || [46] == l)) = keepP l := by
  unfold keepP
  cases l with
  | nil => rfl
  | cons k r =>
    have : ([46] == k :: r) = (k :: r == [46]) := by rw [Bool.eq_iff_iff]; simp only [beq_iff_eq]; exact eq_comm
    rw [this]; rfl
end
end Mine
end

section
open PySem PySem.W PyProof.Rows PySem.Calls
namespace Mine
section
variable {W : Wd} {A : Around} {Lf fa : Addr} {h : Heap} {P : Addr → Prop} {b0 : Shared} {n : Nat} {ρ κ : Loc} {Q : Flow → Shared → Prop}
theorem kind_law (W : Wd) (A : Around) (Lf fa : Addr) (h : Heap) (P : Addr → Prop) (b0 : Shared) : (lawC W A Lf fa h P b0).env.kindOf ("rows" : Str) = some .cell ∧ (lawC W A Lf fa h P b0).env.kindOf ("places" : Str) = some .cell ∧ (lawC W A Lf fa h P b0).env.kindOf ("way" : Str) = some .cell := by
  refine ⟨?_, ?_, ?_⟩ <;> kernel_rfl
theorem clos_way (W : Wd) (A : Around) (Lf fa : Addr) (h : Heap) (P : Addr → Prop) (b0 : Shared) : (lawC W A Lf fa h P b0).env.cells.lookup ("way" : Str) = some (Lf + 1) := by
  show (callEnvC (fdOf W.w.params 216) Lf fa).cells.lookup ("way" : Str) = _
  rw [cells_law]; rfl
theorem clos_places (W : Wd) (A : Around) (Lf fa : Addr) (h : Heap) (P : Addr → Prop) (b0 : Shared) : (lawC W A Lf fa h P b0).env.cells.lookup ("places" : Str) = some (Lf + 2) := by
  show (callEnvC (fdOf W.w.params 216) Lf fa).cells.lookup ("places" : Str) = _
  rw [cells_law]; rfl
theorem clos_rows (W : Wd) (A : Around) (Lf fa : Addr) (h : Heap) (P : Addr → Prop) (b0 : Shared) : (lawC W A Lf fa h P b0).env.cells.lookup ("rows" : Str) = some (Lf + 3) := by
  show (callEnvC (fdOf W.w.params 216) Lf fa).cells.lookup ("rows" : Str) = _
  rw [cells_law]; rfl
structure TxOk (txs : List (List Nat)) : Prop where
  oct : ∀ l ∈ txs, Oct l
  two : 2 ≤ txs.length
  few : txs.length < 64
theorem subF {x : Str} {a : Addr} {c : Cx} (h : c.env.cells.lookup x = some a) : ∀ y b, ([(x, a)] : List (Str × Addr)).lookup y = some b → c.env.cells.lookup y = some b := fun y b e => by
  rw [List.lookup_cons] at e
  split at e
  · rename_i q
    cases e
    rw [eq_of_beq q]; exact h
  · cases e
theorem subD {x : Str} {d : D} {κ : Loc} (h : κ.lookup x = some d) : ∀ y d', ([(x, d)] : Loc).lookup y = some d' → κ.lookup y = some d' := fun y b e => by
  rw [List.lookup_cons] at e
  split at e
  · rename_i q
    cases e
    rw [eq_of_beq q]; exact h
  · cases e
theorem w_rows {txs : List (List Nat)} {way : Nat} (ok : (lawC W A Lf fa h P b0).Ok (n + 1)) (hx : TxOk txs) (hw : way < 3) (ht : ρ.lookup ("texts" : Str) = some (strL txs)) (hy : κ.lookup ("way" : Str) = some (.int way)) :
    Ev (lawC W A Lf fa h P b0) ρ κ (asgVal (wayS W.w.params 0)) (.list (txs.map fun l => encR (namesI way l l.length))) := by
  have h64 := hx.few
  refine ev_compA txs st (fun _ => true) (fun l => encR (namesI way l l.length)) (fun l => [("text", st l)]) (st := true) (κ' := [("way", .int way)]) ok
    (evI_listA (xs := txs) (enc := st) ok (L ok (hx := ht)))
    (by omega) (cl := [("way", Lf + 1)]) (by kernel_rfl) (by decide) rfl (by decide) (fun _ => rfl) (subF (clos_way W A Lf fa h P b0)) (subD hy) ?_ (fun C P' x hx ok ow => asg_loc ok ow rfl) (fun C P' x hx ok => evIfs_nil)
    (fun C P' x hm _ ok => ev_call (G ok g_law_names) (evL_cons (L ok) (evL_cons (Cl (a := Lf + 1) ok rfl) evL_nil)) (keeps_fn ok (h199 _)) (c_names ok (hx.oct x hm) hw))
  rw [filter_true]
theorem w_written {txs : List (List Nat)} {way : Nat} (ok : (lawC W A Lf fa h P b0).Ok (n + 3)) (ow : OwnL (lawC W A Lf fa h P b0)) (hx : TxOk txs) (hw : way < 3) (ht : ρ.lookup ("texts" : Str) = some (strL txs)) (hy : κ.lookup ("way" : Str) = some (.int way)) {rest : List Stmt}
    (hr : Xs (lawC W A Lf fa h P b0) (("written", strL (txs.map (written way))) :: ρ) κ rest Q) :
    Xs (lawC W A Lf fa h P b0) ρ κ (wayS W.w.params 1 :: rest) Q := by
  have h64 := hx.few
  refine x_asgCompA txs st (fun _ => true) (fun l => st (written way l)) (fun l => [("text", st l)]) (st := true) (κ' := [("way", .int way)]) (ds := (txs.map (written way)).map st) ok ow rfl
    (evI_listA (xs := txs) (enc := st) ok (L ok (hx := ht)))
    (by omega) (cl := [("way", Lf + 1)]) (by kernel_rfl) (by decide) rfl (by decide) (fun _ => rfl) (subF (clos_way W A Lf fa h P b0)) (subD hy) (by kernel_rfl) ?_ (fun C P' x hx ok ow => asg_loc ok ow rfl) (fun C P' x hx ok => evIfs_nil)
    (fun C P' x hm _ ok => ev_call (G ok g_law_written) (evL_cons (L ok) (evL_cons (Cl (a := Lf + 1) ok rfl) evL_nil)) (keeps_fn ok (h192 _)) (c_written ok (hx.oct x hm) hw)) hr
  rw [filter_true, List.map_map]; rfl
end
end Mine
end

section
open PySem PySem.W PyProof.Rows PySem.Calls
namespace Mine
structure RowOk (m : List (List Sg)) : Prop where
  len : m.length ≤ 1000
  nm : ∀ x ∈ m, x.length ≤ 1000
  cd : ∀ x ∈ m, ∀ y ∈ x, y.2.length ≤ 1000
  sp : ∀ x ∈ m, (spelled x).length ≤ 1000
theorem names_ok {way : Nat} {l : List Nat} (hw : way < 3) (hl : Oct l) : RowOk (namesI way l l.length) where
  len := by have := namesI_len way l l.length; have := hl.len; omega
  nm := fun x hx => by have := namesI_mem way l l.length x hx; have := hl.len; omega
  cd := fun x hx y hy => by have := (names_gs hw hl _ (Nat.le_refl _) x hx y hy).ne.2.2; omega
  sp := fun x hx => by
    have := spelled_len fun y hy => names_gs hw hl _ (Nat.le_refl _) x hx y hy
    have := namesI_mem way l l.length x hx
    have := hl.len
    omega
theorem RowOk.filter {m : List (List Sg)} (h : RowOk m) (f : List Sg → Bool) : RowOk (m.filter f) where
  len := Nat.le_trans (List.length_filter_le _ _) h.len
  nm := fun x hx => h.nm x (List.mem_filter.mp hx).1
  cd := fun x hx => h.cd x (List.mem_filter.mp hx).1
  sp := fun x hx => h.sp x (List.mem_filter.mp hx).1
section
variable {W : Wd} {A : Around} {Lf fa : Addr} {h : Heap} {P : Addr → Prop} {b0 : Shared} {n : Nat} {ρ κ : Loc} {Q : Flow → Shared → Prop} {rest : List Stmt} {rs : List (List (List Sg))}
theorem sp_list (m : List (List Sg)) : (m.filter fun _ => true).map (fun x => st (spelled x)) = (m.map spelled).map st := by rw [filter_true, List.map_map]; rfl
theorem w_if2 {wr : List (List Nat)} (ok : (lawC W A Lf fa h P b0).Ok (n + 1)) (hR : ∀ m ∈ rs, RowOk m) (h64 : rs.length < 64) (hwr : ρ.lookup ("written" : Str) = some (strL wr)) (hy : κ.lookup ("rows" : Str) = some (.list (rs.map encR)))
    (he : wr = rs.map fun m => joinW [47] (m.map spelled)) (hr : Xs (lawC W A Lf fa h P b0) ρ κ rest Q) : Xs (lawC W A Lf fa h P b0) ρ κ (wayS W.w.params 2 :: rest) Q := by
  subst he
  refine x_if (q := false) (evB_cmp (d2 := strL (rs.map fun m => joinW [47] (m.map spelled))) (L ok (hx := hwr)) ?_ (ne_strs ok _)) (fun e => nomatch e) (fun _ => x_fall hr)
  refine ev_compA rs encR (fun _ => true) (fun m => st (joinW [47] (m.map spelled))) (fun m => [("row", encR m)]) (st := true) (κ' := []) ok
    (evI_listA (xs := rs) (enc := encR) ok (Cl (a := Lf + 3) ok (clos_rows W A Lf fa h P b0) (kind_law W A Lf fa h P b0).1 hy))
    (by omega) (cl := []) (by kernel_rfl) (by decide) rfl (by decide) (fun _ => rfl) subA_nil sub_nil ?_ (fun C P' x hx ok ow => asg_loc ok ow rfl) (fun C P' x hx ok => evIfs_nil)
    (fun C P' m hm _ ok => ev_meth (ev_tx [47]) m_join (evL_cons (ev_compA m encN (fun _ => true) (fun x => st (spelled x)) (fun x => [("name", encN x)]) (st := true) (κ' := []) (ds := (m.map spelled).map st) ok
      (evI_listA (xs := m) (enc := encN) ok (L ok)) (by have := (hR m hm).len; omega) (cl := []) rfl (by decide) rfl (by decide) (fun _ => rfl) subA_nil sub_nil (sp_list m) (fun C P' x hx ok ow => asg_loc ok ow rfl) (fun C P' x hx ok => evIfs_nil)
      (fun C P' x hx _ ok => ev_call (G ok g_law_spelled) (evL_cons (L ok) evL_nil) (keeps_fn ok (h204 _)) (c_spelled ok ((hR m hm).nm x hx) ((hR m hm).cd x hx)))) evL_nil) keeps_blt
      (c_join ⟨by rw [List.length_map]; exact (hR m hm).len, by simp, fun p hp => by obtain ⟨x, hx, rfl⟩ := List.mem_map.mp hp; exact (hR m hm).sp x hx⟩))
  rw [filter_true, List.map_map]; rfl
theorem w_rows3 (ok : (lawC W A Lf fa h P b0).Ok (n + 1)) (hR : ∀ m ∈ rs, RowOk m) (h64 : rs.length < 64) (hy : κ.lookup ("rows" : Str) = some (.list (rs.map encR))) :
    Ev (lawC W A Lf fa h P b0) ρ κ (asgVal (wayS W.w.params 3)) (.list (rs.map fun m => encR (m.filter fun x => keepP (spelled x)))) := by
  refine ev_compA rs encR (fun _ => true) (fun m => encR (m.filter fun x => keepP (spelled x))) (fun m => [("row", encR m)]) (st := true) (κ' := []) ok
    (evI_listA (xs := rs) (enc := encR) ok (Cl (a := Lf + 3) ok (clos_rows W A Lf fa h P b0) (kind_law W A Lf fa h P b0).1 hy))
    (by omega) (cl := []) (by kernel_rfl) (by decide) rfl (by decide) (fun _ => rfl) subA_nil sub_nil ?_ (fun C P' x hx ok ow => asg_loc ok ow rfl) (fun C P' x hx ok => evIfs_nil)
    (fun C P' m hm _ ok => ev_compA m encN (fun x => keepP (spelled x)) encN (fun x => [("name", encN x)]) (st := true) (κ' := []) ok
      (evI_listA (xs := m) (enc := encN) ok (L ok)) (by have := (hR m hm).len; omega) (cl := []) rfl (by decide) rfl (by decide) (fun _ => rfl) subA_nil sub_nil rfl (fun C P' x hx ok ow => asg_loc ok ow rfl)
      (fun C P' x hx ok => evIfs_one (evB_eq (evB_cmp (ev_call (G ok g_law_spelled) (evL_cons (L ok) evL_nil) (keeps_fn ok (h204 _)) (c_spelled ok ((hR m hm).nm x hx) ((hR m hm).cd x hx))) (ev_tupD (evL_cons (ev_tx []) (evL_cons (ev_tx [46]) evL_nil)) (by decide)) op_notin_tup) (notin_keep _)))
      (fun C P' x hx _ ok => L ok))
  rw [filter_true]
end
end Mine
end

section
open PySem PySem.W PyProof.Rows PySem.Calls
namespace Mine
section
variable {W : Wd} {A : Around} {Lf fa : Addr} {h : Heap} {P : Addr → Prop} {b0 : Shared} {n : Nat} {ρ κ : Loc} {Q : Flow → Shared → Prop} {rest : List Stmt} {rs : List (List (List Sg))} {wr : List (List Nat)}
theorem joinP_root (l : List Nat) : joinP [47] l = if (l.take 1 == [47]) = true then l else [47] ++ l := by
  unfold joinP
  cases l with
  | nil => rfl
  | cons k r =>
    by_cases e : k = 47
    · subst e; simp
    · simp [e]
theorem joinP_root_len (l : List Nat) : (joinP [47] l).length ≤ l.length + 1 ∧ (joinP [47] l).head? = some 47 := by
  rw [joinP_root]
  split
  · rename_i e
    cases l with
    | nil => simp at e
    | cons k r => simp at e; subst e; simp
  · simp
theorem w_if4 (ok : (lawC W A Lf fa h P b0).Ok (n + 2)) (hl : ∀ l ∈ wr, l.length ≤ 800) (h64 : wr.length < 64) (hwr : ρ.lookup ("written" : Str) = some (strL wr)) (hr : Xs (lawC W A Lf fa h P b0) ρ κ rest Q) :
    Xs (lawC W A Lf fa h P b0) ρ κ (wayS W.w.params 4 :: rest) Q := by
  refine x_if (q := false) (evB_cmp (d1 := strL (wr.map (joinP [47]))) (d2 := strL (wr.map (joinP [47]))) ?_ ?_ (ne_strs ok _)) (fun e => nomatch e) (fun _ => x_fall hr)
  · refine ev_compA wr st (fun _ => true) (fun l => st (joinP [47] l)) (fun l => [("one", st l)]) (st := true) (κ' := []) ok
      (evI_listA (xs := wr) (enc := st) ok (L ok (hx := hwr)))
      (by omega) (cl := []) (by kernel_rfl) (by decide) rfl (by decide) (fun _ => rfl) subA_nil sub_nil (by rw [filter_true, List.map_map]; rfl) (fun C P' x hx ok ow => asg_loc ok ow rfl) (fun C P' x hx ok => evIfs_nil)
      (fun C P' l hm _ ok => ev_call (G ok g_join) (evL_cons (ev_tx [47]) (evL_cons (L ok) evL_nil)) (keeps_fn ok (h175 _)) (c_join2 ok (by decide) (by have := hl l hm; omega)))
  · refine ev_compA wr st (fun _ => true) (fun l => st (joinP [47] l)) (fun l => [("one", st l)]) (st := true) (κ' := []) ok
      (evI_listA (xs := wr) (enc := st) ok (L ok (hx := hwr)))
      (by omega) (cl := []) (by kernel_rfl) (by decide) rfl (by decide) (fun _ => rfl) subA_nil sub_nil (by rw [filter_true, List.map_map]; rfl) (fun C P' x hx ok ow => asg_loc ok ow rfl) (fun C P' x hx ok => evIfs_nil)
      (fun C P' l hm _ ok => ?_)
    have hlen := hl l hm
    rw [joinP_root]
    refine ev_ite (q := (l.take 1 == [47])) (evB_cmp (ev_slice (L ok) evO_none (evO_some ev_int) hasT_str PySem.F.slot_str_getitem.lookup (opS_one (l := l) (by omega))) (ev_tx [47]) op_eq_str) (fun e => ?_) (fun e => ?_)
    · rw [if_pos e]; exact L ok
    · rw [if_neg (by rw [e]; decide)]
      exact ev_bin (ev_tx [47]) (L ok) (op_add_str (by simp; omega))
theorem w_places {pl : List (List Nat)} (ok : (lawC W A Lf fa h P b0).Ok (n + 6)) (hl : ∀ l ∈ wr, l.length ≤ 800) (hj : ∀ l ∈ wr, (joinW [47] (partsOf (joinP [47] l))).length ≤ 900) (h64 : wr.length < 64) (hwr : ρ.lookup ("written" : Str) = some (strL wr)) (hp : pl = wr.map fun l => 47 :: joinW [47] (partsOf (joinP [47] l))) :
    Ev (lawC W A Lf fa h P b0) ρ κ (asgVal (wayS W.w.params 5)) (strL pl) := by
  subst hp
  refine ev_compA wr st (fun _ => true) (fun l => st (47 :: joinW [47] (partsOf (joinP [47] l)))) (fun l => [("one", st l)]) (st := true) (κ' := []) ok
    (evI_listA (xs := wr) (enc := st) ok (L ok (hx := hwr)))
    (by omega) (cl := []) (by kernel_rfl) (by decide) rfl (by decide) (fun _ => rfl) subA_nil sub_nil (by rw [filter_true, List.map_map]; rfl) (fun C P' x hx ok ow => asg_loc ok ow rfl) (fun C P' x hx ok => evIfs_nil)
    (fun C P' l hm _ ok => ?_)
  have hq := joinP_root_len l
  have hlen := hl l hm
  exact ev_call (G ok g_commonpath) (evL_cons (ev_listD (evL_cons (ev_call (G ok g_join) (evL_cons (ev_tx [47]) (evL_cons (L ok) evL_nil)) (keeps_fn ok (h175 _)) (c_join2 (n := n + 4) ok (by decide) (by omega))) evL_nil) (by simp)) evL_nil) (keeps_fn ok (h180 _)) (c_cp1 ok (by omega) hq.2 (hj l hm))
end
end Mine
end

section
open PySem PySem.W PyProof.Rows PySem.Calls
namespace Mine
section
variable {W : Wd} {A : Around} {Lf fa : Addr} {h : Heap} {P : Addr → Prop} {b0 : Shared} {n : Nat} {ρ κ : Loc} {Q : Flow → Shared → Prop} {rest : List Stmt} {rs : List (List (List Sg))} {wr : List (List Nat)}
/- plain = ['/' + '/'.join(..) for row in rows] -/
set_option maxHeartbeats 0 in
theorem w_plain (ok : (lawC W A Lf fa h P b0).Ok (n + 1)) (ow : OwnL (lawC W A Lf fa h P b0)) (hR : ∀ m ∈ rs, RowOk m) (hj : ∀ m ∈ rs, (joinW [47] (m.map spelled)).length ≤ 900) (h64 : rs.length < 64) (hy : κ.lookup ("rows" : Str) = some (.list (rs.map encR)))
    (hr : Xs (lawC W A Lf fa h P b0) (("plain", strL (rs.map fun m => place (m.map spelled))) :: ρ) κ rest Q) : Xs (lawC W A Lf fa h P b0) ρ κ (wayS W.w.params 6 :: rest) Q := by
  refine x_asgCompA rs encR (fun _ => true) (fun m => st (place (m.map spelled))) (fun m => [("row", encR m)]) (st := true) (κ' := []) (ds := (rs.map fun m => place (m.map spelled)).map st) ok ow rfl
    (evI_listA (xs := rs) (enc := encR) ok (Cl (a := Lf + 3) ok (clos_rows W A Lf fa h P b0) (kind_law W A Lf fa h P b0).1 hy))
    (by omega) (cl := []) (by kernel_rfl) (by decide) rfl (by decide) (fun _ => rfl) subA_nil sub_nil (by kernel_rfl) (by rw [filter_true, List.map_map]; rfl) (fun C P' x hx ok ow => asg_loc ok ow rfl) (fun C P' x hx ok => evIfs_nil)
    (fun C P' m hm _ ok => ev_bin (ev_tx [47]) (ev_meth (ev_tx [47]) m_join (evL_cons (ev_compA m encN (fun _ => true) (fun x => st (spelled x)) (fun x => [("name", encN x)]) (st := true) (κ' := []) (ds := (m.map spelled).map st) ok
      (evI_listA (xs := m) (enc := encN) ok (L ok)) (by have := (hR m hm).len; omega) (cl := []) rfl (by decide) rfl (by decide) (fun _ => rfl) subA_nil sub_nil (sp_list m) (fun C P' x hx ok ow => asg_loc ok ow rfl) (fun C P' x hx ok => evIfs_nil)
      (fun C P' x hx _ ok => ev_call (G ok g_law_spelled) (evL_cons (L ok) evL_nil) (keeps_fn ok (h204 _)) (c_spelled ok ((hR m hm).nm x hx) ((hR m hm).cd x hx)))) evL_nil) keeps_blt
      (c_join ⟨by rw [List.length_map]; exact (hR m hm).len, by simp, fun p hp => by obtain ⟨x, hx, rfl⟩ := List.mem_map.mp hp; exact (hR m hm).sp x hx⟩)) (op_add_str (by have := hj m hm; simp; omega))) hr
theorem w_if7 {pl : List (List Nat)} (ok : (lawC W A Lf fa h P b0).Ok (n + 3)) (hR : ∀ m ∈ rs, RowOk m) (hs : ∀ m ∈ rs, sumL (m.map spelled) ≤ 900) (hc : ∀ m ∈ rs, ∀ p ∈ m.map spelled, Clean p) (h64 : rs.length < 64) (hy : κ.lookup ("rows" : Str) = some (.list (rs.map encR)))
    (hpl : κ.lookup ("places" : Str) = some (strL pl)) (hpn : ρ.lookup ("plain" : Str) = some (strL pl)) (he : pl = rs.map fun m => place (m.map spelled)) (hr : Xs (lawC W A Lf fa h P b0) ρ κ rest Q) : Xs (lawC W A Lf fa h P b0) ρ κ (wayS W.w.params 7 :: rest) Q := by
  refine x_if (q := false) (evB_bop (b := false) (evOr_cons (b := false) (q := false) (evB_cmp (Cl (a := Lf + 2) ok (clos_places W A Lf fa h P b0) (kind_law W A Lf fa h P b0).2.1 hpl) (L ok (hx := hpn)) (ne_strs ok _))
    fun _ => evOr_cons (b := false) (q := false) (evB_cmp (d1 := strL pl) ?_ (L ok (hx := hpn)) (ne_strs ok _)) fun _ => evOr_nil)) (fun e => nomatch e) (fun _ => x_fall hr)
  refine ev_compA rs encR (fun _ => true) (fun m => st (place (m.map spelled))) (fun m => [("row", encR m)]) (st := true) (κ' := []) ok
    (evI_listA (xs := rs) (enc := encR) ok (Cl (a := Lf + 3) ok (clos_rows W A Lf fa h P b0) (kind_law W A Lf fa h P b0).1 hy))
    (by omega) (cl := []) (by kernel_rfl) (by decide) rfl (by decide) (fun _ => rfl) subA_nil sub_nil (by rw [filter_true, he, List.map_map]; rfl) (fun C P' x hx ok ow => asg_loc ok ow rfl) (fun C P' x hx ok => evIfs_nil)
    (fun C P' m hm _ ok => ?_)
  have e : (m.map spelled).foldl joinP [47] = place (m.map spelled) := by
    have := fold_place (ps := m.map spelled) (as := []) (fun q hq => by cases hq) (hc m hm)
    rw [List.nil_append] at this
    exact this
  rw [← e]
  exact ev_call (G ok g_reduce) (evL_cons (G ok g_join) (evL_cons (ev_compA m encN (fun _ => true) (fun x => st (spelled x)) (fun x => [("name", encN x)]) (st := true) (κ' := []) (ds := (m.map spelled).map st) ok
      (evI_listA (xs := m) (enc := encN) ok (L ok)) (by have := (hR m hm).len; omega) (cl := []) rfl (by decide) rfl (by decide) (fun _ => rfl) subA_nil sub_nil (sp_list m) (fun C P' x hx ok ow => asg_loc ok ow rfl) (fun C P' x hx ok => evIfs_nil)
      (fun C P' x hx _ ok => ev_call (G ok g_law_spelled) (evL_cons (L ok) evL_nil) (keeps_fn ok (h204 _)) (c_spelled ok ((hR m hm).nm x hx) ((hR m hm).cd x hx)))) (evL_cons (ev_tx [47]) evL_nil))) (keeps_fn ok (h37 _)) (c_reduce ok (by have := hs m hm; simp; omega))
theorem w_things {ps : List (List (List Nat))} (ok : (lawC W A Lf fa h P b0).Ok (n + 1)) (ow : OwnL (lawC W A Lf fa h P b0)) (h64 : ps.length < 64) (hpl : κ.lookup ("places" : Str) = some (strL (ps.map place)))
    (hr : Xs (lawC W A Lf fa h P b0) (("things", .list (things ps)) :: ρ) κ rest Q) : Xs (lawC W A Lf fa h P b0) ρ κ (wayS W.w.params 8 :: rest) Q := by
  refine x_asgCompA (List.range ps.length) (fun i : Nat => D.int i) (fun _ => true) (thing ps) (fun i => [("k", .int i)]) (st := true) (κ' := [("places", strL (ps.map place))]) (ds := things ps) ok ow rfl
    (evI_rangeA (evI_range ok (by omega) (Bl ok g_range bt_range) (evL_cons (ev_call (Bl ok g_len bt_len) (evL_cons (Cl (a := Lf + 2) ok (clos_places W A Lf fa h P b0) (kind_law W A Lf fa h P b0).2.1 hpl) evL_nil) keeps_blt (d := .int ps.length) ?_) evL_nil)))
    (by simp; omega) (cl := [("places", Lf + 2)]) (by kernel_rfl) (by decide) rfl (by decide) (fun _ => rfl) (subF (clos_places W A Lf fa h P b0)) (subD hpl) (by kernel_rfl) (by rw [filter_true]; rfl) (fun C P' x hx ok ow => asg_loc ok ow rfl) (fun C P' x hx ok => evIfs_nil)
    (fun C P' i hi _ ok => ev_listD (evL_cons (ev_sub (d1 := strL (ps.map place)) (Cl (a := Lf + 2) ok rfl) (L ok) hasT_list PySem.slot_list_getitem.lookup (op_item_list (by omega) ?_ (by simp; omega))) (evL_cons (L ok) evL_nil)) (by simp)) hr
  · have := c_len_list (c := lawC W A Lf fa h P b0) (ds := (ps.map place).map st) (by simp; omega)
    rwa [List.length_map, List.length_map] at this
  · have hi' := List.mem_range.mp hi
    rw [show ((i : Int)).toNat = i by omega, List.getElem?_map, List.getElem?_map, List.getElem?_eq_getElem hi', List.getD_eq_getElem?_getD, List.getElem?_eq_getElem hi']; rfl
end
end Mine
end

section
open PySem PySem.W PyProof.Rows PySem.Calls
namespace Mine
noncomputable def rsOf (txs : List (List Nat)) (way : Nat) : List (List (List Sg)) := txs.map (kept way)
noncomputable def psOf (txs : List (List Nat)) (way : Nat) : List (List (List Nat)) := txs.map fun l => (kept way l).map spelled
theorem getD_map' {α β : Type} {f : α → β} {l : List α} {i : Nat} (d : β) (a : α) (h : i < l.length) : (l.map f).getD i d = f (l.getD i a) := by
  simp [List.getD_eq_getElem?_getD, h]
theorem getD_in {α : Type} {l : List α} {i : Nat} (a : α) (h : i < l.length) : l.getD i a ∈ l := by
  rw [List.getD_eq_getElem?_getD, List.getElem?_eq_getElem h]; exact List.getElem_mem h
theorem place_ok {way : Nat} {l : List Nat} (hw : way < 3) (hl : Oct l) : (place ((kept way l).map spelled)).length ≤ 900 := by
  have := place_sum ((kept way l).map spelled)
  have := kept_sum hw hl
  omega
theorem rows2 {txs : List (List Nat)} {way : Nat} (hx : TxOk txs) (hw : way < 3) : Rows2 (psOf txs way) (rsOf txs way) where
  ok := {
    clean := fun p hp => by
      obtain ⟨l, hl, rfl⟩ := List.mem_map.mp hp
      exact kept_clean hw (hx.oct l hl)
    len := fun p hp => by
      obtain ⟨l, hl, rfl⟩ := List.mem_map.mp hp
      exact place_ok hw (hx.oct l hl)
    two := by rw [psOf, List.length_map]; exact hx.two
    few := by rw [psOf, List.length_map]; exact hx.few }
  len := by rw [psOf, rsOf, List.length_map, List.length_map]
  ord := fun i j hi hj => by
    rw [psOf, List.length_map] at hi hj
    unfold psOf rsOf
    rw [getD_map' [] [] hi, getD_map' [] [] hj, getD_map' [] [] hi, getD_map' [] [] hj]
    rw [rows_ord (kept_gs hw (hx.oct _ (getD_in [] hi))) (kept_gs hw (hx.oct _ (getD_in [] hj)))]
    simp only [encR, cmpd]
theorem written_len {way : Nat} {l : List Nat} (hw : way < 3) (hl : Oct l) : (written way l).length ≤ 800 := by
  have h0 : (namesI way l l.length).map spelled ≠ [] := by simpa using namesI_ne way l l.length
  have := joinW_sum h0
  have := names_sum hw hl
  rw [written_names hl hw]; omega
section
variable {W : Wd} {A : Around} {Lf fa : Addr} {h0 h1 : Heap} {P : Addr → Prop} {b0 : Shared} {n : Nat} {ρ κ : Loc} {lam cell a N md f0 f1 f2 f3 f4 f5 : Addr} {txs : List (List Nat)} {way : Nat}
set_option maxHeartbeats 0 in
theorem way_turn (ok0 : (lawC W A Lf fa h0 P b0).Ok (n + 12)) (ok : (lawC W A Lf fa h1 P b0).Ok (n + 12)) (ow : OwnL (lawC W A Lf fa h1 P b0)) (oc : OwnC (lawC W A Lf fa h1 P b0)) (k01 : Stays h0 h1) (hg : h0.get? 213 = none) {I : Addr} (hI : ∃ o, h1.get? I = some o) (T : TabL I h1 (p2 W.w.params)) (C : CodeHd h0 215 213)
    (K : KOk (lawC W A Lf fa h0 P b0) lam cell a N md f0 f1 f2 f3 f4 f5) (hl : LamF W h0 lam (lam1 W.w.params) []) (hx : TxOk txs) (hw : way < 3) (ht : ρ.lookup ("texts" : Str) = some (strL txs)) (hkey : ρ.lookup ("key" : Str) = some (.val (.ref a))) (hy : κ.lookup ("way" : Str) = some (.int way)) :
    Xs (lawC W A Lf fa h1 P b0) ρ κ (forBody (lawS W.w.params 2)) (fun f s' => f = .next ∧ FrD (lawC W A Lf fa h0 P b0) [("things", .list (things (psOf txs way))), ("texts", strL txs), ("key", .val (.ref a))] [("rows", .list ((rsOf txs way).map encR))] s'.heap ∧ From (lawC W A Lf fa h0 P b0) s' ∧ TabL I s'.heap (p2 W.w.params) ∧ Heap.ExtBut 213 h1 s'.heap) := by
  have h64 := hx.few
  have R := rows2 hx hw
  have kl := kind_law W A Lf fa h1 P b0
  have cr := clos_rows W A Lf fa h1 P b0
  have cp := clos_places W A Lf fa h1 P b0
  have hN : ∀ m ∈ txs.map (fun l => namesI way l l.length), RowOk m := fun m hm => by
    obtain ⟨l, hl, rfl⟩ := List.mem_map.mp hm
    exact names_ok hw (hx.oct l hl)
  have hK : ∀ m ∈ rsOf txs way, RowOk m := fun m hm => by
    obtain ⟨l, hl, rfl⟩ := List.mem_map.mp hm
    exact (names_ok hw (hx.oct l hl)).filter _
  have e3 : (txs.map fun l => namesI way l l.length).map (fun m => encR (m.filter fun x => keepP (spelled x))) = (rsOf txs way).map encR := by
    rw [rsOf, List.map_map, List.map_map]; rfl
  have e5 : (psOf txs way).map place = (txs.map (written way)).map fun l => 47 :: joinW [47] (partsOf (joinP [47] l)) := by
    rw [psOf, List.map_map, List.map_map]
    refine List.map_congr_left fun l hl => ?_
    show place _ = 47 :: joinW [47] (partsOf (joinP [47] (written way l)))
    rw [parts_written hw (hx.oct l hl)]; rfl
  have e6 : (psOf txs way).map place = (rsOf txs way).map fun m => place (m.map spelled) := by
    rw [psOf, rsOf, List.map_map, List.map_map]; rfl
  refine x_asgC (x := "rows") (d := .list ((txs.map fun l => namesI way l l.length).map encR)) ok oc kl.1 cr (by rw [List.map_map]; exact w_rows (n := n + 11) ok hx hw ht hy) ?_
  refine w_written (n := n + 9) ok ow hx hw ht (by exact hy) ?_
  refine w_if2 (n := n + 11) ok hN (by rw [List.length_map]; exact h64) rfl rfl (by rw [List.map_map]; exact List.map_congr_left fun l hl => written_names (hx.oct l hl) hw) ?_
  refine x_asgC (x := "rows") (d := .list ((rsOf txs way).map encR)) ok oc kl.1 cr (by rw [← e3]; exact w_rows3 (n := n + 11) ok hN (by rw [List.length_map]; exact h64) rfl) ?_
  refine w_if4 (n := n + 10) ok (wr := txs.map (written way)) (fun l hl => ?_) (by rw [List.length_map]; exact h64) rfl ?_
  · obtain ⟨l', hl', rfl⟩ := List.mem_map.mp hl
    exact written_len hw (hx.oct l' hl')
  refine x_asgC (x := "places") (d := strL ((psOf txs way).map place)) ok oc kl.2.1 cp (w_places (n := n + 6) (wr := txs.map (written way)) ok (fun l hl => ?_) (fun l hl => ?_) (by rw [List.length_map]; exact h64) rfl e5) ?_
  · obtain ⟨l', hl', rfl⟩ := List.mem_map.mp hl
    exact written_len hw (hx.oct l' hl')
  · obtain ⟨l', hl', rfl⟩ := List.mem_map.mp hl
    rw [parts_written hw (hx.oct l' hl')]
    have := place_ok hw (hx.oct l' hl')
    simp [place] at this
    omega
  refine w_plain (n := n + 11) (rs := rsOf txs way) ok ow hK (fun m hm => ?_) (by rw [rsOf, List.length_map]; exact h64) rfl ?_
  · obtain ⟨l', hl', rfl⟩ := List.mem_map.mp hm
    have := place_ok hw (hx.oct l' hl')
    simp [place] at this
    omega
  refine w_if7 (n := n + 9) (rs := rsOf txs way) (pl := (psOf txs way).map place) ok hK (fun m hm => ?_) (fun m hm => ?_) (by rw [rsOf, List.length_map]; exact h64) rfl rfl (by rw [e6]; rfl) e6 ?_
  · obtain ⟨l', hl', rfl⟩ := List.mem_map.mp hm
    have := kept_sum hw (hx.oct l' hl')
    omega
  · obtain ⟨l', hl', rfl⟩ := List.mem_map.mp hm
    exact kept_clean hw (hx.oct l' hl')
  refine w_things (n := n + 11) (ps := psOf txs way) ok ow (by rw [psOf, List.length_map]; exact h64) rfl ⟨fun s F b => ?_⟩
  have F0 := F.base (c := lawC W A Lf fa h0 P b0) (h₀ := h1) k01
  refine noE (st9 (n := n) (h := h0) ok0 (by exact hkey) rfl rfl K hl R C hg F0 b (let ⟨o, e⟩ := hI; ⟨o, F.keep _ _ e⟩) (T.on F.keep)) fun f s' ⟨e, F', b', T', x'⟩ => ⟨e, F'.weak (sub_cons rfl (sub_cons (by exact ht) (sub_cons (by exact hkey) sub_nil))) (sub_cons rfl sub_nil), b', T', fun b o hb e => x' b o hb (F.keep b o e)⟩
end
end Mine
end

section
open PySem PySem.W PyProof.Rows PySem.Calls
namespace Mine
theorem TabL.recs {I : Addr} {h h' : Heap} {p : Pos} (x : TabL I h p) (k : ∀ b o, h.get? b = some o → (∃ vs, o.data = .fields vs) → h'.get? b = some o) : TabL I h' p := by
  obtain ⟨ps, h1, h2, h3⟩ := x
  refine ⟨ps, k _ _ h1 ⟨_, rfl⟩, h2, h3.imp id fun ⟨cv, h4, hc, c₂, oc, vs, t, e2, hoc, hd, hv⟩ => ⟨cv, h4, hc, c₂, oc, vs, t, e2, k _ _ hoc ⟨_, hd⟩, hd, hv⟩⟩
theorem hidden_at {c : Cx} {ρ κ : Loc} {h : Heap} (F : FrD c ρ κ h) (hnd : ∀ p ∈ c.env.cells, c.env.cells.lookup p.1 = some p.2) {b : Addr} (hb : b ∈ hidden c) : ∃ o, h.get? b = some o ∧ ¬ ∃ vs, o.data = .fields vs := by
  rcases List.mem_cons.mp hb with rfl | hb
  · obtain ⟨m, ⟨o, es, ep, ho, hd, _⟩, _⟩ := F.loc
    exact ⟨o, ho, fun ⟨vs, q⟩ => by rw [hd] at q; cases q⟩
  · obtain ⟨p, hp, rfl⟩ := List.mem_map.mp hb
    obtain ⟨o, vo, h1, h2, _⟩ := F.cel p.1 p.2 (hnd p hp)
    exact ⟨o, h1, fun ⟨vs, q⟩ => by rw [h2] at q; cases q⟩
section
variable {W : Wd} {A : Around} {Lf fa : Addr} {h0 h1 : Heap} {P : Addr → Prop} {b0 : Shared} {n : Nat} {ρ κ : Loc} {lam cell a N md f0 f1 f2 f3 f4 f5 : Addr} {txs : List (List Nat)} {Q : Flow → Shared → Prop} {rest : List Stmt}
theorem law_nd (W : Wd) (A : Around) (Lf fa : Addr) (h : Heap) (P : Addr → Prop) (b0 : Shared) : ∀ p ∈ (lawC W A Lf fa h P b0).env.cells, (lawC W A Lf fa h P b0).env.cells.lookup p.1 = some p.2 := by
  show ∀ p ∈ (callEnvC (fdOf W.w.params 216) Lf fa).cells, (callEnvC (fdOf W.w.params 216) Lf fa).cells.lookup p.1 = some p.2
  rw [cells_law]
  intro p hp
  simp only [List.mem_cons, List.not_mem_nil, or_false] at hp
  rcases hp with rfl | rfl | rfl <;> rfl
noncomputable def rhoW (txs : List (List Nat)) (a : Addr) : Nat → Loc
  | 0 => [("texts", strL txs), ("key", .val (.ref a))]
  | i + 1 => [("things", .list (things (psOf txs i))), ("texts", strL txs), ("key", .val (.ref a))]
noncomputable def kapW (txs : List (List Nat)) : Nat → Loc
  | 0 => []
  | i + 1 => [("rows", .list ((rsOf txs i).map encR))]
theorem rhoW_texts {txs : List (List Nat)} {a : Addr} : ∀ i, (rhoW txs a i).lookup ("texts" : Str) = some (strL txs)
  | 0 => rfl
  | i + 1 => rfl
theorem rhoW_key {txs : List (List Nat)} {a : Addr} : ∀ i, (rhoW txs a i).lookup ("key" : Str) = some (.val (.ref a))
  | 0 => rfl
  | i + 1 => rfl
theorem way_loop (ok0 : (lawC W A Lf fa h0 P b0).Ok (n + 12)) (ow : OwnL (lawC W A Lf fa h0 P b0)) (oc : OwnC (lawC W A Lf fa h0 P b0)) (hg : h0.get? 213 = none) (C : CodeHd h0 215 213)
    (K : KOk (lawC W A Lf fa h0 P b0) lam cell a N md f0 f1 f2 f3 f4 f5) (hl : LamF W h0 lam (lam1 W.w.params) []) (hx : TxOk txs) (ht : ρ.lookup ("texts" : Str) = some (strL txs)) (hkey : ρ.lookup ("key" : Str) = some (.val (.ref a)))
    {s : Shared} (F : FrD (lawC W A Lf fa h0 P b0) ρ κ s.heap) (b : From (lawC W A Lf fa h0 P b0) s) {I0 : Addr} (T : TabL I0 s.heap (p2 W.w.params))
    (hrest : ∀ s', FrD (lawC W A Lf fa h0 P b0) (rhoW txs a 3) (kapW txs 3) s'.heap → From (lawC W A Lf fa h0 P b0) s' → (∃ ps, s'.heap.get? 213 = some (tabObj ps)) → wpAny W.M A (execs rest (lawC W A Lf fa h0 P b0).env) Q NoE s') :
    wpAny W.M A (execs (lawS W.w.params 2 :: rest) (lawC W A Lf fa h0 P b0).env) Q NoE s := by
  let c0 := lawC W A Lf fa h0 P b0
  refine forRange (c := c0) (N := 3) ok0 (by decide) (Bl ok0 g_range bt_range) (evL_cons ev_int evL_nil) F fun s2 I k2 hI0 hI2 => ?_
  obtain ⟨tab, ht0, _⟩ := id T
  have h213 : 213 ≠ I := fun q => by rw [← q, ht0] at hI0; cases hI0
  have hIh : I ∉ hidden c0 := fun hm => by
    obtain ⟨o, ho, _⟩ := hidden_at F (law_nd W A Lf fa h0 P b0) hm
    rw [hI0] at ho; cases ho
  have hIP : c0.P I := F.new I hI0
  have hI00 : c0.h₀.get? I = none := fresh_h0 F hI0
  have hIL1 : I ≠ Lf + 1 := fun q => hIh (List.mem_cons_of_mem _ (List.mem_map.mpr ⟨_, mem_of_lookup (clos_way W A Lf fa h0 P b0), q.symm⟩))
  have it : ∀ {ρ κ : Loc} {s' h : Heap}, FrD c0 ρ κ s' → (∃ o, s'.get? I = some o ∧ ¬ SeqO o) → (∀ b o, b ≠ I → s'.get? b = some o → h.get? b = some o) → FrD c0 ρ κ h := fun F hq hk => F.iter (wr := [I]) (fun b hb => by
    rw [List.mem_singleton.mp hb]; exact ⟨hIP, hI00, hIh⟩) (fun b hb => by rw [List.mem_singleton.mp hb]; exact hq) fun b o hb e => hk b o (fun q => hb (by rw [q]; exact .head _)) e
  refine ⟨fun i s' => FrD c0 (rhoW txs a i) (kapW txs i) s'.heap ∧ From c0 s' ∧ TabL I s'.heap (p2 W.w.params), ⟨(F.on k2.stays).weak (sub_cons ht (sub_cons hkey sub_nil)) sub_nil, b.on k2, (T.to hI0).on k2.stays⟩, ?_, ?_⟩
  · rintro i s' v h tk hi ⟨Fi, bi, Ti⟩ rv hIs hIh2 hk
    have F' := it Fi hIs hk
    have T' := Ti.but h213 hk
    refine noE (asg_cell (c := c0) (x := "way") (a := Lf + 1) ok0 oc (kind_law W A Lf fa h0 P b0).2.2 (clos_way W A Lf fa h0 P b0) { s' with heap := h, toks := tk } v F' rv) fun _ s3 ⟨F3, ⟨h3, tk3, e3⟩, k3⟩ => ?_
    have b3 : From c0 s3 := by rw [e3]; exact (bi.set h tk).set h3 tk3
    have T3 : TabL I s3.heap (p2 W.w.params) := T'.recs fun b o e ⟨vs, q⟩ => k3 b o (fun hm => by
      obtain ⟨o', vo, g1, g2, _⟩ := F'.cel "way" (Lf + 1) (clos_way W A Lf fa h0 P b0)
      rw [List.mem_singleton.mp hm] at e
      rw [e] at g1; cases g1; rw [q] at g2; cases g2) e
    have T4 : TabL I (hideAll s3.heap (hidden c0)) (p2 W.w.params) := T3.recs fun b o e q => hideAll_get _ e fun hm => by
      obtain ⟨o', g1, g2⟩ := hidden_at F3 (law_nd W A Lf fa h0 P b0) hm
      rw [e] at g1; cases g1; exact g2 q
    obtain ⟨oI, hoI, _⟩ := hIh2
    have hI3 : s3.heap.get? I = some oI := k3 _ _ (fun hm => hIL1 (List.mem_singleton.mp hm)) hoI
    have hI4 : (hideAll s3.heap (hidden c0)).get? I = some oI := hideAll_get _ hI3 hIh
    have turn := (way_turn (h0 := h0) (h1 := hideAll s3.heap (hidden c0)) (ρ := rhoW txs a i) (κ := ("way", .int i) :: kapW txs i) (way := i) ok0 (hid_ok ok0 ow oc F3.keep) hid_own (hid_ownC oc) (hid_keep ow oc F3.keep) hg ⟨oI, hI4⟩ T4 C K hl hx hi (rhoW_texts i) (rhoW_key i) rfl).go s3 (hid_fr F3) b3
    refine noE turn fun f s4 ⟨e4, F4, b4, T5, x4⟩ => ⟨e4, ⟨F4, b4, T5⟩, fun o e => ?_⟩
    rw [hoI] at e; cases e
    exact x4 _ _ (Ne.symm h213) hI4
  · rintro s' h tk ⟨Fi, bi, Ti⟩ hIs hk
    obtain ⟨tab, h1, _⟩ := Ti
    exact hrest _ (it Fi hIs hk) (bi.set h tk) ⟨tab, hk _ _ h213 h1⟩
end
end Mine
end

section
open PySem PySem.W PyProof.Rows PySem.Calls
namespace Mine
theorem zip_apart (N l1 l2 : Nat) (h1 : l1 < N) (h2 : l2 < N) : ZipApart (N + 4) (N + 2) (N + 3) N (N + 1) l1 l2 := by
  constructor <;> (intro q; have q' : (_ : Nat) = _ := q; omega)
theorem five_lt {N M : Nat} (h : M = N + 5) : N < M ∧ N + 1 < M ∧ N + 2 < M ∧ N + 3 < M ∧ N + 4 < M := by omega
theorem not_new {N a : Nat} (h : a < N) : a ≠ N ∧ a ≠ N + 1 ∧ a ≠ N + 2 ∧ a ≠ N + 3 ∧ a ≠ N + 4 := by omega
section
variable {c : Cx} {n : Nat} {ρ κ : Loc}
theorem evI_zip {f e1 e2 : Expr} {elts : List Expr} {k : Nat} {tpos pos : Pos} {ds1 ds2 : List D} (ok : c.Ok n) (hf : Ev c ρ κ f (.val (.type "zip"))) (he : EvL c ρ κ [e1, e2] [.list ds1, .list ds2])
    (hc : eval (.Call f [e1, e2] [] pos) c.env = (do callWith pos (← eval f c.env) [] (backTo pos (starEach [e1, e2] c.env)) (backToKw pos (keywordEach [] c.env))) := by rfl)
    (hp : ∃ x r, backTo pos (starEach [e1, e2] c.env) = (false, x) :: r := by exact ⟨_, _, rfl⟩) (hq : (backTo pos (starEach [e1, e2] c.env)).any (·.1) = false := by rfl) :
    EvI c ρ κ false (.Tuple elts k tpos) (.Call f [e1, e2] [] pos) (min ds1.length ds2.length) (fun i => .tup [ds1.getD i dNone, ds2.getD i dNone]) := ⟨fun s F => by
  rw [hc]
  refine wpAny_bind (noE (hf.go s F) fun v s1 ⟨k1, r1⟩ => ?_)
  obtain rfl := rep_val.mp r1
  refine callWith_of (P := fun h => St c h) (by show ((backTo pos (starEach [e1, e2] c.env)).any (·.1) || false) = false; rw [hq]; rfl) keeps_type ?_
  refine noE (evalArgs_D he (F.on k1.stays) hp) fun a s2 ⟨e, k2, r2⟩ => ⟨((F.on k1.stays).on k2.stays).toSt, ?_⟩
  rw [e]
  obtain ⟨v1, r', e2, r3, r4⟩ := repL_cons.mp r2
  obtain ⟨v2, r'', e3, r5, r6⟩ := repL_cons.mp r4
  obtain rfl := repL_nil.mp r6
  rw [e2, e3]
  have F2 := (F.on k1.stays).on k2.stays
  obtain ⟨l1, xs, rfl, pl1, hL1, rl1⟩ := rep_list.mp r3
  obtain ⟨l2, ys, rfl, pl2, hL2, rl2⟩ := rep_list.mp r5
  have kk := k1.trans k2
  have hn1 : xs.size = ds1.length := by rw [← rl1.length]; simp
  have hn2 : ys.size = ds2.length := by rw [← rl2.length]; simp
  obtain ⟨o1, ho1, _, m1, hd1⟩ := id hL1
  obtain ⟨o2, ho2, _, m2, hd2⟩ := id hL2
  have lt1 : l1 < s2.heap.objs.size := Heap.lt_size ho1
  have lt2 : l2 < s2.heap.objs.size := Heap.lt_size ho2
  show wpAny _ _ (call (.type "zip") [.ref l1, .ref l2]) _ _ _
  refine call_zip_2 hL1 hL2 fun h' hz hTI hTO hi1 hi2 hsz hk => ⟨kk.trans (kp_heap s2 hk), ?_⟩
  generalize hN : s2.heap.objs.size = N at *
  have D := zip_apart N l1 l2 lt1 lt2
  have z5 := five_lt hsz
  have W := WalksT.zip2 (prog := c.W.prog) (w := c.W.w) ok.rm.hd (N + 4) (N + 2) (N + 3) N (N + 1) l1 l2 D xs ys
  rw [hn1, hn2] at W
  have none0 : ∀ b, N ≤ b → s.heap.get? b = none := fun b hb => none_of_kp kk (Heap.get?_none_of_le (by rw [hN]; exact hb))
  have inL : ∀ l o, s2.heap.get? l = some o → SeqO o → c.P l → s.heap.get? l = none ∨ ∃ o, s.heap.get? l = some o ∧ SeqO o ∧ c.P l := fun l o e q pl => by
    cases z : s.heap.get? l with
    | none => exact .inl rfl
    | some o' =>
      have := kk.stays l o' z
      rw [e] at this; cases this
      exact .inr ⟨o, rfl, q, pl⟩
  refine wpAny_pyIter_zip hz ⟨kp_refl _, _, _, _, _, _, rfl, Wk.tuples W, ⟨hz, hTI, ⟨_, _, hTO⟩, hi1, hi2, hL1.at fun o e => hk _ o e, hL2.at fun o e => hk _ o e⟩, ?_, ?_, ?_, ?_, ?_⟩
  · exact all7 (p := fun b => b < h'.objs.size) z5.2.2.2.2 z5.2.2.1 z5.2.2.2.1 z5.1 z5.2.1 (Nat.lt_trans lt1 z5.1) (Nat.lt_trans lt2 z5.1)
  · exact all4 (none0 _ (Nat.le_add_right _ _)) (none0 _ (Nat.le_add_right _ _)) (none0 _ (Nat.le_refl _)) (none0 _ (Nat.le_add_right _ _))
  · exact all7 (.inl (none0 _ (Nat.le_add_right _ _))) (.inl (none0 _ (Nat.le_add_right _ _))) (.inl (none0 _ (Nat.le_add_right _ _))) (.inl (none0 _ (Nat.le_refl _))) (.inl (none0 _ (Nat.le_add_right _ _)))
      (inL _ _ ho1 ⟨_, _, hd1⟩ pl1) (inL _ _ ho2 ⟨_, _, hd2⟩ pl2)
  · intro i h hst
    obtain ⟨g1, _, ⟨a, b', g2⟩, g3, g4, _⟩ := hst
    obtain ⟨o3, x3, y3⟩ := listiter_ns g3
    obtain ⟨o4, x4, y4⟩ := listiter_ns g4
    exact all4 ⟨_, g1, fun q => by cases q⟩ ⟨_, g2, fun q => by cases q⟩ ⟨o3, x3, fun q => by cases q⟩ ⟨o4, x4, fun q => by cases q⟩
  · intro i v h h'' hi hPv Pp hnew hkeep
    obtain ⟨T, vals, rfl, hT0, hT, x, y, hx, hy, rfl⟩ := hPv
    have old : ∀ {d : Mine.D} {u : Value}, Rep c.P s2.heap d u → Rep Pp h'' d u := fun r => r.mono fun a o pa ha hs => hkeep a o pa (hk a o ha) hs fun hw => by
      have := Heap.lt_size ha
      rw [hN] at this
      have nn := not_new this
      exact all4 (p := fun x => a ≠ x) nn.2.2.2.2 nn.2.2.2.1 nn.1 nn.2.1 a hw rfl
    obtain ⟨d1, hd1, rd1⟩ := rl1.at' (i := i) (v := x) (by simpa using hx)
    obtain ⟨d2, hd2, rd2⟩ := rl2.at' (i := i) (v := y) (by simpa using hy)
    refine rep_tup.mpr ⟨T, _, rfl, hnew T hT0, hT, repL_cons.mpr ⟨_, _, rfl, ?_, repL_cons.mpr ⟨_, [], rfl, ?_, repL_nil.mpr rfl⟩⟩⟩
    · rw [getD_some _ hd1]; exact old rd1
    · rw [getD_some _ hd2]; exact old rd2⟩
end
end Mine
end

section
open PySem PySem.W PyProof.Rows PySem.Calls
namespace Mine
section
variable {c : Cx} {n : Nat} {ρ κ : Loc} {lam cell a N md f0 f1 f2 f3 f4 f5 : Addr}
theorem keeps_cls (K : KOk c lam cell a N md f0 f1 f2 f3 f4 f5) : Keepers c (.ref a) := fun h x => by
  obtain ⟨Kf, X, F⟩ := kat_frag (K.KA.keep x.keep)
  refine keeps_K (K := Kf) ?_ h X
  obtain ⟨bT, tn, tq, e⟩ := F.cls
  unfold keepIn
  dsimp only
  rw [e]
  dsimp only
  unfold specialIn typeIn
  dsimp only
  rw [e]
  kernel_rfl
theorem ev_key {f e : Expr} {pos : Pos} {d : D} (ok : c.Ok (n + 2)) (K : KOk c lam cell a N md f0 f1 f2 f3 f4 f5) (hf : Ev c ρ κ f (.val (.ref a))) (he : EvL c ρ κ [e] [d])
    (hc : eval (.Call f [e] [] pos) c.env = (do callWith pos (← eval f c.env) [] (backTo pos (starEach [e] c.env)) (backToKw pos (keywordEach [] c.env))) := by rfl)
    (hp : ∃ x r, backTo pos (starEach [e] c.env) = (false, x) :: r := by exact ⟨_, _, rfl⟩) (hq : (backTo pos (starEach [e] c.env)).any (·.1) = false := by rfl) :
    ∀ s, FrD c ρ κ s.heap → wpAny c.W.M c.A (eval (.Call f [e] [] pos) c.env) (fun v s' => ∃ y u, v = .ref y ∧ Kp s s' ∧ InstF s.heap s'.heap a y u ∧ Rep c.P s'.heap d u) NoE s := fun s F => by
  rw [hc]
  refine wpAny_bind (noE (hf.go s F) fun v s1 ⟨k1, r1⟩ => ?_)
  obtain rfl := rep_val.mp r1
  refine callWith_of (P := fun h => St c h) (by show ((backTo pos (starEach [e] c.env)).any (·.1) || false) = false; rw [hq]; rfl) (keeps_cls K) ?_
  refine noE (evalArgs_D he (F.on k1.stays) hp) fun a s2 ⟨e, k2, r2⟩ => ⟨((F.on k1.stays).on k2.stays).toSt, ?_⟩
  rw [e]
  obtain ⟨v, r', e2, r3, r4⟩ := repL_cons.mp r2
  obtain rfl := repL_nil.mp r4
  rw [e2]
  refine noE (call_KF ok ((F.on k1.stays).on k2.stays).toSt K.KA v) fun r s3 ⟨k3, y, e3, dx, g1, g2, g3, g4⟩ => ?_
  have kk := k1.trans k2
  exact ⟨y, v, e3, kk.trans k3, ⟨dx, g1, g2, none_of_kp kk g3, none_of_kp kk g4⟩, r3.keep k3.stays⟩
theorem hidden_ns {c : Cx} {ρ κ : Loc} {h : Heap} (F : FrD c ρ κ h) (hnd : ∀ p ∈ c.env.cells, c.env.cells.lookup p.1 = some p.2) {b : Addr} (hb : b ∈ hidden c) : ∃ o, h.get? b = some o ∧ ¬ SeqO o := by
  rcases List.mem_cons.mp hb with rfl | hb
  · obtain ⟨m, hn, _⟩ := F.loc
    obtain ⟨o, es, ep, ho, _⟩ := id hn
    exact ⟨o, ho, ns_not_seq hn o ho⟩
  · obtain ⟨p, hp, rfl⟩ := List.mem_map.mp hb
    obtain ⟨o, vo, h1, h2, _⟩ := F.cel p.1 p.2 (hnd p hp)
    exact ⟨o, h1, fun ⟨vs, n, q⟩ => by rw [h2] at q; cases q⟩
theorem x_keys {e1 e2 g1 g2 : Expr} {px1 px2 px3 px4 tp vp spos : Pos} {x1 x2 x3 x4 : Str} {k1 k2 : Nat} {rest : List Stmt} {Q : Flow → Shared → Prop} {d1 d2 d3 d4 : D} (ok : c.Ok (n + 2)) (ow : OwnL c) (oc : OwnC c) (hnd : ∀ p ∈ c.env.cells, c.env.cells.lookup p.1 = some p.2)
    (K : KOk c lam cell a N md f0 f1 f2 f3 f4 f5)
    (h1 : ∀ s, FrD c ρ κ s.heap → wpAny c.W.M c.A (eval e1 c.env) (fun v s' => ∃ y u, v = .ref y ∧ Kp s s' ∧ InstF s.heap s'.heap a y u ∧ Rep c.P s'.heap d1 u) NoE s)
    (h2 : ∀ s, FrD c ρ κ s.heap → wpAny c.W.M c.A (eval e2 c.env) (fun v s' => ∃ y u, v = .ref y ∧ Kp s s' ∧ InstF s.heap s'.heap a y u ∧ Rep c.P s'.heap d2 u) NoE s)
    (h3 : EvL c ρ κ [g1, g2] [d3, d4]) (hd1 : ∃ l, d1 = .list l) (hd2 : ∃ l, d2 = .list l)
    (hk1 : c.env.kindOf x1 = some .local) (hk2 : c.env.kindOf x2 = some .local) (hk3 : c.env.kindOf x3 = some .local) (hk4 : c.env.kindOf x4 = some .local)
    (hs1 : starEach [e1, e2, g1, g2] c.env = (false, eval e1 c.env) :: starEach [e2, g1, g2] c.env) (hs2 : starEach [e2, g1, g2] c.env = (false, eval e2 c.env) :: starEach [g1, g2] c.env)
    (hsw : swapsWithSole [.Tuple [.Name x1 px1, .Name x2 px2, .Name x3 px3, .Name x4 px4] k1 tp] (.Tuple [e1, e2, g1, g2] k2 vp) spos.line c.env = pure false)
    (hss : swappedStores [.Tuple [.Name x1 px1, .Name x2 px2, .Name x3 px3, .Name x4 px4] k1 tp] (.Tuple [e1, e2, g1, g2] k2 vp) c.env = pure none)
    (h : ∀ y z h', Stays c.h₀ h' → (c.at h').Ok (n + 2) → OwnL (c.at h') → OwnC (c.at h') → Held (c.at h') a y d1 → Held (c.at h') a z d2 → Xs (c.at h') ((x4, d4) :: (x3, d3) :: (x2, .val (.ref z)) :: (x1, .val (.ref y)) :: ρ) κ rest Q) :
    Xs c ρ κ (.Assign [.Tuple [.Name x1 px1, .Name x2 px2, .Name x3 px3, .Name x4 px4] k1 tp] (.Tuple [e1, e2, g1, g2] k2 vp) spos :: rest) Q := ⟨fun s F b => by
  refine wpAny_execs_cons (Assign_Tuple (Tuple_ ?_) hsw hss)
  refine args_cons (noE (h1 s F) fun v1 s1 ⟨y, u1, ey, kA, iA, rA⟩ => ?_) hs1
  have F1 := F.on kA.stays
  refine args_cons (noE (h2 s1 F1) fun v2 s2 ⟨z, u2, ez, kB, iB, rB⟩ => ?_) hs2
  have F2 := F1.on kB.stays
  subst ey; subst ez
  refine noE (h3.go vp s2 F2) fun vs s3 ⟨kC, rC⟩ => ?_
  have F3 := F2.on kC.stays
  refine noE (newTuple_D (ds := [.val (.ref y), .val (.ref z), d3, d4]) F3.toSt (repL_cons.mpr ⟨_, _, rfl, rep_val.mpr rfl, repL_cons.mpr ⟨_, _, rfl, rep_val.mpr rfl, rC⟩⟩) (by simp)) fun tv s4 ⟨kD, rD⟩ => ?_
  have F4 := F3.on kD.stays
  have asg := asg_tuple (c := c) (ρ := ρ) (κ := κ) (k := k1) (px := tp) (d := .tup [.val (.ref y), .val (.ref z), d3, d4]) (ds := [.val (.ref y), .val (.ref z), d3, d4]) (elts := [.Name x1 px1, .Name x2 px2, .Name x3 px3, .Name x4 px4]) hasT_tup PySem.F.slot_tuple_iter (itr_tup ok)
    (fun j hj => by rw [List.getD_eq_getElem?_getD, List.getElem?_eq_getElem hj]; rfl) rfl rfl
    (asgL_cons (asg_loc ok ow hk1) (fun h o b F hb e => locals_not_seq F hb e) (asgL_cons (asg_loc ok ow hk2) (fun h o b F hb e => locals_not_seq F hb e) (asgL_cons (asg_loc ok ow hk3) (fun h o b F hb e => locals_not_seq F hb e) (asgL_cons (asg_loc ok ow hk4) (fun h o b F hb e => locals_not_seq F hb e) asgL_nil))))
  refine noE (asg s4 tv F4 rD) fun _ s5 ⟨F5, ⟨h5, t5, e5⟩, x5⟩ => ?_
  have b5 : From c s5 := by rw [e5]; exact ((((b.on kA).on kB).on kC).on kD).set h5 t5
  have hid : ∀ {g : Addr}, s.heap.get? g = none → g ∉ hidden c := fun hn hm => by
    obtain ⟨o, ho, _⟩ := hidden_ns F hnd hm
    rw [hn] at ho; cases ho
  have up : ∀ {s' : Shared} {g : Addr} {o : Obj}, s.heap.get? g = none → Kp s' s4 → s'.heap.get? g = some o → (hideAll s5.heap (hidden c)).get? g = some o := fun hn kk e =>
    hideAll_get _ (x5 _ _ (fun hm => hid hn (by rw [List.mem_singleton.mp hm]; exact .head _)) (kk.stays _ _ e)) (hid hn)
  have kB4 := kC.trans kD
  have kA4 := kB.trans kB4
  obtain ⟨dx, a1, a2, a3, a4⟩ := iA
  obtain ⟨dz, z1, z2, z3, z4⟩ := iB
  have z3' := none_of_kp kA z3
  have z4' := none_of_kp kA z4
  have rep : ∀ {s' : Shared} {d : D} {u : Value}, Kp s' s4 → Rep c.P s'.heap d u → Rep c.P (hideAll s5.heap (hidden c)) d u := fun {s' d u} kk r => Rep.mono (fun g o pg e q => by
    refine ⟨pg, hideAll_get _ (x5 g o (fun hm => ?_) (kk.stays _ _ e)) fun hm => ?_⟩
    · obtain ⟨m, hn, _⟩ := F4.loc
      rw [List.mem_singleton.mp hm] at e
      exact ns_not_seq hn _ (kk.stays _ _ e) q
    · obtain ⟨o', ho, hq⟩ := hidden_ns F4 hnd hm
      rw [kk.stays _ _ e] at ho; cases ho; exact hq q) r
  have hin : ∀ {d : D} {u : Value} {h : Heap}, (∃ l, d = .list l) → Rep c.P h d u → handedIn u = true := fun {d u h} ⟨l, e⟩ r => by
    subst e
    obtain ⟨q, _, rfl, _⟩ := rep_list.mp r
    rfl
  refine (h y z _ (hid_keep ow oc F5.keep) (hid_ok ok ow oc F5.keep) hid_own (hid_ownC oc) ⟨u1, ⟨dx, up a3 kA4 a1, up a4 kA4 a2⟩, rep kA4 rA, hin hd1 rA⟩ ⟨u2, ⟨dz, up z3' kB4 z1, up z4' kB4 z2⟩, rep kB4 rB, hin hd2 rB⟩).go s5 (hid_fr F5) b5⟩
end
end Mine
end

section
open PySem PySem.W PyProof.Rows PySem.Calls
namespace Mine
noncomputable abbrev bools (bs : List Bool) : D := .list (bs.map bo)
theorem scan_true (sz : Bool) : ∀ k i, scan (fun _ => true) (fun _ => true) sz k i = sz
  | 0, _ => rfl
  | k + 1, i => by unfold scan; rw [if_pos rfl]; exact scan_true sz k (i + 1)
theorem repL_bools {P : Addr → Prop} {h : Heap} : ∀ {bs : List Bool} {vs : List Value}, RepL P h (bs.map bo) vs → vs = bs.map Value.bool
  | [], vs, r => by rw [repL_nil.mp r]; rfl
  | b :: bs, vs, r => by
    obtain ⟨v, r', rfl, r1, r2⟩ := repL_cons.mp r
    rw [rep_val.mp r1, repL_bools r2]; rfl
theorem ne_bools {c : Cx} {n : Nat} (ok : c.Ok n) (bs : List Bool) : Op2 c (compareOp .NotEq) (bools bs) (bools bs) (bo false) := fun s v1 v2 x r1 r2 => by
  obtain ⟨l, items, rfl, _, hl, rl⟩ := rep_list.mp r1
  obtain ⟨m, items2, rfl, _, hb, rb⟩ := rep_list.mp r2
  have e1 := repL_bools rl
  have e2 := repL_bools rb
  have e3 : items = items2 := Array.toList_inj.mp (e1.trans e2.symm)
  subst e3
  have hu := ok.rm.un
  have key := rc_ne (A := c.A) (fun _ => true) hl hb rfl (by show c.A.units < 9900; omega) fun j h1 h2 => PySem.SeqAt.EqAt.same _
  rw [scan_true] at key
  refine key _ _ _ _ ⟨kp_refl s, rep_val.mpr ?_⟩
  simp
theorem op_is_bool {c : Cx} {b : Bool} : Op2 c (compareOp .Is) (bo b) (bo b) (bo true) := fun s v1 v2 _ r1 r2 => by
  obtain rfl := rep_val.mp r1; obtain rfl := rep_val.mp r2
  exact wpAny_is_self (by cases b <;> rfl) ⟨kp_refl s, rep_val.mpr rfl⟩
theorem cmpNum_bools (a b : List (List Nat)) : [decide (cmpNum a b < 0), decide (cmpNum a b > 0), (cmpNum a b == 0), decide (cmpNum a b ≤ 0), decide (cmpNum a b ≥ 0)] =
    [ans .Lt (ordP a b), ans .Gt (ordP a b), ans .Eq (ordP a b), ans .LtE (ordP a b), ans .GtE (ordP a b)] := by
  unfold cmpNum
  cases ordP a b <;> rfl
section
variable {W : Wd} {A : Around} {Lf fa : Addr} {h : Heap} {P : Addr → Prop} {b0 : Shared} {n : Nat} {ρ κ : Loc} {lam cell a N md f0 f1 f2 f3 f4 f5 : Addr} {ps : List (List (List Nat))} {rs : List (List (List Sg))} {rest : List Stmt} {Q : Flow → Shared → Prop}
theorem l_if (ok : (lawC W A Lf fa h P b0).Ok n) {b1 b2 b3 b4 b5 : Bool} (hs : ρ.lookup ("said" : Str) = some (bools [b1, b2, b3, b4, b5])) (hd : ρ.lookup ("due" : Str) = some (bools [b1, b2, b3, b4, b5])) (hr : Xs (lawC W A Lf fa h P b0) ρ κ rest Q) :
    Xs (lawC W A Lf fa h P b0) ρ κ ((forBody (lawS W.w.params 3)).getD 3 (.Pass ⟨0, 0, 0, 0⟩) :: rest) Q := by
  have ev : Ev (lawC W A Lf fa h P b0) ρ κ (cmpLeft (ifTest ((forBody (lawS W.w.params 3)).getD 3 (.Pass ⟨0, 0, 0, 0⟩)))) (bools [true, true, true, true, true]) := by
    refine ev_comp (st := false) (κ' := []) (N := min 5 5) (it := fun i => .tup [([b1, b2, b3, b4, b5].map bo).getD i dNone, ([b1, b2, b3, b4, b5].map bo).getD i dNone]) (p := fun _ => true) (g := fun _ => bo true) (ρi := fun i => [("other", ([b1, b2, b3, b4, b5].map bo).getD i dNone), ("one", ([b1, b2, b3, b4, b5].map bo).getD i dNone)]) ok
      (evI_zip ok (Bl ok g_zip bt_zip) (evL_cons (L ok (hx := hs)) (evL_cons (L ok (hx := hd)) evL_nil)))
      (by decide) (cl := []) rfl (by decide) rfl (by decide) (fun _ => rfl) subA_nil sub_nil (fun C P' i hi ok ow => ?_) (fun C P' i hi ok => evIfs_nil) (fun C P' i hi _ ok => ?_)
    · refine asg_tuple (ds := [([b1, b2, b3, b4, b5].map bo).getD i dNone, ([b1, b2, b3, b4, b5].map bo).getD i dNone]) hasT_tup PySem.F.slot_tuple_iter (itr_tup ok) (fun j hj => ?_) rfl rfl (asgL_cons (asg_loc ok ow rfl) (fun h o b F hb e => locals_not_seq F hb e) (asgL_cons (asg_loc ok ow rfl) (fun h o b F hb e => locals_not_seq F hb e) asgL_nil))
      rw [List.getD_eq_getElem?_getD, List.getElem?_eq_getElem hj]; rfl
    · have e : ([b1, b2, b3, b4, b5].map bo).getD i dNone = bo ([b1, b2, b3, b4, b5].getD i true) := getD_map' dNone true (by simpa using hi)
      refine ev_cmp (d1 := bo ([b1, b2, b3, b4, b5].getD i true)) (d2 := bo ([b1, b2, b3, b4, b5].getD i true)) ?_ ?_ op_is_bool
      · rw [← e]; exact L ok
      · rw [← e]; exact L ok
  exact x_if (q := false) (evB_cmp ev (ev_listD (evL_cons ev_bool (evL_cons ev_bool (evL_cons ev_bool (evL_cons ev_bool (evL_cons ev_bool evL_nil))))) (by decide)) (ne_bools ok _)) (fun e => nomatch e) (fun _ => x_fall hr)
end
end Mine
end

section
open PySem PySem.W PyProof.Rows PySem.Calls
namespace Mine
section
variable {W : Wd} {A : Around} {Lf fa : Addr} {h : Heap} {P : Addr → Prop} {b0 : Shared} {n : Nat} {ρ κ : Loc} {lam cell a N md f0 f1 f2 f3 f4 f5 : Addr} {ps : List (List (List Nat))} {rs : List (List (List Sg))} {rest : List Stmt} {Q : Flow → Shared → Prop}
theorem alike_R (a b : List (List Sg)) : Alike (encR a) (encR b) := by unfold Alike; exact alike_rw a b
theorem dep_R (a : List (List Sg)) : dep (encR a) ≤ 10 := by unfold dep; have := dep_rw a; omega
theorem rows_at {rs : List (List (List Sg))} {i : Nat} (hi : i < rs.length) : (rs.map encR)[i]? = some (encR (rs.getD i [])) := by
  rw [List.getElem?_map, List.getElem?_eq_getElem hi, List.getD_eq_getElem?_getD, List.getElem?_eq_getElem hi]; rfl
set_option maxHeartbeats 0 in
theorem k_turn (ok : (lawC W A Lf fa h P b0).Ok (n + 12)) (ow : OwnL (lawC W A Lf fa h P b0)) (oc : OwnC (lawC W A Lf fa h P b0)) (K : KOk (lawC W A Lf fa h P b0) lam cell a N md f0 f1 f2 f3 f4 f5) (hl : LamF W h lam (lam1 W.w.params) []) (R : Rows2 ps rs) {i : Nat} (hi : i < ps.length)
    (hkey : ρ.lookup ("key" : Str) = some (.val (.ref a))) (hth : ρ.lookup ("things" : Str) = some (.list (things ps))) (hk : ρ.lookup ("k" : Str) = some (.int i)) (hy : κ.lookup ("rows" : Str) = some (.list (rs.map encR)))
    (hs : Sub ρ ρ) :
    Xs (lawC W A Lf fa h P b0) ρ κ (forBody (lawS W.w.params 3)) (fun f s' => f = .next ∧ FrD (lawC W A Lf fa h P b0) [("things", .list (things ps)), ("key", .val (.ref a))] [("rows", .list (rs.map encR))] s'.heap ∧ From (lawC W A Lf fa h P b0) s') := by
  have h2 := R.ok.two
  have h64 := R.ok.few
  have hlen := R.len
  have tl : (things ps).length = ps.length := by simp [things]
  have cr := clos_rows W A Lf fa h P b0
  have kr := (kind_law W A Lf fa h P b0).1
  have eo : ordP (ps.getD i []) (ps.getD 0 []) = cmpd (encR (rs.getD i [])) (encR (rs.getD 0 [])) := R.ord i 0 hi (by omega)
  have eb := cmpNum_bools (ps.getD i []) (ps.getD 0 [])
  rw [eo] at eb
  refine x_keys (n := n + 10) (d1 := thing ps i) (d2 := thing ps 0) (d3 := encR (rs.getD i [])) (d4 := encR (rs.getD 0 [])) ok ow oc (law_nd W A Lf fa h P b0) K
    (ev_key (n := n + 10) ok K (L ok (hx := hkey)) (evL_cons (ev_sub (d1 := .list (things ps)) (L ok (hx := hth)) (L ok (hx := hk)) hasT_list PySem.slot_list_getitem.lookup (op_item_list (by omega) (by simpa using things_get hi) (by omega))) evL_nil))
    (ev_key (n := n + 10) ok K (L ok (hx := hkey)) (evL_cons (ev_sub (d1 := .list (things ps)) (L ok (hx := hth)) ev_int hasT_list PySem.slot_list_getitem.lookup (op_item_list (by omega) (by simpa using things_get (ps := ps) (i := 0) (by omega)) (by omega))) evL_nil))
    (evL_cons (ev_sub (d1 := .list (rs.map encR)) (Cl (a := Lf + 3) ok cr kr hy) (L ok (hx := hk)) hasT_list PySem.slot_list_getitem.lookup (op_item_list (by omega) (by simpa using rows_at (rs := rs) (i := i) (by omega)) (by rw [List.length_map]; omega)))
      (evL_cons (ev_sub (d1 := .list (rs.map encR)) (Cl (a := Lf + 3) ok cr kr hy) ev_int hasT_list PySem.slot_list_getitem.lookup (op_item_list (by omega) (by simpa using rows_at (rs := rs) (i := 0) (by omega)) (by rw [List.length_map]; omega))) evL_nil))
    ⟨_, rfl⟩ ⟨_, rfl⟩ rfl rfl rfl rfl rfl rfl (by kernel_rfl) (by kernel_rfl) fun y z h' k' ok' ow' oc' H1 H2 => ?_
  have K' : KOk (lawC W A Lf fa h' P b0) lam cell a N md f0 f1 f2 f3 f4 f5 := K.at rfl k'
  have hc : CmpAt (lawC W A Lf fa h' P b0) (n + 11) lam (thing ps i) (thing ps 0) (cmpNum (ps.getD i []) (ps.getD 0 [])) := cmpAt_things (c := lawC W A Lf fa h' P b0) (n := n + 3) (hl.keep k') R.ok hi (by omega)
  have ok2 : (lawC W A Lf fa h' P b0).Ok (n + 12) := ok'
  refine x_asg (c := lawC W A Lf fa h' P b0) (x := "said") (d := bools [ans .Lt (cmpd (encR (rs.getD i [])) (encR (rs.getD 0 []))), ans .Gt (cmpd (encR (rs.getD i [])) (encR (rs.getD 0 []))), ans .Eq (cmpd (encR (rs.getD i [])) (encR (rs.getD 0 []))), ans .LtE (cmpd (encR (rs.getD i [])) (encR (rs.getD 0 []))), ans .GtE (cmpd (encR (rs.getD i [])) (encR (rs.getD 0 [])))]) ok2 ow' rfl ?_ ?_
  · rw [← eb]
    exact ev_listD (evL_cons (ev_cmp (L ok2) (L ok2) (opK_lt (n := n + 11) ok2 K' H1 H2 hc)) (evL_cons (ev_cmp (L ok2) (L ok2) (opK_gt (n := n + 11) ok2 K' H1 H2 hc)) (evL_cons (ev_cmp (L ok2) (L ok2) (opK_eq (n := n + 11) ok2 K' H1 H2 hc)) (evL_cons (ev_cmp (L ok2) (L ok2) (opK_le (n := n + 11) ok2 K' H1 H2 hc)) (evL_cons (ev_cmp (L ok2) (L ok2) (opK_ge (n := n + 11) ok2 K' H1 H2 hc)) evL_nil))))) (by simp)
  refine x_asg (c := lawC W A Lf fa h' P b0) (x := "due") (d := bools [ans .Lt (cmpd (encR (rs.getD i [])) (encR (rs.getD 0 []))), ans .Gt (cmpd (encR (rs.getD i [])) (encR (rs.getD 0 []))), ans .Eq (cmpd (encR (rs.getD i [])) (encR (rs.getD 0 []))), ans .LtE (cmpd (encR (rs.getD i [])) (encR (rs.getD 0 []))), ans .GtE (cmpd (encR (rs.getD i [])) (encR (rs.getD 0 [])))]) ok2 ow' rfl ?_ ?_
  · exact ev_listD (evL_cons (ev_cmp (L ok2) (L ok2) (op_rlt ok2 (dep_R _) (alike_R _ _))) (evL_cons (ev_cmp (L ok2) (L ok2) (op_rgt ok2 (dep_R _) (alike_R _ _))) (evL_cons (ev_cmp (L ok2) (L ok2) (op_req ok2 (dep_R _) (alike_R _ _))) (evL_cons (ev_cmp (L ok2) (L ok2) (op_rle ok2 (dep_R _) (alike_R _ _))) (evL_cons (ev_cmp (L ok2) (L ok2) (op_rge ok2 (dep_R _) (alike_R _ _))) evL_nil))))) (by simp)
  refine l_if (n := n + 12) ok2 rfl rfl (x_nil fun s F b => ⟨rfl, (F.base (c := lawC W A Lf fa h P b0) (h₀ := h') k').weak (sub_cons (by exact hth) (sub_cons (by exact hkey) sub_nil)) (sub_cons hy sub_nil), b⟩)
end
end Mine
end

section
open PySem PySem.W PyProof.Rows PySem.Calls
namespace Mine
theorem Xs.mono {c : Cx} {ρ κ : Loc} {ss : List Stmt} {Q Q' : Flow → Shared → Prop} (h : Xs c ρ κ ss Q) (hq : ∀ f s, Q f s → Q' f s) : Xs c ρ κ ss Q' := ⟨fun s F b => noE (h.go s F b) hq⟩
noncomputable def FinQ (c : Cx) : Flow → Shared → Prop := fun f s => f = .ret (.bool true) ∧ From c s ∧ Stays c.h₀ s.heap ∧ (∃ ps, s.heap.get? 23 = some (tabObj ps)) ∧ (∃ ps, s.heap.get? 213 = some (tabObj ps))
section
variable {W : Wd} {A : Around} {Lf fa : Addr} {h h0 : Heap} {P : Addr → Prop} {b0 : Shared} {n : Nat} {ρ κ : Loc} {lam cell a N md f0 f1 f2 f3 f4 f5 : Addr} {ps : List (List (List Nat))} {rs : List (List (List Sg))}
set_option maxHeartbeats 0 in
theorem k_loop (ok0 : (lawC W A Lf fa h0 P b0).Ok (n + 12)) (ow0 : OwnL (lawC W A Lf fa h0 P b0)) (oc0 : OwnC (lawC W A Lf fa h0 P b0)) (K : KOk (lawC W A Lf fa h0 P b0) lam cell a N md f0 f1 f2 f3 f4 f5) (hl : LamF W h0 lam (lam1 W.w.params) []) (R : Rows2 ps rs) (h3 : 2 < ps.length)
    (h23 : ∃ t, h0.get? 23 = some (tabObj t)) {s : Shared} (hth : ρ.lookup ("things" : Str) = some (.list (things ps))) (hkey : ρ.lookup ("key" : Str) = some (.val (.ref a))) (hy : κ.lookup ("rows" : Str) = some (.list (rs.map encR)))
    (F : FrD (lawC W A Lf fa h0 P b0) ρ κ s.heap) (b : From (lawC W A Lf fa h0 P b0) s) (h213 : ∃ t, s.heap.get? 213 = some (tabObj t)) :
    wpAny W.M A (execs [lawS W.w.params 3, lawS W.w.params 4] (lawC W A Lf fa h0 P b0).env) (FinQ (lawC W A Lf fa h0 P b0)) NoE s := by
  have hlen := R.len
  have h64 := R.ok.few
  obtain ⟨t213, h213⟩ := h213
  obtain ⟨t23, h23⟩ := h23
  have T1 : (hideAll s.heap (hidden (lawC W A Lf fa h0 P b0))).get? 213 = some (tabObj t213) := hideAll_get _ h213 fun hm => by
    obtain ⟨o', g1, g2⟩ := hidden_at F (law_nd W A Lf fa h0 P b0) hm
    rw [h213] at g1; cases g1; exact g2 ⟨_, rfl⟩
  show wpAny (lawC W A Lf fa h0 P b0).W.M (lawC W A Lf fa h0 P b0).A (execs [lawS W.w.params 3, lawS W.w.params 4] (lawC W A Lf fa h0 P b0).env) (FinQ (lawC W A Lf fa h0 P b0)) NoE s
  with_reducible refine x_hold (c := lawC W A Lf fa h0 P b0) ok0 ow0 oc0 F b ?_
  intro ok ow
  have oc : OwnC (lawC W A Lf fa (hideAll s.heap (hidden (lawC W A Lf fa h0 P b0))) P b0) := hid_ownC (c := lawC W A Lf fa h0 P b0) oc0
  have k01 : Stays h0 (hideAll s.heap (hidden (lawC W A Lf fa h0 P b0))) := hid_keep ow0 oc0 F.keep
  generalize hH : hideAll s.heap (hidden (lawC W A Lf fa h0 P b0)) = h1 at *
  have ok1 : (lawC W A Lf fa h1 P b0).Ok (n + 12) := ok
  have e2 : D.tup [.int (2 : Int), .int ((rs.length : Int) - 1)] = .tup [.int ((2 : Nat) : Int), .int ((rs.length - 1 : Nat) : Int)] := by
    have : (rs.length : Int) - 1 = ((rs.length - 1 : Nat) : Int) := by omega
    rw [this]; rfl
  refine x_for (c := lawC W A Lf fa h1 P b0) (n := n + 12) (N := 2) (it := fun i => [D.int ((2 : Nat) : Int), D.int ((rs.length - 1 : Nat) : Int)].getD i dNone) (fun _ => [("things", .list (things ps)), ("key", .val (.ref a))]) (fun _ => [("rows", .list (rs.map encR))])
    (fun i => [("k", [D.int ((2 : Nat) : Int), D.int ((rs.length - 1 : Nat) : Int)].getD i dNone), ("things", .list (things ps)), ("key", .val (.ref a))]) (fun _ => [("rows", .list (rs.map encR))]) (ws := [Lf]) ok1 ow oc (law_nd W A Lf fa h1 P b0)
    (evI_of (src := .tup [.int ((2 : Nat) : Int), .int ((rs.length - 1 : Nat) : Int)]) (by
      rw [← e2]
      exact ev_tupD (evL_cons ev_int (evL_cons (ev_bin (ev_call (Bl ok1 g_len bt_len) (evL_cons (Cl (a := Lf + 3) ok1 (clos_rows W A Lf fa h1 P b0) (kind_law W A Lf fa h1 P b0).1 hy) evL_nil) keeps_blt (c_len_map (f := encR) (l := rs) (by omega))) ev_int op_sub_int) evL_nil)) (by simp)) (itr_tup ok1))
    (fun _ => rfl) (sub_cons hth (sub_cons hkey sub_nil)) (sub_cons hy sub_nil) (fun b hb => by rw [List.mem_singleton.mp hb]; exact .head _)
    (fun h i hi okh owh och => asg_loc okh owh (by rfl)) (fun h i hi okh owh och k => ?_) ?_
  · have hi2 : ∃ kv, kv < ps.length ∧ [D.int ((2 : Nat) : Int), D.int ((rs.length - 1 : Nat) : Int)].getD i dNone = .int (kv : Nat) := by
      match i, hi with
      | 0, _ => exact ⟨2, h3, rfl⟩
      | 1, _ => exact ⟨rs.length - 1, by omega, rfl⟩
    obtain ⟨kv, hkv, e⟩ := hi2
    have kk : Stays h0 h := fun b o e => k _ _ (k01 _ _ e)
    have turn := k_turn (h := h) (ρ := [("k", [D.int ((2 : Nat) : Int), D.int ((rs.length - 1 : Nat) : Int)].getD i dNone), ("things", .list (things ps)), ("key", .val (.ref a))]) (κ := [("rows", .list (rs.map encR))]) okh owh och (K.at rfl kk) (hl.keep kk) R hkv rfl rfl (by show some _ = _; rw [e]) rfl (fun _ _ e => e)
    refine Xs.mono turn ?_
    intro f s' ⟨e, F', b'⟩
    subst e; exact ⟨F', b'⟩
  · exact x_ret ev_bool fun v s F b r => by
      rw [rep_val.mp r]
      exact ⟨rfl, b, fun b o e => F.keep _ _ (k01 _ _ e), ⟨t23, F.keep _ _ (k01 _ _ h23)⟩, ⟨t213, F.keep _ _ T1⟩⟩
end
end Mine
end

section
open PySem PySem.W PyProof.Rows PySem.Calls
namespace Mine
theorem op_add_list {c : Cx} {a b : List D} (hl : a.length + b.length ≤ 1000) : Op2 c (binaryOp .Add) (.list a) (.list b) (.list (a ++ b)) := fun s v1 v2 x r1 r2 => by
  obtain ⟨l, items, rfl, _, h1, rl⟩ := rep_list.mp r1
  obtain ⟨m, items2, rfl, _, h2, rb⟩ := rep_list.mp r2
  obtain ⟨⟨cls, dd, data, sl⟩, ho, hc, n, hd⟩ := id h1
  obtain ⟨⟨cls2, dd2, data2, sl2⟩, ho2, hc2, n2, hd2⟩ := id h2
  simp only at hc hd hc2 hd2
  subst hc hd hc2 hd2
  have z1 : items.size = a.length := by rw [← rl.length]; simp
  have z2 : items2.size = b.length := by rw [← rb.length]; simp
  refine concat_meets ⟨_, ho, rfl⟩ ⟨_, ho2, rfl⟩ noFill_list_add seq_list_add PySem.F.slot_list_add PySem.F.entry_list_add (PySem.F.args_list_add_2 _ _) (list_addW l m items items2 n n2 dd dd2 sl sl2 (by rw [sizeLine_eq]; omega)) ⟨ho, ho2, ?_⟩
  refine ⟨kp_heap s (stays_push _ _), rep_list.mpr ⟨_, items ++ items2, rfl, x.new.at, ⟨_, Heap.get?_push_size _ rfl, rfl, _, rfl⟩, ?_⟩⟩
  rw [Array.toList_append]
  exact ((rl.keep (stays_push _ _)).append (rb.keep (stays_push _ _)))
theorem FrD.tabA {c : Cx} {ρ κ : Loc} {h h' : Heap} {T : Addr} (F : FrD c ρ κ h) (k : Heap.ExtBut T h h') (h0 : c.h₀.get? T = none) (t : ∃ ps, h.get? T = some (tabObj ps)) (t' : ∃ ps, h'.get? T = some (tabObj ps)) : FrD c ρ κ h' where
  keep := fun b o e => k _ _ (fun q => by rw [q, h0] at e; cases e) (F.keep b o e)
  new := fun b e => F.new b (by
    cases q : h.get? b with
    | none => rfl
    | some o =>
      by_cases z : b = T
      · obtain ⟨ps, ht⟩ := t'
        rw [z, ht] at e; cases e
      · rw [k _ _ z q] at e; cases e)
  loc := by
    obtain ⟨ps, ht⟩ := t
    obtain ⟨m, hn, hm⟩ := F.loc
    have hne : c.env.locals ≠ T := fun q => by
      obtain ⟨o, es, ep, e, hd, _⟩ := hn
      rw [q, ht] at e; cases e; cases hd
    exact ⟨m, hn.extBut k hne, fun y d e => let ⟨v, a, b⟩ := hm y d e; ⟨v, a, b.same k fun o e ⟨vs, n, q⟩ => by rw [ht] at e; cases e; cases q⟩⟩
  cel := fun y a e => by
    obtain ⟨ps, ht⟩ := t
    obtain ⟨o, vo, h1, h2, h3⟩ := F.cel y a e
    refine ⟨o, vo, k _ _ (fun q => by rw [q, ht] at h1; cases h1; cases h2) h1, h2, fun d e => let ⟨v, p, q⟩ := h3 d e; ⟨v, p, q.same k fun o e ⟨vs, n, q⟩ => by rw [ht] at e; cases e; cases q⟩⟩
theorem KAt.offC {W : Wd} {h : Heap} {l : List Addr} {cell a N md f0 f1 f2 f3 f4 f5 : Addr} (x : KAt W h cell a N md f0 f1 f2 f3 f4 f5) (hl : ∀ b ∈ l, b ≠ N ∧ ∃ o, h.get? b = some o ∧ ((∃ vo, o.data = .cell vo) ∨ ∃ es n, o.data = .dict es n)) : KAt W (hideAll h l) cell a N md f0 f1 f2 f3 f4 f5 := by
  have fn : ∀ {f i : Nat} {name qual : Str} {clos : List (Str × Addr)}, FnK W h f i name qual clos → FnK W (hideAll h l) f i name qual clos := by
    rintro f i name qual clos ⟨doc, c', ctv, e, c₂, oc, vs, t, e2, hoc, hd, hv⟩
    refine ⟨doc, c', ctv, hideAll_get _ e fun hm => ?_, c₂, oc, vs, t, e2, hideAll_get _ hoc fun hm => ?_, hd, hv⟩
    · obtain ⟨nn, o, g1, g2⟩ := hl _ hm; rw [e] at g1; cases g1; rcases g2 with ⟨vo, g2⟩ | ⟨es, n, g2⟩ <;> cases g2
    · obtain ⟨nn, o, g1, g2⟩ := hl _ hm; rw [hoc] at g1; cases g1; rw [hd] at g2; rcases g2 with ⟨vo, g2⟩ | ⟨es, n, g2⟩ <;> cases g2
  refine ⟨?_, ?_, ?_, fn x.init, fn x.lt, fn x.gt, fn x.eq, fn x.le, fn x.ge⟩
  · obtain ⟨bT, tn, tq, e⟩ := x.cls
    refine ⟨bT, tn, tq, hideAll_get _ e fun hm => ?_⟩
    obtain ⟨nn, o, g1, g2⟩ := hl _ hm; rw [e] at g1; cases g1; rcases g2 with ⟨vo, g2⟩ | ⟨es, n, g2⟩ <;> cases g2
  · obtain ⟨v0, v2, sl, sa, es, n, e, q⟩ := x.ns
    exact ⟨v0, v2, sl, sa, es, n, hideAll_get _ e (fun hm => (hl _ hm).1 rfl), q⟩
  · obtain ⟨t, e⟩ := x.md
    refine ⟨t, hideAll_get _ e fun hm => ?_⟩
    obtain ⟨nn, o, g1, g2⟩ := hl _ hm; rw [e] at g1; cases g1; rcases g2 with ⟨vo, g2⟩ | ⟨es, n, g2⟩ <;> cases g2
theorem LamF.hide {W : Wd} {h : Heap} {f : Addr} {e : Expr} {clos : List (Str × Addr)} {l : List Addr} (x : LamF W h f e clos) (hl : ∀ b ∈ l, ∃ o, h.get? b = some o ∧ (∀ fd, o.data ≠ .func fd) ∧ ∀ vs, o.data = .fields vs → ∃ ps, o = tabObj ps ∧ TriplesOk ps.toList) : LamF W (hideAll h l) f e clos := by
  obtain ⟨c', ctv, e1, c₂, oc, vs, t, e2, hoc, hd, hv⟩ := x
  refine ⟨c', ctv, hideAll_get _ e1 fun hm => ?_, c₂, oc, vs, t, e2, hideAll_get _ hoc fun hm => ?_, hd, hv⟩
  · obtain ⟨o, g1, g2, _⟩ := hl _ hm
    rw [e1] at g1; cases g1
    exact g2 _ rfl
  · obtain ⟨o, g1, _, g2⟩ := hl _ hm
    rw [hoc] at g1; cases g1
    obtain ⟨ps, rfl, hok⟩ := g2 _ hd
    injection hd with hd
    subst hd
    rw [← Array.getElem?_toList] at hv
    generalize ps.toList = l at hv hok
    match l, hok with
    | [], _ => cases hv
    | .int _ _ :: .int _ _ :: _ :: _, _ => cases hv
end Mine
end

section
open PySem PySem.W PyProof.Rows PySem.Calls
namespace Mine
noncomputable def fixed6 : List (List Nat) := [[97, 47, 90], [97, 47, 32], [97, 47, 47, 90, 47], [46, 47, 57, 47, 97], [126, 47, 46, 46], [233]]
noncomputable def textsOf (ns : List Int) : List (List Nat) := fixed6 ++ (ns.take 5).map lawText
theorem textsOf_ok (ns : List Int) : TxOk (textsOf ns) := by
  refine ⟨fun l hl => ?_, ?_, ?_⟩
  · rcases List.mem_append.mp hl with hl | hl
    · simp only [fixed6, List.mem_cons, List.not_mem_nil, or_false] at hl
      rcases hl with rfl | rfl | rfl | rfl | rfl | rfl <;> exact ⟨by decide, by decide⟩
    · obtain ⟨x, _, rfl⟩ := List.mem_map.mp hl
      have := lawText_ok x
      exact ⟨Nat.le_trans this.1 (by decide), this.2⟩
  · simp [textsOf, fixed6]
  · simp [textsOf, fixed6]; omega
theorem textsOf_three (ns : List Int) : 2 < (textsOf ns).length := by simp [textsOf, fixed6]
section
variable {W : Wd} {A : Around} {Lf fa : Addr} {h : Heap} {P : Addr → Prop} {b0 : Shared} {n : Nat} {ρ κ : Loc} {ns : List Int}
set_option maxHeartbeats 0 in
theorem w_texts (ok : (lawC W A Lf fa h P b0).Ok (n + 1)) (hl : ns.length ≤ 1000) (hs : ρ.lookup ("script" : Str) = some (.list (ns.map .int))) : Ev (lawC W A Lf fa h P b0) ρ κ (asgVal (lawS W.w.params 0)) (strL (textsOf ns)) := by
  have e : strL (textsOf ns) = .list (fixed6.map st ++ ((ns.take 5).map lawText).map st) := by unfold strL textsOf; rw [List.map_append]
  rw [e]
  conv => enter [4]; whnf
  with_reducible refine ev_bin (d1 := .list (fixed6.map st)) (d2 := .list (((ns.take 5).map lawText).map st)) ?_ ?_ ?_
  · with_reducible refine ev_listD ?_ ?_
    · show EvL _ _ _ _ [st [97, 47, 90], st [97, 47, 32], st [97, 47, 47, 90, 47], st [46, 47, 57, 47, 97], st [126, 47, 46, 46], st [233]]
      iterate 5
        with_reducible refine evL_cons ?_ ?_ ?_
        · exact ev_tx _
        rotate_left
        · rfl
      with_reducible refine evL_cons ?_ evL_nil ?_
      · exact ev_call (Bl ok g_chr bt_chr) (evL_cons ev_int evL_nil) keeps_blt (c_chr (i := 233) (by decide) (by decide))
      · rfl
    · decide
  · refine ev_compA (ns.take 5) D.int (fun _ => true) (fun x => st (lawText x)) (fun x => [("x", .int x)]) (st := true) (κ' := []) (ds := ((ns.take 5).map lawText).map st) ok
      (evI_listA (xs := ns.take 5) (enc := D.int) ok ?_) (by simp; omega) (cl := []) rfl (by decide) rfl (by decide) (fun _ => rfl) subA_nil sub_nil (by rw [filter_true, List.map_map]; rfl) (fun C P' x hx ok ow => asg_loc ok ow rfl) (fun C P' x hx ok => evIfs_nil)
      (fun C P' x hx _ ok => ev_call (G ok g_law_text) (evL_cons (L ok) evL_nil) (keeps_fn ok (h187 _)) (c_law_text ok))
    rw [List.map_take]
    exact ev_slice (L ok (hx := hs)) evO_none (evO_some ev_int) hasT_list PySem.slot_list_getitem.lookup (opS_list (by rw [List.length_map]; omega))
  · exact op_add_list (by simp [fixed6]; omega)
end
end Mine
end

section
open PySem PySem.W PyProof.Rows PySem.Calls
namespace Mine
theorem hidden_kind {c : Cx} {ρ κ : Loc} {h : Heap} (F : FrD c ρ κ h) (hnd : ∀ p ∈ c.env.cells, c.env.cells.lookup p.1 = some p.2) {b : Addr} (hb : b ∈ hidden c) : ∃ o, h.get? b = some o ∧ ((∃ vo, o.data = .cell vo) ∨ ∃ es n, o.data = .dict es n) := by
  rcases List.mem_cons.mp hb with rfl | hb
  · obtain ⟨m, ⟨o, es, ep, ho, hd, _⟩, _⟩ := F.loc
    exact ⟨o, ho, .inr ⟨_, _, hd⟩⟩
  · obtain ⟨p, hp, rfl⟩ := List.mem_map.mp hb
    obtain ⟨o, vo, h1, h2, _⟩ := F.cel p.1 p.2 (hnd p hp)
    exact ⟨o, h1, .inl ⟨_, h2⟩⟩
theorem FrD.at' {c : Cx} {ρ κ : Loc} {h h1 : Heap} (F : FrD c ρ κ h) (k : ∀ b o, h1.get? b = some o → h.get? b = some o) : FrD (c.at h1) ρ κ h := ⟨⟨k, F.new⟩, F.loc, F.cel⟩
theorem LamF.lam {W : Wd} {h : Heap} {f : Addr} {l : Expr} {clos : List (Str × Addr)} (x : LamF W h f l clos) : ∃ fo, h.get? f = some fo ∧ (∃ fd, fo.data = .func fd) ∧ fo.cls = .type "function" := by
  obtain ⟨c', ctv, e, _⟩ := x
  exact ⟨_, e, ⟨_, rfl⟩, rfl⟩
section
variable {W : Wd} {A : Around} {Lf fa : Addr} {h0 : Heap} {P : Addr → Prop} {b0 : Shared} {n : Nat} {ρ : Loc} {rest : List Stmt} {Q : Flow → Shared → Prop} {t1 : Array Value}
set_option maxHeartbeats 0 in
theorem law_key {f : Expr} {px pos spos : Pos} {par : Arguments} {body : Expr} {sc : Scope} (ok : (lawC W A Lf fa h0 P b0).Ok (n + 12)) (ow : OwnL (lawC W A Lf fa h0 P b0)) (oc : OwnC (lawC W A Lf fa h0 P b0)) (g23 : h0.get? 23 = none) (g213 : h0.get? 213 = none) (C27 : CodeHd h0 27 23) (C215 : CodeHd h0 215 213)
    {s : Shared} (F : FrD (lawC W A Lf fa h0 P b0) ρ [] s.heap) (b : From (lawC W A Lf fa h0 P b0) s) (t23 : s.heap.get? 23 = some (tabObj t1)) (ok23 : TriplesOk t1.toList) (nf23 : codeAmong (Stmt.pos (kStmt W.w.params)) t1.toList = none)
    (T1 : TabL 23 s.heap (p1 W.w.params)) (T2 : TabL 23 s.heap (p2 W.w.params))
    (hlam : lam1 W.w.params = .Lambda par body sc (p1 W.w.params)) (hcl : closureFor sc (lawC W A Lf fa h0 P b0).env = pure []) (hdef : defaultsOf par (lawC W A Lf fa h0 P b0).env = ([], [])) (hq : (lawC W A Lf fa h0 P b0).env.qual ++ "<lambda>" = lQ) (hcode : (lawC W A Lf fa h0 P b0).env.code = .ref 215)
    (hf : Ev (lawC W A Lf fa h0 P b0) ρ [] f (.val (.ref 28)))
    (hst : starEach [.Lambda par body sc (p1 W.w.params)] (lawC W A Lf fa h0 P b0).env = (false, eval (.Lambda par body sc (p1 W.w.params)) (lawC W A Lf fa h0 P b0).env) :: starEach [] (lawC W A Lf fa h0 P b0).env)
    (hev : eval (.Call f [.Lambda par body sc (p1 W.w.params)] [] pos) (lawC W A Lf fa h0 P b0).env = (do callWith pos (← eval f (lawC W A Lf fa h0 P b0).env) [] (backTo pos (starEach [.Lambda par body sc (p1 W.w.params)] (lawC W A Lf fa h0 P b0).env)) (backToKw pos (keywordEach [] (lawC W A Lf fa h0 P b0).env))))
    (hp : ∃ x r, backTo pos (starEach [.Lambda par body sc (p1 W.w.params)] (lawC W A Lf fa h0 P b0).env) = (false, x) :: r) (hpl : (backTo pos (starEach [.Lambda par body sc (p1 W.w.params)] (lawC W A Lf fa h0 P b0).env)).any (·.1) = false)
    (hsw : swapsWith (.Call f [.Lambda par body sc (p1 W.w.params)] [] pos) (some (.Name "key" px)) spos.line (lawC W A Lf fa h0 P b0).env = pure false) (hkk : (lawC W A Lf fa h0 P b0).env.kindOf "key" = some .local)
    (hne : ¬ ((p1 W.w.params).line = (p2 W.w.params).line ∧ (p1 W.w.params).col = (p2 W.w.params).col))
    (h : ∀ s' h1 a lam cell N md f0 f1 f2 f3 f4 f5, Stays h0 h1 → h1.get? 213 = none → OwnL (lawC W A Lf fa h1 P b0) → OwnC (lawC W A Lf fa h1 P b0) → KOk (lawC W A Lf fa h1 P b0) lam cell a N md f0 f1 f2 f3 f4 f5 → LamF W h1 lam (lam1 W.w.params) [] → (∃ t, h1.get? 23 = some (tabObj t)) →
      FrD (lawC W A Lf fa h1 P b0) (("key", .val (.ref a)) :: ρ) [] s'.heap → From (lawC W A Lf fa h0 P b0) s' → TabL 23 s'.heap (p2 W.w.params) → wpAny W.M A (execs rest (lawC W A Lf fa h0 P b0).env) Q NoE s') :
    wpAny W.M A (execs (.Assign [.Name "key" px] (.Call f [.Lambda par body sc (p1 W.w.params)] [] pos) spos :: rest) (lawC W A Lf fa h0 P b0).env) Q NoE s := by
  have nd := law_nd W A Lf fa h0 P b0
  refine wpAny_execs_cons (wpAny_Assign_Name ?_ hsw)
  rw [hev]
  refine wpAny_bind (noE (hf.go s F) fun v s1 ⟨k1, r1⟩ => ?_)
  obtain rfl := rep_val.mp r1
  have F1 := F.on k1.stays
  refine callWith_of (P := fun h => St (lawC W A Lf fa h0 P b0) h) (by show ((backTo pos (starEach [.Lambda par body sc (p1 W.w.params)] (lawC W A Lf fa h0 P b0).env)).any (·.1) || false) = false; rw [hpl]; rfl) (keeps_fn ok (h28 _)) ?_
  have T1' := T1.on k1.stays
  have T2' := T2.on k1.stays
  have t23' := k1.stays _ _ t23
  obtain ⟨tab1, h213a, _⟩ := id T1'
  have args : wpAny W.M A (spliced (backTo pos (starEach [.Lambda par body sc (p1 W.w.params)] (lawC W A Lf fa h0 P b0).env))) (fun vs s2 => ∃ lam, vs = [.ref lam] ∧ Heap.ExtBut 213 s1.heap s2.heap ∧ TabL 23 s2.heap (p2 W.w.params) ∧ LamF W s2.heap lam (lam1 W.w.params) [] ∧ Sm s1 s2) NoE s1 := by
    refine args_cons (noE (mk_lam (l := lam1 W.w.params) (clos := []) ok F1.toSt hcode C215 (I := 23) ⟨_, t23'⟩ T1' hlam hq hcl hdef) fun v s2 q => args_nil ?_) hst
    obtain ⟨lam, e, x2, T3, L2, m2, o2⟩ := q
    subst e
    exact ⟨lam, rfl, x2, o2 _ hne T2', L2, m2⟩
  obtain ⟨x, r, e⟩ := hp
  rw [e] at args ⊢
  refine evalArgs_plain (noE args fun vs s2 q => ?_)
  obtain ⟨lam, rfl, x2, T3, L2, m2⟩ := q
  obtain ⟨tab2, h213b, tok2, _⟩ := id T3
  have F2 := F1.tabA x2 g213 ⟨_, h213a⟩ ⟨_, h213b⟩
  have t23b : s2.heap.get? 23 = some (tabObj t1) := x2 _ _ (by decide) t23'
  refine ⟨F2.toSt, ?_⟩
  show wpAny _ _ (call (.ref 28) [.ref lam]) _ _ _
  refine call_ctk (c := lawC W A Lf fa h0 P b0) (n := n + 9) ok F2.toSt g23 t23b ok23 nf23 C27 fun s3 g' ps' cell a N md f0 f1 f2 f3 f4 f5 ka kb gg hP' hok' KA hcell up ncell nN m3 => ?_
  have x3 : Heap.ExtBut 23 s2.heap s3.heap := fun b o hb e => kb _ _ (up b o hb e)
  have F3 := F2.tabA x3 g23 ⟨_, t23b⟩ ⟨_, hP'⟩
  have T4 : TabL 23 s3.heap (p2 W.w.params) := T3.but (by decide) x3
  have b3 := ((b.on k1).sm m2).sm m3
  refine store_loc (c := lawC W A Lf fa h0 P b0) ok ow F3 (d := .val (.ref a)) (rep_val.mpr rfl) hkk fun h4 tk4 F4 hs4 => ?_
  obtain ⟨tab3, h213c, tok3, _⟩ := id T4
  have nh : ∀ {b : Addr} {o : Obj}, s2.heap.get? b = none → s3.heap.get? b = some o → b ∉ hidden (lawC W A Lf fa h0 P b0) := fun hn e hm => by
    obtain ⟨o', g1, _⟩ := hidden_kind F2 nd hm
    rw [hn] at g1; cases g1
  have nf : ∀ {b : Addr} {vs : Array Value} {o : Obj}, s3.heap.get? b = some o → o.data = .fields vs → b ∉ hidden (lawC W A Lf fa h0 P b0) := fun e hd hm => by
    obtain ⟨o', g1, g2⟩ := hidden_kind F3 nd hm
    rw [e] at g1; cases g1; rw [hd] at g2; rcases g2 with ⟨vo, g2⟩ | ⟨es, n, g2⟩ <;> cases g2
  have up1 : ∀ {b : Addr} {o : Obj}, b ≠ 213 → b ∉ hidden (lawC W A Lf fa h0 P b0) → s3.heap.get? b = some o → (hideAll h4 (213 :: hidden (lawC W A Lf fa h0 P b0))).get? b = some o := fun h1 h2 e =>
    hideAll_get _ (hs4.extBut _ _ (fun q => h2 (by rw [q]; exact .head _)) e) fun hm => by
      rcases List.mem_cons.mp hm with q | hm
      · exact h1 q
      · exact h2 hm
  have keep : Stays h0 (hideAll h4 (213 :: hidden (lawC W A Lf fa h0 P b0))) := fun b o e => up1 (fun q => by rw [q, g213] at e; cases e) (fun hm => by
    rcases List.mem_cons.mp hm with q | hm
    · have ow' : h0.get? (lawC W A Lf fa h0 P b0).env.locals = none := ow
      rw [q, ow'] at e; cases e
    · obtain ⟨p, hp, rfl⟩ := List.mem_map.mp hm
      have oc' : h0.get? p.2 = none := oc.own p.1 p.2 hp
      rw [oc'] at e; cases e) (F3.keep _ _ e)
  have hid213 : 213 ∉ hidden (lawC W A Lf fa h0 P b0) := nf h213c rfl
  have hid23 : 23 ∉ hidden (lawC W A Lf fa h0 P b0) := nf hP' rfl
  have KA1 := (KA.keep kb).offC (l := hidden (lawC W A Lf fa h0 P b0)) fun b hb => by
    refine ⟨fun q => ?_, hidden_kind F3 nd hb⟩
    obtain ⟨o', g1, _⟩ := hidden_kind F2 nd hb
    rw [q, nN] at g1; cases g1
  have KA2 := (KA1.off (hideAll_get _ h213c hid213) tok3).keep (g' := hideAll h4 (213 :: hidden (lawC W A Lf fa h0 P b0))) fun b o e => by
    have e1 := of_hideAll _ e
    exact up1 (fun q => hideAll_notin e (by rw [q]; exact .head _)) (hideAll_notin e1) (of_hideAll _ e1)
  have LF := (L2.hide (l := 213 :: 23 :: hidden (lawC W A Lf fa h0 P b0)) fun b hb => by
    rcases List.mem_cons.mp hb with rfl | hb
    · exact ⟨_, h213b, (fun fd q => nomatch q), fun vs q => ⟨tab2, rfl, tok2⟩⟩
    rcases List.mem_cons.mp hb with rfl | hb
    · exact ⟨_, t23b, (fun fd q => nomatch q), fun vs q => ⟨t1, rfl, ok23⟩⟩
    obtain ⟨o', g1, g2⟩ := hidden_kind F2 nd hb
    refine ⟨o', g1, fun fd q => ?_, fun vs q => ?_⟩
    · rw [q] at g2; rcases g2 with ⟨vo, g2⟩ | ⟨es, n, g2⟩ <;> cases g2
    · rw [q] at g2; rcases g2 with ⟨vo, g2⟩ | ⟨es, n, g2⟩ <;> cases g2).keep (h' := hideAll h4 (213 :: hidden (lawC W A Lf fa h0 P b0))) fun b o e => by
    have e1 := of_hideAll _ e
    have hm := hideAll_notin e
    exact up1 (fun q => hm (by rw [q]; exact .head _)) (fun q => hm (.tail _ (.tail _ q))) (x3 _ _ (fun q => hm (by rw [q]; exact .tail _ (.head _))) e1)
  obtain ⟨oc', hc1, hc2⟩ := hcell
  have hcell' := kb _ _ hc1
  have z0 : (hideAll h4 (213 :: hidden (lawC W A Lf fa h0 P b0))).get? 213 = none := hideAll_none _ (.head _)
  have z1 : OwnC (lawC W A Lf fa (hideAll h4 (213 :: hidden (lawC W A Lf fa h0 P b0))) P b0) := ⟨oc.apart, fun y c hm => hideAll_none _ (.tail _ (.tail _ (List.mem_map.mpr ⟨(y, c), hm, rfl⟩)))⟩
  have z7 := b3.set h4 tk4
  have z3 : FrD (lawC W A Lf fa (hideAll h4 (213 :: hidden (lawC W A Lf fa h0 P b0))) P b0) (("key", .val (.ref a)) :: ρ) [] h4 := F4.at' fun b o e => of_hideAll _ e
  have z5 : ∃ t, (hideAll h4 (213 :: hidden (lawC W A Lf fa h0 P b0))).get? 23 = some (tabObj t) := ⟨ps', up1 (by decide) hid23 hP'⟩
  have z6 : OwnL (lawC W A Lf fa (hideAll h4 (213 :: hidden (lawC W A Lf fa h0 P b0))) P b0) := hideAll_none _ (.tail _ (.head _))
  have w1 : cell ≠ 213 := fun q => by rw [q, h213c] at hcell'; cases hcell'; cases hc2
  have w2 : ∃ o, (hideAll h4 (213 :: hidden (lawC W A Lf fa h0 P b0))).get? cell = some o ∧ o.data = .cell (some (.ref lam)) := ⟨oc', up1 w1 (nh ncell hcell') hcell', hc2⟩
  have z4 := T4.recs (h' := h4) fun b o e q => by
    obtain ⟨vs, q⟩ := q
    exact hs4.extBut _ _ (fun z => nf e q (by rw [z]; exact .head _)) e
  have z8 : KAt W (hideAll h4 (213 :: hidden (lawC W A Lf fa h0 P b0))) cell a N md f0 f1 f2 f3 f4 f5 := KA2
  have z2 : KOk (lawC W A Lf fa (hideAll h4 (213 :: hidden (lawC W A Lf fa h0 P b0))) P b0) lam cell a N md f0 f1 f2 f3 f4 f5 := ⟨z8, w2, LF.lam⟩
  with_reducible exact h _ _ a lam cell N md f0 f1 f2 f3 f4 f5 keep z0 z6 z1 z2 LF z5 z3 z7 z4
end
end Mine
end

section
open PySem PySem.W PyProof.Rows PySem.Calls
namespace Mine
noncomputable def tgtPos : Stmt → Pos
  | .Assign (.Name _ p :: _) _ _ => p
  | _ => ⟨0, 0, 0, 0⟩
noncomputable def callFn : Expr → Pos
  | .Call (.Name _ p) _ _ _ => p
  | _ => ⟨0, 0, 0, 0⟩
noncomputable def callAt : Expr → Pos
  | .Call _ _ _ p => p
  | _ => ⟨0, 0, 0, 0⟩
noncomputable abbrev law0 (P : Params) : Stmt := .Assign [.Name "texts" (tgtPos (lawS P 0))] (asgVal (lawS P 0)) (Stmt.pos (lawS P 0))
noncomputable abbrev keyArg (P : Params) : Expr := .Lambda (lPar (lam1 P)) (lBody (lam1 P)) (lScope (lam1 P)) (p1 P)
noncomputable abbrev law1 (P : Params) : Stmt := .Assign [.Name "key" (tgtPos (lawS P 1))] (.Call (.Name "cmp_to_key" (callFn (asgVal (lawS P 1)))) [keyArg P] [] (callAt (asgVal (lawS P 1)))) (Stmt.pos (lawS P 1))
theorem body_is (P : Params) : bodyOf (fdOf P 216) = [law0 P, law1 P, lawS P 2, lawS P 3, lawS P 4] := by kernel_rfl
theorem lam1_is (P : Params) : lam1 P = keyArg P := by kernel_rfl
theorem p_ne (P : Params) : ¬ ((p1 P).line = (p2 P).line ∧ (p1 P).col = (p2 P).col) := by
  have e1 : (p1 P).line = 270 := by kernel_rfl
  have e2 : (p2 P).line = 284 := by kernel_rfl
  rw [e1, e2]
  exact fun q => absurd q.1 (by decide)
section
variable {W : Wd} {A : Around} {Lf fa : Addr} {h0 : Heap} {P : Addr → Prop} {b0 : Shared} {n : Nat} {ρ : Loc} {t1 : Array Value} {ns : List Int}
theorem kind_texts : (lawC W A Lf fa h0 P b0).env.kindOf "texts" = some .local := by kernel_rfl
theorem swaps0 : swapsWith (asgVal (lawS W.w.params 0)) (some (.Name "texts" (tgtPos (lawS W.w.params 0)))) (Stmt.pos (lawS W.w.params 0)).line (lawC W A Lf fa h0 P b0).env = pure false := by kernel_rfl
theorem key_hp (pos : Pos) : ∃ x r, backTo pos (starEach [keyArg W.w.params] (lawC W A Lf fa h0 P b0).env) = (false, x) :: r := ⟨_, _, rfl⟩
set_option maxHeartbeats 0 in
theorem law_body (ok : (lawC W A Lf fa h0 P b0).Ok (n + 12)) (ow : OwnL (lawC W A Lf fa h0 P b0)) (oc : OwnC (lawC W A Lf fa h0 P b0)) (g23 : h0.get? 23 = none) (g213 : h0.get? 213 = none) (C27 : CodeHd h0 27 23) (C215 : CodeHd h0 215 213)
    {s : Shared} (F : FrD (lawC W A Lf fa h0 P b0) ρ [] s.heap) (b : From (lawC W A Lf fa h0 P b0) s) (hs : ρ.lookup ("script" : Str) = some (.list (ns.map .int))) (hns : ns.length ≤ 1000)
    (t23 : s.heap.get? 23 = some (tabObj t1)) (ok23 : TriplesOk t1.toList) (nf23 : codeAmong (Stmt.pos (kStmt W.w.params)) t1.toList = none) (T1 : TabL 23 s.heap (p1 W.w.params)) (T2 : TabL 23 s.heap (p2 W.w.params)) :
    wpAny W.M A (execs (bodyOf (fdOf W.w.params 216)) (lawC W A Lf fa h0 P b0).env) (FinQ (lawC W A Lf fa h0 P b0)) NoE s := by
  have nd := law_nd W A Lf fa h0 P b0
  have hx := textsOf_ok ns
  have h3 := textsOf_three ns
  rw [body_is]
  have nf : ∀ {b : Addr} {vs : Array Value} {o : Obj}, s.heap.get? b = some o → o.data = .fields vs → b ∉ hidden (lawC W A Lf fa h0 P b0) := fun e hd hm => by
    obtain ⟨o', g1, g2⟩ := hidden_kind F nd hm
    rw [e] at g1; cases g1; rw [hd] at g2; rcases g2 with ⟨vo, g2⟩ | ⟨es, n, g2⟩ <;> cases g2
  have key : ((lawC W A Lf fa h0 P b0).at (hideAll s.heap (hidden (lawC W A Lf fa h0 P b0)))).Ok (n + 12) → OwnL ((lawC W A Lf fa h0 P b0).at (hideAll s.heap (hidden (lawC W A Lf fa h0 P b0)))) →
      Xs ((lawC W A Lf fa h0 P b0).at (hideAll s.heap (hidden (lawC W A Lf fa h0 P b0)))) ρ [] [law0 W.w.params, law1 W.w.params, lawS W.w.params 2, lawS W.w.params 3, lawS W.w.params 4] (FinQ (lawC W A Lf fa h0 P b0)) := by
    intro ok1 ow1
    have ok2 : (lawC W A Lf fa (hideAll s.heap (hidden (lawC W A Lf fa h0 P b0))) P b0).Ok (n + 12) := ok1
    have ow' : OwnL (lawC W A Lf fa (hideAll s.heap (hidden (lawC W A Lf fa h0 P b0))) P b0) := ow1
    show Xs (lawC W A Lf fa (hideAll s.heap (hidden (lawC W A Lf fa h0 P b0))) P b0) ρ [] [law0 W.w.params, law1 W.w.params, lawS W.w.params 2, lawS W.w.params 3, lawS W.w.params 4] (FinQ (lawC W A Lf fa h0 P b0))
    with_reducible have wt := w_texts (n := n + 11) (κ := []) ok2 hns hs
    have kt := kind_texts (W := W) (A := A) (Lf := Lf) (fa := fa) (h0 := hideAll s.heap (hidden (lawC W A Lf fa h0 P b0))) (P := P) (b0 := b0)
    have sw := swaps0 (W := W) (A := A) (Lf := Lf) (fa := fa) (h0 := hideAll s.heap (hidden (lawC W A Lf fa h0 P b0))) (P := P) (b0 := b0)
    with_reducible refine x_asg ok2 ow' kt wt ?_ sw
    refine ⟨?_⟩; intro s1 F1 b1
    have up : ∀ b o, s.heap.get? b = some o → (∃ vs, o.data = .fields vs) → s1.heap.get? b = some o := fun b o e ⟨vs, q⟩ => F1.keep _ _ (hideAll_get _ e (nf e q))
    have F1' := F1.base (c := lawC W A Lf fa h0 P b0) (h₀ := hideAll s.heap (hidden (lawC W A Lf fa h0 P b0))) (hid_keep ow oc F.keep)
    have u23 := up _ _ t23 ⟨_, rfl⟩
    have b1' : From (lawC W A Lf fa h0 P b0) s1 := b1
    have r1 := T1.recs up
    have r2 := T2.recs up
    have li := lam1_is W.w.params
    have pn := p_ne W.w.params
    have hf : Ev (lawC W A Lf fa h0 P b0) (("texts", strL (textsOf ns)) :: ρ) [] (.Name "cmp_to_key" (callFn (asgVal (lawS W.w.params 1)))) (.val (.ref 28)) := by
      with_reducible exact G ok g_cmp_to_key (by kernel_rfl) (by kernel_rfl)
    have hp := key_hp (W := W) (A := A) (Lf := Lf) (fa := fa) (h0 := h0) (P := P) (b0 := b0) (callAt (asgVal (lawS W.w.params 1)))
    show wpAny W.M A (execs (law1 W.w.params :: [lawS W.w.params 2, lawS W.w.params 3, lawS W.w.params 4]) (lawC W A Lf fa h0 P b0).env) (FinQ (lawC W A Lf fa h0 P b0)) NoE s1
    with_reducible refine law_key (n := n) (t1 := t1) ok ow oc g23 g213 C27 C215 F1' b1' u23 ok23 nf23 r1 r2 li ?_ ?_ ?_ ?_ hf ?_ ?_ hp ?_ ?_ ?_ pn ?_
    · kernel_rfl
    · kernel_rfl
    · kernel_rfl
    · kernel_rfl
    · kernel_rfl
    · kernel_rfl
    · kernel_rfl
    · kernel_rfl
    · kernel_rfl
    intro s2 h1 a lam cell N md f0 f1 f2 f3 f4 f5 k01 g213' ow1 oc1 K LF t23' F2 b2 T2'
    have ok1 : (lawC W A Lf fa h1 P b0).Ok (n + 12) := ⟨ok.gd.keep k01, ok.rm, ok.kind, ok.glob, ok.blt⟩
    have c215 := C215.keeps k01
    have e1 : ((("key" : Str), D.val (.ref a)) :: ("texts", strL (textsOf ns)) :: ρ).lookup ("texts" : Str) = some (strL (textsOf ns)) := rfl
    have e2 : ((("key" : Str), D.val (.ref a)) :: ("texts", strL (textsOf ns)) :: ρ).lookup ("key" : Str) = some (.val (.ref a)) := rfl
    show wpAny W.M A (execs (lawS W.w.params 2 :: [lawS W.w.params 3, lawS W.w.params 4]) (lawC W A Lf fa h1 P b0).env) (FinQ (lawC W A Lf fa h0 P b0)) NoE s2
    have b2' : From (lawC W A Lf fa h1 P b0) s2 := b2
    with_reducible refine way_loop (h0 := h1) (n := n) ok1 ow1 oc1 g213' c215 K LF hx e1 e2 F2 b2' T2' ?_
    intro s3 F3 b3 t213
    have r2 := rows2 (way := 2) hx (by decide)
    have hl3 : 2 < (psOf (textsOf ns) 2).length := by rw [psOf, List.length_map]; exact h3
    have q1 : (rhoW (textsOf ns) a 3).lookup ("things" : Str) = some (.list (things (psOf (textsOf ns) 2))) := rfl
    have q2 : (rhoW (textsOf ns) a 3).lookup ("key" : Str) = some (.val (.ref a)) := rfl
    have q3 : (kapW (textsOf ns) 3).lookup ("rows" : Str) = some (.list ((rsOf (textsOf ns) 2).map encR)) := rfl
    with_reducible have kl := k_loop (h0 := h1) (n := n) ok1 ow1 oc1 K LF r2 hl3 t23' q1 q2 q3 F3 b3 t213
    with_reducible refine noE kl ?_
    intro f s4 q
    exact ⟨q.1, q.2.1, fun b o e => q.2.2.1 _ _ (k01 _ _ e), q.2.2.2⟩
  show wpAny (lawC W A Lf fa h0 P b0).W.M (lawC W A Lf fa h0 P b0).A (execs [law0 W.w.params, law1 W.w.params, lawS W.w.params 2, lawS W.w.params 3, lawS W.w.params 4] (lawC W A Lf fa h0 P b0).env) (FinQ (lawC W A Lf fa h0 P b0)) NoE s
  with_reducible exact x_hold (c := lawC W A Lf fa h0 P b0) ok ow oc F b key
end
end Mine
end

section
open PySem PySem.W PyProof.Rows PySem.Calls
namespace Mine
theorem rep_ints {P : Addr → Prop} {h : Heap} : ∀ {vs : List Value} {ns : List Int}, IntsAre vs ns → RepL P h (ns.map .int) vs
  | _, _, .nil => repL_nil.mpr rfl
  | _, _, .cons n t r => repL_cons.mpr ⟨_, _, rfl, rep_int.mpr ⟨t, rfl⟩, rep_ints r⟩
set_option maxHeartbeats 0 in
theorem law_entry {W : Wd} {A : Around} {hG h1 : Heap} {Lf fa l : Addr} {s1 : Shared} {tk : Nat} {m : Str → Option Value} {vs : List Value} {ns : List Int} {o1 o2 o3 : Obj} {v1 v2 v3 : Option Value}
    (K : W.K.In hG) (T : Top W.p W.loose W.mean W.mg W.mb hG) (hA : A.handled = none) (hdp : A.depth + 12 < 1000) (hun : A.units + 20 * 12 + 20 < 9900)
    (F : Fr hG Lf h1 m) (N : News hG Lf h1 [(Lf + 1 + 1 + 1, o1), (Lf + 1 + 1, o2), (Lf + 1, o3), (23, tabObj #[]), (213, tabObj #[])]) (d1 : o1.data = .cell v1) (d2 : o2.data = .cell v2) (d3 : o3.data = .cell v3)
    (hm : m ("script" : Str) = some (.ref l)) (hL : hG.IsList l vs.toArray) (hI : IntsAre vs ns) (C1 : CodeHd hG 27 23) (C2 : CodeHd hG 215 213) (hns : ns.length ≤ 63) {R : Flow → Shared → Prop}
    (h : ∀ s', Sm s1 s' → Stays hG s'.heap → (∃ ps, s'.heap.get? 23 = some (tabObj ps)) → (∃ ps, s'.heap.get? 213 = some (tabObj ps)) → R (.ret (.bool true)) s') :
    wpAny W.M A (execs (bodyOf (fdOf W.w.params 216)) (lawC W A Lf fa hG (fun _ => True) { s1 with heap := h1, toks := tk }).env) R NoE { s1 with heap := h1, toks := tk } := by
  have n1 := N (Lf + 1 + 1 + 1, o1) (by simp)
  have n2 := N (Lf + 1 + 1, o2) (by simp)
  have n3 := N (Lf + 1, o3) (by simp)
  have n4 := N (23, tabObj #[]) (by simp)
  have n5 := N (213, tabObj #[]) (by simp)
  have cl := cells_law W Lf fa
  have above : ∀ b, Lf ≤ b → hG.get? b = none := fun b hb => Heap.get?_none_of_le (Nat.le_trans F.above hb)
  have ok : (lawC W A Lf fa hG (fun _ => True) { s1 with heap := h1, toks := tk }).Ok (0 + 12) := ⟨⟨K, T⟩, ⟨hA, hdp, hun⟩, by kernel_rfl, by kernel_rfl, by kernel_rfl⟩
  have ow : OwnL (lawC W A Lf fa hG (fun _ => True) { s1 with heap := h1, toks := tk }) := above _ (Nat.le_refl _)
  have oc : OwnC (lawC W A Lf fa hG (fun _ => True) { s1 with heap := h1, toks := tk }) := by
    refine ⟨?_, fun x a hm => ?_⟩
    · show (callEnvC (fdOf W.w.params 216) Lf fa).cells.Pairwise _
      rw [cl]
      have e1 : Lf + 3 ≠ Lf + 2 := fun q => absurd (Nat.add_left_cancel q) (by decide)
      have e2 : Lf + 3 ≠ Lf + 1 := fun q => absurd (Nat.add_left_cancel q) (by decide)
      have e3 : Lf + 2 ≠ Lf + 1 := fun q => absurd (Nat.add_left_cancel q) (by decide)
      simp [e1, e2, e3]
    · have hm' : (x, a) ∈ (callEnvC (fdOf W.w.params 216) Lf fa).cells := hm
      rw [cl] at hm'
      simp only [List.mem_cons, List.not_mem_nil, or_false, Prod.mk.injEq] at hm'
      rcases hm' with ⟨_, rfl⟩ | ⟨_, rfl⟩ | ⟨_, rfl⟩ <;> exact above _ (Nat.le_add_right _ _)
  have Fd : FrD (lawC W A Lf fa hG (fun _ => True) { s1 with heap := h1, toks := tk }) [("script", .list (ns.map .int))] [] h1 := by
    have eL : (lawC W A Lf fa hG (fun _ => True) { s1 with heap := h1, toks := tk }).env.locals = Lf := by kernel_rfl
    have eC : (lawC W A Lf fa hG (fun _ => True) { s1 with heap := h1, toks := tk }).env.cells = (callEnvC (fdOf W.w.params 216) Lf fa).cells := by kernel_rfl
    have st : St (lawC W A Lf fa hG (fun _ => True) { s1 with heap := h1, toks := tk }) h1 := ⟨F.keep, fun _ _ => trivial⟩
    have ns : h1.Ns (lawC W A Lf fa hG (fun _ => True) { s1 with heap := h1, toks := tk }).env.locals m := by rw [eL]; exact F.ns
    refine ⟨st, ⟨m, ns, ?_⟩, ?_⟩
    rotate_left
    intro y a e
    rotate_left
    intro x d e
    · rw [List.lookup_cons] at e
      split at e
      · rename_i q
        cases e
        rw [eq_of_beq q]
        exact ⟨_, hm, rep_list.mpr ⟨l, vs.toArray, rfl, trivial, hL.at fun o e => F.keep _ o e, by simpa using rep_ints hI⟩⟩
      · cases e
    · have e' : (callEnvC (fdOf W.w.params 216) Lf fa).cells.lookup y = some a := by rw [← eC]; exact e
      rw [cl] at e'
      have hm' := mem_of_lookup e'
      simp only [List.mem_cons, List.not_mem_nil, or_false, Prod.mk.injEq] at hm'
      rcases hm' with ⟨_, rfl⟩ | ⟨_, rfl⟩ | ⟨_, rfl⟩
      · exact ⟨o1, v1, n1.1, d1, fun d q => by cases q⟩
      · exact ⟨o2, v2, n2.1, d2, fun d q => by cases q⟩
      · exact ⟨o3, v3, n3.1, d3, fun d q => by cases q⟩
  have lk : List.lookup ("script" : Str) [(("script" : Str), D.list (ns.map .int))] = some (.list (ns.map .int)) := rfl
  have hns' : ns.length ≤ 1000 := by omega
  have bb : From (lawC W A Lf fa hG (fun _ => True) { s1 with heap := h1, toks := tk }) { s1 with heap := h1, toks := tk } := ⟨_, _, rfl⟩
  have T1 : TabL 23 h1 (p1 W.w.params) := ⟨#[], n5.1, trivial, .inl rfl⟩
  have T2 : TabL 23 h1 (p2 W.w.params) := ⟨#[], n5.1, trivial, .inl rfl⟩
  have ok23 : TriplesOk (#[] : Array Value).toList := trivial
  have nf23 : codeAmong (Stmt.pos (kStmt W.w.params)) (#[] : Array Value).toList = none := rfl
  with_reducible have key := law_body (n := 0) (t1 := #[]) (ns := ns) (s := { s1 with heap := h1, toks := tk }) ok ow oc n4.2.2 n5.2.2 C1 C2 Fd bb lk hns' n4.1 ok23 nf23 T1 T2
  with_reducible refine noE key ?_
  intro f s' q
  obtain ⟨e, ⟨h2, t2, e2⟩, k, q1, q2⟩ := q
  subst e
  exact h s' ⟨h2, t2, e2⟩ k q1 q2
end Mine
end

section
open PySem PySem.W PyProof.Rows
namespace Mine
noncomputable abbrev bE : List Stmt := behindTheImports pw
noncomputable def envT : Env := { scope := pw.main.scope, locals := mainNs, globals := mainNs, cells := [], code := .ref 13, frame := some 14 }
noncomputable abbrev cE : Code := .body bE envT
noncomputable abbrev ann : Option Value := some (.ref 6)
noncomputable abbrev q0 : Pos := ⟨0, 0, 0, 0⟩
noncomputable abbrev stT (t : Params → BT) (n k : Nat) (w : World) (os : OsState) : SharedT := ⟨t w.params, n, {}, #[], {}, k, os⟩
noncomputable def sA : List Stmt := bE.take 8
noncomputable def sB : List Stmt := (bE.drop 8).take 9
noncomputable def sC : List Stmt := bE.drop 17
theorem parts : bE = sA ++ (sB ++ (sC ++ [])) := by kernel_rfl
theorem quickX {p : Program} {w : World} {m : Nat} {ann : Option Value} {b n : Nat} {s : SharedT} {l : List Stmt} {env : Env} {c : Code} {pos : Pos} {B : List Frame} {r : Option (Flow × SharedT × Code × Pos)}
    (h : Fast.tw10110043849684766642 Fast.tw14364793385576792824 p w m ann b n s ⟨(Fast.tw12563942051412417395 l env).wrap doneF deadEnd id id, c, pos, B⟩ = r) : segRunT treeTable p w m ann b n s (piecesOf l env c pos B) = r := by
  show segRunT treeTable p w m ann b n s ⟨(execs l env).wrap doneF deadEnd id id, c, pos, B⟩ = r
  rw [Fast.te10110043849684766642, Fast.te14364793385576792824, Fast.te12563942051412417395]; exact h
/- the opening -/
theorem fence1 : ∀ s, fenceModules? pw s = some s := fun s => by kernel_rfl
theorem boot1 : ∀ w : World, importEnds treeTable (opening pw) w 600 (start (opening pw)).1 (start (opening pw)).2 = some ⟨boot_heap w.params, #[], boot_drawn, boot_toks, (start (opening pw)).1.os⟩ := fun w => by kernel_rfl
theorem open1 : ∀ w : World, (fencedOpening treeTable pw w 37006).map (fun s => (s.heap, s.gens, s.drawn, s.toks)) = some (boot_heap w.params, #[], boot_drawn, boot_toks) :=
  open_cut (He := boot_heap) (ge := #[]) (de := boot_drawn) (ke := boot_toks) boot1 (by decide) fun w => by funext os; rw [fence1]; rfl
theorem size1 : ∀ w : World, ((boot_heap w.params).isNs mainGlobals && (#[] : Array GenState).size == 0, (boot_heap w.params).objs.size, (boot_heap w.params).nsMap mainGlobals "__annotations__") = (true, 11, ann) := fun w => by kernel_rfl
theorem pre1 (w : World) (os : OsState) : topGo treeTable pw w 11 ann 12 ⟨boot_heap w.params, #[], boot_drawn, boot_toks, os⟩ (topStub pw) = some (⟨zh1 w.params, #[], {}, 187, os⟩, ⟨denote treeTable cE, cE, q0, [topFrame q0]⟩) := by kernel_rfl
theorem blk1 (w : World) (os : OsState) : segRun treeTable pw w 11 ann 1 1 ⟨zh1 w.params, #[], {}, 187, os⟩ (blockOf bE envT cE q0 [topFrame q0]) = some (.next, (stT zt1 15 187 w os).abs, cE, q0) := by kernel_rfl
theorem fin1 (w : World) (os : OsState) : topRun treeTable pw w 11 ann 2 (stT zt4 217 1996 w os).abs ⟨doneF .next, cE, ⟨268, 0, 292, 15⟩, [topFrame q0]⟩ = some ⟨zh4 w.params, #[], {}, 1996, os⟩ := by kernel_rfl
end Mine
end

section
open PySem PySem.W PyProof.Rows
namespace Mine
noncomputable abbrev pA : Thread := piecesOf sA envT cE q0 [topFrame q0]
noncomputable abbrev pB : Thread := piecesOf sB envT cE ⟨45, 0, 45, 11⟩ [topFrame q0]
noncomputable abbrev pC : Thread := piecesOf sC envT cE ⟨55, 0, 55, 28⟩ [topFrame q0]
noncomputable abbrev r1 : String := "special-get-raises"
noncomputable abbrev r2 : String := "comprehension-iter-twice"
noncomputable def RunA (w : World) : Prop := ∀ os, segRunT treeTable pw w 11 ann 1 9800 (stT zt1 15 187 w os) pA = some (.next, stT zt2 44 1250 w os, cE, ⟨45, 0, 45, 11⟩)
noncomputable def RunB (w : World) : Prop := ∀ os, segRunT treeTable pw w 11 ann 1 3300 (stT zt2 44 1250 w os) pB = some (.next, stT zt3 51 1473 w os, cE, ⟨55, 0, 55, 28⟩)
noncomputable def RunC (w : World) : Prop := ∀ os, segRunT treeTable pw w 11 ann 1 5600 (stT zt3 51 1473 w os) pC = some (.next, stT zt4 217 1996 w os, cE, ⟨268, 0, 292, 15⟩)
theorem runA00 (w : World) : RunA ((w.withFollow r1 false).withFollow r2 false) := fun os => quickX (by kernel_rfl)
theorem runA01 (w : World) : RunA ((w.withFollow r1 false).withFollow r2 true) := fun os => quickX (by kernel_rfl)
theorem runA10 (w : World) : RunA ((w.withFollow r1 true).withFollow r2 false) := fun os => quickX (by kernel_rfl)
theorem runA11 (w : World) : RunA ((w.withFollow r1 true).withFollow r2 true) := fun os => quickX (by kernel_rfl)
theorem runB0 (w : World) : RunB (w.withFollow r1 false) := fun os => quickX (by kernel_rfl)
theorem runB1 (w : World) : RunB (w.withFollow r1 true) := fun os => quickX (by kernel_rfl)
theorem runC0 (w : World) : RunC (w.withFollow r1 false) := fun os => quickX (by kernel_rfl)
theorem runC1 (w : World) : RunC (w.withFollow r1 true) := fun os => quickX (by kernel_rfl)
theorem runA (w : World) : RunA w := byRow2 r2 (P := RunA) (byRow2 r1 (P := fun w => RunA (w.withFollow r2 false)) runA00 runA10) (byRow2 r1 (P := fun w => RunA (w.withFollow r2 true)) runA01 runA11) w
theorem runB (w : World) : RunB w := byRow2 r1 (P := RunB) runB0 runB1 w
theorem runC (w : World) : RunC w := byRow2 r1 (P := RunC) runC0 runC1 w
end Mine
end

section
open PySem PySem.W PyProof.Rows
namespace Mine
noncomputable abbrev lo : List Str := ["_initial_missing", "reduce", "_QUOPRI_MAP", "_QUOPRI_HEADER_MAP", "_QUOPRI_BODY_MAP", "ascii_letters", "header_encode", "_QUOPRI_BODY_ENCODE_MAP", "body_encode"]
noncomputable abbrev lvs : List (Str × WData) := [("ascii_letters", .str "abcdefghijklmnopqrstuvwxyzABCDEFGHIJKLMNOPQRSTUVWXYZ")]
theorem kAs_eq : ∀ P, kAs = (heap_39 P).map (·.1) := fun P => by kernel_rfl
noncomputable abbrev hk : Hook := kmHook heap_39 kAs kAs_eq [23, 213]
noncomputable abbrev xt : Shared → Bool := fun s => xlAt vw lvs s && recOk PySem.Challenge.rw_qw0058_01.row.toRowW.records s
theorem look1 (w : World) (os : OsState) : (staticsOk (importedModules pw.main.body) (boot_heap w.params) (zh4 w.params) && namesBound pw (zh4 w.params) && gensDone ⟨zh4 w.params, #[], {}, 1996, os⟩ && laidKept (boot_heap w.params) (zh4 w.params)) = true := by kernel_rfl
theorem look3 (w : World) (os : OsState) : hk.obs ⟨zh4 w.params, #[], {}, 1996, os⟩ = hk.val w := by kernel_rfl
theorem look2 (w : World) (os : OsState) : openSeen vw lo (importedModules pw.main.body) xt true ⟨zh4 w.params, #[], {}, 1996, os⟩ = openGood vw lo := by
  rw [Fast.te4187177175401517315]; kernel_rfl
end Mine
end

section
open PySem PySem.W PyProof.Rows
namespace Mine
theorem run1 (w : World) (os : OsState) : topRun treeTable pw w 11 ann (12 + (1 + (9800 + (3300 + (5600 + 2))))) ⟨boot_heap w.params, #[], boot_drawn, boot_toks, os⟩ (topStub pw) = some ⟨zh4 w.params, #[], {}, 1996, os⟩ := by
  have e := congrArg (fun l => topRun treeTable pw w 11 ann (9800 + (3300 + (5600 + 2))) (stT zt1 15 187 w os).abs (restOf l envT cE q0 [topFrame q0])) parts
  have k := e.trans (piece_app (segRun_of (runA w os)) (piece_app (segRun_of (runB w os)) (piece_app (segRun_of (runC w os)) (piece_nil (fin1 w os)))))
  exact go_top (pre1 w os) (piece_block (blk1 w os) k)
theorem left1 : LeftO pw vw lo xt hk.obs hk.val 37006 :=
  LeftO.of_pieces (H₀ := boot_heap) (H₁ := zh4) (gs₀ := #[]) (gs₁ := #[]) (d₀ := boot_drawn) (d₁ := {}) (k₀ := boot_toks) (k₁ := 1996) (m₀ := 11) (ann := ann) (M := 12 + (1 + (9800 + (3300 + (5600 + 2))))) open1 size1 run1 (by decide)
    fun w => funext fun os => Prod.ext (look1 w os) (Prod.ext (look2 w os) (look3 w os))
end Mine
end

section
open PySem PySem.W PyProof.Rows PySem.Calls
namespace Mine
theorem said1 : PySem.Challenge.rw_qw0058_01.wellSaid = true := by
  rw [PySem.W.Fast.te9446332074065402090]; kernel_rfl
theorem good_true {c : ClaimW} {cl : Str → Option Addr} {mean : ExcName → Option Value} {args : List WData} {s1 s' : Shared} (hn : ∀ cls, c.raises args cls = false) (hp : c.post args (.bool true) args = true) (k : Stays s1.heap s'.heap) (ho : s'.os = s1.os) (hg : s'.gens = #[]) :
    GoodW c cl mean args s1 (.ok (.ret (.bool true))) s' := ⟨.inl ⟨_, .bool true, [], rfl, hn, .bool true, hp, unshared_nil⟩, k, ho, hg⟩
theorem fin_of {α : Type} {M M' : Model} {A A' : Around} {t t' : Sem α} {H : (α → Shared → Prop) → Prop} {Q : α → Shared → Prop} {E : Value → Shared → Prop} {s : Shared} (eM : M = M') (eA : A = A') (et : t = t') (h : ∀ R, H R → wpAny M A t R NoE s) (hq : H Q) : wpAny M' A' t' Q E s := by
  subst eM eA et; exact noE (h Q hq) fun _ _ h => h
end Mine
open Mine in
theorem PySem.Challenge.cw_qw0058_01_holds : PySem.Challenge.rw_qw0058_01.Holds := by
  w_on
  refine holds_law said1 fun said => ?_
  refine holds_open (q := vw) (loose := lo) (Xt := xt) (XP := XL vw lvs) (Yf := Hook.obs (kmHook heap_39 kAs kAs_eq [23, 213])) (Ya := Hook.val (kmHook heap_39 kAs kAs_eq [23, 213])) (YP := Hook.says (kmHook heap_39 kAs kAs_eq [23, 213])) (N := 37006) left1 (Hook.of (kmHook heap_39 kAs kAs_eq [23, 213])) (Hook.keeps (kmHook heap_39 kAs kAs_eq [23, 213])) (fun s e => xl_of s (Bool.and_eq_true_iff.mp e).1) XL.keeps (by rfl) (by rfl) (by rfl) (fun s e => recFacts_of (Bool.and_eq_true_iff.mp e).2) (by rfl) (by first | assumption | decide +kernel) (by decide +kernel) ⟨rfl, rfl, rfl, rfl, rfl, by decide +kernel⟩ ?hw ?hc
  case hw => w_witness2
  k_go0
  rename_i w s0 s1 mg mb G Y fa o pm doc ho hg X V T B TE TW hcd ns hs hlay0 hL1 hr1 hl2 wA wB l vs wC hL ra w1 r0 hI hr hc1 hc2 hD h1 tk1 o1 o2 o3 d1 d2 d3 X0 X' T' K' F' cd1 N' l0
  have hdp : (callerA.deeper (callEnvC (fdOf w.params 216) s1.heap.objs.size fa)).depth + 12 < 1000 := by show callerA.depth + 1 + 12 < 1000; decide
  have hun : (callerA.deeper (callEnvC (fdOf w.params 216) s1.heap.objs.size fa)).units + 20 * 12 + 20 < 9900 := by show callerA.units + 3 + 20 * 12 + 20 < 9900; decide
  have hns : ns.length ≤ 63 := by omega
  with_reducible have key := fun (R : Flow → Shared → Prop) => law_entry (W := ⟨PySem.Challenge.rw_qw0058_01.row.prog, w, topProg, _, _, mg, mb⟩) (A := callerA.deeper (callEnvC (fdOf w.params 216) s1.heap.objs.size fa)) (s1 := s1) (fa := fa) (tk := tk1) (R := R) X' T' rfl hdp hun F' N' d1 d2 d3 (by kernel_rfl) lifted hI cd1 codeHd hns
  with_reducible refine fin_of ?_ ?_ ?_ key ?_
  · kernel_rfl
  · kernel_rfl
  · kernel_rfl
  · intro s' hs' k q1 q2
    obtain ⟨h2, t2, e⟩ := hs'
    refine ⟨good_true ?_ ?_ k (by rw [e]) (by rw [e]; exact hg), q1, q2, trivial⟩
    · exact fun _ => rfl
    · kernel_rfl
end
