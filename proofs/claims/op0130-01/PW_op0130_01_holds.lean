import PyProof.Rows.All
import Wide.All
import OpenK.AllK
import Wide.FinOn
import PySem.Challenge.RW_op0130_01
set_option Elab.async false
set_option maxRecDepth 100000
set_option compiler.extract_closed false
namespace Mine
open PySem PySem.W PySem.Calls PyProof.Rows
local macro_rules | `(tactic| omega) => `(tactic| lia)
section
set_option Elab.async false
set_option maxRecDepth 100000

noncomputable def stm (i : Nat) : Stmt := PySem.Challenge.pw_op0130_01.main.body.getD i (.Pass ⟨0, 0, 0, 0⟩)
noncomputable def fnAt (i : Nat) (dV pm cdv : Value) : FuncData := match stm i with
  | .FunctionDef n a b _ _ _ sc _ _ _ => fnOf n n a b sc dV .none .none pm none cdv .none
  | _ => default
@[reducible] noncomputable def ent (P : Params) (x : String) (t : Tok) (v : Value) : DictEntry := ⟨PyData.keyHash P (Str.ofString x), .str (Str.ofString x) t, v⟩
noncomputable def o2 (_ : Params) : Obj := ⟨.none, none, .dict #[] 0, #[]⟩
noncomputable def o3 (P : Params) : Obj := ⟨.type "dict", none, .dict (ent P "__name__" 165 (.str (Str.ofString "law_op0130_01") 1849) :: ent P "__doc__" 166 (.none) :: ent P "__package__" 167 (.none) :: ent P "__loader__" 168 (.builtin "__main__.__loader__#opaque") :: ent P "__spec__" 169 (.none) :: ent P "__annotations__" 170 (.ref 6) :: ent P "__builtins__" 171 (.ref 4) :: ent P "__file__" 173 (.str (Str.ofString "/claim/cut.py") 172) :: ent P "__cached__" 174 (.none) :: ent P "sorted_list_difference" 202 (.ref 21) :: ent P "CRLF" 204 (.str (Str.ofString "\x0d\n") 203) :: ent P "NL" 206 (.str (Str.ofString "\n") 205) :: ent P "_QUOPRI_MAP" 1234 (.ref 24) :: ent P "_QUOPRI_HEADER_MAP" 1235 (.ref 29) :: ent P "_QUOPRI_BODY_MAP" 1236 (.ref 31) :: ent P "ascii_lowercase" 1238 (.str (Str.ofString "abcdefghijklmnopqrstuvwxyz") 1237) :: ent P "ascii_uppercase" 1240 (.str (Str.ofString "ABCDEFGHIJKLMNOPQRSTUVWXYZ") 1239) :: ent P "ascii_letters" 1242 (.str (Str.ofString "abcdefghijklmnopqrstuvwxyzABCDEFGHIJKLMNOPQRSTUVWXYZ") 1241) :: ent P "digits" 1244 (.str (Str.ofString "0123456789") 1243) :: ent P "hexdigits" 1249 (.str (Str.ofString "0123456789abcdefABCDEF") 1248) :: ent P "unquote" 1755 (.ref 44) :: ent P "quote" 1762 (.ref 51) :: ent P "_QUOPRI_BODY_ENCODE_MAP" 1763 (.ref 53) :: ent P "body_encode" 1790 (.ref 64) :: ent P "decode" 1803 (.ref 72) :: ent P "heappop" 1814 (.ref 79) :: ent P "heapify" 1823 (.ref 86) :: ent P "_siftdown" 1835 (.ref 93) :: ent P "_siftup" 1848 (.ref 100) :: ent P "_law_numbers" 1856 (.ref 105) :: ent P "_law_octet" 1864 (.ref 112) :: ent P "_law_sign" 1873 (.ref 119) :: ent P "_law_rows" 1879 (.ref 124) :: ent P "_law_stretches" 1885 (.ref 129) :: ent P "_law_apart" 1891 (.ref 134) :: ent P "_law_chosen" 1905 (.ref 141) :: ent P "_law_breaks" 1915 (.ref 148) :: ent P "_law_met" 1927 (.ref 155) :: ent P "_law_holds" 1933 (.ref 160) :: ent P "law" 1939 (.ref 165) :: []).toArray 42, #[]⟩
noncomputable def o20 (_ : Params) : Obj := ⟨.type "code", none, .fields #[.str (Str.ofString "sorted_list_difference") 189, .str (Str.ofString "sorted_list_difference") 190, .str (Str.ofString "/claim/cut.py") 191, .int (2) 0, .int (2) 0, .int (0) 0, .int (0) 0, .int (3) 0, .ref 15, .bool true, .int (181) 0, .ref 16, .none, .ref 17, .ref 18, .ref 19, .int (200) 0, .int (2) 0, .str (Str.ofString "/claim/cut.py") 201], #[]⟩
noncomputable def o21 (_ : Params) : Obj := ⟨.type "function", none, .func (fnAt 1 (.none) (.str (Str.ofString "cpy313.unittest.util") 187) (.ref 20)), #[]⟩
noncomputable def o43 (_ : Params) : Obj := ⟨.type "code", none, .fields #[.str (Str.ofString "unquote") 1749, .str (Str.ofString "unquote") 1750, .str (Str.ofString "/claim/cut.py") 1751, .int (50) 0, .int (1) 0, .int (0) 0, .int (0) 0, .int (3) 0, .ref 38, .bool true, .int (181) 0, .ref 39, .none, .ref 40, .ref 41, .ref 42, .int (1753) 0, .int (50) 0, .str (Str.ofString "/claim/cut.py") 1754], #[]⟩
noncomputable def o44 (_ : Params) : Obj := ⟨.type "function", none, .func (fnAt 16 (.none) (.str (Str.ofString "cpy313.email.quoprimime") 1250) (.ref 43)), #[]⟩
noncomputable def o50 (_ : Params) : Obj := ⟨.type "code", none, .fields #[.str (Str.ofString "quote") 1756, .str (Str.ofString "quote") 1757, .str (Str.ofString "/claim/cut.py") 1758, .int (52) 0, .int (1) 0, .int (0) 0, .int (0) 0, .int (3) 0, .ref 45, .bool true, .int (181) 0, .ref 46, .none, .ref 47, .ref 48, .ref 49, .int (1760) 0, .int (52) 0, .str (Str.ofString "/claim/cut.py") 1761], #[]⟩
noncomputable def o51 (_ : Params) : Obj := ⟨.type "function", none, .func (fnAt 17 (.none) (.str (Str.ofString "cpy313.email.quoprimime") 1250) (.ref 50)), #[]⟩
noncomputable def o53 (_ : Params) : Obj := ⟨.type "list", none, .seq (.str (Str.ofString "=00") 213 :: .str (Str.ofString "=01") 217 :: .str (Str.ofString "=02") 221 :: .str (Str.ofString "=03") 225 :: .str (Str.ofString "=04") 229 :: .str (Str.ofString "=05") 233 :: .str (Str.ofString "=06") 237 :: .str (Str.ofString "=07") 241 :: .str (Str.ofString "=08") 245 :: .str (Str.ofString "\t") 1748 :: .str (Str.ofString "\n") 1770 :: .str (Str.ofString "=0B") 257 :: .str (Str.ofString "=0C") 261 :: .str (Str.ofString "\x0d") 1767 :: .str (Str.ofString "=0E") 269 :: .str (Str.ofString "=0F") 273 :: .str (Str.ofString "=10") 277 :: .str (Str.ofString "=11") 281 :: .str (Str.ofString "=12") 285 :: .str (Str.ofString "=13") 289 :: .str (Str.ofString "=14") 293 :: .str (Str.ofString "=15") 297 :: .str (Str.ofString "=16") 301 :: .str (Str.ofString "=17") 305 :: .str (Str.ofString "=18") 309 :: .str (Str.ofString "=19") 313 :: .str (Str.ofString "=1A") 317 :: .str (Str.ofString "=1B") 321 :: .str (Str.ofString "=1C") 325 :: .str (Str.ofString "=1D") 329 :: .str (Str.ofString "=1E") 333 :: .str (Str.ofString "=1F") 337 :: .str (Str.ofString " ") 1466 :: .str (Str.ofString "!") 1469 :: .str (Str.ofString "\"") 1472 :: .str (Str.ofString "#") 1475 :: .str (Str.ofString "$") 1478 :: .str (Str.ofString "%") 1481 :: .str (Str.ofString "&") 1484 :: .str (Str.ofString "'") 1487 :: .str (Str.ofString "(") 1490 :: .str (Str.ofString ")") 1493 :: .str (Str.ofString "*") 1496 :: .str (Str.ofString "+") 1499 :: .str (Str.ofString ",") 1502 :: .str (Str.ofString "-") 1505 :: .str (Str.ofString ".") 1508 :: .str (Str.ofString "/") 1511 :: .str (Str.ofString "0") 1514 :: .str (Str.ofString "1") 1517 :: .str (Str.ofString "2") 1520 :: .str (Str.ofString "3") 1523 :: .str (Str.ofString "4") 1526 :: .str (Str.ofString "5") 1529 :: .str (Str.ofString "6") 1532 :: .str (Str.ofString "7") 1535 :: .str (Str.ofString "8") 1538 :: .str (Str.ofString "9") 1541 :: .str (Str.ofString ":") 1544 :: .str (Str.ofString ";") 1547 :: .str (Str.ofString "<") 1550 :: .str (Str.ofString "=3D") 457 :: .str (Str.ofString ">") 1553 :: .str (Str.ofString "?") 1556 :: .str (Str.ofString "@") 1559 :: .str (Str.ofString "A") 1562 :: .str (Str.ofString "B") 1565 :: .str (Str.ofString "C") 1568 :: .str (Str.ofString "D") 1571 :: .str (Str.ofString "E") 1574 :: .str (Str.ofString "F") 1577 :: .str (Str.ofString "G") 1580 :: .str (Str.ofString "H") 1583 :: .str (Str.ofString "I") 1586 :: .str (Str.ofString "J") 1589 :: .str (Str.ofString "K") 1592 :: .str (Str.ofString "L") 1595 :: .str (Str.ofString "M") 1598 :: .str (Str.ofString "N") 1601 :: .str (Str.ofString "O") 1604 :: .str (Str.ofString "P") 1607 :: .str (Str.ofString "Q") 1610 :: .str (Str.ofString "R") 1613 :: .str (Str.ofString "S") 1616 :: .str (Str.ofString "T") 1619 :: .str (Str.ofString "U") 1622 :: .str (Str.ofString "V") 1625 :: .str (Str.ofString "W") 1628 :: .str (Str.ofString "X") 1631 :: .str (Str.ofString "Y") 1634 :: .str (Str.ofString "Z") 1637 :: .str (Str.ofString "[") 1640 :: .str (Str.ofString "\\") 1643 :: .str (Str.ofString "]") 1646 :: .str (Str.ofString "^") 1649 :: .str (Str.ofString "_") 1652 :: .str (Str.ofString "`") 1655 :: .str (Str.ofString "a") 1658 :: .str (Str.ofString "b") 1661 :: .str (Str.ofString "c") 1664 :: .str (Str.ofString "d") 1667 :: .str (Str.ofString "e") 1670 :: .str (Str.ofString "f") 1673 :: .str (Str.ofString "g") 1676 :: .str (Str.ofString "h") 1679 :: .str (Str.ofString "i") 1682 :: .str (Str.ofString "j") 1685 :: .str (Str.ofString "k") 1688 :: .str (Str.ofString "l") 1691 :: .str (Str.ofString "m") 1694 :: .str (Str.ofString "n") 1697 :: .str (Str.ofString "o") 1700 :: .str (Str.ofString "p") 1703 :: .str (Str.ofString "q") 1706 :: .str (Str.ofString "r") 1709 :: .str (Str.ofString "s") 1712 :: .str (Str.ofString "t") 1715 :: .str (Str.ofString "u") 1718 :: .str (Str.ofString "v") 1721 :: .str (Str.ofString "w") 1724 :: .str (Str.ofString "x") 1727 :: .str (Str.ofString "y") 1730 :: .str (Str.ofString "z") 1733 :: .str (Str.ofString "{") 1736 :: .str (Str.ofString "|") 1739 :: .str (Str.ofString "}") 1742 :: .str (Str.ofString "~") 1745 :: .str (Str.ofString "=7F") 721 :: .str (Str.ofString "=80") 725 :: .str (Str.ofString "=81") 729 :: .str (Str.ofString "=82") 733 :: .str (Str.ofString "=83") 737 :: .str (Str.ofString "=84") 741 :: .str (Str.ofString "=85") 745 :: .str (Str.ofString "=86") 749 :: .str (Str.ofString "=87") 753 :: .str (Str.ofString "=88") 757 :: .str (Str.ofString "=89") 761 :: .str (Str.ofString "=8A") 765 :: .str (Str.ofString "=8B") 769 :: .str (Str.ofString "=8C") 773 :: .str (Str.ofString "=8D") 777 :: .str (Str.ofString "=8E") 781 :: .str (Str.ofString "=8F") 785 :: .str (Str.ofString "=90") 789 :: .str (Str.ofString "=91") 793 :: .str (Str.ofString "=92") 797 :: .str (Str.ofString "=93") 801 :: .str (Str.ofString "=94") 805 :: .str (Str.ofString "=95") 809 :: .str (Str.ofString "=96") 813 :: .str (Str.ofString "=97") 817 :: .str (Str.ofString "=98") 821 :: .str (Str.ofString "=99") 825 :: .str (Str.ofString "=9A") 829 :: .str (Str.ofString "=9B") 833 :: .str (Str.ofString "=9C") 837 :: .str (Str.ofString "=9D") 841 :: .str (Str.ofString "=9E") 845 :: .str (Str.ofString "=9F") 849 :: .str (Str.ofString "=A0") 853 :: .str (Str.ofString "=A1") 857 :: .str (Str.ofString "=A2") 861 :: .str (Str.ofString "=A3") 865 :: .str (Str.ofString "=A4") 869 :: .str (Str.ofString "=A5") 873 :: .str (Str.ofString "=A6") 877 :: .str (Str.ofString "=A7") 881 :: .str (Str.ofString "=A8") 885 :: .str (Str.ofString "=A9") 889 :: .str (Str.ofString "=AA") 893 :: .str (Str.ofString "=AB") 897 :: .str (Str.ofString "=AC") 901 :: .str (Str.ofString "=AD") 905 :: .str (Str.ofString "=AE") 909 :: .str (Str.ofString "=AF") 913 :: .str (Str.ofString "=B0") 917 :: .str (Str.ofString "=B1") 921 :: .str (Str.ofString "=B2") 925 :: .str (Str.ofString "=B3") 929 :: .str (Str.ofString "=B4") 933 :: .str (Str.ofString "=B5") 937 :: .str (Str.ofString "=B6") 941 :: .str (Str.ofString "=B7") 945 :: .str (Str.ofString "=B8") 949 :: .str (Str.ofString "=B9") 953 :: .str (Str.ofString "=BA") 957 :: .str (Str.ofString "=BB") 961 :: .str (Str.ofString "=BC") 965 :: .str (Str.ofString "=BD") 969 :: .str (Str.ofString "=BE") 973 :: .str (Str.ofString "=BF") 977 :: .str (Str.ofString "=C0") 981 :: .str (Str.ofString "=C1") 985 :: .str (Str.ofString "=C2") 989 :: .str (Str.ofString "=C3") 993 :: .str (Str.ofString "=C4") 997 :: .str (Str.ofString "=C5") 1001 :: .str (Str.ofString "=C6") 1005 :: .str (Str.ofString "=C7") 1009 :: .str (Str.ofString "=C8") 1013 :: .str (Str.ofString "=C9") 1017 :: .str (Str.ofString "=CA") 1021 :: .str (Str.ofString "=CB") 1025 :: .str (Str.ofString "=CC") 1029 :: .str (Str.ofString "=CD") 1033 :: .str (Str.ofString "=CE") 1037 :: .str (Str.ofString "=CF") 1041 :: .str (Str.ofString "=D0") 1045 :: .str (Str.ofString "=D1") 1049 :: .str (Str.ofString "=D2") 1053 :: .str (Str.ofString "=D3") 1057 :: .str (Str.ofString "=D4") 1061 :: .str (Str.ofString "=D5") 1065 :: .str (Str.ofString "=D6") 1069 :: .str (Str.ofString "=D7") 1073 :: .str (Str.ofString "=D8") 1077 :: .str (Str.ofString "=D9") 1081 :: .str (Str.ofString "=DA") 1085 :: .str (Str.ofString "=DB") 1089 :: .str (Str.ofString "=DC") 1093 :: .str (Str.ofString "=DD") 1097 :: .str (Str.ofString "=DE") 1101 :: .str (Str.ofString "=DF") 1105 :: .str (Str.ofString "=E0") 1109 :: .str (Str.ofString "=E1") 1113 :: .str (Str.ofString "=E2") 1117 :: .str (Str.ofString "=E3") 1121 :: .str (Str.ofString "=E4") 1125 :: .str (Str.ofString "=E5") 1129 :: .str (Str.ofString "=E6") 1133 :: .str (Str.ofString "=E7") 1137 :: .str (Str.ofString "=E8") 1141 :: .str (Str.ofString "=E9") 1145 :: .str (Str.ofString "=EA") 1149 :: .str (Str.ofString "=EB") 1153 :: .str (Str.ofString "=EC") 1157 :: .str (Str.ofString "=ED") 1161 :: .str (Str.ofString "=EE") 1165 :: .str (Str.ofString "=EF") 1169 :: .str (Str.ofString "=F0") 1173 :: .str (Str.ofString "=F1") 1177 :: .str (Str.ofString "=F2") 1181 :: .str (Str.ofString "=F3") 1185 :: .str (Str.ofString "=F4") 1189 :: .str (Str.ofString "=F5") 1193 :: .str (Str.ofString "=F6") 1197 :: .str (Str.ofString "=F7") 1201 :: .str (Str.ofString "=F8") 1205 :: .str (Str.ofString "=F9") 1209 :: .str (Str.ofString "=FA") 1213 :: .str (Str.ofString "=FB") 1217 :: .str (Str.ofString "=FC") 1221 :: .str (Str.ofString "=FD") 1225 :: .str (Str.ofString "=FE") 1229 :: .str (Str.ofString "=FF") 1233 :: []).toArray 0, #[]⟩
noncomputable def o57 (_ : Params) : Obj := ⟨.type "tuple", none, .seq #[.int (76) 1771, .str (Str.ofString "\n") 205] 0, #[]⟩
noncomputable def o63 (_ : Params) : Obj := ⟨.type "code", none, .fields #[.str (Str.ofString "body_encode") 1772, .str (Str.ofString "body_encode") 1773, .str (Str.ofString "/claim/cut.py") 1774, .int (58) 0, .int (3) 0, .int (0) 0, .int (0) 0, .int (3) 0, .ref 58, .bool true, .int (181) 0, .ref 59, .none, .ref 60, .ref 61, .ref 62, .int (1788) 0, .int (58) 0, .str (Str.ofString "/claim/cut.py") 1789], #[]⟩
noncomputable def o64 (_ : Params) : Obj := ⟨.type "function", none, .func (fnAt 21 (.ref 57) (.str (Str.ofString "cpy313.email.quoprimime") 1250) (.ref 63)), #[]⟩
noncomputable def o65 (_ : Params) : Obj := ⟨.type "tuple", none, .seq #[.str (Str.ofString "\n") 205] 0, #[]⟩
noncomputable def o71 (_ : Params) : Obj := ⟨.type "code", none, .fields #[.str (Str.ofString "decode") 1791, .str (Str.ofString "decode") 1792, .str (Str.ofString "/claim/cut.py") 1793, .int (96) 0, .int (2) 0, .int (0) 0, .int (0) 0, .int (3) 0, .ref 66, .bool true, .int (181) 0, .ref 67, .none, .ref 68, .ref 69, .ref 70, .int (1801) 0, .int (96) 0, .str (Str.ofString "/claim/cut.py") 1802], #[]⟩
noncomputable def o72 (_ : Params) : Obj := ⟨.type "function", none, .func (fnAt 22 (.ref 65) (.str (Str.ofString "cpy313.email.quoprimime") 1250) (.ref 71)), #[]⟩
noncomputable def o78 (_ : Params) : Obj := ⟨.type "code", none, .fields #[.str (Str.ofString "heappop") 1806, .str (Str.ofString "heappop") 1807, .str (Str.ofString "/claim/cut.py") 1808, .int (127) 0, .int (1) 0, .int (0) 0, .int (0) 0, .int (3) 0, .ref 73, .bool true, .int (181) 0, .ref 74, .none, .ref 75, .ref 76, .ref 77, .int (1812) 0, .int (127) 0, .str (Str.ofString "/claim/cut.py") 1813], #[]⟩
noncomputable def o79 (_ : Params) : Obj := ⟨.type "function", none, .func (fnAt 24 (.none) (.str (Str.ofString "cpy313.heapq") 1804) (.ref 78)), #[]⟩
noncomputable def o85 (_ : Params) : Obj := ⟨.type "code", none, .fields #[.str (Str.ofString "heapify") 1815, .str (Str.ofString "heapify") 1816, .str (Str.ofString "/claim/cut.py") 1817, .int (135) 0, .int (1) 0, .int (0) 0, .int (0) 0, .int (3) 0, .ref 80, .bool true, .int (181) 0, .ref 81, .none, .ref 82, .ref 83, .ref 84, .int (1821) 0, .int (135) 0, .str (Str.ofString "/claim/cut.py") 1822], #[]⟩
noncomputable def o86 (_ : Params) : Obj := ⟨.type "function", none, .func (fnAt 25 (.none) (.str (Str.ofString "cpy313.heapq") 1804) (.ref 85)), #[]⟩
noncomputable def o92 (_ : Params) : Obj := ⟨.type "code", none, .fields #[.str (Str.ofString "_siftdown") 1824, .str (Str.ofString "_siftdown") 1825, .str (Str.ofString "/claim/cut.py") 1826, .int (139) 0, .int (3) 0, .int (0) 0, .int (0) 0, .int (3) 0, .ref 87, .bool true, .int (181) 0, .ref 88, .none, .ref 89, .ref 90, .ref 91, .int (1833) 0, .int (139) 0, .str (Str.ofString "/claim/cut.py") 1834], #[]⟩
noncomputable def o93 (_ : Params) : Obj := ⟨.type "function", none, .func (fnAt 26 (.none) (.str (Str.ofString "cpy313.heapq") 1804) (.ref 92)), #[]⟩
noncomputable def o99 (_ : Params) : Obj := ⟨.type "code", none, .fields #[.str (Str.ofString "_siftup") 1836, .str (Str.ofString "_siftup") 1837, .str (Str.ofString "/claim/cut.py") 1838, .int (150) 0, .int (2) 0, .int (0) 0, .int (0) 0, .int (3) 0, .ref 94, .bool true, .int (181) 0, .ref 95, .none, .ref 96, .ref 97, .ref 98, .int (1846) 0, .int (150) 0, .str (Str.ofString "/claim/cut.py") 1847], #[]⟩
noncomputable def o100 (_ : Params) : Obj := ⟨.type "function", none, .func (fnAt 27 (.none) (.str (Str.ofString "cpy313.heapq") 1804) (.ref 99)), #[]⟩
noncomputable def o104 (_ : Params) : Obj := ⟨.type "code", none, .fields #[.str (Str.ofString "_law_numbers") 1851, .str (Str.ofString "_law_numbers") 1852, .str (Str.ofString "/claim/cut.py") 1853, .int (165) 0, .int (1) 0, .int (0) 0, .int (0) 0, .int (3) 0, .ref 101, .bool true, .int (181) 0, .ref 102, .none, .none, .none, .ref 103, .int (1854) 0, .int (165) 0, .str (Str.ofString "/claim/cut.py") 1855], #[]⟩
noncomputable def o105 (_ : Params) : Obj := ⟨.type "function", none, .func (fnAt 29 (.none) (.str (Str.ofString "law_op0130_01") 1849) (.ref 104)), #[]⟩
noncomputable def o111 (_ : Params) : Obj := ⟨.type "code", none, .fields #[.str (Str.ofString "_law_octet") 1857, .str (Str.ofString "_law_octet") 1858, .str (Str.ofString "/claim/cut.py") 1859, .int (168) 0, .int (1) 0, .int (0) 0, .int (0) 0, .int (3) 0, .ref 106, .bool true, .int (181) 0, .ref 107, .none, .ref 108, .ref 109, .ref 110, .int (1862) 0, .int (168) 0, .str (Str.ofString "/claim/cut.py") 1863], #[]⟩
noncomputable def o112 (_ : Params) : Obj := ⟨.type "function", none, .func (fnAt 30 (.none) (.str (Str.ofString "law_op0130_01") 1849) (.ref 111)), #[]⟩
noncomputable def o118 (_ : Params) : Obj := ⟨.type "code", none, .fields #[.str (Str.ofString "_law_sign") 1865, .str (Str.ofString "_law_sign") 1866, .str (Str.ofString "/claim/cut.py") 1867, .int (179) 0, .int (2) 0, .int (0) 0, .int (0) 0, .int (3) 0, .ref 113, .bool true, .int (181) 0, .ref 114, .none, .ref 115, .ref 116, .ref 117, .int (1871) 0, .int (179) 0, .str (Str.ofString "/claim/cut.py") 1872], #[]⟩
noncomputable def o119 (_ : Params) : Obj := ⟨.type "function", none, .func (fnAt 31 (.none) (.str (Str.ofString "law_op0130_01") 1849) (.ref 118)), #[]⟩
noncomputable def o123 (_ : Params) : Obj := ⟨.type "code", none, .fields #[.str (Str.ofString "_law_rows") 1874, .str (Str.ofString "_law_rows") 1875, .str (Str.ofString "/claim/cut.py") 1876, .int (186) 0, .int (1) 0, .int (0) 0, .int (0) 0, .int (3) 0, .ref 120, .bool true, .int (181) 0, .ref 121, .none, .none, .none, .ref 122, .int (1877) 0, .int (186) 0, .str (Str.ofString "/claim/cut.py") 1878], #[]⟩
noncomputable def o124 (_ : Params) : Obj := ⟨.type "function", none, .func (fnAt 32 (.none) (.str (Str.ofString "law_op0130_01") 1849) (.ref 123)), #[]⟩
noncomputable def o128 (_ : Params) : Obj := ⟨.type "code", none, .fields #[.str (Str.ofString "_law_stretches") 1880, .str (Str.ofString "_law_stretches") 1881, .str (Str.ofString "/claim/cut.py") 1882, .int (189) 0, .int (3) 0, .int (0) 0, .int (0) 0, .int (3) 0, .ref 125, .bool true, .int (181) 0, .ref 126, .none, .none, .none, .ref 127, .int (1883) 0, .int (189) 0, .str (Str.ofString "/claim/cut.py") 1884], #[]⟩
noncomputable def o129 (_ : Params) : Obj := ⟨.type "function", none, .func (fnAt 33 (.none) (.str (Str.ofString "law_op0130_01") 1849) (.ref 128)), #[]⟩
noncomputable def o133 (_ : Params) : Obj := ⟨.type "code", none, .fields #[.str (Str.ofString "_law_apart") 1886, .str (Str.ofString "_law_apart") 1887, .str (Str.ofString "/claim/cut.py") 1888, .int (197) 0, .int (2) 0, .int (0) 0, .int (0) 0, .int (3) 0, .ref 130, .bool true, .int (181) 0, .ref 131, .none, .none, .none, .ref 132, .int (1889) 0, .int (197) 0, .str (Str.ofString "/claim/cut.py") 1890], #[]⟩
noncomputable def o134 (_ : Params) : Obj := ⟨.type "function", none, .func (fnAt 34 (.none) (.str (Str.ofString "law_op0130_01") 1849) (.ref 133)), #[]⟩
noncomputable def o140 (_ : Params) : Obj := ⟨.type "code", none, .fields #[.str (Str.ofString "_law_chosen") 1892, .str (Str.ofString "_law_chosen") 1893, .str (Str.ofString "/claim/cut.py") 1894, .int (206) 0, .int (1) 0, .int (0) 0, .int (0) 0, .int (3) 0, .ref 135, .bool true, .int (181) 0, .ref 136, .none, .ref 137, .ref 138, .ref 139, .int (1903) 0, .int (206) 0, .str (Str.ofString "/claim/cut.py") 1904], #[]⟩
noncomputable def o141 (_ : Params) : Obj := ⟨.type "function", none, .func (fnAt 35 (.none) (.str (Str.ofString "law_op0130_01") 1849) (.ref 140)), #[]⟩
noncomputable def o147 (_ : Params) : Obj := ⟨.type "code", none, .fields #[.str (Str.ofString "_law_breaks") 1906, .str (Str.ofString "_law_breaks") 1907, .str (Str.ofString "/claim/cut.py") 1908, .int (221) 0, .int (1) 0, .int (0) 0, .int (0) 0, .int (3) 0, .ref 142, .bool true, .int (181) 0, .ref 143, .none, .ref 144, .ref 145, .ref 146, .int (1913) 0, .int (221) 0, .str (Str.ofString "/claim/cut.py") 1914], #[]⟩
noncomputable def o148 (_ : Params) : Obj := ⟨.type "function", none, .func (fnAt 36 (.none) (.str (Str.ofString "law_op0130_01") 1849) (.ref 147)), #[]⟩
noncomputable def o154 (_ : Params) : Obj := ⟨.type "code", none, .fields #[.str (Str.ofString "_law_met") 1916, .str (Str.ofString "_law_met") 1917, .str (Str.ofString "/claim/cut.py") 1918, .int (231) 0, .int (2) 0, .int (0) 0, .int (0) 0, .int (3) 0, .ref 149, .bool true, .int (181) 0, .ref 150, .none, .ref 151, .ref 152, .ref 153, .int (1925) 0, .int (231) 0, .str (Str.ofString "/claim/cut.py") 1926], #[]⟩
noncomputable def o155 (_ : Params) : Obj := ⟨.type "function", none, .func (fnAt 37 (.none) (.str (Str.ofString "law_op0130_01") 1849) (.ref 154)), #[]⟩
noncomputable def o159 (_ : Params) : Obj := ⟨.type "code", none, .fields #[.str (Str.ofString "_law_holds") 1928, .str (Str.ofString "_law_holds") 1929, .str (Str.ofString "/claim/cut.py") 1930, .int (238) 0, .int (3) 0, .int (0) 0, .int (0) 0, .int (3) 0, .ref 156, .bool true, .int (181) 0, .ref 157, .none, .none, .none, .ref 158, .int (1931) 0, .int (238) 0, .str (Str.ofString "/claim/cut.py") 1932], #[]⟩
noncomputable def o160 (_ : Params) : Obj := ⟨.type "function", none, .func (fnAt 38 (.none) (.str (Str.ofString "law_op0130_01") 1849) (.ref 159)), #[]⟩
noncomputable def o164 (_ : Params) : Obj := ⟨.type "code", none, .fields #[.str (Str.ofString "law") 1934, .str (Str.ofString "law") 1935, .str (Str.ofString "/claim/cut.py") 1936, .int (250) 0, .int (1) 0, .int (0) 0, .int (0) 0, .int (3) 0, .ref 161, .bool true, .int (181) 0, .ref 162, .none, .none, .none, .ref 163, .int (1937) 0, .int (250) 0, .str (Str.ofString "/claim/cut.py") 1938], #[]⟩
noncomputable def o165 (_ : Params) : Obj := ⟨.type "function", none, .func (fnAt 39 (.none) (.str (Str.ofString "law_op0130_01") 1849) (.ref 164)), #[]⟩
noncomputable def Kf (P : Params) : Frag := (nat_lit 2, o2 P) :: (nat_lit 3, o3 P) :: (nat_lit 20, o20 P) :: (nat_lit 21, o21 P) :: (nat_lit 43, o43 P) :: (nat_lit 44, o44 P) :: (nat_lit 50, o50 P) :: (nat_lit 51, o51 P) :: (nat_lit 53, o53 P) :: (nat_lit 57, o57 P) :: (nat_lit 63, o63 P) :: (nat_lit 64, o64 P) :: (nat_lit 65, o65 P) :: (nat_lit 71, o71 P) :: (nat_lit 72, o72 P) :: (nat_lit 78, o78 P) :: (nat_lit 79, o79 P) :: (nat_lit 85, o85 P) :: (nat_lit 86, o86 P) :: (nat_lit 92, o92 P) :: (nat_lit 93, o93 P) :: (nat_lit 99, o99 P) :: (nat_lit 100, o100 P) :: (nat_lit 104, o104 P) :: (nat_lit 105, o105 P) :: (nat_lit 111, o111 P) :: (nat_lit 112, o112 P) :: (nat_lit 118, o118 P) :: (nat_lit 119, o119 P) :: (nat_lit 123, o123 P) :: (nat_lit 124, o124 P) :: (nat_lit 128, o128 P) :: (nat_lit 129, o129 P) :: (nat_lit 133, o133 P) :: (nat_lit 134, o134 P) :: (nat_lit 140, o140 P) :: (nat_lit 141, o141 P) :: (nat_lit 147, o147 P) :: (nat_lit 148, o148 P) :: (nat_lit 154, o154 P) :: (nat_lit 155, o155 P) :: (nat_lit 159, o159 P) :: (nat_lit 160, o160 P) :: (nat_lit 164, o164 P) :: (nat_lit 165, o165 P) :: []
noncomputable def kAddrs : List Addr := [nat_lit 2, nat_lit 3, nat_lit 20, nat_lit 21, nat_lit 43, nat_lit 44, nat_lit 50, nat_lit 51, nat_lit 53, nat_lit 57, nat_lit 63, nat_lit 64, nat_lit 65, nat_lit 71, nat_lit 72, nat_lit 78, nat_lit 79, nat_lit 85, nat_lit 86, nat_lit 92, nat_lit 93, nat_lit 99, nat_lit 100, nat_lit 104, nat_lit 105, nat_lit 111, nat_lit 112, nat_lit 118, nat_lit 119, nat_lit 123, nat_lit 124, nat_lit 128, nat_lit 129, nat_lit 133, nat_lit 134, nat_lit 140, nat_lit 141, nat_lit 147, nat_lit 148, nat_lit 154, nat_lit 155, nat_lit 159, nat_lit 160, nat_lit 164, nat_lit 165]
noncomputable def q : Program := { PySem.Challenge.pw_op0130_01 with main := { PySem.Challenge.pw_op0130_01.main with body := [stm 39] } }
noncomputable def loose : List Str := [Str.ofString "sorted_list_difference", Str.ofString "CRLF", Str.ofString "NL", Str.ofString "_QUOPRI_MAP", Str.ofString "_QUOPRI_HEADER_MAP", Str.ofString "_QUOPRI_BODY_MAP", Str.ofString "ascii_lowercase", Str.ofString "ascii_uppercase", Str.ofString "ascii_letters", Str.ofString "digits", Str.ofString "hexdigits", Str.ofString "unquote", Str.ofString "quote", Str.ofString "_QUOPRI_BODY_ENCODE_MAP", Str.ofString "body_encode", Str.ofString "decode", Str.ofString "heappop", Str.ofString "heapify", Str.ofString "_siftdown", Str.ofString "_siftup", Str.ofString "_law_numbers", Str.ofString "_law_octet", Str.ofString "_law_sign", Str.ofString "_law_rows", Str.ofString "_law_stretches", Str.ofString "_law_apart", Str.ofString "_law_chosen", Str.ofString "_law_breaks", Str.ofString "_law_met", Str.ofString "_law_holds"]
end
section
set_option Elab.async false
set_option maxRecDepth 100000
set_option maxHeartbeats 0

noncomputable def topGoT (tb : String → Option Builtin) (p : Program) (w : World) (n₀ : Nat) (ann : Option Value) : Nat → SharedT → Thread → Option (SharedT × Thread)
  | 0, s, t => some (s, t)
  | n + 1, s, t => match through t with
    | true => none
    | false => match stepOk n₀ ann t with
      | false => none
      | true => match stepT (denote tb) p w s t with
        | some (s', t') => topGoT tb p w n₀ ann n s' t'
        | none => none
theorem topGoT_of {tb : String → Option Builtin} {p : Program} {w : World} {n₀ : Nat} {ann : Option Value} :
    ∀ (n : Nat) (s s' : SharedT) (t t' : Thread), topGoT tb p w n₀ ann n s t = some (s', t') → topGo tb p w n₀ ann n s.abs t = some (s'.abs, t')
  | 0, s, s', t, t', h => by
    unfold topGoT at h
    unfold topGo
    cases h; rfl
  | n + 1, s, s', t, t', h => by
    unfold topGoT at h
    unfold topGo
    cases ht : through t with
    | true => rw [ht] at h; cases h
    | false =>
      rw [ht] at h
      cases hk : stepOk n₀ ann t with
      | false => rw [hk] at h; cases h
      | true =>
        rw [hk] at h
        cases hs : stepT (denote tb) p w s t with
        | none => rw [hs] at h; cases h
        | some r => obtain ⟨s₂, t₂⟩ := r; rw [hs] at h; rw [stepT_spec hs]; exact topGoT_of n s₂ s' t₂ t' h

noncomputable def bootT (P : Params) : BT := .node (boot_o_0 P) (.node (boot_o_1 P) (.node (boot_o_3 P) (.node (boot_o_7 P) .nil .nil) .nil) (.node (boot_o_5 P) (.node (boot_o_9 P) .nil .nil) .nil)) (.node (boot_o_2 P) (.node (boot_o_4 P) (.node (boot_o_8 P) .nil .nil) .nil) (.node (boot_o_6 P) (.node (boot_o_10 P) .nil .nil) .nil))
noncomputable def s0T (P : Params) (os : OsState) : SharedT := ⟨bootT P, 11, {}, Array.mk [], boot_drawn, boot_toks, os⟩
theorem s0T_abs (P : Params) (os : OsState) : (s0T P os).abs = ⟨boot_heap P, Array.mk [], boot_drawn, boot_toks, os⟩ := by kernel_rfl

-- states of the top: ahead of the text's first statement, behind statements 4, 13, 15
noncomputable def stG11_0 (_ : Params) : Obj := ⟨(.type "tuple"), none, .seq #[] 0, #[]⟩
noncomputable def stG13_0 (_ : Params) : Obj := ⟨(.type "code"), none, .fields ((.str (Str.ofString "<module>") 182) :: (.str (Str.ofString "<module>") 183) :: (.str (Str.ofString "/claim/cut.py") 184) :: (.int (1) 0) :: (.int (0) 0) :: (.int (0) 0) :: (.int (0) 0) :: (.int (0) 0) :: (.ref 11) :: (.bool false) :: (.int (181) 0) :: (.ref 12) :: .none :: .none :: .none :: .none :: (.int (185) 0) :: (.int (1) 0) :: (.str (Str.ofString "/claim/cut.py") 186) :: []).toArray, #[]⟩
noncomputable def stG12_0 (_ : Params) : Obj := ⟨.none, none, .fields #[], #[]⟩
noncomputable def stG14_0 (_ : Params) : Obj := ⟨(.type "frame"), none, .plain, (some (.ref 13) :: some (.ref 3) :: some (.ref 3) :: none :: some (.str (Str.ofString "__main__") 164) :: none :: some (.ref 0) :: []).toArray⟩
noncomputable def treePRE (P : Params) : BT := (.node (boot_o_0 P) (.node (boot_o_1 P) (.node (boot_o_3 P) (.node (boot_o_7 P) .nil .nil) (.node (stG11_0 P) .nil .nil)) (.node (boot_o_5 P) (.node (boot_o_9 P) .nil .nil) (.node (stG13_0 P) .nil .nil))) (.node (boot_o_2 P) (.node (boot_o_4 P) (.node (boot_o_8 P) .nil .nil) (.node (stG12_0 P) .nil .nil)) (.node (boot_o_6 P) (.node (boot_o_10 P) .nil .nil) (.node (stG14_0 P) .nil .nil))))
noncomputable def sPRE (P : Params) (os : OsState) : SharedT := ⟨treePRE P, 15, {}, Array.mk [], boot_drawn, 187, os⟩
noncomputable def stG3_0 (P : Params) : Obj := ⟨(.type "dict"), none, .dict (ent P "__name__" 165 (.str (Str.ofString "cpy313.unittest.util") 187) :: ent P "__doc__" 166 .none :: ent P "__package__" 167 .none :: ent P "__loader__" 168 (.builtin "__main__.__loader__#opaque") :: ent P "__spec__" 169 .none :: ent P "__annotations__" 170 (.ref 6) :: ent P "__builtins__" 171 (.ref 4) :: ent P "__file__" 173 (.str (Str.ofString "/claim/cut.py") 172) :: ent P "__cached__" 174 .none :: ent P "sorted_list_difference" 202 (.ref 21) :: ent P "CRLF" 204 (.str (Str.ofString "\x0d\n") 203) :: ent P "NL" 206 (.str (Str.ofString "\n") 205) :: ent P "_QUOPRI_MAP" 1234 (.ref 24) :: []).toArray 13, #[]⟩
noncomputable def stG15_0 (_ : Params) : Obj := ⟨(.type "tuple"), none, .seq #[] 0, #[]⟩
noncomputable def stG23_0 (_ : Params) : Obj := ⟨(.type "range_iterator"), none, .fields ((.int (256) 0) :: (.int (0) 0) :: (.int (1) 0) :: []).toArray, #[]⟩
noncomputable def stG19_0 (_ : Params) : Obj := ⟨.none, none, .func { fnAt 1 .none .none .none with globals := 0 }, #[]⟩
noncomputable def stG27_0 (_ : Params) : Obj := ⟨(.type "StopIteration"), none, .fields ((.ref 26) :: .none :: .none :: .none :: (.bool false) :: .none :: []).toArray, #[]⟩
noncomputable def stG17_0 (_ : Params) : Obj := ⟨(.type "tuple"), none, .seq ((.str (Str.ofString "expected") 192) :: (.str (Str.ofString "actual") 193) :: (.str (Str.ofString "i") 194) :: (.str (Str.ofString "j") 195) :: (.str (Str.ofString "missing") 196) :: (.str (Str.ofString "unexpected") 197) :: (.str (Str.ofString "e") 198) :: (.str (Str.ofString "a") 199) :: []).toArray 0, #[]⟩
noncomputable def stG25_0 (_ : Params) : Obj := ⟨(.type "dict"), none, .dict #[] 2, #[]⟩
noncomputable def stG16_0 (_ : Params) : Obj := ⟨.none, none, .fields #[], #[]⟩
noncomputable def stK0 (r : List Value) : List Value := (.str (Str.ofString "=00") 213) :: (.str (Str.ofString "=01") 217) :: (.str (Str.ofString "=02") 221) :: (.str (Str.ofString "=03") 225) :: (.str (Str.ofString "=04") 229) :: (.str (Str.ofString "=05") 233) :: (.str (Str.ofString "=06") 237) :: (.str (Str.ofString "=07") 241) :: (.str (Str.ofString "=08") 245) :: (.str (Str.ofString "=09") 249) :: (.str (Str.ofString "=0A") 253) :: (.str (Str.ofString "=0B") 257) :: (.str (Str.ofString "=0C") 261) :: (.str (Str.ofString "=0D") 265) :: (.str (Str.ofString "=0E") 269) :: (.str (Str.ofString "=0F") 273) :: (.str (Str.ofString "=10") 277) :: (.str (Str.ofString "=11") 281) :: (.str (Str.ofString "=12") 285) :: (.str (Str.ofString "=13") 289) :: (.str (Str.ofString "=14") 293) :: (.str (Str.ofString "=15") 297) :: (.str (Str.ofString "=16") 301) :: (.str (Str.ofString "=17") 305) :: (.str (Str.ofString "=18") 309) :: (.str (Str.ofString "=19") 313) :: (.str (Str.ofString "=1A") 317) :: (.str (Str.ofString "=1B") 321) :: (.str (Str.ofString "=1C") 325) :: (.str (Str.ofString "=1D") 329) :: (.str (Str.ofString "=1E") 333) :: (.str (Str.ofString "=1F") 337) :: r
noncomputable def stK1 (r : List Value) : List Value := (.str (Str.ofString "=20") 341) :: (.str (Str.ofString "=21") 345) :: (.str (Str.ofString "=22") 349) :: (.str (Str.ofString "=23") 353) :: (.str (Str.ofString "=24") 357) :: (.str (Str.ofString "=25") 361) :: (.str (Str.ofString "=26") 365) :: (.str (Str.ofString "=27") 369) :: (.str (Str.ofString "=28") 373) :: (.str (Str.ofString "=29") 377) :: (.str (Str.ofString "=2A") 381) :: (.str (Str.ofString "=2B") 385) :: (.str (Str.ofString "=2C") 389) :: (.str (Str.ofString "=2D") 393) :: (.str (Str.ofString "=2E") 397) :: (.str (Str.ofString "=2F") 401) :: (.str (Str.ofString "=30") 405) :: (.str (Str.ofString "=31") 409) :: (.str (Str.ofString "=32") 413) :: (.str (Str.ofString "=33") 417) :: (.str (Str.ofString "=34") 421) :: (.str (Str.ofString "=35") 425) :: (.str (Str.ofString "=36") 429) :: (.str (Str.ofString "=37") 433) :: (.str (Str.ofString "=38") 437) :: (.str (Str.ofString "=39") 441) :: (.str (Str.ofString "=3A") 445) :: (.str (Str.ofString "=3B") 449) :: (.str (Str.ofString "=3C") 453) :: (.str (Str.ofString "=3D") 457) :: (.str (Str.ofString "=3E") 461) :: (.str (Str.ofString "=3F") 465) :: r
noncomputable def stK2 (r : List Value) : List Value := (.str (Str.ofString "=40") 469) :: (.str (Str.ofString "=41") 473) :: (.str (Str.ofString "=42") 477) :: (.str (Str.ofString "=43") 481) :: (.str (Str.ofString "=44") 485) :: (.str (Str.ofString "=45") 489) :: (.str (Str.ofString "=46") 493) :: (.str (Str.ofString "=47") 497) :: (.str (Str.ofString "=48") 501) :: (.str (Str.ofString "=49") 505) :: (.str (Str.ofString "=4A") 509) :: (.str (Str.ofString "=4B") 513) :: (.str (Str.ofString "=4C") 517) :: (.str (Str.ofString "=4D") 521) :: (.str (Str.ofString "=4E") 525) :: (.str (Str.ofString "=4F") 529) :: (.str (Str.ofString "=50") 533) :: (.str (Str.ofString "=51") 537) :: (.str (Str.ofString "=52") 541) :: (.str (Str.ofString "=53") 545) :: (.str (Str.ofString "=54") 549) :: (.str (Str.ofString "=55") 553) :: (.str (Str.ofString "=56") 557) :: (.str (Str.ofString "=57") 561) :: (.str (Str.ofString "=58") 565) :: (.str (Str.ofString "=59") 569) :: (.str (Str.ofString "=5A") 573) :: (.str (Str.ofString "=5B") 577) :: (.str (Str.ofString "=5C") 581) :: (.str (Str.ofString "=5D") 585) :: (.str (Str.ofString "=5E") 589) :: (.str (Str.ofString "=5F") 593) :: r
noncomputable def stK3 (r : List Value) : List Value := (.str (Str.ofString "=60") 597) :: (.str (Str.ofString "=61") 601) :: (.str (Str.ofString "=62") 605) :: (.str (Str.ofString "=63") 609) :: (.str (Str.ofString "=64") 613) :: (.str (Str.ofString "=65") 617) :: (.str (Str.ofString "=66") 621) :: (.str (Str.ofString "=67") 625) :: (.str (Str.ofString "=68") 629) :: (.str (Str.ofString "=69") 633) :: (.str (Str.ofString "=6A") 637) :: (.str (Str.ofString "=6B") 641) :: (.str (Str.ofString "=6C") 645) :: (.str (Str.ofString "=6D") 649) :: (.str (Str.ofString "=6E") 653) :: (.str (Str.ofString "=6F") 657) :: (.str (Str.ofString "=70") 661) :: (.str (Str.ofString "=71") 665) :: (.str (Str.ofString "=72") 669) :: (.str (Str.ofString "=73") 673) :: (.str (Str.ofString "=74") 677) :: (.str (Str.ofString "=75") 681) :: (.str (Str.ofString "=76") 685) :: (.str (Str.ofString "=77") 689) :: (.str (Str.ofString "=78") 693) :: (.str (Str.ofString "=79") 697) :: (.str (Str.ofString "=7A") 701) :: (.str (Str.ofString "=7B") 705) :: (.str (Str.ofString "=7C") 709) :: (.str (Str.ofString "=7D") 713) :: (.str (Str.ofString "=7E") 717) :: (.str (Str.ofString "=7F") 721) :: r
noncomputable def stK4 (r : List Value) : List Value := (.str (Str.ofString "=80") 725) :: (.str (Str.ofString "=81") 729) :: (.str (Str.ofString "=82") 733) :: (.str (Str.ofString "=83") 737) :: (.str (Str.ofString "=84") 741) :: (.str (Str.ofString "=85") 745) :: (.str (Str.ofString "=86") 749) :: (.str (Str.ofString "=87") 753) :: (.str (Str.ofString "=88") 757) :: (.str (Str.ofString "=89") 761) :: (.str (Str.ofString "=8A") 765) :: (.str (Str.ofString "=8B") 769) :: (.str (Str.ofString "=8C") 773) :: (.str (Str.ofString "=8D") 777) :: (.str (Str.ofString "=8E") 781) :: (.str (Str.ofString "=8F") 785) :: (.str (Str.ofString "=90") 789) :: (.str (Str.ofString "=91") 793) :: (.str (Str.ofString "=92") 797) :: (.str (Str.ofString "=93") 801) :: (.str (Str.ofString "=94") 805) :: (.str (Str.ofString "=95") 809) :: (.str (Str.ofString "=96") 813) :: (.str (Str.ofString "=97") 817) :: (.str (Str.ofString "=98") 821) :: (.str (Str.ofString "=99") 825) :: (.str (Str.ofString "=9A") 829) :: (.str (Str.ofString "=9B") 833) :: (.str (Str.ofString "=9C") 837) :: (.str (Str.ofString "=9D") 841) :: (.str (Str.ofString "=9E") 845) :: (.str (Str.ofString "=9F") 849) :: r
noncomputable def stK5 (r : List Value) : List Value := (.str (Str.ofString "=A0") 853) :: (.str (Str.ofString "=A1") 857) :: (.str (Str.ofString "=A2") 861) :: (.str (Str.ofString "=A3") 865) :: (.str (Str.ofString "=A4") 869) :: (.str (Str.ofString "=A5") 873) :: (.str (Str.ofString "=A6") 877) :: (.str (Str.ofString "=A7") 881) :: (.str (Str.ofString "=A8") 885) :: (.str (Str.ofString "=A9") 889) :: (.str (Str.ofString "=AA") 893) :: (.str (Str.ofString "=AB") 897) :: (.str (Str.ofString "=AC") 901) :: (.str (Str.ofString "=AD") 905) :: (.str (Str.ofString "=AE") 909) :: (.str (Str.ofString "=AF") 913) :: (.str (Str.ofString "=B0") 917) :: (.str (Str.ofString "=B1") 921) :: (.str (Str.ofString "=B2") 925) :: (.str (Str.ofString "=B3") 929) :: (.str (Str.ofString "=B4") 933) :: (.str (Str.ofString "=B5") 937) :: (.str (Str.ofString "=B6") 941) :: (.str (Str.ofString "=B7") 945) :: (.str (Str.ofString "=B8") 949) :: (.str (Str.ofString "=B9") 953) :: (.str (Str.ofString "=BA") 957) :: (.str (Str.ofString "=BB") 961) :: (.str (Str.ofString "=BC") 965) :: (.str (Str.ofString "=BD") 969) :: (.str (Str.ofString "=BE") 973) :: (.str (Str.ofString "=BF") 977) :: r
noncomputable def stK6 (r : List Value) : List Value := (.str (Str.ofString "=C0") 981) :: (.str (Str.ofString "=C1") 985) :: (.str (Str.ofString "=C2") 989) :: (.str (Str.ofString "=C3") 993) :: (.str (Str.ofString "=C4") 997) :: (.str (Str.ofString "=C5") 1001) :: (.str (Str.ofString "=C6") 1005) :: (.str (Str.ofString "=C7") 1009) :: (.str (Str.ofString "=C8") 1013) :: (.str (Str.ofString "=C9") 1017) :: (.str (Str.ofString "=CA") 1021) :: (.str (Str.ofString "=CB") 1025) :: (.str (Str.ofString "=CC") 1029) :: (.str (Str.ofString "=CD") 1033) :: (.str (Str.ofString "=CE") 1037) :: (.str (Str.ofString "=CF") 1041) :: (.str (Str.ofString "=D0") 1045) :: (.str (Str.ofString "=D1") 1049) :: (.str (Str.ofString "=D2") 1053) :: (.str (Str.ofString "=D3") 1057) :: (.str (Str.ofString "=D4") 1061) :: (.str (Str.ofString "=D5") 1065) :: (.str (Str.ofString "=D6") 1069) :: (.str (Str.ofString "=D7") 1073) :: (.str (Str.ofString "=D8") 1077) :: (.str (Str.ofString "=D9") 1081) :: (.str (Str.ofString "=DA") 1085) :: (.str (Str.ofString "=DB") 1089) :: (.str (Str.ofString "=DC") 1093) :: (.str (Str.ofString "=DD") 1097) :: (.str (Str.ofString "=DE") 1101) :: (.str (Str.ofString "=DF") 1105) :: r
noncomputable def stK7 (r : List Value) : List Value := (.str (Str.ofString "=E0") 1109) :: (.str (Str.ofString "=E1") 1113) :: (.str (Str.ofString "=E2") 1117) :: (.str (Str.ofString "=E3") 1121) :: (.str (Str.ofString "=E4") 1125) :: (.str (Str.ofString "=E5") 1129) :: (.str (Str.ofString "=E6") 1133) :: (.str (Str.ofString "=E7") 1137) :: (.str (Str.ofString "=E8") 1141) :: (.str (Str.ofString "=E9") 1145) :: (.str (Str.ofString "=EA") 1149) :: (.str (Str.ofString "=EB") 1153) :: (.str (Str.ofString "=EC") 1157) :: (.str (Str.ofString "=ED") 1161) :: (.str (Str.ofString "=EE") 1165) :: (.str (Str.ofString "=EF") 1169) :: (.str (Str.ofString "=F0") 1173) :: (.str (Str.ofString "=F1") 1177) :: (.str (Str.ofString "=F2") 1181) :: (.str (Str.ofString "=F3") 1185) :: (.str (Str.ofString "=F4") 1189) :: (.str (Str.ofString "=F5") 1193) :: (.str (Str.ofString "=F6") 1197) :: (.str (Str.ofString "=F7") 1201) :: (.str (Str.ofString "=F8") 1205) :: (.str (Str.ofString "=F9") 1209) :: (.str (Str.ofString "=FA") 1213) :: (.str (Str.ofString "=FB") 1217) :: (.str (Str.ofString "=FC") 1221) :: (.str (Str.ofString "=FD") 1225) :: (.str (Str.ofString "=FE") 1229) :: (.str (Str.ofString "=FF") 1233) :: r
noncomputable def stL0 : List Value := (stK0 (stK1 (stK2 (stK3 (stK4 (stK5 (stK6 (stK7 []))))))))
noncomputable def stG24_0 (_ : Params) : Obj := ⟨.type "list", none, .seq stL0.toArray 256, #[]⟩
noncomputable def stG12_1 (_ : Params) : Obj := ⟨.none, none, .fields ((.int (2) 0) :: (.int (0) 0) :: (.ref 20) :: []).toArray, #[]⟩
noncomputable def stG18_0 (_ : Params) : Obj := ⟨(.type "tuple"), none, .seq #[] 0, #[]⟩
noncomputable def stG26_0 (_ : Params) : Obj := ⟨(.type "tuple"), none, .seq #[] 0, #[]⟩
noncomputable def stG22_0 (_ : Params) : Obj := ⟨(.type "range"), none, .fields ((.int (0) 208) :: (.int (256) 207) :: (.int (1) 209) :: []).toArray, #[]⟩
noncomputable def treeS4 (P : Params) : BT := (.node (boot_o_0 P) (.node (boot_o_1 P) (.node (stG3_0 P) (.node (boot_o_7 P) (.node (stG15_0 P) .nil .nil) (.node (stG23_0 P) .nil .nil)) (.node (stG11_0 P) (.node (stG19_0 P) .nil .nil) (.node (stG27_0 P) .nil .nil))) (.node (boot_o_5 P) (.node (boot_o_9 P) (.node (stG17_0 P) .nil .nil) (.node (stG25_0 P) .nil .nil)) (.node (stG13_0 P) (.node (o21 P) .nil .nil) .nil))) (.node (boot_o_2 P) (.node (boot_o_4 P) (.node (boot_o_8 P) (.node (stG16_0 P) .nil .nil) (.node (stG24_0 P) .nil .nil)) (.node (stG12_1 P) (.node (o20 P) .nil .nil) .nil)) (.node (boot_o_6 P) (.node (boot_o_10 P) (.node (stG18_0 P) .nil .nil) (.node (stG26_0 P) .nil .nil)) (.node (stG14_0 P) (.node (stG22_0 P) .nil .nil) .nil))))
noncomputable def sS4 (P : Params) (os : OsState) : SharedT := ⟨treeS4 P, 28, {}, Array.mk [], boot_drawn, 1235, os⟩
noncomputable def stG3_1 (P : Params) : Obj := ⟨(.type "dict"), none, .dict (ent P "__name__" 165 (.str (Str.ofString "cpy313.email.quoprimime") 1250) :: ent P "__doc__" 166 .none :: ent P "__package__" 167 .none :: ent P "__loader__" 168 (.builtin "__main__.__loader__#opaque") :: ent P "__spec__" 169 .none :: ent P "__annotations__" 170 (.ref 6) :: ent P "__builtins__" 171 (.ref 4) :: ent P "__file__" 173 (.str (Str.ofString "/claim/cut.py") 172) :: ent P "__cached__" 174 .none :: ent P "sorted_list_difference" 202 (.ref 21) :: ent P "CRLF" 204 (.str (Str.ofString "\x0d\n") 203) :: ent P "NL" 206 (.str (Str.ofString "\n") 205) :: ent P "_QUOPRI_MAP" 1234 (.ref 24) :: ent P "_QUOPRI_HEADER_MAP" 1235 (.ref 29) :: ent P "_QUOPRI_BODY_MAP" 1236 (.ref 31) :: ent P "ascii_lowercase" 1238 (.str (Str.ofString "abcdefghijklmnopqrstuvwxyz") 1237) :: ent P "ascii_uppercase" 1240 (.str (Str.ofString "ABCDEFGHIJKLMNOPQRSTUVWXYZ") 1239) :: ent P "ascii_letters" 1242 (.str (Str.ofString "abcdefghijklmnopqrstuvwxyzABCDEFGHIJKLMNOPQRSTUVWXYZ") 1241) :: ent P "digits" 1244 (.str (Str.ofString "0123456789") 1243) :: ent P "hexdigits" 1249 (.str (Str.ofString "0123456789abcdefABCDEF") 1248) :: ent P "c" 1260 (.int (57) 1457) :: []).toArray 21, #[]⟩
noncomputable def stG31_0 (_ : Params) : Obj := ⟨.type "list", none, .seq stL0.toArray 0, #[]⟩
noncomputable def stG33_0 (_ : Params) : Obj := ⟨(.type "tuple"), none, .seq #[] 0, #[]⟩
noncomputable def stK8 (r : List Value) : List Value := (.str (Str.ofString "=20") 341) :: (.str (Str.ofString "!") 1264) :: (.str (Str.ofString "=22") 349) :: (.str (Str.ofString "=23") 353) :: (.str (Str.ofString "=24") 357) :: (.str (Str.ofString "=25") 361) :: (.str (Str.ofString "=26") 365) :: (.str (Str.ofString "=27") 369) :: (.str (Str.ofString "=28") 373) :: (.str (Str.ofString "=29") 377) :: (.str (Str.ofString "*") 1267) :: (.str (Str.ofString "+") 1270) :: (.str (Str.ofString "=2C") 389) :: (.str (Str.ofString "-") 1261) :: (.str (Str.ofString "=2E") 397) :: (.str (Str.ofString "/") 1273) :: (.str (Str.ofString "0") 1432) :: (.str (Str.ofString "1") 1435) :: (.str (Str.ofString "2") 1438) :: (.str (Str.ofString "3") 1441) :: (.str (Str.ofString "4") 1444) :: (.str (Str.ofString "5") 1447) :: (.str (Str.ofString "6") 1450) :: (.str (Str.ofString "7") 1453) :: (.str (Str.ofString "8") 1456) :: (.str (Str.ofString "9") 1459) :: (.str (Str.ofString "=3A") 445) :: (.str (Str.ofString "=3B") 449) :: (.str (Str.ofString "=3C") 453) :: (.str (Str.ofString "=3D") 457) :: (.str (Str.ofString "=3E") 461) :: (.str (Str.ofString "=3F") 465) :: r
noncomputable def stK9 (r : List Value) : List Value := (.str (Str.ofString "=40") 469) :: (.str (Str.ofString "A") 1354) :: (.str (Str.ofString "B") 1357) :: (.str (Str.ofString "C") 1360) :: (.str (Str.ofString "D") 1363) :: (.str (Str.ofString "E") 1366) :: (.str (Str.ofString "F") 1369) :: (.str (Str.ofString "G") 1372) :: (.str (Str.ofString "H") 1375) :: (.str (Str.ofString "I") 1378) :: (.str (Str.ofString "J") 1381) :: (.str (Str.ofString "K") 1384) :: (.str (Str.ofString "L") 1387) :: (.str (Str.ofString "M") 1390) :: (.str (Str.ofString "N") 1393) :: (.str (Str.ofString "O") 1396) :: (.str (Str.ofString "P") 1399) :: (.str (Str.ofString "Q") 1402) :: (.str (Str.ofString "R") 1405) :: (.str (Str.ofString "S") 1408) :: (.str (Str.ofString "T") 1411) :: (.str (Str.ofString "U") 1414) :: (.str (Str.ofString "V") 1417) :: (.str (Str.ofString "W") 1420) :: (.str (Str.ofString "X") 1423) :: (.str (Str.ofString "Y") 1426) :: (.str (Str.ofString "Z") 1429) :: (.str (Str.ofString "=5B") 577) :: (.str (Str.ofString "=5C") 581) :: (.str (Str.ofString "=5D") 585) :: (.str (Str.ofString "=5E") 589) :: (.str (Str.ofString "=5F") 593) :: r
noncomputable def stK10 (r : List Value) : List Value := (.str (Str.ofString "=60") 597) :: (.str (Str.ofString "a") 1276) :: (.str (Str.ofString "b") 1279) :: (.str (Str.ofString "c") 1282) :: (.str (Str.ofString "d") 1285) :: (.str (Str.ofString "e") 1288) :: (.str (Str.ofString "f") 1291) :: (.str (Str.ofString "g") 1294) :: (.str (Str.ofString "h") 1297) :: (.str (Str.ofString "i") 1300) :: (.str (Str.ofString "j") 1303) :: (.str (Str.ofString "k") 1306) :: (.str (Str.ofString "l") 1309) :: (.str (Str.ofString "m") 1312) :: (.str (Str.ofString "n") 1315) :: (.str (Str.ofString "o") 1318) :: (.str (Str.ofString "p") 1321) :: (.str (Str.ofString "q") 1324) :: (.str (Str.ofString "r") 1327) :: (.str (Str.ofString "s") 1330) :: (.str (Str.ofString "t") 1333) :: (.str (Str.ofString "u") 1336) :: (.str (Str.ofString "v") 1339) :: (.str (Str.ofString "w") 1342) :: (.str (Str.ofString "x") 1345) :: (.str (Str.ofString "y") 1348) :: (.str (Str.ofString "z") 1351) :: (.str (Str.ofString "=7B") 705) :: (.str (Str.ofString "=7C") 709) :: (.str (Str.ofString "=7D") 713) :: (.str (Str.ofString "=7E") 717) :: (.str (Str.ofString "=7F") 721) :: r
noncomputable def stL1 : List Value := (stK0 (stK8 (stK9 (stK10 (stK4 (stK5 (stK6 (stK7 []))))))))
noncomputable def stG29_0 (_ : Params) : Obj := ⟨.type "list", none, .seq stL1.toArray 0, #[]⟩
noncomputable def stG32_0 (_ : Params) : Obj := ⟨(.type "bytes_iterator"), none, .fields (.none :: (.int (67) 0) :: []).toArray, #[]⟩
noncomputable def stG28_0 (_ : Params) : Obj := ⟨(.type "slice"), none, .fields (.none :: .none :: .none :: []).toArray, #[]⟩
noncomputable def stG34_0 (_ : Params) : Obj := ⟨(.type "StopIteration"), none, .fields ((.ref 33) :: .none :: .none :: .none :: (.bool false) :: .none :: []).toArray, #[]⟩
noncomputable def stG30_0 (_ : Params) : Obj := ⟨(.type "slice"), none, .fields (.none :: .none :: .none :: []).toArray, #[]⟩
noncomputable def treeS13 (P : Params) : BT := (.node (boot_o_0 P) (.node (boot_o_1 P) (.node (stG3_1 P) (.node (boot_o_7 P) (.node (stG15_0 P) (.node (stG31_0 P) .nil .nil) .nil) (.node (stG23_0 P) .nil .nil)) (.node (stG11_0 P) (.node (stG19_0 P) .nil .nil) (.node (stG27_0 P) .nil .nil))) (.node (boot_o_5 P) (.node (boot_o_9 P) (.node (stG17_0 P) (.node (stG33_0 P) .nil .nil) .nil) (.node (stG25_0 P) .nil .nil)) (.node (stG13_0 P) (.node (o21 P) .nil .nil) (.node (stG29_0 P) .nil .nil)))) (.node (boot_o_2 P) (.node (boot_o_4 P) (.node (boot_o_8 P) (.node (stG16_0 P) (.node (stG32_0 P) .nil .nil) .nil) (.node (stG24_0 P) .nil .nil)) (.node (stG12_1 P) (.node (o20 P) .nil .nil) (.node (stG28_0 P) .nil .nil))) (.node (boot_o_6 P) (.node (boot_o_10 P) (.node (stG18_0 P) (.node (stG34_0 P) .nil .nil) .nil) (.node (stG26_0 P) .nil .nil)) (.node (stG14_0 P) (.node (stG22_0 P) .nil .nil) (.node (stG30_0 P) .nil .nil)))))
noncomputable def sS13 (P : Params) (os : OsState) : SharedT := ⟨treeS13 P, 35, {}, Array.mk [], boot_drawn, 1460, os⟩
noncomputable def stG3_2 (P : Params) : Obj := ⟨(.type "dict"), none, .dict (ent P "__name__" 165 (.str (Str.ofString "cpy313.email.quoprimime") 1250) :: ent P "__doc__" 166 .none :: ent P "__package__" 167 .none :: ent P "__loader__" 168 (.builtin "__main__.__loader__#opaque") :: ent P "__spec__" 169 .none :: ent P "__annotations__" 170 (.ref 6) :: ent P "__builtins__" 171 (.ref 4) :: ent P "__file__" 173 (.str (Str.ofString "/claim/cut.py") 172) :: ent P "__cached__" 174 .none :: ent P "sorted_list_difference" 202 (.ref 21) :: ent P "CRLF" 204 (.str (Str.ofString "\x0d\n") 203) :: ent P "NL" 206 (.str (Str.ofString "\n") 205) :: ent P "_QUOPRI_MAP" 1234 (.ref 24) :: ent P "_QUOPRI_HEADER_MAP" 1235 (.ref 29) :: ent P "_QUOPRI_BODY_MAP" 1236 (.ref 31) :: ent P "ascii_lowercase" 1238 (.str (Str.ofString "abcdefghijklmnopqrstuvwxyz") 1237) :: ent P "ascii_uppercase" 1240 (.str (Str.ofString "ABCDEFGHIJKLMNOPQRSTUVWXYZ") 1239) :: ent P "ascii_letters" 1242 (.str (Str.ofString "abcdefghijklmnopqrstuvwxyzABCDEFGHIJKLMNOPQRSTUVWXYZ") 1241) :: ent P "digits" 1244 (.str (Str.ofString "0123456789") 1243) :: ent P "hexdigits" 1249 (.str (Str.ofString "0123456789abcdefABCDEF") 1248) :: ent P "c" 1260 (.int (9) 1746) :: []).toArray 21, #[]⟩
noncomputable def stK11 (r : List Value) : List Value := (.str (Str.ofString "=00") 213) :: (.str (Str.ofString "=01") 217) :: (.str (Str.ofString "=02") 221) :: (.str (Str.ofString "=03") 225) :: (.str (Str.ofString "=04") 229) :: (.str (Str.ofString "=05") 233) :: (.str (Str.ofString "=06") 237) :: (.str (Str.ofString "=07") 241) :: (.str (Str.ofString "=08") 245) :: (.str (Str.ofString "\t") 1748) :: (.str (Str.ofString "=0A") 253) :: (.str (Str.ofString "=0B") 257) :: (.str (Str.ofString "=0C") 261) :: (.str (Str.ofString "=0D") 265) :: (.str (Str.ofString "=0E") 269) :: (.str (Str.ofString "=0F") 273) :: (.str (Str.ofString "=10") 277) :: (.str (Str.ofString "=11") 281) :: (.str (Str.ofString "=12") 285) :: (.str (Str.ofString "=13") 289) :: (.str (Str.ofString "=14") 293) :: (.str (Str.ofString "=15") 297) :: (.str (Str.ofString "=16") 301) :: (.str (Str.ofString "=17") 305) :: (.str (Str.ofString "=18") 309) :: (.str (Str.ofString "=19") 313) :: (.str (Str.ofString "=1A") 317) :: (.str (Str.ofString "=1B") 321) :: (.str (Str.ofString "=1C") 325) :: (.str (Str.ofString "=1D") 329) :: (.str (Str.ofString "=1E") 333) :: (.str (Str.ofString "=1F") 337) :: r
noncomputable def stK12 (r : List Value) : List Value := (.str (Str.ofString " ") 1466) :: (.str (Str.ofString "!") 1469) :: (.str (Str.ofString "\"") 1472) :: (.str (Str.ofString "#") 1475) :: (.str (Str.ofString "$") 1478) :: (.str (Str.ofString "%") 1481) :: (.str (Str.ofString "&") 1484) :: (.str (Str.ofString "'") 1487) :: (.str (Str.ofString "(") 1490) :: (.str (Str.ofString ")") 1493) :: (.str (Str.ofString "*") 1496) :: (.str (Str.ofString "+") 1499) :: (.str (Str.ofString ",") 1502) :: (.str (Str.ofString "-") 1505) :: (.str (Str.ofString ".") 1508) :: (.str (Str.ofString "/") 1511) :: (.str (Str.ofString "0") 1514) :: (.str (Str.ofString "1") 1517) :: (.str (Str.ofString "2") 1520) :: (.str (Str.ofString "3") 1523) :: (.str (Str.ofString "4") 1526) :: (.str (Str.ofString "5") 1529) :: (.str (Str.ofString "6") 1532) :: (.str (Str.ofString "7") 1535) :: (.str (Str.ofString "8") 1538) :: (.str (Str.ofString "9") 1541) :: (.str (Str.ofString ":") 1544) :: (.str (Str.ofString ";") 1547) :: (.str (Str.ofString "<") 1550) :: (.str (Str.ofString "=3D") 457) :: (.str (Str.ofString ">") 1553) :: (.str (Str.ofString "?") 1556) :: r
noncomputable def stK13 (r : List Value) : List Value := (.str (Str.ofString "@") 1559) :: (.str (Str.ofString "A") 1562) :: (.str (Str.ofString "B") 1565) :: (.str (Str.ofString "C") 1568) :: (.str (Str.ofString "D") 1571) :: (.str (Str.ofString "E") 1574) :: (.str (Str.ofString "F") 1577) :: (.str (Str.ofString "G") 1580) :: (.str (Str.ofString "H") 1583) :: (.str (Str.ofString "I") 1586) :: (.str (Str.ofString "J") 1589) :: (.str (Str.ofString "K") 1592) :: (.str (Str.ofString "L") 1595) :: (.str (Str.ofString "M") 1598) :: (.str (Str.ofString "N") 1601) :: (.str (Str.ofString "O") 1604) :: (.str (Str.ofString "P") 1607) :: (.str (Str.ofString "Q") 1610) :: (.str (Str.ofString "R") 1613) :: (.str (Str.ofString "S") 1616) :: (.str (Str.ofString "T") 1619) :: (.str (Str.ofString "U") 1622) :: (.str (Str.ofString "V") 1625) :: (.str (Str.ofString "W") 1628) :: (.str (Str.ofString "X") 1631) :: (.str (Str.ofString "Y") 1634) :: (.str (Str.ofString "Z") 1637) :: (.str (Str.ofString "[") 1640) :: (.str (Str.ofString "\\") 1643) :: (.str (Str.ofString "]") 1646) :: (.str (Str.ofString "^") 1649) :: (.str (Str.ofString "_") 1652) :: r
noncomputable def stK14 (r : List Value) : List Value := (.str (Str.ofString "`") 1655) :: (.str (Str.ofString "a") 1658) :: (.str (Str.ofString "b") 1661) :: (.str (Str.ofString "c") 1664) :: (.str (Str.ofString "d") 1667) :: (.str (Str.ofString "e") 1670) :: (.str (Str.ofString "f") 1673) :: (.str (Str.ofString "g") 1676) :: (.str (Str.ofString "h") 1679) :: (.str (Str.ofString "i") 1682) :: (.str (Str.ofString "j") 1685) :: (.str (Str.ofString "k") 1688) :: (.str (Str.ofString "l") 1691) :: (.str (Str.ofString "m") 1694) :: (.str (Str.ofString "n") 1697) :: (.str (Str.ofString "o") 1700) :: (.str (Str.ofString "p") 1703) :: (.str (Str.ofString "q") 1706) :: (.str (Str.ofString "r") 1709) :: (.str (Str.ofString "s") 1712) :: (.str (Str.ofString "t") 1715) :: (.str (Str.ofString "u") 1718) :: (.str (Str.ofString "v") 1721) :: (.str (Str.ofString "w") 1724) :: (.str (Str.ofString "x") 1727) :: (.str (Str.ofString "y") 1730) :: (.str (Str.ofString "z") 1733) :: (.str (Str.ofString "{") 1736) :: (.str (Str.ofString "|") 1739) :: (.str (Str.ofString "}") 1742) :: (.str (Str.ofString "~") 1745) :: (.str (Str.ofString "=7F") 721) :: r
noncomputable def stL2 : List Value := (stK11 (stK12 (stK13 (stK14 (stK4 (stK5 (stK6 (stK7 []))))))))
noncomputable def stG31_1 (_ : Params) : Obj := ⟨.type "list", none, .seq stL2.toArray 0, #[]⟩
noncomputable def stG35_0 (_ : Params) : Obj := ⟨(.type "bytes_iterator"), none, .fields (.none :: (.int (95) 0) :: []).toArray, #[]⟩
noncomputable def stG37_0 (_ : Params) : Obj := ⟨(.type "StopIteration"), none, .fields ((.ref 36) :: .none :: .none :: .none :: (.bool false) :: .none :: []).toArray, #[]⟩
noncomputable def stK15 (r : List Value) : List Value := (.str (Str.ofString "_") 1460) :: (.str (Str.ofString "!") 1264) :: (.str (Str.ofString "=22") 349) :: (.str (Str.ofString "=23") 353) :: (.str (Str.ofString "=24") 357) :: (.str (Str.ofString "=25") 361) :: (.str (Str.ofString "=26") 365) :: (.str (Str.ofString "=27") 369) :: (.str (Str.ofString "=28") 373) :: (.str (Str.ofString "=29") 377) :: (.str (Str.ofString "*") 1267) :: (.str (Str.ofString "+") 1270) :: (.str (Str.ofString "=2C") 389) :: (.str (Str.ofString "-") 1261) :: (.str (Str.ofString "=2E") 397) :: (.str (Str.ofString "/") 1273) :: (.str (Str.ofString "0") 1432) :: (.str (Str.ofString "1") 1435) :: (.str (Str.ofString "2") 1438) :: (.str (Str.ofString "3") 1441) :: (.str (Str.ofString "4") 1444) :: (.str (Str.ofString "5") 1447) :: (.str (Str.ofString "6") 1450) :: (.str (Str.ofString "7") 1453) :: (.str (Str.ofString "8") 1456) :: (.str (Str.ofString "9") 1459) :: (.str (Str.ofString "=3A") 445) :: (.str (Str.ofString "=3B") 449) :: (.str (Str.ofString "=3C") 453) :: (.str (Str.ofString "=3D") 457) :: (.str (Str.ofString "=3E") 461) :: (.str (Str.ofString "=3F") 465) :: r
noncomputable def stL3 : List Value := (stK0 (stK15 (stK9 (stK10 (stK4 (stK5 (stK6 (stK7 []))))))))
noncomputable def stG29_1 (_ : Params) : Obj := ⟨.type "list", none, .seq stL3.toArray 0, #[]⟩
noncomputable def stG36_0 (_ : Params) : Obj := ⟨(.type "tuple"), none, .seq #[] 0, #[]⟩
noncomputable def treeS15 (P : Params) : BT := (.node (boot_o_0 P) (.node (boot_o_1 P) (.node (stG3_2 P) (.node (boot_o_7 P) (.node (stG15_0 P) (.node (stG31_1 P) .nil .nil) .nil) (.node (stG23_0 P) .nil .nil)) (.node (stG11_0 P) (.node (stG19_0 P) (.node (stG35_0 P) .nil .nil) .nil) (.node (stG27_0 P) .nil .nil))) (.node (boot_o_5 P) (.node (boot_o_9 P) (.node (stG17_0 P) (.node (stG33_0 P) .nil .nil) .nil) (.node (stG25_0 P) .nil .nil)) (.node (stG13_0 P) (.node (o21 P) (.node (stG37_0 P) .nil .nil) .nil) (.node (stG29_1 P) .nil .nil)))) (.node (boot_o_2 P) (.node (boot_o_4 P) (.node (boot_o_8 P) (.node (stG16_0 P) (.node (stG32_0 P) .nil .nil) .nil) (.node (stG24_0 P) .nil .nil)) (.node (stG12_1 P) (.node (o20 P) (.node (stG36_0 P) .nil .nil) .nil) (.node (stG28_0 P) .nil .nil))) (.node (boot_o_6 P) (.node (boot_o_10 P) (.node (stG18_0 P) (.node (stG34_0 P) .nil .nil) .nil) (.node (stG26_0 P) .nil .nil)) (.node (stG14_0 P) (.node (stG22_0 P) .nil .nil) (.node (stG30_0 P) .nil .nil)))))
noncomputable def sS15 (P : Params) (os : OsState) : SharedT := ⟨treeS15 P, 38, {}, Array.mk [], boot_drawn, 1749, os⟩
noncomputable def benv (p : Program) : Env := { scope := p.main.scope, locals := mainNs, globals := mainNs, cells := [], code := .ref 13, frame := some 14 }
noncomputable def codeB (p : Program) : Code := .body p.main.body (benv p)
noncomputable def pos0 : Pos := ⟨0, 0, 0, 0⟩
noncomputable def pos4 : Pos := ⟨36, 0, 36, 11⟩
noncomputable def pos13 : Pos := ⟨45, 9, 45, 74⟩
noncomputable def pos15 : Pos := ⟨48, 9, 48, 110⟩
noncomputable def pos39 : Pos := ⟨250, 0, 253, 89⟩
noncomputable def xt (s : Shared) : Bool := xlAt q [] s && recOk [] s
noncomputable def looks (p q : Program) (loose : List Str) (H : Heap) (s : Shared) :=
  ((staticsOk (importedModules p.main.body) H s.heap && namesBound p s.heap && gensDone s && laidKept H s.heap),
  openSeen q loose (importedModules p.main.body) (fun s => xlAt q [] s && recOk [] s) true s, kAddrs.map s.heap.get?)
noncomputable def goods (q : Program) (loose : List Str) (kv : List (Option Obj)) := (true, openGood q loose, kv)
noncomputable def preF (p : Program) (w : World) (os : OsState) := topGoT treeTable p w 11 (some (.ref 6)) 12 (s0T w.params os) (topStub p)
noncomputable def segF (p : Program) (w : World) (n : Nat) (l : List Stmt) (pos : Pos) (s : SharedT) := segRunT treeTable p w 11 (some (.ref 6)) 1 n s (piecesOf l (benv p) (codeB p) pos [topFrame pos0])
noncomputable def lastF (p q : Program) (loose : List Str) (w : World) (n : Nat) (l : List Stmt) (pos : Pos) (s : SharedT) := (segF p w n l pos s).map fun r => (r.1, r.2.2, looks p q loose (boot_heap w.params) r.2.1.abs)
theorem segF_self : segF = segF := rfl
theorem lastF_self : lastF = lastF := rfl
name_quick segQ for segF by segF_self
name_quick lastQ for lastF by lastF_self
noncomputable abbrev pw : Program := PySem.Challenge.pw_op0130_01
noncomputable def stA : List Stmt := pw.main.body.take 5
noncomputable def stB : List Stmt := (pw.main.body.drop 5).take 9
noncomputable def stC : List Stmt := (pw.main.body.drop 14).take 2
noncomputable def stD : List Stmt := pw.main.body.drop 16
noncomputable def RunA (w : World) (os : OsState) : Prop := PySem.W.Fast.segQ pw w 9640 stA pos0 (sPRE w.params os) = some (.next, sS4 w.params os, codeB pw, pos4)
noncomputable def RunB (w : World) (os : OsState) : Prop := PySem.W.Fast.segQ pw w 3215 stB pos4 (sS4 w.params os) = some (.next, sS13 w.params os, codeB pw, pos13)
noncomputable def RunC (w : World) (os : OsState) : Prop := PySem.W.Fast.segQ pw w 4335 stC pos13 (sS13 w.params os) = some (.next, sS15 w.params os, codeB pw, pos15)
noncomputable def RunD (w : World) (os : OsState) : Prop := PySem.W.Fast.lastQ pw q loose w 770 stD pos15 (sS15 w.params os) = some (.next, (codeB pw, pos39), goods q loose ((Kf w.params).map fun p => some p.2))
theorem pre_run (w : World) (os : OsState) : preF pw w os = some (sPRE w.params os, ⟨denote treeTable (codeB pw), codeB pw, pos0, [topFrame pos0]⟩) := by kernel_rfl
theorem body_cut : pw.main.body = stA ++ (stB ++ (stC ++ (stD ++ []))) := by kernel_rfl
theorem fin_run (w : World) (s : Shared) : topRun treeTable pw w 11 (some (.ref 6)) 3 s ⟨doneF .next, codeB pw, pos39, [topFrame pos0]⟩ = some s := by kernel_rfl
theorem top_run {w : World} {os : OsState} (hA : RunA w os) (hB : RunB w os) (hC : RunC w os) (hD : RunD w os) :
    ∃ s, topRun treeTable pw w 11 (some (.ref 6)) 18000 (s0T w.params os).abs (topStub pw) = some s ∧ looks pw q loose (boot_heap w.params) s = goods q loose ((Kf w.params).map fun p => some p.2) := by
  unfold RunA at hA; unfold RunB at hB; unfold RunC at hC; unfold RunD at hD
  rw [← PySem.W.Fast.segQ_eq] at hA hB hC
  rw [← PySem.W.Fast.lastQ_eq] at hD
  unfold segF at hA hB hC
  unfold lastF segF at hD
  obtain ⟨⟨f, s, c, p'⟩, hr, hl⟩ := Option.map_eq_some_iff.mp hD
  simp only [Prod.mk.injEq] at hl
  obtain ⟨rfl, ⟨rfl, rfl⟩, hl⟩ := hl
  refine ⟨s.abs, ?_, hl⟩
  have k := piece_app (segRun_of hA) (piece_app (segRun_of hB) (piece_app (segRun_of hC) (piece_app (segRun_of hr) (piece_nil (fin_run w s.abs)))))
  rw [← body_cut] at k
  exact topRun_mono 24 _ _ _ _ (go_top (topGoT_of _ _ _ _ _ (pre_run w os)) (piece_block (n := 1) rfl k))
end
section
set_option Elab.async false
set_option maxRecDepth 100000
set_option maxHeartbeats 0
noncomputable def bootIn (p : Program) (w : World) := (fencedOpening treeTable p w 18000).map (fun s => (s.heap, s.gens, s.drawn, s.toks))
noncomputable def bootOut (w : World) : Option (Heap × Array GenState × Drawn × Nat) := some (boot_heap w.params, Array.mk [], boot_drawn, boot_toks)
theorem bootIn_self : bootIn = bootIn := rfl
name_quick bootInQ for bootIn by bootIn_self
theorem boot_runs (w : World) : PySem.W.Fast.bootInQ PySem.Challenge.pw_op0130_01 w = bootOut w := by kernel_rfl
end
section
set_option Elab.async false
set_option maxRecDepth 100000
set_option maxHeartbeats 0
theorem runA_ff (w : World) (os : OsState) : RunA ((w.withFollow "comprehension-iter-twice" false).withFollow "special-get-raises" false) os := by unfold RunA; kernel_rfl
theorem runA_ft (w : World) (os : OsState) : RunA ((w.withFollow "comprehension-iter-twice" false).withFollow "special-get-raises" true) os := by unfold RunA; kernel_rfl
theorem runA_tf (w : World) (os : OsState) : RunA ((w.withFollow "comprehension-iter-twice" true).withFollow "special-get-raises" false) os := by unfold RunA; kernel_rfl
theorem runA_tt (w : World) (os : OsState) : RunA ((w.withFollow "comprehension-iter-twice" true).withFollow "special-get-raises" true) os := by unfold RunA; kernel_rfl
theorem runB_f (w : World) (os : OsState) : RunB (w.withFollow "special-get-raises" false) os := by unfold RunB; kernel_rfl
theorem runB_t (w : World) (os : OsState) : RunB (w.withFollow "special-get-raises" true) os := by unfold RunB; kernel_rfl
theorem runC_f (w : World) (os : OsState) : RunC (w.withFollow "special-get-raises" false) os := by unfold RunC; kernel_rfl
theorem runC_t (w : World) (os : OsState) : RunC (w.withFollow "special-get-raises" true) os := by unfold RunC; kernel_rfl
theorem runD_f (w : World) (os : OsState) : RunD (w.withFollow "special-get-raises" false) os := by unfold RunD; kernel_rfl
theorem runD_t (w : World) (os : OsState) : RunD (w.withFollow "special-get-raises" true) os := by unfold RunD; kernel_rfl
theorem runA_all : ∀ (w : World) (os : OsState), RunA w os :=
  byRow2 "special-get-raises" (P := fun w => ∀ os, RunA w os)
    (byRow2 "comprehension-iter-twice" (P := fun w => ∀ os, RunA (w.withFollow "special-get-raises" false) os) runA_ff runA_tf)
    (byRow2 "comprehension-iter-twice" (P := fun w => ∀ os, RunA (w.withFollow "special-get-raises" true) os) runA_ft runA_tt)
theorem runB_all : ∀ (w : World) (os : OsState), RunB w os := byRow2 "special-get-raises" (P := fun w => ∀ os, RunB w os) runB_f runB_t
theorem runC_all : ∀ (w : World) (os : OsState), RunC w os := byRow2 "special-get-raises" (P := fun w => ∀ os, RunC w os) runC_f runC_t
theorem runD_all : ∀ (w : World) (os : OsState), RunD w os := byRow2 "special-get-raises" (P := fun w => ∀ os, RunD w os) runD_f runD_t
theorem run_all (w : World) (os : OsState) : ∃ s, topRun treeTable pw w 11 (some (.ref 6)) 18000 (s0T w.params os).abs (topStub pw) = some s ∧ looks pw q loose (boot_heap w.params) s = goods q loose ((Kf w.params).map fun p => some p.2) :=
  top_run (runA_all w os) (runB_all w os) (runC_all w os) (runD_all w os)
end
section
set_option Elab.async false
set_option maxRecDepth 100000
set_option maxHeartbeats 4000000

noncomputable abbrev tup2 (x y : Int) (t u : Tok) : Obj := { cls := .type "tuple", data := .seq #[.int x t, .int y u] }
noncomputable def lex (p q : Int × Int) : Bool := decide (p.1 < q.1) || (decide (p.1 = q.1) && decide (p.2 < q.2))

section
variable {prog : Program} {w : World} {A : Around} {E : Value → Shared → Prop} {s : Shared}

theorem tup_lt_tree {x y x' y' : Int} {t u t' u' : Tok} {a b : Addr} {P : PySem.Fin → Shared → Prop} (ha : s.heap.get? a = some (tup2 x y t u)) (hb : s.heap.get? b = some (tup2 x' y' t' u'))
    (h : P (.done (.ret (.bool (lex (x, y) (x', y'))))) s) : wpAny (model prog w) A (Builtin.«tuple.__lt__» ⟨[.ref a, .ref b], []⟩) P E s := by
  have hTb : s.TypeIs (.ref b) "tuple" := ⟨_, hb, rfl⟩
  show wpAny _ _ (isInstance (.ref b) (.type "tuple") >>= _) _ _ s
  refine wpAny_bind (wpAny_isInstance hTb isSubtype_tuple_tuple ?_)
  simp only [Bool.not_true, Bool.false_eq_true, if_false]
  refine wpAny_bind (wpAny_tupleItemsOf ha rfl ?_)
  refine wpAny_bind (wpAny_tupleItemsOf hb rfl ?_)
  refine wpAny_bind ?_
  simp only [List.zip_cons_cons, List.zip_nil_right, List.forIn_cons, List.forIn_nil]
  by_cases e1 : x = x'
  · subst e1
    refine wpAny_bind (wpAny_bind (wpAny_eqBool_int ?_))
    simp only [beq_self_eq_true, Bool.not_true, Bool.false_eq_true, if_false]
    refine wpAny_pure ?_
    refine wpAny_bind (wpAny_bind (wpAny_eqBool_int ?_))
    by_cases e2 : y = y'
    · subst e2
      simp only [beq_self_eq_true, Bool.not_true, Bool.false_eq_true, if_false]
      refine wpAny_pure (wpAny_pure ?_)
      simp only [lex, Int.lt_irrefl, decide_false, Bool.false_or, Bool.and_false] at h
      exact wpAny_pure h
    · have e2' : (y == y') = false := by simpa using e2
      rw [e2']
      simp only [Bool.not_false, if_true]
      refine wpAny_bind (wpAny_bind (wpAny_rule (wpAny_pure (wpAny_bind (lt_int ?_)))))
      refine wpAny_bind (wpAny_pure (wpAny_pure (wpAny_pure ?_)))
      simp only [lex, Int.lt_irrefl, decide_false, Bool.false_or, decide_true, Bool.true_and] at h
      exact wpAny_pure h
  · have e1' : (x == x') = false := by simpa using e1
    refine wpAny_bind (wpAny_bind (wpAny_eqBool_int ?_))
    rw [e1']
    simp only [Bool.not_false, if_true]
    refine wpAny_bind (wpAny_bind (wpAny_rule (wpAny_pure (wpAny_bind (lt_int ?_)))))
    refine wpAny_bind (wpAny_pure (wpAny_pure (wpAny_pure ?_)))
    simp only [lex, e1, decide_false, Bool.false_and, Bool.or_false] at h
    exact wpAny_pure h

theorem tup_lt {x y x' y' : Int} {t u t' u' : Tok} {a b : Addr} {Q : Value → Shared → Prop} (ha : s.heap.get? a = some (tup2 x y t u)) (hb : s.heap.get? b = some (tup2 x' y' t' u')) (hu : A.units < cLine)
    (h : Q (.bool (lex (x, y) (x', y'))) s) : wpAny (model prog w) A (compareOp .Lt (.ref a) (.ref b)) Q E s :=
  wpAny_richCompare_same_room (op := .Lt) (T := "tuple") ⟨_, ha, rfl⟩ ⟨_, hb, rfl⟩ F.slot_tuple_lt
    (wpAny_call_entry F.slot_tuple_lt ⟨_, ha, rfl⟩ F.entry_tuple_lt (tup_lt_tree ha hb ⟨_, rfl, (fun e => nomatch e), h⟩) (F.args_tuple_lt_2 _ _)) hu
end

section
variable {prog : Program} {w : World} {A : Around} {E : Value → Shared → Prop} {s : Shared} {h₀ : Heap} {L l : Addr} {m : Str → Option Value} {news tups : List (Addr × Obj)}
  {f : Nat → Value} {rs : List Nat} {c : Nat} {k : Int} {t u : Tok}

theorem rk_at {k : Int} (h0 : 0 ≤ k) (h1 : k < (rs.length : Int)) : (rs.map f)[k.toNat]? = some (f (rs.getD k.toNat 0)) := by
  have h : k.toNat < rs.length := by omega
  simp [h]
theorem rk_item {value slice : Expr} {Q : Value → Shared → Prop} (N : News h₀ L s.heap news) (hm : (l, listOf (rs.map f).toArray c) ∈ news) (h0 : 0 ≤ k) (h1 : k < (rs.length : Int)) (h2 : (rs.length : Int) < 1000)
    (h : Q (f (rs.getD k.toNat 0)) s)
    (hs : subscripted slice false (.ref l) (.int k u) = operate [.ref l, .int k u] (getItem (.ref l) (.int k u)) := by with_unfolding_all rfl) (hg : ∀ r, letTemporaryGo value (.ref l) r = pure () := by intro _; with_unfolding_all rfl) :
    wpAny (model prog w) A (subscriptTail value slice (.ref l) (.int k u)) Q E s :=
  kim_list N hm rfl rfl h0 (by omega) (rk_at h0 h1) h hs hg
theorem rk_set {Q : Unit → Shared → Prop} {r : Nat} (F : Fr h₀ L s.heap m) (N : News h₀ L s.heap ((l, listOf (rs.map f).toArray c) :: tups)) (hne : ∀ p ∈ tups, p.1 ≠ l) (h0 : 0 ≤ k) (h1 : k < (rs.length : Int)) (h2 : (rs.length : Int) < 1000)
    (h : ∀ h', Fr h₀ L h' m → News h₀ L h' ((l, listOf ((rs.set k.toNat r).map f).toArray c) :: tups) → Q () { s with heap := h' }) :
    wpAny (model prog w) A (setItem (.ref l) (.int k t) (f r)) Q E s := by
  have z := N (l, listOf (rs.map f).toArray c) (.head _)
  refine ki_setAt z.1 h0 (by omega) (by simp only [List.size_toArray, List.length_map]; omega) (h _ (F.change (Heap.SameBut.update ..) z.2.1 z.2.2) ?_)
  refine ki_turn (pre := []) _ N (fun _ h => nomatch h) hne ?_ ?_
  · apply Array.toList_inj.mp
    simp [List.map_set]
  · simp
end

structure Rk (n : Nat) (ad : Nat → Addr) (pr : Nat → Int × Int) (tups : List (Addr × Obj)) : Prop where
  tup : ∀ r, r < n → ∃ t u, (ad r, tup2 (pr r).1 (pr r).2 t u) ∈ tups
  ord : ∀ i j, i < n → j < n → lex (pr i) (pr j) = decide (i < j)

theorem rk_lt {prog : Program} {w : World} {A : Around} {E : Value → Shared → Prop} {s : Shared} {h₀ : Heap} {L : Addr} {news tups : List (Addr × Obj)} {n i j : Nat} {ad : Nat → Addr} {pr : Nat → Int × Int} {Q : Value → Shared → Prop}
    (N : News h₀ L s.heap news) (hs : ∀ p ∈ tups, p ∈ news) (R : Rk n ad pr tups) (hi : i < n) (hj : j < n) (hu : A.units < cLine) (h : Q (.bool (decide (i < j))) s) :
    wpAny (model prog w) A (compareOp .Lt (.ref (ad i)) (.ref (ad j))) Q E s := by
  obtain ⟨t, u, h1⟩ := R.tup i hi
  obtain ⟨t', u', h2⟩ := R.tup j hj
  refine tup_lt (N _ (hs _ h1)).1 (N _ (hs _ h2)).1 hu ?_
  rw [R.ord i j hi hj]; exact h

section
variable {prog : Program} {w : World} {A : Around} {E : Value → Shared → Prop} {Q : Flow → Shared → Prop} {s : Shared} {env : Env} {h₀ : Heap} {L : Addr}
noncomputable def OutQ {σ : Type} (h₀ : Heap) (L : Addr) (s : Shared) (Led : σ → List (Addr × Obj)) (ps : σ → List (Str × Value)) (stored : List Str) (m₀ : Str → Option Value) (R : σ → Prop) (f : Flow) (s₂ : Shared) : Prop :=
  f = .next ∧ ∃ (c : σ) (h : Heap) (tk : Nat) (m' : Str → Option Value) (news' : List (Addr × Obj)), s₂ = { s with heap := h, toks := tk } ∧ Fr h₀ L h m' ∧ News h₀ L h news' ∧ (∀ p ∈ Led c, p ∈ news') ∧ (∀ p ∈ ps c, m' p.1 = some p.2) ∧ (∀ z, (∀ p ∈ ps c, z ≠ p.1) → stored.contains z = false → m' z = m₀ z) ∧ R c
theorem outQ {σ : Type} {h₀ : Heap} {L : Addr} {s : Shared} {Led : σ → List (Addr × Obj)} {ps : σ → List (Str × Value)} {stored : List Str} {m₀ m' : Str → Option Value} {R : σ → Prop} {h : Heap} {tk : Nat} {news' : List (Addr × Obj)} (c : σ)
    (F : Fr h₀ L h m') (N : News h₀ L h news') (hn : ∀ p ∈ Led c, p ∈ news') (hk : ∀ p ∈ ps c, m' p.1 = some p.2) (hr : ∀ z, (∀ p ∈ ps c, z ≠ p.1) → stored.contains z = false → m' z = m₀ z) (hp : R c) :
    OutQ h₀ L s Led ps stored m₀ R .next { s with heap := h, toks := tk } := ⟨rfl, c, h, tk, m', news', rfl, F, N, hn, hk, hr, hp⟩
theorem while_out {σ : Type} {test : Expr} {body : List Stmt} {pos : Pos} {m₀ : Str → Option Value} (Led : σ → List (Addr × Obj)) (ps : σ → List (Str × Value)) (stored : List Str) (P : σ → Prop) (R : σ → Prop) (μ : σ → Nat) (c₀ : σ)
    (F : Fr h₀ L s.heap m₀) (N : News h₀ L s.heap (Led c₀)) (hk : ∀ p ∈ ps c₀, m₀ p.1 = some p.2) (hp : P c₀)
    (turn : ∀ (c : σ) (u : Str → Option Value) h tk, P c → Fr h₀ L h (kstB (fun z => if stored.contains z then u z else m₀ z) (ps c)) → News h₀ L h (Led c) →
      wpAny (model prog w) A (isTrue test env (eval test env)) (fun b s₂ =>
        if b = true then wpAny (model prog w) A (execs body env) (KswPost h₀ L s Led ps (fun _ => True) stored m₀ P μ (OutQ h₀ L s Led ps stored m₀ R) c) E s₂ else OutQ h₀ L s Led ps stored m₀ R .next s₂) E { s with heap := h, toks := tk })
    (after : ∀ (c : σ) (u : Str → Option Value) h tk, R c → Fr h₀ L h (kstB (fun z => if stored.contains z then u z else m₀ z) (ps c)) → News h₀ L h (Led c) → Q .next { s with heap := h, toks := tk })
    (hE : PassesOwn (model prog w) A env E := by passes_own) :
    wpAny (model prog w) A (exec (.While test body [] pos) env) Q E s := by
  refine wpAny_mono (ksw_while Led ps (fun _ => True) stored P μ c₀ F N trivial hk hp (fun c u h tk _ => turn c u h tk) hE) (fun f s₂ q => ?_) fun _ _ x => x
  obtain ⟨rfl, c, h, tk, m', news', rfl, F', N', hn, hk', hr, hR⟩ := q
  exact after c m' h tk hR (ksw_fr hk' hr F') fun p hp => N' p (hn p hp)
end
end
section
set_option Elab.async false
set_option maxRecDepth 100000
set_option maxHeartbeats 8000000

-- the heap's functions over ranks
noncomputable def sdLoop : Nat → List Nat → Nat → Nat → Nat → List Nat × Nat
  | 0, h, _, _, p => (h, p)
  | f + 1, h, x, sp, p => if sp < p then (if x < h.getD ((p - 1) / 2) 0 then sdLoop f (h.set p (h.getD ((p - 1) / 2) 0)) x sp ((p - 1) / 2) else (h, p)) else (h, p)
noncomputable def sdF (h : List Nat) (sp p : Nat) : List Nat := let r := sdLoop p h (h.getD p 0) sp p; r.1.set r.2 (h.getD p 0)

noncomputable def suPick (h : List Nat) (cp : Nat) : Nat := if cp + 1 < h.length ∧ ¬ h.getD cp 0 < h.getD (cp + 1) 0 then cp + 1 else cp
noncomputable def suLoop : Nat → List Nat → Nat → List Nat × Nat
  | 0, h, p => (h, p)
  | f + 1, h, p => if 2 * p + 1 < h.length then suLoop f (h.set p (h.getD (suPick h (2 * p + 1)) 0)) (suPick h (2 * p + 1)) else (h, p)
noncomputable def suF (h : List Nat) (p : Nat) : List Nat := let r := suLoop h.length h p; sdF (r.1.set r.2 (h.getD p 0)) p r.2
theorem childEq {p : Nat} {t : Tok} : (some (Value.int (2 * (p : Int) + 1) t)) = some (Value.int ((2 * p + 1 : Nat) : Int) t) := by congr 2
theorem childNat {p : Nat} : (2 * (p : Int) + 1).toNat = 2 * p + 1 := by omega
theorem rightNat {p : Nat} : ((p : Int) + 1).toNat = p + 1 := by omega
theorem natEq {x y : Int} {t : Tok} (h : x = y) : some (Value.int x t) = some (Value.int y t) := by rw [h]
theorem su_stop {f : Nat} {h : List Nat} {p : Nat} (hp : ¬ 2 * p + 1 < h.length) : suLoop f h p = (h, p) := by
  cases f with
  | zero => rfl
  | succ f => show (if _ then _ else _) = _; rw [if_neg hp]
theorem su_next {f : Nat} {h : List Nat} {p cp k : Nat} (hc : cp = 2 * p + 1) (hl : cp < h.length) (hk : suPick h cp = k) : suLoop (f + 1) h p = suLoop f (h.set p (h.getD k 0)) k := by
  subst hc
  show (if _ then _ else _) = _
  rw [if_pos hl, hk]
theorem half_int {p : Nat} (h : 0 < p) : ((p : Int) - 1).fdiv (2 ^ Int.toNat 1) = (((p - 1) / 2 : Nat) : Int) := by
  show ((p : Int) - 1).fdiv 2 = _
  rw [Int.fdiv_eq_ediv_of_nonneg _ (by omega)]
  omega
theorem getD_lt {n : Nat} {rs : List Nat} (h : ∀ r ∈ rs, r < n) {k : Nat} (hk : k < rs.length) : rs.getD k 0 < n := by
  rw [List.getD_eq_getElem?_getD, List.getElem?_eq_getElem hk]
  exact h _ (List.getElem_mem hk)
theorem set_lt {n : Nat} {rs : List Nat} (h : ∀ r ∈ rs, r < n) {k x : Nat} (hx : x < n) : ∀ r ∈ rs.set k x, r < n := fun r hr => by
  rcases List.mem_or_eq_of_mem_set hr with h1 | rfl
  · exact h r h1
  · exact hx
theorem sd_stop {f : Nat} {h : List Nat} {x sp p : Nat} (hp : ¬ sp < p) : sdLoop f h x sp p = (h, p) := by
  cases f with
  | zero => rfl
  | succ f => simp [sdLoop, hp]
theorem sd_step {f : Nat} {h : List Nat} {x sp p : Nat} (hp : sp < p) (hx : x < h.getD ((p - 1) / 2) 0) : sdLoop (f + 1) h x sp p = sdLoop f (h.set p (h.getD ((p - 1) / 2) 0)) x sp ((p - 1) / 2) := by
  show (if sp < p then _ else _) = _
  rw [if_pos hp, if_pos hx]
theorem sd_brk {f : Nat} {h : List Nat} {x sp p : Nat} (hx : ¬ x < h.getD ((p - 1) / 2) 0) : sdLoop f h x sp p = (h, p) := by
  cases f with
  | zero => rfl
  | succ f => show (if sp < p then _ else _) = _; rw [if_neg hx]; split <;> rfl

theorem shr_half {prog : Program} {w : World} {A : Around} {E : Value → Shared → Prop} {s : Shared} {p : Nat} {t u : Tok} {Q : Value → Shared → Prop} (h : 0 < p) (hq : ∀ t', Q (.int (((p - 1) / 2 : Nat) : Int) t') { s with toks := s.toks + 1 }) :
    wpAny (model prog w) A (binaryOp .RShift (.int ((p : Int) - 1) t) (.int 1 u)) Q E s := by
  refine rshift_int (by decide) ?_
  rw [half_int h]
  exact hq _

theorem rk_setA {prog : Program} {w : World} {A : Around} {E : Value → Shared → Prop} {s : Shared} {h₀ : Heap} {L l : Addr} {m : Str → Option Value} {tups : List (Addr × Obj)} {ad : Nat → Addr} {rs : List Nat} {c : Nat} {k : Int} {t : Tok} {r : Nat} {Q : Unit → Shared → Prop}
    (F : Fr h₀ L s.heap m) (N : News h₀ L s.heap ((l, listOf (rs.map fun r => Value.ref (ad r)).toArray c) :: tups)) (hne : ∀ p ∈ tups, p.1 ≠ l) (h0 : 0 ≤ k) (h1 : k < (rs.length : Int)) (h2 : (rs.length : Int) < 1000)
    (h : ∀ h', Fr h₀ L h' m → News h₀ L h' ((l, listOf ((rs.set k.toNat r).map fun r => Value.ref (ad r)).toArray c) :: tups) → Q () { s with heap := h' }) :
    wpAny (model prog w) A (setItem (.ref l) (.int k t) (.ref (ad r))) Q E s := rk_set (f := fun r => Value.ref (ad r)) F N hne h0 h1 h2 h


theorem rk_len {prog : Program} {w : World} {A : Around} {E : Value → Shared → Prop} {s : Shared} {h₀ : Heap} {L l : Addr} {news : List (Addr × Obj)} {ad : Nat → Addr} {rs : List Nat} {c : Nat} {Q : Value → Shared → Prop}
    (N : News h₀ L s.heap news) (hm : (l, listOf (rs.map fun r => Value.ref (ad r)).toArray c) ∈ news) (h2 : (rs.length : Int) < 1000) (h : ∀ t k, Q (.int (rs.length : Int) t) { s with toks := k }) : wpAny (model prog w) A (call (.builtin "len") [.ref l]) Q E s :=
  kst_len N hm (List.length_map ..) (by omega) (h _ _)
section
variable {w : World} {mean : ExcName → Option Value} {mg mb : Str → Option Value}
    {dp un : Nat} {gd : Option (List Code)} {cn : Str} {cs : Scope} {a : Addr} {ccd : Value} {cl : List (Str × Addr)} {outer : List Env} {A₀ : Around} {base h₀ : Heap} {L : Addr} {m : Str → Option Value} {s : Shared} {Q E : Value → Shared → Prop}
    (B : Below A₀ base outer h₀) (F : Fr h₀ L s.heap m) (X : (Kf w.params).In h₀) (T : Top q (looseW q loose) mean mg mb h₀) (hk : cs.kind = .function)
include B F X T hk

theorem sd_spec {l : Addr} {n : Nat} {ad : Nat → Addr} {pr : Nat → Int × Int} {rs : List Nat} {c : Nat} {sp ps : Nat} {t1 t2 : Tok} {tups : List (Addr × Obj)} (N : News h₀ L s.heap ((l, listOf (rs.map fun r => Value.ref (ad r)).toArray c) :: tups)) (hd : dp + 1 < recursionLimit) (hu : un + 8 < cLine)
    (hne : ∀ p ∈ tups, p.1 ≠ l) (R : Rk n ad pr tups) (hR : ∀ r ∈ rs, r < n)
    (h1 : sp ≤ ps) (h2 : ps < rs.length) (h3 : (rs.length : Int) < 1000)
    (hret : ∀ h' tk', Fr h₀ L h' m → News h₀ L h' ((l, listOf ((sdF rs sp ps).map fun r => Value.ref (ad r)).toArray c) :: tups) → Q .none { s with heap := h', toks := tk' }) :
    wpAny (model PySem.Challenge.rw_op0130_01.prog w) (ktrTop dp un gd cn cs L a ccd cl outer) (call (.ref 93) [.ref l, .int (sp : Int) t1, .int (ps : Int) t2]) Q E s := by
  revert X; k_fill; intro X
  refine wpAny_call ?_
  k_dflt (refine' code_def (binds := [(Str.ofString "heap", .ref l), (Str.ofString "startpos", .int (sp : Int) t1), (Str.ofString "pos", .int (ps : Int) t2)]) ?k1 ?k2 ?k3 ?k4 ?k5 ?kA ?kF ?kK ?k6 ?k7 ?k8 ?k9 ?kB ?_ ?c2 ?c3 ?c4 ?c5; (case kA => exact rfl); (case kF => exact rfl); (case kK => assumption); (case k1 => k_asm); (case k2 => k_asm); (case k3 => k_asm); (case k4 => k_asm); (case k5 => k_asm); (case k6 => k_is); (case k7 => k_is); (case k8 => ktr_room); (case k9 => exact BindsTo.of_eq rfl); (case c5 => decide); (case kB => exact locs rfl); (case c2 => exact rfl); (case c3 => exact rfl); (case c4 => exact rfl); k_whole; intro g' L' h' FG' F' N' B' X' T'; (try dsimp only); (try k_fold))
  (repeat' (first | (k_unfold; (try dsimp only)) | (((with_reducible show wpAny _ _ (call (Value.builtin "len") [Value.ref _]) _ _ _); k_dflt (refine' rk_len ?k1 ?k2 ?k3 ?_; (case k1 => k_asm); (case k2 => k_mem); (case k3 => (((try dsimp only); (try simp only [List.length_set]); omega))); k_whole); intro _ _)) | (((with_reducible show wpAny _ _ (setItem _ _ _) _ _ _); k_dflt (refine' rk_setA ?k1 ?k2 ?k3 ?k4 ?k5 ?k6 ?_; (case k1 => k_asm); (case k2 => k_asm); (case k3 => assumption); (case k4 => (((try dsimp only); (try simp only [List.length_set]); omega))); (case k5 => (((try dsimp only); (try simp only [List.length_set]); omega))); (case k6 => (((try dsimp only); (try simp only [List.length_set]); omega))); k_whole); intro h'z F'z N'z; (try k_sweep))) | (((with_reducible show wpAny _ _ (compareOp CmpOp.Lt (Value.ref _) (Value.ref _)) _ _ _); k_dflt (refine' rk_lt ?k1 ?k2 ?k3 ?k4 ?k5 ?k6 ?_; (case k1 => k_asm); (case k3 => k_asm); (case k2 => exact fun _ h => List.Mem.tail _ h); (case k4 => exact getD_lt (by assumption) (by (((try dsimp only); (try simp only [List.length_set]); omega)))); (case k5 => exact getD_lt (by assumption) (by (((try dsimp only); (try simp only [List.length_set]); omega)))); (case k6 => ktr_units); k_whole))) | (((with_reducible show wpAny _ _ (binaryOp Operator.RShift _ _) _ _ _); refine shr_half (by omega) ?_; intro _)) | (((with_reducible show wpAny _ _ (subscriptTail _ _ (Value.ref _) (Value.int _ _)) _ _ _); k_dflt (refine' rk_item ?k1 ?k2 ?k3 ?k4 ?k5 ?_; (case k1 => k_asm); (case k2 => k_mem); (case k3 => (((try dsimp only); (try simp only [List.length_set]); omega))); (case k4 => (((try dsimp only); (try simp only [List.length_set]); omega))); (case k5 => (((try dsimp only); (try simp only [List.length_set]); omega))); k_whole))) | ((fail_if_success (with_reducible (first | show wpAny _ _ (exec (Stmt.While _ _ _ _) _) _ _ _ | show wpAny _ _ (exec (Stmt.For _ _ _ _ _) _) _ _ _ | show KswEnd _ _ _ _ _ _ _ _ _ _ _ _ | show OutQ _ _ _ _ _ _ _ _ _ _))); first | walk1 | (dsimp only; walk1))))
  let Ld0 : (List Nat × Nat × Tok) → List (Addr × Obj) := fun c' => (l, listOf (c'.1.map fun r => Value.ref (ad r)).toArray c) :: tups
  let Ld1 : (List Nat × Nat × Tok) → Prop := fun c' => c'.1.length = rs.length ∧ (∀ r ∈ c'.1, r < n) ∧ c'.2.1 ≤ ps ∧ ∃ f, c'.2.1 ≤ f ∧ sdLoop f c'.1 (rs.getD ps 0) sp c'.2.1 = sdLoop ps rs (rs.getD ps 0) sp ps
  let Ld2 : (List Nat × Nat × Tok) → Prop := fun c' => c'.1.length = rs.length ∧ (∀ r ∈ c'.1, r < n) ∧ c'.2.1 ≤ ps ∧ sdLoop ps rs (rs.getD ps 0) sp ps = (c'.1, c'.2.1)
  refine while_out (σ := List Nat × Nat × Tok) Ld0 (fun c' => [(Str.ofString "pos", .int (c'.2.1 : Int) c'.2.2)]) [Str.ofString "parentpos", Str.ofString "parent"]
    Ld1
    Ld2 (fun c' => c'.2.1) (rs, ps, t2) (by k_asm) (by k_asm) (List.forall_mem_cons.mpr ⟨rfl, List.forall_mem_nil _⟩) ⟨rfl, hR, Nat.le_refl _, ps, Nat.le_refl _, rfl⟩ ?turn ?after
  case turn =>
    rintro ⟨hs, p, tp⟩ u hh tk ⟨e1, e2, e4, f, e5, e6⟩ F2 N2
    dsimp only [kstB, Ld0] at e1 e2 e4 e5 e6 F2 N2
    (repeat' (first | (k_unfold; (try dsimp only)) | (((with_reducible show wpAny _ _ (call (Value.builtin "len") [Value.ref _]) _ _ _); k_dflt (refine' rk_len ?k1 ?k2 ?k3 ?_; (case k1 => k_asm); (case k2 => k_mem); (case k3 => (((try dsimp only); (try simp only [List.length_set]); omega))); k_whole); intro _ _)) | (((with_reducible show wpAny _ _ (setItem _ _ _) _ _ _); k_dflt (refine' rk_setA ?k1 ?k2 ?k3 ?k4 ?k5 ?k6 ?_; (case k1 => k_asm); (case k2 => k_asm); (case k3 => assumption); (case k4 => (((try dsimp only); (try simp only [List.length_set]); omega))); (case k5 => (((try dsimp only); (try simp only [List.length_set]); omega))); (case k6 => (((try dsimp only); (try simp only [List.length_set]); omega))); k_whole); intro h'z F'z N'z; (try k_sweep))) | (((with_reducible show wpAny _ _ (compareOp CmpOp.Lt (Value.ref _) (Value.ref _)) _ _ _); k_dflt (refine' rk_lt ?k1 ?k2 ?k3 ?k4 ?k5 ?k6 ?_; (case k1 => k_asm); (case k3 => k_asm); (case k2 => exact fun _ h => List.Mem.tail _ h); (case k4 => exact getD_lt (by assumption) (by (((try dsimp only); (try simp only [List.length_set]); omega)))); (case k5 => exact getD_lt (by assumption) (by (((try dsimp only); (try simp only [List.length_set]); omega)))); (case k6 => ktr_units); k_whole))) | (((with_reducible show wpAny _ _ (binaryOp Operator.RShift _ _) _ _ _); refine shr_half (by omega) ?_; intro _)) | (((with_reducible show wpAny _ _ (subscriptTail _ _ (Value.ref _) (Value.int _ _)) _ _ _); k_dflt (refine' rk_item ?k1 ?k2 ?k3 ?k4 ?k5 ?_; (case k1 => k_asm); (case k2 => k_mem); (case k3 => (((try dsimp only); (try simp only [List.length_set]); omega))); (case k4 => (((try dsimp only); (try simp only [List.length_set]); omega))); (case k5 => (((try dsimp only); (try simp only [List.length_set]); omega))); k_whole))) | ((fail_if_success (with_reducible (first | show wpAny _ _ (exec (Stmt.While _ _ _ _) _) _ _ _ | show wpAny _ _ (exec (Stmt.For _ _ _ _ _) _) _ _ _ | show KswEnd _ _ _ _ _ _ _ _ _ _ _ _ | show OutQ _ _ _ _ _ _ _ _ _ _))); first | walk1 | (dsimp only; walk1))))
    all_goals simp only [Int.toNat_natCast, decide_eq_true_eq, gt_iff_lt, Int.ofNat_lt] at *
    · obtain ⟨f', rfl⟩ : ∃ f', f = f' + 1 := ⟨f - 1, by omega⟩
      refine ksw_end (hs.set p (hs.getD ((p - 1) / 2) 0), (p - 1) / 2, _) (by k_asm) (by k_asm) (fun _ h => h) trivial (List.forall_mem_cons.mpr ⟨rfl, List.forall_mem_nil _⟩) (by ksw_same) ⟨by simp [e1], set_lt e2 (getD_lt e2 (by omega)), by dsimp only; omega, f', by dsimp only; omega, ?_⟩ (by dsimp only; omega)
      rw [← e6, sd_step (by assumption) (by assumption)]
    · refine outQ (hs, p, tp) (by k_asm) (by k_asm) (fun _ h => h) (List.forall_mem_cons.mpr ⟨rfl, List.forall_mem_nil _⟩) (by ksw_same) ⟨e1, e2, e4, ?_⟩
      rw [← e6, sd_brk (by assumption)]
    · refine outQ (hs, p, tp) (by k_asm) (by k_asm) (fun _ h => h) (List.forall_mem_cons.mpr ⟨rfl, List.forall_mem_nil _⟩) (by ksw_same) ⟨e1, e2, e4, ?_⟩
      rw [← e6, sd_stop (by assumption)]
  case after =>
    rintro ⟨hs, p, tp⟩ u hh tk ⟨e1, e2, e3, e4⟩ F2 N2
    dsimp only [kstB, Ld0] at e1 e2 e3 e4 F2 N2
    (repeat' (first | (k_unfold; (try dsimp only)) | (((with_reducible show wpAny _ _ (call (Value.builtin "len") [Value.ref _]) _ _ _); k_dflt (refine' rk_len ?k1 ?k2 ?k3 ?_; (case k1 => k_asm); (case k2 => k_mem); (case k3 => (((try dsimp only); (try simp only [List.length_set]); omega))); k_whole); intro _ _)) | (((with_reducible show wpAny _ _ (setItem _ _ _) _ _ _); k_dflt (refine' rk_setA ?k1 ?k2 ?k3 ?k4 ?k5 ?k6 ?_; (case k1 => k_asm); (case k2 => k_asm); (case k3 => assumption); (case k4 => (((try dsimp only); (try simp only [List.length_set]); omega))); (case k5 => (((try dsimp only); (try simp only [List.length_set]); omega))); (case k6 => (((try dsimp only); (try simp only [List.length_set]); omega))); k_whole); intro h'z F'z N'z; (try k_sweep))) | (((with_reducible show wpAny _ _ (compareOp CmpOp.Lt (Value.ref _) (Value.ref _)) _ _ _); k_dflt (refine' rk_lt ?k1 ?k2 ?k3 ?k4 ?k5 ?k6 ?_; (case k1 => k_asm); (case k3 => k_asm); (case k2 => exact fun _ h => List.Mem.tail _ h); (case k4 => exact getD_lt (by assumption) (by (((try dsimp only); (try simp only [List.length_set]); omega)))); (case k5 => exact getD_lt (by assumption) (by (((try dsimp only); (try simp only [List.length_set]); omega)))); (case k6 => ktr_units); k_whole))) | (((with_reducible show wpAny _ _ (binaryOp Operator.RShift _ _) _ _ _); refine shr_half (by omega) ?_; intro _)) | (((with_reducible show wpAny _ _ (subscriptTail _ _ (Value.ref _) (Value.int _ _)) _ _ _); k_dflt (refine' rk_item ?k1 ?k2 ?k3 ?k4 ?k5 ?_; (case k1 => k_asm); (case k2 => k_mem); (case k3 => (((try dsimp only); (try simp only [List.length_set]); omega))); (case k4 => (((try dsimp only); (try simp only [List.length_set]); omega))); (case k5 => (((try dsimp only); (try simp only [List.length_set]); omega))); k_whole))) | ((fail_if_success (with_reducible (first | show wpAny _ _ (exec (Stmt.While _ _ _ _) _) _ _ _ | show wpAny _ _ (exec (Stmt.For _ _ _ _ _) _) _ _ _ | show KswEnd _ _ _ _ _ _ _ _ _ _ _ _ | show OutQ _ _ _ _ _ _ _ _ _ _))); first | walk1 | (dsimp only; walk1))))
    have e : sdF rs sp ps = hs.set p (rs.getD ps 0) := by unfold sdF; rw [e4]
    simp only [Int.toNat_natCast] at *
    exact hret _ _ (by k_asm) (by rw [e]; k_asm)


theorem su_spec {l : Addr} {n : Nat} {ad : Nat → Addr} {pr : Nat → Int × Int} {rs : List Nat} {c : Nat} {ps : Nat} {t2 : Tok} {tups : List (Addr × Obj)} (N : News h₀ L s.heap ((l, listOf (rs.map fun r => Value.ref (ad r)).toArray c) :: tups)) (hd : dp + 2 < recursionLimit) (hu : un + 16 < cLine)
    (hne : ∀ p ∈ tups, p.1 ≠ l) (R : Rk n ad pr tups) (hR : ∀ r ∈ rs, r < n)
    (h2 : ps < rs.length) (h3 : (rs.length : Int) < 1000)
    (hret : ∀ h' tk', Fr h₀ L h' m → News h₀ L h' ((l, listOf ((suF rs ps).map fun r => Value.ref (ad r)).toArray c) :: tups) → Q .none { s with heap := h', toks := tk' }) :
    wpAny (model PySem.Challenge.rw_op0130_01.prog w) (ktrTop dp un gd cn cs L a ccd cl outer) (call (.ref 100) [.ref l, .int (ps : Int) t2]) Q E s := by
  revert X; k_fill; intro X
  refine wpAny_call ?_
  k_dflt (refine' code_def (binds := [(Str.ofString "heap", .ref l), (Str.ofString "pos", .int (ps : Int) t2)]) ?k1 ?k2 ?k3 ?k4 ?k5 ?kA ?kF ?kK ?k6 ?k7 ?k8 ?k9 ?kB ?_ ?c2 ?c3 ?c4 ?c5; (case kA => exact rfl); (case kF => exact rfl); (case kK => assumption); (case k1 => k_asm); (case k2 => k_asm); (case k3 => k_asm); (case k4 => k_asm); (case k5 => k_asm); (case k6 => k_is); (case k7 => k_is); (case k8 => ktr_room); (case k9 => exact BindsTo.of_eq rfl); (case c5 => decide); (case kB => exact locs rfl); (case c2 => exact rfl); (case c3 => exact rfl); (case c4 => exact rfl); k_whole; intro g' L' h' FG' F' N' B' X' T'; (try dsimp only); (try k_fold))
  (repeat' (first | (k_unfold; (try dsimp only)) | (((with_reducible show wpAny _ _ (call (Value.ref _) _) _ _ _); k_dflt (refine' sd_spec ?k1 ?k2 ?k3 ?k5 ?kK ?k4 ?kd ?ku ?e1 ?e2 ?e3 ?e4 ?e5 ?e6 ?_; (case k1 => k_asm); (case k2 => k_asm); (case k3 => k_asm); (case k5 => k_asm); (case kK => exact rfl); (case k4 => k_asm); (case kd => ktr_room); (case ku => ktr_units); (case e1 => assumption); (case e2 => assumption); (case e3 => first | assumption | exact set_lt (by assumption) (getD_lt (by assumption) (by (((try dsimp only); (try simp only [List.length_set]); omega))))); (case e4 => (((try dsimp only); (try simp only [List.length_set]); omega))); (case e5 => (((try dsimp only); (try simp only [List.length_set]); omega))); (case e6 => (((try dsimp only); (try simp only [List.length_set]); omega))); k_whole); intro h'z tk'z F'z N'z; (try dsimp only); (try k_fold))) | (((with_reducible show wpAny _ _ (call (Value.builtin "len") [Value.ref _]) _ _ _); k_dflt (refine' rk_len ?k1 ?k2 ?k3 ?_; (case k1 => k_asm); (case k2 => k_mem); (case k3 => (((try dsimp only); (try simp only [List.length_set]); omega))); k_whole); intro _ _)) | (((with_reducible show wpAny _ _ (setItem _ _ _) _ _ _); k_dflt (refine' rk_setA ?k1 ?k2 ?k3 ?k4 ?k5 ?k6 ?_; (case k1 => k_asm); (case k2 => k_asm); (case k3 => assumption); (case k4 => (((try dsimp only); (try simp only [List.length_set]); omega))); (case k5 => (((try dsimp only); (try simp only [List.length_set]); omega))); (case k6 => (((try dsimp only); (try simp only [List.length_set]); omega))); k_whole); intro h'z F'z N'z; (try k_sweep))) | (((with_reducible show wpAny _ _ (compareOp CmpOp.Lt (Value.ref _) (Value.ref _)) _ _ _); k_dflt (refine' rk_lt ?k1 ?k2 ?k3 ?k4 ?k5 ?k6 ?_; (case k1 => k_asm); (case k3 => k_asm); (case k2 => exact fun _ h => List.Mem.tail _ h); (case k4 => exact getD_lt (by assumption) (by (((try dsimp only); (try simp only [List.length_set]); omega)))); (case k5 => exact getD_lt (by assumption) (by (((try dsimp only); (try simp only [List.length_set]); omega)))); (case k6 => ktr_units); k_whole))) | (((with_reducible show wpAny _ _ (binaryOp Operator.RShift _ _) _ _ _); refine shr_half (by omega) ?_; intro _)) | (((with_reducible show wpAny _ _ (subscriptTail _ _ (Value.ref _) (Value.int _ _)) _ _ _); k_dflt (refine' rk_item ?k1 ?k2 ?k3 ?k4 ?k5 ?_; (case k1 => k_asm); (case k2 => k_mem); (case k3 => (((try dsimp only); (try simp only [List.length_set]); omega))); (case k4 => (((try dsimp only); (try simp only [List.length_set]); omega))); (case k5 => (((try dsimp only); (try simp only [List.length_set]); omega))); k_whole))) | ((fail_if_success (with_reducible (first | show wpAny _ _ (exec (Stmt.While _ _ _ _) _) _ _ _ | show wpAny _ _ (exec (Stmt.For _ _ _ _ _) _) _ _ _ | show KswEnd _ _ _ _ _ _ _ _ _ _ _ _ | show OutQ _ _ _ _ _ _ _ _ _ _))); first | walk1 | (dsimp only; walk1))))
  let Ld3 : (List Nat × Nat × Tok × Nat × Tok) → List (Addr × Obj) := fun c' => (l, listOf (c'.1.map fun r => Value.ref (ad r)).toArray c) :: tups
  let Ld4 : (List Nat × Nat × Tok × Nat × Tok) → Prop := fun c' => c'.1.length = rs.length ∧ (∀ r ∈ c'.1, r < n) ∧ c'.2.1 < rs.length ∧ c'.2.2.2.1 = 2 * c'.2.1 + 1 ∧ ps ≤ c'.2.1 ∧ ∃ f, rs.length ≤ c'.2.1 + f ∧ suLoop f c'.1 c'.2.1 = suLoop rs.length rs ps
  let Ld5 : (List Nat × Nat × Tok × Nat × Tok) → Prop := fun c' => c'.1.length = rs.length ∧ (∀ r ∈ c'.1, r < n) ∧ c'.2.1 < rs.length ∧ ps ≤ c'.2.1 ∧ suLoop rs.length rs ps = (c'.1, c'.2.1)
  refine while_out (σ := List Nat × Nat × Tok × Nat × Tok) Ld3 (fun c' => [(Str.ofString "pos", .int (c'.2.1 : Int) c'.2.2.1), (Str.ofString "childpos", .int (c'.2.2.2.1 : Int) c'.2.2.2.2)]) [Str.ofString "rightpos"]
    Ld4
    Ld5 (fun c' => rs.length - c'.2.1) (rs, ps, t2, 2 * ps + 1, _) (by k_asm) (by k_asm) (List.forall_mem_cons.mpr ⟨rfl, List.forall_mem_cons.mpr ⟨childEq, List.forall_mem_nil _⟩⟩) ⟨rfl, hR, h2, rfl, Nat.le_refl _, rs.length, by dsimp only; omega, rfl⟩ ?turn ?after
  case turn =>
    rintro ⟨hs, p, tp, cp, tc⟩ u hh tk ⟨e1, e2, e3, e4, e7, f, e5, e6⟩ F2 N2
    dsimp only [kstB, Ld3] at e1 e2 e3 e4 e5 e6 e7 F2 N2
    (repeat' (first | (k_unfold; (try dsimp only)) | (((with_reducible show wpAny _ _ (call (Value.ref _) _) _ _ _); k_dflt (refine' sd_spec ?k1 ?k2 ?k3 ?k5 ?kK ?k4 ?kd ?ku ?e1 ?e2 ?e3 ?e4 ?e5 ?e6 ?_; (case k1 => k_asm); (case k2 => k_asm); (case k3 => k_asm); (case k5 => k_asm); (case kK => exact rfl); (case k4 => k_asm); (case kd => ktr_room); (case ku => ktr_units); (case e1 => assumption); (case e2 => assumption); (case e3 => first | assumption | exact set_lt (by assumption) (getD_lt (by assumption) (by (((try dsimp only); (try simp only [List.length_set]); omega))))); (case e4 => (((try dsimp only); (try simp only [List.length_set]); omega))); (case e5 => (((try dsimp only); (try simp only [List.length_set]); omega))); (case e6 => (((try dsimp only); (try simp only [List.length_set]); omega))); k_whole); intro h'z tk'z F'z N'z; (try dsimp only); (try k_fold))) | (((with_reducible show wpAny _ _ (call (Value.builtin "len") [Value.ref _]) _ _ _); k_dflt (refine' rk_len ?k1 ?k2 ?k3 ?_; (case k1 => k_asm); (case k2 => k_mem); (case k3 => (((try dsimp only); (try simp only [List.length_set]); omega))); k_whole); intro _ _)) | (((with_reducible show wpAny _ _ (setItem _ _ _) _ _ _); k_dflt (refine' rk_setA ?k1 ?k2 ?k3 ?k4 ?k5 ?k6 ?_; (case k1 => k_asm); (case k2 => k_asm); (case k3 => assumption); (case k4 => (((try dsimp only); (try simp only [List.length_set]); omega))); (case k5 => (((try dsimp only); (try simp only [List.length_set]); omega))); (case k6 => (((try dsimp only); (try simp only [List.length_set]); omega))); k_whole); intro h'z F'z N'z; (try k_sweep))) | (((with_reducible show wpAny _ _ (compareOp CmpOp.Lt (Value.ref _) (Value.ref _)) _ _ _); k_dflt (refine' rk_lt ?k1 ?k2 ?k3 ?k4 ?k5 ?k6 ?_; (case k1 => k_asm); (case k3 => k_asm); (case k2 => exact fun _ h => List.Mem.tail _ h); (case k4 => exact getD_lt (by assumption) (by (((try dsimp only); (try simp only [List.length_set]); omega)))); (case k5 => exact getD_lt (by assumption) (by (((try dsimp only); (try simp only [List.length_set]); omega)))); (case k6 => ktr_units); k_whole))) | (((with_reducible show wpAny _ _ (binaryOp Operator.RShift _ _) _ _ _); refine shr_half (by omega) ?_; intro _)) | (((with_reducible show wpAny _ _ (subscriptTail _ _ (Value.ref _) (Value.int _ _)) _ _ _); k_dflt (refine' rk_item ?k1 ?k2 ?k3 ?k4 ?k5 ?_; (case k1 => k_asm); (case k2 => k_mem); (case k3 => (((try dsimp only); (try simp only [List.length_set]); omega))); (case k4 => (((try dsimp only); (try simp only [List.length_set]); omega))); (case k5 => (((try dsimp only); (try simp only [List.length_set]); omega))); k_whole))) | ((fail_if_success (with_reducible (first | show wpAny _ _ (exec (Stmt.While _ _ _ _) _) _ _ _ | show wpAny _ _ (exec (Stmt.For _ _ _ _ _) _) _ _ _ | show KswEnd _ _ _ _ _ _ _ _ _ _ _ _ | show OutQ _ _ _ _ _ _ _ _ _ _))); first | walk1 | (dsimp only; walk1))))
    all_goals simp only [Int.toNat_natCast, childNat, rightNat] at *
    · obtain ⟨f', rfl⟩ : ∃ f', f = f' + 1 := ⟨f - 1, by omega⟩
      have hpk : suPick hs cp = cp := by unfold suPick; rw [if_neg (fun h => h.2 (by assumption))]
      refine ksw_end (hs.set p (hs.getD (cp) 0), cp, _, 2 * (cp) + 1, _) (by k_asm) (by k_asm) (fun _ h => h) trivial (by refine List.forall_mem_cons.mpr ⟨?_, List.forall_mem_cons.mpr ⟨?_, List.forall_mem_nil _⟩⟩ <;> first | exact rfl | exact natEq (by omega)) (by ksw_same) ⟨by simp [e1], set_lt e2 (getD_lt e2 (by omega)), by dsimp only; omega, rfl, by dsimp only; omega, f', by dsimp only; omega, ?_⟩ (by dsimp only; omega)
      rw [← e6, su_next e4 (by omega) hpk]
    · obtain ⟨f', rfl⟩ : ∃ f', f = f' + 1 := ⟨f - 1, by omega⟩
      have hpk : suPick hs cp = cp + 1 := by unfold suPick; rw [if_pos ⟨by omega, by assumption⟩]
      refine ksw_end (hs.set p (hs.getD (cp + 1) 0), cp + 1, _, 2 * (cp + 1) + 1, _) (by k_asm) (by k_asm) (fun _ h => h) trivial (by refine List.forall_mem_cons.mpr ⟨?_, List.forall_mem_cons.mpr ⟨?_, List.forall_mem_nil _⟩⟩ <;> first | exact rfl | exact natEq (by omega)) (by ksw_same) ⟨by simp [e1], set_lt e2 (getD_lt e2 (by omega)), by dsimp only; omega, rfl, by dsimp only; omega, f', by dsimp only; omega, ?_⟩ (by dsimp only; omega)
      rw [← e6, su_next e4 (by omega) hpk]
    · obtain ⟨f', rfl⟩ : ∃ f', f = f' + 1 := ⟨f - 1, by omega⟩
      have hpk : suPick hs cp = cp := by unfold suPick; rw [if_neg (fun h => absurd h.1 (by omega))]
      refine ksw_end (hs.set p (hs.getD (cp) 0), cp, _, 2 * (cp) + 1, _) (by k_asm) (by k_asm) (fun _ h => h) trivial (by refine List.forall_mem_cons.mpr ⟨?_, List.forall_mem_cons.mpr ⟨?_, List.forall_mem_nil _⟩⟩ <;> first | exact rfl | exact natEq (by omega)) (by ksw_same) ⟨by simp [e1], set_lt e2 (getD_lt e2 (by omega)), by dsimp only; omega, rfl, by dsimp only; omega, f', by dsimp only; omega, ?_⟩ (by dsimp only; omega)
      rw [← e6, su_next e4 (by omega) hpk]
    · refine outQ (hs, p, tp, cp, tc) (by k_asm) (by k_asm) (fun _ h => h) (List.forall_mem_cons.mpr ⟨rfl, List.forall_mem_cons.mpr ⟨rfl, List.forall_mem_nil _⟩⟩) (by ksw_same) ⟨e1, e2, e3, e7, ?_⟩
      rw [← e6, su_stop (by omega)]
  case after =>
    rintro ⟨hs, p, tp, cp, tc⟩ u hh tk ⟨e1, e2, e3, e4, e5⟩ F2 N2
    dsimp only [kstB, Ld3] at e1 e2 e3 e4 e5 F2 N2
    (repeat' (first | (k_unfold; (try dsimp only)) | (((with_reducible show wpAny _ _ (call (Value.ref _) _) _ _ _); k_dflt (refine' sd_spec ?k1 ?k2 ?k3 ?k5 ?kK ?k4 ?kd ?ku ?e1 ?e2 ?e3 ?e4 ?e5 ?e6 ?_; (case k1 => k_asm); (case k2 => k_asm); (case k3 => k_asm); (case k5 => k_asm); (case kK => exact rfl); (case k4 => k_asm); (case kd => ktr_room); (case ku => ktr_units); (case e1 => assumption); (case e2 => assumption); (case e3 => first | assumption | exact set_lt (by assumption) (getD_lt (by assumption) (by (((try dsimp only); (try simp only [List.length_set]); omega))))); (case e4 => (((try dsimp only); (try simp only [List.length_set]); omega))); (case e5 => (((try dsimp only); (try simp only [List.length_set]); omega))); (case e6 => (((try dsimp only); (try simp only [List.length_set]); omega))); k_whole); intro h'z tk'z F'z N'z; (try dsimp only); (try k_fold))) | (((with_reducible show wpAny _ _ (call (Value.builtin "len") [Value.ref _]) _ _ _); k_dflt (refine' rk_len ?k1 ?k2 ?k3 ?_; (case k1 => k_asm); (case k2 => k_mem); (case k3 => (((try dsimp only); (try simp only [List.length_set]); omega))); k_whole); intro _ _)) | (((with_reducible show wpAny _ _ (setItem _ _ _) _ _ _); k_dflt (refine' rk_setA ?k1 ?k2 ?k3 ?k4 ?k5 ?k6 ?_; (case k1 => k_asm); (case k2 => k_asm); (case k3 => assumption); (case k4 => (((try dsimp only); (try simp only [List.length_set]); omega))); (case k5 => (((try dsimp only); (try simp only [List.length_set]); omega))); (case k6 => (((try dsimp only); (try simp only [List.length_set]); omega))); k_whole); intro h'z F'z N'z; (try k_sweep))) | (((with_reducible show wpAny _ _ (compareOp CmpOp.Lt (Value.ref _) (Value.ref _)) _ _ _); k_dflt (refine' rk_lt ?k1 ?k2 ?k3 ?k4 ?k5 ?k6 ?_; (case k1 => k_asm); (case k3 => k_asm); (case k2 => exact fun _ h => List.Mem.tail _ h); (case k4 => exact getD_lt (by assumption) (by (((try dsimp only); (try simp only [List.length_set]); omega)))); (case k5 => exact getD_lt (by assumption) (by (((try dsimp only); (try simp only [List.length_set]); omega)))); (case k6 => ktr_units); k_whole))) | (((with_reducible show wpAny _ _ (binaryOp Operator.RShift _ _) _ _ _); refine shr_half (by omega) ?_; intro _)) | (((with_reducible show wpAny _ _ (subscriptTail _ _ (Value.ref _) (Value.int _ _)) _ _ _); k_dflt (refine' rk_item ?k1 ?k2 ?k3 ?k4 ?k5 ?_; (case k1 => k_asm); (case k2 => k_mem); (case k3 => (((try dsimp only); (try simp only [List.length_set]); omega))); (case k4 => (((try dsimp only); (try simp only [List.length_set]); omega))); (case k5 => (((try dsimp only); (try simp only [List.length_set]); omega))); k_whole))) | ((fail_if_success (with_reducible (first | show wpAny _ _ (exec (Stmt.While _ _ _ _) _) _ _ _ | show wpAny _ _ (exec (Stmt.For _ _ _ _ _) _) _ _ _ | show KswEnd _ _ _ _ _ _ _ _ _ _ _ _ | show OutQ _ _ _ _ _ _ _ _ _ _))); first | walk1 | (dsimp only; walk1))))
    have e : suF rs ps = sdF (hs.set p (rs.getD ps 0)) ps p := by unfold suF; rw [e5]
    simp only [Int.toNat_natCast] at *
    exact hret _ _ (by k_asm) (by rw [e]; k_asm)
end
end
section
set_option Elab.async false
set_option maxRecDepth 100000
set_option maxHeartbeats 8000000
theorem kl_last_app (y : Value) : ∀ l : List Value, kl_last (l ++ [y]) = some (l, y)
  | [] => rfl
  | a :: r => by
    show (match kl_last (r ++ [y]) with | some (p, y) => some (a :: p, y) | none => some ([], a)) = _
    rw [kl_last_app y r]
section
variable {prog : Program} {w : World} {A : Around} {E : Value → Shared → Prop} {s : Shared} {h₀ : Heap} {L l : Addr} {m : Str → Option Value} {tups : List (Addr × Obj)} {f : Nat → Value} {rs : List Nat} {c x : Nat}
theorem rk_pop {Q : Value → Shared → Prop} (F : Fr h₀ L s.heap m) (N : News h₀ L s.heap ((l, listOf ((rs ++ [x]).map f).toArray c) :: tups)) (hne : ∀ p ∈ tups, p.1 ≠ l) (h2 : (rs.length : Int) < 1000)
    (h : ∀ h', Fr h₀ L h' m → News h₀ L h' ((l, listOf (rs.map f).toArray (c + 1)) :: tups) → Q (f x) { s with heap := h' }) : wpAny (model prog w) A (call (.builtin "list.pop") [.ref l]) Q E s := by
  refine kl_pop (p := rs.map f) (y := f x) F N ?_ (.head hne) ?_ fun h' F' N' => h h' F' N'
  · simp only [List.map_append, List.map_cons, List.map_nil]; exact kl_last_app _ _
  · rw [show sizeLine = 16777216 from rfl]; simp; omega
end

section
variable {w : World} {mean : ExcName → Option Value} {mg mb : Str → Option Value}
    {dp un : Nat} {gd : Option (List Code)} {cn : Str} {cs : Scope} {a : Addr} {ccd : Value} {cl : List (Str × Addr)} {outer : List Env} {A₀ : Around} {base h₀ : Heap} {L : Addr} {m : Str → Option Value} {s : Shared} {Q E : Value → Shared → Prop}
    (B : Below A₀ base outer h₀) (F : Fr h₀ L s.heap m) (X : (Kf w.params).In h₀) (T : Top q (looseW q loose) mean mg mb h₀) (hk : cs.kind = .function)
include B F X T hk
theorem pop_spec {l : Addr} {n : Nat} {ad : Nat → Addr} {pr : Nat → Int × Int} {rs : List Nat} {x c : Nat} {tups : List (Addr × Obj)} (N : News h₀ L s.heap ((l, listOf ((rs ++ [x]).map fun r => Value.ref (ad r)).toArray c) :: tups)) (hd : dp + 3 < recursionLimit) (hu : un + 24 < cLine)
    (hne : ∀ p ∈ tups, p.1 ≠ l) (R : Rk n ad pr tups) (hR : ∀ r ∈ rs, r < n) (hx : x < n) (h3 : (rs.length : Int) < 999)
    (hret : ∀ h' tk', Fr h₀ L h' m → News h₀ L h' ((l, listOf ((if rs = [] then [] else suF (rs.set 0 x) 0).map fun r => Value.ref (ad r)).toArray (c + 1)) :: tups) → Q (.ref (ad (if rs = [] then x else rs.getD 0 0))) { s with heap := h', toks := tk' }) :
    wpAny (model PySem.Challenge.rw_op0130_01.prog w) (ktrTop dp un gd cn cs L a ccd cl outer) (call (.ref 79) [.ref l]) Q E s := by
  revert X; k_fill; intro X
  refine wpAny_call ?_
  k_dflt (refine' code_def (binds := [(Str.ofString "heap", .ref l)]) ?k1 ?k2 ?k3 ?k4 ?k5 ?kA ?kF ?kK ?k6 ?k7 ?k8 ?k9 ?kB ?_ ?c2 ?c3 ?c4 ?c5; (case kA => exact rfl); (case kF => exact rfl); (case kK => assumption); (case k1 => k_asm); (case k2 => k_asm); (case k3 => k_asm); (case k4 => k_asm); (case k5 => k_asm); (case k6 => k_is); (case k7 => k_is); (case k8 => ktr_room); (case k9 => exact BindsTo.of_eq rfl); (case c5 => decide); (case kB => exact locs rfl); (case c2 => exact rfl); (case c3 => exact rfl); (case c4 => exact rfl); k_whole; intro g' L' h' FG' F' N' B' X' T'; (try dsimp only); (try k_fold))
  (repeat' (first | (k_unfold; (try dsimp only)) | ((fail_if_success (with_reducible (first | show wpAny _ _ (exec (Stmt.While _ _ _ _) _) _ _ _ | show wpAny _ _ (call (Value.ref _) _) _ _ _ | show wpAny _ _ (exec (Stmt.For _ _ _ _ _) _) _ _ _ | show wpAny _ _ (truthy (Value.ref _)) _ _ _ | show wpAny _ _ (call (Value.builtin _) _) _ _ _ | show wpAny _ _ (setItem _ _ _) _ _ _ | show wpAny _ _ (subscriptTail _ _ _ _) _ _ _))); first | walk1 | (dsimp only; walk1))))
  refine rk_pop (f := fun r => Value.ref (ad r)) (by k_asm) (by k_asm) hne (by omega) fun h1 F1 N1 => ?_
  (repeat' (first | (k_unfold; (try dsimp only)) | ((fail_if_success (with_reducible (first | show wpAny _ _ (exec (Stmt.While _ _ _ _) _) _ _ _ | show wpAny _ _ (call (Value.ref _) _) _ _ _ | show wpAny _ _ (exec (Stmt.For _ _ _ _ _) _) _ _ _ | show wpAny _ _ (truthy (Value.ref _)) _ _ _ | show wpAny _ _ (call (Value.builtin _) _) _ _ _ | show wpAny _ _ (setItem _ _ _) _ _ _ | show wpAny _ _ (subscriptTail _ _ _ _) _ _ _))); first | walk1 | (dsimp only; walk1))))
  refine wpAny_truthy_list (PySem.IsL.isList (News.get (by k_asm) (List.mem_cons_self))) (by simp; omega) ?_
  cases rs with
  | nil =>
    simp only [List.map_nil, Array.isEmpty_iff, List.isEmpty_toArray, List.isEmpty_nil, Bool.not_true]
    (repeat' (first | (k_unfold; (try dsimp only)) | ((fail_if_success (with_reducible (first | show wpAny _ _ (exec (Stmt.While _ _ _ _) _) _ _ _ | show wpAny _ _ (call (Value.ref _) _) _ _ _ | show wpAny _ _ (exec (Stmt.For _ _ _ _ _) _) _ _ _ | show wpAny _ _ (truthy (Value.ref _)) _ _ _ | show wpAny _ _ (call (Value.builtin _) _) _ _ _ | show wpAny _ _ (setItem _ _ _) _ _ _ | show wpAny _ _ (subscriptTail _ _ _ _) _ _ _))); first | walk1 | (dsimp only; walk1))))
    exact hret _ _ (by k_asm) (by k_asm)
  | cons r0 rr =>
    simp only [List.map_cons, List.isEmpty_toArray, List.isEmpty_cons, Bool.not_false]
    (repeat' (first | (k_unfold; (try dsimp only)) | ((fail_if_success (with_reducible (first | show wpAny _ _ (exec (Stmt.While _ _ _ _) _) _ _ _ | show wpAny _ _ (call (Value.ref _) _) _ _ _ | show wpAny _ _ (exec (Stmt.For _ _ _ _ _) _) _ _ _ | show wpAny _ _ (truthy (Value.ref _)) _ _ _ | show wpAny _ _ (call (Value.builtin _) _) _ _ _ | show wpAny _ _ (setItem _ _ _) _ _ _ | show wpAny _ _ (subscriptTail _ _ _ _) _ _ _))); first | walk1 | (dsimp only; walk1))))
    rename News _ _ _ _ => N5
    refine rk_item (f := fun r => Value.ref (ad r)) (rs := r0 :: rr) N5 List.mem_cons_self (by omega) (by simp) (by omega) ?_
    (repeat' (first | (k_unfold; (try dsimp only)) | ((fail_if_success (with_reducible (first | show wpAny _ _ (exec (Stmt.While _ _ _ _) _) _ _ _ | show wpAny _ _ (call (Value.ref _) _) _ _ _ | show wpAny _ _ (exec (Stmt.For _ _ _ _ _) _) _ _ _ | show wpAny _ _ (truthy (Value.ref _)) _ _ _ | show wpAny _ _ (call (Value.builtin _) _) _ _ _ | show wpAny _ _ (setItem _ _ _) _ _ _ | show wpAny _ _ (subscriptTail _ _ _ _) _ _ _))); first | walk1 | (dsimp only; walk1))))
    rename News _ _ _ _ => N6
    refine rk_set (f := fun r => Value.ref (ad r)) (rs := r0 :: rr) (r := x) (by k_asm) N6 hne (by omega) (by simp) (by omega) fun h2 F2 N2 => ?_
    (repeat' (first | (k_unfold; (try dsimp only)) | ((fail_if_success (with_reducible (first | show wpAny _ _ (exec (Stmt.While _ _ _ _) _) _ _ _ | show wpAny _ _ (call (Value.ref _) _) _ _ _ | show wpAny _ _ (exec (Stmt.For _ _ _ _ _) _) _ _ _ | show wpAny _ _ (truthy (Value.ref _)) _ _ _ | show wpAny _ _ (call (Value.builtin _) _) _ _ _ | show wpAny _ _ (setItem _ _ _) _ _ _ | show wpAny _ _ (subscriptTail _ _ _ _) _ _ _))); first | walk1 | (dsimp only; walk1))))
    refine su_spec (rs := (r0 :: rr).set 0 x) (ps := 0) B' (by k_asm) X' T' rfl (by k_asm) (by ktr_room) (by ktr_units) hne R (set_lt hR hx) (by simp) (by rw [List.length_set]; omega) fun h3 tk3 F3 N3 => ?_
    (repeat' (first | (k_unfold; (try dsimp only)) | ((fail_if_success (with_reducible (first | show wpAny _ _ (exec (Stmt.While _ _ _ _) _) _ _ _ | show wpAny _ _ (call (Value.ref _) _) _ _ _ | show wpAny _ _ (exec (Stmt.For _ _ _ _ _) _) _ _ _ | show wpAny _ _ (truthy (Value.ref _)) _ _ _ | show wpAny _ _ (call (Value.builtin _) _) _ _ _ | show wpAny _ _ (setItem _ _ _) _ _ _ | show wpAny _ _ (subscriptTail _ _ _ _) _ _ _))); first | walk1 | (dsimp only; walk1))))
    exact hret _ _ (by k_asm) (by k_asm)
end
end
section
set_option Elab.async false
set_option maxRecDepth 100000
set_option maxHeartbeats 4000000
section
variable {prog : Program} {w : World} {A : Around} {s : Shared} {h₀ : Heap} {L : Addr} {m : Str → Option Value} {env : Env} {elt ct : Expr} {x : Str} {scope : Scope} {cl : List (Str × Addr)} {S : List (Addr × Obj) → Prop} {P : Nat → Value → Prop}
  {Fin : List Value → List (Addr × Obj) → Prop} {news : List (Addr × Obj)}
/-- a turn's end: the ledger stands as it was -/
noncomputable def TurnQ (s : Shared) (h₀ : Heap) (L : Addr) (m : Str → Option Value) (led : List (Addr × Obj)) (G : Value → Prop) (y : Value) (s' : Shared) : Prop :=
  ∃ h' tk' all, s' = { s with heap := h', toks := tk' } ∧ Fr h₀ L h' m ∧ News h₀ L h' all ∧ (∀ p ∈ led, p ∈ all) ∧ G y
theorem turnQ {led all : List (Addr × Obj)} {G : Value → Prop} {y : Value} {h' : Heap} {tk' : Nat} (F : Fr h₀ L h' m) (N : News h₀ L h' all) (sub : ∀ p ∈ led, p ∈ all) (g : G y) : TurnQ s h₀ L m led G y { s with heap := h', toks := tk' } := ⟨h', tk', all, rfl, F, N, sub, g⟩
theorem comp_ind (Y : Nat → List Value → Prop) (hS : S news) (n : Nat) (fin : ∀ ys, Y n ys → Fin ys news)
    (turn : ∀ i ys v I oI C oC D m₂ h tk (E' : Value → Shared → Prop), i < n → Y i ys → P i v → LCg.NsObj oC m₂ → m₂ x = some v → Fr h₀ L h m → News h₀ L h ((I, oI) :: (C, oC) :: (D, LCg.lst ys) :: news) → LCg.Off3 I C D news → ((@Ne Nat I C) ∧ (@Ne Nat I D) ∧ (@Ne Nat C D)) →
      wpAny (model prog w) A (eval elt (compEnvC scope cl C env)) (TurnQ s h₀ L m ((I, oI) :: (C, oC) :: (D, LCg.lst ys) :: news) (fun y => Y (i + 1) (ys ++ [y]))) E' { s with heap := h, toks := tk }) :
    ∀ k i ys, i + k = n → Y i ys → LCg.CompRest prog w A h₀ L m env elt x scope cl s S P Fin k i ys news
  | 0, i, ys, e, y => fin ys (by rw [Nat.add_zero] at e; exact e ▸ y)
  | k + 1, i, ys, e, y => fun v I oI C oC D m₂ h tk E' p hC hx F N off ne => by
    refine wpAny_mono (turn i ys v I oI C oC D m₂ h tk E' (by omega) y p hC hx F N off ne) (fun v' s' q => ?_) fun _ _ z => z
    obtain ⟨h', tk', all, rfl, F', N', sub, g⟩ := q
    exact ⟨h', tk', news, rfl, F', fun p hp => N' p (sub p hp), off, hS, comp_ind Y hS n fin turn k (i + 1) (ys ++ [v']) (by omega) g⟩
theorem comp_indT (Y : Nat → List Value → Prop) (hS : S news) (n : Nat) (fin : ∀ ys, Y n ys → Fin ys news)
    (turn : ∀ i ys v I oI C oC D m₂ h tk (E' : Value → Shared → Prop), i < n → Y i ys → P i v → LCg.NsObj oC m₂ → m₂ x = some v → Fr h₀ L h m → News h₀ L h ((I, oI) :: (C, oC) :: (D, LCg.lst ys) :: news) → LCg.Off3 I C D news → ((@Ne Nat I C) ∧ (@Ne Nat I D) ∧ (@Ne Nat C D)) →
      wpAny (model prog w) A (isTrue ct (compEnvC scope cl C env) (eval ct (compEnvC scope cl C env))) (fun ok s' => if ok = true then
        wpAny (model prog w) A (eval elt (compEnvC scope cl C env)) (TurnQ s h₀ L m ((I, oI) :: (C, oC) :: (D, LCg.lst ys) :: news) (fun y => Y (i + 1) (ys ++ [y]))) E' s'
        else TurnQ s h₀ L m ((I, oI) :: (C, oC) :: (D, LCg.lst ys) :: news) (fun _ => Y (i + 1) ys) Value.none s') E' { s with heap := h, toks := tk }) :
    ∀ k i ys, i + k = n → Y i ys → LCt.CompRestT prog w A h₀ L m env ct elt x scope cl s S P Fin k i ys news
  | 0, i, ys, e, y => fin ys (by rw [Nat.add_zero] at e; exact e ▸ y)
  | k + 1, i, ys, e, y => fun v I oI C oC D m₂ h tk E' p hC hx F N off ne => by
    refine wpAny_mono (turn i ys v I oI C oC D m₂ h tk E' (by omega) y p hC hx F N off ne) (fun ok s' q => ?_) fun _ _ z => z
    cases ok with
    | true =>
      simp only [if_true] at q ⊢
      refine wpAny_mono q (fun v' s' q => ?_) fun _ _ z => z
      obtain ⟨h', tk', all, rfl, F', N', sub, g⟩ := q
      exact ⟨h', tk', news, rfl, F', fun p hp => N' p (sub p hp), off, hS, comp_indT Y hS n fin turn k (i + 1) (ys ++ [v']) (by omega) g⟩
    | false =>
      simp only [Bool.false_eq_true, if_false] at q ⊢
      obtain ⟨h', tk', all, rfl, F', N', sub, g⟩ := q
      exact ⟨h', tk', news, rfl, F', fun p hp => N' p (sub p hp), off, hS, comp_indT Y hS n fin turn k (i + 1) ys (by omega) g⟩
end
end
section
set_option Elab.async false
set_option maxRecDepth 100000
set_option maxHeartbeats 4000000
open SeqAt
theorem count_ints (n : Int) : ∀ ms : List Int, 0 ≤ PySem.Spec.countIn (.int n) (ms.map PyData.int) ∧ (decide (PySem.Spec.countIn (.int n) (ms.map PyData.int) ≠ 0) = decide (n ∈ ms))
  | [] => by simp [PySem.Spec.countIn]
  | y :: r => by
    obtain ⟨h1, h2⟩ := count_ints n r
    simp only [List.map_cons, PySem.Spec.countIn, PySem.Spec.same]
    by_cases e : y = n
    · subst e
      simp
      omega
    · have e' : ¬ n = y := fun z => e z.symm
      simp [e, e'] at h2 ⊢
      exact ⟨h1, h2⟩
theorem shaped_pair (m1 m2 : List Int) : shaped (PyData.tuple [PyData.list (m1.map PyData.int), PyData.list (m2.map PyData.int)]) = true := by
  have h1 := PySem.W.depthAll_ints m1
  have h2 := PySem.W.depthAll_ints m2
  have h3 := canLayAll0_ints m1
  have h4 := canLayAll0_ints m2
  show (PyData.canLay0 _ && decide (PyData.depth _ ≤ 64)) = true
  rw [Bool.and_eq_true]
  refine ⟨by simp only [PyData.canLay0, PyData.canLayAll0, h3, h4, Bool.and_true], decide_eq_true ?_⟩
  simp only [PyData.depth, PyData.depthAll]
  omega
section
variable {prog : Program} {w : World} {A : Around} {E : Value → Shared → Prop} {s : Shared} {Q : Value → Shared → Prop}
theorem notin_ints {a : Addr} {us : List Value} {ms : List Int} {n : Int} {t : Tok} (hl : s.heap.IsList a us.toArray) (hi : IntsAre us ms) (hu : A.units + 65 < cLine) (h : Q (.bool (!decide (n ∈ ms))) s) :
    wpAny (model prog w) A (compareOp .NotIn (.int n t) (.ref a)) Q E s :=
  notIn_list_dataH (reads_of_ints hl hi) (Reads.int n t) (shaped_ints ms) (by simp [shaped, PyData.canLay0, PyData.depth]) hu (fun y hy => by obtain ⟨z, _, rfl⟩ := List.mem_map.mp hy; simp [noMix]) (by rw [(count_ints n ms).2]; exact h)
theorem ne_pair {a b a1 a2 b1 b2 : Addr} {u1 u2 v1 v2 : List Value} {m1 m2 n1 n2 : List Int} {na nb : Nat} {oa ob : Obj} (ha : s.heap.get? a = some oa) (ca : oa.cls = .type "tuple") (da : oa.data = .seq #[.ref a1, .ref a2] na) (hb : s.heap.get? b = some ob) (cb : ob.cls = .type "tuple") (db : ob.data = .seq #[.ref b1, .ref b2] nb)
    (l1 : s.heap.IsList a1 u1.toArray) (i1 : IntsAre u1 m1) (l2 : s.heap.IsList a2 u2.toArray) (i2 : IntsAre u2 m2) (l3 : s.heap.IsList b1 v1.toArray) (i3 : IntsAre v1 n1) (l4 : s.heap.IsList b2 v2.toArray) (i4 : IntsAre v2 n2) (hu : A.units + 64 < cLine)
    (h : Q (.bool (!(decide (m1 = n1) && decide (m2 = n2)))) s) : wpAny (model prog w) A (compareOp .NotEq (.ref a) (.ref b)) Q E s := by
  have ra := reads_tuple_at ha ca da (.cons (reads_of_ints l1 i1) (.cons (reads_of_ints l2 i2) .nil))
  have rb := reads_tuple_at hb cb db (.cons (reads_of_ints l3 i3) (.cons (reads_of_ints l4 i4) .nil))
  refine ne_dataH_same ra rb ?_ ?_ hu ?_ ?_
  · exact shaped_pair m1 m2
  · exact shaped_pair n1 n2
  · simp [noMix, noMixAll, noMix_ints]
  · simp only [PySem.Spec.same, PySem.Spec.sameAll, same_ints, Bool.and_true]
    exact h
end
end
section
set_option Elab.async false
set_option maxRecDepth 100000
set_option maxHeartbeats 8000000
noncomputable def Oct (o : Int) : Prop := o = 10 ∨ (33 ≤ o ∧ o ≤ 255)
noncomputable def hx (n : Nat) : Nat := if n < 10 then 48 + n else 55 + n
noncomputable def encL (o : Nat) : List Nat := if o = 61 ∨ 126 < o then [61, hx (o / 16), hx (o % 16)] else [o]
noncomputable def signOf (mk : Str) (o : Nat) : Str := if o = 10 then mk else ⟨(encL o).toArray⟩
theorem sign_all : ∀ o : Fin 256, (Str.ofString "=" ++ Txt.item (Str.ofString "0123456789ABCDEF") ((o.val : Int).fdiv 16) ++ Txt.item (Str.ofString "0123456789ABCDEF") ((o.val : Int).fmod 16)) = ⟨#[61, hx (o.val / 16), hx (o.val % 16)]⟩ := by decide +kernel
theorem sign_esc {o : Nat} {mk : Str} (h : o = 61 ∨ 126 < o) (h2 : o < 256) : Str.ofString "=" ++ Txt.item (Str.ofString "0123456789ABCDEF") ((o : Int).fdiv 16) ++ Txt.item (Str.ofString "0123456789ABCDEF") ((o : Int).fmod 16) = signOf mk o := by
  rw [sign_all ⟨o, h2⟩]
  unfold signOf encL
  rw [if_neg (by omega), if_pos h]
section
variable {w : World} {mean : ExcName → Option Value} {mg mb : Str → Option Value}
    {dp un : Nat} {gd : Option (List Code)} {cn : Str} {cs : Scope} {a : Addr} {ccd : Value} {cl : List (Str × Addr)} {outer : List Env} {A₀ : Around} {base h₀ : Heap} {L : Addr} {m : Str → Option Value} {s : Shared} {Q E : Value → Shared → Prop}
    (B : Below A₀ base outer h₀) (F : Fr h₀ L s.heap m) (X : (Kf w.params).In h₀) (T : Top q (looseW q loose) mean mg mb h₀) (hk : cs.kind = .function)
include B F X T hk
theorem oct_spec {v : Int} {t : Tok} {news : List (Addr × Obj)} (N : News h₀ L s.heap news) (hd : dp + 1 < recursionLimit) (hu : un + 8 < cLine)
    (hret : ∀ o t' h' tk', Oct o → Fr h₀ L h' m → News h₀ L h' news → Q (.int o t') { s with heap := h', toks := tk' }) :
    wpAny (model PySem.Challenge.rw_op0130_01.prog w) (ktrTop dp un gd cn cs L a ccd cl outer) (call (.ref 112) [.int v t]) Q E s := by
  revert X; k_fill; intro X
  refine wpAny_call ?_
  k_dflt (refine' code_def (binds := [(Str.ofString "number", .int v t)]) ?k1 ?k2 ?k3 ?k4 ?k5 ?kA ?kF ?kK ?k6 ?k7 ?k8 ?k9 ?kB ?_ ?c2 ?c3 ?c4 ?c5; (((case kA => exact rfl); (case kF => exact rfl); (case kK => assumption); (case k1 => k_asm); (case k2 => k_asm); (case k3 => k_asm); (case k4 => k_asm); (case k5 => k_asm); (case k6 => k_is); (case k7 => k_is); (case k8 => ktr_room); (case k9 => exact BindsTo.of_eq rfl); (case c5 => decide); (case kB => exact locs rfl); (case c2 => exact rfl); (case c3 => exact rfl); (case c4 => exact rfl); k_whole; intro g' L' h' FG' F' N' B' X' T'; (try dsimp only); (try k_fold))))
  (repeat' (first | (k_unfold; (try dsimp only)) | ((fail_if_success (with_reducible (first | show wpAny _ _ (exec (Stmt.While _ _ _ _) _) _ _ _ | show wpAny _ _ (call (Value.ref _) _) _ _ _ | show wpAny _ _ (exec (Stmt.For _ _ _ _ _) _) _ _ _))); first | walk1 | (dsimp only; walk1))))
  all_goals simp only [Int.fmod_eq_emod_of_nonneg _ (show (0:Int) ≤ 6 by decide), Int.fmod_eq_emod_of_nonneg _ (show (0:Int) ≤ 130 by decide), Int.fmod_eq_emod_of_nonneg _ (show (0:Int) ≤ 93 by decide)] at *
  all_goals exact hret _ _ _ _ (by unfold Oct; omega) (by k_asm) (by k_asm)
theorem sign_spec {o : Nat} {t u : Tok} {mk : Str} {news : List (Addr × Obj)} (N : News h₀ L s.heap news) (hd : dp + 1 < recursionLimit) (hu : un + 8 < cLine) (ho : Oct (o : Int))
    (hret : ∀ t' h' tk', Fr h₀ L h' m → News h₀ L h' news → Q (.str (signOf mk o) t') { s with heap := h', toks := tk' }) :
    wpAny (model PySem.Challenge.rw_op0130_01.prog w) (ktrTop dp un gd cn cs L a ccd cl outer) (call (.ref 119) [.int (o : Int) t, .str mk u]) Q E s := by
  revert X; k_fill; intro X
  refine wpAny_call ?_
  k_dflt (refine' code_def (binds := [(Str.ofString "octet", .int (o : Int) t), (Str.ofString "mark", .str mk u)]) ?k1 ?k2 ?k3 ?k4 ?k5 ?kA ?kF ?kK ?k6 ?k7 ?k8 ?k9 ?kB ?_ ?c2 ?c3 ?c4 ?c5; (((case kA => exact rfl); (case kF => exact rfl); (case kK => assumption); (case k1 => k_asm); (case k2 => k_asm); (case k3 => k_asm); (case k4 => k_asm); (case k5 => k_asm); (case k6 => k_is); (case k7 => k_is); (case k8 => ktr_room); (case k9 => exact BindsTo.of_eq rfl); (case c5 => decide); (case kB => exact locs rfl); (case c2 => exact rfl); (case c3 => exact rfl); (case c4 => exact rfl); k_whole; intro g' L' h' FG' F' N' B' X' T'; (try dsimp only); (try k_fold))))
  unfold Oct at ho
  (repeat' (first | (k_unfold; (try dsimp only)) | ((fail_if_success (with_reducible (first | show wpAny _ _ (exec (Stmt.While _ _ _ _) _) _ _ _ | show wpAny _ _ (call (Value.ref _) _) _ _ _ | show wpAny _ _ (exec (Stmt.For _ _ _ _ _) _) _ _ _))); first | walk1 | (dsimp only; walk1))))
  · rw [show mk = signOf mk o by unfold signOf; rw [if_pos (by omega)]]
    exact hret _ _ _ (by k_asm) (by k_asm)
  · rw [sign_esc (mk := mk) (o := o) (by omega) (by omega)]
    exact hret _ _ _ (by k_asm) (by k_asm)
  · rw [sign_esc (mk := mk) (o := o) (by omega) (by omega)]
    exact hret _ _ _ (by k_asm) (by k_asm)
  · rw [show (⟨#[(o : Int).toNat]⟩ : Str) = signOf mk o by unfold signOf encL; rw [if_neg (by omega), if_neg (by omega)]; simp]
    exact hret _ _ _ (by k_asm) (by k_asm)
end
end
section
set_option Elab.async false
set_option maxRecDepth 100000
set_option maxHeartbeats 8000000
open PySem.NumText
noncomputable def hexL : List Nat := [48, 49, 50, 51, 52, 53, 54, 55, 56, 57, 97, 98, 99, 100, 101, 102, 65, 66, 67, 68, 69, 70]
noncomputable def hv (c : Nat) : Nat := if c ≤ 57 then c - 48 else if c ≤ 70 then c - 55 else c - 87
theorem hex_all : ∀ a ∈ hexL, ∀ b ∈ hexL, a < 128 ∧ b < 128 ∧ a ≠ 0 ∧ b ≠ 0 ∧ [a, b].dropWhile blank = [a, b] ∧ sign [a, b] = (false, [a, b]) ∧ based 16 [a, b] = (16, false, [a, b]) ∧ ([a, b].reverse.dropWhile blank).reverse = [a, b] ∧ digits? 16 [a, b] = some #[hv a, hv b] ∧ 16 * hv a + hv b < 256 := by decide +kernel
theorem tw_two {a b : Nat} (ha : a ≠ 0) (hb : b ≠ 0) : [a, b].takeWhile (· != 0) = [a, b] := by
  have e1 : (a != 0) = true := by simpa using ha
  have e2 : (b != 0) = true := by simpa using hb
  simp only [List.takeWhile, e1, e2]
theorem read16 {a b : Nat} (ha : a ∈ hexL) (hb : b ∈ hexL) : (int_private% "readNumeral") 0 16 ([a, b].takeWhile (· != 0)) = (int_private% "Numeral.value") ((16 * hv a + hv b : Nat) : Int) := by
  obtain ⟨_, _, h0, h1, h2, h3, h4, h5, h6, _⟩ := hex_all a ha b hb
  rw [tw_two h0 h1, readNumeral_eq, h2, h3]
  dsimp only
  rw [h4]
  dsimp only
  rw [h5, h6]
  show judge 0 false 16 false (some #[hv a, hv b]) = _
  unfold judge
  dsimp only
  rw [if_neg (by simp), if_neg (by simp), if_neg (by simp)]
  congr 1
  simp
  omega
theorem wp_text16 {M : Model} {A : Around} {E : Value → Shared → Prop} {s : Shared} {Q : Value → Shared → Prop} {v : Value} {text : List Nat} {n : Int}
    (hs : (text.takeWhile (· != 0)).length ≤ 640) (hr : (int_private% "readNumeral") 0 16 (text.takeWhile (· != 0)) = (int_private% "Numeral.value") n)
    (ha : ((text.takeWhile (· != 0)).length == text.length) = true) (h : Q (.int n s.toks) { s with toks := s.toks + 1 }) :
    wpAny M A ((int_private% "intFromText") v text 16) Q E s := by
  obtain ⟨hp, g, d, tk, os⟩ := s
  repeat (any_goals (first
    | assumption
    | (with_reducible refine wpAny_ite_true (decide_eq_true hs) ?_)
    | (with_reducible refine wpAny_ite_true (decide_eq_true ha) ?_)
    | wp_step))
  all_goals (try rw [hr])
  all_goals (try dsimp only)
  repeat (any_goals (first
    | assumption
    | (with_reducible refine wpAny_ite_true (decide_eq_true hs) ?_)
    | (with_reducible refine wpAny_ite_true (decide_eq_true ha) ?_)
    | wp_step))
theorem args_init_three (a b c : Value) : argsOk "object.__init__" ⟨[a, b, c], []⟩ := by
  unfold argsOk; rw [signature?_of (id := "object.__init__") (n := ['_', '_', 't', 'i', 'n', 'i', '_', '_']) (o := ['t', 'c', 'e', 'j', 'b', 'o']) (by kernel_rfl) F.owner_object]; kernel_rfl
theorem typeCall_int_two (a b : Value) : checkTypeCall "int" ⟨[a, b], []⟩ = pure () := by kernel_rfl
theorem newCall_int_two (a b : Value) : checkBuiltinCall "int.__new__" ⟨[.type "int", a, b], []⟩ = pure () := by kernel_rfl
theorem gives_text16 {a b : Nat} (ha : a ∈ hexL) (hb : b ∈ hexL) {u u' : Tok} : Gives (Builtin.«int.__new__» ⟨[.type "int", .str ⟨#[a, b]⟩ u, .int 16 u'], []⟩) (.int ((16 * hv a + hv b : Nat) : Int)) :=
  .of_wp fun M A E s Q h => by
    obtain ⟨hp, g, d, tk, os⟩ := s
    have f1 := F.conv_sub_int
    have f2 := F.madeHere_int
    have hall := hex_all a ha b hb
    have e1 : (⟨#[a, b]⟩ : Str).cps.all (· < 128) = true := by simp [hall.1, hall.2.1]
    have e2 : (⟨#[a, b]⟩ : Str).cps.toList = [a, b] := rfl
    have e3 := tw_two hall.2.2.1 hall.2.2.2.1
    have hk := KIN.Hid.mk (And.intro (read16 ha hb) (And.intro e3 e1))
    clear ha hb hall e3 e2 e1
    repeat (any_goals (first
      | assumption
      | ((with_reducible show wpAny _ _ ((int_private% "intFromText") _ _ _) _ _ _); refine wp_text16 (n := ((16 * hv a + hv b : Nat) : Int)) ?_ ?_ ?_ ?_)
      | wp_step))
    all_goals try rw [if_pos hk.out.2.2]
    · rw [hk.out.2.1]; simp
    · exact hk.out.1
    · rw [hk.out.2.1]; simp
    · exact ⟨_, rfl, h⟩
theorem call_int16 {prog : Program} {w : World} {A : Around} {E : Value → Shared → Prop} {s : Shared} {Q : Value → Shared → Prop} {a b : Nat} (ha : a ∈ hexL) (hb : b ∈ hexL) {u u' : Tok} (h : Q (.int ((16 * hv a + hv b : Nat) : Int) s.toks) { s with toks := s.toks + 1 }) :
    wpAny (model prog w) A (call (.type "int") [.str ⟨#[a, b]⟩ u, .int 16 u']) Q E s :=
  callType_new F.called_int F.newNe_int (typeCall_int_two _ _) (newCall_int_two _ _) (fun obj => args_init_three obj _ _) F.entry_int_new (gives_text16 ha hb).meets (show (Made.int _).post _ s from ⟨rfl, h⟩)
section
variable {w : World} {mean : ExcName → Option Value} {mg mb : Str → Option Value}
    {dp un : Nat} {gd : Option (List Code)} {cn : Str} {cs : Scope} {a : Addr} {ccd : Value} {cl : List (Str × Addr)} {outer : List Env} {A₀ : Around} {base h₀ : Heap} {L : Addr} {m : Str → Option Value} {s : Shared} {Q E : Value → Shared → Prop}
    (B : Below A₀ base outer h₀) (F : Fr h₀ L s.heap m) (X : (Kf w.params).In h₀) (T : Top q (looseW q loose) mean mg mb h₀) (hk : cs.kind = .function)
include B F X T hk
theorem unq_spec {x y : Nat} {t : Tok} {news : List (Addr × Obj)} (N : News h₀ L s.heap news) (hd : dp + 1 < recursionLimit) (hx : x ∈ hexL) (hy : y ∈ hexL)
    (hret : ∀ t' h' tk', Fr h₀ L h' m → News h₀ L h' news → Q (.str ⟨#[16 * hv x + hv y]⟩ t') { s with heap := h', toks := tk' }) :
    wpAny (model PySem.Challenge.rw_op0130_01.prog w) (ktrTop dp un gd cn cs L a ccd cl outer) (call (.ref 44) [.str ⟨#[61, x, y]⟩ t]) Q E s := by
  revert X; k_fill; intro X
  refine wpAny_call ?_
  k_dflt (refine' code_def (binds := [(Str.ofString "s", .str ⟨#[61, x, y]⟩ t)]) ?k1 ?k2 ?k3 ?k4 ?k5 ?kA ?kF ?kK ?k6 ?k7 ?k8 ?k9 ?kB ?_ ?c2 ?c3 ?c4 ?c5; (((case kA => exact rfl); (case kF => exact rfl); (case kK => assumption); (case k1 => k_asm); (case k2 => k_asm); (case k3 => k_asm); (case k4 => k_asm); (case k5 => k_asm); (case k6 => k_is); (case k7 => k_is); (case k8 => ktr_room); (case k9 => exact BindsTo.of_eq rfl); (case c5 => decide); (case kB => exact locs rfl); (case c2 => exact rfl); (case c3 => exact rfl); (case c4 => exact rfl); k_whole; intro g' L' h' FG' F' N' B' X' T'; (try dsimp only); (try k_fold))))
  (repeat' (first | (k_unfold; (try dsimp only)) | ((fail_if_success (with_reducible (first | show wpAny _ _ (exec (Stmt.While _ _ _ _) _) _ _ _ | show wpAny _ _ (call (Value.ref _) _) _ _ _ | show wpAny _ _ (call (Value.type "int") _) _ _ _ | show wpAny _ _ (exec (Stmt.For _ _ _ _ _) _) _ _ _))); first | walk1 | (dsimp only; walk1))))
  rw [show Txt.slice ⟨#[61, x, y]⟩ (some 1) (some 3) = ⟨#[x, y]⟩ from StrLaws.sliceText_nat (a := 1) (b := 3) ⟨#[61, x, y]⟩ (by decide) (by simp [Str.length])]
  refine call_int16 hx hy ?_
  have hlt := (hex_all x hx y hy).2.2.2.2.2.2.2.2.2
  generalize 16 * hv x + hv y = z at *
  (repeat' (first | (k_unfold; (try dsimp only)) | ((fail_if_success (with_reducible (first | show wpAny _ _ (exec (Stmt.While _ _ _ _) _) _ _ _ | show wpAny _ _ (call (Value.ref _) _) _ _ _ | show wpAny _ _ (call (Value.type "int") _) _ _ _ | show wpAny _ _ (exec (Stmt.For _ _ _ _ _) _) _ _ _))); first | walk1 | (dsimp only; walk1))))
  rw [Int.toNat_natCast]
  exact hret _ _ _ (by k_asm) (by k_asm)
end
end
section
set_option Elab.async false
set_option maxRecDepth 100000
open PySem.StrLaws PySem.Builtin PySem.Builtin.Str
noncomputable abbrev S (l : List Nat) : Str := ⟨l.toArray⟩
theorem S_len (l : List Nat) : (S l).length = l.length := by simp [Str.length]
theorem S_app (a b : List Nat) : S a ++ S b = S (a ++ b) := Str.ext' (by simp [Str.cps_append])
theorem S_list (l : List Nat) : (S l).cps.toList = l := by simp
theorem S_inj {a b : List Nat} (h : S a = S b) : a = b := by
  have := congrArg (fun x : Str => x.cps.toList) h
  simpa using this
theorem slice_S (l : List Nat) {a b : Nat} (hab : a ≤ b) (hb : b ≤ l.length) : Txt.slice (S l) (some (a : Int)) (some (b : Int)) = S ((l.drop a).take (b - a)) := by
  have := sliceText_nat (S l) hab (by rw [S_len]; exact hb)
  rw [S_list] at this
  exact this
theorem slice_from (l : List Nat) {a : Nat} (ha : a ≤ l.length) : Txt.slice (S l) (some (a : Int)) none = S (l.drop a) := by
  have h := slice_S l ha (Nat.le_refl _)
  rw [List.take_of_length_le (by simp)] at h
  rw [← h]
  unfold Txt.slice
  rw [sliceIdx_none_hi, S_len]
theorem slice_to_neg (l : List Nat) (h0 : 0 < l.length) : Txt.slice (S l) none (some (-1)) = S l.dropLast := by
  have h := slice_S l (a := 0) (b := l.length - 1) (by omega) (by omega)
  rw [List.drop_zero, Nat.sub_zero, ← List.dropLast_eq_take] at h
  rw [← h]
  have e : strSliceIndices none (some (-1)) 1 (S l).length = strSliceIndices (some ((0 : Nat) : Int)) (some ((l.length - 1 : Nat) : Int)) 1 (S l).length := by
    rw [sliceIdx_none_lo, S_len]
    have e2 : max (0 : Int) (min (-1 + (l.length : Int)) (l.length : Int)) = max (0 : Int) (min (((l.length - 1 : Nat) : Int)) (l.length : Int)) := by omega
    simp only [strSliceIndices]
    congr 1
    all_goals (simp only [show ((-1 : Int) < 0) = True by simp, if_true, show ¬ (((l.length - 1 : Nat) : Int) < 0) by omega, if_false])
    all_goals (first | exact e2 | simpa using e2)
  unfold Txt.slice
  rw [e]
theorem slice_last (l : List Nat) (h0 : 0 < l.length) : Txt.slice (S l) (some (-1)) none = S (l.drop (l.length - 1)) := by
  rw [← slice_from l (a := l.length - 1) (by omega)]
  have e : strSliceIndices (some (-1)) none 1 (S l).length = strSliceIndices (some ((l.length - 1 : Nat) : Int)) none 1 (S l).length := by
    rw [sliceIdx_none_hi, sliceIdx_none_hi, S_len]
    have e2 : max (0 : Int) (min (-1 + (l.length : Int)) (l.length : Int)) = max (0 : Int) (min (((l.length - 1 : Nat) : Int)) (l.length : Int)) := by omega
    simp only [strSliceIndices]
    congr 1
    all_goals (simp only [show ((-1 : Int) < 0) = True by simp, if_true, show ¬ (((l.length - 1 : Nat) : Int) < 0) by omega, if_false])
    all_goals (first | exact e2 | simpa using e2)
  unfold Txt.slice
  rw [e]
theorem slice_last_nil : Txt.slice (S []) (some (-1)) none = S [] := by decide +kernel
theorem item_S (l : List Nat) {a : Nat} (ha : a < l.length) : Txt.item (S l) (a : Int) = S [l.getD a 0] := by
  unfold Txt.item Txt.charAt
  rw [at_nonneg (n := l.getD a 0) (by omega) (by simp [ha])]
  rfl
theorem char_S (l : List Nat) {a : Nat} (ha : a < l.length) : (Txt.charAt (S l) (a : Int)).isSome = true := by
  unfold Txt.charAt
  rw [at_nonneg (n := l.getD a 0) (by omega) (by simp [ha])]
  rfl
theorem item_neg (l : List Nat) (h0 : 0 < l.length) : Txt.item (S l) (-1) = S [l.getD (l.length - 1) 0] := by
  unfold Txt.item Txt.charAt
  rw [StrLaws.seqIndex_neg (by omega) (by rw [S_len]; omega), S_len]
  have e : ((-1 : Int) + (l.length : Int)).toNat = l.length - 1 := by omega
  rw [e]
  have h1 : l.length - 1 < l.length := by omega
  simp [h1]
theorem char_neg (l : List Nat) (h0 : 0 < l.length) : (Txt.charAt (S l) (-1)).isSome = true := by
  unfold Txt.charAt
  exact at_isSome (by rw [S_len]; omega) (by rw [S_len]; omega)
theorem contains_one (l : List Nat) (c : Nat) : Txt.contains (S l) (S [c]) = decide (c ∈ l) := by
  have := found_one (S l) c
  rw [S_list] at this
  exact this
theorem ends_S (l : List Nat) (c : Nat) : Txt.endswith (S l) (S [c]) = decide (l.getLast? = some c) := by
  unfold Txt.endswith
  rw [subAt_eq, S_list, S_list, S_len, S_len]
  cases h : l.reverse with
  | nil =>
    have : l = [] := by simpa using h
    subst this; simp
  | cons a r =>
    have : l = r.reverse ++ [a] := by rw [← List.reverse_reverse l, h, List.reverse_cons]
    subst this
    have e : (r.reverse ++ [a]).length - [c].length = r.reverse.length := by simp
    rw [e, List.drop_left]
    simp
    by_cases h5 : a = c <;> simp [h5]

-- splitting
noncomputable def splitG (y : List Nat) : Nat → List Nat → List (List Nat)
  | _, [] => [[]]
  | k + 1, _ :: r => splitG y k r
  | 0, c :: r => if y.isPrefixOf (c :: r) then [] :: splitG y (y.length - 1) r else match splitG y 0 r with
    | p :: ps => (c :: p) :: ps
    | [] => [[c]]
theorem splitG_skip (y : List Nat) : ∀ (k : Nat) (t : List Nat), splitG y k t = splitG y 0 (t.drop k)
  | 0, t => by simp
  | k + 1, [] => by simp [splitG]
  | k + 1, c :: r => by rw [splitG, splitG_skip y k r]; simp
theorem splitG_none (y : List Nat) : ∀ t : List Nat, (∀ k, k < t.length → y.isPrefixOf (t.drop k) = false) → splitG y 0 t = [t]
  | [], _ => rfl
  | c :: r, h => by
    rw [splitG, if_neg (by have := h 0 (by simp); rw [List.drop_zero] at this; rw [this]; decide), splitG_none y r (fun k hk => by have := h (k + 1) (by simp; omega); simpa using this)]
theorem splitG_first (y : List Nat) (hy : y ≠ []) : ∀ (j : Nat) (t : List Nat), j < t.length → (∀ k, k < j → y.isPrefixOf (t.drop k) = false) → y.isPrefixOf (t.drop j) = true → splitG y 0 t = t.take j :: splitG y 0 (t.drop (j + y.length))
  | _, [], h, _, _ => by simp at h
  | 0, c :: r, _, _, h => by
    rw [splitG, if_pos (by simpa using h), splitG_skip, List.take_zero]
    obtain ⟨b, y', rfl⟩ := List.exists_cons_of_ne_nil hy
    simp
  | j + 1, c :: r, hj, h1, h2 => by
    rw [splitG, if_neg (by have := h1 0 (by omega); rw [List.drop_zero] at this; rw [this]; decide), splitG_first y hy j r (by simpa using hj) (fun k hk => by have := h1 (k + 1) (by omega); simpa using this) (by simpa using h2)]
    simp [Nat.add_right_comm]
theorem at_iff (l y : List Nat) (i : Nat) : At (S l) (S y) (S l).length i ↔ y.isPrefixOf (l.drop i) = true ∧ i ≤ l.length := by
  unfold At
  rw [subAt_eq, S_list, S_list, S_len, S_len, List.isPrefixOf_iff_prefix, beq_iff_eq]
  constructor
  · rintro ⟨h1, h2⟩
    exact ⟨⟨(l.drop i).drop y.length, by have h3 := List.take_append_drop y.length (l.drop i); rwa [h2] at h3⟩, by omega⟩
  · rintro ⟨⟨z, hz⟩, h⟩
    refine ⟨?_, by rw [← hz]; simp⟩
    have := congrArg List.length hz
    simp at this
    omega
theorem parts_splitG (l y : List Nat) (hy : y ≠ []) : ∀ (cuts : List Nat) (a f : Nat), a ≤ l.length → ChainG (S l) (S y) (S l).length a cuts f → (∀ k, f ≤ k → ¬ At (S l) (S y) (S l).length k) →
    partsFrom (S l) (S y).length a cuts = (splitG y 0 (l.drop a)).map S
  | [], a, f, ha, hc, hn => by
    have e : f = a := hc
    subst e
    rw [splitG_none y _ fun k hk => ?_]
    · show [strSub (S l) f (S l).length] = [S (l.drop f)]
      congr 1
      apply Str.ext'
      apply Array.toList_inj.mp
      rw [strSub_toList, S_list, S_len, S_list]
      exact List.take_of_length_le (by simp)
    · have := hn (f + k) (by omega)
      rw [at_iff] at this
      cases e : y.isPrefixOf ((l.drop f).drop k) with
      | false => rfl
      | true => rw [List.drop_drop] at e; rw [List.length_drop] at hk; exact absurd ⟨e, by omega⟩ this
  | c :: r, a, f, ha, hc, hn => by
    obtain ⟨h1, h2, h3, h4⟩ := hc
    obtain ⟨p1, p2⟩ := (at_iff l y c).mp h2
    have hyl : 0 < y.length := List.length_pos_iff.mpr hy
    have hlen : c + y.length ≤ l.length := by have := h2.1; rwa [S_len, S_len] at this
    rw [splitG_first y hy (c - a) (l.drop a) (by rw [List.length_drop]; omega) (fun k hk => ?_) (by rw [List.drop_drop]; rw [show a + (c - a) = c by omega]; exact p1)]
    · show strSub (S l) a c :: partsFrom (S l) (S y).length (c + (S y).length) r = _
      rw [parts_splitG l y hy r (c + (S y).length) f (by rw [S_len]; exact hlen) h4 hn]
      rw [List.map_cons, List.drop_drop, S_len, show a + (c - a + y.length) = c + y.length by omega]
      congr 1
      apply Str.ext'
      apply Array.toList_inj.mp
      rw [strSub_toList, S_list, S_list]
    · have := h3 (a + k) (by omega) (by omega)
      rw [at_iff] at this
      cases e : y.isPrefixOf ((l.drop a).drop k) with
      | false => rfl
      | true => rw [List.drop_drop] at e; exact absurd ⟨e, by omega⟩ this
theorem parts_all (l y : List Nat) (hy : y ≠ []) : partsBetween (S l) (occurrences (S l) (S y) 0 (S l).length ((S l).length + 1)) (S y).length = (splitG y 0 l).map S := by
  obtain ⟨f, h1, h2⟩ := occ_tight (S l) (S y) (by rw [S_len]; exact List.length_pos_iff.mpr hy)
  rw [partsBetween_eq, parts_splitG l y hy _ 0 f (by omega) h1 h2, List.drop_zero]
theorem parts_nil (l : List Nat) (n : Nat) : partsBetween (S l) [] n = [S l] := by
  rw [partsBetween_eq]
  show [strSub (S l) 0 (S l).length] = _
  rw [sub_whole]
theorem split_S (l y : List Nat) (hy : y ≠ []) (hk : PySem.Builtin.Str.strKind (S y) = 1) : Txt.split (S l) (S y) = (splitG y 0 l).map S := by
  unfold Txt.split
  split
  · rename_i h
    rw [hk, S_len, S_len] at h
    have h3 : ¬ PySem.Builtin.Str.strKind (S l) < 1 := by unfold PySem.Builtin.Str.strKind; split <;> (try split) <;> omega
    have h1 : l.length < y.length := by simpa [h3] using h
    rw [splitG_none]
    · rfl
    · intro k _
      cases e : y.isPrefixOf (l.drop k) with
      | false => rfl
      | true => have := (List.isPrefixOf_iff_prefix.mp e).length_le; rw [List.length_drop] at this; omega
  · split
    · rename_i h
      have h0 := List.isEmpty_iff.mp h
      rw [← parts_all l y hy, h0, parts_nil]
    · exact parts_all l y hy
theorem join_nil (ps : List (List Nat)) : Str.join (S []) (ps.map S) = S ps.flatten := by
  match ps with
  | [] => rfl
  | [p] => simp [Str.join]
  | p :: q :: r =>
    show S p ++ S [] ++ Str.join (S []) ((q :: r).map S) = _
    rw [join_nil (q :: r), S_app, S_app]
    simp
theorem replace_S (l y : List Nat) (hy : y ≠ []) : Txt.replace (S l) (S y) (S []) = S (splitG y 0 l).flatten := by
  unfold Txt.replace
  have hy' : ((S y).length == 0) = false := by rw [S_len]; simpa using hy
  rw [hy', Bool.false_and, Bool.or_false]
  split
  · rename_i h
    have h0 := List.isEmpty_iff.mp h
    have := parts_all l y hy
    rw [h0, parts_nil] at this
    rw [← join_nil, ← this]; rfl
  · rw [glued_eq_join, parts_all l y hy, join_nil]
theorem glued_S (y : List Nat) : ∀ (ps : List (List Nat)), glued (S y) (ps.map S) = S (List.intercalate y ps) := fun ps => by
  rw [glued_eq_join]
  match ps with
  | [] => rfl
  | [p] => simp [Str.join, List.intercalate]
  | p :: q :: r =>
    have ih := glued_S y (q :: r)
    rw [glued_eq_join] at ih
    show S p ++ S y ++ Str.join (S y) ((q :: r).map S) = _
    rw [ih, S_app, S_app]
    simp [List.intercalate]

-- lines
noncomputable def linesG : Bool → List Nat → List (List Nat)
  | _, [] => []
  | true, _ :: r => linesG false r
  | false, c :: r => if Unicode.isLineBreak c then [] :: linesG (c == 13 && r.head? == some 10) r else match linesG false r with
    | p :: ps => (c :: p) :: ps
    | [] => [[c]]
noncomputable def preL (p : List Nat) (ls : List (List Nat)) : List (List Nat) := if p = [] then ls else match ls with
  | q :: qs => (p ++ q) :: qs
  | [] => [p]
theorem preL_nil (ls : List (List Nat)) : preL [] ls = ls := rfl
theorem preL_snoc (p : List Nat) (c : Nat) (r : List Nat) (h : Unicode.isLineBreak c = false) : preL (p ++ [c]) (linesG false r) = preL p (linesG false (c :: r)) := by
  rw [linesG, if_neg (by rw [h]; decide)]
  cases e : linesG false r with
  | nil => cases p with
    | nil => simp [preL]
    | cons a p => simp [preL]
  | cons q qs => cases p with
    | nil => simp [preL]
    | cons a p => simp [preL]
theorem preL_brk (p : List Nat) (c : Nat) (r : List Nat) (h : Unicode.isLineBreak c = true) : preL p (linesG false (c :: r)) = p :: linesG (c == 13 && r.head? == some 10) r := by
  rw [linesG, if_pos h]
  cases p with
  | nil => simp [preL]
  | cons a p => simp [preL]
noncomputable def subs (l : List Nat) (st : List (Nat × Nat × Nat)) : List (List Nat) := st.map fun p => (l.drop p.1).take (p.2.1 - p.1)
theorem ls_lines (l : List Nat) : ∀ (m cur : Nat) (st : LsSt), cur + m = l.length → (st.snd ≤ cur ∨ st.snd = cur + 1) →
    subs l (lsEnd (S l) (Id.run (forIn (m := Id) (List.range' cur m) st (lsBody (S l))))) = subs l st.fst.toList ++ (if st.snd ≤ cur then preL ((l.drop st.snd).take (cur - st.snd)) (linesG false (l.drop cur)) else linesG true (l.drop cur))
  | 0, cur, st, hm, hs => by
    show subs l (lsEnd (S l) st) = _
    have hc : cur = l.length := by omega
    subst hc
    rw [List.drop_length]
    unfold lsEnd
    rw [S_len]
    by_cases h : st.snd < l.length
    · rw [if_pos h, if_pos (by omega), Array.toList_push]
      have hne : (l.drop st.snd).take (l.length - st.snd) ≠ [] := by
        rw [List.take_of_length_le (by simp)]
        intro e
        have := congrArg List.length e
        simp at this
        omega
      simp only [subs, List.map_append, List.map_cons, List.map_nil, linesG, preL, if_neg hne]
    · rw [if_neg h]
      by_cases h2 : st.snd ≤ l.length
      · have : st.snd = l.length := by omega
        rw [if_pos h2, this]
        simp [linesG, preL]
      · rw [if_neg h2]; simp [linesG]
  | m + 1, cur, st, hm, hs => by
    rw [List.range'_succ, List.forIn_cons]
    have hlt : cur < l.length := by omega
    obtain ⟨c, r, hcr⟩ : ∃ c r, l.drop cur = c :: r := by
      cases e : l.drop cur with
      | nil => have := congrArg List.length e; simp at this; omega
      | cons c r => exact ⟨c, r, rfl⟩
    have hr : l.drop (cur + 1) = r := by rw [← List.tail_drop, hcr]; rfl
    have hg : (S l).cps.getD cur 0 = c := by
      have : l[cur]? = some c := by
        have h0 := congrArg (fun z => z[0]?) hcr
        simpa using h0
      simp [this]
    have hnx : (S l).cps[cur + 1]? = r.head? := by
      have h0 := congrArg (fun z => z[0]?) hr
      rw [List.head?_eq_getElem?, ← h0]
      simp
    by_cases h1 : st.snd ≤ cur
    · rw [if_pos h1, hcr]
      by_cases hb : Unicode.isLineBreak c = true
      · unfold lsBody
        rw [if_pos (by rw [hg, hb]; simp [h1])]
        show subs l (lsEnd (S l) (Id.run (forIn (m := Id) (List.range' (cur + 1) m) (st.fst.push (st.snd, cur, lsNext (S l) cur), lsNext (S l) cur) (lsBody (S l))))) = _
        rw [preL_brk _ _ _ hb]
        by_cases h13 : (c == 13 && r.head? == some 10) = true
        · have e : lsNext (S l) cur = cur + 2 := by unfold lsNext; rw [hg, hnx, if_pos h13]
          rw [ls_lines l m (cur + 1) _ (by omega) (by right; exact e)]
          dsimp only
          rw [e, if_neg (by omega), hr, h13, Array.toList_push]
          simp [subs]
        · have e : lsNext (S l) cur = cur + 1 := by unfold lsNext; rw [hg, hnx, if_neg h13]
          rw [ls_lines l m (cur + 1) _ (by omega) (by left; exact Nat.le_of_eq e)]
          dsimp only
          rw [e, if_pos (by omega), hr, Array.toList_push]
          rw [Bool.not_eq_true] at h13
          rw [h13]
          simp [subs, preL]
      · have hb' : Unicode.isLineBreak c = false := by simpa using hb
        unfold lsBody
        rw [if_neg (by rw [hg, hb']; simp)]
        show subs l (lsEnd (S l) (Id.run (forIn (m := Id) (List.range' (cur + 1) m) (st.fst, st.snd) (lsBody (S l))))) = _
        rw [ls_lines l m (cur + 1) _ (by omega) (by left; show st.snd ≤ cur + 1; omega)]
        dsimp only
        rw [if_pos (by omega), hr, ← preL_snoc _ _ _ hb']
        congr 2
        have e2 : cur + 1 - st.snd = (cur - st.snd) + 1 := by omega
        rw [e2, List.take_add_one, List.getElem?_drop]
        have : l[st.snd + (cur - st.snd)]? = some c := by
          rw [show st.snd + (cur - st.snd) = cur by omega]
          have h0 := congrArg (fun z => z[0]?) hcr
          simpa using h0
        rw [this]; rfl
    · have h2 : st.snd = cur + 1 := by omega
      unfold lsBody
      rw [if_neg h1, if_neg (by simp; omega)]
      show subs l (lsEnd (S l) (Id.run (forIn (m := Id) (List.range' (cur + 1) m) (st.fst, st.snd) (lsBody (S l))))) = _
      rw [ls_lines l m (cur + 1) _ (by omega) (by left; show st.snd ≤ cur + 1; omega)]
      dsimp only
      rw [if_pos (by omega), hr, hcr, h2]
      simp [linesG, preL]
theorem subs_S (l : List Nat) (st : List (Nat × Nat × Nat)) : (st.map fun (p : Nat × Nat × Nat) => strSub (S l) p.1 p.2.1) = (subs l st).map S := by
  unfold subs
  rw [List.map_map]
  refine List.map_congr_left fun p _ => ?_
  apply Str.ext'
  apply Array.toList_inj.mp
  rw [strSub_toList, S_list]
  simp
theorem lines_S (l : List Nat) : Txt.lines (S l) = (linesG false l).map S := by
  have h : linesOf (S l) = (linesG false l).map S := by
    unfold linesOf lineCuts
    rw [List.map_map]
    show (lineSpans (S l)).map (fun (p : Nat × Nat × Nat) => strSub (S l) p.1 (if false = true then p.2.2 else p.2.1)) = _
    simp only [Bool.false_eq_true, if_false]
    rw [subs_S, ls_eq, S_len, ls_lines l l.length 0 _ (by omega) (by left; simp)]
    simp [subs, preL]
  unfold Txt.lines
  split
  · rename_i e
    rw [← h]
    unfold linesOf
    rw [beq_iff_eq.mp e]
    simp only [List.map_cons, List.map_nil]
    rw [sub_whole]
  · exact h
theorem rstrip_S (l : List Nat) (h : ∀ c ∈ l, Unicode.isSpace c = false) : Txt.rstrip (S l) = S l := by
  have e : stripSame Unicode.isSpace false true (S l) = true := by
    unfold stripSame stripLo stripHi
    have : (l.reverse.takeWhile Unicode.isSpace) = [] := by
      cases e : l.reverse with
      | nil => rfl
      | cons a r => rw [List.takeWhile_cons, if_neg (by have := h a (by rw [← List.mem_reverse, e]; simp); rw [this]; decide)]
    simp [this, S_len]
  unfold Txt.rstrip Txt.stripBy
  rw [if_pos e]
end
section
set_option Elab.async false
set_option maxRecDepth 100000
set_option maxHeartbeats 4000000

noncomputable def LpEnd {σ : Type} (C : Heap → Prop) (L : Addr) (s : Shared) (own : List (Addr × Obj)) (Led : σ → List (Addr × Obj)) (ps : σ → List (Str × Value)) (stored : List Str) (m₀ : Str → Option Value) (P : σ → Prop) (s₂ : Shared) : Prop :=
  ∃ (c' : σ) (g h' : Heap) (tk : Nat) (m' : Str → Option Value) (news' : List (Addr × Obj)), s₂ = { s with heap := h', toks := tk } ∧ C g ∧ Fr g L h' m' ∧ News g L h' news' ∧ (∀ p ∈ own, p ∈ news') ∧ (∀ p ∈ Led c', p ∈ news') ∧
    (∀ p ∈ own, ∀ r ∈ Led c', r.1 ≠ p.1) ∧ (∀ p ∈ ps c', m' p.1 = some p.2) ∧ (∀ z, (∀ p ∈ ps c', z ≠ p.1) → stored.contains z = false → m' z = m₀ z) ∧ P c'
noncomputable def LpPost {σ : Type} (C : Heap → Prop) (L : Addr) (s : Shared) (own : List (Addr × Obj)) (Led : σ → List (Addr × Obj)) (ps : σ → List (Str × Value)) (stored : List Str) (m₀ : Str → Option Value) (P : σ → Prop) (Q : Flow → Shared → Prop) (f : Flow) (s₂ : Shared) : Prop :=
  match f with
  | .ret v => Q (.ret v) s₂
  | .brk => Q .next s₂
  | _ => LpEnd C L s own Led ps stored m₀ P s₂
theorem lp_end {σ : Type} {C : Heap → Prop} {L : Addr} {s : Shared} {own : List (Addr × Obj)} {Led : σ → List (Addr × Obj)} {ps : σ → List (Str × Value)} {stored : List Str} {m₀ m' : Str → Option Value} {P : σ → Prop} {g h' : Heap} {tk : Nat} {news' : List (Addr × Obj)} (c' : σ)
    (hC : C g) (F : Fr g L h' m') (N : News g L h' news') (ho : ∀ p ∈ own, p ∈ news') (hn : ∀ p ∈ Led c', p ∈ news') (hoff : ∀ p ∈ own, ∀ r ∈ Led c', r.1 ≠ p.1) (hk : ∀ p ∈ ps c', m' p.1 = some p.2) (hr : ∀ z, (∀ p ∈ ps c', z ≠ p.1) → stored.contains z = false → m' z = m₀ z) (hp : P c') :
    LpEnd C L s own Led ps stored m₀ P { s with heap := h', toks := tk } := ⟨c', g, h', tk, m', news', rfl, hC, F, N, ho, hn, hoff, hk, hr, hp⟩

section
variable {prog : Program} {w : World} {A : Around} {E : Value → Shared → Prop} {Q : Flow → Shared → Prop} {s : Shared} {env : Env} {h₀ : Heap} {L : Addr}
/-- a while whose base heap may turn -/
theorem while_gen {σ : Type} {test : Expr} {body : List Stmt} {pos : Pos} {m₀ : Str → Option Value} (C : Heap → Prop) (Led : σ → List (Addr × Obj)) (ps : σ → List (Str × Value)) (stored : List Str) (P : σ → Prop) (μ : σ → Nat) (c₀ : σ)
    (hC : C h₀) (F : Fr h₀ L s.heap m₀) (N : News h₀ L s.heap (Led c₀)) (hk : ∀ p ∈ ps c₀, m₀ p.1 = some p.2) (hp : P c₀)
    (turn : ∀ (c : σ) (u : Str → Option Value) g h tk, P c → C g → Fr g L h (kstB (fun z => if stored.contains z then u z else m₀ z) (ps c)) → News g L h (Led c) →
      wpAny (model prog w) A (isTrue test env (eval test env)) (fun b s₂ =>
        if b = true then wpAny (model prog w) A (execs body env) (LpPost C L s [] Led ps stored m₀ (fun c' => P c' ∧ μ c' < μ c) Q) E s₂ else Q .next s₂) E { s with heap := h, toks := tk })
    (hE : PassesOwn (model prog w) A env E := by passes_own) :
    wpAny (model prog w) A (exec (.While test body [] pos) env) Q E s := by
  refine wpAny_While (codeAny_whileLoop (fun n s' => ∃ (c : σ) (g h₁ : Heap) (tk₁ : Nat) (m₁ : Str → Option Value), μ c = n ∧ s' = { s with heap := h₁, toks := tk₁ } ∧ C g ∧ Fr g L h₁ m₁ ∧ News g L h₁ (Led c) ∧ (∀ p ∈ ps c, m₁ p.1 = some p.2) ∧ (∀ z, (∀ p ∈ ps c, z ≠ p.1) → stored.contains z = false → m₁ z = m₀ z) ∧ P c) ?_ (μ c₀) ⟨c₀, h₀, s.heap, s.toks, m₀, rfl, rfl, hC, F, N, hk, fun _ _ _ => rfl, hp⟩)
  intro n s' hI
  refine Classical.byContradiction fun hG => ?_
  obtain ⟨c, g, h₁, tk₁, m₁, rfl, rfl, hC₁, F₁, N₁, h1, h2, hp₁⟩ := hI
  refine hG ?_
  clear hG
  refine wpAny_mono (turn c m₁ g h₁ tk₁ hp₁ hC₁ (ksw_fr h1 h2 F₁) N₁) (fun b s₂ h₂ => ?_) hE
  cases b with
  | false =>
    simp only [Bool.false_eq_true, if_false] at h₂ ⊢
    exact wpAny_execs_nil h₂
  | true =>
    simp only [if_true] at h₂ ⊢
    refine wpAny_mono h₂ (fun f s₃ h₃ => ?_) hE
    cases f with
    | next =>
      refine Classical.byContradiction fun hG => ?_
      obtain ⟨c', g', h', tk, m', news', rfl, hC', F', N', _, hn, _, hk', hr', hp', hm'⟩ := h₃
      refine hG ?_
      exact ⟨μ c', hm', c', g', h', tk, m', rfl, rfl, hC', F', fun p hp => N' p (hn p hp), hk', hr', hp'⟩
    | cont =>
      refine Classical.byContradiction fun hG => ?_
      obtain ⟨c', g', h', tk, m', news', rfl, hC', F', N', _, hn, _, hk', hr', hp', hm'⟩ := h₃
      refine hG ?_
      exact ⟨μ c', hm', c', g', h', tk, m', rfl, rfl, hC', F', fun p hp => N' p (hn p hp), hk', hr', hp'⟩
    | brk => exact h₃
    | ret v => exact h₃
end

section
variable {prog : Program} {w : World} {A : Around} {E : Value → Shared → Prop} {Q : Flow → Shared → Prop} {s : Shared} {env : Env} {h₀ : Heap}
/-- a for over an iterator I whose other objects stand in the ledger; the base heap may turn -/
theorem for_any {σ : Type} {target : Expr} {body : List Stmt} {m₀ : Str → Option Value} {I : Addr} {fp : List Addr} {n : Nat} {Pv : Nat → Value → Prop} {St : Nat → Heap → Prop} (W : Walks prog w A I fp [I] n Pv St)
    (C : Heap → Prop) (Led : σ → List (Addr × Obj)) (ps : σ → List (Str × Value)) (stored : List Str) (P : Nat → σ → Prop) (c₀ : σ)
    (keep : List (Addr × Obj)) (hfp : ∀ b ∈ fp, b = I ∨ ∃ o, (b, o) ∈ keep) (hkeep : ∀ c, ∀ p ∈ keep, p ∈ Led c) (hI : ∀ i h, St i h → ∃ o, h.get? I = some o) (hIC : ∀ g, C g → g.get? I = none) (hIL : I ≠ env.locals)
    (hst : St 0 s.heap) (hC : C h₀) (F : Fr h₀ env.locals s.heap m₀) (N : News h₀ env.locals s.heap (Led c₀)) (hoff : ∀ r ∈ Led c₀, r.1 ≠ I) (hk : ∀ p ∈ ps c₀, m₀ p.1 = some p.2) (hp : P 0 c₀)
    (turn : ∀ (i : Nat) (v : Value) (c : σ) (u : Str → Option Value) g h tk oI, i < n → Pv i v → P i c → C g → St (i + 1) h → Fr g env.locals h (kstB (fun z => if stored.contains z then u z else m₀ z) (ps c)) → News g env.locals h ((I, oI) :: Led c) → (∀ r ∈ Led c, r.1 ≠ I) →
      wpAny (model prog w) A (letOwnedTupleGo target (.ref I) v) (fun _ s₁ => wpAny (model prog w) A (assign target env v) (fun _ s₂ => wpAny (model prog w) A (execs body env) (LpPost C env.locals s [(I, oI)] Led ps stored m₀ (P (i + 1)) Q) E s₂) E s₁) E { s with heap := h, toks := tk })
    (after : ∀ (c : σ) (u : Str → Option Value) g h tk, P n c → C g → Fr g env.locals h (kstB (fun z => if stored.contains z then u z else m₀ z) (ps c)) → News g env.locals h (Led c) → Q .next { s with heap := h, toks := tk })
    (hE : PassesOwn (model prog w) A env E := by passes_own) :
    codeAny (model prog w) A (.forLoop target (.ref I) body [] env) (fun r s' => match r with | .ok f => Q f s' | .error e => cameBackBy (model prog w) A env E e s') s := by
  refine codeAny_forLoop_any (fun k s' => ∃ (i : Nat) (c : σ) (g h₁ : Heap) (tk₁ : Nat) (m₁ : Str → Option Value), i ≤ n ∧ k = n + 1 - i ∧ s' = { s with heap := h₁, toks := tk₁ } ∧ St i h₁ ∧ C g ∧ Fr g env.locals h₁ m₁ ∧ News g env.locals h₁ (Led c) ∧ (∀ r ∈ Led c, r.1 ≠ I) ∧
    (∀ p ∈ ps c, m₁ p.1 = some p.2) ∧ (∀ z, (∀ p ∈ ps c, z ≠ p.1) → stored.contains z = false → m₁ z = m₀ z) ∧ P i c) ?_ (n + 1) ⟨0, c₀, h₀, s.heap, s.toks, m₀, Nat.zero_le _, rfl, rfl, hst, hC, F, N, hoff, hk, fun _ _ _ => rfl, hp⟩
  intro k s' hJ
  refine Classical.byContradiction fun hG => ?_
  obtain ⟨i, c, g, h₁, tk₁, m₁, hi, rfl, rfl, hst₁, hC₁, F₁, N₁, hoff₁, h1, h2, hp₁⟩ := hJ
  refine hG ?_
  clear hG
  have next : ∀ h₂ : Heap, (∀ b o, b ∉ [I] → h₁.get? b = some o → h₂.get? b = some o) → Fr g env.locals h₂ m₁ ∧ News g env.locals h₂ (Led c) := fun h₂ hk₂ =>
    ⟨⟨F₁.ns.at' fun o e => hk₂ _ o (by simpa using fun q => hIL q.symm) e, fun b o e => hk₂ b o (by
        intro q
        rw [List.mem_singleton.mp q, hIC g hC₁] at e
        cases e) (F₁.keep b o e), F₁.above⟩, fun p hp => ⟨hk₂ _ _ (by simpa using hoff₁ p hp) (N₁ p hp).1, (N₁ p hp).2⟩⟩
  by_cases hlt : i < n
  · refine W.item i _ _ _ hlt hst₁ fun v h₂ tk₂ hP hst₂ hk₂ => ?_
    obtain ⟨F₂, N₂⟩ := next h₂ hk₂
    obtain ⟨oI, hoI⟩ := hI _ _ hst₂
    have N₃ : News g env.locals h₂ ((I, oI) :: Led c) := fun p hp => by
      rcases List.mem_cons.mp hp with rfl | hp
      · exact ⟨hoI, hIL, hIC g hC₁⟩
      · exact N₂ p hp
    refine wpAny_passesOwn hE (wpAny_mono (turn i v c m₁ g h₂ tk₂ oI hlt hP hp₁ hC₁ hst₂ (ksw_fr h1 h2 F₂) N₃ hoff₁) (fun _ s₁ q => ?_) fun _ _ e => e)
    refine wpAny_passesOwn hE (wpAny_mono q (fun _ s₂ q => ?_) fun _ _ e => e)
    refine wpAny_passesOwn hE (wpAny_mono q (fun f s₃ h₃ => ?_) fun _ _ e => e)
    have fin : LpEnd C env.locals s [(I, oI)] Led ps stored m₀ (P (i + 1)) s₃ → ∃ m, m < n + 1 - i ∧ ∃ (i : Nat) (c : σ) (g h₁ : Heap) (tk₁ : Nat) (m₁ : Str → Option Value), i ≤ n ∧ m = n + 1 - i ∧ s₃ = { s with heap := h₁, toks := tk₁ } ∧ St i h₁ ∧ C g ∧ Fr g env.locals h₁ m₁ ∧ News g env.locals h₁ (Led c) ∧ (∀ r ∈ Led c, r.1 ≠ I) ∧
        (∀ p ∈ ps c, m₁ p.1 = some p.2) ∧ (∀ z, (∀ p ∈ ps c, z ≠ p.1) → stored.contains z = false → m₁ z = m₀ z) ∧ P i c := by
      intro hJ
      refine Classical.byContradiction fun hG => ?_
      obtain ⟨c', g', h', tk, m', news', rfl, hC', F', N', ho, hn, hoff', hk', hr', hp'⟩ := hJ
      refine hG ?_
      clear hG
      refine ⟨n + 1 - (i + 1), by omega, i + 1, c', g', h', tk, m', hlt, rfl, rfl, ?_, hC', F', fun p hp => N' p (hn p hp), hoff' _ List.mem_cons_self, hk', hr', hp'⟩
      refine W.frame _ _ _ hst₂ fun b hb o e => ?_
      rcases hfp b hb with rfl | ⟨o', ho'⟩
      · rw [hoI] at e
        cases e
        exact (N' _ (ho _ List.mem_cons_self)).1
      · have e1 := (N₂ _ (hkeep c _ ho')).1
        have e2 := (N' _ (hn _ (hkeep c' _ ho'))).1
        rw [e] at e1
        cases e1
        exact e2
    cases f with
    | ret v => exact h₃
    | brk => exact h₃
    | next => exact fin h₃
    | cont => exact fin h₃
  · have hin : i = n := by omega
    subst hin
    refine W.done _ _ _ hst₁ fun h₂ tk₂ hk₂ => wpAny_execs_nil ?_
    obtain ⟨F₂, N₂⟩ := next h₂ hk₂
    exact after c m₁ g h₂ tk₂ hp₁ hC₁ (ksw_fr h1 h2 F₂) N₂

noncomputable def forRet (prog : Program) (w : World) (A : Around) (env : Env) (E : Value → Shared → Prop) (Q : Flow → Shared → Prop) (r : Result) (s' : Shared) : Prop := match r with
  | .ok f => Q f s'
  | .error e => cameBackBy (model prog w) A env E e s'
/-- a for over a list of the ledger -/
theorem for_list {σ : Type} {target : Expr} {body : List Stmt} {m₀ : Str → Option Value} {l : Addr} {ol : Obj} {items : Array Value}
    (C : Heap → Prop) (Led : σ → List (Addr × Obj)) (ps : σ → List (Str × Value)) (stored : List Str) (P : Nat → σ → Prop) (c₀ : σ) (hh : A.handled = none)
    (hol : ∀ c, (l, ol) ∈ Led c) (hcl : ol.cls = .type "list") (hdl : ∃ n, ol.data = .seq items n) (hCn : ∀ g, C g → ∀ b, h₀.get? b = none → g.get? b = none)
    (hC : C h₀) (F : Fr h₀ env.locals s.heap m₀) (N : News h₀ env.locals s.heap (Led c₀)) (hk : ∀ p ∈ ps c₀, m₀ p.1 = some p.2) (hp : P 0 c₀)
    (turn : ∀ (i : Nat) (v : Value) (c : σ) (u : Str → Option Value) g h tk I oI, items[i]? = some v → P i c → C g → h.IsListIter I l (i + 1) → Fr g env.locals h (kstB (fun z => if stored.contains z then u z else m₀ z) (ps c)) → News g env.locals h ((I, oI) :: Led c) → (∀ r ∈ Led c, r.1 ≠ I) →
      wpAny (model prog w) A (letOwnedTupleGo target (.ref I) v) (fun _ s₁ => wpAny (model prog w) A (assign target env v) (fun _ s₂ => wpAny (model prog w) A (execs body env) (LpPost C env.locals s [(I, oI)] Led ps stored m₀ (P (i + 1)) Q) E s₂) E s₁) E { s with heap := h, toks := tk })
    (after : ∀ (c : σ) (u : Str → Option Value) g h tk, P items.size c → C g → Fr g env.locals h (kstB (fun z => if stored.contains z then u z else m₀ z) (ps c)) → News g env.locals h (Led c) → Q .next { s with heap := h, toks := tk })
    (hE : PassesOwn (model prog w) A env E := by passes_own) :
    wpAny (model prog w) A (pyIter (.ref l)) (fun it s₂ => codeAny (model prog w) A (.forLoop target it body [] env) (fun r s' => match r with | .ok f => Q f s' | .error e => cameBackBy (model prog w) A env E e s') s₂) E s := by
  have hls : s.heap.IsList l items := ⟨ol, (N _ (hol c₀)).1, hcl, hdl⟩
  have hlt := Heap.lt_size (N _ (hol c₀)).1
  refine wpAny_pyIter_list hls ?_
  have hne : l ≠ s.heap.objs.size := Nat.ne_of_lt hlt
  have hI0 : h₀.get? s.heap.objs.size = none := by
    cases e : h₀.get? s.heap.objs.size with
    | none => rfl
    | some o => exact absurd (Heap.lt_size (F.keep _ _ e)) (Nat.lt_irrefl _)
  refine for_any (W := Walks.list hh s.heap.objs.size l hne items) C Led ps stored P c₀ [(l, ol)] (fun b hb => ?_) (fun c p hp => by rw [List.mem_singleton.mp hp]; exact hol c) (fun i h st => let ⟨o, ho, _⟩ := st.1; ⟨o, ho⟩) (fun g hg => hCn g hg _ hI0) (Nat.ne_of_gt F.ns.lt)
    ⟨⟨_, Heap.get?_push_size _ rfl, rfl, rfl⟩, hls.at fun o e => Heap.get?_push_of_some _ e⟩ hC (F.push _) (fun p hp => ⟨Heap.get?_push_of_some _ (N p hp).1, (N p hp).2⟩) (fun r hr => Nat.ne_of_lt (Heap.lt_size (N r hr).1)) hk hp (fun i v c u g h tk oI hi hv hP hC' st F' N' off => ?_) (fun c u g h tk a b F' N' => ?_) hE
  · simp only [List.mem_cons, List.not_mem_nil, or_false] at hb
    rcases hb with rfl | rfl
    · exact .inl rfl
    · exact .inr ⟨ol, List.mem_cons_self⟩
  · exact turn i v c u g h tk _ oI hv hP hC' st.1 F' N' off
  · exact after c u g h tk a b F' N'
end
end
section
set_option Elab.async false
set_option maxRecDepth 100000
set_option maxHeartbeats 4000000
inductive TxtsAre : List Value → List (List Nat) → Prop
  | nil : TxtsAre [] []
  | cons (l : List Nat) (t : Tok) {vs : List Value} {ls : List (List Nat)} : TxtsAre vs ls → TxtsAre (.str (S l) t :: vs) (l :: ls)
theorem TxtsAre.length : ∀ {vs : List Value} {ls : List (List Nat)}, TxtsAre vs ls → vs.length = ls.length
  | _, _, .nil => rfl
  | _, _, .cons _ _ h => by simp [h.length]
theorem TxtsAre.app : ∀ {vs ws : List Value} {ls ks : List (List Nat)}, TxtsAre vs ls → TxtsAre ws ks → TxtsAre (vs ++ ws) (ls ++ ks)
  | _, _, _, _, .nil, h => h
  | _, _, _, _, .cons l t h, h2 => .cons l t (h.app h2)
theorem TxtsAre.get {v : Value} : ∀ {vs : List Value} {ls : List (List Nat)} {i : Nat}, TxtsAre vs ls → vs.toArray[i]? = some v → ∃ t, v = .str (S (ls.getD i [])) t ∧ i < ls.length
  | _, _, i, .nil, e => by simp at e
  | _, _, 0, .cons n t _, e => by simp at e; exact ⟨t, by simp [← e], by simp⟩
  | _, _, i + 1, .cons n t r, e => by
    obtain ⟨t', h1, h2⟩ := TxtsAre.get (i := i) r (by simpa using e)
    exact ⟨t', by simpa using h1, by simpa using h2⟩
theorem txts_of : ∀ (l : List (Str × Tok)) (ls : List (List Nat)), l.map (·.1) = ls.map S → TxtsAre (strValues l) ls
  | [], [], _ => .nil
  | [], _ :: _, e => by cases e
  | _ :: _, [], e => by cases e
  | (x, t) :: r, y :: ls, e => by
    have e1 : x = S y := (List.cons.inj e).1
    have e2 := (List.cons.inj e).2
    subst e1
    exact .cons y t (txts_of r ls e2)
theorem TxtsAre.values : ∀ {vs : List Value} {ls : List (List Nat)}, TxtsAre vs ls → ∃ l : List (Str × Tok), vs = strValues l ∧ l.map (·.1) = ls.map S
  | _, _, .nil => ⟨[], rfl, rfl⟩
  | _, _, .cons l t h => by
    obtain ⟨r, e1, e2⟩ := h.values
    exact ⟨(S l, t) :: r, by rw [e1]; rfl, by simp [e2]⟩
section
variable {prog : Program} {w : World} {A : Around} {E : Value → Shared → Prop} {s : Shared} {h₀ : Heap} {L : Addr} {m : Str → Option Value} {news : List (Addr × Obj)} {l l' : List Nat} {t u : Tok}
theorem size_S (hl : l.length < 100000) : (S l).length ≤ sizeLine := by rw [S_len, show sizeLine = 16777216 from rfl]; omega
theorem s_truthy {Q : Bool → Shared → Prop} (hl : l.length < 100000) (h : ∀ k, Q (!l.isEmpty) { s with toks := k }) : wpAny (model prog w) A (truthy (.str (S l) t)) Q E s := by
  refine KXt.truthy (b := !l.isEmpty) ?_ (by rw [S_len]; omega) h
  rw [S_len]
  cases l with
  | nil => rfl
  | cons a r =>
    simp only [List.length_cons, List.isEmpty_cons, Bool.not_false, bne_iff_ne, ne_eq]
    omega
theorem s_item {value slice : Expr} {k : Int} {Q : Value → Shared → Prop} (h0 : 0 ≤ k) (h1 : k < (l.length : Int)) (hl : l.length < 100000) (h : ∀ t' tk, Q (.str (S [l.getD k.toNat 0]) t') { s with toks := tk })
    (hs : subscripted slice false (.str (S l) t) (.int k u) = operate [.str (S l) t, .int k u] (getItem (.str (S l) t) (.int k u)) := by with_unfolding_all rfl)
    (ht : ∀ r, letTemporaryGo value (.str (S l) t) r = pure () := by intro _; with_unfolding_all rfl) :
    wpAny (model prog w) A (subscriptTail value slice (.str (S l) t) (.int k u)) Q E s := by
  refine KXi.item (n := l.length) (S_len l) (by omega) h1 (by omega) (fun _ => ?_) hs ht
  obtain ⟨n, rfl⟩ := Int.eq_ofNat_of_zero_le h0
  rw [item_S l (by omega)]
  exact h _ _
theorem s_item_neg {value slice : Expr} {Q : Value → Shared → Prop} (h1 : 0 < l.length) (hl : l.length < 100000) (h : ∀ t' tk, Q (.str (S [l.getD (l.length - 1) 0]) t') { s with toks := tk })
    (hs : subscripted slice false (.str (S l) t) (.int (-1) u) = operate [.str (S l) t, .int (-1) u] (getItem (.str (S l) t) (.int (-1) u)) := by with_unfolding_all rfl)
    (ht : ∀ r, letTemporaryGo value (.str (S l) t) r = pure () := by intro _; with_unfolding_all rfl) :
    wpAny (model prog w) A (subscriptTail value slice (.str (S l) t) (.int (-1) u)) Q E s := by
  refine KXi.item (n := l.length) (S_len l) (by omega) (by omega) (by omega) (fun _ => ?_) hs ht
  rw [item_neg l h1]
  exact h _ _
theorem s_len {Q : Value → Shared → Prop} (hl : l.length < 100000) (h : ∀ t' tk, Q (.int (l.length : Int) t') { s with toks := tk }) : wpAny (model prog w) A (call (.builtin "len") [.str (S l) t]) Q E s := by
  refine P.len_str (by rw [S_len]; omega) ?_
  rw [S_len]
  exact h _ _
theorem s_add {Q : Value → Shared → Prop} (hl : l.length + l'.length < 100000) (h : ∀ t' tk, Q (.str (S (l ++ l')) t') { s with toks := tk }) : wpAny (model prog w) A (binaryOp .Add (.str (S l) t) (.str (S l') u)) Q E s := by
  refine SB.add (fun t' k => ?_) (by rw [S_len, S_len, show sizeLine = 16777216 from rfl]; omega)
  rw [S_app]
  exact h _ _
theorem s_iadd {Q : Value → Shared → Prop} (hl : l.length + l'.length < 100000) (h : ∀ t' tk, Q (.str (S (l ++ l')) t') { s with toks := tk }) : wpAny (model prog w) A (inplaceOp .Add (.str (S l) t) (.str (S l') u)) Q E s := by
  refine SB.iadd (fun t' k => ?_) (by rw [S_len, S_len, show sizeLine = 16777216 from rfl]; omega)
  rw [S_app]
  exact h _ _
theorem s_in {c : Nat} {Q : Value → Shared → Prop} (h : Q (.bool (decide (c ∈ l))) s) : wpAny (model prog w) A (compareOp .In (.str (S [c]) u) (.str (S l) t)) Q E s := by
  refine SB.contains ?_
  rw [contains_one]
  exact h
theorem s_notin {c : Nat} {Q : Value → Shared → Prop} (h : Q (.bool (!decide (c ∈ l))) s) : wpAny (model prog w) A (compareOp .NotIn (.str (S [c]) u) (.str (S l) t)) Q E s := by
  refine SB.notContains ?_
  rw [contains_one]
  exact h
theorem s_ends {c : Nat} {Q : Value → Shared → Prop} (h : Q (.bool (decide (l.getLast? = some c))) s) : wpAny (model prog w) A (call (.builtin "str.endswith") [.str (S l) t, .str (S [c]) u]) Q E s := by
  refine SC.endswith ?_
  rw [ends_S]
  exact h
theorem s_rstrip {Q : Value → Shared → Prop} (hl : l.length < 100000) (hs : ∀ c ∈ l, Unicode.isSpace c = false) (h : ∀ t' tk, Q (.str (S l) t') { s with toks := tk }) : wpAny (model prog w) A (call (.builtin "str.rstrip") [.str (S l) t]) Q E s := by
  refine SC.rstrip (fun t' k => ?_) (size_S hl)
  rw [rstrip_S l hs]
  exact h _ _
theorem s_lines {Q : Value → Shared → Prop} (hF : Fr h₀ L s.heap m) (hN : News h₀ L s.heap news) (hl : l.length < 100000)
    (h : ∀ D vs h' k, TxtsAre vs (linesG false l) → Fr h₀ L h' m → News h₀ L h' ((D, listOf vs.toArray 0) :: news) → AllLt D news → Q (.ref D) { s with heap := h', toks := k }) :
    wpAny (model prog w) A (call (.builtin "str.splitlines") [.str (S l) t]) Q E s := by
  refine splitlinesNA hF hN (fun ls h' k e _ _ _ F N => ?_) (by rw [S_len, show sizeLine = 16777216 from rfl]; omega)
  rw [lines_S] at e
  exact h _ _ h' k (txts_of ls _ e) F N (allLt_of fun p hp => Heap.lt_size (hN p hp).1)
theorem s_split {Q : Value → Shared → Prop} (hF : Fr h₀ L s.heap m) (hN : News h₀ L s.heap news) (hl : l.length < 100000) (hy : l' ≠ []) (hk : PySem.Builtin.Str.strKind (S l') = 1)
    (h : ∀ D vs h' k, TxtsAre vs (splitG l' 0 l) → Fr h₀ L h' m → News h₀ L h' ((D, listOf vs.toArray 0) :: news) → AllLt D news → Q (.ref D) { s with heap := h', toks := k }) :
    wpAny (model prog w) A (call (.builtin "str.split") [.str (S l) t, .str (S l') u]) Q E s := by
  refine splitN1 hF hN (by rw [S_len]; simpa using hy) (fun ls h' k e F N => ?_) (by rw [S_len, show sizeLine = 16777216 from rfl]; omega)
  rw [split_S l l' hy hk] at e
  exact h _ _ h' k (txts_of ls _ e) F N (allLt_of fun p hp => Heap.lt_size (hN p hp).1)
section
variable {value : Expr} {Q : Value → Shared → Prop}
theorem s_slice_ss {lo hi : Expr} {px : Pos} {i j : Int} {ui uj : Tok} (hF : Fr h₀ L s.heap m) (hN : News h₀ L s.heap news) (hl : l.length < 100000) (h0 : 0 ≤ i) (h1 : i ≤ j) (h2 : j ≤ (l.length : Int))
    (h : ∀ h' t' k, Fr h₀ L h' m → News h₀ L h' news → Q (.str (S ((l.drop i.toNat).take (j.toNat - i.toNat))) t') { s with heap := h', toks := k })
    (ht : ∀ r, letTemporaryGo value (.str (S l) t) r = pure () := by intro _; with_unfolding_all rfl) :
    wpAny (model prog w) A (subscriptTail value (Expr.Slice (some lo) (some hi) none px) (.str (S l) t) (.ref s.heap.objs.size)) Q E { s with heap := s.heap.push { cls := .type "slice", data := .fields #[.int i ui, .int j uj, .none] } } := by
  refine slice_strN_ss hF hN (fun h' t' k a b => ?_) (hs := by with_unfolding_all rfl) (ht := ht) (hsz := size_S hl)
  obtain ⟨n, rfl⟩ := Int.eq_ofNat_of_zero_le h0
  obtain ⟨n', rfl⟩ := Int.eq_ofNat_of_zero_le (Int.le_trans h0 h1)
  have h3 := h h' t' k a b
  rw [Int.toNat_natCast, Int.toNat_natCast] at h3
  rw [slice_S l (by omega) (by omega)]
  exact h3
theorem s_slice_sn {lo : Expr} {px : Pos} {i : Int} {ui : Tok} (hF : Fr h₀ L s.heap m) (hN : News h₀ L s.heap news) (hl : l.length < 100000) (h0 : 0 ≤ i) (h2 : i ≤ (l.length : Int))
    (h : ∀ h' t' k, Fr h₀ L h' m → News h₀ L h' news → Q (.str (S (l.drop i.toNat)) t') { s with heap := h', toks := k })
    (ht : ∀ r, letTemporaryGo value (.str (S l) t) r = pure () := by intro _; with_unfolding_all rfl) :
    wpAny (model prog w) A (subscriptTail value (Expr.Slice (some lo) none none px) (.str (S l) t) (.ref s.heap.objs.size)) Q E { s with heap := s.heap.push { cls := .type "slice", data := .fields #[.int i ui, .none, .none] } } := by
  refine slice_strN_sn hF hN (fun h' t' k a b => ?_) (hs := by with_unfolding_all rfl) (ht := ht) (hsz := size_S hl)
  obtain ⟨n, rfl⟩ := Int.eq_ofNat_of_zero_le h0
  have h3 := h h' t' k a b
  rw [Int.toNat_natCast] at h3
  rw [slice_from l (by omega)]
  exact h3
theorem s_slice_last {lo : Expr} {px : Pos} {ui : Tok} (hF : Fr h₀ L s.heap m) (hN : News h₀ L s.heap news) (hl : l.length < 100000)
    (h : ∀ h' t' k, Fr h₀ L h' m → News h₀ L h' news → Q (.str (S (l.drop (l.length - 1))) t') { s with heap := h', toks := k })
    (ht : ∀ r, letTemporaryGo value (.str (S l) t) r = pure () := by intro _; with_unfolding_all rfl) :
    wpAny (model prog w) A (subscriptTail value (Expr.Slice (some lo) none none px) (.str (S l) t) (.ref s.heap.objs.size)) Q E { s with heap := s.heap.push { cls := .type "slice", data := .fields #[.int (-1) ui, .none, .none] } } := by
  refine slice_strN_sn hF hN (fun h' t' k a b => ?_) (hs := by with_unfolding_all rfl) (ht := ht) (hsz := size_S hl)
  have h3 := h h' t' k a b
  cases l with
  | nil => rw [slice_last_nil]; exact h3
  | cons a r => rw [slice_last _ (by simp)]; exact h3
theorem s_slice_init {hi : Expr} {px : Pos} {ui : Tok} (hF : Fr h₀ L s.heap m) (hN : News h₀ L s.heap news) (hl : l.length < 100000) (h0 : 0 < l.length)
    (h : ∀ h' t' k, Fr h₀ L h' m → News h₀ L h' news → Q (.str (S l.dropLast) t') { s with heap := h', toks := k })
    (ht : ∀ r, letTemporaryGo value (.str (S l) t) r = pure () := by intro _; with_unfolding_all rfl) :
    wpAny (model prog w) A (subscriptTail value (Expr.Slice none (some hi) none px) (.str (S l) t) (.ref s.heap.objs.size)) Q E { s with heap := s.heap.push { cls := .type "slice", data := .fields #[.none, .int (-1) ui, .none] } } := by
  refine slice_strN_ns hF hN (fun h' t' k a b => ?_) (hs := by with_unfolding_all rfl) (ht := ht) (hsz := size_S hl)
  have h3 := h h' t' k a b
  rw [slice_to_neg _ h0]
  exact h3
end
theorem s_eq {Q : Value → Shared → Prop} (h : Q (.bool (decide (l = l'))) s) : wpAny (model prog w) A (compareOp .Eq (.str (S l) t) (.str (S l') u)) Q E s := by
  refine eq_str ?_
  have : (S l == S l') = decide (l = l') := by
    by_cases e : l = l'
    · subst e; simp
    · have : S l ≠ S l' := fun z => e (S_inj z)
      rw [decide_eq_false e]
      simpa using this
  rw [this]
  exact h
theorem s_ne {Q : Value → Shared → Prop} (h : Q (.bool (!decide (l = l'))) s) : wpAny (model prog w) A (compareOp .NotEq (.str (S l) t) (.str (S l') u)) Q E s := by
  refine ne_str ?_
  have : (S l == S l') = decide (l = l') := by
    by_cases e : l = l'
    · subst e; simp
    · have : S l ≠ S l' := fun z => e (S_inj z)
      rw [decide_eq_false e]
      simpa using this
  rw [bne, this]
  exact h
theorem pos_of_last {d : List Nat} {c : Nat} (h : d.getLast? = some c) : 0 < d.length := by
  cases d with
  | nil => cases h
  | cons => simp
theorem lit_eq : Str.ofString "=" = S [61] := by decide +kernel
theorem lit_nl : Str.ofString "\n" = S [10] := by decide +kernel
theorem lit_crlf : Str.ofString "\r\n" = S [13, 10] := by decide +kernel
theorem lit_bl : Str.ofString " \t" = S [32, 9] := by decide +kernel
theorem lit_nil : Str.ofString "" = S [] := by decide +kernel
theorem lit_hex : Str.ofString "0123456789abcdefABCDEF" = S [48, 49, 50, 51, 52, 53, 54, 55, 56, 57, 97, 98, 99, 100, 101, 102, 65, 66, 67, 68, 69, 70] := by decide +kernel
section
variable {x y : Str}
theorem l_ne {Q : Value → Shared → Prop} (hx : x = S l) (hy : y = S l') (h : Q (.bool (!decide (l = l'))) s) : wpAny (model prog w) A (compareOp .NotEq (.str x t) (.str y u)) Q E s := by subst hx hy; exact s_ne h
theorem l_eq {Q : Value → Shared → Prop} (hx : x = S l) (hy : y = S l') (h : Q (.bool (decide (l = l'))) s) : wpAny (model prog w) A (compareOp .Eq (.str x t) (.str y u)) Q E s := by subst hx hy; exact s_eq h
theorem l_add {Q : Value → Shared → Prop} (hx : x = S l) (hy : y = S l') (hl : l.length + l'.length < 100000) (h : ∀ t' tk, Q (.str (S (l ++ l')) t') { s with toks := tk }) : wpAny (model prog w) A (binaryOp .Add (.str x t) (.str y u)) Q E s := by subst hx hy; exact s_add hl h
theorem l_iadd {Q : Value → Shared → Prop} (hx : x = S l) (hy : y = S l') (hl : l.length + l'.length < 100000) (h : ∀ t' tk, Q (.str (S (l ++ l')) t') { s with toks := tk }) : wpAny (model prog w) A (inplaceOp .Add (.str x t) (.str y u)) Q E s := by subst hx hy; exact s_iadd hl h
theorem l_in {c : Nat} {Q : Value → Shared → Prop} (hx : x = S [c]) (hy : y = S l) (h : Q (.bool (decide (c ∈ l))) s) : wpAny (model prog w) A (compareOp .In (.str x u) (.str y t)) Q E s := by subst hx hy; exact s_in h
theorem l_notin {c : Nat} {Q : Value → Shared → Prop} (hx : x = S [c]) (hy : y = S l) (h : Q (.bool (!decide (c ∈ l))) s) : wpAny (model prog w) A (compareOp .NotIn (.str x u) (.str y t)) Q E s := by subst hx hy; exact s_notin h
theorem l_ends {c : Nat} {Q : Value → Shared → Prop} (hy : y = S [c]) (h : Q (.bool (decide (l.getLast? = some c))) s) : wpAny (model prog w) A (call (.builtin "str.endswith") [.str (S l) t, .str y u]) Q E s := by subst hy; exact s_ends h
end
end
end
section
set_option Elab.async false
set_option maxRecDepth 100000
set_option maxHeartbeats 4000000

section
variable {M : Model} {A : Around} {E : Value → Shared → Prop} {s : Shared}
theorem note_first {base : Heap} {env : Env} {outer : List Env} {L e : Addr} {oe : Obj} {vs : Array Value} {a0 : Value} {Q : Unit → Shared → Prop}
    (hfr : A.frames = some (env :: outer)) (hl : s.heap.FunFrames base (env :: outer)) (hf : env.frame = some L)
    (he : s.heap.get? e = some oe) (hkb : base.StaysIn s.heap) (hen : base.get? e = none) (hd : oe.data = .fields vs) (h1 : vs[1]? = some .none) (h0 : vs[0]? = some a0)
    (h : ∀ h', Heap.NotedW base (env :: outer) e oe.cls a0 (rawInt L) s.heap h' → Q () { s with heap := h' }) : wpAny M A (noteFrame (.ref e) env) Q E s := by
  unfold noteFrame
  simp only [hf]
  refine wpAny_bind (wpAny_field he hd h1 ?_)
  rw [if_neg (by decide)]
  exact wpAny_entryW hfr hl hf he hkb hen hd (Array.getElem?_eq_some_iff.mp h1).1 h0 h
end

/-- a new exception of the frame's own, not noted yet -/
structure NewX (h h' : Heap) (e : Addr) (X : String) : Prop where
  keeps : ∀ b o, h.get? b = some o → h'.get? b = some o
  new : h.get? e = none
  there : ∃ ob vs a0, h'.get? e = some ob ∧ ob.cls = .type X ∧ ob.data = .fields vs ∧ vs[0]? = some a0 ∧ vs[1]? = some .none
theorem NewX.of {h h' : Heap} {e : Addr} {X : String} (x : Heap.NewExc h h' e X) : NewX h h' e X :=
  ⟨x.keeps, x.new, let ⟨ob, t, a, b, c⟩ := x.there; ⟨ob, _, t, a, b, c, rfl, rfl⟩⟩

section
variable {prog : Program} {w : World} {A₀ : Around} {E : Value → Shared → Prop} {s' : Shared} {base g g₀ h : Heap} {outer : List Env} {L a e : Addr} {m : Str → Option Value} {name : Str} {scope : Scope} {cd : Value} {news : List (Addr × Obj)}
  {KF : Frag} {p : Program} {loose : List Str} {mean : ExcName → Option Value} {mg mb : Str → Option Value} {X : String}

/-- the first note of a new exception: it is held, and everything but the frames' slots stands -/
theorem note_new {A : Around} {Q : Unit → Shared → Prop} (hA : A.frames = some (envOf name scope L a cd :: outer)) (K : Below A₀ base outer g) (F : Fr g L h m) (x : NewX h s'.heap e X) (hk : scope.kind = .function)
    (q : ∀ h' a0, Heap.HeldW (hideAll h ((envOf name scope L a cd :: outer).filterMap (·.frame))) (envOf name scope L a cd :: outer) e (.type X) a0 L h' → h.UpToSlots h' → Q () { s' with heap := h' }) :
    wpAny (model prog w) A (noteFrame (.ref e) (envOf name scope L a cd)) Q E s' := by
  have K' := K.push (name := name) (a := a) (cd := cd) F hk
  have hin : ∀ env ∈ (envOf name scope L a cd :: outer), ∀ b, env.frame = some b → b ∈ (envOf name scope L a cd :: outer).filterMap (·.frame) := fun env he b hb => List.mem_filterMap.mpr ⟨env, he, hb⟩
  obtain ⟨ob, vs, a0, he, hcls, hd, h0, h1⟩ := x.there
  have hen : (hideAll h ((envOf name scope L a cd :: outer).filterMap (·.frame))).get? e = none := by
    cases z : (hideAll h ((envOf name scope L a cd :: outer).filterMap (·.frame))).get? e with
    | none => rfl
    | some o => have := of_hideAll _ z; rw [x.new] at this; cases this
  refine note_first hA ((funFrames_hide K'.frames hin).of_keeps fun b o hb _ => ⟨o, x.keeps b o hb, rfl⟩) rfl he (fun b o hb => x.keeps b o (of_hideAll _ hb)) hen hd h1 h0 fun h' hN => ?_
  obtain ⟨k1, k2, k3, k4⟩ := hN
  exact q h' a0 ⟨k1, hen, k2, by rw [← hcls]; exact k3⟩ ((Heap.UpToSlots.of_keeps x.keeps).trans k4)

theorem flying_S {a0 : Value} {h' : Heap} (K : Below A₀ base outer g) (F : Fr g L h m) (N : News g L h news) (hk : scope.kind = .function)
    (fl : Heap.FlyingW (hideAll h ((envOf name scope L a cd :: outer).filterMap (·.frame))) (envOf name scope L a cd :: outer) e (.type X) a0 h') :
    RaisedSN base (hideAll h (news.map (·.1))) (envOf name scope L a cd :: outer) e (.type X) news h' := by
  have K' := K.push (name := name) (a := a) (cd := cd) F hk
  refine ⟨hideAll h ((envOf name scope L a cd :: outer).filterMap (·.frame)), a0, fun b o q => hideAll_get _ (K'.stays b o q) fun hm => ?_, fun b o hb hn => hideAll_get _ (of_hideAll _ hb) hn, fun q hq => ⟨?_, hideAll_none _ (List.mem_map_of_mem hq), fresh_of_stays K.stays (N q hq).2.2⟩, fl⟩
  · rw [(K'.frames.mem hm).1] at q; cases q
  refine hideAll_get _ (N q hq).1 fun hm => ?_
  obtain ⟨env, he, hf⟩ := List.mem_filterMap.mp hm
  rcases List.mem_cons.mp he with rfl | he
  · exact (N q hq).2.1 (Option.some.inj hf).symm
  · obtain ⟨o, ho, _⟩ := (K.frames.mem (List.mem_filterMap.mpr ⟨env, he, hf⟩)).2
    rw [(N q hq).2.2] at ho; cases ho

theorem fr_hide (F : Fr g L h m) (N : News g L h news) : Fr g L (hideAll h (news.map (·.1))) m := by
  obtain ⟨oL, es, ep, hL, hLd, hLk, hLf⟩ := F.ns
  refine ⟨⟨oL, es, ep, hideAll_get _ hL fun q => ?_, hLd, hLk, hLf⟩, fun b o e => hideAll_get _ (F.keep b o e) fun q => ?_, F.above⟩
  · obtain ⟨p, hp, e⟩ := List.mem_map.mp q
    exact (N p hp).2.1 e
  · obtain ⟨p, hp, rfl⟩ := List.mem_map.mp q
    rw [(N p hp).2.2] at e; cases e
theorem slots_hide {l : List Addr} {h h' : Heap} (k : h.UpToSlots h') : (hideAll h l).UpToSlots h' := fun b o e n => k b o (of_hideAll _ e) n

/-- a held exception meets the frame's own clause -/
theorem held_hit {a0 : Value} {tt : Expr} {b₀ : Stmt} {suite : List Stmt} {pos : Pos} {rest : List ExceptHandler} {Q : Flow → Shared → Prop}
    (K : Below A₀ base outer g) (F : Fr g L h m) (N : News g L h news) (hk : scope.kind = .function)
    (H : Heap.HeldW (hideAll h ((envOf name scope L a cd :: outer).filterMap (·.frame))) (envOf name scope L a cd :: outer) e (.type X) a0 L s'.heap) (hs : h.UpToSlots s'.heap)
    (XB : KF.In base) (TB : Top p loose mean mg mb base) (D : KtsDicts (outer.filterMap (·.frame)) g) (T0 : KtsTurn (outer.filterMap (·.frame)) g₀ g) (T : KtsTest prog w KF p loose mg mb name scope L a cd (.type X) tt true)
    (k : ∀ h' g', KtsTurn (outer.filterMap (·.frame)) g₀ g' → Fr g' L h' m → News g' L h' news → Below A₀ base outer g' → KF.In g' → Top p loose mean mg mb g' → KtsDicts (outer.filterMap (·.frame)) g' →
      wpAny (model prog w) ((A₀.deeper (envOf name scope L a cd)).mark (some (.ref e))) (execs (b₀ :: suite) (envOf name scope L a cd)) Q E { s' with heap := h' })
    (hE : PassesOwnAt (model prog w) ((A₀.deeper (envOf name scope L a cd)).mark (some (.ref e))) (A₀.deeper (envOf name scope L a cd)) (envOf name scope L a cd) E := by passes_own) :
    wpAny (model prog w) (A₀.deeper (envOf name scope L a cd)) (setFlight (.ref e) none) (fun _ s₃ =>
        wpAny (model prog w) (A₀.deeper (envOf name scope L a cd)) (handleBy (.ref e) (envOf name scope L a cd) (.ExceptHandler (some tt) none (b₀ :: suite) pos :: rest)) Q E s₃) E s' := by
  refine wpAny_landsW H fun h₁ fl hs₁ => ?_
  exact hit_SN0 (flying_S K F N hk fl) (fr_hide F N) K (slots_hide (hs.trans hs₁)) XB TB D T0 T k hE
end
end
section
set_option Elab.async false
set_option maxRecDepth 100000
set_option maxHeartbeats 4000000

theorem entry_unchain : entryFor table "proto.unchain" = some Builtin.«proto.unchain» := entryFor_of_fast (by kernel_rfl)

section
variable {prog : Program} {w : World} {A : Around} {E : Value → Shared → Prop} {s : Shared} {e1 : Addr} {oe : Obj} {vs : Array Value}
/-- a raise while another exception, without a context of its own, is being handled -/
theorem raise_under {α : Type} {cls msg : String} {Q : α → Shared → Prop} (hp : PlainExc cls) (hh : A.handled = some (.ref e1)) (he : s.heap.get? e1 = some oe) (hd : oe.data = .fields vs) (h2 : vs[2]? = some .none)
    (h : ∀ h' tk e, NewX s.heap h' e cls → E (.ref e) { s with heap := h', toks := tk }) : wpAny (model prog w) A (raiseErrorWords cls msg : Sem α) Q E s := by
  unfold raiseErrorWords
  refine wpAny_bind (wpAny_mkText (wpAny_bind ?_))
  unfold newExc newTuple
  refine wpAny_bind (wpAny_newObj_type ?_)
  refine wpAny_bind (m := firstArgMember _ _) (wpAny_of_eq (a := Value.none) (by simp only [firstArgMember, hp.first]; rfl) ?_)
  rw [hp.own]
  refine wpAny_newObj_type ?_
  unfold raiseNew
  refine wpAny_bind (wpAny_handled ?_)
  rw [hh]
  dsimp only
  have hlt := Heap.lt_size he
  generalize hg : s.heap.push { cls := .type "tuple", data := .seq #[Value.str (Str.ofString msg) s.toks] } = g1
  have hz : g1.objs.size = s.heap.objs.size + 1 := by rw [← hg]; simp
  have he1 : g1.get? e1 = some oe := by rw [← hg]; exact Heap.get?_push_of_some _ he
  rw [if_pos (bne_iff_ne.mpr (fun q => by injection q with q; rw [q, hz] at hlt; exact absurd hlt (Nat.not_lt.mpr (Nat.le_succ _))))]
  refine wpAny_bind (wpAny_holding (wpAny_runValue (codeAny_builtin entry_unchain ?_)))
  unfold Builtin.«proto.unchain»
  refine wpAny_bind (wpAny_field (Heap.get?_push_of_some _ he1) hd h2 ?_)
  refine wpAny_pure ?_
  dsimp only
  refine wpAny_bind ?_
  have hn := Heap.get?_push_size g1 (o := { cls := .type cls, data := .fields (#[Value.ref s.heap.objs.size, Value.none, Value.none, Value.none, Value.bool false, Value.none] ++ #[]) }) rfl
  refine wpAny_setField (i := 2) hn rfl (by simp) ?_
  refine wpAny_throw (h _ _ _ ⟨fun b o hb => ?_, ?_, _, _, .ref s.heap.objs.size, Heap.get?_update_self _ hn rfl, rfl, rfl, ?_, ?_⟩)
  · have := Heap.lt_size hb
    rw [Heap.get?_update_other _ _ (Nat.ne_of_gt (by rw [hz]; exact Nat.lt_succ_of_lt this))]
    rw [← hg]
    exact Heap.get?_push_of_some _ (Heap.get?_push_of_some _ hb)
  · exact Heap.get?_none_of_le (by rw [hz]; exact Nat.le_succ _)
  · simp
  · simp

theorem item_under {l : Addr} {items : Array Value} {k : Int} {t : Tok} {Q : Value → Shared → Prop} (hh : A.handled = some (.ref e1)) (he : s.heap.get? e1 = some oe) (hdx : oe.data = .fields vs) (h2 : vs[2]? = some .none) (hl : s.heap.IsList l items)
    (h0 : 0 ≤ k) (hout : (items.size : Int) ≤ k) (hhi : k < 2 ^ 63)
    (hE : ∀ h' tk e, NewX s.heap h' e "IndexError" → E (.ref e) { s with heap := h', toks := tk }) : wpAny (model prog w) A (getItem (.ref l) (.int k t)) Q E s := by
  obtain ⟨o, ho, hc, ne, hd⟩ := id hl
  unfold getItem
  try with_reducible refine wpAny_holding ?_
  first | refine wpAny_bind (wpAny_pure ?_) | skip
  refine wpAny_bind (wpAny_sequenceKey hl.typeIs (by decide) ?_)
  refine wpAny_bind (wpAny_callSpecial?_slot (name := Str.ofString "__getitem__") hl.typeIs slot_list_getitem
    (wpAny_call_entry slot_list_getitem hl.typeIs entry_list_getitem ?_ (args_list_getitem _ _)))
  show wpAny _ _ (Builtin.List.listSubscript? (.int k t) >>= _) _ _ s
  refine wpAny_bind (wpAny_listSubscript_int (fitsIndex_both (by omega) hhi) ?_)
  obtain ⟨j, rfl⟩ := Int.eq_ofNat_of_zero_le h0
  have hx : items[j]? = none := Array.getElem?_eq_none (by omega)
  show wpAny _ _ ((seqItemAt l j >>= fun r => pure (r.map (j, ·))) >>= _) _ _ s
  refine wpAny_bind (wpAny_bind (wpAny_seqItemAt ho hd (wpAny_pure ?_)))
  rw [hx]
  first
    | exact wpAny_bind (wpAny_rule (raise_under plainExc_IndexError hh he hdx h2 hE))
    | exact wpAny_bind (wpAny_rule (wpAny_bind (raise_under plainExc_IndexError hh he hdx h2 hE)))
    | exact wpAny_bind (wpAny_bind (wpAny_rule (raise_under plainExc_IndexError hh he hdx h2 hE)))
    | exact wpAny_rule (raise_under plainExc_IndexError hh he hdx h2 hE)
theorem ints_or2 {h₀ : Heap} {L l : Addr} {news : List (Addr × Obj)} {ws : List Value} {xs : List Int} {c : Nat} {k : Int} {u : Tok} {value slice : Expr} {Q : Value → Shared → Prop}
    (hA : A.handled = some (.ref e1)) (N : News h₀ L s.heap news) (hme : (e1, oe) ∈ news) (hdx : oe.data = .fields vs) (hv2 : vs[2]? = some .none) (hm : (l, listOf ws.toArray c) ∈ news) (hi : IntsAre ws xs) (h0 : 0 ≤ k) (hfit : k < 1000)
    (h1 : k < xs.length → ∀ t, Q (.int (xs.getD k.toNat 0) t) s) (h2 : (xs.length : Int) ≤ k → ∀ h' tk e, NewX s.heap h' e "IndexError" → E (.ref e) { s with heap := h', toks := tk })
    (hs : subscripted slice false (.ref l) (.int k u) = operate [.ref l, .int k u] (getItem (.ref l) (.int k u)) := by with_unfolding_all rfl) :
    wpAny (model prog w) A (subscriptTail value slice (.ref l) (.int k u)) Q E s := by
  have hl : s.heap.IsList l ws.toArray := PySem.IsL.isList (n := c) (N _ hm).1
  rcases (show k < (xs.length : Int) ∨ (xs.length : Int) ≤ k by omega) with h | h
  · exact ksa_sub N hm hi h0 h (by omega) (h1 h) hs
  · exact tail_any hl.typeIs slot_list_getitem.lookup (item_under hA (N _ hme).1 hdx hv2 hl h0 (by rw [List.size_toArray, hi.length]; exact h) (by omega) (h2 h)) hs
end

/-- an exception with its first entry: kept in the ledger as two objects -/
structure ExcAt (X : String) (oe : Obj) (T : Addr) (oT : Obj) (fl : Value) : Prop where
  cls : oe.cls = .type X
  flds : ∃ vs ts a0, oe.data = .fields vs ∧ vs[0]? = some a0 ∧ vs[1]? = some (.ref T) ∧ vs[2]? = some .none ∧ oT.data = .fields ts ∧ ts[3]? = some fl

section
variable {prog : Program} {w : World} {A₀ : Around} {E : Value → Shared → Prop} {s' : Shared} {base g g₀ h : Heap} {outer : List Env} {L a e : Addr} {m : Str → Option Value} {name : Str} {scope : Scope} {cd : Value} {news : List (Addr × Obj)}
  {KF : Frag} {p : Program} {loose : List Str} {mean : ExcName → Option Value} {mg mb : Str → Option Value} {X : String}
theorem note_land {A : Around} {Q : Unit → Shared → Prop} (hA : A.frames = some (envOf name scope L a cd :: outer)) (K : Below A₀ base outer g) (F : Fr g L h m) (N : News g L h news) (x : Heap.NewExc h s'.heap e X) (hk : scope.kind = .function)
    (q : ∀ h' g' oe T oT, KtsTurn (outer.filterMap (·.frame)) g g' → Fr g' L h' m → News g' L h' ((e, oe) :: (T, oT) :: news) → Below A₀ base outer g' → ExcAt X oe T oT (rawInt L) → (∀ q ∈ news, q.1 ≠ e ∧ q.1 ≠ T) → e ≠ T → Q () { s' with heap := h' }) :
    wpAny (model prog w) A (noteFrame (.ref e) (envOf name scope L a cd)) Q E s' := by
  have K' := K.push (name := name) (a := a) (cd := cd) F hk
  obtain ⟨oe, t, he, hcls, hd⟩ := x.there
  have hl : s'.heap.FunFrames base (envOf name scope L a cd :: outer) := K'.frames.of_keeps fun b o hb _ => ⟨o, x.keeps b o hb, rfl⟩
  have hene : e ∉ (envOf name scope L a cd :: outer).filterMap (·.frame) := fun hm => by
    obtain ⟨_, o, ho, hnf⟩ := hl.mem hm
    rw [he] at ho; injection ho with ho; subst ho; exact hnf _ hd
  unfold noteFrame
  refine wpAny_bind (wpAny_field he hd (x := .none) rfl ?_)
  rw [if_neg (by decide)]
  refine wpAny_bind (wpAny_frameOf_fun hA hl rfl fun h₁ hs₁ => ?_)
  refine wpAny_bind (wpAny_entryPlaceOf fun pl hpl => ?_)
  unfold EntryCells.newEntry newFields
  refine wpAny_bind (wpAny_newObj_type ?_ (hpl.sizeOk5 _ _ _ _ _))
  generalize hoT : ({ cls := .type "traceback", dict := none, data := .fields ([Value.none, .ref L, .none, rawInt L, .none] ++ (if pl.isEmpty then List.replicate 6 Value.none else pl)).toArray } : Obj) = oT
  have he₁ : h₁.get? e = some oe := (hs₁.2.1 e hene).trans he
  have he₂ := Heap.get?_push_of_some (h := h₁) oT he₁
  refine wpAny_setField he₂ hd (by simp) ?_
  have hTe : h₁.objs.size ≠ e := Nat.ne_of_gt (Heap.lt_size he₁)
  have hd₃ := Obj.data_mapFields hd (·.setIfInBounds 1 (Value.ref h₁.objs.size))
  have he₃ := Heap.get?_update_self (Obj.mapFields (·.setIfInBounds 1 (Value.ref h₁.objs.size))) he₂ (Obj.isFreed_of_fields hd₃)
  have hT₃ := (Heap.get?_update_other (h₁.push oT) (Obj.mapFields (·.setIfInBounds 1 (Value.ref h₁.objs.size))) (Ne.symm hTe)).trans (Heap.get?_push_size h₁ (by rw [← hoT]; rfl))
  have keep : ∀ b o, b ≠ e → h₁.get? b = some o → ((h₁.push oT).update e (Obj.mapFields (·.setIfInBounds 1 (Value.ref h₁.objs.size)))).get? b = some o := fun b o hbe hb => by
    rw [Heap.get?_update_other _ _ (Ne.symm hbe)]
    exact Heap.get?_push_of_some _ hb
  obtain ⟨ts, hts, ht3⟩ : ∃ ts, oT.data = .fields ts ∧ ts[3]? = some (rawInt L) := ⟨_, by rw [← hoT], by simp⟩
  have old : ∀ b o, h.get? b = some o → b ≠ e := fun b o hb q => by rw [q, x.new] at hb; cases hb
  have nfr : ∀ q ∈ news, q.1 ∉ (envOf name scope L a cd :: outer).filterMap (·.frame) := fun q hq hm => by
    obtain ⟨env, he, hf⟩ := List.mem_filterMap.mp hm
    rcases List.mem_cons.mp he with rfl | he
    · exact (N q hq).2.1 (Option.some.inj hf).symm
    · obtain ⟨o, ho, _⟩ := (K.frames.mem (List.mem_filterMap.mpr ⟨env, he, hf⟩)).2
      rw [(N q hq).2.2] at ho; cases ho
  have hTn : h.get? h₁.objs.size = none := by
    cases z : h.get? h₁.objs.size with
    | none => rfl
    | some o => have := Heap.lt_size (x.keeps _ _ z); rw [hs₁.1] at this; exact absurd this (Nat.lt_irrefl _)
  obtain ⟨g', T', F', K2⟩ := kts_ground (name := name) (scope := scope) (a := a) (cd := cd) (B := hideAll h ((envOf name scope L a cd :: outer).filterMap (·.frame))) (h₅ := (h₁.push oT).update e (Obj.mapFields (·.setIfInBounds 1 (Value.ref h₁.objs.size)))) K F
    (fun b o hb hn => hideAll_get _ hb hn)
    (fun b o hb => by
      have hb' := of_hideAll _ hb
      have hn : b ∉ (envOf name scope L a cd :: outer).filterMap (·.frame) := fun z => by rw [hideAll_none _ z] at hb; cases hb
      exact keep b o (old b o hb') ((hs₁.2.1 b hn).trans (x.keeps b o hb')))
    (fun b o hb _ => by
      obtain ⟨sl, hs⟩ := hs₁.2.2 b o (x.keeps b o hb)
      exact ⟨sl, keep b _ (old b o hb) hs⟩)
  refine q _ g' _ _ _ T' F' (fun z hz => ?_) K2 ⟨(Obj.cls_mapFields _ _).trans hcls, _, ts, t, hd₃, by simp, by simp, by simp, hts, ht3⟩ (fun z hz => ⟨old _ _ (N z hz).1, fun q => by have := (N z hz).1; rw [q, hTn] at this; cases this⟩) (Ne.symm hTe)
  rcases List.mem_cons.mp hz with rfl | hz
  · refine ⟨he₃, fun q => hene ?_, T'.none_ _ (kts_none F.keep x.new)⟩
    rw [show e = L from q]; exact List.mem_filterMap.mpr ⟨_, .head _, rfl⟩
  rcases List.mem_cons.mp hz with rfl | hz
  · refine ⟨hT₃, fun q => ?_, T'.none_ _ (kts_none F.keep hTn)⟩
    obtain ⟨o, _, _, ho, _⟩ := F.ns
    rw [← show h₁.objs.size = L from q, hTn] at ho; cases ho
  · exact ⟨keep _ _ (old _ _ (N z hz).1) ((hs₁.2.1 _ (nfr z hz)).trans (x.keeps _ _ (N z hz).1)), (N z hz).2.1, T'.none_ _ (N z hz).2.2⟩

theorem note_again {A : Around} {Q : Unit → Shared → Prop} {oe oT : Obj} {T : Addr} (N : News g L s'.heap ((e, oe) :: (T, oT) :: news)) (x : ExcAt X oe T oT (rawInt L)) (q : Q () s') :
    wpAny (model prog w) A (noteFrame (.ref e) (envOf name scope L a cd)) Q E s' := by
  obtain ⟨_, vs, ts, a0, hd, h0, h1, h2, hdT, h3⟩ := x
  unfold noteFrame
  refine wpAny_bind (wpAny_field (N _ (.head _)).1 hd h1 ?_)
  rw [if_pos (show (Value.ref T != Value.none) = true from by simp)]
  refine wpAny_bind (wpAny_field (N _ (.tail _ (.head _))).1 hdT h3 ?_)
  rw [if_pos (by simp)]
  exact wpAny_pure q
theorem set_fl {A : Around} {Q : Unit → Shared → Prop} {oe oT : Obj} {T : Addr} {fl : Value} (fr : Option Addr) (F : Fr g L s'.heap m) (N : News g L s'.heap ((e, oe) :: (T, oT) :: news)) (x : ExcAt X oe T oT fl) (hn : ∀ q ∈ news, q.1 ≠ e ∧ q.1 ≠ T) (hT : e ≠ T)
    (q : ∀ h' oT', Fr g L h' m → News g L h' ((e, oe) :: (T, oT') :: news) → ExcAt X oe T oT' (fr.elim .none fun f => rawInt f) → Q () { s' with heap := h' }) :
    wpAny (model prog w) A (setFlight (.ref e) fr) Q E s' := by
  obtain ⟨hc, vs, ts, a0, hd, h0, h1, h2, hdT, h3⟩ := x
  unfold setFlight
  refine wpAny_bind (wpAny_field (N _ (.head _)).1 hd h1 ?_)
  rw [if_pos (show (Value.ref T != Value.none) = true from by simp)]
  have n2 := N _ (.tail _ (.head _))
  have hsz := (Array.getElem?_eq_some_iff.mp h3).1
  refine wpAny_setField n2.1 hdT hsz ?_
  have hd₃ := Obj.data_mapFields hdT (·.setIfInBounds 3 (fr.elim .none fun f => rawInt f))
  have other : ∀ b, b ≠ T → (s'.heap.update T (Obj.mapFields (·.setIfInBounds 3 (fr.elim .none fun f => rawInt f)))).get? b = s'.heap.get? b := fun b hb => Heap.get?_update_other _ _ (Ne.symm hb)
  refine q _ _ ?_ (fun z hz => ?_) ⟨hc, vs, _, a0, hd, h0, h1, h2, hd₃, by simp [hsz]⟩
  · obtain ⟨oL, es, ep, hL, hLd, hLk, hLf⟩ := F.ns
    refine ⟨⟨oL, es, ep, (other L (Ne.symm n2.2.1)).trans hL, hLd, hLk, hLf⟩, fun b o e => (other b fun z => ?_).trans (F.keep b o e), F.above⟩
    rw [z, n2.2.2] at e; cases e
  rcases List.mem_cons.mp hz with rfl | hz
  · exact ⟨(other _ hT).trans (N _ (.head _)).1, (N _ (.head _)).2⟩
  rcases List.mem_cons.mp hz with rfl | hz
  · exact ⟨Heap.get?_update_self _ n2.1 (Obj.isFreed_of_fields hd₃), n2.2⟩
  · exact ⟨(other _ (hn z hz).2).trans (N z (.tail _ (.tail _ hz))).1, (N z (.tail _ (.tail _ hz))).2⟩
theorem pass_fl {A : Around} {what : String} {Q : Flow → Shared → Prop} {oe oT : Obj} {T : Addr} {fl : Value} (F : Fr g L s'.heap m) (N : News g L s'.heap ((e, oe) :: (T, oT) :: news)) (x : ExcAt X oe T oT fl) (hn : ∀ q ∈ news, q.1 ≠ e ∧ q.1 ≠ T) (hT : e ≠ T)
    (q : ∀ h' oT', Fr g L h' m → News g L h' ((e, oe) :: (T, oT') :: news) → ExcAt X oe T oT' (rawInt L) → E (.ref e) { s' with heap := h' }) :
    wpAny (model prog w) A (PySem.passOn what (.ref e) (envOf name scope L a cd)) Q E s' := by
  have x' := x
  obtain ⟨hc, vs, ts, a0, hd, h0, h1, h2, hdT, h3⟩ := x'
  unfold PySem.passOn
  refine wpAny_bind (wpAny_field (N _ (.head _)).1 hd h1 ?_)
  rw [if_neg (show ¬ ((Value.ref T == Value.none) = true) from by simp)]
  refine wpAny_bind (set_fl (some L) F N x hn hT fun h' oT' F' N' x' => ?_)
  exact wpAny_throw (q h' oT' F' N' x')
theorem led_fly {oe oT : Obj} {T : Addr} (K : Below A₀ base outer g) (F : Fr g L h m) (N : News g L h ((e, oe) :: (T, oT) :: news)) (hk : scope.kind = .function) (x : ExcAt X oe T oT .none) (hn : ∀ q ∈ news, q.1 ≠ e ∧ q.1 ≠ T) (hT : e ≠ T) :
    RaisedSN base (hideAll h (((e, oe) :: (T, oT) :: news).map (·.1))) (envOf name scope L a cd :: outer) e (.type X) news h := by
  have K' := K.push (name := name) (a := a) (cd := cd) F hk
  obtain ⟨hc, vs, ts, a0, hd, h0, h1, h2, hdT, h3⟩ := x
  have nfr : ∀ q ∈ ((e, oe) :: (T, oT) :: news), q.1 ∉ (envOf name scope L a cd :: outer).filterMap (·.frame) := fun q hq hm => by
    obtain ⟨env, he, hf⟩ := List.mem_filterMap.mp hm
    rcases List.mem_cons.mp he with rfl | he
    · exact (N q hq).2.1 (Option.some.inj hf).symm
    · obtain ⟨o, ho, _⟩ := (K.frames.mem (List.mem_filterMap.mpr ⟨env, he, hf⟩)).2
      rw [(N q hq).2.2] at ho; cases ho
  have hm : ∀ b, b ∈ (envOf name scope L a cd :: outer).filterMap (·.frame) ++ [e, T] ↔ b ∈ (envOf name scope L a cd :: outer).filterMap (·.frame) ∨ b = e ∨ b = T := fun b => by simp only [List.mem_append, List.mem_cons, List.not_mem_nil, or_false]
  refine ⟨hideAll h ((envOf name scope L a cd :: outer).filterMap (·.frame) ++ [e, T]), a0, fun b o q => hideAll_get _ (K'.stays b o q) fun z => ?_, fun b o hb hz => hideAll_get _ (of_hideAll _ hb) fun z => ?_, fun q hq => ⟨hideAll_get _ (N q (.tail _ (.tail _ hq))).1 fun z => ?_, hideAll_none _ (List.mem_map_of_mem (.tail _ (.tail _ hq))), fresh_of_stays K.stays (N q (.tail _ (.tail _ hq))).2.2⟩,
    fun b o hb => of_hideAll _ hb, hideAll_none _ ((hm e).mpr (.inr (.inl rfl))), funFrames_hide K'.frames fun env he b hb => (hm b).mpr (.inl (List.mem_filterMap.mpr ⟨env, he, hb⟩)), oe, vs, T, oT, ts, (N _ (.head _)).1, ⟨hc, h0⟩, hd, h1, hideAll_none _ ((hm T).mpr (.inr (.inr rfl))), Ne.symm hT, (N _ (.tail _ (.head _))).1, hdT, h3⟩
  · rcases (hm b).mp z with z | rfl | rfl
    · rw [(K'.frames.mem z).1] at q; cases q
    · rw [fresh_of_stays K.stays (N _ (.head _)).2.2] at q; cases q
    · rw [fresh_of_stays K.stays (N _ (.tail _ (.head _))).2.2] at q; cases q
  · rcases (hm b).mp z with z | rfl | rfl
    · exact hz z
    · rw [hideAll_none _ (List.mem_map_of_mem (f := (·.1)) (List.mem_cons_self (a := (b, oe))))] at hb; cases hb
    · rw [hideAll_none _ (List.mem_map_of_mem (f := (·.1)) (List.mem_cons_of_mem _ (List.mem_cons_self (a := (b, oT)))))] at hb; cases hb
  · rcases (hm _).mp z with z | z | z
    · exact nfr q (.tail _ (.tail _ hq)) z
    · exact (hn q hq).1 z
    · exact (hn q hq).2 z
/-- an exception of the ledger that the frame holds meets the frame's own clause -/
theorem led_hit {oe oT : Obj} {T : Addr} {tt : Expr} {b₀ : Stmt} {suite : List Stmt} {pos : Pos} {rest : List ExceptHandler} {Q : Flow → Shared → Prop}
    (K : Below A₀ base outer g) (F : Fr g L s'.heap m) (N : News g L s'.heap ((e, oe) :: (T, oT) :: news)) (hk : scope.kind = .function) (x : ExcAt X oe T oT (rawInt L)) (hn : ∀ q ∈ news, q.1 ≠ e ∧ q.1 ≠ T) (hT : e ≠ T)
    (XB : KF.In base) (TB : Top p loose mean mg mb base) (D : KtsDicts (outer.filterMap (·.frame)) g) (T0 : KtsTurn (outer.filterMap (·.frame)) g₀ g) (Tt : KtsTest prog w KF p loose mg mb name scope L a cd (.type X) tt true)
    (k : ∀ h' g', KtsTurn (outer.filterMap (·.frame)) g₀ g' → Fr g' L h' m → News g' L h' news → Below A₀ base outer g' → KF.In g' → Top p loose mean mg mb g' → KtsDicts (outer.filterMap (·.frame)) g' →
      wpAny (model prog w) ((A₀.deeper (envOf name scope L a cd)).mark (some (.ref e))) (execs (b₀ :: suite) (envOf name scope L a cd)) Q E { s' with heap := h' })
    (hE : PassesOwnAt (model prog w) ((A₀.deeper (envOf name scope L a cd)).mark (some (.ref e))) (A₀.deeper (envOf name scope L a cd)) (envOf name scope L a cd) E := by passes_own) :
    wpAny (model prog w) (A₀.deeper (envOf name scope L a cd)) (noteFrame (.ref e) (envOf name scope L a cd)) (fun _ s₂ => wpAny (model prog w) (A₀.deeper (envOf name scope L a cd)) (setFlight (.ref e) none) (fun _ s₃ =>
        wpAny (model prog w) (A₀.deeper (envOf name scope L a cd)) (handleBy (.ref e) (envOf name scope L a cd) (.ExceptHandler (some tt) none (b₀ :: suite) pos :: rest)) Q E s₃) E s₂) E s' := by
  refine note_again N x ?_
  refine set_fl none F N x hn hT fun h₁ oT' F' N' x' => ?_
  exact hit_SN0 (s' := { s' with heap := h₁ }) (led_fly K F' N' hk x' hn hT) (fr_hide F' N') K (slots_hide (Heap.UpToSlots.refl _)) XB TB D T0 Tt k hE
end
end
section
set_option Elab.async false
set_option maxRecDepth 100000
set_option maxHeartbeats 4000000

section
variable {prog : Program} {w : World} {A₀ A : Around} {s : Shared} {base h₀ g₀ : Heap} {outer : List Env} {env : Env} {L : Addr} {m : Str → Option Value} {news : List (Addr × Obj)} {K : Frag} {p : Program} {loose : List Str} {mean : ExcName → Option Value} {mg mb : Str → Option Value}
theorem fr_mem {b : Addr} (hf : env.frame = some L) (hm : b ∈ (env :: outer).filterMap (·.frame)) : b = L ∨ b ∈ outer.filterMap (·.frame) := by
  obtain ⟨env', he, hf'⟩ := List.mem_filterMap.mp hm
  rcases List.mem_cons.mp he with rfl | he
  · exact .inl (Option.some.inj (hf.symm.trans hf')).symm
  · exact .inr (List.mem_filterMap.mpr ⟨env', he, hf'⟩)
theorem groundS (B : Below A₀ base outer h₀) (F : Fr h₀ L s.heap m) (N : News h₀ L s.heap news) (XB : K.In base) (TB : Top p loose mean mg mb base) (D : KtsDicts (outer.filterMap (·.frame)) h₀) (T0 : KtsTurn (outer.filterMap (·.frame)) g₀ h₀)
    (hA : A.frames = some (env :: outer)) (hf : env.frame = some L) (hke : env.scope.kind = .function) :
    Fr h₀ L (hideAll s.heap (news.map (·.1))) m ∧ Below A base (env :: outer) (hideAll s.heap (news.map (·.1))) ∧ h₀.StaysIn (hideAll s.heap (news.map (·.1))) ∧ KtsDicts ((env :: outer).filterMap (·.frame)) (hideAll s.heap (news.map (·.1))) ∧
      ∀ (R : Result → Shared → Prop) v s', LeaveS ((env :: outer).filterMap (·.frame)) A₀ base outer K p loose mean mg mb g₀ h₀ L m (hideAll s.heap (news.map (·.1))) R v s' → R (.ok (.ret v)) s' := by
  obtain ⟨FG, BG, st, _⟩ := groundX (R := fun _ _ => True) B F N hA hf hke
  obtain ⟨oL, es, ep, hLg, hLd, hLk, hLf⟩ := FG.ns
  have nL₀ : h₀.get? L = none := kts_self F
  refine ⟨FG, BG, st, fun b hb => ?_, fun R v s' hl => ?_⟩
  · rcases fr_mem hf hb with rfl | hb
    · exact ⟨oL, es, ep, hLg, hLd⟩
    · obtain ⟨o, es', n', ho', hd'⟩ := D b hb
      exact ⟨o, es', n', st b o ho', hd'⟩
  rcases hl with ⟨L', m', news', F', N', k⟩ | ⟨g', L', m', news', T', F', N', k⟩
  · refine k ⟨⟨oL, es, ep, F'.keep _ _ hLg, hLd, hLk, hLf⟩, fun b o e => F'.keep b o (st b o e), F.above⟩ fun z hz => ⟨(N' z hz).1, fun q => ?_, ?_⟩
    · have := (N' z hz).2.2; rw [q, hLg] at this; cases this
    · exact kts_none st (N' z hz).2.2
  obtain ⟨sl, hs⟩ := T'.up hLg
  obtain ⟨T₁, S₁⟩ := kts_turn_at (h := s'.heap) (fs := outer.filterMap (·.frame)) (g := h₀)
    (fun b hb => let ⟨_, o, ho', _⟩ := B.frames.mem hb; ⟨o, ho'⟩)
    (fun b o e nm => F'.keep b o (T'.other b o (st b o e) fun q => by
      rcases fr_mem hf q with z | z
      · rw [z, nL₀] at e; cases e
      · exact nm z))
    (fun b o e _ => let ⟨sl', hs'⟩ := T'.up (st b o e); ⟨sl', F'.keep _ _ hs'⟩)
  have B₃ : Below A₀ base outer (ktsHeap s'.heap (outer.filterMap (·.frame)) h₀) := ⟨B.stack, fun b o e => T₁.other b o (B.stays b o e) (fun hm => by
    rw [(B.frames.mem hm).1] at e
    cases e), B.frames.of_keeps fun b o e _ => let ⟨_, hs'⟩ := T₁.up e; ⟨_, hs', rfl⟩⟩
  refine k _ (T0.trans T₁) ⟨⟨_, es, ep, F'.keep _ _ hs, hLd, hLk, hLf⟩, S₁, by rw [T₁.size]; exact F.above⟩ (fun z hz => ⟨(N' z hz).1, fun q => ?_, T₁.none_ _ ?_⟩) B₃ (XB.keeps B₃.stays) (TB.keeps B₃.stays) (D.turn T₁)
  · have := (N' z hz).2.2; rw [q, hs] at this; cases this
  · cases q : h₀.get? z.1 with
    | none => rfl
    | some o =>
      obtain ⟨sl', hs'⟩ := T'.up (st _ _ q)
      have := (N' z hz).2.2
      rw [hs'] at this; cases this
end

section
variable {prog : Program} {w : World} {A₀ A : Around} {s : Shared} {base h₀ g₀ : Heap} {outer : List Env} {env : Env} {L : Addr} {m : Str → Option Value} {news : List (Addr × Obj)} {K : Frag} {p : Program} {loose : List Str} {mean : ExcName → Option Value} {mg mb : Str → Option Value}
    {R : Result → Shared → Prop} {name qual : Str} {params : Arguments} {body : List Stmt} {scope : Scope} {dV kV doc pm cdv ct oc : Value} {an od : Option Addr} {osl : Array (Option Value)} {f : Addr} {args : Args} {binds : List (Str × Value)}
theorem callS_plain (B : Below A₀ base outer h₀) (F : Fr h₀ L s.heap m) (X₀ : K.In h₀) (N : News h₀ L s.heap news) (T : Top p loose mean mg mb h₀) (XB : K.In base) (TB : Top p loose mean mg mb base) (D : KtsDicts (outer.filterMap (·.frame)) h₀)
    (T0 : KtsTurn (outer.filterMap (·.frame)) g₀ h₀) (hA : A.frames = some (env :: outer)) (hf : env.frame = some L) (hke : env.scope.kind = .function)
    (ho : K.lookup f = some ⟨oc, od, .func (fnOf name qual params body scope dV kV doc pm an cdv ct), osl⟩) (hcd : codeIn K cdv qual = true) (hroom : A.depth < recursionLimit)
    (hbind : BindsTo s (fnOf name qual params body scope dV kV doc pm an cdv ct) args binds) (hloc : ∀ y ∈ binds, scope.names.lookup y.1 = some .local)
    (h : ∀ g L' h₁, Fr h₀ L g m → Fr g L' h₁ (fun y => binds.reverse.lookup y) → News g L' h₁ news → Below A base (env :: outer) g → K.In g → Top p loose mean mg mb g → KtsDicts ((env :: outer).filterMap (·.frame)) g →
      wpAny (model prog w) (A.deeper (envOf qual scope L' f cdv)) (execs body (envOf qual scope L' f cdv))
        (fun fl s' => LeaveS ((env :: outer).filterMap (·.frame)) A₀ base outer K p loose mean mg mb g₀ h₀ L m g R (match fl with | .ret v => v | _ => .none) s')
        (fun e s' => wpAny (model prog w) (A.deeper (envOf qual scope L' f cdv)) (leaving (envOf qual scope L' f cdv) e) (fun _ s'' => R (.error e) s'') (fun e' s'' => R (.error e') s'') s')
        { s with heap := h₁, toks := s.toks + binds.length })
    (hco : scope.isCoroutine = false) (hgen : scope.isGenerator = false) (hk : scope.kind = .function)
    (hcell : ∀ x ∈ scope.names, x.2 ≠ .cell) : codeAny (model prog w) A (.call (.ref f) args) R s := by
  have X := X₀.keeps F.keep
  obtain ⟨FG, BG, st, DG, lv⟩ := groundS (K := K) (p := p) (loose := loose) (mean := mean) (mg := mg) (mb := mb) B F N XB TB D T0 hA hf hke
  refine codeAny_call_def (fd := fnOf name qual params body scope dV kV doc pm an cdv ct) (body := body) (binds := binds) hroom (X _ _ ho) rfl (T.nolimit.keeps F.keep) (codeRec_of X hcd) rfl hbind hcell hloc (fun h₁ hns hk₁ => ?_) hco hgen hk
  exact wpAny_mono (h _ s.heap.objs.size h₁ FG ⟨hns, fun b o e => hk₁ b o (of_hideAll _ e), Nat.le_of_eq (hideAll_size _ _)⟩
    (fun p hp => ⟨hk₁ _ _ (N p hp).1, Nat.ne_of_lt (Heap.lt_size (N p hp).1), hideAll_none _ (List.mem_map_of_mem hp)⟩) BG (X₀.keeps st) (T.keeps st) DG) (fun fl s' hl => lv R _ _ hl) fun _ _ y => y

theorem callS_cells (B : Below A₀ base outer h₀) (F : Fr h₀ L s.heap m) (X₀ : K.In h₀) (N : News h₀ L s.heap news) (T : Top p loose mean mg mb h₀) (XB : K.In base) (TB : Top p loose mean mg mb base) (D : KtsDicts (outer.filterMap (·.frame)) h₀)
    (T0 : KtsTurn (outer.filterMap (·.frame)) g₀ h₀) (hA : A.frames = some (env :: outer)) (hf : env.frame = some L) (hke : env.scope.kind = .function)
    (ho : K.lookup f = some ⟨oc, od, .func (fnOf name qual params body scope dV kV doc pm an cdv ct), osl⟩) (hcd : codeIn K cdv qual = true) (hroom : A.depth < recursionLimit)
    (hbind : BindsTo s (fnOf name qual params body scope dV kV doc pm an cdv ct) args binds)
    (hkind : (binds.all fun y => scope.names.lookup y.1 == some .local || scope.names.lookup y.1 == some .cell) = true)
    (hnd : ((cellsFrom 0 scope.names []).map (·.1)).Nodup)
    (h : ∀ g L' h₁ tk cells, Fr h₀ L g m → Fr g L' h₁ (bindL (envOfC qual scope L' f cdv).kindOf binds fun _ => none) → News g L' h₁ (cells ++ news) →
      CellsAre (bindC (envOfC qual scope L' f cdv).kindOf binds fun _ => none) (cellsFrom (L' + 1) scope.names []) cells → Below A base (env :: outer) g → K.In g → Top p loose mean mg mb g → KtsDicts ((env :: outer).filterMap (·.frame)) g → (∀ p ∈ news, p.1 < L') →
      wpAny (model prog w) (A.deeper (envOfC qual scope L' f cdv)) (execs body (envOfC qual scope L' f cdv))
        (fun fl s' => LeaveS ((env :: outer).filterMap (·.frame)) A₀ base outer K p loose mean mg mb g₀ h₀ L m g R (match fl with | .ret v => v | _ => .none) s')
        (fun e s' => wpAny (model prog w) (A.deeper (envOfC qual scope L' f cdv)) (leaving (envOfC qual scope L' f cdv) e) (fun _ s'' => R (.error e) s'') (fun e' s'' => R (.error e') s'') s')
        { s with heap := h₁, toks := tk })
    (hco : scope.isCoroutine = false := by rfl) (hgen : scope.isGenerator = false := by rfl) (hk : scope.kind = .function := by rfl) : codeAny (model prog w) A (.call (.ref f) args) R s := by
  obtain ⟨FG, BG, st, DG, lv⟩ := groundS (K := K) (p := p) (loose := loose) (mean := mean) (mg := mg) (mb := mb) B F N XB TB D T0 hA hf hke
  have X := X₀.keeps F.keep
  refine codeAny_call_function hroom (X _ _ ho) rfl hco hgen rfl (codeRec_of X hcd) (hbind _ _ _ _ ?_)
  refine wpAny_newFunctionEnv_cells hk (kindsX hkind _) fun env' he s' x => ?_
  subst he
  refine ⟨(T.nolimit.keeps F.keep).keeps x.toInCall.keep, codeAny_func ?_⟩
  obtain ⟨h₁, tk, rfl, _⟩ := x.done
  have hk₁ := x.toInCall.keep
  obtain ⟨cells, NC, Y⟩ := Cl.news (h₀ := s.heap) (Nat.le_refl _) fun n c hm => ⟨x.cell n c (lookup_of_mem_nodup (cellsFrom_names scope.names 0 (s.heap.objs.size + 1) [] [] rfl ▸ hnd) hm), x.above n c hm⟩
  refine wpAny_mono (h _ s.heap.objs.size h₁ tk cells FG ⟨x.toInCall.ns, fun b o e => hk₁ b o (of_hideAll _ e), Nat.le_of_eq (hideAll_size _ _)⟩ (fun z hz => ?_) Y BG (X₀.keeps st) (T.keeps st) DG (fun z hz => Heap.lt_size (N z hz).1)) (fun fl s' hl => lv R _ _ hl) fun _ _ y => y
  rcases List.mem_append.mp hz with hz | hz
  · exact ⟨(NC z hz).1, (NC z hz).2.1, kts_none (fun b o e => of_hideAll _ e) (NC z hz).2.2⟩
  · exact ⟨hk₁ _ _ (N z hz).1, Nat.ne_of_lt (Heap.lt_size (N z hz).1), hideAll_none _ (List.mem_map_of_mem hz)⟩
end
end
section
set_option Elab.async false
set_option maxRecDepth 100000
set_option maxHeartbeats 8000000

theorem ints_or {prog : Program} {w : World} {A : Around} {E : Value → Shared → Prop} {s : Shared} {h₀ : Heap} {L l : Addr} {news : List (Addr × Obj)} {vs : List Value} {xs : List Int} {c : Nat} {k : Int} {u : Tok} {value slice : Expr} {Q : Value → Shared → Prop}
    (hA : A.handled = none) (N : News h₀ L s.heap news) (hm : (l, listOf vs.toArray c) ∈ news) (hi : IntsAre vs xs) (h0 : 0 ≤ k) (hfit : k < 1000)
    (h1 : k < xs.length → ∀ t, Q (.int (xs.getD k.toNat 0) t) s) (h2 : (xs.length : Int) ≤ k → ∀ h' tk e, Heap.NewExc s.heap h' e "IndexError" → E (.ref e) { s with heap := h', toks := tk })
    (hs : subscripted slice false (.ref l) (.int k u) = operate [.ref l, .int k u] (getItem (.ref l) (.int k u)) := by with_unfolding_all rfl) :
    wpAny (model prog w) A (subscriptTail value slice (.ref l) (.int k u)) Q E s := by
  have hl : s.heap.IsList l vs.toArray := PySem.IsL.isList (n := c) (N _ hm).1
  rcases (show k < (xs.length : Int) ∨ (xs.length : Int) ≤ k by omega) with h | h
  · exact ksa_sub N hm hi h0 h (by omega) (h1 h) hs
  · exact item_outK hA hl (.inr (by rw [List.size_toArray, hi.length]; exact h)) (by omega) (by omega) (h2 h) hs
theorem allLt_ne {d D : Addr} (hd : d ≤ D) : ∀ {l : List (Addr × Obj)}, AllLt d l → ∀ p ∈ l, p.1 ≠ D
  | [], _, _, hp => (nomatch hp)
  | q :: r, h, p, hp => by
    rcases List.mem_cons.mp hp with rfl | hp
    · exact Nat.ne_of_lt (Nat.lt_of_lt_of_le h.1 hd)
    · exact allLt_ne hd h.2 p hp
local macro_rules | `(tactic| k_all) => `(tactic| exact allLt_ne (by omega) (by assumption))

noncomputable def mergeF : List Int → List Int → List Int × List Int
  | [], ys => ([], ys)
  | x :: xs, [] => (x :: xs, [])
  | x :: xs, y :: ys => if x < y then (x :: (mergeF xs (y :: ys)).1, (mergeF xs (y :: ys)).2) else if y < x then ((mergeF (x :: xs) ys).1, y :: (mergeF (x :: xs) ys).2) else mergeF xs ys
termination_by xs ys => xs.length + ys.length
theorem with_po {M : Model} {A : Around} {env : Env} {body : List Stmt} {Q : Flow → Shared → Prop} {E : Value → Shared → Prop} {s : Shared} (hE : PassesOwn M A env E) (h : PassesOwn M A env E → wpAny M A (execs body env) Q E s) : wpAny M A (execs body env) Q E s := h hE
theorem fr_names {g h : Heap} {L : Addr} {m : Str → Option Value} (F : Fr g L h m) {ps : List (Str × Value)} (e : ∀ p ∈ ps, m p.1 = some p.2) : Fr g L h (kstB m ps) := by
  rw [show kstB m ps = m from funext fun z => kstB_eq e fun _ => rfl]; exact F
theorem news_tail2 {g h : Heap} {L : Addr} {p1 p2 : Addr × Obj} {r : List (Addr × Obj)} (N : News g L h (p1 :: p2 :: r)) : News g L h r := fun p hp => N p (.tail _ (.tail _ hp))
theorem ints_app : ∀ {vs ws : List Value} {xs ys : List Int}, IntsAre vs xs → IntsAre ws ys → IntsAre (vs ++ ws) (xs ++ ys)
  | _, _, _, _, .nil, h => h
  | _, _, _, _, .cons i t k, h => .cons i t (ints_app k h)
theorem upd_split {D : Addr} {o o' : Obj} : ∀ {pre post : List (Addr × Obj)}, (∀ p ∈ pre, p.1 ≠ D) → (∀ p ∈ post, p.1 ≠ D) → Upd D o o' (pre ++ (D, o) :: post) (pre ++ (D, o') :: post)
  | [], _, _, h => .head h
  | p :: _, _, h1, h2 => .tail (h1 p (.head _)) (upd_split (fun q hq => h1 q (.tail _ hq)) h2)
theorem ext_led {prog : Program} {w : World} {A : Around} {E : Value → Shared → Prop} {s : Shared} {h₀ : Heap} {L D b : Addr} {m : Str → Option Value} {news : List (Addr × Obj)} {ms ws : List Value} {c n2 : Nat} {g : Obj → List (Addr × Obj)} {Q : Value → Shared → Prop}
    (F : Fr h₀ L s.heap m) (N : News h₀ L s.heap news) (hb : (b, listOf ws.toArray n2) ∈ news) (U : UpdF D (listOf ms.toArray c) news g) (hz : ms.length ≤ 1000) (hz2 : ws.length ≤ 1000)
    (h : ∀ h' c', Fr h₀ L h' m → News h₀ L h' (g (listOf (ms ++ ws).toArray c')) → Q .none { s with heap := h' }) : wpAny (model prog w) A (call (.builtin "list.extend") [.ref D, .ref b]) Q E s := by
  obtain ⟨pre, post, rfl, hg, h1, h2⟩ := U.split
  have hs : ms.length + ws.length ≤ sizeLine := by rw [show sizeLine = 16777216 from rfl]; omega
  have hd : ¬(!ms.toArray.isEmpty && Builtin.List.listTooLong (ms.toArray.size + ws.toArray.size)) = true := by
    simp only [Bool.and_eq_true, not_and]
    intro _
    unfold Builtin.List.listTooLong
    simp only [List.size_toArray, decide_eq_true_eq, Nat.not_lt]
    omega
  by_cases e : ws = []
  · subst e
    refine kxn_extend F N hb rfl (upd_split h1 h2) hd (by simp; omega) (by simp; omega) fun h' F' N' => h h' c F' ?_
    rw [hg, List.append_nil]; exact N'
  · refine kl_extend F N hb (l := ms ++ ws) (by simp) (by simpa using e) (upd_split h1 h2) hd (by simp; omega) (by simp; omega) fun h' F' N' => h h' (c + 1) F' ?_
    rw [hg]; exact N'
theorem small_fits {vs : List Value} {xs : List Int} (hi : IntsAre vs xs) (h : xs.length < 1000) : vs.toArray.size ≤ sizeLine := kmk_sz hi (by rw [show sizeLine = 16777216 from rfl]; omega)

section
variable {prog : Program} {w : World} {A : Around} {E : Value → Shared → Prop} {Q : Flow → Shared → Prop} {s : Shared} {env : Env} {h₀ : Heap} {L : Addr}
noncomputable def ZQ (Z : Shared → Prop) (f : Flow) (s₂ : Shared) : Prop := f = .next ∧ Z s₂
theorem while_any {σ : Type} {test : Expr} {body : List Stmt} {pos : Pos} {m₀ : Str → Option Value} (Led : σ → List (Addr × Obj)) (ps : σ → List (Str × Value)) (stored : List Str) (P : σ → Prop) (Z : Shared → Prop) (μ : σ → Nat) (c₀ : σ)
    (F : Fr h₀ L s.heap m₀) (N : News h₀ L s.heap (Led c₀)) (hk : ∀ p ∈ ps c₀, m₀ p.1 = some p.2) (hp : P c₀)
    (turn : ∀ (c : σ) (u : Str → Option Value) h tk, P c → Fr h₀ L h (kstB (fun z => if stored.contains z then u z else m₀ z) (ps c)) → News h₀ L h (Led c) →
      wpAny (model prog w) A (isTrue test env (eval test env)) (fun b s₂ =>
        if b = true then wpAny (model prog w) A (execs body env) (KswPost h₀ L s Led ps (fun _ => True) stored m₀ P μ (ZQ Z) c) E s₂ else ZQ Z .next s₂) E { s with heap := h, toks := tk })
    (after : ∀ s₂, Z s₂ → Q .next s₂)
    (hE : PassesOwn (model prog w) A env E := by passes_own) :
    wpAny (model prog w) A (exec (.While test body [] pos) env) Q E s := by
  refine wpAny_mono (ksw_while Led ps (fun _ => True) stored P μ c₀ F N trivial hk hp (fun c u h tk _ => turn c u h tk) hE) (fun f s₂ q => ?_) fun _ _ x => x
  obtain ⟨rfl, z⟩ := q
  exact after s₂ z
end

theorem drop_get {xs : List Int} {i : Nat} (h : i < xs.length) : xs.drop i = xs.getD i 0 :: xs.drop (i + 1) := by
  rw [List.drop_eq_getElem_cons h, List.getD_eq_getElem?_getD, List.getElem?_eq_getElem h]; rfl
theorem sinc {xs : List Int} (hs : xs.Pairwise (· < ·)) {i : Nat} (h : i + 1 < xs.length) : xs.getD i 0 < xs.getD (i + 1) 0 := by
  rw [List.getD_eq_getElem?_getD, List.getD_eq_getElem?_getD, List.getElem?_eq_getElem h, List.getElem?_eq_getElem (by omega)]
  exact List.pairwise_iff_getElem.mp hs i (i + 1) (by omega) h (by omega)
theorem merge_lt {xs ys : List Int} {i j : Nat} (h1 : i < xs.length) (h2 : j < ys.length) (h : xs.getD i 0 < ys.getD j 0) : mergeF (xs.drop i) (ys.drop j) = (xs.getD i 0 :: (mergeF (xs.drop (i + 1)) (ys.drop j)).1, (mergeF (xs.drop (i + 1)) (ys.drop j)).2) := by
  rw [drop_get h1, drop_get h2, mergeF, if_pos h]
theorem merge_gt {xs ys : List Int} {i j : Nat} (h1 : i < xs.length) (h2 : j < ys.length) (h : ys.getD j 0 < xs.getD i 0) : mergeF (xs.drop i) (ys.drop j) = ((mergeF (xs.drop i) (ys.drop (j + 1))).1, ys.getD j 0 :: (mergeF (xs.drop i) (ys.drop (j + 1))).2) := by
  rw [drop_get h1, drop_get h2, mergeF, if_neg (by omega), if_pos h]
theorem merge_eq {xs ys : List Int} {i j : Nat} (h1 : i < xs.length) (h2 : j < ys.length) (h : xs.getD i 0 = ys.getD j 0) : mergeF (xs.drop i) (ys.drop j) = mergeF (xs.drop (i + 1)) (ys.drop (j + 1)) := by
  rw [drop_get h1, drop_get h2, mergeF, if_neg (by omega), if_neg (by omega)]
theorem merge_nil {ys : List Int} : mergeF [] ys = ([], ys) := by rw [mergeF]
theorem merge_nil2 {xs : List Int} : mergeF xs [] = (xs, []) := by cases xs <;> rw [mergeF]

section
variable {w : World} {mean : ExcName → Option Value} {mg mb : Str → Option Value}
    {dp un : Nat} {gd : Option (List Code)} {cn : Str} {cs : Scope} {a : Addr} {ccd : Value} {cl : List (Str × Addr)} {outer : List Env} {A₀ : Around} {base h₀ : Heap} {L : Addr} {m : Str → Option Value} {s : Shared} {Q E : Value → Shared → Prop}
    (B : Below A₀ base outer h₀) (F : Fr h₀ L s.heap m) (X : (Kf w.params).In h₀) (T : Top q (looseW q loose) mean mg mb h₀) (hk : cs.kind = .function)
    (XB : (Kf w.params).In base) (TB : Top q (looseW q loose) mean mg mb base) (D : KtsDicts (outer.filterMap (·.frame)) h₀)
include B F X T hk XB TB D
theorem sld_spec {l1 l2 : Addr} {vs ws : List Value} {xs ys : List Int} {c1 c2 : Nat} {news : List (Addr × Obj)} (N : News h₀ L s.heap ((l1, listOf vs.toArray c1) :: (l2, listOf ws.toArray c2) :: news)) (hd : dp + 1 < recursionLimit) (hu : un + 8 < cLine)
    (hx : IntsAre vs xs) (hy : IntsAre ws ys) (h1 : xs.length < 100) (h2 : ys.length < 100) (sx : xs.Pairwise (· < ·)) (sy : ys.Pairwise (· < ·))
    (hret : ∀ h₀' r lu lm us cu ms cm h' tk', KtsTurn (outer.filterMap (·.frame)) h₀ h₀' → Fr h₀' L h' m → News h₀' L h' ((r, { cls := .type "tuple", data := .seq #[.ref lm, .ref lu] }) :: (lu, listOf us.toArray cu) :: (lm, listOf ms.toArray cm) :: (l1, listOf vs.toArray c1) :: (l2, listOf ws.toArray c2) :: news) → (lm < lu ∧ lu < r ∧ l1 < lm ∧ l2 < lm ∧ AllLt lm news) → IntsAre ms (mergeF xs ys).1 → IntsAre us (mergeF xs ys).2 →
      Below A₀ base outer h₀' → (Kf w.params).In h₀' → Top q (looseW q loose) mean mg mb h₀' → KtsDicts (outer.filterMap (·.frame)) h₀' → Q (.ref r) { s with heap := h', toks := tk' }) :
    wpAny (model PySem.Challenge.rw_op0130_01.prog w) (ktrTop dp un gd cn cs L a ccd cl outer) (call (.ref 21) [.ref l1, .ref l2]) Q E s := by
  revert X; k_fill; intro X
  refine wpAny_call ?_
  k_dflt (refine' callS_plain (g₀ := h₀) (binds := [(Str.ofString "expected", .ref l1), (Str.ofString "actual", .ref l2)]) ?k1 ?k2 ?k3 ?k4 ?k5 XB TB D KtsTurn.refl ?kA ?kF ?kK ?k6 ?k7 ?k8 ?k9 ?kB ?_ ?c2 ?c3 ?c4 ?c5; (case kA => exact rfl); (case kF => exact rfl); (case kK => assumption); (case k1 => k_asm); (case k2 => k_asm); (case k3 => k_asm); (case k4 => k_asm); (case k5 => k_asm); (case k6 => k_is); (case k7 => k_is); (case k8 => ktr_room); (case k9 => exact BindsTo.of_eq rfl); (case c5 => decide); (case kB => exact locs rfl); (case c2 => exact rfl); (case c3 => exact rfl); (case c4 => exact rfl); k_whole; intro g' L' h' FG' F' N' B' X' T' D'; (try dsimp only); (try k_fold))
  (repeat' (first | (k_unfold; (try dsimp only)) | (((with_reducible show wpAny _ _ (call (Value.builtin _) [Value.ref _, Value.ref _]) _ _ _); k_dflt (refine' ext_led ?F ?N ?b ?U ?z ?y ?_; (case F => k_asm); (case N => k_asm); (case b => k_mem); (case U => k_updF); (case z => (try simp only [List.length_append, IntsAre.length (by assumption)]); omega); (case y => (first | omega | (rw [IntsAre.length (by assumption)]; omega)))); intro h'z c'z F'z N'z; (try dsimp only at N'z); (try k_sweep))) | (((with_reducible show wpAny _ _ (subscriptTail _ (PySem.Expr.Slice (some _) none none _) (Value.ref _) (Value.ref _)) _ _ _); k_dflt (refine' kmk_slice_ints ?F ?N ?l ?p ?q ?i ?m rfl ?_ ?s ?t ?z; (case F => k_asm); (case N => k_asm); (case l => exact PySem.IsL.isList (News.get (by k_asm) (by k_mem))); (case p => kmk_part); (case q => kmk_part); (case i => with_reducible assumption); (case m => exact kmk_from (by with_reducible assumption) (Int.natCast_nonneg _)); (case s => with_unfolding_all rfl); (case t => kmk_pure); (case z => exact small_fits (by with_reducible assumption) (by omega))); intro D'z ws'z h'z F'z N'z l1z hI'z hC'z hL'z; (try k_lt l1z); (try k_sweep); (try simp only [Int.toNat_natCast] at hI'z hC'z hL'z))) | (((with_reducible show wpAny _ (Around.mark _ _) (subscriptTail _ _ (Value.ref _) (Value.int _ _)) _ _ _); k_dflt (refine' ints_or2 ?k0 ?k1 ?k6 ?k7 ?k8 ?k2 ?k3 ?k5 ?k4 ?_ ?_; (case k0 => exact rfl); (case k1 => k_asm); (case k6 => exact List.mem_cons_self); (case k7 => with_reducible assumption); (case k8 => with_reducible assumption); (case k2 => k_mem); (case k3 => with_reducible assumption); (case k5 => omega); (case k4 => omega); k_whole))) | (((with_reducible show wpAny _ _ (subscriptTail _ _ (Value.ref _) (Value.int _ _)) _ _ _); k_dflt (refine' ints_or ?k0 ?k1 ?k2 ?k3 ?k5 ?k4 ?_ ?_; (case k0 => exact rfl); (case k1 => k_asm); (case k2 => k_mem); (case k3 => with_reducible assumption); (case k5 => omega); (case k4 => omega); k_whole))) | ((fail_if_success (with_reducible (first | show wpAny _ _ (exec (Stmt.While _ _ _ _) _) _ _ _ | show wpAny _ _ (exec (Stmt.Try _ _ _ _ _) _) _ _ _ | show wpAny _ _ (exec (Stmt.For _ _ _ _ _) _) _ _ _ | show wpAny _ _ (noteFrame _ _) _ _ _ | show KswEnd _ _ _ _ _ _ _ _ _ _ _ _ | show WhlIf _ _ _ | show wpAny _ _ (PySem.passOn _ _ _) _ _ _ | show LeaveS _ _ _ _ _ _ _ _ _ _ _ _ _ _ _ _ _ _))); first | walk1 | (dsimp only; walk1))))
  rename_i tk1 ha hb lm hc q1 hd' tk2 lu he q2 hf F3 N3
  obtain ⟨q1a, q1b, q1c⟩ := q1
  obtain ⟨q2a, q2b, q2c, q2d⟩ := q2
  let LedW : (Nat × Tok × Nat × Tok × List Value × Nat × List Value × Nat) → List (Addr × Obj) := fun c => (lu, listOf c.2.2.2.2.1.toArray c.2.2.2.2.2.1) :: (lm, listOf c.2.2.2.2.2.2.1.toArray c.2.2.2.2.2.2.2) :: (l1, listOf vs.toArray c1) :: (l2, listOf ws.toArray c2) :: news
  let PW : (Nat × Tok × Nat × Tok × List Value × Nat × List Value × Nat) → Prop := fun c => c.1 ≤ xs.length ∧ c.2.2.1 ≤ ys.length ∧ c.2.2.2.2.1.length ≤ c.2.2.1 ∧ c.2.2.2.2.2.2.1.length ≤ c.1 ∧ ∃ ui mi, IntsAre c.2.2.2.2.1 ui ∧ IntsAre c.2.2.2.2.2.2.1 mi ∧ mi ++ (mergeF (xs.drop c.1) (ys.drop c.2.2.1)).1 = (mergeF xs ys).1 ∧ ui ++ (mergeF (xs.drop c.1) (ys.drop c.2.2.1)).2 = (mergeF xs ys).2
  let AfW : Shared → Prop := fun s₂ => ∃ g₂ h tk us' cu' ms' cm' u, s₂ = { s with heap := h, toks := tk } ∧ KtsTurn ((envX cn cs L a ccd cl :: outer).filterMap (·.frame)) g' g₂ ∧ Fr g₂ L' h (kstB u [(Str.ofString "unexpected", .ref lu), (Str.ofString "missing", .ref lm)]) ∧
      News g₂ L' h ((lu, listOf us'.toArray cu') :: (lm, listOf ms'.toArray cm') :: (l1, listOf vs.toArray c1) :: (l2, listOf ws.toArray c2) :: news) ∧ Below (ktrTop dp un gd cn cs L a ccd cl outer) base (envX cn cs L a ccd cl :: outer) g₂ ∧ (Kf w.params).In g₂ ∧ Top q (looseW q loose) mean mg mb g₂ ∧
      KtsDicts ((envX cn cs L a ccd cl :: outer).filterMap (·.frame)) g₂ ∧ IntsAre ms' (mergeF xs ys).1 ∧ IntsAre us' (mergeF xs ys).2
  refine while_any (σ := Nat × Tok × Nat × Tok × List Value × Nat × List Value × Nat) LedW (fun c => [(Str.ofString "i", .int (c.1 : Int) c.2.1), (Str.ofString "j", .int (c.2.2.1 : Int) c.2.2.2.1)]) [Str.ofString "e", Str.ofString "a"]
    PW
    AfW (fun c => 200 - c.1 - c.2.2.1) (0, tk1, 0, tk1, [], 0, [], 0) F3 N3 (List.forall_mem_cons.mpr ⟨rfl, List.forall_mem_cons.mpr ⟨rfl, List.forall_mem_nil _⟩⟩) ⟨Nat.zero_le _, Nat.zero_le _, Nat.zero_le _, Nat.zero_le _, [], [], .nil, .nil, rfl, rfl⟩ ?turn ?after
  case after =>
    rintro s₂ ⟨g₂, h, tk, us', cu', ms', cm', u, rfl, z1, z2, z3, z4, z5, z6, z7, z8, z9⟩
    dsimp only [kstB] at z2
    (repeat' (first | (k_unfold; (try dsimp only)) | (((with_reducible show wpAny _ _ (call (Value.builtin _) [Value.ref _, Value.ref _]) _ _ _); k_dflt (refine' ext_led ?F ?N ?b ?U ?z ?y ?_; (case F => k_asm); (case N => k_asm); (case b => k_mem); (case U => k_updF); (case z => (try simp only [List.length_append, IntsAre.length (by assumption)]); omega); (case y => (first | omega | (rw [IntsAre.length (by assumption)]; omega)))); intro h'z c'z F'z N'z; (try dsimp only at N'z); (try k_sweep))) | (((with_reducible show wpAny _ _ (subscriptTail _ (PySem.Expr.Slice (some _) none none _) (Value.ref _) (Value.ref _)) _ _ _); k_dflt (refine' kmk_slice_ints ?F ?N ?l ?p ?q ?i ?m rfl ?_ ?s ?t ?z; (case F => k_asm); (case N => k_asm); (case l => exact PySem.IsL.isList (News.get (by k_asm) (by k_mem))); (case p => kmk_part); (case q => kmk_part); (case i => with_reducible assumption); (case m => exact kmk_from (by with_reducible assumption) (Int.natCast_nonneg _)); (case s => with_unfolding_all rfl); (case t => kmk_pure); (case z => exact small_fits (by with_reducible assumption) (by omega))); intro D'z ws'z h'z F'z N'z l1z hI'z hC'z hL'z; (try k_lt l1z); (try k_sweep); (try simp only [Int.toNat_natCast] at hI'z hC'z hL'z))) | (((with_reducible show wpAny _ (Around.mark _ _) (subscriptTail _ _ (Value.ref _) (Value.int _ _)) _ _ _); k_dflt (refine' ints_or2 ?k0 ?k1 ?k6 ?k7 ?k8 ?k2 ?k3 ?k5 ?k4 ?_ ?_; (case k0 => exact rfl); (case k1 => k_asm); (case k6 => exact List.mem_cons_self); (case k7 => with_reducible assumption); (case k8 => with_reducible assumption); (case k2 => k_mem); (case k3 => with_reducible assumption); (case k5 => omega); (case k4 => omega); k_whole))) | (((with_reducible show wpAny _ _ (subscriptTail _ _ (Value.ref _) (Value.int _ _)) _ _ _); k_dflt (refine' ints_or ?k0 ?k1 ?k2 ?k3 ?k5 ?k4 ?_ ?_; (case k0 => exact rfl); (case k1 => k_asm); (case k2 => k_mem); (case k3 => with_reducible assumption); (case k5 => omega); (case k4 => omega); k_whole))) | ((fail_if_success (with_reducible (first | show wpAny _ _ (exec (Stmt.While _ _ _ _) _) _ _ _ | show wpAny _ _ (exec (Stmt.Try _ _ _ _ _) _) _ _ _ | show wpAny _ _ (exec (Stmt.For _ _ _ _ _) _) _ _ _ | show wpAny _ _ (noteFrame _ _) _ _ _ | show KswEnd _ _ _ _ _ _ _ _ _ _ _ _ | show WhlIf _ _ _ | show wpAny _ _ (PySem.passOn _ _ _) _ _ _ | show LeaveS _ _ _ _ _ _ _ _ _ _ _ _ _ _ _ _ _ _))); first | walk1 | (dsimp only; walk1))))
    try k_unfold
    refine leaveS_r (by k_asm) (by k_asm) z1 ?_
    intro h₀' y1 y2 y3 y4 y5 y6 y7
    rename_i y8 y9 yy
    exact hret h₀' _ lu lm us' cu' ms' cm' _ _ y1 y2 y3 ⟨q2a, yy.1, q1a, q1b, q1c⟩ z8 z9 y4 y5 y6 y7
  case turn =>
    rintro ⟨i, ti, j, tj, us, cu, ms, cm⟩ u hh tk ⟨e1, e2, e3, e4, ui, mi, e5, e6, e7, e8⟩ F4 N4
    dsimp only [kstB, LedW] at e1 e2 e3 e4 e5 e6 e7 e8 F4 N4
    (repeat' (first | (k_unfold; (try dsimp only)) | (((with_reducible show wpAny _ _ (call (Value.builtin _) [Value.ref _, Value.ref _]) _ _ _); k_dflt (refine' ext_led ?F ?N ?b ?U ?z ?y ?_; (case F => k_asm); (case N => k_asm); (case b => k_mem); (case U => k_updF); (case z => (try simp only [List.length_append, IntsAre.length (by assumption)]); omega); (case y => (first | omega | (rw [IntsAre.length (by assumption)]; omega)))); intro h'z c'z F'z N'z; (try dsimp only at N'z); (try k_sweep))) | (((with_reducible show wpAny _ _ (subscriptTail _ (PySem.Expr.Slice (some _) none none _) (Value.ref _) (Value.ref _)) _ _ _); k_dflt (refine' kmk_slice_ints ?F ?N ?l ?p ?q ?i ?m rfl ?_ ?s ?t ?z; (case F => k_asm); (case N => k_asm); (case l => exact PySem.IsL.isList (News.get (by k_asm) (by k_mem))); (case p => kmk_part); (case q => kmk_part); (case i => with_reducible assumption); (case m => exact kmk_from (by with_reducible assumption) (Int.natCast_nonneg _)); (case s => with_unfolding_all rfl); (case t => kmk_pure); (case z => exact small_fits (by with_reducible assumption) (by omega))); intro D'z ws'z h'z F'z N'z l1z hI'z hC'z hL'z; (try k_lt l1z); (try k_sweep); (try simp only [Int.toNat_natCast] at hI'z hC'z hL'z))) | (((with_reducible show wpAny _ (Around.mark _ _) (subscriptTail _ _ (Value.ref _) (Value.int _ _)) _ _ _); k_dflt (refine' ints_or2 ?k0 ?k1 ?k6 ?k7 ?k8 ?k2 ?k3 ?k5 ?k4 ?_ ?_; (case k0 => exact rfl); (case k1 => k_asm); (case k6 => exact List.mem_cons_self); (case k7 => with_reducible assumption); (case k8 => with_reducible assumption); (case k2 => k_mem); (case k3 => with_reducible assumption); (case k5 => omega); (case k4 => omega); k_whole))) | (((with_reducible show wpAny _ _ (subscriptTail _ _ (Value.ref _) (Value.int _ _)) _ _ _); k_dflt (refine' ints_or ?k0 ?k1 ?k2 ?k3 ?k5 ?k4 ?_ ?_; (case k0 => exact rfl); (case k1 => k_asm); (case k2 => k_mem); (case k3 => with_reducible assumption); (case k5 => omega); (case k4 => omega); k_whole))) | ((fail_if_success (with_reducible (first | show wpAny _ _ (exec (Stmt.While _ _ _ _) _) _ _ _ | show wpAny _ _ (exec (Stmt.Try _ _ _ _ _) _) _ _ _ | show wpAny _ _ (exec (Stmt.For _ _ _ _ _) _) _ _ _ | show wpAny _ _ (noteFrame _ _) _ _ _ | show KswEnd _ _ _ _ _ _ _ _ _ _ _ _ | show WhlIf _ _ _ | show wpAny _ _ (PySem.passOn _ _ _) _ _ _ | show LeaveS _ _ _ _ _ _ _ _ _ _ _ _ _ _ _ _ _ _))); first | walk1 | (dsimp only; walk1))))
    refine wpAny_Try_except ?_
    k_fold
    have suite : ∀ (g₂ : Heap) (i j : Nat) (ti tj : Tok) (us ms : List Value) (cu cm : Nat) (u : Str → Option Value) (h1 h2 : Heap) (tk : Nat) (e : Addr) (ui mi : List Int), us.length ≤ 200 → ms.length ≤ 200 → IntsAre us ui → IntsAre ms mi →
      mi ++ xs.drop i = (mergeF xs ys).1 → ui ++ ys.drop j = (mergeF xs ys).2 →
      Fr g₂ L' h1 (kstB u [(Str.ofString "i", .int (i : Int) ti), (Str.ofString "j", .int (j : Int) tj), (Str.ofString "unexpected", .ref lu), (Str.ofString "missing", .ref lm), (Str.ofString "expected", .ref l1), (Str.ofString "actual", .ref l2)]) →
      KtsTurn ((envX cn cs L a ccd cl :: outer).filterMap (·.frame)) g' g₂ → Below (ktrTop dp un gd cn cs L a ccd cl outer) base (envX cn cs L a ccd cl :: outer) g₂ → KtsDicts ((envX cn cs L a ccd cl :: outer).filterMap (·.frame)) g₂ →
      ((∃ oe T oT, News g₂ L' h1 ((e, oe) :: (T, oT) :: (lu, listOf us.toArray cu) :: (lm, listOf ms.toArray cm) :: (l1, listOf vs.toArray c1) :: (l2, listOf ws.toArray c2) :: news) ∧ h2 = h1 ∧ ExcAt "IndexError" oe T oT (rawInt L') ∧ (∀ q ∈ ((lu, listOf us.toArray cu) :: (lm, listOf ms.toArray cm) :: (l1, listOf vs.toArray c1) :: (l2, listOf ws.toArray c2) :: news), q.1 ≠ e ∧ q.1 ≠ T) ∧ e ≠ T) ∨
       (News g₂ L' h1 ((lu, listOf us.toArray cu) :: (lm, listOf ms.toArray cm) :: (l1, listOf vs.toArray c1) :: (l2, listOf ws.toArray c2) :: news) ∧ NewX h1 h2 e "IndexError")) → ek (.ref e) { s with heap := h2, toks := tk } := by
      intro g₂ i j ti tj us ms cu cm u h1 h2 tk e ui mi b3 b4 b5 b6 b7 b8 F5 T2 B2 D2 hc
      dsimp only [kstB] at F5
      k_unfold
      rcases hc with ⟨oe, T, oT, N5, rfl, x5, n5, eT⟩ | ⟨N5, x5⟩
      · refine led_hit (s' := { s with heap := h2, toks := tk }) B2 F5 N5 rfl x5 n5 eT XB TB D2 T2 (test_name (c := .type "IndexError") (.inr ⟨by k_is, by decide +kernel, by decide⟩) (by kernel_rfl) rfl rfl rfl) fun h4 g4 T4 F6 N6 B6 X6 P6 D6 => ?_
        (repeat' (first | (k_unfold; (try dsimp only)) | (((with_reducible show wpAny _ _ (call (Value.builtin _) [Value.ref _, Value.ref _]) _ _ _); k_dflt (refine' ext_led ?F ?N ?b ?U ?z ?y ?_; (case F => k_asm); (case N => k_asm); (case b => k_mem); (case U => k_updF); (case z => (try simp only [List.length_append, IntsAre.length (by assumption)]); omega); (case y => (first | omega | (rw [IntsAre.length (by assumption)]; omega)))); intro h'z c'z F'z N'z; (try dsimp only at N'z); (try k_sweep))) | (((with_reducible show wpAny _ _ (subscriptTail _ (PySem.Expr.Slice (some _) none none _) (Value.ref _) (Value.ref _)) _ _ _); k_dflt (refine' kmk_slice_ints ?F ?N ?l ?p ?q ?i ?m rfl ?_ ?s ?t ?z; (case F => k_asm); (case N => k_asm); (case l => exact PySem.IsL.isList (News.get (by k_asm) (by k_mem))); (case p => kmk_part); (case q => kmk_part); (case i => with_reducible assumption); (case m => exact kmk_from (by with_reducible assumption) (Int.natCast_nonneg _)); (case s => with_unfolding_all rfl); (case t => kmk_pure); (case z => exact small_fits (by with_reducible assumption) (by omega))); intro D'z ws'z h'z F'z N'z l1z hI'z hC'z hL'z; (try k_lt l1z); (try k_sweep); (try simp only [Int.toNat_natCast] at hI'z hC'z hL'z))) | (((with_reducible show wpAny _ (Around.mark _ _) (subscriptTail _ _ (Value.ref _) (Value.int _ _)) _ _ _); k_dflt (refine' ints_or2 ?k0 ?k1 ?k6 ?k7 ?k8 ?k2 ?k3 ?k5 ?k4 ?_ ?_; (case k0 => exact rfl); (case k1 => k_asm); (case k6 => exact List.mem_cons_self); (case k7 => with_reducible assumption); (case k8 => with_reducible assumption); (case k2 => k_mem); (case k3 => with_reducible assumption); (case k5 => omega); (case k4 => omega); k_whole))) | (((with_reducible show wpAny _ _ (subscriptTail _ _ (Value.ref _) (Value.int _ _)) _ _ _); k_dflt (refine' ints_or ?k0 ?k1 ?k2 ?k3 ?k5 ?k4 ?_ ?_; (case k0 => exact rfl); (case k1 => k_asm); (case k2 => k_mem); (case k3 => with_reducible assumption); (case k5 => omega); (case k4 => omega); k_whole))) | ((fail_if_success (with_reducible (first | show wpAny _ _ (exec (Stmt.While _ _ _ _) _) _ _ _ | show wpAny _ _ (exec (Stmt.Try _ _ _ _ _) _) _ _ _ | show wpAny _ _ (exec (Stmt.For _ _ _ _ _) _) _ _ _ | show wpAny _ _ (noteFrame _ _) _ _ _ | show KswEnd _ _ _ _ _ _ _ _ _ _ _ _ | show WhlIf _ _ _ | show wpAny _ _ (PySem.passOn _ _ _) _ _ _ | show LeaveS _ _ _ _ _ _ _ _ _ _ _ _ _ _ _ _ _ _))); first | walk1 | (dsimp only; walk1))))
        refine' ⟨rfl, g4, _, _, _, _, _, _, _, rfl, T4, fr_names ?F ?e, ?N, B6, X6, P6, D6, ?m, ?u⟩
        case F => k_asm
        case N => exact news_tail2 (by k_asm)
        case e => exact List.forall_mem_cons.mpr ⟨rfl, List.forall_mem_cons.mpr ⟨rfl, List.forall_mem_nil _⟩⟩
        case m => rw [← b7]; exact ints_app b6 (by assumption)
        case u => rw [← b8]; exact ints_app b5 (by assumption)
      · refine note_new rfl B2 F5 x5 rfl fun h3 a0 H3 S3 => ?_
        refine held_hit B2 F5 N5 rfl H3 S3 XB TB D2 T2 (test_name (c := .type "IndexError") (.inr ⟨by k_is, by decide +kernel, by decide⟩) (by kernel_rfl) rfl rfl rfl) fun h4 g4 T4 F6 N6 B6 X6 P6 D6 => ?_
        (repeat' (first | (k_unfold; (try dsimp only)) | (((with_reducible show wpAny _ _ (call (Value.builtin _) [Value.ref _, Value.ref _]) _ _ _); k_dflt (refine' ext_led ?F ?N ?b ?U ?z ?y ?_; (case F => k_asm); (case N => k_asm); (case b => k_mem); (case U => k_updF); (case z => (try simp only [List.length_append, IntsAre.length (by assumption)]); omega); (case y => (first | omega | (rw [IntsAre.length (by assumption)]; omega)))); intro h'z c'z F'z N'z; (try dsimp only at N'z); (try k_sweep))) | (((with_reducible show wpAny _ _ (subscriptTail _ (PySem.Expr.Slice (some _) none none _) (Value.ref _) (Value.ref _)) _ _ _); k_dflt (refine' kmk_slice_ints ?F ?N ?l ?p ?q ?i ?m rfl ?_ ?s ?t ?z; (case F => k_asm); (case N => k_asm); (case l => exact PySem.IsL.isList (News.get (by k_asm) (by k_mem))); (case p => kmk_part); (case q => kmk_part); (case i => with_reducible assumption); (case m => exact kmk_from (by with_reducible assumption) (Int.natCast_nonneg _)); (case s => with_unfolding_all rfl); (case t => kmk_pure); (case z => exact small_fits (by with_reducible assumption) (by omega))); intro D'z ws'z h'z F'z N'z l1z hI'z hC'z hL'z; (try k_lt l1z); (try k_sweep); (try simp only [Int.toNat_natCast] at hI'z hC'z hL'z))) | (((with_reducible show wpAny _ (Around.mark _ _) (subscriptTail _ _ (Value.ref _) (Value.int _ _)) _ _ _); k_dflt (refine' ints_or2 ?k0 ?k1 ?k6 ?k7 ?k8 ?k2 ?k3 ?k5 ?k4 ?_ ?_; (case k0 => exact rfl); (case k1 => k_asm); (case k6 => exact List.mem_cons_self); (case k7 => with_reducible assumption); (case k8 => with_reducible assumption); (case k2 => k_mem); (case k3 => with_reducible assumption); (case k5 => omega); (case k4 => omega); k_whole))) | (((with_reducible show wpAny _ _ (subscriptTail _ _ (Value.ref _) (Value.int _ _)) _ _ _); k_dflt (refine' ints_or ?k0 ?k1 ?k2 ?k3 ?k5 ?k4 ?_ ?_; (case k0 => exact rfl); (case k1 => k_asm); (case k2 => k_mem); (case k3 => with_reducible assumption); (case k5 => omega); (case k4 => omega); k_whole))) | ((fail_if_success (with_reducible (first | show wpAny _ _ (exec (Stmt.While _ _ _ _) _) _ _ _ | show wpAny _ _ (exec (Stmt.Try _ _ _ _ _) _) _ _ _ | show wpAny _ _ (exec (Stmt.For _ _ _ _ _) _) _ _ _ | show wpAny _ _ (noteFrame _ _) _ _ _ | show KswEnd _ _ _ _ _ _ _ _ _ _ _ _ | show WhlIf _ _ _ | show wpAny _ _ (PySem.passOn _ _ _) _ _ _ | show LeaveS _ _ _ _ _ _ _ _ _ _ _ _ _ _ _ _ _ _))); first | walk1 | (dsimp only; walk1))))
        refine' ⟨rfl, g4, _, _, _, _, _, _, _, rfl, T4, fr_names ?F ?e, ?N, B6, X6, P6, D6, ?m, ?u⟩
        case F => k_asm
        case N => exact news_tail2 (by k_asm)
        case e => exact List.forall_mem_cons.mpr ⟨rfl, List.forall_mem_cons.mpr ⟨rfl, List.forall_mem_nil _⟩⟩
        case m => rw [← b7]; exact ints_app b6 (by assumption)
        case u => rw [← b8]; exact ints_app b5 (by assumption)
    have hand : ∀ (i j : Nat) (ti tj : Tok) (us ms : List Value) (cu cm : Nat) (u : Str → Option Value) (g₂ h1 h2 : Heap) (tk : Nat) (e : Addr) (ui mi : List Int), us.length ≤ 200 → ms.length ≤ 200 → IntsAre us ui → IntsAre ms mi →
      mi ++ xs.drop i = (mergeF xs ys).1 → ui ++ ys.drop j = (mergeF xs ys).2 →
      Fr g₂ L' h1 (kstB u [(Str.ofString "i", .int (i : Int) ti), (Str.ofString "j", .int (j : Int) tj), (Str.ofString "unexpected", .ref lu), (Str.ofString "missing", .ref lm), (Str.ofString "expected", .ref l1), (Str.ofString "actual", .ref l2)]) →
      News g₂ L' h1 ((lu, listOf us.toArray cu) :: (lm, listOf ms.toArray cm) :: (l1, listOf vs.toArray c1) :: (l2, listOf ws.toArray c2) :: news) →
      KtsTurn ((envX cn cs L a ccd cl :: outer).filterMap (·.frame)) g' g₂ → Below (ktrTop dp un gd cn cs L a ccd cl outer) base (envX cn cs L a ccd cl :: outer) g₂ → KtsDicts ((envX cn cs L a ccd cl :: outer).filterMap (·.frame)) g₂ →
      NewX h1 h2 e "IndexError" → ek (.ref e) { s with heap := h2, toks := tk } := fun i j ti tj us ms cu cm u g₂ h1 h2 tk e ui mi b3 b4 b5 b6 b7 b8 F5 N5 T2 B2 D2 x5 => suite g₂ i j ti tj us ms cu cm u h1 h2 tk e ui mi b3 b4 b5 b6 b7 b8 F5 T2 B2 D2 (.inr ⟨N5, x5⟩)
    refine with_po (by passes_own) ?_
    intro hpo
    have hpm : ∀ (e : Addr), PassesOwnAt (model PySem.Challenge.rw_op0130_01.prog w) (((ktrTop dp un gd cn cs L a ccd cl outer).deeper (envOf (Str.ofString "sorted_list_difference") _ L' 21 (.ref 20))).mark (some (.ref e))) ((ktrTop dp un gd cn cs L a ccd cl outer).deeper (envOf (Str.ofString "sorted_list_difference") _ L' 21 (.ref 20))) (envOf (Str.ofString "sorted_list_difference") _ L' 21 (.ref 20)) ek := fun e => by passes_own
    have hpn : ∀ (e : Addr), PassesOwn (model PySem.Challenge.rw_op0130_01.prog w) (((ktrTop dp un gd cn cs L a ccd cl outer).deeper (envOf (Str.ofString "sorted_list_difference") _ L' 21 (.ref 20))).mark (some (.ref e))) (envOf (Str.ofString "sorted_list_difference") _ L' 21 (.ref 20)) ek := fun e => by passes_own
    clear_value ek
    (repeat' (first | (k_unfold; (try dsimp only)) | (((with_reducible show wpAny _ _ (call (Value.builtin _) [Value.ref _, Value.ref _]) _ _ _); k_dflt (refine' ext_led ?F ?N ?b ?U ?z ?y ?_; (case F => k_asm); (case N => k_asm); (case b => k_mem); (case U => k_updF); (case z => (try simp only [List.length_append, IntsAre.length (by assumption)]); omega); (case y => (first | omega | (rw [IntsAre.length (by assumption)]; omega)))); intro h'z c'z F'z N'z; (try dsimp only at N'z); (try k_sweep))) | (((with_reducible show wpAny _ _ (subscriptTail _ (PySem.Expr.Slice (some _) none none _) (Value.ref _) (Value.ref _)) _ _ _); k_dflt (refine' kmk_slice_ints ?F ?N ?l ?p ?q ?i ?m rfl ?_ ?s ?t ?z; (case F => k_asm); (case N => k_asm); (case l => exact PySem.IsL.isList (News.get (by k_asm) (by k_mem))); (case p => kmk_part); (case q => kmk_part); (case i => with_reducible assumption); (case m => exact kmk_from (by with_reducible assumption) (Int.natCast_nonneg _)); (case s => with_unfolding_all rfl); (case t => kmk_pure); (case z => exact small_fits (by with_reducible assumption) (by omega))); intro D'z ws'z h'z F'z N'z l1z hI'z hC'z hL'z; (try k_lt l1z); (try k_sweep); (try simp only [Int.toNat_natCast] at hI'z hC'z hL'z))) | (((with_reducible show wpAny _ (Around.mark _ _) (subscriptTail _ _ (Value.ref _) (Value.int _ _)) _ _ _); k_dflt (refine' ints_or2 ?k0 ?k1 ?k6 ?k7 ?k8 ?k2 ?k3 ?k5 ?k4 ?_ ?_; (case k0 => exact rfl); (case k1 => k_asm); (case k6 => exact List.mem_cons_self); (case k7 => with_reducible assumption); (case k8 => with_reducible assumption); (case k2 => k_mem); (case k3 => with_reducible assumption); (case k5 => omega); (case k4 => omega); k_whole))) | (((with_reducible show wpAny _ _ (subscriptTail _ _ (Value.ref _) (Value.int _ _)) _ _ _); k_dflt (refine' ints_or ?k0 ?k1 ?k2 ?k3 ?k5 ?k4 ?_ ?_; (case k0 => exact rfl); (case k1 => k_asm); (case k2 => k_mem); (case k3 => with_reducible assumption); (case k5 => omega); (case k4 => omega); k_whole))) | ((fail_if_success (with_reducible (first | show wpAny _ _ (exec (Stmt.While _ _ _ _) _) _ _ _ | show wpAny _ _ (exec (Stmt.Try _ _ _ _ _) _) _ _ _ | show wpAny _ _ (exec (Stmt.For _ _ _ _ _) _) _ _ _ | show wpAny _ _ (noteFrame _ _) _ _ _ | show KswEnd _ _ _ _ _ _ _ _ _ _ _ _ | show WhlIf _ _ _ | show wpAny _ _ (PySem.passOn _ _ _) _ _ _ | show LeaveS _ _ _ _ _ _ _ _ _ _ _ _ _ _ _ _ _ _))); first | walk1 | (dsimp only; walk1))))
    · rename List.getD _ _ _ < List.getD _ _ _ => a3
      rename Fr _ _ _ _ => F5
      rename News _ _ _ _ => N5
      simp only [Int.toNat_natCast] at a3 N5
      simp only [List.push_toArray] at N5
      have E5 := merge_lt (by omega) (by omega) a3
      refine whl_start 1 ?_; refine whl_turn hpo ?_; (repeat' (first | (k_unfold; (try dsimp only)) | (((with_reducible show wpAny _ _ (call (Value.builtin _) [Value.ref _, Value.ref _]) _ _ _); k_dflt (refine' ext_led ?F ?N ?b ?U ?z ?y ?_; (case F => k_asm); (case N => k_asm); (case b => k_mem); (case U => k_updF); (case z => (try simp only [List.length_append, IntsAre.length (by assumption)]); omega); (case y => (first | omega | (rw [IntsAre.length (by assumption)]; omega)))); intro h'z c'z F'z N'z; (try dsimp only at N'z); (try k_sweep))) | (((with_reducible show wpAny _ _ (subscriptTail _ (PySem.Expr.Slice (some _) none none _) (Value.ref _) (Value.ref _)) _ _ _); k_dflt (refine' kmk_slice_ints ?F ?N ?l ?p ?q ?i ?m rfl ?_ ?s ?t ?z; (case F => k_asm); (case N => k_asm); (case l => exact PySem.IsL.isList (News.get (by k_asm) (by k_mem))); (case p => kmk_part); (case q => kmk_part); (case i => with_reducible assumption); (case m => exact kmk_from (by with_reducible assumption) (Int.natCast_nonneg _)); (case s => with_unfolding_all rfl); (case t => kmk_pure); (case z => exact small_fits (by with_reducible assumption) (by omega))); intro D'z ws'z h'z F'z N'z l1z hI'z hC'z hL'z; (try k_lt l1z); (try k_sweep); (try simp only [Int.toNat_natCast] at hI'z hC'z hL'z))) | (((with_reducible show wpAny _ (Around.mark _ _) (subscriptTail _ _ (Value.ref _) (Value.int _ _)) _ _ _); k_dflt (refine' ints_or2 ?k0 ?k1 ?k6 ?k7 ?k8 ?k2 ?k3 ?k5 ?k4 ?_ ?_; (case k0 => exact rfl); (case k1 => k_asm); (case k6 => exact List.mem_cons_self); (case k7 => with_reducible assumption); (case k8 => with_reducible assumption); (case k2 => k_mem); (case k3 => with_reducible assumption); (case k5 => omega); (case k4 => omega); k_whole))) | (((with_reducible show wpAny _ _ (subscriptTail _ _ (Value.ref _) (Value.int _ _)) _ _ _); k_dflt (refine' ints_or ?k0 ?k1 ?k2 ?k3 ?k5 ?k4 ?_ ?_; (case k0 => exact rfl); (case k1 => k_asm); (case k2 => k_mem); (case k3 => with_reducible assumption); (case k5 => omega); (case k4 => omega); k_whole))) | ((fail_if_success (with_reducible (first | show wpAny _ _ (exec (Stmt.While _ _ _ _) _) _ _ _ | show wpAny _ _ (exec (Stmt.Try _ _ _ _ _) _) _ _ _ | show wpAny _ _ (exec (Stmt.For _ _ _ _ _) _) _ _ _ | show wpAny _ _ (noteFrame _ _) _ _ _ | show KswEnd _ _ _ _ _ _ _ _ _ _ _ _ | show WhlIf _ _ _ | show wpAny _ _ (PySem.passOn _ _ _) _ _ _ | show LeaveS _ _ _ _ _ _ _ _ _ _ _ _ _ _ _ _ _ _))); first | walk1 | (dsimp only; walk1))))
      · refine WhlIf.no (beq_eq_false_iff_ne.mpr ?_) ?_
        · have := sinc sx (i := i) (by omega)
          rw [show ((i : Int) + 1).toNat = i + 1 by omega, Int.toNat_natCast]; omega
        (repeat' (first | (k_unfold; (try dsimp only)) | (((with_reducible show wpAny _ _ (call (Value.builtin _) [Value.ref _, Value.ref _]) _ _ _); k_dflt (refine' ext_led ?F ?N ?b ?U ?z ?y ?_; (case F => k_asm); (case N => k_asm); (case b => k_mem); (case U => k_updF); (case z => (try simp only [List.length_append, IntsAre.length (by assumption)]); omega); (case y => (first | omega | (rw [IntsAre.length (by assumption)]; omega)))); intro h'z c'z F'z N'z; (try dsimp only at N'z); (try k_sweep))) | (((with_reducible show wpAny _ _ (subscriptTail _ (PySem.Expr.Slice (some _) none none _) (Value.ref _) (Value.ref _)) _ _ _); k_dflt (refine' kmk_slice_ints ?F ?N ?l ?p ?q ?i ?m rfl ?_ ?s ?t ?z; (case F => k_asm); (case N => k_asm); (case l => exact PySem.IsL.isList (News.get (by k_asm) (by k_mem))); (case p => kmk_part); (case q => kmk_part); (case i => with_reducible assumption); (case m => exact kmk_from (by with_reducible assumption) (Int.natCast_nonneg _)); (case s => with_unfolding_all rfl); (case t => kmk_pure); (case z => exact small_fits (by with_reducible assumption) (by omega))); intro D'z ws'z h'z F'z N'z l1z hI'z hC'z hL'z; (try k_lt l1z); (try k_sweep); (try simp only [Int.toNat_natCast] at hI'z hC'z hL'z))) | (((with_reducible show wpAny _ (Around.mark _ _) (subscriptTail _ _ (Value.ref _) (Value.int _ _)) _ _ _); k_dflt (refine' ints_or2 ?k0 ?k1 ?k6 ?k7 ?k8 ?k2 ?k3 ?k5 ?k4 ?_ ?_; (case k0 => exact rfl); (case k1 => k_asm); (case k6 => exact List.mem_cons_self); (case k7 => with_reducible assumption); (case k8 => with_reducible assumption); (case k2 => k_mem); (case k3 => with_reducible assumption); (case k5 => omega); (case k4 => omega); k_whole))) | (((with_reducible show wpAny _ _ (subscriptTail _ _ (Value.ref _) (Value.int _ _)) _ _ _); k_dflt (refine' ints_or ?k0 ?k1 ?k2 ?k3 ?k5 ?k4 ?_ ?_; (case k0 => exact rfl); (case k1 => k_asm); (case k2 => k_mem); (case k3 => with_reducible assumption); (case k5 => omega); (case k4 => omega); k_whole))) | ((fail_if_success (with_reducible (first | show wpAny _ _ (exec (Stmt.While _ _ _ _) _) _ _ _ | show wpAny _ _ (exec (Stmt.Try _ _ _ _ _) _) _ _ _ | show wpAny _ _ (exec (Stmt.For _ _ _ _ _) _) _ _ _ | show wpAny _ _ (noteFrame _ _) _ _ _ | show KswEnd _ _ _ _ _ _ _ _ _ _ _ _ | show WhlIf _ _ _ | show wpAny _ _ (PySem.passOn _ _ _) _ _ _ | show LeaveS _ _ _ _ _ _ _ _ _ _ _ _ _ _ _ _ _ _))); first | walk1 | (dsimp only; walk1))))
        refine ksw_end (i + 1, _, j, tj, us, cu, ms ++ [_], cm + 1) (by k_asm) (by k_asm) (fun _ h => h) trivial (List.forall_mem_cons.mpr ⟨rfl, List.forall_mem_cons.mpr ⟨rfl, List.forall_mem_nil _⟩⟩) (by ksw_same) ⟨by dsimp only; omega, by dsimp only; omega, by dsimp only; omega, by simp; omega, ui, mi ++ [xs.getD i 0], e5, ints_app e6 (.cons _ _ .nil), ?_, ?_⟩ (by dsimp only; omega)
        · rw [← e7, E5]; simp
        · rw [← e8, E5]
      · rename Heap.NewExc _ _ _ _ => x5
        refine' hand (i + 1) j _ _ us (ms ++ [_]) cu (cm + 1) _ _ _ _ _ _ ui (mi ++ [xs.getD i 0]) (by omega) (by simp; omega) e5 (ints_app e6 (.cons _ _ .nil)) ?a ?b (fr_names F5 ?e) N5 KtsTurn.refl B' D' (.of x5)
        case e => (((repeat (refine List.forall_mem_cons.mpr ⟨?_, ?_⟩; (dsimp only; exact rfl))); exact List.forall_mem_nil _))
        case a => rw [← e7, E5, List.drop_eq_nil_of_le (as := xs) (by omega), merge_nil]; simp
        case b => rw [← e8, E5, List.drop_eq_nil_of_le (as := xs) (by omega), merge_nil]
    · rename_i a3 _ _ _ _ _ _
      rename ¬ (List.getD _ _ _ < List.getD _ _ _) => a3
      rename List.getD _ _ _ < List.getD _ _ _ => a4
      rename Fr _ _ _ _ => F5
      rename News _ _ _ _ => N5
      simp only [Int.toNat_natCast] at a4 N5
      simp only [List.push_toArray] at N5
      have E5 := merge_gt (by omega) (by omega) a4
      refine whl_start 1 ?_; refine whl_turn hpo ?_; (repeat' (first | (k_unfold; (try dsimp only)) | (((with_reducible show wpAny _ _ (call (Value.builtin _) [Value.ref _, Value.ref _]) _ _ _); k_dflt (refine' ext_led ?F ?N ?b ?U ?z ?y ?_; (case F => k_asm); (case N => k_asm); (case b => k_mem); (case U => k_updF); (case z => (try simp only [List.length_append, IntsAre.length (by assumption)]); omega); (case y => (first | omega | (rw [IntsAre.length (by assumption)]; omega)))); intro h'z c'z F'z N'z; (try dsimp only at N'z); (try k_sweep))) | (((with_reducible show wpAny _ _ (subscriptTail _ (PySem.Expr.Slice (some _) none none _) (Value.ref _) (Value.ref _)) _ _ _); k_dflt (refine' kmk_slice_ints ?F ?N ?l ?p ?q ?i ?m rfl ?_ ?s ?t ?z; (case F => k_asm); (case N => k_asm); (case l => exact PySem.IsL.isList (News.get (by k_asm) (by k_mem))); (case p => kmk_part); (case q => kmk_part); (case i => with_reducible assumption); (case m => exact kmk_from (by with_reducible assumption) (Int.natCast_nonneg _)); (case s => with_unfolding_all rfl); (case t => kmk_pure); (case z => exact small_fits (by with_reducible assumption) (by omega))); intro D'z ws'z h'z F'z N'z l1z hI'z hC'z hL'z; (try k_lt l1z); (try k_sweep); (try simp only [Int.toNat_natCast] at hI'z hC'z hL'z))) | (((with_reducible show wpAny _ (Around.mark _ _) (subscriptTail _ _ (Value.ref _) (Value.int _ _)) _ _ _); k_dflt (refine' ints_or2 ?k0 ?k1 ?k6 ?k7 ?k8 ?k2 ?k3 ?k5 ?k4 ?_ ?_; (case k0 => exact rfl); (case k1 => k_asm); (case k6 => exact List.mem_cons_self); (case k7 => with_reducible assumption); (case k8 => with_reducible assumption); (case k2 => k_mem); (case k3 => with_reducible assumption); (case k5 => omega); (case k4 => omega); k_whole))) | (((with_reducible show wpAny _ _ (subscriptTail _ _ (Value.ref _) (Value.int _ _)) _ _ _); k_dflt (refine' ints_or ?k0 ?k1 ?k2 ?k3 ?k5 ?k4 ?_ ?_; (case k0 => exact rfl); (case k1 => k_asm); (case k2 => k_mem); (case k3 => with_reducible assumption); (case k5 => omega); (case k4 => omega); k_whole))) | ((fail_if_success (with_reducible (first | show wpAny _ _ (exec (Stmt.While _ _ _ _) _) _ _ _ | show wpAny _ _ (exec (Stmt.Try _ _ _ _ _) _) _ _ _ | show wpAny _ _ (exec (Stmt.For _ _ _ _ _) _) _ _ _ | show wpAny _ _ (noteFrame _ _) _ _ _ | show KswEnd _ _ _ _ _ _ _ _ _ _ _ _ | show WhlIf _ _ _ | show wpAny _ _ (PySem.passOn _ _ _) _ _ _ | show LeaveS _ _ _ _ _ _ _ _ _ _ _ _ _ _ _ _ _ _))); first | walk1 | (dsimp only; walk1))))
      · refine WhlIf.no (beq_eq_false_iff_ne.mpr ?_) ?_
        · have := sinc sy (i := j) (by omega)
          rw [show ((j : Int) + 1).toNat = j + 1 by omega, Int.toNat_natCast]; omega
        (repeat' (first | (k_unfold; (try dsimp only)) | (((with_reducible show wpAny _ _ (call (Value.builtin _) [Value.ref _, Value.ref _]) _ _ _); k_dflt (refine' ext_led ?F ?N ?b ?U ?z ?y ?_; (case F => k_asm); (case N => k_asm); (case b => k_mem); (case U => k_updF); (case z => (try simp only [List.length_append, IntsAre.length (by assumption)]); omega); (case y => (first | omega | (rw [IntsAre.length (by assumption)]; omega)))); intro h'z c'z F'z N'z; (try dsimp only at N'z); (try k_sweep))) | (((with_reducible show wpAny _ _ (subscriptTail _ (PySem.Expr.Slice (some _) none none _) (Value.ref _) (Value.ref _)) _ _ _); k_dflt (refine' kmk_slice_ints ?F ?N ?l ?p ?q ?i ?m rfl ?_ ?s ?t ?z; (case F => k_asm); (case N => k_asm); (case l => exact PySem.IsL.isList (News.get (by k_asm) (by k_mem))); (case p => kmk_part); (case q => kmk_part); (case i => with_reducible assumption); (case m => exact kmk_from (by with_reducible assumption) (Int.natCast_nonneg _)); (case s => with_unfolding_all rfl); (case t => kmk_pure); (case z => exact small_fits (by with_reducible assumption) (by omega))); intro D'z ws'z h'z F'z N'z l1z hI'z hC'z hL'z; (try k_lt l1z); (try k_sweep); (try simp only [Int.toNat_natCast] at hI'z hC'z hL'z))) | (((with_reducible show wpAny _ (Around.mark _ _) (subscriptTail _ _ (Value.ref _) (Value.int _ _)) _ _ _); k_dflt (refine' ints_or2 ?k0 ?k1 ?k6 ?k7 ?k8 ?k2 ?k3 ?k5 ?k4 ?_ ?_; (case k0 => exact rfl); (case k1 => k_asm); (case k6 => exact List.mem_cons_self); (case k7 => with_reducible assumption); (case k8 => with_reducible assumption); (case k2 => k_mem); (case k3 => with_reducible assumption); (case k5 => omega); (case k4 => omega); k_whole))) | (((with_reducible show wpAny _ _ (subscriptTail _ _ (Value.ref _) (Value.int _ _)) _ _ _); k_dflt (refine' ints_or ?k0 ?k1 ?k2 ?k3 ?k5 ?k4 ?_ ?_; (case k0 => exact rfl); (case k1 => k_asm); (case k2 => k_mem); (case k3 => with_reducible assumption); (case k5 => omega); (case k4 => omega); k_whole))) | ((fail_if_success (with_reducible (first | show wpAny _ _ (exec (Stmt.While _ _ _ _) _) _ _ _ | show wpAny _ _ (exec (Stmt.Try _ _ _ _ _) _) _ _ _ | show wpAny _ _ (exec (Stmt.For _ _ _ _ _) _) _ _ _ | show wpAny _ _ (noteFrame _ _) _ _ _ | show KswEnd _ _ _ _ _ _ _ _ _ _ _ _ | show WhlIf _ _ _ | show wpAny _ _ (PySem.passOn _ _ _) _ _ _ | show LeaveS _ _ _ _ _ _ _ _ _ _ _ _ _ _ _ _ _ _))); first | walk1 | (dsimp only; walk1))))
        refine ksw_end (i, ti, j + 1, _, us ++ [_], cu + 1, ms, cm) (by k_asm) (by k_asm) (fun _ h => h) trivial (List.forall_mem_cons.mpr ⟨rfl, List.forall_mem_cons.mpr ⟨rfl, List.forall_mem_nil _⟩⟩) (by ksw_same) ⟨by dsimp only; omega, by dsimp only; omega, by simp; omega, by dsimp only; omega, ui ++ [ys.getD j 0], mi, ints_app e5 (.cons _ _ .nil), e6, ?_, ?_⟩ (by dsimp only; omega)
        · rw [← e7, E5]
        · rw [← e8, E5]; simp
      · rename Heap.NewExc _ _ _ _ => x5
        refine' hand i (j + 1) _ _ (us ++ [_]) ms (cu + 1) cm _ _ _ _ _ _ (ui ++ [ys.getD j 0]) mi (by simp; omega) (by omega) (ints_app e5 (.cons _ _ .nil)) e6 ?a ?b (fr_names F5 ?e) N5 KtsTurn.refl B' D' (.of x5)
        case e => (((repeat (refine List.forall_mem_cons.mpr ⟨?_, ?_⟩; (dsimp only; exact rfl))); exact List.forall_mem_nil _))
        case a => rw [← e7, E5, List.drop_eq_nil_of_le (as := ys) (by omega), merge_nil2]
        case b => rw [← e8, E5, List.drop_eq_nil_of_le (as := ys) (by omega), merge_nil2]; simp
    · rename ¬ (List.getD xs _ _ < List.getD ys _ _) => a3
      rename ¬ (List.getD ys _ _ < List.getD xs _ _) => a4
      simp only [Int.toNat_natCast] at a3 a4
      have E5 := merge_eq (xs := xs) (ys := ys) (i := i) (j := j) (by omega) (by omega) (by omega)
      refine wpAny_Try_finally ?_
      (repeat' (first | (k_unfold; (try dsimp only)) | (((with_reducible show wpAny _ _ (call (Value.builtin _) [Value.ref _, Value.ref _]) _ _ _); k_dflt (refine' ext_led ?F ?N ?b ?U ?z ?y ?_; (case F => k_asm); (case N => k_asm); (case b => k_mem); (case U => k_updF); (case z => (try simp only [List.length_append, IntsAre.length (by assumption)]); omega); (case y => (first | omega | (rw [IntsAre.length (by assumption)]; omega)))); intro h'z c'z F'z N'z; (try dsimp only at N'z); (try k_sweep))) | (((with_reducible show wpAny _ _ (subscriptTail _ (PySem.Expr.Slice (some _) none none _) (Value.ref _) (Value.ref _)) _ _ _); k_dflt (refine' kmk_slice_ints ?F ?N ?l ?p ?q ?i ?m rfl ?_ ?s ?t ?z; (case F => k_asm); (case N => k_asm); (case l => exact PySem.IsL.isList (News.get (by k_asm) (by k_mem))); (case p => kmk_part); (case q => kmk_part); (case i => with_reducible assumption); (case m => exact kmk_from (by with_reducible assumption) (Int.natCast_nonneg _)); (case s => with_unfolding_all rfl); (case t => kmk_pure); (case z => exact small_fits (by with_reducible assumption) (by omega))); intro D'z ws'z h'z F'z N'z l1z hI'z hC'z hL'z; (try k_lt l1z); (try k_sweep); (try simp only [Int.toNat_natCast] at hI'z hC'z hL'z))) | (((with_reducible show wpAny _ (Around.mark _ _) (subscriptTail _ _ (Value.ref _) (Value.int _ _)) _ _ _); k_dflt (refine' ints_or2 ?k0 ?k1 ?k6 ?k7 ?k8 ?k2 ?k3 ?k5 ?k4 ?_ ?_; (case k0 => exact rfl); (case k1 => k_asm); (case k6 => exact List.mem_cons_self); (case k7 => with_reducible assumption); (case k8 => with_reducible assumption); (case k2 => k_mem); (case k3 => with_reducible assumption); (case k5 => omega); (case k4 => omega); k_whole))) | (((with_reducible show wpAny _ _ (subscriptTail _ _ (Value.ref _) (Value.int _ _)) _ _ _); k_dflt (refine' ints_or ?k0 ?k1 ?k2 ?k3 ?k5 ?k4 ?_ ?_; (case k0 => exact rfl); (case k1 => k_asm); (case k2 => k_mem); (case k3 => with_reducible assumption); (case k5 => omega); (case k4 => omega); k_whole))) | ((fail_if_success (with_reducible (first | show wpAny _ _ (exec (Stmt.While _ _ _ _) _) _ _ _ | show wpAny _ _ (exec (Stmt.Try _ _ _ _ _) _) _ _ _ | show wpAny _ _ (exec (Stmt.For _ _ _ _ _) _) _ _ _ | show wpAny _ _ (noteFrame _ _) _ _ _ | show KswEnd _ _ _ _ _ _ _ _ _ _ _ _ | show WhlIf _ _ _ | show wpAny _ _ (PySem.passOn _ _ _) _ _ _ | show LeaveS _ _ _ _ _ _ _ _ _ _ _ _ _ _ _ _ _ _))); first | walk1 | (dsimp only; walk1))))
      refine whl_start 1 ?_; refine whl_turn (by passes_own) ?_; (repeat' (first | (k_unfold; (try dsimp only)) | (((with_reducible show wpAny _ _ (call (Value.builtin _) [Value.ref _, Value.ref _]) _ _ _); k_dflt (refine' ext_led ?F ?N ?b ?U ?z ?y ?_; (case F => k_asm); (case N => k_asm); (case b => k_mem); (case U => k_updF); (case z => (try simp only [List.length_append, IntsAre.length (by assumption)]); omega); (case y => (first | omega | (rw [IntsAre.length (by assumption)]; omega)))); intro h'z c'z F'z N'z; (try dsimp only at N'z); (try k_sweep))) | (((with_reducible show wpAny _ _ (subscriptTail _ (PySem.Expr.Slice (some _) none none _) (Value.ref _) (Value.ref _)) _ _ _); k_dflt (refine' kmk_slice_ints ?F ?N ?l ?p ?q ?i ?m rfl ?_ ?s ?t ?z; (case F => k_asm); (case N => k_asm); (case l => exact PySem.IsL.isList (News.get (by k_asm) (by k_mem))); (case p => kmk_part); (case q => kmk_part); (case i => with_reducible assumption); (case m => exact kmk_from (by with_reducible assumption) (Int.natCast_nonneg _)); (case s => with_unfolding_all rfl); (case t => kmk_pure); (case z => exact small_fits (by with_reducible assumption) (by omega))); intro D'z ws'z h'z F'z N'z l1z hI'z hC'z hL'z; (try k_lt l1z); (try k_sweep); (try simp only [Int.toNat_natCast] at hI'z hC'z hL'z))) | (((with_reducible show wpAny _ (Around.mark _ _) (subscriptTail _ _ (Value.ref _) (Value.int _ _)) _ _ _); k_dflt (refine' ints_or2 ?k0 ?k1 ?k6 ?k7 ?k8 ?k2 ?k3 ?k5 ?k4 ?_ ?_; (case k0 => exact rfl); (case k1 => k_asm); (case k6 => exact List.mem_cons_self); (case k7 => with_reducible assumption); (case k8 => with_reducible assumption); (case k2 => k_mem); (case k3 => with_reducible assumption); (case k5 => omega); (case k4 => omega); k_whole))) | (((with_reducible show wpAny _ _ (subscriptTail _ _ (Value.ref _) (Value.int _ _)) _ _ _); k_dflt (refine' ints_or ?k0 ?k1 ?k2 ?k3 ?k5 ?k4 ?_ ?_; (case k0 => exact rfl); (case k1 => k_asm); (case k2 => k_mem); (case k3 => with_reducible assumption); (case k5 => omega); (case k4 => omega); k_whole))) | ((fail_if_success (with_reducible (first | show wpAny _ _ (exec (Stmt.While _ _ _ _) _) _ _ _ | show wpAny _ _ (exec (Stmt.Try _ _ _ _ _) _) _ _ _ | show wpAny _ _ (exec (Stmt.For _ _ _ _ _) _) _ _ _ | show wpAny _ _ (noteFrame _ _) _ _ _ | show KswEnd _ _ _ _ _ _ _ _ _ _ _ _ | show WhlIf _ _ _ | show wpAny _ _ (PySem.passOn _ _ _) _ _ _ | show LeaveS _ _ _ _ _ _ _ _ _ _ _ _ _ _ _ _ _ _))); first | walk1 | (dsimp only; walk1))))
      · refine WhlIf.no (beq_eq_false_iff_ne.mpr ?_) ?_
        · have := sinc sx (i := i) (by omega)
          rw [show ((i : Int) + 1).toNat = i + 1 by omega, Int.toNat_natCast]; omega
        (repeat' (first | (k_unfold; (try dsimp only)) | (((with_reducible show wpAny _ _ (call (Value.builtin _) [Value.ref _, Value.ref _]) _ _ _); k_dflt (refine' ext_led ?F ?N ?b ?U ?z ?y ?_; (case F => k_asm); (case N => k_asm); (case b => k_mem); (case U => k_updF); (case z => (try simp only [List.length_append, IntsAre.length (by assumption)]); omega); (case y => (first | omega | (rw [IntsAre.length (by assumption)]; omega)))); intro h'z c'z F'z N'z; (try dsimp only at N'z); (try k_sweep))) | (((with_reducible show wpAny _ _ (subscriptTail _ (PySem.Expr.Slice (some _) none none _) (Value.ref _) (Value.ref _)) _ _ _); k_dflt (refine' kmk_slice_ints ?F ?N ?l ?p ?q ?i ?m rfl ?_ ?s ?t ?z; (case F => k_asm); (case N => k_asm); (case l => exact PySem.IsL.isList (News.get (by k_asm) (by k_mem))); (case p => kmk_part); (case q => kmk_part); (case i => with_reducible assumption); (case m => exact kmk_from (by with_reducible assumption) (Int.natCast_nonneg _)); (case s => with_unfolding_all rfl); (case t => kmk_pure); (case z => exact small_fits (by with_reducible assumption) (by omega))); intro D'z ws'z h'z F'z N'z l1z hI'z hC'z hL'z; (try k_lt l1z); (try k_sweep); (try simp only [Int.toNat_natCast] at hI'z hC'z hL'z))) | (((with_reducible show wpAny _ (Around.mark _ _) (subscriptTail _ _ (Value.ref _) (Value.int _ _)) _ _ _); k_dflt (refine' ints_or2 ?k0 ?k1 ?k6 ?k7 ?k8 ?k2 ?k3 ?k5 ?k4 ?_ ?_; (case k0 => exact rfl); (case k1 => k_asm); (case k6 => exact List.mem_cons_self); (case k7 => with_reducible assumption); (case k8 => with_reducible assumption); (case k2 => k_mem); (case k3 => with_reducible assumption); (case k5 => omega); (case k4 => omega); k_whole))) | (((with_reducible show wpAny _ _ (subscriptTail _ _ (Value.ref _) (Value.int _ _)) _ _ _); k_dflt (refine' ints_or ?k0 ?k1 ?k2 ?k3 ?k5 ?k4 ?_ ?_; (case k0 => exact rfl); (case k1 => k_asm); (case k2 => k_mem); (case k3 => with_reducible assumption); (case k5 => omega); (case k4 => omega); k_whole))) | ((fail_if_success (with_reducible (first | show wpAny _ _ (exec (Stmt.While _ _ _ _) _) _ _ _ | show wpAny _ _ (exec (Stmt.Try _ _ _ _ _) _) _ _ _ | show wpAny _ _ (exec (Stmt.For _ _ _ _ _) _) _ _ _ | show wpAny _ _ (noteFrame _ _) _ _ _ | show KswEnd _ _ _ _ _ _ _ _ _ _ _ _ | show WhlIf _ _ _ | show wpAny _ _ (PySem.passOn _ _ _) _ _ _ | show LeaveS _ _ _ _ _ _ _ _ _ _ _ _ _ _ _ _ _ _))); first | walk1 | (dsimp only; walk1))))
        refine wpAny_passesOwn hpo ?_
        (repeat' (first | (k_unfold; (try dsimp only)) | (((with_reducible show wpAny _ _ (call (Value.builtin _) [Value.ref _, Value.ref _]) _ _ _); k_dflt (refine' ext_led ?F ?N ?b ?U ?z ?y ?_; (case F => k_asm); (case N => k_asm); (case b => k_mem); (case U => k_updF); (case z => (try simp only [List.length_append, IntsAre.length (by assumption)]); omega); (case y => (first | omega | (rw [IntsAre.length (by assumption)]; omega)))); intro h'z c'z F'z N'z; (try dsimp only at N'z); (try k_sweep))) | (((with_reducible show wpAny _ _ (subscriptTail _ (PySem.Expr.Slice (some _) none none _) (Value.ref _) (Value.ref _)) _ _ _); k_dflt (refine' kmk_slice_ints ?F ?N ?l ?p ?q ?i ?m rfl ?_ ?s ?t ?z; (case F => k_asm); (case N => k_asm); (case l => exact PySem.IsL.isList (News.get (by k_asm) (by k_mem))); (case p => kmk_part); (case q => kmk_part); (case i => with_reducible assumption); (case m => exact kmk_from (by with_reducible assumption) (Int.natCast_nonneg _)); (case s => with_unfolding_all rfl); (case t => kmk_pure); (case z => exact small_fits (by with_reducible assumption) (by omega))); intro D'z ws'z h'z F'z N'z l1z hI'z hC'z hL'z; (try k_lt l1z); (try k_sweep); (try simp only [Int.toNat_natCast] at hI'z hC'z hL'z))) | (((with_reducible show wpAny _ (Around.mark _ _) (subscriptTail _ _ (Value.ref _) (Value.int _ _)) _ _ _); k_dflt (refine' ints_or2 ?k0 ?k1 ?k6 ?k7 ?k8 ?k2 ?k3 ?k5 ?k4 ?_ ?_; (case k0 => exact rfl); (case k1 => k_asm); (case k6 => exact List.mem_cons_self); (case k7 => with_reducible assumption); (case k8 => with_reducible assumption); (case k2 => k_mem); (case k3 => with_reducible assumption); (case k5 => omega); (case k4 => omega); k_whole))) | (((with_reducible show wpAny _ _ (subscriptTail _ _ (Value.ref _) (Value.int _ _)) _ _ _); k_dflt (refine' ints_or ?k0 ?k1 ?k2 ?k3 ?k5 ?k4 ?_ ?_; (case k0 => exact rfl); (case k1 => k_asm); (case k2 => k_mem); (case k3 => with_reducible assumption); (case k5 => omega); (case k4 => omega); k_whole))) | ((fail_if_success (with_reducible (first | show wpAny _ _ (exec (Stmt.While _ _ _ _) _) _ _ _ | show wpAny _ _ (exec (Stmt.Try _ _ _ _ _) _) _ _ _ | show wpAny _ _ (exec (Stmt.For _ _ _ _ _) _) _ _ _ | show wpAny _ _ (noteFrame _ _) _ _ _ | show KswEnd _ _ _ _ _ _ _ _ _ _ _ _ | show WhlIf _ _ _ | show wpAny _ _ (PySem.passOn _ _ _) _ _ _ | show LeaveS _ _ _ _ _ _ _ _ _ _ _ _ _ _ _ _ _ _))); first | walk1 | (dsimp only; walk1))))
        refine whl_start 1 ?_; refine whl_turn hpo ?_; (repeat' (first | (k_unfold; (try dsimp only)) | (((with_reducible show wpAny _ _ (call (Value.builtin _) [Value.ref _, Value.ref _]) _ _ _); k_dflt (refine' ext_led ?F ?N ?b ?U ?z ?y ?_; (case F => k_asm); (case N => k_asm); (case b => k_mem); (case U => k_updF); (case z => (try simp only [List.length_append, IntsAre.length (by assumption)]); omega); (case y => (first | omega | (rw [IntsAre.length (by assumption)]; omega)))); intro h'z c'z F'z N'z; (try dsimp only at N'z); (try k_sweep))) | (((with_reducible show wpAny _ _ (subscriptTail _ (PySem.Expr.Slice (some _) none none _) (Value.ref _) (Value.ref _)) _ _ _); k_dflt (refine' kmk_slice_ints ?F ?N ?l ?p ?q ?i ?m rfl ?_ ?s ?t ?z; (case F => k_asm); (case N => k_asm); (case l => exact PySem.IsL.isList (News.get (by k_asm) (by k_mem))); (case p => kmk_part); (case q => kmk_part); (case i => with_reducible assumption); (case m => exact kmk_from (by with_reducible assumption) (Int.natCast_nonneg _)); (case s => with_unfolding_all rfl); (case t => kmk_pure); (case z => exact small_fits (by with_reducible assumption) (by omega))); intro D'z ws'z h'z F'z N'z l1z hI'z hC'z hL'z; (try k_lt l1z); (try k_sweep); (try simp only [Int.toNat_natCast] at hI'z hC'z hL'z))) | (((with_reducible show wpAny _ (Around.mark _ _) (subscriptTail _ _ (Value.ref _) (Value.int _ _)) _ _ _); k_dflt (refine' ints_or2 ?k0 ?k1 ?k6 ?k7 ?k8 ?k2 ?k3 ?k5 ?k4 ?_ ?_; (case k0 => exact rfl); (case k1 => k_asm); (case k6 => exact List.mem_cons_self); (case k7 => with_reducible assumption); (case k8 => with_reducible assumption); (case k2 => k_mem); (case k3 => with_reducible assumption); (case k5 => omega); (case k4 => omega); k_whole))) | (((with_reducible show wpAny _ _ (subscriptTail _ _ (Value.ref _) (Value.int _ _)) _ _ _); k_dflt (refine' ints_or ?k0 ?k1 ?k2 ?k3 ?k5 ?k4 ?_ ?_; (case k0 => exact rfl); (case k1 => k_asm); (case k2 => k_mem); (case k3 => with_reducible assumption); (case k5 => omega); (case k4 => omega); k_whole))) | ((fail_if_success (with_reducible (first | show wpAny _ _ (exec (Stmt.While _ _ _ _) _) _ _ _ | show wpAny _ _ (exec (Stmt.Try _ _ _ _ _) _) _ _ _ | show wpAny _ _ (exec (Stmt.For _ _ _ _ _) _) _ _ _ | show wpAny _ _ (noteFrame _ _) _ _ _ | show KswEnd _ _ _ _ _ _ _ _ _ _ _ _ | show WhlIf _ _ _ | show wpAny _ _ (PySem.passOn _ _ _) _ _ _ | show LeaveS _ _ _ _ _ _ _ _ _ _ _ _ _ _ _ _ _ _))); first | walk1 | (dsimp only; walk1))))
        · refine WhlIf.no (beq_eq_false_iff_ne.mpr ?_) ?_
          · have := sinc sy (i := j) (by omega)
            rw [show ((j : Int) + 1).toNat = j + 1 by omega, Int.toNat_natCast]; omega
          (repeat' (first | (k_unfold; (try dsimp only)) | (((with_reducible show wpAny _ _ (call (Value.builtin _) [Value.ref _, Value.ref _]) _ _ _); k_dflt (refine' ext_led ?F ?N ?b ?U ?z ?y ?_; (case F => k_asm); (case N => k_asm); (case b => k_mem); (case U => k_updF); (case z => (try simp only [List.length_append, IntsAre.length (by assumption)]); omega); (case y => (first | omega | (rw [IntsAre.length (by assumption)]; omega)))); intro h'z c'z F'z N'z; (try dsimp only at N'z); (try k_sweep))) | (((with_reducible show wpAny _ _ (subscriptTail _ (PySem.Expr.Slice (some _) none none _) (Value.ref _) (Value.ref _)) _ _ _); k_dflt (refine' kmk_slice_ints ?F ?N ?l ?p ?q ?i ?m rfl ?_ ?s ?t ?z; (case F => k_asm); (case N => k_asm); (case l => exact PySem.IsL.isList (News.get (by k_asm) (by k_mem))); (case p => kmk_part); (case q => kmk_part); (case i => with_reducible assumption); (case m => exact kmk_from (by with_reducible assumption) (Int.natCast_nonneg _)); (case s => with_unfolding_all rfl); (case t => kmk_pure); (case z => exact small_fits (by with_reducible assumption) (by omega))); intro D'z ws'z h'z F'z N'z l1z hI'z hC'z hL'z; (try k_lt l1z); (try k_sweep); (try simp only [Int.toNat_natCast] at hI'z hC'z hL'z))) | (((with_reducible show wpAny _ (Around.mark _ _) (subscriptTail _ _ (Value.ref _) (Value.int _ _)) _ _ _); k_dflt (refine' ints_or2 ?k0 ?k1 ?k6 ?k7 ?k8 ?k2 ?k3 ?k5 ?k4 ?_ ?_; (case k0 => exact rfl); (case k1 => k_asm); (case k6 => exact List.mem_cons_self); (case k7 => with_reducible assumption); (case k8 => with_reducible assumption); (case k2 => k_mem); (case k3 => with_reducible assumption); (case k5 => omega); (case k4 => omega); k_whole))) | (((with_reducible show wpAny _ _ (subscriptTail _ _ (Value.ref _) (Value.int _ _)) _ _ _); k_dflt (refine' ints_or ?k0 ?k1 ?k2 ?k3 ?k5 ?k4 ?_ ?_; (case k0 => exact rfl); (case k1 => k_asm); (case k2 => k_mem); (case k3 => with_reducible assumption); (case k5 => omega); (case k4 => omega); k_whole))) | ((fail_if_success (with_reducible (first | show wpAny _ _ (exec (Stmt.While _ _ _ _) _) _ _ _ | show wpAny _ _ (exec (Stmt.Try _ _ _ _ _) _) _ _ _ | show wpAny _ _ (exec (Stmt.For _ _ _ _ _) _) _ _ _ | show wpAny _ _ (noteFrame _ _) _ _ _ | show KswEnd _ _ _ _ _ _ _ _ _ _ _ _ | show WhlIf _ _ _ | show wpAny _ _ (PySem.passOn _ _ _) _ _ _ | show LeaveS _ _ _ _ _ _ _ _ _ _ _ _ _ _ _ _ _ _))); first | walk1 | (dsimp only; walk1))))
          refine ksw_end (i + 1, _, j + 1, _, us, cu, ms, cm) (by k_asm) (by k_asm) (fun _ h => h) trivial (List.forall_mem_cons.mpr ⟨rfl, List.forall_mem_cons.mpr ⟨rfl, List.forall_mem_nil _⟩⟩) (by ksw_same) ⟨by dsimp only; omega, by dsimp only; omega, by dsimp only; omega, by dsimp only; omega, ui, mi, e5, e6, ?_, ?_⟩ (by dsimp only; omega)
          · rw [← e7, E5]
          · rw [← e8, E5]
        · rename Heap.NewExc _ _ _ _ => x5
          refine' hand (i + 1) (j + 1) _ _ us ms cu cm _ _ _ _ _ _ ui mi (by omega) (by omega) e5 e6 ?a ?b (fr_names ?F ?e) (by k_asm) KtsTurn.refl B' D' (.of x5)
          case F => k_asm
          case e => (((repeat (refine List.forall_mem_cons.mpr ⟨?_, ?_⟩; (dsimp only; exact rfl))); exact List.forall_mem_nil _))
          case a => rw [← e7, E5, List.drop_eq_nil_of_le (as := ys) (by omega), merge_nil2]
          case b => rw [← e8, E5, List.drop_eq_nil_of_le (as := ys) (by omega), merge_nil2]
      · rename Heap.NewExc _ _ _ _ => x5
        refine note_land rfl B' (by k_asm) (by k_asm) x5 rfl fun h1 g1 oe T oT T1 F1 N1 K1 x1 n1 eT => ?_
        refine ⟨ref_ne_byPass _, ?_⟩
        refine note_again N1 x1 ?_
        refine set_fl none F1 N1 x1 n1 eT fun h2 oT2 F2 N2 x2 => ?_
        refine wpAny_passesOwnAt (hpm _) ?_
        obtain ⟨y1, vs2, ts2, a02, y2, y3, y4, y5, y6, y7⟩ := id x2
        (repeat' (first | (k_unfold; (try dsimp only)) | (((with_reducible show wpAny _ _ (call (Value.builtin _) [Value.ref _, Value.ref _]) _ _ _); k_dflt (refine' ext_led ?F ?N ?b ?U ?z ?y ?_; (case F => k_asm); (case N => k_asm); (case b => k_mem); (case U => k_updF); (case z => (try simp only [List.length_append, IntsAre.length (by assumption)]); omega); (case y => (first | omega | (rw [IntsAre.length (by assumption)]; omega)))); intro h'z c'z F'z N'z; (try dsimp only at N'z); (try k_sweep))) | (((with_reducible show wpAny _ _ (subscriptTail _ (PySem.Expr.Slice (some _) none none _) (Value.ref _) (Value.ref _)) _ _ _); k_dflt (refine' kmk_slice_ints ?F ?N ?l ?p ?q ?i ?m rfl ?_ ?s ?t ?z; (case F => k_asm); (case N => k_asm); (case l => exact PySem.IsL.isList (News.get (by k_asm) (by k_mem))); (case p => kmk_part); (case q => kmk_part); (case i => with_reducible assumption); (case m => exact kmk_from (by with_reducible assumption) (Int.natCast_nonneg _)); (case s => with_unfolding_all rfl); (case t => kmk_pure); (case z => exact small_fits (by with_reducible assumption) (by omega))); intro D'z ws'z h'z F'z N'z l1z hI'z hC'z hL'z; (try k_lt l1z); (try k_sweep); (try simp only [Int.toNat_natCast] at hI'z hC'z hL'z))) | (((with_reducible show wpAny _ (Around.mark _ _) (subscriptTail _ _ (Value.ref _) (Value.int _ _)) _ _ _); k_dflt (refine' ints_or2 ?k0 ?k1 ?k6 ?k7 ?k8 ?k2 ?k3 ?k5 ?k4 ?_ ?_; (case k0 => exact rfl); (case k1 => k_asm); (case k6 => exact List.mem_cons_self); (case k7 => with_reducible assumption); (case k8 => with_reducible assumption); (case k2 => k_mem); (case k3 => with_reducible assumption); (case k5 => omega); (case k4 => omega); k_whole))) | (((with_reducible show wpAny _ _ (subscriptTail _ _ (Value.ref _) (Value.int _ _)) _ _ _); k_dflt (refine' ints_or ?k0 ?k1 ?k2 ?k3 ?k5 ?k4 ?_ ?_; (case k0 => exact rfl); (case k1 => k_asm); (case k2 => k_mem); (case k3 => with_reducible assumption); (case k5 => omega); (case k4 => omega); k_whole))) | ((fail_if_success (with_reducible (first | show wpAny _ _ (exec (Stmt.While _ _ _ _) _) _ _ _ | show wpAny _ _ (exec (Stmt.Try _ _ _ _ _) _) _ _ _ | show wpAny _ _ (exec (Stmt.For _ _ _ _ _) _) _ _ _ | show wpAny _ _ (noteFrame _ _) _ _ _ | show KswEnd _ _ _ _ _ _ _ _ _ _ _ _ | show WhlIf _ _ _ | show wpAny _ _ (PySem.passOn _ _ _) _ _ _ | show LeaveS _ _ _ _ _ _ _ _ _ _ _ _ _ _ _ _ _ _))); first | walk1 | (dsimp only; walk1))))
        refine whl_start 1 ?_; refine whl_turn (hpn _) ?_; (repeat' (first | (k_unfold; (try dsimp only)) | (((with_reducible show wpAny _ _ (call (Value.builtin _) [Value.ref _, Value.ref _]) _ _ _); k_dflt (refine' ext_led ?F ?N ?b ?U ?z ?y ?_; (case F => k_asm); (case N => k_asm); (case b => k_mem); (case U => k_updF); (case z => (try simp only [List.length_append, IntsAre.length (by assumption)]); omega); (case y => (first | omega | (rw [IntsAre.length (by assumption)]; omega)))); intro h'z c'z F'z N'z; (try dsimp only at N'z); (try k_sweep))) | (((with_reducible show wpAny _ _ (subscriptTail _ (PySem.Expr.Slice (some _) none none _) (Value.ref _) (Value.ref _)) _ _ _); k_dflt (refine' kmk_slice_ints ?F ?N ?l ?p ?q ?i ?m rfl ?_ ?s ?t ?z; (case F => k_asm); (case N => k_asm); (case l => exact PySem.IsL.isList (News.get (by k_asm) (by k_mem))); (case p => kmk_part); (case q => kmk_part); (case i => with_reducible assumption); (case m => exact kmk_from (by with_reducible assumption) (Int.natCast_nonneg _)); (case s => with_unfolding_all rfl); (case t => kmk_pure); (case z => exact small_fits (by with_reducible assumption) (by omega))); intro D'z ws'z h'z F'z N'z l1z hI'z hC'z hL'z; (try k_lt l1z); (try k_sweep); (try simp only [Int.toNat_natCast] at hI'z hC'z hL'z))) | (((with_reducible show wpAny _ (Around.mark _ _) (subscriptTail _ _ (Value.ref _) (Value.int _ _)) _ _ _); k_dflt (refine' ints_or2 ?k0 ?k1 ?k6 ?k7 ?k8 ?k2 ?k3 ?k5 ?k4 ?_ ?_; (case k0 => exact rfl); (case k1 => k_asm); (case k6 => exact List.mem_cons_self); (case k7 => with_reducible assumption); (case k8 => with_reducible assumption); (case k2 => k_mem); (case k3 => with_reducible assumption); (case k5 => omega); (case k4 => omega); k_whole))) | (((with_reducible show wpAny _ _ (subscriptTail _ _ (Value.ref _) (Value.int _ _)) _ _ _); k_dflt (refine' ints_or ?k0 ?k1 ?k2 ?k3 ?k5 ?k4 ?_ ?_; (case k0 => exact rfl); (case k1 => k_asm); (case k2 => k_mem); (case k3 => with_reducible assumption); (case k5 => omega); (case k4 => omega); k_whole))) | ((fail_if_success (with_reducible (first | show wpAny _ _ (exec (Stmt.While _ _ _ _) _) _ _ _ | show wpAny _ _ (exec (Stmt.Try _ _ _ _ _) _) _ _ _ | show wpAny _ _ (exec (Stmt.For _ _ _ _ _) _) _ _ _ | show wpAny _ _ (noteFrame _ _) _ _ _ | show KswEnd _ _ _ _ _ _ _ _ _ _ _ _ | show WhlIf _ _ _ | show wpAny _ _ (PySem.passOn _ _ _) _ _ _ | show LeaveS _ _ _ _ _ _ _ _ _ _ _ _ _ _ _ _ _ _))); first | walk1 | (dsimp only; walk1))))
        · refine WhlIf.no (beq_eq_false_iff_ne.mpr ?_) ?_
          · have := sinc sy (i := j) (by omega)
            rw [show ((j : Int) + 1).toNat = j + 1 by omega, Int.toNat_natCast]; omega
          (repeat' (first | (k_unfold; (try dsimp only)) | (((with_reducible show wpAny _ _ (call (Value.builtin _) [Value.ref _, Value.ref _]) _ _ _); k_dflt (refine' ext_led ?F ?N ?b ?U ?z ?y ?_; (case F => k_asm); (case N => k_asm); (case b => k_mem); (case U => k_updF); (case z => (try simp only [List.length_append, IntsAre.length (by assumption)]); omega); (case y => (first | omega | (rw [IntsAre.length (by assumption)]; omega)))); intro h'z c'z F'z N'z; (try dsimp only at N'z); (try k_sweep))) | (((with_reducible show wpAny _ _ (subscriptTail _ (PySem.Expr.Slice (some _) none none _) (Value.ref _) (Value.ref _)) _ _ _); k_dflt (refine' kmk_slice_ints ?F ?N ?l ?p ?q ?i ?m rfl ?_ ?s ?t ?z; (case F => k_asm); (case N => k_asm); (case l => exact PySem.IsL.isList (News.get (by k_asm) (by k_mem))); (case p => kmk_part); (case q => kmk_part); (case i => with_reducible assumption); (case m => exact kmk_from (by with_reducible assumption) (Int.natCast_nonneg _)); (case s => with_unfolding_all rfl); (case t => kmk_pure); (case z => exact small_fits (by with_reducible assumption) (by omega))); intro D'z ws'z h'z F'z N'z l1z hI'z hC'z hL'z; (try k_lt l1z); (try k_sweep); (try simp only [Int.toNat_natCast] at hI'z hC'z hL'z))) | (((with_reducible show wpAny _ (Around.mark _ _) (subscriptTail _ _ (Value.ref _) (Value.int _ _)) _ _ _); k_dflt (refine' ints_or2 ?k0 ?k1 ?k6 ?k7 ?k8 ?k2 ?k3 ?k5 ?k4 ?_ ?_; (case k0 => exact rfl); (case k1 => k_asm); (case k6 => exact List.mem_cons_self); (case k7 => with_reducible assumption); (case k8 => with_reducible assumption); (case k2 => k_mem); (case k3 => with_reducible assumption); (case k5 => omega); (case k4 => omega); k_whole))) | (((with_reducible show wpAny _ _ (subscriptTail _ _ (Value.ref _) (Value.int _ _)) _ _ _); k_dflt (refine' ints_or ?k0 ?k1 ?k2 ?k3 ?k5 ?k4 ?_ ?_; (case k0 => exact rfl); (case k1 => k_asm); (case k2 => k_mem); (case k3 => with_reducible assumption); (case k5 => omega); (case k4 => omega); k_whole))) | ((fail_if_success (with_reducible (first | show wpAny _ _ (exec (Stmt.While _ _ _ _) _) _ _ _ | show wpAny _ _ (exec (Stmt.Try _ _ _ _ _) _) _ _ _ | show wpAny _ _ (exec (Stmt.For _ _ _ _ _) _) _ _ _ | show wpAny _ _ (noteFrame _ _) _ _ _ | show KswEnd _ _ _ _ _ _ _ _ _ _ _ _ | show WhlIf _ _ _ | show wpAny _ _ (PySem.passOn _ _ _) _ _ _ | show LeaveS _ _ _ _ _ _ _ _ _ _ _ _ _ _ _ _ _ _))); first | walk1 | (dsimp only; walk1))))
          refine pass_fl (by k_asm) (by k_asm) x2 n1 eT fun h3 oT3 F3 N3 x3 => ?_
          refine' suite g1 (i + 1) (j + 1) _ _ us ms cu cm _ _ _ _ _ ui mi (by omega) (by omega) e5 e6 ?a ?b (fr_names F3 ?e) T1 K1 (D'.turn T1) (.inl ⟨oe, T, oT3, N3, rfl, x3, n1, eT⟩)
          case e => (((repeat (refine List.forall_mem_cons.mpr ⟨?_, ?_⟩; (dsimp only; exact rfl))); exact List.forall_mem_nil _))
          case a => rw [← e7, E5, List.drop_eq_nil_of_le (as := xs) (by omega), merge_nil]
          case b => rw [← e8, E5, List.drop_eq_nil_of_le (as := xs) (by omega), merge_nil]
        · rename NewX _ _ _ _ => x6
          refine' hand (i + 1) (j + 1) _ _ us ms cu cm _ _ _ _ _ _ ui mi (by omega) (by omega) e5 e6 ?a ?b (fr_names ?F ?e) (news_tail2 ?N) T1 K1 (D'.turn T1) x6
          case F => k_asm
          case N => k_asm
          case e => (((repeat (refine List.forall_mem_cons.mpr ⟨?_, ?_⟩; (dsimp only; exact rfl))); exact List.forall_mem_nil _))
          case a => rw [← e7, E5, List.drop_eq_nil_of_le (as := xs) (by omega), merge_nil]
          case b => rw [← e8, E5, List.drop_eq_nil_of_le (as := xs) (by omega), merge_nil]
    · rename Heap.NewExc _ _ _ _ => x5
      refine' hand i j _ _ us ms cu cm _ _ _ _ _ _ ui mi (by omega) (by omega) e5 e6 ?a ?b (fr_names ?F ?e) (by k_asm) KtsTurn.refl B' D' (.of x5)
      case F => k_asm
      case e => (((repeat (refine List.forall_mem_cons.mpr ⟨?_, ?_⟩; (dsimp only; exact rfl))); exact List.forall_mem_nil _))
      case a => rw [← e7, List.drop_eq_nil_of_le (as := ys) (by omega), merge_nil2]
      case b => rw [← e8, List.drop_eq_nil_of_le (as := ys) (by omega), merge_nil2]
    · rename Heap.NewExc _ _ _ _ => x5
      refine' hand i j _ _ us ms cu cm _ _ _ _ _ _ ui mi (by omega) (by omega) e5 e6 ?a ?b (fr_names ?F ?e) (by k_asm) KtsTurn.refl B' D' (.of x5)
      case F => k_asm
      case e => (((repeat (refine List.forall_mem_cons.mpr ⟨?_, ?_⟩; (dsimp only; exact rfl))); exact List.forall_mem_nil _))
      case a => rw [← e7, List.drop_eq_nil_of_le (as := xs) (by omega), merge_nil]
      case b => rw [← e8, List.drop_eq_nil_of_le (as := xs) (by omega), merge_nil]
end
end
section
set_option Elab.async false
theorem notMem_lt {x : Int} {l : List Int} (h : ∀ z ∈ l, x < z) : x ∉ l := fun m => by have := h x m; omega
theorem filt_drop {x : Int} {l : List Int} (xs : List Int) (h : x ∉ l) : l.filter (fun z => !decide (z ∈ x :: xs)) = l.filter (fun z => !decide (z ∈ xs)) := by
  refine List.filter_congr fun z hz => ?_
  have : z ≠ x := fun e => h (e ▸ hz)
  simp [this]
theorem filt_all (l : List Int) : l.filter (fun _ => true) = l := List.filter_eq_self.mpr fun _ _ => rfl
theorem merge_filter : ∀ (xs ys : List Int), xs.Pairwise (· < ·) → ys.Pairwise (· < ·) → mergeF xs ys = (xs.filter (fun z => !decide (z ∈ ys)), ys.filter (fun z => !decide (z ∈ xs)))
  | [], ys, _, _ => by rw [mergeF]; simp [filt_all]
  | x :: xs, [], _, _ => by rw [mergeF]; simp [filt_all]
  | x :: xs, y :: ys, hx, hy => by
    have hx1 := (List.pairwise_cons.mp hx)
    have hy1 := (List.pairwise_cons.mp hy)
    rw [mergeF]
    by_cases h1 : x < y
    · rw [if_pos h1, merge_filter xs (y :: ys) hx1.2 hy]
      have nx : x ∉ y :: ys := notMem_lt fun z hz => by
        rcases List.mem_cons.mp hz with rfl | hz
        · exact h1
        · have := hy1.1 z hz; omega
      rw [filt_drop xs nx]
      rw [List.filter_cons (x := x), if_pos (by simpa using nx)]
    · rw [if_neg h1]
      by_cases h2 : y < x
      · rw [if_pos h2, merge_filter (x :: xs) ys hx hy1.2]
        have ny : y ∉ x :: xs := notMem_lt fun z hz => by
          rcases List.mem_cons.mp hz with rfl | hz
          · exact h2
          · have := hx1.1 z hz; omega
        rw [filt_drop ys ny]
        rw [List.filter_cons (x := y), if_pos (by simpa using ny)]
      · rw [if_neg h2]
        have e : x = y := by omega
        subst e
        rw [merge_filter xs ys hx1.2 hy1.2]
        have n1 : x ∉ xs := notMem_lt hx1.1
        have n2 : x ∉ ys := notMem_lt hy1.1
        simp only [List.filter_cons (x := x), List.mem_cons, true_or, decide_true, Bool.not_true, Bool.false_eq_true, if_false]
        have e1 := filt_drop ys n1
        have e2 := filt_drop xs n2
        simp only [List.mem_cons] at e1 e2
        rw [e1, e2]
termination_by xs ys => xs.length + ys.length
end
section
set_option Elab.async false
set_option maxRecDepth 100000
set_option maxHeartbeats 8000000
theorem ints_get {v : Value} : ∀ {vs : List Value} {xs : List Int} {i : Nat}, IntsAre vs xs → vs.toArray[i]? = some v → ∃ t, v = .int (xs.getD i 0) t ∧ i < xs.length
  | _, _, i, .nil, e => by simp at e
  | _, _, 0, .cons n t _, e => by simp at e; exact ⟨t, by simp [← e], by simp⟩
  | _, _, i + 1, .cons n t r, e => by
    obtain ⟨t', h1, h2⟩ := ints_get (i := i) r (by simpa using e)
    exact ⟨t', by simpa using h1, by simpa using h2⟩
theorem take_filter {xs : List Int} {i : Nat} (h : i < xs.length) (f : Int → Bool) : (xs.take (i + 1)).filter f = (xs.take i).filter f ++ (if f (xs.getD i 0) then [xs.getD i 0] else []) := by
  rw [List.take_succ, List.getElem?_eq_getElem h, List.filter_append, List.getD_eq_getElem?_getD, List.getElem?_eq_getElem h]
  simp only [Option.toList, Option.getD, List.filter_cons, List.filter_nil]
theorem news_lst {g h : Heap} {L D : Addr} {zs : List Value} {r : List (Addr × Obj)} (N : News g L h ((D, LCg.lst zs) :: r)) : News g L h ((D, listOf zs.toArray zs.length) :: r) := N
theorem news_pre {g h : Heap} {L : Addr} {p1 p2 : Addr × Obj} {r : List (Addr × Obj)} (N : News g L h r) (h1 : p1 ∈ r) (h2 : p2 ∈ r) : News g L h (p1 :: p2 :: r) := fun p hp => by
  rcases List.mem_cons.mp hp with rfl | hp
  · exact N _ h1
  rcases List.mem_cons.mp hp with rfl | hp
  · exact N _ h2
  · exact N _ hp
local macro_rules | `(tactic| k_all) => `(tactic| (refine allLt_ne ?_ (by assumption); (first | omega | exact Nat.le_add_right _ 1 | exact Nat.le_add_right _ 2 | exact Nat.le_add_right _ 3 | exact Nat.le_add_right _ 4)))
section
variable {w : World} {mean : ExcName → Option Value} {mg mb : Str → Option Value}
    {dp un : Nat} {gd : Option (List Code)} {cn : Str} {cs : Scope} {a : Addr} {ccd : Value} {cl : List (Str × Addr)} {outer : List Env} {A₀ : Around} {base h₀ : Heap} {L : Addr} {m : Str → Option Value} {s : Shared} {Q E : Value → Shared → Prop}
    (B : Below A₀ base outer h₀) (F : Fr h₀ L s.heap m) (X : (Kf w.params).In h₀) (T : Top q (looseW q loose) mean mg mb h₀) (hk : cs.kind = .function)
    (XB : (Kf w.params).In base) (TB : Top q (looseW q loose) mean mg mb base) (D : KtsDicts (outer.filterMap (·.frame)) h₀)
include B F X T hk XB TB D
theorem ap_spec {l1 l2 : Addr} {vs ws : List Value} {xs ys : List Int} {c1 c2 : Nat} {news : List (Addr × Obj)} (N : News h₀ L s.heap ((l1, listOf vs.toArray c1) :: (l2, listOf ws.toArray c2) :: news)) (hd : dp + 2 < recursionLimit) (hu : un + 128 < cLine)
    (hx : IntsAre vs xs) (hy : IntsAre ws ys) (h1 : xs.length < 100) (h2 : ys.length < 100) (sx : xs.Pairwise (· < ·)) (sy : ys.Pairwise (· < ·))
    (hret : ∀ h₀' lm ms cm h' tk', KtsTurn (outer.filterMap (·.frame)) h₀ h₀' → Fr h₀' L h' m → News h₀' L h' ((lm, listOf ms.toArray cm) :: (l1, listOf vs.toArray c1) :: (l2, listOf ws.toArray c2) :: news) → (l1 < lm ∧ l2 < lm ∧ AllLt lm news) → IntsAre ms (mergeF xs ys).1 →
      Below A₀ base outer h₀' → (Kf w.params).In h₀' → Top q (looseW q loose) mean mg mb h₀' → KtsDicts (outer.filterMap (·.frame)) h₀' → Q (.ref lm) { s with heap := h', toks := tk' }) :
    wpAny (model PySem.Challenge.rw_op0130_01.prog w) (ktrTop dp un gd cn cs L a ccd cl outer) (call (.ref 134) [.ref l1, .ref l2]) Q E s := by
  revert X; k_fill; intro X
  refine wpAny_call ?_
  k_dflt (refine' callS_cells (g₀ := h₀) (binds := [(Str.ofString "one", .ref l1), (Str.ofString "other", .ref l2)]) ?k1 ?k2 ?k3 ?k4 ?k5 XB TB D KtsTurn.refl ?kA ?kF ?kK ?k6 ?k7 ?k8 ?k9 ?kB ?kD ?_ ?c2 ?c3 ?c4; (case kA => exact rfl); (case kF => exact rfl); (case kK => assumption); (case k1 => k_asm); (case k2 => k_asm); (case k3 => k_asm); (case k4 => k_asm); (case k5 => k_asm); (case k6 => k_is); (case k7 => k_is); (case k8 => ktr_room); (case k9 => exact BindsTo.of_eq rfl); (case kB => exact rfl); (case kD => decide +kernel); (case c2 => exact rfl); (case c3 => exact rfl); (case c4 => exact rfl); k_whole; intro g' L' h' tk' cells' FG' F' N' Y' B' X' T' D' l1'; (try k_lt l1'); (try dsimp only); (try k_fold))
  obtain ⟨o1, o2, hE, d1, d2⟩ := CellsAre.two Y'; subst hE; clear Y'
  replace d1 : o1.data = .cell none := d1
  replace d2 : o2.data = .cell none := d2
  simp only [List.cons_append, List.nil_append] at N'
  obtain ⟨p1, p2, p3⟩ := l1'
  (repeat' (first | (k_unfold; (try dsimp only)) | (((with_reducible show wpAny _ _ (compareOp CmpOp.NotEq (Value.ref _) (Value.ref _)) _ _ _); k_dflt (refine' ne_pair (News.get (by k_asm) ?ka) ?c1 ?d1 (News.get (by k_asm) ?kb) ?c2 ?d2 ?k1 ?k2 ?k3 ?k4 ?k5 ?k6 ?k7 ?k8 ?k9 ?_; (case ka => k_mem); (case c1 => exact rfl); (case d1 => with_reducible exact rfl); (case kb => k_mem); (case c2 => exact rfl); (case d2 => with_reducible exact rfl); (case k1 => exact PySem.IsL.isList (News.get (by k_asm) (by k_mem))); (case k2 => with_reducible assumption); (case k3 => exact PySem.IsL.isList (News.get (by k_asm) (by k_mem))); (case k4 => with_reducible assumption); (case k5 => exact PySem.IsL.isList (News.get (by k_asm) (by k_mem))); (case k6 => with_reducible assumption); (case k7 => exact PySem.IsL.isList (News.get (by k_asm) (by k_mem))); (case k8 => with_reducible assumption); (case k9 => ktr_units); k_whole))) | (((with_reducible show wpAny _ _ (compareOp CmpOp.NotEq (Value.ref _) (Value.ref _)) _ _ _); k_dflt (refine' ne_intsK ?k1 ?k2 ?k3 ?k4 ?k5 ?_; (case k1 => exact PySem.IsL.isList (News.get (by k_asm) (by k_mem))); (case k2 => with_reducible assumption); (case k3 => exact PySem.IsL.isList (News.get (by k_asm) (by k_mem))); (case k4 => with_reducible assumption); (case k5 => ktr_units); k_whole); (try simp only [decide_true, Bool.not_true]))) | ((fail_if_success (with_reducible (first | show wpAny _ _ (exec (Stmt.While _ _ _ _) _) _ _ _ | show wpAny _ _ (call (Value.ref _) _) _ _ _ | show wpAny _ _ (exec (Stmt.For _ _ _ _ _) _) _ _ _ | show wpAny _ _ (eval (Expr.ListComp _ _ _ _) _) _ _ _ | show LCt.CompSrcT _ _ _ _ _ _ _ _ _ _ _ _ _ _ _ | show TurnQ _ _ _ _ _ _ _ _ | show wpAny _ _ (compareOp CmpOp.NotIn _ _) _ _ _ | show KswEnd _ _ _ _ _ _ _ _ _ _ _ _ | show LeaveS _ _ _ _ _ _ _ _ _ _ _ _ _ _ _ _ _ _))); first | walk1 | (dsimp only; walk1))))
  rename News _ _ _ _ => N5
  refine sld_spec B' (by k_asm) X' T' rfl XB TB D' (news_pre N5 (by k_mem) (by k_mem)) (by ktr_room) (by ktr_units) hx hy h1 h2 sx sy ?_
  intro g2 r lu lm us cu ms cm h2' tk2 U2 F2 N2 l2' im iu B2 X2 T2 D2
  obtain ⟨y1, y2, y3, y4, y5⟩ := l2'
  (repeat' (first | (k_unfold; (try dsimp only)) | (((with_reducible show wpAny _ _ (compareOp CmpOp.NotEq (Value.ref _) (Value.ref _)) _ _ _); k_dflt (refine' ne_pair (News.get (by k_asm) ?ka) ?c1 ?d1 (News.get (by k_asm) ?kb) ?c2 ?d2 ?k1 ?k2 ?k3 ?k4 ?k5 ?k6 ?k7 ?k8 ?k9 ?_; (case ka => k_mem); (case c1 => exact rfl); (case d1 => with_reducible exact rfl); (case kb => k_mem); (case c2 => exact rfl); (case d2 => with_reducible exact rfl); (case k1 => exact PySem.IsL.isList (News.get (by k_asm) (by k_mem))); (case k2 => with_reducible assumption); (case k3 => exact PySem.IsL.isList (News.get (by k_asm) (by k_mem))); (case k4 => with_reducible assumption); (case k5 => exact PySem.IsL.isList (News.get (by k_asm) (by k_mem))); (case k6 => with_reducible assumption); (case k7 => exact PySem.IsL.isList (News.get (by k_asm) (by k_mem))); (case k8 => with_reducible assumption); (case k9 => ktr_units); k_whole))) | (((with_reducible show wpAny _ _ (compareOp CmpOp.NotEq (Value.ref _) (Value.ref _)) _ _ _); k_dflt (refine' ne_intsK ?k1 ?k2 ?k3 ?k4 ?k5 ?_; (case k1 => exact PySem.IsL.isList (News.get (by k_asm) (by k_mem))); (case k2 => with_reducible assumption); (case k3 => exact PySem.IsL.isList (News.get (by k_asm) (by k_mem))); (case k4 => with_reducible assumption); (case k5 => ktr_units); k_whole); (try simp only [decide_true, Bool.not_true]))) | ((fail_if_success (with_reducible (first | show wpAny _ _ (exec (Stmt.While _ _ _ _) _) _ _ _ | show wpAny _ _ (call (Value.ref _) _) _ _ _ | show wpAny _ _ (exec (Stmt.For _ _ _ _ _) _) _ _ _ | show wpAny _ _ (eval (Expr.ListComp _ _ _ _) _) _ _ _ | show LCt.CompSrcT _ _ _ _ _ _ _ _ _ _ _ _ _ _ _ | show TurnQ _ _ _ _ _ _ _ _ | show wpAny _ _ (compareOp CmpOp.NotIn _ _) _ _ _ | show KswEnd _ _ _ _ _ _ _ _ _ _ _ _ | show LeaveS _ _ _ _ _ _ _ _ _ _ _ _ _ _ _ _ _ _))); first | walk1 | (dsimp only; walk1))))
  rename News _ _ _ _ => N6
  refine LCt.ListComp_T (F₀ := by k_asm) (by with_unfolding_all rfl) (by decide) (by rfl) (by decide) (by rfl) ?_
  (repeat' (first | (k_unfold; (try dsimp only)) | (((with_reducible show wpAny _ _ (compareOp CmpOp.NotEq (Value.ref _) (Value.ref _)) _ _ _); k_dflt (refine' ne_pair (News.get (by k_asm) ?ka) ?c1 ?d1 (News.get (by k_asm) ?kb) ?c2 ?d2 ?k1 ?k2 ?k3 ?k4 ?k5 ?k6 ?k7 ?k8 ?k9 ?_; (case ka => k_mem); (case c1 => exact rfl); (case d1 => with_reducible exact rfl); (case kb => k_mem); (case c2 => exact rfl); (case d2 => with_reducible exact rfl); (case k1 => exact PySem.IsL.isList (News.get (by k_asm) (by k_mem))); (case k2 => with_reducible assumption); (case k3 => exact PySem.IsL.isList (News.get (by k_asm) (by k_mem))); (case k4 => with_reducible assumption); (case k5 => exact PySem.IsL.isList (News.get (by k_asm) (by k_mem))); (case k6 => with_reducible assumption); (case k7 => exact PySem.IsL.isList (News.get (by k_asm) (by k_mem))); (case k8 => with_reducible assumption); (case k9 => ktr_units); k_whole))) | (((with_reducible show wpAny _ _ (compareOp CmpOp.NotEq (Value.ref _) (Value.ref _)) _ _ _); k_dflt (refine' ne_intsK ?k1 ?k2 ?k3 ?k4 ?k5 ?_; (case k1 => exact PySem.IsL.isList (News.get (by k_asm) (by k_mem))); (case k2 => with_reducible assumption); (case k3 => exact PySem.IsL.isList (News.get (by k_asm) (by k_mem))); (case k4 => with_reducible assumption); (case k5 => ktr_units); k_whole); (try simp only [decide_true, Bool.not_true]))) | ((fail_if_success (with_reducible (first | show wpAny _ _ (exec (Stmt.While _ _ _ _) _) _ _ _ | show wpAny _ _ (call (Value.ref _) _) _ _ _ | show wpAny _ _ (exec (Stmt.For _ _ _ _ _) _) _ _ _ | show wpAny _ _ (eval (Expr.ListComp _ _ _ _) _) _ _ _ | show LCt.CompSrcT _ _ _ _ _ _ _ _ _ _ _ _ _ _ _ | show TurnQ _ _ _ _ _ _ _ _ | show wpAny _ _ (compareOp CmpOp.NotIn _ _) _ _ _ | show KswEnd _ _ _ _ _ _ _ _ _ _ _ _ | show LeaveS _ _ _ _ _ _ _ _ _ _ _ _ _ _ _ _ _ _))); first | walk1 | (dsimp only; walk1))))
  refine LCt.CompSrcT.ledger rfl (by k_asm) (by k_asm) (by k_mem) (small_fits hx (by omega)) fun gg => ?_
  refine comp_indT (fun i zs => IntsAre zs ((xs.take i).filter (fun z => !decide (z ∈ ys)))) (.inr ⟨_, by k_mem, rfl, _, rfl⟩) vs.toArray.size ?fin ?turn _ 0 [] (Nat.zero_add _) .nil
  case turn =>
    intro i zs v I oI C oC D m2 hh tkk E' hi hY hv hC hm hF hN off ne
    obtain ⟨tv, rfl, hi2⟩ := ints_get hx hv
    (repeat' (first | (k_unfold; (try dsimp only)) | (((with_reducible show wpAny _ _ (compareOp CmpOp.NotEq (Value.ref _) (Value.ref _)) _ _ _); k_dflt (refine' ne_pair (News.get (by k_asm) ?ka) ?c1 ?d1 (News.get (by k_asm) ?kb) ?c2 ?d2 ?k1 ?k2 ?k3 ?k4 ?k5 ?k6 ?k7 ?k8 ?k9 ?_; (case ka => k_mem); (case c1 => exact rfl); (case d1 => with_reducible exact rfl); (case kb => k_mem); (case c2 => exact rfl); (case d2 => with_reducible exact rfl); (case k1 => exact PySem.IsL.isList (News.get (by k_asm) (by k_mem))); (case k2 => with_reducible assumption); (case k3 => exact PySem.IsL.isList (News.get (by k_asm) (by k_mem))); (case k4 => with_reducible assumption); (case k5 => exact PySem.IsL.isList (News.get (by k_asm) (by k_mem))); (case k6 => with_reducible assumption); (case k7 => exact PySem.IsL.isList (News.get (by k_asm) (by k_mem))); (case k8 => with_reducible assumption); (case k9 => ktr_units); k_whole))) | (((with_reducible show wpAny _ _ (compareOp CmpOp.NotEq (Value.ref _) (Value.ref _)) _ _ _); k_dflt (refine' ne_intsK ?k1 ?k2 ?k3 ?k4 ?k5 ?_; (case k1 => exact PySem.IsL.isList (News.get (by k_asm) (by k_mem))); (case k2 => with_reducible assumption); (case k3 => exact PySem.IsL.isList (News.get (by k_asm) (by k_mem))); (case k4 => with_reducible assumption); (case k5 => ktr_units); k_whole); (try simp only [decide_true, Bool.not_true]))) | ((fail_if_success (with_reducible (first | show wpAny _ _ (exec (Stmt.While _ _ _ _) _) _ _ _ | show wpAny _ _ (call (Value.ref _) _) _ _ _ | show wpAny _ _ (exec (Stmt.For _ _ _ _ _) _) _ _ _ | show wpAny _ _ (eval (Expr.ListComp _ _ _ _) _) _ _ _ | show LCt.CompSrcT _ _ _ _ _ _ _ _ _ _ _ _ _ _ _ | show TurnQ _ _ _ _ _ _ _ _ | show wpAny _ _ (compareOp CmpOp.NotIn _ _) _ _ _ | show KswEnd _ _ _ _ _ _ _ _ _ _ _ _ | show LeaveS _ _ _ _ _ _ _ _ _ _ _ _ _ _ _ _ _ _))); first | walk1 | (dsimp only; walk1))))
    refine notin_ints (PySem.IsL.isList (News.get hN (by k_mem))) hy (by ktr_units) ?_
    (repeat' (first | (k_unfold; (try dsimp only)) | (((with_reducible show wpAny _ _ (compareOp CmpOp.NotEq (Value.ref _) (Value.ref _)) _ _ _); k_dflt (refine' ne_pair (News.get (by k_asm) ?ka) ?c1 ?d1 (News.get (by k_asm) ?kb) ?c2 ?d2 ?k1 ?k2 ?k3 ?k4 ?k5 ?k6 ?k7 ?k8 ?k9 ?_; (case ka => k_mem); (case c1 => exact rfl); (case d1 => with_reducible exact rfl); (case kb => k_mem); (case c2 => exact rfl); (case d2 => with_reducible exact rfl); (case k1 => exact PySem.IsL.isList (News.get (by k_asm) (by k_mem))); (case k2 => with_reducible assumption); (case k3 => exact PySem.IsL.isList (News.get (by k_asm) (by k_mem))); (case k4 => with_reducible assumption); (case k5 => exact PySem.IsL.isList (News.get (by k_asm) (by k_mem))); (case k6 => with_reducible assumption); (case k7 => exact PySem.IsL.isList (News.get (by k_asm) (by k_mem))); (case k8 => with_reducible assumption); (case k9 => ktr_units); k_whole))) | (((with_reducible show wpAny _ _ (compareOp CmpOp.NotEq (Value.ref _) (Value.ref _)) _ _ _); k_dflt (refine' ne_intsK ?k1 ?k2 ?k3 ?k4 ?k5 ?_; (case k1 => exact PySem.IsL.isList (News.get (by k_asm) (by k_mem))); (case k2 => with_reducible assumption); (case k3 => exact PySem.IsL.isList (News.get (by k_asm) (by k_mem))); (case k4 => with_reducible assumption); (case k5 => ktr_units); k_whole); (try simp only [decide_true, Bool.not_true]))) | ((fail_if_success (with_reducible (first | show wpAny _ _ (exec (Stmt.While _ _ _ _) _) _ _ _ | show wpAny _ _ (call (Value.ref _) _) _ _ _ | show wpAny _ _ (exec (Stmt.For _ _ _ _ _) _) _ _ _ | show wpAny _ _ (eval (Expr.ListComp _ _ _ _) _) _ _ _ | show LCt.CompSrcT _ _ _ _ _ _ _ _ _ _ _ _ _ _ _ | show TurnQ _ _ _ _ _ _ _ _ | show wpAny _ _ (compareOp CmpOp.NotIn _ _) _ _ _ | show KswEnd _ _ _ _ _ _ _ _ _ _ _ _ | show LeaveS _ _ _ _ _ _ _ _ _ _ _ _ _ _ _ _ _ _))); first | walk1 | (dsimp only; walk1))))
    · exact turnQ hF hN (fun _ h => h) (by rw [take_filter hi2, if_neg (by simpa using ‹xs.getD i 0 ∈ ys›), List.append_nil]; exact hY)
    · exact turnQ hF hN (fun _ h => h) (by rw [take_filter hi2, if_pos (by simpa using ‹¬ xs.getD i 0 ∈ ys›)]; exact ints_app hY (.cons _ _ .nil))
  case fin =>
    intro zs hY D3 h3 tk3 F3 N3 o3
    rw [List.size_toArray, hx.length, List.take_length] at hY
    replace N3 := news_lst N3
    (repeat' (first | (k_unfold; (try dsimp only)) | (((with_reducible show wpAny _ _ (compareOp CmpOp.NotEq (Value.ref _) (Value.ref _)) _ _ _); k_dflt (refine' ne_pair (News.get (by k_asm) ?ka) ?c1 ?d1 (News.get (by k_asm) ?kb) ?c2 ?d2 ?k1 ?k2 ?k3 ?k4 ?k5 ?k6 ?k7 ?k8 ?k9 ?_; (case ka => k_mem); (case c1 => exact rfl); (case d1 => with_reducible exact rfl); (case kb => k_mem); (case c2 => exact rfl); (case d2 => with_reducible exact rfl); (case k1 => exact PySem.IsL.isList (News.get (by k_asm) (by k_mem))); (case k2 => with_reducible assumption); (case k3 => exact PySem.IsL.isList (News.get (by k_asm) (by k_mem))); (case k4 => with_reducible assumption); (case k5 => exact PySem.IsL.isList (News.get (by k_asm) (by k_mem))); (case k6 => with_reducible assumption); (case k7 => exact PySem.IsL.isList (News.get (by k_asm) (by k_mem))); (case k8 => with_reducible assumption); (case k9 => ktr_units); k_whole))) | (((with_reducible show wpAny _ _ (compareOp CmpOp.NotEq (Value.ref _) (Value.ref _)) _ _ _); k_dflt (refine' ne_intsK ?k1 ?k2 ?k3 ?k4 ?k5 ?_; (case k1 => exact PySem.IsL.isList (News.get (by k_asm) (by k_mem))); (case k2 => with_reducible assumption); (case k3 => exact PySem.IsL.isList (News.get (by k_asm) (by k_mem))); (case k4 => with_reducible assumption); (case k5 => ktr_units); k_whole); (try simp only [decide_true, Bool.not_true]))) | ((fail_if_success (with_reducible (first | show wpAny _ _ (exec (Stmt.While _ _ _ _) _) _ _ _ | show wpAny _ _ (call (Value.ref _) _) _ _ _ | show wpAny _ _ (exec (Stmt.For _ _ _ _ _) _) _ _ _ | show wpAny _ _ (eval (Expr.ListComp _ _ _ _) _) _ _ _ | show LCt.CompSrcT _ _ _ _ _ _ _ _ _ _ _ _ _ _ _ | show TurnQ _ _ _ _ _ _ _ _ | show wpAny _ _ (compareOp CmpOp.NotIn _ _) _ _ _ | show KswEnd _ _ _ _ _ _ _ _ _ _ _ _ | show LeaveS _ _ _ _ _ _ _ _ _ _ _ _ _ _ _ _ _ _))); first | walk1 | (dsimp only; walk1))))
    refine LCt.ListComp_T (F₀ := by k_asm) (by with_unfolding_all rfl) (by decide) (by rfl) (by decide) (by rfl) ?_
    (repeat' (first | (k_unfold; (try dsimp only)) | (((with_reducible show wpAny _ _ (compareOp CmpOp.NotEq (Value.ref _) (Value.ref _)) _ _ _); k_dflt (refine' ne_pair (News.get (by k_asm) ?ka) ?c1 ?d1 (News.get (by k_asm) ?kb) ?c2 ?d2 ?k1 ?k2 ?k3 ?k4 ?k5 ?k6 ?k7 ?k8 ?k9 ?_; (case ka => k_mem); (case c1 => exact rfl); (case d1 => with_reducible exact rfl); (case kb => k_mem); (case c2 => exact rfl); (case d2 => with_reducible exact rfl); (case k1 => exact PySem.IsL.isList (News.get (by k_asm) (by k_mem))); (case k2 => with_reducible assumption); (case k3 => exact PySem.IsL.isList (News.get (by k_asm) (by k_mem))); (case k4 => with_reducible assumption); (case k5 => exact PySem.IsL.isList (News.get (by k_asm) (by k_mem))); (case k6 => with_reducible assumption); (case k7 => exact PySem.IsL.isList (News.get (by k_asm) (by k_mem))); (case k8 => with_reducible assumption); (case k9 => ktr_units); k_whole))) | (((with_reducible show wpAny _ _ (compareOp CmpOp.NotEq (Value.ref _) (Value.ref _)) _ _ _); k_dflt (refine' ne_intsK ?k1 ?k2 ?k3 ?k4 ?k5 ?_; (case k1 => exact PySem.IsL.isList (News.get (by k_asm) (by k_mem))); (case k2 => with_reducible assumption); (case k3 => exact PySem.IsL.isList (News.get (by k_asm) (by k_mem))); (case k4 => with_reducible assumption); (case k5 => ktr_units); k_whole); (try simp only [decide_true, Bool.not_true]))) | ((fail_if_success (with_reducible (first | show wpAny _ _ (exec (Stmt.While _ _ _ _) _) _ _ _ | show wpAny _ _ (call (Value.ref _) _) _ _ _ | show wpAny _ _ (exec (Stmt.For _ _ _ _ _) _) _ _ _ | show wpAny _ _ (eval (Expr.ListComp _ _ _ _) _) _ _ _ | show LCt.CompSrcT _ _ _ _ _ _ _ _ _ _ _ _ _ _ _ | show TurnQ _ _ _ _ _ _ _ _ | show wpAny _ _ (compareOp CmpOp.NotIn _ _) _ _ _ | show KswEnd _ _ _ _ _ _ _ _ _ _ _ _ | show LeaveS _ _ _ _ _ _ _ _ _ _ _ _ _ _ _ _ _ _))); first | walk1 | (dsimp only; walk1))))
    refine LCt.CompSrcT.ledger rfl (by k_asm) (by k_asm) (by k_mem) (small_fits hy (by omega)) fun gg => ?_
    refine comp_indT (fun i zs => IntsAre zs ((ys.take i).filter (fun z => !decide (z ∈ xs)))) (.inr ⟨_, by k_mem, rfl, _, rfl⟩) ws.toArray.size ?fin ?turn _ 0 [] (Nat.zero_add _) .nil
    case turn =>
      intro i zs v I oI C oC D m2 hh tkk E' hi hY hv hC hm hF hN off ne
      obtain ⟨tv, rfl, hi2⟩ := ints_get hy hv
      (repeat' (first | (k_unfold; (try dsimp only)) | (((with_reducible show wpAny _ _ (compareOp CmpOp.NotEq (Value.ref _) (Value.ref _)) _ _ _); k_dflt (refine' ne_pair (News.get (by k_asm) ?ka) ?c1 ?d1 (News.get (by k_asm) ?kb) ?c2 ?d2 ?k1 ?k2 ?k3 ?k4 ?k5 ?k6 ?k7 ?k8 ?k9 ?_; (case ka => k_mem); (case c1 => exact rfl); (case d1 => with_reducible exact rfl); (case kb => k_mem); (case c2 => exact rfl); (case d2 => with_reducible exact rfl); (case k1 => exact PySem.IsL.isList (News.get (by k_asm) (by k_mem))); (case k2 => with_reducible assumption); (case k3 => exact PySem.IsL.isList (News.get (by k_asm) (by k_mem))); (case k4 => with_reducible assumption); (case k5 => exact PySem.IsL.isList (News.get (by k_asm) (by k_mem))); (case k6 => with_reducible assumption); (case k7 => exact PySem.IsL.isList (News.get (by k_asm) (by k_mem))); (case k8 => with_reducible assumption); (case k9 => ktr_units); k_whole))) | (((with_reducible show wpAny _ _ (compareOp CmpOp.NotEq (Value.ref _) (Value.ref _)) _ _ _); k_dflt (refine' ne_intsK ?k1 ?k2 ?k3 ?k4 ?k5 ?_; (case k1 => exact PySem.IsL.isList (News.get (by k_asm) (by k_mem))); (case k2 => with_reducible assumption); (case k3 => exact PySem.IsL.isList (News.get (by k_asm) (by k_mem))); (case k4 => with_reducible assumption); (case k5 => ktr_units); k_whole); (try simp only [decide_true, Bool.not_true]))) | ((fail_if_success (with_reducible (first | show wpAny _ _ (exec (Stmt.While _ _ _ _) _) _ _ _ | show wpAny _ _ (call (Value.ref _) _) _ _ _ | show wpAny _ _ (exec (Stmt.For _ _ _ _ _) _) _ _ _ | show wpAny _ _ (eval (Expr.ListComp _ _ _ _) _) _ _ _ | show LCt.CompSrcT _ _ _ _ _ _ _ _ _ _ _ _ _ _ _ | show TurnQ _ _ _ _ _ _ _ _ | show wpAny _ _ (compareOp CmpOp.NotIn _ _) _ _ _ | show KswEnd _ _ _ _ _ _ _ _ _ _ _ _ | show LeaveS _ _ _ _ _ _ _ _ _ _ _ _ _ _ _ _ _ _))); first | walk1 | (dsimp only; walk1))))
      refine notin_ints (PySem.IsL.isList (News.get hN (by k_mem))) hx (by ktr_units) ?_
      (repeat' (first | (k_unfold; (try dsimp only)) | (((with_reducible show wpAny _ _ (compareOp CmpOp.NotEq (Value.ref _) (Value.ref _)) _ _ _); k_dflt (refine' ne_pair (News.get (by k_asm) ?ka) ?c1 ?d1 (News.get (by k_asm) ?kb) ?c2 ?d2 ?k1 ?k2 ?k3 ?k4 ?k5 ?k6 ?k7 ?k8 ?k9 ?_; (case ka => k_mem); (case c1 => exact rfl); (case d1 => with_reducible exact rfl); (case kb => k_mem); (case c2 => exact rfl); (case d2 => with_reducible exact rfl); (case k1 => exact PySem.IsL.isList (News.get (by k_asm) (by k_mem))); (case k2 => with_reducible assumption); (case k3 => exact PySem.IsL.isList (News.get (by k_asm) (by k_mem))); (case k4 => with_reducible assumption); (case k5 => exact PySem.IsL.isList (News.get (by k_asm) (by k_mem))); (case k6 => with_reducible assumption); (case k7 => exact PySem.IsL.isList (News.get (by k_asm) (by k_mem))); (case k8 => with_reducible assumption); (case k9 => ktr_units); k_whole))) | (((with_reducible show wpAny _ _ (compareOp CmpOp.NotEq (Value.ref _) (Value.ref _)) _ _ _); k_dflt (refine' ne_intsK ?k1 ?k2 ?k3 ?k4 ?k5 ?_; (case k1 => exact PySem.IsL.isList (News.get (by k_asm) (by k_mem))); (case k2 => with_reducible assumption); (case k3 => exact PySem.IsL.isList (News.get (by k_asm) (by k_mem))); (case k4 => with_reducible assumption); (case k5 => ktr_units); k_whole); (try simp only [decide_true, Bool.not_true]))) | ((fail_if_success (with_reducible (first | show wpAny _ _ (exec (Stmt.While _ _ _ _) _) _ _ _ | show wpAny _ _ (call (Value.ref _) _) _ _ _ | show wpAny _ _ (exec (Stmt.For _ _ _ _ _) _) _ _ _ | show wpAny _ _ (eval (Expr.ListComp _ _ _ _) _) _ _ _ | show LCt.CompSrcT _ _ _ _ _ _ _ _ _ _ _ _ _ _ _ | show TurnQ _ _ _ _ _ _ _ _ | show wpAny _ _ (compareOp CmpOp.NotIn _ _) _ _ _ | show KswEnd _ _ _ _ _ _ _ _ _ _ _ _ | show LeaveS _ _ _ _ _ _ _ _ _ _ _ _ _ _ _ _ _ _))); first | walk1 | (dsimp only; walk1))))
      · exact turnQ hF hN (fun _ h => h) (by rw [take_filter hi2, if_neg (by simpa using ‹ys.getD i 0 ∈ xs›), List.append_nil]; exact hY)
      · exact turnQ hF hN (fun _ h => h) (by rw [take_filter hi2, if_pos (by simpa using ‹¬ ys.getD i 0 ∈ xs›)]; exact ints_app hY (.cons _ _ .nil))
    case fin =>
      intro zs2 hY2 D4 h4 tk4 F4 N4 o4
      rw [List.size_toArray, hy.length, List.take_length] at hY2
      replace N4 := news_lst N4
      iterate 3 (((first | (k_unfold; (try dsimp only)) | (((with_reducible show wpAny _ _ (compareOp CmpOp.NotEq (Value.ref _) (Value.ref _)) _ _ _); k_dflt (refine' ne_pair (News.get (by k_asm) ?ka) ?c1 ?d1 (News.get (by k_asm) ?kb) ?c2 ?d2 ?k1 ?k2 ?k3 ?k4 ?k5 ?k6 ?k7 ?k8 ?k9 ?_; (case ka => k_mem); (case c1 => exact rfl); (case d1 => with_reducible exact rfl); (case kb => k_mem); (case c2 => exact rfl); (case d2 => with_reducible exact rfl); (case k1 => exact PySem.IsL.isList (News.get (by k_asm) (by k_mem))); (case k2 => with_reducible assumption); (case k3 => exact PySem.IsL.isList (News.get (by k_asm) (by k_mem))); (case k4 => with_reducible assumption); (case k5 => exact PySem.IsL.isList (News.get (by k_asm) (by k_mem))); (case k6 => with_reducible assumption); (case k7 => exact PySem.IsL.isList (News.get (by k_asm) (by k_mem))); (case k8 => with_reducible assumption); (case k9 => ktr_units); k_whole))) | (((with_reducible show wpAny _ _ (compareOp CmpOp.NotEq (Value.ref _) (Value.ref _)) _ _ _); k_dflt (refine' ne_intsK ?k1 ?k2 ?k3 ?k4 ?k5 ?_; (case k1 => exact PySem.IsL.isList (News.get (by k_asm) (by k_mem))); (case k2 => with_reducible assumption); (case k3 => exact PySem.IsL.isList (News.get (by k_asm) (by k_mem))); (case k4 => with_reducible assumption); (case k5 => ktr_units); k_whole); (try simp only [decide_true, Bool.not_true]))) | ((fail_if_success (with_reducible (first | show wpAny _ _ (exec (Stmt.While _ _ _ _) _) _ _ _ | show wpAny _ _ (call (Value.ref _) _) _ _ _ | show wpAny _ _ (exec (Stmt.For _ _ _ _ _) _) _ _ _ | show wpAny _ _ (eval (Expr.ListComp _ _ _ _) _) _ _ _ | show LCt.CompSrcT _ _ _ _ _ _ _ _ _ _ _ _ _ _ _ | show TurnQ _ _ _ _ _ _ _ _ | show wpAny _ _ (compareOp CmpOp.NotIn _ _) _ _ _ | show KswEnd _ _ _ _ _ _ _ _ _ _ _ _ | show LeaveS _ _ _ _ _ _ _ _ _ _ _ _ _ _ _ _ _ _))); first | walk1 | (dsimp only; walk1)))))
      rw [merge_filter xs ys sx sy]
      simp only [decide_true, Bool.and_true, Bool.not_true]
      (repeat' (first | (k_unfold; (try dsimp only)) | (((with_reducible show wpAny _ _ (compareOp CmpOp.NotEq (Value.ref _) (Value.ref _)) _ _ _); k_dflt (refine' ne_pair (News.get (by k_asm) ?ka) ?c1 ?d1 (News.get (by k_asm) ?kb) ?c2 ?d2 ?k1 ?k2 ?k3 ?k4 ?k5 ?k6 ?k7 ?k8 ?k9 ?_; (case ka => k_mem); (case c1 => exact rfl); (case d1 => with_reducible exact rfl); (case kb => k_mem); (case c2 => exact rfl); (case d2 => with_reducible exact rfl); (case k1 => exact PySem.IsL.isList (News.get (by k_asm) (by k_mem))); (case k2 => with_reducible assumption); (case k3 => exact PySem.IsL.isList (News.get (by k_asm) (by k_mem))); (case k4 => with_reducible assumption); (case k5 => exact PySem.IsL.isList (News.get (by k_asm) (by k_mem))); (case k6 => with_reducible assumption); (case k7 => exact PySem.IsL.isList (News.get (by k_asm) (by k_mem))); (case k8 => with_reducible assumption); (case k9 => ktr_units); k_whole))) | (((with_reducible show wpAny _ _ (compareOp CmpOp.NotEq (Value.ref _) (Value.ref _)) _ _ _); k_dflt (refine' ne_intsK ?k1 ?k2 ?k3 ?k4 ?k5 ?_; (case k1 => exact PySem.IsL.isList (News.get (by k_asm) (by k_mem))); (case k2 => with_reducible assumption); (case k3 => exact PySem.IsL.isList (News.get (by k_asm) (by k_mem))); (case k4 => with_reducible assumption); (case k5 => ktr_units); k_whole); (try simp only [decide_true, Bool.not_true]))) | ((fail_if_success (with_reducible (first | show wpAny _ _ (exec (Stmt.While _ _ _ _) _) _ _ _ | show wpAny _ _ (call (Value.ref _) _) _ _ _ | show wpAny _ _ (exec (Stmt.For _ _ _ _ _) _) _ _ _ | show wpAny _ _ (eval (Expr.ListComp _ _ _ _) _) _ _ _ | show LCt.CompSrcT _ _ _ _ _ _ _ _ _ _ _ _ _ _ _ | show TurnQ _ _ _ _ _ _ _ _ | show wpAny _ _ (compareOp CmpOp.NotIn _ _) _ _ _ | show KswEnd _ _ _ _ _ _ _ _ _ _ _ _ | show LeaveS _ _ _ _ _ _ _ _ _ _ _ _ _ _ _ _ _ _))); first | walk1 | (dsimp only; walk1))))
      dsimp only
      try k_unfold
      refine leaveS_r (by k_asm) (by k_asm) U2 ?_
      intro h₀' z1 z2 z3 z4 z5 z6 z7
      exact hret h₀' lm ms cm _ _ z1 z2 (List.forall_mem_cons.mpr ⟨z3 _ (by k_mem), List.forall_mem_cons.mpr ⟨z3 _ (by k_mem), List.forall_mem_cons.mpr ⟨z3 _ (by k_mem), fun p hp => z3 p (by repeat (first | exact hp | apply List.mem_cons_of_mem))⟩⟩⟩) ⟨y3, y4, y5.2.2.2.2.2.2⟩ im z4 z5 z6 z7
end
end
section
set_option Elab.async false
set_option maxRecDepth 100000
set_option maxHeartbeats 8000000
noncomputable def hfyLoop : Nat → List Nat → List Nat
  | 0, h => h
  | k + 1, h => hfyLoop k (suF h k)
noncomputable def hfyF (h : List Nat) : List Nat := hfyLoop (h.length / 2) h

theorem sdLoop_ok {n : Nat} : ∀ (f : Nat) (h : List Nat) (x sp p : Nat), (∀ r ∈ h, r < n) → p < h.length → (sdLoop f h x sp p).1.length = h.length ∧ (∀ r ∈ (sdLoop f h x sp p).1, r < n)
  | 0, h, x, sp, p, hh, hp => ⟨rfl, hh⟩
  | f + 1, h, x, sp, p, hh, hp => by
    by_cases h1 : sp < p
    · by_cases h2 : x < h.getD ((p - 1) / 2) 0
      · rw [sd_step h1 h2]
        have := sdLoop_ok f (h.set p (h.getD ((p - 1) / 2) 0)) x sp ((p - 1) / 2) (set_lt hh (getD_lt hh (by omega))) (by rw [List.length_set]; omega)
        rw [List.length_set] at this
        exact this
      · rw [sd_brk h2]; exact ⟨rfl, hh⟩
    · rw [sd_stop h1]; exact ⟨rfl, hh⟩
theorem sdF_ok {n : Nat} {h : List Nat} {sp p : Nat} (hh : ∀ r ∈ h, r < n) (hp : p < h.length) : (sdF h sp p).length = h.length ∧ (∀ r ∈ sdF h sp p, r < n) := by
  have := sdLoop_ok p h (h.getD p 0) sp p hh hp
  exact ⟨by unfold sdF; rw [List.length_set]; exact this.1, set_lt this.2 (getD_lt hh hp)⟩
theorem suLoop_ok {n : Nat} : ∀ (f : Nat) (h : List Nat) (p : Nat), (∀ r ∈ h, r < n) → p < h.length → (suLoop f h p).1.length = h.length ∧ (∀ r ∈ (suLoop f h p).1, r < n) ∧ (suLoop f h p).2 < h.length
  | 0, h, p, hh, hp => ⟨rfl, hh, hp⟩
  | f + 1, h, p, hh, hp => by
    by_cases h1 : 2 * p + 1 < h.length
    · rw [su_next rfl h1 rfl]
      have hk : suPick h (2 * p + 1) < h.length := by unfold suPick; split <;> omega
      have := suLoop_ok f (h.set p (h.getD (suPick h (2 * p + 1)) 0)) (suPick h (2 * p + 1)) (set_lt hh (getD_lt hh hk)) (by rw [List.length_set]; exact hk)
      rw [List.length_set] at this
      exact this
    · rw [su_stop h1]; exact ⟨rfl, hh, hp⟩
theorem suF_ok {n : Nat} {h : List Nat} {p : Nat} (hh : ∀ r ∈ h, r < n) (hp : p < h.length) : (suF h p).length = h.length ∧ (∀ r ∈ suF h p, r < n) := by
  obtain ⟨a, b, c⟩ := suLoop_ok h.length h p hh hp
  have := sdF_ok (n := n) (h := (suLoop h.length h p).1.set (suLoop h.length h p).2 (h.getD p 0)) (sp := p) (p := (suLoop h.length h p).2) (set_lt b (getD_lt hh hp)) (by rw [List.length_set, a]; exact c)
  rw [List.length_set, a] at this
  exact this
theorem F_sub_ri_reversed : isSubtype (.type "range_iterator") (.type "reversed") = pure false := by rw [isSubtype_type]; kernel_rfl
theorem as_int (n : Int) (t : Tok) : asInt? (.int n t) = pure (some n) := rfl
noncomputable def rgIt (x left step : Int) : Obj := { cls := .type "range_iterator", dict := none, data := .fields #[rawInt x, rawInt left, rawInt step], slots := #[] }
section
variable {prog : Program} {w : World} {A : Around} {E : Value → Shared → Prop} {s : Shared}
theorem size_small {n : Nat} (hn : n < 100000) : Builtin.Range.rangeSize 0 (n : Int) 1 = (n : Int) := by
  rw [rangeSize_nat]; omega
theorem call_range_reversed {r : Addr} {n : Nat} {t u v : Tok} {Q : Value → Shared → Prop} (hr : IsRange s.heap r 0 (n : Int) 1 t u v) (hn : n < 100000)
    (h : Q (.ref s.heap.objs.size) { s with heap := s.heap.push (rgIt ((n : Int) - 1) n (-1)) }) : wpAny (model prog w) A (call (.builtin "range.__reversed__") [.ref r]) Q E s := by
  have hT : s.TypeIs (.ref r) "range" := ⟨_, hr, rfl⟩
  refine wpAny_call_entry F.slot_range_reversed hT F.entry_range_reversed ?_ (F.args_range_reversed_1 _)
  unfold Builtin.«range.__reversed__»
  refine wpAny_bind (wpAny_of_eq (a := Value.ref r) rfl ?_)
  have hs := size_small hn
  unfold Builtin.Range.rangeFields
  refine wpAny_bind ?_
  refine wpAny_bind (wpAny_field hr rfl (x := .int 0 t) rfl ?_)
  rw [as_int]; refine wpAny_bind (wpAny_pure ?_)
  refine wpAny_bind (wpAny_field hr rfl (x := .int (n : Int) u) rfl ?_)
  rw [as_int]; refine wpAny_bind (wpAny_pure ?_)
  refine wpAny_bind (wpAny_field hr rfl (x := .int 1 v) rfl ?_)
  simp only [as_int, pure_bind]
  refine wpAny_pure ?_
  dsimp only
  rw [hs]
  have e1 : (Builtin.Range.rangeFitsLong 0 && Builtin.Range.rangeFitsLong (n : Int) && Builtin.Range.rangeFitsLong 1 && Builtin.Range.rangeFitsLong (-1) && Builtin.Range.rangeFitsLong (0 - 1) && Builtin.Range.rangeFitsLong (n : Int)) = true := by
    simp only [Builtin.Range.rangeFitsLong, Bool.and_eq_true, decide_eq_true_eq]
    omega
  rw [e1]
  simp only [Bool.not_true, Bool.false_eq_true, if_false, if_true]
  refine wpAny_bind ?_
  unfold newFields
  refine wpAny_newObj_type ?_
  refine wpAny_pure ⟨_, rfl, ?_⟩
  have e2 : (0 : Int) + ((n : Int) - 1) * 1 = (n : Int) - 1 := by omega
  rw [e2]
  exact h
theorem code_reversed_rg {r : Addr} {n : Nat} {t u v : Tok} {Q₁ : Value → Shared → Prop} (hr : IsRange s.heap r 0 (n : Int) 1 t u v) (hn : n < 100000)
    (h : Q₁ (.ref s.heap.objs.size) { s with heap := s.heap.push (rgIt ((n : Int) - 1) n (-1)) }) :
    codeAny (model prog w) A (.call (.builtin "reversed.__new__") ⟨[.type "reversed", .ref r], []⟩) (wants Q₁ E) s := by
  have hT : s.TypeIs (.ref r) "range" := ⟨_, hr, rfl⟩
  refine codeAny_of_tree ?_
  show wpAny _ A.in1 (do checkBuiltinCall "reversed.__new__" ⟨[.type "reversed", .ref r], []⟩; again (.builtin "reversed.__new__" ⟨[.type "reversed", .ref r], []⟩)) _ _ s
  refine wpAny_bind (wpAny_of_eq (F.newCall_reversed_1 _) (wpAny_pure ⟨plainId_quiet F.plain_reversed_new _, codeAny_builtin F.entry_reversed_new ?_⟩))
  rw [Around.under_plainId F.plain_reversed_new _]
  unfold Builtin.«reversed.__new__»
  refine wpAny_bind (wpAny_of_eq (newClass_reversed _) ?_)
  try dsimp only
  refine wpAny_bind (wpAny_of_eq (a := ()) (by first | rfl | kernel_rfl) ?_)
  refine wpAny_bind (wpAny_of_eq (a := ()) (by first | rfl | kernel_rfl) ?_)
  try dsimp only
  refine wpAny_bind (wpAny_specialOf hT F.slot_range_reversed.lookup ?_)
  try dsimp only
  refine wpAny_bind (wpAny_of_eq (F.slot_range_reversed.bind _) ?_)
  try dsimp only
  first
  | rw [if_neg (show ¬ ((Value.builtin "range.__reversed__" == Value.none) = true) from Bool.false_ne_true)]
  | (show wpAny _ _ (if (Value.builtin "range.__reversed__" == Value.none) = true then _ else _) _ _ _; rw [if_neg (show ¬ ((Value.builtin "range.__reversed__" == Value.none) = true) from Bool.false_ne_true)])
  refine wpAny_bind (wpAny_rule ?_)
  refine wpAny_bind (m := runValue (.call (.builtin "range.__reversed__") ⟨[.ref r], []⟩)) (show wpAny _ _ (call (.builtin "range.__reversed__") [.ref r]) _ _ _ from call_range_reversed hr hn ?_)
  first
  | exact wpAny_pure h
  | exact wpAny_bind (wpAny_pure (wpAny_pure h))
theorem call_reversed_rg {r : Addr} {n : Nat} {t u v : Tok} {Q : Value → Shared → Prop} (hr : IsRange s.heap r 0 (n : Int) 1 t u v) (hn : n < 100000)
    (h : Q (.ref s.heap.objs.size) { s with heap := s.heap.push (rgIt ((n : Int) - 1) n (-1)) }) : wpAny (model prog w) A (call (.type "reversed") [.ref r]) Q E s := by
  refine callType_other (U := "range_iterator") (Q₁ := fun obj s₁ => obj = .ref s.heap.objs.size ∧ s₁ = { s with heap := s.heap.push (rgIt ((n : Int) - 1) n (-1)) }) (by decide +kernel) F.create_reversed ⟨_, _, F.mro_reversed⟩ F.made_reversed F_sub_ri_reversed (F.typeCall_reversed_1 _) (code_reversed_rg hr hn ⟨rfl, rfl⟩) ?_
  rintro obj s₁ ⟨rfl, rfl⟩
  exact ⟨⟨_, Heap.get?_push_size _ rfl, rfl⟩, h⟩
end
section
variable {prog : Program} {w : World} {A : Around} {E : Value → Shared → Prop} {Q : Flow → Shared → Prop} {s : Shared} {env : Env} {h₀ : Heap}
/-- a for over a range iterator that stands by itself -/
theorem for_rgiter {σ : Type} {target : Expr} {body : List Stmt} {m₀ : Str → Option Value} {I : Addr} {x st : Int} {k : Nat}
    (C : Heap → Prop) (Led : σ → List (Addr × Obj)) (ps : σ → List (Str × Value)) (stored : List Str) (P : Nat → σ → Prop) (c₀ : σ) (hh : A.handled = none)
    (hit : IsRangeIter s.heap I x (k : Int) st) (hI0 : h₀.get? I = none) (hIL : I ≠ env.locals) (hCn : ∀ g, C g → ∀ b, h₀.get? b = none → g.get? b = none) (hoff : ∀ r ∈ Led c₀, r.1 ≠ I)
    (hC : C h₀) (F : Fr h₀ env.locals s.heap m₀) (N : News h₀ env.locals s.heap (Led c₀)) (hk : ∀ p ∈ ps c₀, m₀ p.1 = some p.2) (hp : P 0 c₀)
    (turn : ∀ (i : Nat) (t : Tok) (c : σ) (u : Str → Option Value) g h tk oI, i < k → P i c → C g → Fr g env.locals h (kstB (fun z => if stored.contains z then u z else m₀ z) (ps c)) → News g env.locals h ((I, oI) :: Led c) → (∀ r ∈ Led c, r.1 ≠ I) →
      wpAny (model prog w) A (letOwnedTupleGo target (.ref I) (.int (x + (i : Int) * st) t)) (fun _ s₁ => wpAny (model prog w) A (assign target env (.int (x + (i : Int) * st) t)) (fun _ s₂ => wpAny (model prog w) A (execs body env) (LpPost C env.locals s [(I, oI)] Led ps stored m₀ (P (i + 1)) Q) E s₂) E s₁) E { s with heap := h, toks := tk })
    (after : ∀ (c : σ) (u : Str → Option Value) g h tk, P k c → C g → Fr g env.locals h (kstB (fun z => if stored.contains z then u z else m₀ z) (ps c)) → News g env.locals h (Led c) → Q .next { s with heap := h, toks := tk })
    (hE : PassesOwn (model prog w) A env E := by passes_own) :
    wpAny (model prog w) A (pyIter (.ref I)) (fun it s₂ => codeAny (model prog w) A (.forLoop target it body [] env) (fun r s' => match r with | .ok f => Q f s' | .error e => cameBackBy (model prog w) A env E e s') s₂) E s := by
  refine wpAny_pyIter_rangeiter hit ?_
  refine for_any (W := Walks.range hh I x st k) C Led ps stored P c₀ [] (fun b hb => .inl (List.mem_singleton.mp hb)) (fun _ _ h => nomatch h) (fun i h st => ⟨_, st⟩) (fun g hg => hCn g hg _ hI0) hIL
    (by show IsRangeIter _ _ _ _ _; simpa using hit) hC F N hoff hk hp (fun i v c u g h tk oI hi hv hP hC' st F' N' off => ?_) (fun c u g h tk a b F' N' => ?_) hE
  · obtain ⟨t, rfl⟩ := hv
    exact turn i t c u g h tk oI hi hP hC' F' N' off
  · exact after c u g h tk a b F' N'
end
theorem Rk.mono {n : Nat} {ad : Nat → Addr} {pr : Nat → Int × Int} {t1 t2 : List (Addr × Obj)} (R : Rk n ad pr t1) (h : ∀ p ∈ t1, p ∈ t2) : Rk n ad pr t2 := ⟨fun r hr => let ⟨t, u, z⟩ := R.tup r hr; ⟨t, u, h _ z⟩, R.ord⟩
theorem news_sw {g h : Heap} {L : Addr} {p1 p2 : Addr × Obj} {r : List (Addr × Obj)} (N : News g L h (p1 :: p2 :: r)) : News g L h (p2 :: p1 :: r) := fun p hp => N p (by
  simp only [List.mem_cons] at hp ⊢
  rcases hp with h | h | h
  · exact .inr (.inl h)
  · exact .inl h
  · exact .inr (.inr h))
theorem half_len {n : Nat} : (n : Int).fdiv 2 = ((n / 2 : Nat) : Int) := by
  rw [Int.fdiv_eq_ediv_of_nonneg _ (by omega)]; omega
theorem down_nat {k i : Nat} (h : i < k) : (k : Int) - 1 + (i : Int) * (-1) = ((k - 1 - i : Nat) : Int) := by omega
section
variable {w : World} {mean : ExcName → Option Value} {mg mb : Str → Option Value}
    {dp un : Nat} {gd : Option (List Code)} {cn : Str} {cs : Scope} {a : Addr} {ccd : Value} {cl : List (Str × Addr)} {outer : List Env} {A₀ : Around} {base h₀ : Heap} {L : Addr} {m : Str → Option Value} {s : Shared} {Q E : Value → Shared → Prop}
    (B : Below A₀ base outer h₀) (F : Fr h₀ L s.heap m) (X : (Kf w.params).In h₀) (T : Top q (looseW q loose) mean mg mb h₀) (hk : cs.kind = .function)
include B F X T hk
theorem hfy_spec {l : Addr} {n : Nat} {ad : Nat → Addr} {pr : Nat → Int × Int} {rs : List Nat} {c : Nat} {tups : List (Addr × Obj)} (N : News h₀ L s.heap ((l, listOf (rs.map fun r => Value.ref (ad r)).toArray c) :: tups)) (hd : dp + 3 < recursionLimit) (hu : un + 24 < cLine)
    (hne : ∀ p ∈ tups, p.1 ≠ l) (R : Rk n ad pr tups) (hR : ∀ r ∈ rs, r < n) (h3 : (rs.length : Int) < 999)
    (hret : ∀ h' tk', Fr h₀ L h' m → News h₀ L h' ((l, listOf ((hfyF rs).map fun r => Value.ref (ad r)).toArray c) :: tups) → Q .none { s with heap := h', toks := tk' }) :
    wpAny (model PySem.Challenge.rw_op0130_01.prog w) (ktrTop dp un gd cn cs L a ccd cl outer) (call (.ref 86) [.ref l]) Q E s := by
  revert X; k_fill; intro X
  refine wpAny_call ?_
  k_dflt (refine' code_def (binds := [(Str.ofString "x", .ref l)]) ?k1 ?k2 ?k3 ?k4 ?k5 ?kA ?kF ?kK ?k6 ?k7 ?k8 ?k9 ?kB ?_ ?c2 ?c3 ?c4 ?c5; (((case kA => exact rfl); (case kF => exact rfl); (case kK => assumption); (case k1 => k_asm); (case k2 => k_asm); (case k3 => k_asm); (case k4 => k_asm); (case k5 => k_asm); (case k6 => k_is); (case k7 => k_is); (case k8 => ktr_room); (case k9 => exact BindsTo.of_eq rfl); (case c5 => decide); (case kB => exact locs rfl); (case c2 => exact rfl); (case c3 => exact rfl); (case c4 => exact rfl))); k_whole; intro g' L' h' FG' F' N' B' X' T'; (try dsimp only); (try k_fold))
  (repeat' (first | (k_unfold; (try dsimp only)) | (((with_reducible show wpAny _ _ (call (Value.builtin "len") [Value.ref _]) _ _ _); k_dflt (refine' rk_len ?k1 ?k2 ?k3 ?_; (case k1 => k_asm); (case k2 => k_mem); (case k3 => omega); k_whole); intro _ _)) | ((fail_if_success (with_reducible (first | show wpAny _ _ (exec (Stmt.While _ _ _ _) _) _ _ _ | show wpAny _ _ (call (Value.ref _) _) _ _ _ | show wpAny _ _ (call (Value.type "reversed") _) _ _ _ | show wpAny _ _ (exec (Stmt.For _ _ _ _ _) _) _ _ _ | show wpAny _ _ (pyIter _) _ _ _ | show LpEnd _ _ _ _ _ _ _ _ _ _))); first | walk1 | (dsimp only; walk1))))
  refine wpAny_For ?_
  (repeat' (first | (k_unfold; (try dsimp only)) | (((with_reducible show wpAny _ _ (call (Value.builtin "len") [Value.ref _]) _ _ _); k_dflt (refine' rk_len ?k1 ?k2 ?k3 ?_; (case k1 => k_asm); (case k2 => k_mem); (case k3 => omega); k_whole); intro _ _)) | ((fail_if_success (with_reducible (first | show wpAny _ _ (exec (Stmt.While _ _ _ _) _) _ _ _ | show wpAny _ _ (call (Value.ref _) _) _ _ _ | show wpAny _ _ (call (Value.type "reversed") _) _ _ _ | show wpAny _ _ (exec (Stmt.For _ _ _ _ _) _) _ _ _ | show wpAny _ _ (pyIter _) _ _ _ | show LpEnd _ _ _ _ _ _ _ _ _ _))); first | walk1 | (dsimp only; walk1))))
  rename IsRange _ _ _ _ _ _ _ _ => hr
  rw [half_len] at hr
  refine call_reversed_rg hr (by omega) ?_
  rename Fr _ _ _ _ => F2
  rename News _ _ _ _ => N2
  refine for_rgiter (σ := List Nat) (fun g => g' = g) (fun c' => (l, listOf (c'.map fun r => Value.ref (ad r)).toArray c) :: tups) (fun _ => []) [Str.ofString "i"]
    (fun i c' => c'.length = rs.length ∧ (∀ r ∈ c', r < n) ∧ i ≤ rs.length / 2 ∧ hfyLoop (rs.length / 2 - i) c' = hfyF rs) rs rfl (Heap.get?_push_size _ rfl) ?hI0 (Nat.ne_of_gt F2.ns.lt) (fun g hg b hb => by rw [← hg]; exact hb) (fun r hr => Nat.ne_of_lt (Heap.lt_size (N2 r hr).1)) rfl (F2.push _) (fun p hp => ⟨Heap.get?_push_of_some _ (N2 p hp).1, (N2 p hp).2⟩) (List.forall_mem_nil _) ⟨rfl, hR, by omega, by rw [Nat.sub_zero]; rfl⟩ ?turn ?after
  case hI0 =>
    cases e : g'.get? _ with
    | none => rfl
    | some o => exact absurd (Heap.lt_size (F2.keep _ _ e)) (Nat.lt_irrefl _)
  case turn =>
    rintro i t c' u g hh tk oI hi ⟨e1, e2, e3, e4⟩ hC F3 N3 off
    subst hC
    dsimp only [kstB] at F3 N3
    show wpAny _ _ (pure ()) _ _ _
    refine wpAny_pure ?_
    rw [down_nat hi]
    (repeat' (first | (k_unfold; (try dsimp only)) | (((with_reducible show wpAny _ _ (call (Value.builtin "len") [Value.ref _]) _ _ _); k_dflt (refine' rk_len ?k1 ?k2 ?k3 ?_; (case k1 => k_asm); (case k2 => k_mem); (case k3 => omega); k_whole); intro _ _)) | ((fail_if_success (with_reducible (first | show wpAny _ _ (exec (Stmt.While _ _ _ _) _) _ _ _ | show wpAny _ _ (call (Value.ref _) _) _ _ _ | show wpAny _ _ (call (Value.type "reversed") _) _ _ _ | show wpAny _ _ (exec (Stmt.For _ _ _ _ _) _) _ _ _ | show wpAny _ _ (pyIter _) _ _ _ | show LpEnd _ _ _ _ _ _ _ _ _ _))); first | walk1 | (dsimp only; walk1))))
    have hlen : rs.length / 2 ≤ rs.length := Nat.div_le_self _ _
    rename News _ _ _ _ => N4
    refine su_spec (tups := _ :: tups) B' (by k_asm) X' T' rfl (news_sw N4) (by ktr_room) (by ktr_units) (List.forall_mem_cons.mpr ⟨fun e => off _ List.mem_cons_self e.symm, hne⟩) (R.mono fun p hp => List.mem_cons_of_mem _ hp) e2 (by omega) (by omega) fun h4 tk4 F4 N4 => ?_
    (repeat' (first | (k_unfold; (try dsimp only)) | (((with_reducible show wpAny _ _ (call (Value.builtin "len") [Value.ref _]) _ _ _); k_dflt (refine' rk_len ?k1 ?k2 ?k3 ?_; (case k1 => k_asm); (case k2 => k_mem); (case k3 => omega); k_whole); intro _ _)) | ((fail_if_success (with_reducible (first | show wpAny _ _ (exec (Stmt.While _ _ _ _) _) _ _ _ | show wpAny _ _ (call (Value.ref _) _) _ _ _ | show wpAny _ _ (call (Value.type "reversed") _) _ _ _ | show wpAny _ _ (exec (Stmt.For _ _ _ _ _) _) _ _ _ | show wpAny _ _ (pyIter _) _ _ _ | show LpEnd _ _ _ _ _ _ _ _ _ _))); first | walk1 | (dsimp only; walk1))))
    refine lp_end (suF c' (rs.length / 2 - 1 - i)) rfl (by k_asm) (by k_asm) (List.forall_mem_cons.mpr ⟨.tail _ (.head _), List.forall_mem_nil _⟩) (fun p hp => ?_) (List.forall_mem_cons.mpr ⟨List.forall_mem_cons.mpr ⟨fun e => off _ List.mem_cons_self e, fun r hr => off r (List.mem_cons_of_mem _ hr)⟩, List.forall_mem_nil _⟩) (List.forall_mem_nil _) (by ksw_same) ⟨?_, ?_, by omega, ?_⟩
    · rcases List.mem_cons.mp hp with rfl | hp
      · exact .head _
      · exact .tail _ (.tail _ hp)
    · rw [(suF_ok e2 (by omega)).1]; exact e1
    · exact (suF_ok e2 (by omega)).2
    · rw [← e4, show rs.length / 2 - i = (rs.length / 2 - 1 - i) + 1 by omega, show rs.length / 2 - (i + 1) = rs.length / 2 - 1 - i by omega]
      rfl
  case after =>
    rintro c' u g hh tk ⟨e1, e2, e3, e4⟩ hC F3 N3
    subst hC
    dsimp only [kstB] at F3 N3
    rw [Nat.sub_self] at e4
    (repeat' (first | (k_unfold; (try dsimp only)) | (((with_reducible show wpAny _ _ (call (Value.builtin "len") [Value.ref _]) _ _ _); k_dflt (refine' rk_len ?k1 ?k2 ?k3 ?_; (case k1 => k_asm); (case k2 => k_mem); (case k3 => omega); k_whole); intro _ _)) | ((fail_if_success (with_reducible (first | show wpAny _ _ (exec (Stmt.While _ _ _ _) _) _ _ _ | show wpAny _ _ (call (Value.ref _) _) _ _ _ | show wpAny _ _ (call (Value.type "reversed") _) _ _ _ | show wpAny _ _ (exec (Stmt.For _ _ _ _ _) _) _ _ _ | show wpAny _ _ (pyIter _) _ _ _ | show LpEnd _ _ _ _ _ _ _ _ _ _))); first | walk1 | (dsimp only; walk1))))
    exact hret _ _ (by k_asm) (by rw [← e4]; k_asm)
end
end
section
set_option Elab.async false
set_option maxRecDepth 100000
set_option maxHeartbeats 8000000
theorem news_rot3 {g h : Heap} {L : Addr} {p1 p2 p3 : Addr × Obj} {r : List (Addr × Obj)} (N : News g L h (p1 :: p2 :: p3 :: r)) : News g L h (p3 :: p1 :: p2 :: r) := fun p hp => N p (by
  simp only [List.mem_cons] at hp ⊢
  rcases hp with h | h | h | h
  · exact .inr (.inr (.inl h))
  · exact .inl h
  · exact .inr (.inl h)
  · exact .inr (.inr (.inr h)))
theorem news_add {g h : Heap} {L : Addr} {p1 : Addr × Obj} {r : List (Addr × Obj)} (N : News g L h r) (h1 : p1 ∈ r) : News g L h (p1 :: r) := fun p hp => by
  rcases List.mem_cons.mp hp with rfl | hp
  · exact N _ h1
  · exact N _ hp
theorem news_sub {g h : Heap} {L : Addr} {l1 l2 : List (Addr × Obj)} (N : News g L h l1) (hs : ∀ p ∈ l2, p ∈ l1) : News g L h l2 := fun p hp => N p (hs p hp)
noncomputable def popF (h : List Nat) : List Nat := let rs := h.dropLast; if rs = [] then [] else suF (rs.set 0 (h.getD (h.length - 1) 0)) 0
noncomputable def topF (h : List Nat) : Nat := let rs := h.dropLast; if rs = [] then h.getD (h.length - 1) 0 else rs.getD 0 0
noncomputable def hpSt (n : Nat) : Nat → List Nat
  | 0 => hfyF (List.range n).reverse
  | k + 1 => popF (hpSt n k)
noncomputable def heapOk (n k : Nat) : Bool := decide ((hpSt n k).length = n - k) && (hpSt n k).all (· < n) && (decide (n ≤ k) || decide (topF (hpSt n k) = k))
theorem heap_all : ∀ n : Fin 12, ∀ k : Fin 12, k.val ≤ n.val → heapOk n.val k.val = true := by decide +kernel
theorem heap_ok {n k : Nat} (hn : n < 12) (hk : k ≤ n) : (hpSt n k).length = n - k ∧ (∀ r ∈ hpSt n k, r < n) ∧ (k < n → topF (hpSt n k) = k) := by
  have h := heap_all ⟨n, hn⟩ ⟨k, by omega⟩ hk
  unfold heapOk at h
  simp only [Bool.and_eq_true, decide_eq_true_eq, List.all_eq_true, Bool.or_eq_true] at h
  refine ⟨h.1.1, fun r hr => h.1.2 r hr, fun hk2 => ?_⟩
  rcases h.2 with h | h
  · omega
  · exact h

noncomputable def jnt (p : Int × Int) : List Int := rangeKs (p.2 + 1) (p.1 - (p.2 + 1)).toNat
noncomputable def choStep (pr : Nat → Int × Int) (st : List Int × List Int) (k : Nat) : List Int × List Int :=
  if (mergeF (jnt (pr k)) st.1).1 = jnt (pr k) then (jnt (pr k), st.2 ++ [(pr k).1 - 1]) else st
noncomputable def choSt (pr : Nat → Int × Int) : Nat → List Int × List Int
  | 0 => ([], [])
  | k + 1 => choStep pr (choSt pr k) k

theorem range_sorted (a : Int) (n : Nat) : (rangeKs a n).Pairwise (· < ·) := by
  unfold rangeKs
  rw [List.pairwise_map]
  exact List.Pairwise.imp (fun h => by omega) (List.pairwise_lt_range (n := n))
theorem jnt_ok {p : Int × Int} (h : 0 ≤ p.2 ∧ p.2 < p.1 ∧ p.1 ≤ 50) : (jnt p).Pairwise (· < ·) ∧ (jnt p).length < 100 := ⟨range_sorted _ _, by unfold jnt; rw [rangeKs_length]; omega⟩
theorem choSt_ok {pr : Nat → Int × Int} {n : Nat} (hP : ∀ r, r < n → 0 ≤ (pr r).2 ∧ (pr r).2 < (pr r).1 ∧ (pr r).1 ≤ 50) : ∀ k, k ≤ n → (choSt pr k).1.Pairwise (· < ·) ∧ (choSt pr k).1.length < 100 ∧ (choSt pr k).2.length ≤ k
  | 0, _ => ⟨.nil, (by decide : (0 : Nat) < 100), Nat.le_refl _⟩
  | k + 1, h => by
    have ih := choSt_ok hP k (by omega)
    show (choStep _ _ _).1.Pairwise _ ∧ (choStep _ _ _).1.length < 100 ∧ (choStep _ _ _).2.length ≤ _
    unfold choStep
    split
    · have := jnt_ok (hP k (by omega))
      exact ⟨this.1, this.2, by simp; omega⟩
    · exact ⟨ih.1, ih.2.1, by omega⟩
theorem cho_yes {pr : Nat → Int × Int} {k : Nat} (h : (mergeF (jnt (pr k)) (choSt pr k).1).1 = jnt (pr k)) : choSt pr (k + 1) = (jnt (pr k), (choSt pr k).2 ++ [(pr k).1 - 1]) := by
  show choStep _ _ _ = _; unfold choStep; rw [if_pos h]
theorem cho_no {pr : Nat → Int × Int} {k : Nat} (h : ¬ (mergeF (jnt (pr k)) (choSt pr k).1).1 = jnt (pr k)) : choSt pr (k + 1) = choSt pr k := by
  show choStep _ _ _ = _; unfold choStep; rw [if_neg h]
section
variable {w : World} {mean : ExcName → Option Value} {mg mb : Str → Option Value}
    {dp un : Nat} {gd : Option (List Code)} {cn : Str} {cs : Scope} {a : Addr} {ccd : Value} {cl : List (Str × Addr)} {outer : List Env} {A₀ : Around} {base h₀ : Heap} {L : Addr} {m : Str → Option Value} {s : Shared} {Q E : Value → Shared → Prop}
    (B : Below A₀ base outer h₀) (F : Fr h₀ L s.heap m) (X : (Kf w.params).In h₀) (T : Top q (looseW q loose) mean mg mb h₀) (hk : cs.kind = .function)
    (XB : (Kf w.params).In base) (TB : Top q (looseW q loose) mean mg mb base) (D : KtsDicts (outer.filterMap (·.frame)) h₀)
include B F X T hk XB TB D
theorem cho_spec {l : Addr} {n : Nat} {ad : Nat → Addr} {pr : Nat → Int × Int} {c : Nat} {tups : List (Addr × Obj)} (N : News h₀ L s.heap ((l, listOf ((List.range n).map fun r => Value.ref (ad r)).toArray c) :: tups)) (hd : dp + 4 < recursionLimit) (hu : un + 200 < cLine)
    (hn : n < 12) (R : Rk n ad pr tups) (hP : ∀ r, r < n → 0 ≤ (pr r).2 ∧ (pr r).2 < (pr r).1 ∧ (pr r).1 ≤ 50)
    (hret : ∀ h₀' lm ms cm h' tk', KtsTurn (outer.filterMap (·.frame)) h₀ h₀' → Fr h₀' L h' m → News h₀' L h' ((lm, listOf ms.toArray cm) :: (l, listOf ((List.range n).map fun r => Value.ref (ad r)).toArray c) :: tups) → (l < lm ∧ AllLt lm tups) → IntsAre ms (choSt pr n).2 →
      Below A₀ base outer h₀' → (Kf w.params).In h₀' → Top q (looseW q loose) mean mg mb h₀' → KtsDicts (outer.filterMap (·.frame)) h₀' → Q (.ref lm) { s with heap := h', toks := tk' }) :
    wpAny (model PySem.Challenge.rw_op0130_01.prog w) (ktrTop dp un gd cn cs L a ccd cl outer) (call (.ref 141) [.ref l]) Q E s := by
  revert X; k_fill; intro X
  refine wpAny_call ?_
  k_dflt (refine' callS_plain (g₀ := h₀) (binds := [(Str.ofString "stretches", .ref l)]) ?k1 ?k2 ?k3 ?k4 ?k5 XB TB D KtsTurn.refl ?kA ?kF ?kK ?k6 ?k7 ?k8 ?k9 ?kB ?_ ?c2 ?c3 ?c4 ?c5; (case kA => exact rfl); (case kF => exact rfl); (case kK => assumption); (case k1 => k_asm); (case k2 => k_asm); (case k3 => k_asm); (case k4 => k_asm); (case k5 => k_asm); (case k6 => k_is); (case k7 => k_is); (case k8 => ktr_room); (case k9 => exact BindsTo.of_eq rfl); (case c5 => decide); (case kB => exact locs rfl); (case c2 => exact rfl); (case c3 => exact rfl); (case c4 => exact rfl); k_whole; intro g' L' h' FG' F' N' B' X' T' D'; (try dsimp only); (try k_fold))
  (repeat' (first | (k_unfold; (try dsimp only)) | ((fail_if_success (with_reducible (first | show wpAny _ _ (exec (Stmt.While _ _ _ _) _) _ _ _ | show wpAny _ _ (call (Value.ref _) _) _ _ _ | show wpAny _ _ (subscriptTail _ (PySem.Expr.Slice none none (some _) _) _ _) _ _ _)));  (fail_if_success (with_reducible (first | show wpAny _ _ (truthy (Value.ref _)) _ _ _ | show wpAny _ _ (exec (Stmt.For _ _ _ _ _) _) _ _ _ | show LpEnd _ _ _ _ _ _ _ _ _ _ | show LeaveS _ _ _ _ _ _ _ _ _ _ _ _ _ _ _ _ _ _ | show wpAny _ _ (compareOp CmpOp.Eq _ _) _ _ _ | show wpAny _ _ (call (Value.builtin "list.append") _) _ _ _))); first | walk1 | (dsimp only; walk1))))
  refine krv_lit (zs := (List.range n).reverse.map fun r => Value.ref (ad r)) (by k_asm) (by k_asm) (PySem.IsL.isList (News.get (by k_asm) List.mem_cons_self)) (IsPart.int _ _) (by rw [List.map_reverse]) (fun lh h1 F1 N1 o1 => ?_) (by with_unfolding_all rfl) (by kmk_pure) (by rw [show sizeLine = 16777216 from rfl]; simp; omega)
  (repeat' (first | (k_unfold; (try dsimp only)) | ((fail_if_success (with_reducible (first | show wpAny _ _ (exec (Stmt.While _ _ _ _) _) _ _ _ | show wpAny _ _ (call (Value.ref _) _) _ _ _ | show wpAny _ _ (subscriptTail _ (PySem.Expr.Slice none none (some _) _) _ _) _ _ _)));  (fail_if_success (with_reducible (first | show wpAny _ _ (truthy (Value.ref _)) _ _ _ | show wpAny _ _ (exec (Stmt.For _ _ _ _ _) _) _ _ _ | show LpEnd _ _ _ _ _ _ _ _ _ _ | show LeaveS _ _ _ _ _ _ _ _ _ _ _ _ _ _ _ _ _ _ | show wpAny _ _ (compareOp CmpOp.Eq _ _) _ _ _ | show wpAny _ _ (call (Value.builtin "list.append") _) _ _ _))); first | walk1 | (dsimp only; walk1))))
  have hlr : (List.range n).reverse.length = n := by simp
  refine hfy_spec (n := n) (rs := (List.range n).reverse) B' (by k_asm) X' T' rfl (by k_asm) (by ktr_room) (by ktr_units) (List.forall_mem_cons.mpr ⟨Nat.ne_of_lt (o1 _ (.head _)), fun p hp => Nat.ne_of_lt (o1 p (.tail _ hp))⟩) (R.mono fun p hp => List.mem_cons_of_mem _ hp) (fun r hr => by simpa using hr) (by rw [hlr]; omega) fun h2 tk2 F2 N2 => ?_
  (repeat' (first | (k_unfold; (try dsimp only)) | ((fail_if_success (with_reducible (first | show wpAny _ _ (exec (Stmt.While _ _ _ _) _) _ _ _ | show wpAny _ _ (call (Value.ref _) _) _ _ _ | show wpAny _ _ (subscriptTail _ (PySem.Expr.Slice none none (some _) _) _ _) _ _ _)));  (fail_if_success (with_reducible (first | show wpAny _ _ (truthy (Value.ref _)) _ _ _ | show wpAny _ _ (exec (Stmt.For _ _ _ _ _) _) _ _ _ | show LpEnd _ _ _ _ _ _ _ _ _ _ | show LeaveS _ _ _ _ _ _ _ _ _ _ _ _ _ _ _ _ _ _ | show wpAny _ _ (compareOp CmpOp.Eq _ _) _ _ _ | show wpAny _ _ (call (Value.builtin "list.append") _) _ _ _))); first | walk1 | (dsimp only; walk1))))
  rename_i F3 N3
  rename_i lt0 _ q1 _ _ lc _ q2 _
  obtain ⟨q1a, q1b, q1c⟩ := q1
  obtain ⟨q2a, q2b, q2c, q2d⟩ := q2
  refine while_gen (σ := Nat × Addr × List Value × Nat × List Value × Nat × Nat)
    (fun g => KtsTurn ((envX cn cs L a ccd cl :: outer).filterMap (·.frame)) g' g ∧ Below (ktrTop dp un gd cn cs L a ccd cl outer) base (envX cn cs L a ccd cl :: outer) g ∧ (Kf w.params).In g ∧ Top q (looseW q loose) mean mg mb g ∧ KtsDicts ((envX cn cs L a ccd cl :: outer).filterMap (·.frame)) g)
    (fun c' => (lc, listOf c'.2.2.2.2.1.toArray c'.2.2.2.2.2.1) :: (c'.2.1, listOf c'.2.2.1.toArray c'.2.2.2.1) :: (lh, listOf ((hpSt n c'.1).map fun r => Value.ref (ad r)).toArray c'.2.2.2.2.2.2) :: (l, listOf ((List.range n).map fun r => Value.ref (ad r)).toArray c) :: tups)
    (fun c' => [(Str.ofString "taken", .ref c'.2.1)]) [Str.ofString "last", Str.ofString "first", Str.ofString "joints", Str.ofString "left"]
    (fun c' => c'.1 ≤ n ∧ IntsAre c'.2.2.1 (choSt pr c'.1).1 ∧ IntsAre c'.2.2.2.2.1 (choSt pr c'.1).2 ∧ lh < c'.2.1 ∧ l < c'.2.1 ∧ AllLt c'.2.1 tups ∧ c'.2.1 ≠ lc) (fun c' => n - c'.1) (0, lt0, [], 0, [], 0, 0)
    ⟨KtsTurn.refl, B', X', T', D'⟩ F3 N3 (List.forall_mem_cons.mpr ⟨rfl, List.forall_mem_nil _⟩) ⟨Nat.zero_le _, .nil, .nil, q1a, q1b, q1c, Nat.ne_of_lt q2a⟩ ?turn
  rintro ⟨k, lt, ts, ct, ms, cm, ch⟩ u g hh tk ⟨e1, e2, e3, e4, e5, e6, e7⟩ ⟨T4, B4, X4, P4, D4⟩ F4 N4
  dsimp only [kstB] at e1 e2 e3 e4 e5 e6 e7 F4 N4
  obtain ⟨z1, z2, z3⟩ := heap_ok hn e1
  (repeat' (first | (k_unfold; (try dsimp only)) | ((fail_if_success (with_reducible (first | show wpAny _ _ (exec (Stmt.While _ _ _ _) _) _ _ _ | show wpAny _ _ (call (Value.ref _) _) _ _ _ | show wpAny _ _ (subscriptTail _ (PySem.Expr.Slice none none (some _) _) _ _) _ _ _)));  (fail_if_success (with_reducible (first | show wpAny _ _ (truthy (Value.ref _)) _ _ _ | show wpAny _ _ (exec (Stmt.For _ _ _ _ _) _) _ _ _ | show LpEnd _ _ _ _ _ _ _ _ _ _ | show LeaveS _ _ _ _ _ _ _ _ _ _ _ _ _ _ _ _ _ _ | show wpAny _ _ (compareOp CmpOp.Eq _ _) _ _ _ | show wpAny _ _ (call (Value.builtin "list.append") _) _ _ _))); first | walk1 | (dsimp only; walk1))))
  refine wpAny_truthy_list (PySem.IsL.isList (News.get (by k_asm) (.tail _ (.tail _ (List.mem_cons_self))))) (by simp; omega) ?_
  by_cases hkn : k < n
  · have hne0 : hpSt n k ≠ [] := fun e => by rw [e] at z1; simp at z1; omega
    have hE : (List.map (fun r => Value.ref (ad r)) (hpSt n k)).toArray.isEmpty = false := by simpa using hne0
    rw [hE, Bool.not_false]
    obtain ⟨rs, x, hrx⟩ : ∃ rs x, hpSt n k = rs ++ [x] := ⟨_, _, (List.dropLast_concat_getLast hne0).symm⟩
    have hpop : popF (hpSt n k) = if rs = [] then [] else suF (rs.set 0 x) 0 := by rw [hrx]; simp [popF]
    have htop : (if rs = [] then x else rs.getD 0 0) = k := by have := z3 hkn; rw [hrx] at this; simpa [topF] using this
    have hlen : rs.length + 1 = n - k := by rw [hrx] at z1; simpa using z1
    rw [hrx] at z2 N4
    (repeat' (first | (k_unfold; (try dsimp only)) | ((fail_if_success (with_reducible (first | show wpAny _ _ (exec (Stmt.While _ _ _ _) _) _ _ _ | show wpAny _ _ (call (Value.ref _) _) _ _ _ | show wpAny _ _ (subscriptTail _ (PySem.Expr.Slice none none (some _) _) _ _) _ _ _)));  (fail_if_success (with_reducible (first | show wpAny _ _ (truthy (Value.ref _)) _ _ _ | show wpAny _ _ (exec (Stmt.For _ _ _ _ _) _) _ _ _ | show LpEnd _ _ _ _ _ _ _ _ _ _ | show LeaveS _ _ _ _ _ _ _ _ _ _ _ _ _ _ _ _ _ _ | show wpAny _ _ (compareOp CmpOp.Eq _ _) _ _ _ | show wpAny _ _ (call (Value.builtin "list.append") _) _ _ _))); first | walk1 | (dsimp only; walk1))))
    rename News _ _ _ _ => N5
    refine pop_spec (tups := (lc, _) :: (lt, _) :: (l, _) :: tups) B4 (by k_asm) X4 P4 rfl (news_rot3 N5) (by ktr_room) (by ktr_units) (List.forall_mem_cons.mpr ⟨Nat.ne_of_gt q2b, List.forall_mem_cons.mpr ⟨Nat.ne_of_gt e4, fun p hp => Nat.ne_of_lt (o1 p hp)⟩⟩) (R.mono fun p hp => .tail _ (.tail _ (.tail _ hp))) (fun r hr => z2 r (List.mem_append_left _ hr)) (z2 x (by simp)) (by omega) fun h6 tk6 F6 N6 => ?_
    rw [← hpop, show popF (hpSt n k) = hpSt n (k + 1) from rfl] at N6
    rw [htop]
    obtain ⟨t1, t2, hm1⟩ := R.tup k hkn
    replace N6 := news_add N6 (List.mem_cons_of_mem _ (List.mem_cons_of_mem _ (List.mem_cons_of_mem _ (List.mem_cons_of_mem _ hm1))))
    obtain ⟨b1, b2, b3⟩ := hP k hkn
    have hjl : jnt (pr k) = rangeKs ((pr k).2 + 1) ((pr k).1 - ((pr k).2 + 1)).toNat := rfl
    generalize hlst : (pr k).1 = last at *
    generalize hfst : (pr k).2 = first at *
    (repeat' (first | (k_unfold; (try dsimp only)) | ((fail_if_success (with_reducible (first | show wpAny _ _ (exec (Stmt.While _ _ _ _) _) _ _ _ | show wpAny _ _ (call (Value.ref _) _) _ _ _ | show wpAny _ _ (subscriptTail _ (PySem.Expr.Slice none none (some _) _) _ _) _ _ _)));  (fail_if_success (with_reducible (first | show wpAny _ _ (truthy (Value.ref _)) _ _ _ | show wpAny _ _ (exec (Stmt.For _ _ _ _ _) _) _ _ _ | show LpEnd _ _ _ _ _ _ _ _ _ _ | show LeaveS _ _ _ _ _ _ _ _ _ _ _ _ _ _ _ _ _ _ | show wpAny _ _ (compareOp CmpOp.Eq _ _) _ _ _ | show wpAny _ _ (call (Value.builtin "list.append") _) _ _ _))); first | walk1 | (dsimp only; walk1))))
    rename_i Dj vj cj _ _ hJ hD _ F7 N7
    obtain ⟨u1, u2, u3⟩ := choSt_ok hP k (by omega)
    have hjo := jnt_ok (hP k hkn)
    rw [hjl] at hjo
    refine ap_spec B4 (by k_asm) X4 P4 rfl XB TB D4 (news_pre N7 (by k_mem) (by k_mem)) (by ktr_room) (by ktr_units) hJ e2 hjo.2 u2 hjo.1 u1 ?_
    intro g2 lm vs2 cm2 h8 tk8 T8 F8 N8 o8 i8 B8 X8 P8 D8
    obtain ⟨o8a, o8b, o8c⟩ := o8
    obtain ⟨o8c, -, -, -, -, -, o8d⟩ := o8c
    obtain ⟨hD1, hD2, hD3, hD4, hD5, hD6⟩ := hD
    (repeat' (first | (k_unfold; (try dsimp only)) | ((fail_if_success (with_reducible (first | show wpAny _ _ (exec (Stmt.While _ _ _ _) _) _ _ _ | show wpAny _ _ (call (Value.ref _) _) _ _ _ | show wpAny _ _ (subscriptTail _ (PySem.Expr.Slice none none (some _) _) _ _) _ _ _)));  (fail_if_success (with_reducible (first | show wpAny _ _ (truthy (Value.ref _)) _ _ _ | show wpAny _ _ (exec (Stmt.For _ _ _ _ _) _) _ _ _ | show LpEnd _ _ _ _ _ _ _ _ _ _ | show LeaveS _ _ _ _ _ _ _ _ _ _ _ _ _ _ _ _ _ _ | show wpAny _ _ (compareOp CmpOp.Eq _ _) _ _ _ | show wpAny _ _ (call (Value.builtin "list.append") _) _ _ _))); first | walk1 | (dsimp only; walk1))))
    rename News _ _ _ _ => N9
    refine eq_intsK (PySem.IsL.isList (News.get N9 (.head _))) i8 (PySem.IsL.isList (News.get N9 (.tail _ (.head _)))) hJ (by ktr_units) ?_
    rw [← hjl]
    (repeat' (first | (k_unfold; (try dsimp only)) | ((fail_if_success (with_reducible (first | show wpAny _ _ (exec (Stmt.While _ _ _ _) _) _ _ _ | show wpAny _ _ (call (Value.ref _) _) _ _ _ | show wpAny _ _ (subscriptTail _ (PySem.Expr.Slice none none (some _) _) _ _) _ _ _)));  (fail_if_success (with_reducible (first | show wpAny _ _ (truthy (Value.ref _)) _ _ _ | show wpAny _ _ (exec (Stmt.For _ _ _ _ _) _) _ _ _ | show LpEnd _ _ _ _ _ _ _ _ _ _ | show LeaveS _ _ _ _ _ _ _ _ _ _ _ _ _ _ _ _ _ _ | show wpAny _ _ (compareOp CmpOp.Eq _ _) _ _ _ | show wpAny _ _ (call (Value.builtin "list.append") _) _ _ _))); first | walk1 | (dsimp only; walk1))))
    · rename _ = jnt (pr k) => hy
      rename Fr _ _ _ _ => F9
      rename News _ _ _ _ => N9
      have N10 := news_sub N9 (l2 := (lc, listOf ms.toArray cm) :: (Dj, listOf vj.toArray cj) :: (lh, listOf ((hpSt n (k + 1)).map fun r => Value.ref (ad r)).toArray (ch + 1)) :: (l, listOf ((List.range n).map fun r => Value.ref (ad r)).toArray c) :: tups) (List.forall_mem_cons.mpr ⟨by k_mem, List.forall_mem_cons.mpr ⟨.tail _ (.head _), List.forall_mem_cons.mpr ⟨by k_mem, List.forall_mem_cons.mpr ⟨by k_mem, fun p hp => by repeat (first | exact hp | apply List.mem_cons_of_mem)⟩⟩⟩⟩)
      refine append_K F9 N10 (.head (List.forall_mem_cons.mpr ⟨Nat.ne_of_gt hD3, List.forall_mem_cons.mpr ⟨Nat.ne_of_lt q2b, List.forall_mem_cons.mpr ⟨Nat.ne_of_lt q2c, allLt_ne (Nat.le_refl _) q2d⟩⟩⟩)) (fun h10 F10 N11 => ?_) (by rw [List.size_toArray, show sizeLine = 16777216 from rfl, e3.length]; omega)
      obtain ⟨tt, N12⟩ : ∃ t, News g2 L' h10 ((lc, listOf (ms ++ [Value.int (last - 1) t]).toArray (cm + 1)) :: (Dj, listOf vj.toArray cj) :: (lh, listOf ((hpSt n (k + 1)).map fun r => Value.ref (ad r)).toArray (ch + 1)) :: (l, listOf ((List.range n).map fun r => Value.ref (ad r)).toArray c) :: tups) := ⟨_, by simpa using N11⟩
      (repeat' (first | (k_unfold; (try dsimp only)) | ((fail_if_success (with_reducible (first | show wpAny _ _ (exec (Stmt.While _ _ _ _) _) _ _ _ | show wpAny _ _ (call (Value.ref _) _) _ _ _ | show wpAny _ _ (subscriptTail _ (PySem.Expr.Slice none none (some _) _) _ _) _ _ _)));  (fail_if_success (with_reducible (first | show wpAny _ _ (truthy (Value.ref _)) _ _ _ | show wpAny _ _ (exec (Stmt.For _ _ _ _ _) _) _ _ _ | show LpEnd _ _ _ _ _ _ _ _ _ _ | show LeaveS _ _ _ _ _ _ _ _ _ _ _ _ _ _ _ _ _ _ | show wpAny _ _ (compareOp CmpOp.Eq _ _) _ _ _ | show wpAny _ _ (call (Value.builtin "list.append") _) _ _ _))); first | walk1 | (dsimp only; walk1))))
      refine lp_end (k + 1, Dj, vj, cj, ms ++ [Value.int (last - 1) tt], cm + 1, ch + 1) ⟨T4.trans T8, B8, X8, P8, D8⟩ (by k_asm) N12 (List.forall_mem_nil _) (fun p hp => hp) (List.forall_mem_nil _) (List.forall_mem_cons.mpr ⟨rfl, List.forall_mem_nil _⟩) (by ksw_same) ⟨⟨by dsimp only; omega, ?_, ?_, hD2, hD5, hD6, Nat.ne_of_gt hD3⟩, by dsimp only; omega⟩
      · rw [cho_yes hy, hjl]; exact hJ
      · rw [cho_yes hy, hlst]; exact ints_app e3 (.cons _ _ .nil)
    · rename ¬ _ = jnt (pr k) => hy
      rename News _ _ _ _ => N9
      refine lp_end (k + 1, lt, ts, ct, ms, cm, ch + 1) ⟨T4.trans T8, B8, X8, P8, D8⟩ (by k_asm) N9 (List.forall_mem_nil _) (fun p hp => ?_) (List.forall_mem_nil _) (List.forall_mem_cons.mpr ⟨rfl, List.forall_mem_nil _⟩) (by ksw_same) ⟨⟨by dsimp only; omega, ?_, ?_, e4, e5, e6, e7⟩, by dsimp only; omega⟩
      · revert p
        exact List.forall_mem_cons.mpr ⟨by k_mem, List.forall_mem_cons.mpr ⟨by k_mem, List.forall_mem_cons.mpr ⟨by k_mem, List.forall_mem_cons.mpr ⟨by k_mem, fun p hp => by repeat (first | exact hp | apply List.mem_cons_of_mem)⟩⟩⟩⟩
      · rw [cho_no hy]; exact e2
      · rw [cho_no hy]; exact e3
  · obtain rfl : k = n := by omega
    have h0 : hpSt k k = [] := List.eq_nil_of_length_eq_zero (by omega)
    simp only [h0, List.map_nil, List.isEmpty_toArray, List.isEmpty_nil, Bool.not_true]
    (repeat' (first | (k_unfold; (try dsimp only)) | ((fail_if_success (with_reducible (first | show wpAny _ _ (exec (Stmt.While _ _ _ _) _) _ _ _ | show wpAny _ _ (call (Value.ref _) _) _ _ _ | show wpAny _ _ (subscriptTail _ (PySem.Expr.Slice none none (some _) _) _ _) _ _ _)));  (fail_if_success (with_reducible (first | show wpAny _ _ (truthy (Value.ref _)) _ _ _ | show wpAny _ _ (exec (Stmt.For _ _ _ _ _) _) _ _ _ | show LpEnd _ _ _ _ _ _ _ _ _ _ | show LeaveS _ _ _ _ _ _ _ _ _ _ _ _ _ _ _ _ _ _ | show wpAny _ _ (compareOp CmpOp.Eq _ _) _ _ _ | show wpAny _ _ (call (Value.builtin "list.append") _) _ _ _))); first | walk1 | (dsimp only; walk1))))
    refine leaveS_r (by k_asm) (by k_asm) T4 ?_
    intro h₀' y1 y2 y3 y4 y5 y6 y7
    exact hret h₀' lc ms cm _ _ y1 y2 (fun p hp => y3 p (by
      rcases List.mem_cons.mp hp with rfl | hp
      · exact .head _
      · exact .tail _ (.tail _ (.tail _ hp)))) ⟨q2c, q2d⟩ e3 y4 y5 y6 y7
end
end
section
set_option Elab.async false
set_option maxRecDepth 100000
set_option maxHeartbeats 8000000
section
variable {w : World} {mean : ExcName → Option Value} {mg mb : Str → Option Value}
    {dp un : Nat} {gd : Option (List Code)} {cn : Str} {cs : Scope} {a : Addr} {ccd : Value} {cl : List (Str × Addr)} {outer : List Env} {A₀ : Around} {base h₀ : Heap} {L : Addr} {m : Str → Option Value} {s : Shared} {Q E : Value → Shared → Prop}
    (B : Below A₀ base outer h₀) (F : Fr h₀ L s.heap m) (X : (Kf w.params).In h₀) (T : Top q (looseW q loose) mean mg mb h₀) (hk : cs.kind = .function)
    (XB : (Kf w.params).In base) (TB : Top q (looseW q loose) mean mg mb base) (D : KtsDicts (outer.filterMap (·.frame)) h₀)
include B F X T hk XB TB D
theorem met_spec {l lb : Addr} {n : Nat} {ad : Nat → Addr} {pr : Nat → Int × Int} {c cb : Nat} {bs : List Value} {bi : List Int} {tups : List (Addr × Obj)} (N : News h₀ L s.heap ((lb, listOf bs.toArray cb) :: (l, listOf ((List.range n).map fun r => Value.ref (ad r)).toArray c) :: tups)) (hd : dp + 4 < recursionLimit) (hu : un + 200 < cLine)
    (hn : n < 12) (R : Rk n ad pr tups) (hP : ∀ r, r < n → 0 ≤ (pr r).2 ∧ (pr r).2 < (pr r).1 ∧ (pr r).1 ≤ 50) (hb : IntsAre bs bi) (hb1 : bi.length < 100) (hb2 : bi.Pairwise (· < ·)) (hM : ∀ r, r < n → (mergeF (jnt (pr r)) bi).1 ≠ jnt (pr r))
    (hret : ∀ h₀' h' tk', KtsTurn (outer.filterMap (·.frame)) h₀ h₀' → Fr h₀' L h' m → News h₀' L h' ((lb, listOf bs.toArray cb) :: (l, listOf ((List.range n).map fun r => Value.ref (ad r)).toArray c) :: tups) →
      Below A₀ base outer h₀' → (Kf w.params).In h₀' → Top q (looseW q loose) mean mg mb h₀' → KtsDicts (outer.filterMap (·.frame)) h₀' → Q (.bool true) { s with heap := h', toks := tk' }) :
    wpAny (model PySem.Challenge.rw_op0130_01.prog w) (ktrTop dp un gd cn cs L a ccd cl outer) (call (.ref 155) [.ref l, .ref lb]) Q E s := by
  revert X; k_fill; intro X
  refine wpAny_call ?_
  k_dflt (refine' callS_plain (g₀ := h₀) (binds := [(Str.ofString "stretches", .ref l), (Str.ofString "breaks", .ref lb)]) ?k1 ?k2 ?k3 ?k4 ?k5 XB TB D KtsTurn.refl ?kA ?kF ?kK ?k6 ?k7 ?k8 ?k9 ?kB ?_ ?c2 ?c3 ?c4 ?c5; (case kA => exact rfl); (case kF => exact rfl); (case kK => assumption); (case k1 => k_asm); (case k2 => k_asm); (case k3 => k_asm); (case k4 => k_asm); (case k5 => k_asm); (case k6 => k_is); (case k7 => k_is); (case k8 => ktr_room); (case k9 => exact BindsTo.of_eq rfl); (case c5 => decide); (case kB => exact locs rfl); (case c2 => exact rfl); (case c3 => exact rfl); (case c4 => exact rfl); k_whole; intro g' L' h' FG' F' N' B' X' T' D'; (try dsimp only); (try k_fold))
  (repeat' (first | (k_unfold; (try dsimp only)) | ((fail_if_success (with_reducible (first | show wpAny _ _ (exec (Stmt.While _ _ _ _) _) _ _ _ | show wpAny _ _ (call (Value.ref _) _) _ _ _ | show wpAny _ _ (pyIter _) _ _ _ | show wpAny _ _ (exec (Stmt.For _ _ _ _ _) _) _ _ _ | show LpEnd _ _ _ _ _ _ _ _ _ _ | show LeaveS _ _ _ _ _ _ _ _ _ _ _ _ _ _ _ _ _ _ | show wpAny _ _ (compareOp CmpOp.Eq _ _) _ _ _))); first | walk1 | (dsimp only; walk1))))
  refine wpAny_For ?_
  (repeat' (first | (k_unfold; (try dsimp only)) | ((fail_if_success (with_reducible (first | show wpAny _ _ (exec (Stmt.While _ _ _ _) _) _ _ _ | show wpAny _ _ (call (Value.ref _) _) _ _ _ | show wpAny _ _ (pyIter _) _ _ _ | show wpAny _ _ (exec (Stmt.For _ _ _ _ _) _) _ _ _ | show LpEnd _ _ _ _ _ _ _ _ _ _ | show LeaveS _ _ _ _ _ _ _ _ _ _ _ _ _ _ _ _ _ _ | show wpAny _ _ (compareOp CmpOp.Eq _ _) _ _ _))); first | walk1 | (dsimp only; walk1))))
  refine for_list (σ := Unit)
    (fun g => KtsTurn ((envX cn cs L a ccd cl :: outer).filterMap (·.frame)) g' g ∧ Below (ktrTop dp un gd cn cs L a ccd cl outer) base (envX cn cs L a ccd cl :: outer) g ∧ (Kf w.params).In g ∧ Top q (looseW q loose) mean mg mb g ∧ KtsDicts ((envX cn cs L a ccd cl :: outer).filterMap (·.frame)) g)
    (fun _ => (lb, listOf bs.toArray cb) :: (l, listOf ((List.range n).map fun r => Value.ref (ad r)).toArray c) :: tups)
    (fun _ => []) [Str.ofString "last", Str.ofString "first", Str.ofString "joints", Str.ofString "left"]
    (fun _ _ => True) () rfl (fun _ => .tail _ (.head _)) rfl ⟨_, rfl⟩ (fun g hg b hb => hg.1.none_ _ hb) ⟨KtsTurn.refl, B', X', T', D'⟩ (by k_asm) (by k_asm) (List.forall_mem_nil _) trivial ?turn ?after
  case turn =>
    rintro k v _ u g hh tk I oI hv - ⟨T4, B4, X4, P4, D4⟩ hit F4 N4 off
    dsimp only [kstB] at F4 N4
    obtain ⟨hkn, rfl⟩ : k < n ∧ v = .ref (ad k) := by
      have hlt : k < n := by
        have h1 := (Array.getElem?_eq_some_iff.mp hv).1
        simpa using h1
      refine ⟨hlt, ?_⟩
      simp [hlt] at hv
      exact hv.symm
    obtain ⟨t1, t2, hm1⟩ := R.tup k hkn
    replace N4 := news_add N4 (List.mem_cons_of_mem _ (List.mem_cons_of_mem _ (List.mem_cons_of_mem _ hm1)))
    obtain ⟨b1, b2, b3⟩ := hP k hkn
    have hjl : jnt (pr k) = rangeKs ((pr k).2 + 1) ((pr k).1 - ((pr k).2 + 1)).toNat := rfl
    have hjo := jnt_ok (hP k hkn)
    have hM1 := hM k hkn
    rw [hjl] at hjo hM1
    generalize hlst : (pr k).1 = last at *
    generalize hfst : (pr k).2 = first at *
    refine wpAny_letOwnedTupleGo_listiter hit ?_
    (repeat' (first | (k_unfold; (try dsimp only)) | ((fail_if_success (with_reducible (first | show wpAny _ _ (exec (Stmt.While _ _ _ _) _) _ _ _ | show wpAny _ _ (call (Value.ref _) _) _ _ _ | show wpAny _ _ (pyIter _) _ _ _ | show wpAny _ _ (exec (Stmt.For _ _ _ _ _) _) _ _ _ | show LpEnd _ _ _ _ _ _ _ _ _ _ | show LeaveS _ _ _ _ _ _ _ _ _ _ _ _ _ _ _ _ _ _ | show wpAny _ _ (compareOp CmpOp.Eq _ _) _ _ _))); first | walk1 | (dsimp only; walk1))))
    rename_i Dj vj cj _ _ hJ hD _ F7 N7
    refine ap_spec B4 (by k_asm) X4 P4 rfl XB TB D4 (news_pre N7 (by k_mem) (by k_mem)) (by ktr_room) (by ktr_units) hJ hb hjo.2 hb1 hjo.1 hb2 ?_
    intro g2 lm vs2 cm2 h8 tk8 T8 F8 N8 o8 i8 B8 X8 P8 D8
    (repeat' (first | (k_unfold; (try dsimp only)) | ((fail_if_success (with_reducible (first | show wpAny _ _ (exec (Stmt.While _ _ _ _) _) _ _ _ | show wpAny _ _ (call (Value.ref _) _) _ _ _ | show wpAny _ _ (pyIter _) _ _ _ | show wpAny _ _ (exec (Stmt.For _ _ _ _ _) _) _ _ _ | show LpEnd _ _ _ _ _ _ _ _ _ _ | show LeaveS _ _ _ _ _ _ _ _ _ _ _ _ _ _ _ _ _ _ | show wpAny _ _ (compareOp CmpOp.Eq _ _) _ _ _))); first | walk1 | (dsimp only; walk1))))
    rename News _ _ _ _ => N9
    refine eq_intsK (PySem.IsL.isList (News.get N9 (.head _))) i8 (PySem.IsL.isList (News.get N9 (.tail _ (.head _)))) hJ (by ktr_units) ?_
    rw [decide_eq_false hM1]
    (repeat' (first | (k_unfold; (try dsimp only)) | ((fail_if_success (with_reducible (first | show wpAny _ _ (exec (Stmt.While _ _ _ _) _) _ _ _ | show wpAny _ _ (call (Value.ref _) _) _ _ _ | show wpAny _ _ (pyIter _) _ _ _ | show wpAny _ _ (exec (Stmt.For _ _ _ _ _) _) _ _ _ | show LpEnd _ _ _ _ _ _ _ _ _ _ | show LeaveS _ _ _ _ _ _ _ _ _ _ _ _ _ _ _ _ _ _ | show wpAny _ _ (compareOp CmpOp.Eq _ _) _ _ _))); first | walk1 | (dsimp only; walk1))))
    refine lp_end () ⟨T4.trans T8, B8, X8, P8, D8⟩ (by k_asm) N9 (List.forall_mem_cons.mpr ⟨by k_mem, List.forall_mem_nil _⟩) (fun p hp => ?_) (List.forall_mem_cons.mpr ⟨off, List.forall_mem_nil _⟩) (List.forall_mem_nil _) (by ksw_same) trivial
    revert p
    exact List.forall_mem_cons.mpr ⟨by k_mem, List.forall_mem_cons.mpr ⟨by k_mem, fun p hp => by repeat (first | exact hp | apply List.mem_cons_of_mem)⟩⟩
  case after =>
    rintro _ u g hh tk - ⟨T4, B4, X4, P4, D4⟩ F4 N4
    dsimp only [kstB] at F4 N4
    (repeat' (first | (k_unfold; (try dsimp only)) | ((fail_if_success (with_reducible (first | show wpAny _ _ (exec (Stmt.While _ _ _ _) _) _ _ _ | show wpAny _ _ (call (Value.ref _) _) _ _ _ | show wpAny _ _ (pyIter _) _ _ _ | show wpAny _ _ (exec (Stmt.For _ _ _ _ _) _) _ _ _ | show LpEnd _ _ _ _ _ _ _ _ _ _ | show LeaveS _ _ _ _ _ _ _ _ _ _ _ _ _ _ _ _ _ _ | show wpAny _ _ (compareOp CmpOp.Eq _ _) _ _ _))); first | walk1 | (dsimp only; walk1))))
    refine leaveS_r (by k_asm) (by k_asm) T4 ?_
    intro h₀' y1 y2 y3 y4 y5 y6 y7
    exact hret h₀' _ _ y1 y2 y3 y4 y5 y6 y7
end
end
section
set_option Elab.async false
set_option maxRecDepth 100000
set_option maxHeartbeats 8000000
noncomputable def decW : Nat → List Nat → List Nat
  | _, [] => []
  | k + 1, _ :: r => decW k r
  | 0, c :: r => if c ≠ 61 then c :: (if r = [] then [10] else decW 0 r) else if r = [] then [] else if 2 ≤ r.length ∧ r.getD 0 0 ∈ hexL ∧ r.getD 1 0 ∈ hexL then
      (16 * hv (r.getD 0 0) + hv (r.getD 1 0)) :: (if r.length = 2 then [10] else decW 2 r) else 61 :: decW 0 r
noncomputable def decLn (l : List Nat) : List Nat := if l = [] then [10] else decW 0 l
noncomputable def decAll (l : List Nat) : List Nat :=
  let d := ((linesG false l).map decLn).flatten
  if decide (l.getLast? = some 13) || decide (l.getLast? = some 10) then d else if d.getLast? = some 10 then d.dropLast else d
theorem decW_len : ∀ (k : Nat) (l : List Nat), (decW k l).length ≤ l.length + 1
  | _, [] => by simp [decW]
  | k + 1, c :: r => by have := decW_len k r; simp [decW]; omega
  | 0, c :: r => by
    have h0 := decW_len 0 r
    have h2 := decW_len 2 r
    rw [decW]
    split
    · split <;> simp <;> omega
    · split
      · simp
      · split
        · split <;> simp <;> omega
        · simp; omega
theorem decLn_len (l : List Nat) : (decLn l).length ≤ l.length + 1 := by
  unfold decLn
  split
  · simp
  · exact decW_len 0 l
theorem lines_wt : ∀ (b : Bool) (l : List Nat), ((linesG b l).map fun y => y.length + 1).sum ≤ l.length + 1
  | _, [] => by simp [linesG]
  | true, _ :: r => by have := lines_wt false r; simp [linesG]; omega
  | false, c :: r => by
    rw [linesG]
    split
    · have := lines_wt (c == 13 && r.head? == some 10) r
      simp
      omega
    · have := lines_wt false r
      split
      · rename_i p ps e
        rw [e] at this
        simp at this ⊢
        omega
      · simp
theorem dec_total (ls : List (List Nat)) : ((ls.map decLn).flatten).length ≤ (ls.map fun y => y.length + 1).sum := by
  induction ls with
  | nil => simp
  | cons y r ih => have := decLn_len y; simp at ih ⊢; omega
theorem take_sum (ls : List (List Nat)) (i : Nat) : ((ls.take i).map fun y => y.length + 1).sum ≤ (ls.map fun y => y.length + 1).sum := by
  induction ls generalizing i with
  | nil => simp
  | cons y r ih => cases i with
    | zero => simp
    | succ i => have := ih i; simp at this ⊢; omega
theorem dec_bound (l : List Nat) (i : Nat) (hl : l.length < 1000) : ((((linesG false l).take i).map decLn).flatten).length ≤ 1000 := by
  have h1 := dec_total ((linesG false l).take i)
  have h2 := take_sum (linesG false l) i
  have h3 := lines_wt false l
  omega
theorem line_len {l y : List Nat} (h : y ∈ linesG false l) : y.length ≤ l.length := by
  have h1 := lines_wt false l
  have h2 : y.length + 1 ≤ ((linesG false l).map fun y => y.length + 1).sum := by
    generalize linesG false l = ls at *
    clear h1
    induction ls with
    | nil => cases h
    | cons a r ih =>
      simp only [List.map_cons, List.sum_cons]
      rcases List.mem_cons.mp h with rfl | h
      · omega
      · have := ih h; omega
  omega
theorem dec_next {ls : List (List Nat)} {i : Nat} (hi : i < ls.length) : ((ls.take (i + 1)).map decLn).flatten = ((ls.take i).map decLn).flatten ++ decLn (ls.getD i []) := by
  rw [List.take_add_one, List.getElem?_eq_getElem hi, List.getD_eq_getElem?_getD, List.getElem?_eq_getElem hi, List.map_append, List.flatten_append]
  simp
theorem intEq {x y : Int} {t : Tok} (h : x = y) : some (Value.int x t) = some (Value.int y t) := by rw [h]
theorem news_tl {g h : Heap} {L : Addr} {p : Addr × Obj} {r : List (Addr × Obj)} (N : News g L h (p :: r)) : News g L h r := fun z hz => N z (List.mem_cons_of_mem _ hz)
theorem tn1 {n : Nat} : ((n : Int) + 1).toNat = n + 1 := by omega
theorem tn2 {n : Nat} : ((n : Int) + 2).toNat = n + 2 := by omega
theorem tn3 {n : Nat} : ((n : Int) + 3).toNat = n + 3 := by omega
theorem drop_cons {y : List Nat} {n : Nat} (h : n < y.length) : y.drop n = y.getD n 0 :: y.drop (n + 1) := by
  rw [List.drop_eq_getElem_cons h, List.getD_eq_getElem?_getD, List.getElem?_eq_getElem h]; rfl
theorem drop_nil_iff {y : List Nat} {n : Nat} (h : n < y.length) : y.drop (n + 1) = [] ↔ n + 1 = y.length := by
  rw [List.drop_eq_nil_iff]; omega
theorem dw_plain {y : List Nat} {n : Nat} (h : n < y.length) (hc : ¬ y.getD n 0 = 61) : decW 0 (y.drop n) = y.getD n 0 :: (if n + 1 = y.length then [10] else decW 0 (y.drop (n + 1))) := by
  rw [drop_cons h, decW, if_pos hc]
  simp only [drop_nil_iff h]
theorem dw_soft {y : List Nat} {n : Nat} (h : n + 1 = y.length) (hc : y.getD n 0 = 61) : decW 0 (y.drop n) = [] := by
  rw [drop_cons (by omega), decW, if_neg (not_not_intro hc), if_pos ((drop_nil_iff (by omega)).mpr h)]
theorem decW_skip : ∀ (k : Nat) (l : List Nat), decW k l = decW 0 (l.drop k)
  | 0, l => by simp
  | k + 1, [] => by simp [decW]
  | k + 1, c :: r => by rw [decW, decW_skip k r]; simp
theorem getD_drop {y : List Nat} {n k : Nat} : (y.drop n).getD k 0 = y.getD (n + k) 0 := by
  rw [List.getD_eq_getElem?_getD, List.getD_eq_getElem?_getD, List.getElem?_drop]
theorem dw_esc {y : List Nat} {n : Nat} (h : n + 2 < y.length) (hc : y.getD n 0 = 61) (h1 : y.getD (n + 1) 0 ∈ hexL) (h2 : y.getD (n + 2) 0 ∈ hexL) :
    decW 0 (y.drop n) = (16 * hv (y.getD (n + 1) 0) + hv (y.getD (n + 2) 0)) :: (if n + 3 = y.length then [10] else decW 0 (y.drop (n + 3))) := by
  rw [drop_cons (by omega), decW, if_neg (not_not_intro hc), if_neg (by rw [drop_nil_iff (by omega)]; omega), if_pos (by rw [getD_drop, getD_drop, List.length_drop]; exact ⟨by omega, h1, h2⟩), decW_skip 2, List.drop_drop, getD_drop, getD_drop, List.length_drop]
  congr 1
  by_cases e : n + 3 = y.length
  · rw [if_pos (by omega), if_pos e]
  · rw [if_neg (by omega), if_neg e]
theorem dw_else {y : List Nat} {n : Nat} (h : n < y.length) (hc : y.getD n 0 = 61) (hn : ¬ n + 1 = y.length) (h1 : ¬ (n + 2 < y.length ∧ y.getD (n + 1) 0 ∈ hexL ∧ y.getD (n + 2) 0 ∈ hexL)) : decW 0 (y.drop n) = 61 :: decW 0 (y.drop (n + 1)) := by
  rw [drop_cons h, decW, if_neg (not_not_intro hc), if_neg (by rw [drop_nil_iff h]; exact hn), if_neg (by
    rw [getD_drop, getD_drop, List.length_drop]
    exact fun z => h1 ⟨by omega, z.2.1, z.2.2⟩)]
theorem esc_text {y : List Nat} {n : Nat} (h : n + 2 < y.length) (hc : y.getD n 0 = 61) : (y.drop n).take (n + 3 - n) = [61, y.getD (n + 1) 0, y.getD (n + 2) 0] := by
  rw [drop_cons (by omega), drop_cons (n := n + 1) (by omega), drop_cons (n := n + 2) (by omega), hc, show n + 3 - n = 3 by omega]
  rfl
theorem last_getD {l : List Nat} (h : 0 < l.length) : l.getLast? = some (l.getD (l.length - 1) 0) := by
  rw [List.getLast?_eq_getElem?, List.getD_eq_getElem?_getD, List.getElem?_eq_getElem (by omega)]; rfl
theorem dec_hard {l d : List Nat} (h0 : l.getLast? = some (l.getD (l.length - 1) 0)) (h : l.getD (l.length - 1) 0 ∈ [13, 10]) (hd : d = ((linesG false l).map decLn).flatten) : d = decAll l := by
  unfold decAll
  simp only [h0, Option.some.injEq]
  rw [if_pos (by simpa using h), hd]
theorem dec_cut {l d : List Nat} (h0 : l.getLast? = some (l.getD (l.length - 1) 0)) (h : ¬ l.getD (l.length - 1) 0 ∈ [13, 10]) (hd : d = ((linesG false l).map decLn).flatten) (hl : d.getLast? = some 10) : d.dropLast = decAll l := by
  unfold decAll
  simp only [h0, Option.some.injEq]
  rw [if_neg (by simpa using h), ← hd, if_pos hl]
theorem dec_keep {l d : List Nat} (h0 : l.getLast? = some (l.getD (l.length - 1) 0)) (h : ¬ l.getD (l.length - 1) 0 ∈ [13, 10]) (hd : d = ((linesG false l).map decLn).flatten) (hl : ¬ d.getLast? = some 10) : d = decAll l := by
  unfold decAll
  simp only [h0, Option.some.injEq]
  rw [if_neg (by simpa using h), ← hd, if_neg hl]
end
local macro_rules | `(tactic| walk_at "lit") => `(tactic| first | with_reducible exact lit_eq | with_reducible exact lit_nl | with_reducible exact lit_crlf | with_reducible exact lit_bl | with_reducible exact lit_nil | with_reducible exact lit_hex | with_reducible exact rfl)
local macro_rules | `(tactic| walk_at "num") => `(tactic| first | omega | exact pos_of_last (by assumption) | (simp only [List.length_append, List.length_cons, List.length_nil, List.length_drop, List.length_take] at *; omega) | fail "num")
section
set_option maxHeartbeats 8000000
section
variable {w : World} {mean : ExcName → Option Value} {mg mb : Str → Option Value}
    {dp un : Nat} {gd : Option (List Code)} {cn : Str} {cs : Scope} {a : Addr} {ccd : Value} {cl : List (Str × Addr)} {outer : List Env} {A₀ : Around} {base h₀ : Heap} {L : Addr} {m : Str → Option Value} {s : Shared} {Q E : Value → Shared → Prop}
    (B : Below A₀ base outer h₀) (F : Fr h₀ L s.heap m) (X : (Kf w.params).In h₀) (T : Top q (looseW q loose) mean mg mb h₀) (hk : cs.kind = .function)
include B F X T hk
theorem dec_spec {l : List Nat} {t : Tok} {news : List (Addr × Obj)} (N : News h₀ L s.heap news) (hd : dp + 2 < recursionLimit) (hu : un + 16 < cLine) (hl : l.length < 1000) (hs : ∀ y ∈ linesG false l, ∀ c ∈ y, Unicode.isSpace c = false)
    (hret : ∀ t' h' tk', Fr h₀ L h' m → News h₀ L h' news → Q (.str (S (decAll l)) t') { s with heap := h', toks := tk' }) :
    wpAny (model PySem.Challenge.rw_op0130_01.prog w) (ktrTop dp un gd cn cs L a ccd cl outer) (call (.ref 72) [.str (S l) t]) Q E s := by
  have X2 := X.keeps F.keep
  revert X; k_fill; intro X
  refine wpAny_call ?_
  k_dflt (refine' code_def (binds := [(Str.ofString "encoded", .str (S l) t), (Str.ofString "eol", .str (Str.ofString "\n") 205)]) ?k1 ?k2 ?k3 ?k4 ?k5 ?kA ?kF ?kK ?k6 ?k7 ?k8 ?k9 ?kB ?_ ?c2 ?c3 ?c4 ?c5; (((case kA => exact rfl); (case kF => exact rfl); (case kK => assumption); (case k1 => k_asm); (case k2 => k_asm); (case k3 => k_asm); (case k4 => k_asm); (case k5 => k_asm); (case k6 => k_is); (case k7 => k_is); (case k8 => ktr_room); (case c5 => decide); (case kB => exact locs rfl); (case c2 => exact rfl); (case c3 => exact rfl); (case c4 => exact rfl))); (case k9 => exact BindsTo.of_defaults (T := 65) (o := o65 w.params) rfl (X2 _ _ rfl) rfl rfl rfl);  k_whole; intro g' L' h' FG' F' N' B' X' T'; (try dsimp only); (try k_fold))
  (repeat' (first | (k_unfold; (try dsimp only)) | ((first | (((with_reducible show wpAny _ _ (call (Value.builtin "str.endswith") [Value.str (S _) _, Value.str _ _]) _ _ _); refine l_ends (by walk_at "lit") ?_)) | (((with_reducible show wpAny _ _ (compareOp CmpOp.NotIn (Value.str _ _) (Value.str _ _)) _ _ _); refine l_notin (by walk_at "lit") (by walk_at "lit") ?_)) | (((with_reducible show wpAny _ _ (compareOp CmpOp.In (Value.str _ _) (Value.str _ _)) _ _ _); refine l_in (by walk_at "lit") (by walk_at "lit") ?_)) | (((with_reducible show wpAny _ _ (compareOp CmpOp.NotEq (Value.str _ _) (Value.str _ _)) _ _ _); refine l_ne (by walk_at "lit") (by walk_at "lit") ?_)) | (((with_reducible show wpAny _ _ (inplaceOp Operator.Add (Value.str _ _) (Value.str _ _)) _ _ _); refine l_iadd (by walk_at "lit") (by walk_at "lit") (by walk_at "num") ?_; intro _ _)) | (((with_reducible show wpAny _ _ (call (Value.builtin "len") [Value.str (S _) _]) _ _ _); refine s_len (by walk_at "num") ?_; intro _ _)) | (((with_reducible rename Fr _ _ _ _ => F'); (with_reducible rename News _ _ _ _ => N'); first | ((with_reducible show wpAny _ _ (subscriptTail _ (Expr.Slice (some _) (some _) none _) (Value.str (S _) _) _) _ _ _); refine s_slice_ss (s := ⟨_, _, _, _, _⟩) F' N' (by walk_at "num") (by walk_at "num") (by walk_at "num") (by walk_at "num") ?_; intro _ _ _ _ _) | ((with_reducible show wpAny _ _ (subscriptTail _ (Expr.Slice (some (Expr.UnaryOp _ _ _)) none none _) (Value.str (S _) _) _) _ _ _); refine s_slice_last (s := ⟨_, _, _, _, _⟩) F' N' (by walk_at "num") ?_; intro _ _ _ _ _) | ((with_reducible show wpAny _ _ (subscriptTail _ (Expr.Slice (some _) none none _) (Value.str (S _) _) _) _ _ _); refine s_slice_sn (s := ⟨_, _, _, _, _⟩) F' N' (by walk_at "num") (by walk_at "num") (by walk_at "num") ?_; intro _ _ _ _ _) | ((with_reducible show wpAny _ _ (subscriptTail _ (Expr.Slice none (some _) none _) (Value.str (S _) _) _) _ _ _); refine s_slice_init (s := ⟨_, _, _, _, _⟩) F' N' (by walk_at "num") (by walk_at "num") ?_; intro _ _ _ _ _))) | (((with_reducible show wpAny _ _ (subscriptTail _ _ (Value.str (S _) _) (Value.int _ _)) _ _ _); first | (with_reducible refine s_item_neg (by walk_at "num") (by walk_at "num") ?_; intro _ _) | (refine s_item (by walk_at "num") (by walk_at "num") (by walk_at "num") ?_; intro _ _))) | (((with_reducible show wpAny _ _ (truthy (Value.str (S _) _)) _ _ _); refine s_truthy (by walk_at "num") ?_; intro _)))) | ((fail_if_success (with_reducible (first | show wpAny _ _ (exec (Stmt.While _ _ _ _) _) _ _ _ | show wpAny _ _ (call (Value.ref _) _) _ _ _ | show wpAny _ _ (call (Value.type "int") _) _ _ _ | show wpAny _ _ (exec (Stmt.For _ _ _ _ _) _) _ _ _ | show LpEnd _ _ _ _ _ _ _ _ _ _ | show wpAny _ _ (call (Value.builtin "str.rstrip") _) _ _ _ | show wpAny _ _ (call (Value.builtin "str.splitlines") _) _ _ _ | show wpAny _ _ (pyIter _) _ _ _ | show OutQ _ _ _ _ _ _ _ _ _ _ | show KswEnd _ _ _ _ _ _ _ _ _ _ _ _))); first | walk1 | (dsimp only; walk1))))
  · have hl0 : l = [] := by simpa using ‹l.isEmpty = true›
    subst hl0
    exact hret _ _ _ (by k_asm) (by k_asm)
  have hl0 : 0 < l.length := by
    have h9 : l.isEmpty = false := by assumption
    cases l with
    | nil => cases h9
    | cons => simp
  refine wpAny_For ?_
  (repeat' (first | (k_unfold; (try dsimp only)) | ((first | (((with_reducible show wpAny _ _ (call (Value.builtin "str.endswith") [Value.str (S _) _, Value.str _ _]) _ _ _); refine l_ends (by walk_at "lit") ?_)) | (((with_reducible show wpAny _ _ (compareOp CmpOp.NotIn (Value.str _ _) (Value.str _ _)) _ _ _); refine l_notin (by walk_at "lit") (by walk_at "lit") ?_)) | (((with_reducible show wpAny _ _ (compareOp CmpOp.In (Value.str _ _) (Value.str _ _)) _ _ _); refine l_in (by walk_at "lit") (by walk_at "lit") ?_)) | (((with_reducible show wpAny _ _ (compareOp CmpOp.NotEq (Value.str _ _) (Value.str _ _)) _ _ _); refine l_ne (by walk_at "lit") (by walk_at "lit") ?_)) | (((with_reducible show wpAny _ _ (inplaceOp Operator.Add (Value.str _ _) (Value.str _ _)) _ _ _); refine l_iadd (by walk_at "lit") (by walk_at "lit") (by walk_at "num") ?_; intro _ _)) | (((with_reducible show wpAny _ _ (call (Value.builtin "len") [Value.str (S _) _]) _ _ _); refine s_len (by walk_at "num") ?_; intro _ _)) | (((with_reducible rename Fr _ _ _ _ => F'); (with_reducible rename News _ _ _ _ => N'); first | ((with_reducible show wpAny _ _ (subscriptTail _ (Expr.Slice (some _) (some _) none _) (Value.str (S _) _) _) _ _ _); refine s_slice_ss (s := ⟨_, _, _, _, _⟩) F' N' (by walk_at "num") (by walk_at "num") (by walk_at "num") (by walk_at "num") ?_; intro _ _ _ _ _) | ((with_reducible show wpAny _ _ (subscriptTail _ (Expr.Slice (some (Expr.UnaryOp _ _ _)) none none _) (Value.str (S _) _) _) _ _ _); refine s_slice_last (s := ⟨_, _, _, _, _⟩) F' N' (by walk_at "num") ?_; intro _ _ _ _ _) | ((with_reducible show wpAny _ _ (subscriptTail _ (Expr.Slice (some _) none none _) (Value.str (S _) _) _) _ _ _); refine s_slice_sn (s := ⟨_, _, _, _, _⟩) F' N' (by walk_at "num") (by walk_at "num") (by walk_at "num") ?_; intro _ _ _ _ _) | ((with_reducible show wpAny _ _ (subscriptTail _ (Expr.Slice none (some _) none _) (Value.str (S _) _) _) _ _ _); refine s_slice_init (s := ⟨_, _, _, _, _⟩) F' N' (by walk_at "num") (by walk_at "num") ?_; intro _ _ _ _ _))) | (((with_reducible show wpAny _ _ (subscriptTail _ _ (Value.str (S _) _) (Value.int _ _)) _ _ _); first | (with_reducible refine s_item_neg (by walk_at "num") (by walk_at "num") ?_; intro _ _) | (refine s_item (by walk_at "num") (by walk_at "num") (by walk_at "num") ?_; intro _ _))) | (((with_reducible show wpAny _ _ (truthy (Value.str (S _) _)) _ _ _); refine s_truthy (by walk_at "num") ?_; intro _)))) | ((fail_if_success (with_reducible (first | show wpAny _ _ (exec (Stmt.While _ _ _ _) _) _ _ _ | show wpAny _ _ (call (Value.ref _) _) _ _ _ | show wpAny _ _ (call (Value.type "int") _) _ _ _ | show wpAny _ _ (exec (Stmt.For _ _ _ _ _) _) _ _ _ | show LpEnd _ _ _ _ _ _ _ _ _ _ | show wpAny _ _ (call (Value.builtin "str.rstrip") _) _ _ _ | show wpAny _ _ (call (Value.builtin "str.splitlines") _) _ _ _ | show wpAny _ _ (pyIter _) _ _ _ | show OutQ _ _ _ _ _ _ _ _ _ _ | show KswEnd _ _ _ _ _ _ _ _ _ _ _ _))); first | walk1 | (dsimp only; walk1))))
  refine s_lines (by k_asm) (by k_asm) (by omega) ?_
  intro D' vs' h' k' e' F' N' l1
  refine for_list (σ := List Nat × Tok) (fun g => g' = g) (fun _ => (D', listOf vs'.toArray 0) :: news) (fun c => [(Str.ofString "decoded", .str (S c.1) c.2)]) [Str.ofString "line", Str.ofString "i", Str.ofString "n", Str.ofString "c"]
    (fun i c => c.1 = (((linesG false l).take i).map decLn).flatten) ([], _) rfl (fun _ => List.mem_cons_self) rfl ⟨_, rfl⟩ (fun g hg b hb => by rw [← hg]; exact hb) rfl (by k_asm) (by k_asm) (List.forall_mem_cons.mpr ⟨rfl, List.forall_mem_nil _⟩) rfl ?turn ?after
  case turn =>
    rintro i v ⟨d, td⟩ u g hh tk I oI hv hP hC hit F2 N2 off
    subst hC
    obtain ⟨tv, rfl, hi⟩ := e'.get hv
    dsimp only [kstB] at hP F2 N2
    have hmem : (linesG false l).getD i [] ∈ linesG false l := by rw [List.getD_eq_getElem?_getD, List.getElem?_eq_getElem hi]; exact List.getElem_mem hi
    have hsp := hs _ hmem
    have hyl := line_len hmem
    have hnx := dec_next hi
    rw [← hP] at hnx
    have hlen := dec_bound l i hl
    rw [← hP] at hlen
    generalize (linesG false l).getD i [] = y at *
    show wpAny _ _ (pure ()) _ _ _
    refine wpAny_pure ?_
    (repeat' (first | (k_unfold; (try dsimp only)) | ((first | (((with_reducible show wpAny _ _ (call (Value.builtin "str.endswith") [Value.str (S _) _, Value.str _ _]) _ _ _); refine l_ends (by walk_at "lit") ?_)) | (((with_reducible show wpAny _ _ (compareOp CmpOp.NotIn (Value.str _ _) (Value.str _ _)) _ _ _); refine l_notin (by walk_at "lit") (by walk_at "lit") ?_)) | (((with_reducible show wpAny _ _ (compareOp CmpOp.In (Value.str _ _) (Value.str _ _)) _ _ _); refine l_in (by walk_at "lit") (by walk_at "lit") ?_)) | (((with_reducible show wpAny _ _ (compareOp CmpOp.NotEq (Value.str _ _) (Value.str _ _)) _ _ _); refine l_ne (by walk_at "lit") (by walk_at "lit") ?_)) | (((with_reducible show wpAny _ _ (inplaceOp Operator.Add (Value.str _ _) (Value.str _ _)) _ _ _); refine l_iadd (by walk_at "lit") (by walk_at "lit") (by walk_at "num") ?_; intro _ _)) | (((with_reducible show wpAny _ _ (call (Value.builtin "len") [Value.str (S _) _]) _ _ _); refine s_len (by walk_at "num") ?_; intro _ _)) | (((with_reducible rename Fr _ _ _ _ => F'); (with_reducible rename News _ _ _ _ => N'); first | ((with_reducible show wpAny _ _ (subscriptTail _ (Expr.Slice (some _) (some _) none _) (Value.str (S _) _) _) _ _ _); refine s_slice_ss (s := ⟨_, _, _, _, _⟩) F' N' (by walk_at "num") (by walk_at "num") (by walk_at "num") (by walk_at "num") ?_; intro _ _ _ _ _) | ((with_reducible show wpAny _ _ (subscriptTail _ (Expr.Slice (some (Expr.UnaryOp _ _ _)) none none _) (Value.str (S _) _) _) _ _ _); refine s_slice_last (s := ⟨_, _, _, _, _⟩) F' N' (by walk_at "num") ?_; intro _ _ _ _ _) | ((with_reducible show wpAny _ _ (subscriptTail _ (Expr.Slice (some _) none none _) (Value.str (S _) _) _) _ _ _); refine s_slice_sn (s := ⟨_, _, _, _, _⟩) F' N' (by walk_at "num") (by walk_at "num") (by walk_at "num") ?_; intro _ _ _ _ _) | ((with_reducible show wpAny _ _ (subscriptTail _ (Expr.Slice none (some _) none _) (Value.str (S _) _) _) _ _ _); refine s_slice_init (s := ⟨_, _, _, _, _⟩) F' N' (by walk_at "num") (by walk_at "num") ?_; intro _ _ _ _ _))) | (((with_reducible show wpAny _ _ (subscriptTail _ _ (Value.str (S _) _) (Value.int _ _)) _ _ _); first | (with_reducible refine s_item_neg (by walk_at "num") (by walk_at "num") ?_; intro _ _) | (refine s_item (by walk_at "num") (by walk_at "num") (by walk_at "num") ?_; intro _ _))) | (((with_reducible show wpAny _ _ (truthy (Value.str (S _) _)) _ _ _); refine s_truthy (by walk_at "num") ?_; intro _)))) | ((fail_if_success (with_reducible (first | show wpAny _ _ (exec (Stmt.While _ _ _ _) _) _ _ _ | show wpAny _ _ (call (Value.ref _) _) _ _ _ | show wpAny _ _ (call (Value.type "int") _) _ _ _ | show wpAny _ _ (exec (Stmt.For _ _ _ _ _) _) _ _ _ | show LpEnd _ _ _ _ _ _ _ _ _ _ | show wpAny _ _ (call (Value.builtin "str.rstrip") _) _ _ _ | show wpAny _ _ (call (Value.builtin "str.splitlines") _) _ _ _ | show wpAny _ _ (pyIter _) _ _ _ | show OutQ _ _ _ _ _ _ _ _ _ _ | show KswEnd _ _ _ _ _ _ _ _ _ _ _ _))); first | walk1 | (dsimp only; walk1))))
    refine s_rstrip (by omega) hsp ?_
    intro t1 k1
    (repeat' (first | (k_unfold; (try dsimp only)) | ((first | (((with_reducible show wpAny _ _ (call (Value.builtin "str.endswith") [Value.str (S _) _, Value.str _ _]) _ _ _); refine l_ends (by walk_at "lit") ?_)) | (((with_reducible show wpAny _ _ (compareOp CmpOp.NotIn (Value.str _ _) (Value.str _ _)) _ _ _); refine l_notin (by walk_at "lit") (by walk_at "lit") ?_)) | (((with_reducible show wpAny _ _ (compareOp CmpOp.In (Value.str _ _) (Value.str _ _)) _ _ _); refine l_in (by walk_at "lit") (by walk_at "lit") ?_)) | (((with_reducible show wpAny _ _ (compareOp CmpOp.NotEq (Value.str _ _) (Value.str _ _)) _ _ _); refine l_ne (by walk_at "lit") (by walk_at "lit") ?_)) | (((with_reducible show wpAny _ _ (inplaceOp Operator.Add (Value.str _ _) (Value.str _ _)) _ _ _); refine l_iadd (by walk_at "lit") (by walk_at "lit") (by walk_at "num") ?_; intro _ _)) | (((with_reducible show wpAny _ _ (call (Value.builtin "len") [Value.str (S _) _]) _ _ _); refine s_len (by walk_at "num") ?_; intro _ _)) | (((with_reducible rename Fr _ _ _ _ => F'); (with_reducible rename News _ _ _ _ => N'); first | ((with_reducible show wpAny _ _ (subscriptTail _ (Expr.Slice (some _) (some _) none _) (Value.str (S _) _) _) _ _ _); refine s_slice_ss (s := ⟨_, _, _, _, _⟩) F' N' (by walk_at "num") (by walk_at "num") (by walk_at "num") (by walk_at "num") ?_; intro _ _ _ _ _) | ((with_reducible show wpAny _ _ (subscriptTail _ (Expr.Slice (some (Expr.UnaryOp _ _ _)) none none _) (Value.str (S _) _) _) _ _ _); refine s_slice_last (s := ⟨_, _, _, _, _⟩) F' N' (by walk_at "num") ?_; intro _ _ _ _ _) | ((with_reducible show wpAny _ _ (subscriptTail _ (Expr.Slice (some _) none none _) (Value.str (S _) _) _) _ _ _); refine s_slice_sn (s := ⟨_, _, _, _, _⟩) F' N' (by walk_at "num") (by walk_at "num") (by walk_at "num") ?_; intro _ _ _ _ _) | ((with_reducible show wpAny _ _ (subscriptTail _ (Expr.Slice none (some _) none _) (Value.str (S _) _) _) _ _ _); refine s_slice_init (s := ⟨_, _, _, _, _⟩) F' N' (by walk_at "num") (by walk_at "num") ?_; intro _ _ _ _ _))) | (((with_reducible show wpAny _ _ (subscriptTail _ _ (Value.str (S _) _) (Value.int _ _)) _ _ _); first | (with_reducible refine s_item_neg (by walk_at "num") (by walk_at "num") ?_; intro _ _) | (refine s_item (by walk_at "num") (by walk_at "num") (by walk_at "num") ?_; intro _ _))) | (((with_reducible show wpAny _ _ (truthy (Value.str (S _) _)) _ _ _); refine s_truthy (by walk_at "num") ?_; intro _)))) | ((fail_if_success (with_reducible (first | show wpAny _ _ (exec (Stmt.While _ _ _ _) _) _ _ _ | show wpAny _ _ (call (Value.ref _) _) _ _ _ | show wpAny _ _ (call (Value.type "int") _) _ _ _ | show wpAny _ _ (exec (Stmt.For _ _ _ _ _) _) _ _ _ | show LpEnd _ _ _ _ _ _ _ _ _ _ | show wpAny _ _ (call (Value.builtin "str.rstrip") _) _ _ _ | show wpAny _ _ (call (Value.builtin "str.splitlines") _) _ _ _ | show wpAny _ _ (pyIter _) _ _ _ | show OutQ _ _ _ _ _ _ _ _ _ _ | show KswEnd _ _ _ _ _ _ _ _ _ _ _ _))); first | walk1 | (dsimp only; walk1))))
    · have hy0 : y = [] := by simpa using ‹y.isEmpty = true›
      subst hy0
      refine lp_end (d ++ [10], _) rfl (by k_asm) (by k_asm) (List.forall_mem_cons.mpr ⟨List.mem_cons_self, List.forall_mem_nil _⟩) (fun p hp => List.mem_cons_of_mem _ hp) (List.forall_mem_cons.mpr ⟨off, List.forall_mem_nil _⟩) (List.forall_mem_cons.mpr ⟨rfl, List.forall_mem_nil _⟩) (by ksw_same) ?_
      rw [hnx]; rfl
    · have hy0 : y ≠ [] := by
        intro e; subst e
        have h9 : ([] : List Nat).isEmpty = false := by assumption
        cases h9
      have hD : (d ++ decLn y).length ≤ 1000 := by rw [← hnx]; exact dec_bound l (i + 1) hl
      have hdl : decLn y = decW 0 y := by unfold decLn; rw [if_neg hy0]
      rw [hdl] at hnx hD
      refine while_out (σ := Nat × Tok × List Nat × Tok) (fun _ => (I, oI) :: (D', listOf vs'.toArray 0) :: news) (fun c => [(Str.ofString "i", .int (c.1 : Int) c.2.1), (Str.ofString "decoded", .str (S c.2.2.1) c.2.2.2)]) [Str.ofString "c"]
        (fun c => c.1 ≤ y.length ∧ c.2.2.1 ++ decW 0 (y.drop c.1) = d ++ decW 0 y) (fun c => c.2.2.1 = d ++ decW 0 y) (fun c => y.length - c.1) (0, _, d, td) (by k_asm) (by k_asm) (List.forall_mem_cons.mpr ⟨rfl, List.forall_mem_cons.mpr ⟨rfl, List.forall_mem_nil _⟩⟩) ⟨Nat.zero_le _, rfl⟩ ?wturn ?wafter
      case wturn =>
        rintro ⟨n, tn, z, tz⟩ u2 h2 tk2 ⟨e1, e2⟩ F3 N3
        dsimp only [kstB] at e1 e2 F3 N3
        have hz := congrArg List.length e2
        simp only [List.length_append] at hz hD
        (repeat' (first | (k_unfold; (try dsimp only)) | ((first | (((with_reducible show wpAny _ _ (call (Value.builtin "str.endswith") [Value.str (S _) _, Value.str _ _]) _ _ _); refine l_ends (by walk_at "lit") ?_)) | (((with_reducible show wpAny _ _ (compareOp CmpOp.NotIn (Value.str _ _) (Value.str _ _)) _ _ _); refine l_notin (by walk_at "lit") (by walk_at "lit") ?_)) | (((with_reducible show wpAny _ _ (compareOp CmpOp.In (Value.str _ _) (Value.str _ _)) _ _ _); refine l_in (by walk_at "lit") (by walk_at "lit") ?_)) | (((with_reducible show wpAny _ _ (compareOp CmpOp.NotEq (Value.str _ _) (Value.str _ _)) _ _ _); refine l_ne (by walk_at "lit") (by walk_at "lit") ?_)) | (((with_reducible show wpAny _ _ (inplaceOp Operator.Add (Value.str _ _) (Value.str _ _)) _ _ _); refine l_iadd (by walk_at "lit") (by walk_at "lit") (by walk_at "num") ?_; intro _ _)) | (((with_reducible show wpAny _ _ (call (Value.builtin "len") [Value.str (S _) _]) _ _ _); refine s_len (by walk_at "num") ?_; intro _ _)) | (((with_reducible rename Fr _ _ _ _ => F'); (with_reducible rename News _ _ _ _ => N'); first | ((with_reducible show wpAny _ _ (subscriptTail _ (Expr.Slice (some _) (some _) none _) (Value.str (S _) _) _) _ _ _); refine s_slice_ss (s := ⟨_, _, _, _, _⟩) F' N' (by walk_at "num") (by walk_at "num") (by walk_at "num") (by walk_at "num") ?_; intro _ _ _ _ _) | ((with_reducible show wpAny _ _ (subscriptTail _ (Expr.Slice (some (Expr.UnaryOp _ _ _)) none none _) (Value.str (S _) _) _) _ _ _); refine s_slice_last (s := ⟨_, _, _, _, _⟩) F' N' (by walk_at "num") ?_; intro _ _ _ _ _) | ((with_reducible show wpAny _ _ (subscriptTail _ (Expr.Slice (some _) none none _) (Value.str (S _) _) _) _ _ _); refine s_slice_sn (s := ⟨_, _, _, _, _⟩) F' N' (by walk_at "num") (by walk_at "num") (by walk_at "num") ?_; intro _ _ _ _ _) | ((with_reducible show wpAny _ _ (subscriptTail _ (Expr.Slice none (some _) none _) (Value.str (S _) _) _) _ _ _); refine s_slice_init (s := ⟨_, _, _, _, _⟩) F' N' (by walk_at "num") (by walk_at "num") ?_; intro _ _ _ _ _))) | (((with_reducible show wpAny _ _ (subscriptTail _ _ (Value.str (S _) _) (Value.int _ _)) _ _ _); first | (with_reducible refine s_item_neg (by walk_at "num") (by walk_at "num") ?_; intro _ _) | (refine s_item (by walk_at "num") (by walk_at "num") (by walk_at "num") ?_; intro _ _))) | (((with_reducible show wpAny _ _ (truthy (Value.str (S _) _)) _ _ _); refine s_truthy (by walk_at "num") ?_; intro _)))) | ((fail_if_success (with_reducible (first | show wpAny _ _ (exec (Stmt.While _ _ _ _) _) _ _ _ | show wpAny _ _ (call (Value.ref _) _) _ _ _ | show wpAny _ _ (call (Value.type "int") _) _ _ _ | show wpAny _ _ (exec (Stmt.For _ _ _ _ _) _) _ _ _ | show LpEnd _ _ _ _ _ _ _ _ _ _ | show wpAny _ _ (call (Value.builtin "str.rstrip") _) _ _ _ | show wpAny _ _ (call (Value.builtin "str.splitlines") _) _ _ _ | show wpAny _ _ (pyIter _) _ _ _ | show OutQ _ _ _ _ _ _ _ _ _ _ | show KswEnd _ _ _ _ _ _ _ _ _ _ _ _))); first | walk1 | (dsimp only; walk1))))
        all_goals simp only [Int.toNat_natCast, tn1, tn2, tn3, List.cons.injEq, and_true] at *
        · refine ksw_end (n + 1, _, z, _) (by k_asm) (by k_asm) (fun _ h => h) trivial (by refine List.forall_mem_cons.mpr ⟨?_, List.forall_mem_cons.mpr ⟨?_, List.forall_mem_nil _⟩⟩ <;> first | exact rfl | exact intEq (by omega)) (by ksw_same) ⟨by dsimp only; omega, ?_⟩ (by dsimp only; omega)
          dsimp only
          rw [← e2, dw_soft (y := y) (n := n) (by omega) (by assumption), show y.drop (n + 1) = [] from List.drop_eq_nil_iff.mpr (by omega)]
          rfl
        · have hx : y.getD (n + 1) 0 ∈ hexL := by assumption
          have hy : y.getD (n + 2) 0 ∈ hexL := by assumption
          rw [esc_text (by omega) (by assumption)]
          refine unq_spec B' (by k_asm) X' T' rfl (by k_asm) (by ktr_room) hx hy ?_
          intro t4 h4 tk4 F4 N4
          (repeat' (first | (k_unfold; (try dsimp only)) | ((first | (((with_reducible show wpAny _ _ (call (Value.builtin "str.endswith") [Value.str (S _) _, Value.str _ _]) _ _ _); refine l_ends (by walk_at "lit") ?_)) | (((with_reducible show wpAny _ _ (compareOp CmpOp.NotIn (Value.str _ _) (Value.str _ _)) _ _ _); refine l_notin (by walk_at "lit") (by walk_at "lit") ?_)) | (((with_reducible show wpAny _ _ (compareOp CmpOp.In (Value.str _ _) (Value.str _ _)) _ _ _); refine l_in (by walk_at "lit") (by walk_at "lit") ?_)) | (((with_reducible show wpAny _ _ (compareOp CmpOp.NotEq (Value.str _ _) (Value.str _ _)) _ _ _); refine l_ne (by walk_at "lit") (by walk_at "lit") ?_)) | (((with_reducible show wpAny _ _ (inplaceOp Operator.Add (Value.str _ _) (Value.str _ _)) _ _ _); refine l_iadd (by walk_at "lit") (by walk_at "lit") (by walk_at "num") ?_; intro _ _)) | (((with_reducible show wpAny _ _ (call (Value.builtin "len") [Value.str (S _) _]) _ _ _); refine s_len (by walk_at "num") ?_; intro _ _)) | (((with_reducible rename Fr _ _ _ _ => F'); (with_reducible rename News _ _ _ _ => N'); first | ((with_reducible show wpAny _ _ (subscriptTail _ (Expr.Slice (some _) (some _) none _) (Value.str (S _) _) _) _ _ _); refine s_slice_ss (s := ⟨_, _, _, _, _⟩) F' N' (by walk_at "num") (by walk_at "num") (by walk_at "num") (by walk_at "num") ?_; intro _ _ _ _ _) | ((with_reducible show wpAny _ _ (subscriptTail _ (Expr.Slice (some (Expr.UnaryOp _ _ _)) none none _) (Value.str (S _) _) _) _ _ _); refine s_slice_last (s := ⟨_, _, _, _, _⟩) F' N' (by walk_at "num") ?_; intro _ _ _ _ _) | ((with_reducible show wpAny _ _ (subscriptTail _ (Expr.Slice (some _) none none _) (Value.str (S _) _) _) _ _ _); refine s_slice_sn (s := ⟨_, _, _, _, _⟩) F' N' (by walk_at "num") (by walk_at "num") (by walk_at "num") ?_; intro _ _ _ _ _) | ((with_reducible show wpAny _ _ (subscriptTail _ (Expr.Slice none (some _) none _) (Value.str (S _) _) _) _ _ _); refine s_slice_init (s := ⟨_, _, _, _, _⟩) F' N' (by walk_at "num") (by walk_at "num") ?_; intro _ _ _ _ _))) | (((with_reducible show wpAny _ _ (subscriptTail _ _ (Value.str (S _) _) (Value.int _ _)) _ _ _); first | (with_reducible refine s_item_neg (by walk_at "num") (by walk_at "num") ?_; intro _ _) | (refine s_item (by walk_at "num") (by walk_at "num") (by walk_at "num") ?_; intro _ _))) | (((with_reducible show wpAny _ _ (truthy (Value.str (S _) _)) _ _ _); refine s_truthy (by walk_at "num") ?_; intro _)))) | ((fail_if_success (with_reducible (first | show wpAny _ _ (exec (Stmt.While _ _ _ _) _) _ _ _ | show wpAny _ _ (call (Value.ref _) _) _ _ _ | show wpAny _ _ (call (Value.type "int") _) _ _ _ | show wpAny _ _ (exec (Stmt.For _ _ _ _ _) _) _ _ _ | show LpEnd _ _ _ _ _ _ _ _ _ _ | show wpAny _ _ (call (Value.builtin "str.rstrip") _) _ _ _ | show wpAny _ _ (call (Value.builtin "str.splitlines") _) _ _ _ | show wpAny _ _ (pyIter _) _ _ _ | show OutQ _ _ _ _ _ _ _ _ _ _ | show KswEnd _ _ _ _ _ _ _ _ _ _ _ _))); first | walk1 | (dsimp only; walk1))))
          · refine ksw_end (n + 3, _, z ++ [_] ++ [10], _) (by k_asm) (by k_asm) (fun _ h => h) trivial (by refine List.forall_mem_cons.mpr ⟨?_, List.forall_mem_cons.mpr ⟨?_, List.forall_mem_nil _⟩⟩ <;> first | exact rfl | exact intEq (by omega)) (by ksw_same) ⟨by dsimp only; omega, ?_⟩ (by dsimp only; omega)
            dsimp only
            rw [← e2, dw_esc (y := y) (n := n) (by omega) (by assumption) hx hy, if_pos (by omega), show y.drop (n + 3) = [] from List.drop_eq_nil_iff.mpr (by omega)]
            simp [decW]
          · refine ksw_end (n + 3, _, z ++ [_], _) (by k_asm) (by k_asm) (fun _ h => h) trivial (by refine List.forall_mem_cons.mpr ⟨?_, List.forall_mem_cons.mpr ⟨?_, List.forall_mem_nil _⟩⟩ <;> first | exact rfl | exact intEq (by omega)) (by ksw_same) ⟨by dsimp only; omega, ?_⟩ (by dsimp only; omega)
            dsimp only
            rw [← e2, dw_esc (y := y) (n := n) (by omega) (by assumption) hx hy, if_neg (by omega)]
            simp
        all_goals (try (exfalso; omega))
        · have hc : y.getD n 0 = 61 := by assumption
          have hne : ¬ (n + 2 < y.length ∧ y.getD (n + 1) 0 ∈ hexL ∧ y.getD (n + 2) 0 ∈ hexL) := fun z => absurd z.2.2 (by assumption)
          refine ksw_end (n + 1, _, z ++ [y.getD n 0], _) (by k_asm) (by k_asm) (fun _ h => h) trivial (by refine List.forall_mem_cons.mpr ⟨?_, List.forall_mem_cons.mpr ⟨?_, List.forall_mem_nil _⟩⟩ <;> first | exact rfl | exact intEq (by omega)) (by ksw_same) ⟨by dsimp only; omega, ?_⟩ (by dsimp only; omega)
          dsimp only
          rw [← e2, dw_else (y := y) (n := n) (by omega) hc (by omega) hne, hc]
          simp
        · have hc : y.getD n 0 = 61 := by assumption
          have hne : ¬ (n + 2 < y.length ∧ y.getD (n + 1) 0 ∈ hexL ∧ y.getD (n + 2) 0 ∈ hexL) := fun z => absurd z.2.1 (by assumption)
          refine ksw_end (n + 1, _, z ++ [y.getD n 0], _) (by k_asm) (by k_asm) (fun _ h => h) trivial (by refine List.forall_mem_cons.mpr ⟨?_, List.forall_mem_cons.mpr ⟨?_, List.forall_mem_nil _⟩⟩ <;> first | exact rfl | exact intEq (by omega)) (by ksw_same) ⟨by dsimp only; omega, ?_⟩ (by dsimp only; omega)
          dsimp only
          rw [← e2, dw_else (y := y) (n := n) (by omega) hc (by omega) hne, hc]
          simp
        · have hc : y.getD n 0 = 61 := by assumption
          have hne : ¬ (n + 2 < y.length ∧ y.getD (n + 1) 0 ∈ hexL ∧ y.getD (n + 2) 0 ∈ hexL) := fun z => absurd z.1 (by omega)
          refine ksw_end (n + 1, _, z ++ [y.getD n 0], _) (by k_asm) (by k_asm) (fun _ h => h) trivial (by refine List.forall_mem_cons.mpr ⟨?_, List.forall_mem_cons.mpr ⟨?_, List.forall_mem_nil _⟩⟩ <;> first | exact rfl | exact intEq (by omega)) (by ksw_same) ⟨by dsimp only; omega, ?_⟩ (by dsimp only; omega)
          dsimp only
          rw [← e2, dw_else (y := y) (n := n) (by omega) hc (by omega) hne, hc]
          simp
        · refine ksw_end (n + 1, _, z ++ [_] ++ [10], _) (by k_asm) (by k_asm) (fun _ h => h) trivial (by refine List.forall_mem_cons.mpr ⟨?_, List.forall_mem_cons.mpr ⟨?_, List.forall_mem_nil _⟩⟩ <;> first | exact rfl | exact intEq (by omega)) (by ksw_same) ⟨by dsimp only; omega, ?_⟩ (by dsimp only; omega)
          dsimp only
          rw [← e2, dw_plain (y := y) (n := n) (by omega) (by assumption), if_pos (by omega), show y.drop (n + 1) = [] from List.drop_eq_nil_iff.mpr (by omega)]
          simp [decW]
        · refine ksw_end (n + 1, _, z ++ [_], _) (by k_asm) (by k_asm) (fun _ h => h) trivial (by refine List.forall_mem_cons.mpr ⟨?_, List.forall_mem_cons.mpr ⟨?_, List.forall_mem_nil _⟩⟩ <;> first | exact rfl | exact intEq (by omega)) (by ksw_same) ⟨by dsimp only; omega, ?_⟩ (by dsimp only; omega)
          dsimp only
          rw [← e2, dw_plain (y := y) (n := n) (by omega) (by assumption), if_neg (by omega)]
          simp
        · refine outQ (n, tn, z, tz) (by k_asm) (by k_asm) (fun _ h => h) (List.forall_mem_cons.mpr ⟨rfl, List.forall_mem_cons.mpr ⟨rfl, List.forall_mem_nil _⟩⟩) (by ksw_same) ?_
          dsimp only
          rw [← e2, show y.drop n = [] from List.drop_eq_nil_iff.mpr (by omega)]
          simp [decW]
      case wafter =>
        rintro ⟨n, tn, z, tz⟩ u2 h2 tk2 e1 F3 N3
        dsimp only [kstB] at e1 F3 N3
        (repeat' (first | (k_unfold; (try dsimp only)) | ((first | (((with_reducible show wpAny _ _ (call (Value.builtin "str.endswith") [Value.str (S _) _, Value.str _ _]) _ _ _); refine l_ends (by walk_at "lit") ?_)) | (((with_reducible show wpAny _ _ (compareOp CmpOp.NotIn (Value.str _ _) (Value.str _ _)) _ _ _); refine l_notin (by walk_at "lit") (by walk_at "lit") ?_)) | (((with_reducible show wpAny _ _ (compareOp CmpOp.In (Value.str _ _) (Value.str _ _)) _ _ _); refine l_in (by walk_at "lit") (by walk_at "lit") ?_)) | (((with_reducible show wpAny _ _ (compareOp CmpOp.NotEq (Value.str _ _) (Value.str _ _)) _ _ _); refine l_ne (by walk_at "lit") (by walk_at "lit") ?_)) | (((with_reducible show wpAny _ _ (inplaceOp Operator.Add (Value.str _ _) (Value.str _ _)) _ _ _); refine l_iadd (by walk_at "lit") (by walk_at "lit") (by walk_at "num") ?_; intro _ _)) | (((with_reducible show wpAny _ _ (call (Value.builtin "len") [Value.str (S _) _]) _ _ _); refine s_len (by walk_at "num") ?_; intro _ _)) | (((with_reducible rename Fr _ _ _ _ => F'); (with_reducible rename News _ _ _ _ => N'); first | ((with_reducible show wpAny _ _ (subscriptTail _ (Expr.Slice (some _) (some _) none _) (Value.str (S _) _) _) _ _ _); refine s_slice_ss (s := ⟨_, _, _, _, _⟩) F' N' (by walk_at "num") (by walk_at "num") (by walk_at "num") (by walk_at "num") ?_; intro _ _ _ _ _) | ((with_reducible show wpAny _ _ (subscriptTail _ (Expr.Slice (some (Expr.UnaryOp _ _ _)) none none _) (Value.str (S _) _) _) _ _ _); refine s_slice_last (s := ⟨_, _, _, _, _⟩) F' N' (by walk_at "num") ?_; intro _ _ _ _ _) | ((with_reducible show wpAny _ _ (subscriptTail _ (Expr.Slice (some _) none none _) (Value.str (S _) _) _) _ _ _); refine s_slice_sn (s := ⟨_, _, _, _, _⟩) F' N' (by walk_at "num") (by walk_at "num") (by walk_at "num") ?_; intro _ _ _ _ _) | ((with_reducible show wpAny _ _ (subscriptTail _ (Expr.Slice none (some _) none _) (Value.str (S _) _) _) _ _ _); refine s_slice_init (s := ⟨_, _, _, _, _⟩) F' N' (by walk_at "num") (by walk_at "num") ?_; intro _ _ _ _ _))) | (((with_reducible show wpAny _ _ (subscriptTail _ _ (Value.str (S _) _) (Value.int _ _)) _ _ _); first | (with_reducible refine s_item_neg (by walk_at "num") (by walk_at "num") ?_; intro _ _) | (refine s_item (by walk_at "num") (by walk_at "num") (by walk_at "num") ?_; intro _ _))) | (((with_reducible show wpAny _ _ (truthy (Value.str (S _) _)) _ _ _); refine s_truthy (by walk_at "num") ?_; intro _)))) | ((fail_if_success (with_reducible (first | show wpAny _ _ (exec (Stmt.While _ _ _ _) _) _ _ _ | show wpAny _ _ (call (Value.ref _) _) _ _ _ | show wpAny _ _ (call (Value.type "int") _) _ _ _ | show wpAny _ _ (exec (Stmt.For _ _ _ _ _) _) _ _ _ | show LpEnd _ _ _ _ _ _ _ _ _ _ | show wpAny _ _ (call (Value.builtin "str.rstrip") _) _ _ _ | show wpAny _ _ (call (Value.builtin "str.splitlines") _) _ _ _ | show wpAny _ _ (pyIter _) _ _ _ | show OutQ _ _ _ _ _ _ _ _ _ _ | show KswEnd _ _ _ _ _ _ _ _ _ _ _ _))); first | walk1 | (dsimp only; walk1))))
        refine lp_end (z, tz) rfl (by k_asm) (by k_asm) (List.forall_mem_cons.mpr ⟨List.mem_cons_self, List.forall_mem_nil _⟩) (fun p hp => List.mem_cons_of_mem _ hp) (List.forall_mem_cons.mpr ⟨off, List.forall_mem_nil _⟩) (List.forall_mem_cons.mpr ⟨rfl, List.forall_mem_nil _⟩) (by ksw_same) ?_
        rw [hnx]; exact e1
  case after =>
    rintro ⟨d, td⟩ u g hh tk hP hC F2 N2
    subst hC
    dsimp only [kstB] at hP F2 N2
    have hd2 := dec_bound l vs'.toArray.size hl
    rw [← hP] at hd2
    rw [List.size_toArray, e'.length, List.take_length] at hP
    have hlast := last_getD hl0
    (repeat' (first | (k_unfold; (try dsimp only)) | ((first | (((with_reducible show wpAny _ _ (call (Value.builtin "str.endswith") [Value.str (S _) _, Value.str _ _]) _ _ _); refine l_ends (by walk_at "lit") ?_)) | (((with_reducible show wpAny _ _ (compareOp CmpOp.NotIn (Value.str _ _) (Value.str _ _)) _ _ _); refine l_notin (by walk_at "lit") (by walk_at "lit") ?_)) | (((with_reducible show wpAny _ _ (compareOp CmpOp.In (Value.str _ _) (Value.str _ _)) _ _ _); refine l_in (by walk_at "lit") (by walk_at "lit") ?_)) | (((with_reducible show wpAny _ _ (compareOp CmpOp.NotEq (Value.str _ _) (Value.str _ _)) _ _ _); refine l_ne (by walk_at "lit") (by walk_at "lit") ?_)) | (((with_reducible show wpAny _ _ (inplaceOp Operator.Add (Value.str _ _) (Value.str _ _)) _ _ _); refine l_iadd (by walk_at "lit") (by walk_at "lit") (by walk_at "num") ?_; intro _ _)) | (((with_reducible show wpAny _ _ (call (Value.builtin "len") [Value.str (S _) _]) _ _ _); refine s_len (by walk_at "num") ?_; intro _ _)) | (((with_reducible rename Fr _ _ _ _ => F'); (with_reducible rename News _ _ _ _ => N'); first | ((with_reducible show wpAny _ _ (subscriptTail _ (Expr.Slice (some _) (some _) none _) (Value.str (S _) _) _) _ _ _); refine s_slice_ss (s := ⟨_, _, _, _, _⟩) F' N' (by walk_at "num") (by walk_at "num") (by walk_at "num") (by walk_at "num") ?_; intro _ _ _ _ _) | ((with_reducible show wpAny _ _ (subscriptTail _ (Expr.Slice (some (Expr.UnaryOp _ _ _)) none none _) (Value.str (S _) _) _) _ _ _); refine s_slice_last (s := ⟨_, _, _, _, _⟩) F' N' (by walk_at "num") ?_; intro _ _ _ _ _) | ((with_reducible show wpAny _ _ (subscriptTail _ (Expr.Slice (some _) none none _) (Value.str (S _) _) _) _ _ _); refine s_slice_sn (s := ⟨_, _, _, _, _⟩) F' N' (by walk_at "num") (by walk_at "num") (by walk_at "num") ?_; intro _ _ _ _ _) | ((with_reducible show wpAny _ _ (subscriptTail _ (Expr.Slice none (some _) none _) (Value.str (S _) _) _) _ _ _); refine s_slice_init (s := ⟨_, _, _, _, _⟩) F' N' (by walk_at "num") (by walk_at "num") ?_; intro _ _ _ _ _))) | (((with_reducible show wpAny _ _ (subscriptTail _ _ (Value.str (S _) _) (Value.int _ _)) _ _ _); first | (with_reducible refine s_item_neg (by walk_at "num") (by walk_at "num") ?_; intro _ _) | (refine s_item (by walk_at "num") (by walk_at "num") (by walk_at "num") ?_; intro _ _))) | (((with_reducible show wpAny _ _ (truthy (Value.str (S _) _)) _ _ _); refine s_truthy (by walk_at "num") ?_; intro _)))) | ((fail_if_success (with_reducible (first | show wpAny _ _ (exec (Stmt.While _ _ _ _) _) _ _ _ | show wpAny _ _ (call (Value.ref _) _) _ _ _ | show wpAny _ _ (call (Value.type "int") _) _ _ _ | show wpAny _ _ (exec (Stmt.For _ _ _ _ _) _) _ _ _ | show LpEnd _ _ _ _ _ _ _ _ _ _ | show wpAny _ _ (call (Value.builtin "str.rstrip") _) _ _ _ | show wpAny _ _ (call (Value.builtin "str.splitlines") _) _ _ _ | show wpAny _ _ (pyIter _) _ _ _ | show OutQ _ _ _ _ _ _ _ _ _ _ | show KswEnd _ _ _ _ _ _ _ _ _ _ _ _))); first | walk1 | (dsimp only; walk1))))
    · rw [dec_hard hlast (by assumption) hP]
      exact hret _ _ _ (by k_asm) (news_tl (by assumption))
    · rw [dec_cut hlast (by assumption) hP (by assumption)]
      exact hret _ _ _ (by k_asm) (news_tl (by assumption))
    · rw [dec_keep hlast (by assumption) hP (by assumption)]
      exact hret _ _ _ (by k_asm) (news_tl (by assumption))
end
end
section
set_option Elab.async false
set_option maxRecDepth 100000
set_option maxHeartbeats 8000000
noncomputable def brkF : Nat → List (List Nat) → List Int
  | _, [] => []
  | p, y :: r => if y.getLast? = some 61 then ((p + (decAll y).length : Nat) : Int) :: brkF (p + (decAll y).length) r else brkF (p + (decAll y).length + 1) r
theorem brk_cons {ls : List (List Nat)} {i p : Nat} (h : i < ls.length) : brkF p (ls.drop i) = if (ls.getD i []).getLast? = some 61 then ((p + (decAll (ls.getD i [])).length : Nat) : Int) :: brkF (p + (decAll (ls.getD i [])).length) (ls.drop (i + 1)) else brkF (p + (decAll (ls.getD i [])).length + 1) (ls.drop (i + 1)) := by
  rw [List.drop_eq_getElem_cons h, brkF, List.getD_eq_getElem?_getD, List.getElem?_eq_getElem h]; rfl
theorem decAll_len {y : List Nat} (h : y.length < 1000) : (decAll y).length < 2000 := by
  have h1 := dec_bound y (linesG false y).length h
  rw [List.take_length] at h1
  unfold decAll
  dsimp only
  split
  · omega
  · split
    · rw [List.length_dropLast]; omega
    · omega
theorem last_iff {y : List Nat} {c : Nat} : y.drop (y.length - 1) = [c] ↔ y.getLast? = some c := by
  cases h : y.reverse with
  | nil =>
    have : y = [] := by simpa using h
    subst this; simp
  | cons b r =>
    have : y = r.reverse ++ [b] := by rw [← List.reverse_reverse y, h, List.reverse_cons]
    subst this
    simp
theorem int_app {n : Int} {t : Tok} : ∀ {vs : List Value} {xs : List Int}, IntsAre vs xs → IntsAre (vs ++ [.int n t]) (xs ++ [n])
  | _, _, .nil => .cons n t .nil
  | _, _, .cons i u h => .cons i u (int_app h)
theorem allLt_off {d : Addr} : ∀ {l : List (Addr × Obj)}, AllLt d l → ∀ p ∈ l, p.1 ≠ d
  | [], _, _, hp => (nomatch hp)
  | q :: r, h, p, hp => by
    rcases List.mem_cons.mp hp with rfl | hp
    · exact Nat.ne_of_lt h.1
    · exact allLt_off h.2 p hp
theorem news_swp {g h : Heap} {L : Addr} {p1 p2 : Addr × Obj} {r : List (Addr × Obj)} (N : News g L h (p1 :: p2 :: r)) : News g L h (p2 :: p1 :: r) := fun p hp => N p (by
  simp only [List.mem_cons] at hp ⊢
  rcases hp with h | h | h
  · exact .inr (.inl h)
  · exact .inl h
  · exact .inr (.inr h))
section
variable {w : World} {mean : ExcName → Option Value} {mg mb : Str → Option Value}
    {dp un : Nat} {gd : Option (List Code)} {cn : Str} {cs : Scope} {a : Addr} {ccd : Value} {cl : List (Str × Addr)} {outer : List Env} {A₀ : Around} {base h₀ : Heap} {L : Addr} {m : Str → Option Value} {s : Shared} {Q E : Value → Shared → Prop}
    (B : Below A₀ base outer h₀) (F : Fr h₀ L s.heap m) (X : (Kf w.params).In h₀) (T : Top q (looseW q loose) mean mg mb h₀) (hk : cs.kind = .function)
include B F X T hk
theorem brk_spec {l : Addr} {vs : List Value} {ls : List (List Nat)} {c : Nat} {news : List (Addr × Obj)} (N : News h₀ L s.heap ((l, listOf vs.toArray c) :: news)) (hd : dp + 3 < recursionLimit) (hu : un + 32 < cLine) (hi : TxtsAre vs ls) (hn : ls.length < 100)
    (hl : ∀ y ∈ ls, y.length < 1000) (hs : ∀ z ∈ ls, ∀ y ∈ linesG false z, ∀ c ∈ y, Unicode.isSpace c = false)
    (hret : ∀ lm ms cm h' tk', Fr h₀ L h' m → News h₀ L h' ((lm, listOf ms.toArray cm) :: (l, listOf vs.toArray c) :: news) → (l < lm ∧ AllLt lm news) → IntsAre ms (brkF 0 ls) → Q (.ref lm) { s with heap := h', toks := tk' }) :
    wpAny (model PySem.Challenge.rw_op0130_01.prog w) (ktrTop dp un gd cn cs L a ccd cl outer) (call (.ref 148) [.ref l]) Q E s := by
  revert X; k_fill; intro X
  refine wpAny_call ?_
  k_dflt (refine' code_def (binds := [(Str.ofString "lines", .ref l)]) ?k1 ?k2 ?k3 ?k4 ?k5 ?kA ?kF ?kK ?k6 ?k7 ?k8 ?k9 ?kB ?_ ?c2 ?c3 ?c4 ?c5; (((case kA => exact rfl); (case kF => exact rfl); (case kK => assumption); (case k1 => k_asm); (case k2 => k_asm); (case k3 => k_asm); (case k4 => k_asm); (case k5 => k_asm); (case k6 => k_is); (case k7 => k_is); (case k8 => ktr_room); (case c5 => decide); (case kB => exact locs rfl); (case c2 => exact rfl); (case c3 => exact rfl); (case c4 => exact rfl))); (case k9 => exact BindsTo.of_eq rfl);  k_whole; intro g' L' h' FG' F' N' B' X' T'; (try dsimp only); (try k_fold))
  (repeat' (first | (k_unfold; (try dsimp only)) | ((first | (((with_reducible show wpAny _ _ (compareOp CmpOp.Eq (Value.str _ _) (Value.str _ _)) _ _ _); refine l_eq (by walk_at "lit") (by walk_at "lit") ?_)) | (((with_reducible show wpAny _ _ (call (Value.builtin "len") [Value.str (S _) _]) _ _ _); refine s_len (by walk_at "num") ?_; intro _ _)) | (((with_reducible rename Fr _ _ _ _ => F'); (with_reducible rename News _ _ _ _ => N'); first | ((with_reducible show wpAny _ _ (subscriptTail _ (Expr.Slice (some _) (some _) none _) (Value.str (S _) _) _) _ _ _); refine s_slice_ss (s := ⟨_, _, _, _, _⟩) F' N' (by walk_at "num") (by walk_at "num") (by walk_at "num") (by walk_at "num") ?_; intro _ _ _ _ _) | ((with_reducible show wpAny _ _ (subscriptTail _ (Expr.Slice (some (Expr.UnaryOp _ _ _)) none none _) (Value.str (S _) _) _) _ _ _); refine s_slice_last (s := ⟨_, _, _, _, _⟩) F' N' (by walk_at "num") ?_; intro _ _ _ _ _) | ((with_reducible show wpAny _ _ (subscriptTail _ (Expr.Slice (some _) none none _) (Value.str (S _) _) _) _ _ _); refine s_slice_sn (s := ⟨_, _, _, _, _⟩) F' N' (by walk_at "num") (by walk_at "num") (by walk_at "num") ?_; intro _ _ _ _ _) | ((with_reducible show wpAny _ _ (subscriptTail _ (Expr.Slice none (some _) none _) (Value.str (S _) _) _) _ _ _); refine s_slice_init (s := ⟨_, _, _, _, _⟩) F' N' (by walk_at "num") (by walk_at "num") ?_; intro _ _ _ _ _))))) | ((fail_if_success (with_reducible (first | show wpAny _ _ (exec (Stmt.While _ _ _ _) _) _ _ _ | show wpAny _ _ (call (Value.ref _) _) _ _ _ | show wpAny _ _ (call (Value.type "int") _) _ _ _ | show wpAny _ _ (exec (Stmt.For _ _ _ _ _) _) _ _ _ | show LpEnd _ _ _ _ _ _ _ _ _ _ | show wpAny _ _ (call (Value.builtin "str.rstrip") _) _ _ _ | show wpAny _ _ (call (Value.builtin "str.splitlines") _) _ _ _ | show wpAny _ _ (pyIter _) _ _ _ | show OutQ _ _ _ _ _ _ _ _ _ _ | show KswEnd _ _ _ _ _ _ _ _ _ _ _ _))); first | walk1 | (dsimp only; walk1))))
  refine wpAny_For ?_
  (repeat' (first | (k_unfold; (try dsimp only)) | ((first | (((with_reducible show wpAny _ _ (compareOp CmpOp.Eq (Value.str _ _) (Value.str _ _)) _ _ _); refine l_eq (by walk_at "lit") (by walk_at "lit") ?_)) | (((with_reducible show wpAny _ _ (call (Value.builtin "len") [Value.str (S _) _]) _ _ _); refine s_len (by walk_at "num") ?_; intro _ _)) | (((with_reducible rename Fr _ _ _ _ => F'); (with_reducible rename News _ _ _ _ => N'); first | ((with_reducible show wpAny _ _ (subscriptTail _ (Expr.Slice (some _) (some _) none _) (Value.str (S _) _) _) _ _ _); refine s_slice_ss (s := ⟨_, _, _, _, _⟩) F' N' (by walk_at "num") (by walk_at "num") (by walk_at "num") (by walk_at "num") ?_; intro _ _ _ _ _) | ((with_reducible show wpAny _ _ (subscriptTail _ (Expr.Slice (some (Expr.UnaryOp _ _ _)) none none _) (Value.str (S _) _) _) _ _ _); refine s_slice_last (s := ⟨_, _, _, _, _⟩) F' N' (by walk_at "num") ?_; intro _ _ _ _ _) | ((with_reducible show wpAny _ _ (subscriptTail _ (Expr.Slice (some _) none none _) (Value.str (S _) _) _) _ _ _); refine s_slice_sn (s := ⟨_, _, _, _, _⟩) F' N' (by walk_at "num") (by walk_at "num") (by walk_at "num") ?_; intro _ _ _ _ _) | ((with_reducible show wpAny _ _ (subscriptTail _ (Expr.Slice none (some _) none _) (Value.str (S _) _) _) _ _ _); refine s_slice_init (s := ⟨_, _, _, _, _⟩) F' N' (by walk_at "num") (by walk_at "num") ?_; intro _ _ _ _ _))))) | ((fail_if_success (with_reducible (first | show wpAny _ _ (exec (Stmt.While _ _ _ _) _) _ _ _ | show wpAny _ _ (call (Value.ref _) _) _ _ _ | show wpAny _ _ (call (Value.type "int") _) _ _ _ | show wpAny _ _ (exec (Stmt.For _ _ _ _ _) _) _ _ _ | show LpEnd _ _ _ _ _ _ _ _ _ _ | show wpAny _ _ (call (Value.builtin "str.rstrip") _) _ _ _ | show wpAny _ _ (call (Value.builtin "str.splitlines") _) _ _ _ | show wpAny _ _ (pyIter _) _ _ _ | show OutQ _ _ _ _ _ _ _ _ _ _ | show KswEnd _ _ _ _ _ _ _ _ _ _ _ _))); first | walk1 | (dsimp only; walk1))))
  rename_i lb _ q1 _ F2 N2
  obtain ⟨q1a, q1b⟩ := q1
  refine for_list (σ := Nat × Tok × List Value × Nat) (fun g => g' = g) (fun c' => (lb, listOf c'.2.2.1.toArray c'.2.2.2) :: (l, listOf vs.toArray c) :: news) (fun c' => [(Str.ofString "place", .int (c'.1 : Int) c'.2.1)]) [Str.ofString "line"]
    (fun i c' => ∃ mi, IntsAre c'.2.2.1 mi ∧ c'.2.2.1.length ≤ i ∧ mi ++ brkF c'.1 (ls.drop i) = brkF 0 ls) (0, _, [], 0) rfl (fun _ => .tail _ (.head _)) rfl ⟨_, rfl⟩ (fun g hg b hb => by rw [← hg]; exact hb) rfl F2 N2 (List.forall_mem_cons.mpr ⟨rfl, List.forall_mem_nil _⟩) ⟨[], .nil, Nat.le_refl _, rfl⟩ ?turn ?after
  case turn =>
    rintro i v ⟨p, tp, ms, cm⟩ u g hh tk I oI hv ⟨mi, e1, e2, e3⟩ hC hit F3 N3 off
    subst hC
    obtain ⟨tv, rfl, hil⟩ := hi.get hv
    have e2x := Nat.lt_of_le_of_lt e2 hil
    dsimp only [kstB] at e1 e2 e3 F3 N3 off
    have hmem : ls.getD i [] ∈ ls := by rw [List.getD_eq_getElem?_getD, List.getElem?_eq_getElem hil]; exact List.getElem_mem hil
    have hyl := hl _ hmem
    have hys := hs _ hmem
    have hcn := brk_cons (p := p) hil
    generalize ls.getD i [] = y at *
    show wpAny _ _ (pure ()) _ _ _
    refine wpAny_pure ?_
    (repeat' (first | (k_unfold; (try dsimp only)) | ((first | (((with_reducible show wpAny _ _ (compareOp CmpOp.Eq (Value.str _ _) (Value.str _ _)) _ _ _); refine l_eq (by walk_at "lit") (by walk_at "lit") ?_)) | (((with_reducible show wpAny _ _ (call (Value.builtin "len") [Value.str (S _) _]) _ _ _); refine s_len (by walk_at "num") ?_; intro _ _)) | (((with_reducible rename Fr _ _ _ _ => F'); (with_reducible rename News _ _ _ _ => N'); first | ((with_reducible show wpAny _ _ (subscriptTail _ (Expr.Slice (some _) (some _) none _) (Value.str (S _) _) _) _ _ _); refine s_slice_ss (s := ⟨_, _, _, _, _⟩) F' N' (by walk_at "num") (by walk_at "num") (by walk_at "num") (by walk_at "num") ?_; intro _ _ _ _ _) | ((with_reducible show wpAny _ _ (subscriptTail _ (Expr.Slice (some (Expr.UnaryOp _ _ _)) none none _) (Value.str (S _) _) _) _ _ _); refine s_slice_last (s := ⟨_, _, _, _, _⟩) F' N' (by walk_at "num") ?_; intro _ _ _ _ _) | ((with_reducible show wpAny _ _ (subscriptTail _ (Expr.Slice (some _) none none _) (Value.str (S _) _) _) _ _ _); refine s_slice_sn (s := ⟨_, _, _, _, _⟩) F' N' (by walk_at "num") (by walk_at "num") (by walk_at "num") ?_; intro _ _ _ _ _) | ((with_reducible show wpAny _ _ (subscriptTail _ (Expr.Slice none (some _) none _) (Value.str (S _) _) _) _ _ _); refine s_slice_init (s := ⟨_, _, _, _, _⟩) F' N' (by walk_at "num") (by walk_at "num") ?_; intro _ _ _ _ _))))) | ((fail_if_success (with_reducible (first | show wpAny _ _ (exec (Stmt.While _ _ _ _) _) _ _ _ | show wpAny _ _ (call (Value.ref _) _) _ _ _ | show wpAny _ _ (call (Value.type "int") _) _ _ _ | show wpAny _ _ (exec (Stmt.For _ _ _ _ _) _) _ _ _ | show LpEnd _ _ _ _ _ _ _ _ _ _ | show wpAny _ _ (call (Value.builtin "str.rstrip") _) _ _ _ | show wpAny _ _ (call (Value.builtin "str.splitlines") _) _ _ _ | show wpAny _ _ (pyIter _) _ _ _ | show OutQ _ _ _ _ _ _ _ _ _ _ | show KswEnd _ _ _ _ _ _ _ _ _ _ _ _))); first | walk1 | (dsimp only; walk1))))
    refine dec_spec B' (by k_asm) X' T' rfl (by k_asm) (by ktr_room) (by ktr_units) hyl hys ?_
    intro t4 h4 tk4 F4 N4
    have hdl : (decAll y).length < 2000 := decAll_len hyl
    (repeat' (first | (k_unfold; (try dsimp only)) | ((first | (((with_reducible show wpAny _ _ (compareOp CmpOp.Eq (Value.str _ _) (Value.str _ _)) _ _ _); refine l_eq (by walk_at "lit") (by walk_at "lit") ?_)) | (((with_reducible show wpAny _ _ (call (Value.builtin "len") [Value.str (S _) _]) _ _ _); refine s_len (by walk_at "num") ?_; intro _ _)) | (((with_reducible rename Fr _ _ _ _ => F'); (with_reducible rename News _ _ _ _ => N'); first | ((with_reducible show wpAny _ _ (subscriptTail _ (Expr.Slice (some _) (some _) none _) (Value.str (S _) _) _) _ _ _); refine s_slice_ss (s := ⟨_, _, _, _, _⟩) F' N' (by walk_at "num") (by walk_at "num") (by walk_at "num") (by walk_at "num") ?_; intro _ _ _ _ _) | ((with_reducible show wpAny _ _ (subscriptTail _ (Expr.Slice (some (Expr.UnaryOp _ _ _)) none none _) (Value.str (S _) _) _) _ _ _); refine s_slice_last (s := ⟨_, _, _, _, _⟩) F' N' (by walk_at "num") ?_; intro _ _ _ _ _) | ((with_reducible show wpAny _ _ (subscriptTail _ (Expr.Slice (some _) none none _) (Value.str (S _) _) _) _ _ _); refine s_slice_sn (s := ⟨_, _, _, _, _⟩) F' N' (by walk_at "num") (by walk_at "num") (by walk_at "num") ?_; intro _ _ _ _ _) | ((with_reducible show wpAny _ _ (subscriptTail _ (Expr.Slice none (some _) none _) (Value.str (S _) _) _) _ _ _); refine s_slice_init (s := ⟨_, _, _, _, _⟩) F' N' (by walk_at "num") (by walk_at "num") ?_; intro _ _ _ _ _))))) | ((fail_if_success (with_reducible (first | show wpAny _ _ (exec (Stmt.While _ _ _ _) _) _ _ _ | show wpAny _ _ (call (Value.ref _) _) _ _ _ | show wpAny _ _ (call (Value.type "int") _) _ _ _ | show wpAny _ _ (exec (Stmt.For _ _ _ _ _) _) _ _ _ | show LpEnd _ _ _ _ _ _ _ _ _ _ | show wpAny _ _ (call (Value.builtin "str.rstrip") _) _ _ _ | show wpAny _ _ (call (Value.builtin "str.splitlines") _) _ _ _ | show wpAny _ _ (pyIter _) _ _ _ | show OutQ _ _ _ _ _ _ _ _ _ _ | show KswEnd _ _ _ _ _ _ _ _ _ _ _ _))); first | walk1 | (dsimp only; walk1))))
    · rename _ = [61] => hy
      rw [if_pos (last_iff.mp hy)] at hcn
      rename Fr _ _ _ _ => F9
      rename News _ _ _ _ => N9
      refine append_K F9 (news_swp N9) (.head (List.forall_mem_cons.mpr ⟨fun e => off _ (.head _) e.symm, List.forall_mem_cons.mpr ⟨Nat.ne_of_lt q1a, allLt_off q1b⟩⟩)) (fun h10 F10 N11 => ?_) (by rw [List.size_toArray, show sizeLine = 16777216 from rfl]; dsimp only at e2x; omega)
      obtain ⟨tt, N12⟩ : ∃ t, News g' L' h10 ((lb, listOf (ms ++ [Value.int ((p + (decAll y).length : Nat) : Int) t]).toArray (cm + 1)) :: (I, oI) :: (l, listOf vs.toArray c) :: news) := ⟨_, by simpa using N11⟩
      (repeat' (first | (k_unfold; (try dsimp only)) | ((first | (((with_reducible show wpAny _ _ (compareOp CmpOp.Eq (Value.str _ _) (Value.str _ _)) _ _ _); refine l_eq (by walk_at "lit") (by walk_at "lit") ?_)) | (((with_reducible show wpAny _ _ (call (Value.builtin "len") [Value.str (S _) _]) _ _ _); refine s_len (by walk_at "num") ?_; intro _ _)) | (((with_reducible rename Fr _ _ _ _ => F'); (with_reducible rename News _ _ _ _ => N'); first | ((with_reducible show wpAny _ _ (subscriptTail _ (Expr.Slice (some _) (some _) none _) (Value.str (S _) _) _) _ _ _); refine s_slice_ss (s := ⟨_, _, _, _, _⟩) F' N' (by walk_at "num") (by walk_at "num") (by walk_at "num") (by walk_at "num") ?_; intro _ _ _ _ _) | ((with_reducible show wpAny _ _ (subscriptTail _ (Expr.Slice (some (Expr.UnaryOp _ _ _)) none none _) (Value.str (S _) _) _) _ _ _); refine s_slice_last (s := ⟨_, _, _, _, _⟩) F' N' (by walk_at "num") ?_; intro _ _ _ _ _) | ((with_reducible show wpAny _ _ (subscriptTail _ (Expr.Slice (some _) none none _) (Value.str (S _) _) _) _ _ _); refine s_slice_sn (s := ⟨_, _, _, _, _⟩) F' N' (by walk_at "num") (by walk_at "num") (by walk_at "num") ?_; intro _ _ _ _ _) | ((with_reducible show wpAny _ _ (subscriptTail _ (Expr.Slice none (some _) none _) (Value.str (S _) _) _) _ _ _); refine s_slice_init (s := ⟨_, _, _, _, _⟩) F' N' (by walk_at "num") (by walk_at "num") ?_; intro _ _ _ _ _))))) | ((fail_if_success (with_reducible (first | show wpAny _ _ (exec (Stmt.While _ _ _ _) _) _ _ _ | show wpAny _ _ (call (Value.ref _) _) _ _ _ | show wpAny _ _ (call (Value.type "int") _) _ _ _ | show wpAny _ _ (exec (Stmt.For _ _ _ _ _) _) _ _ _ | show LpEnd _ _ _ _ _ _ _ _ _ _ | show wpAny _ _ (call (Value.builtin "str.rstrip") _) _ _ _ | show wpAny _ _ (call (Value.builtin "str.splitlines") _) _ _ _ | show wpAny _ _ (pyIter _) _ _ _ | show OutQ _ _ _ _ _ _ _ _ _ _ | show KswEnd _ _ _ _ _ _ _ _ _ _ _ _))); first | walk1 | (dsimp only; walk1))))
      refine lp_end (p + (decAll y).length, _, ms ++ [.int ((p + (decAll y).length : Nat) : Int) tt], cm + 1) rfl (by k_asm) N12 (List.forall_mem_cons.mpr ⟨.tail _ (.head _), List.forall_mem_nil _⟩) (fun p hp => ?_) (List.forall_mem_cons.mpr ⟨List.forall_mem_cons.mpr ⟨off (lb, listOf ms.toArray cm) (.head _), fun r hr => off r (.tail _ hr)⟩, List.forall_mem_nil _⟩) (List.forall_mem_cons.mpr ⟨rfl, List.forall_mem_nil _⟩) (by ksw_same) ⟨mi ++ [((p + (decAll y).length : Nat) : Int)], int_app e1, by simp; omega, ?_⟩
      · rcases List.mem_cons.mp hp with rfl | hp
        · exact .head _
        · exact .tail _ (.tail _ hp)
      rw [← e3, hcn]; simp
    · rename ¬ _ = [61] => hy
      rw [if_neg (fun h => hy (last_iff.mpr h))] at hcn
      rename News _ _ _ _ => N9
      refine lp_end (p + (decAll y).length + 1, _, ms, cm) rfl (by k_asm) N9 (List.forall_mem_cons.mpr ⟨.head _, List.forall_mem_nil _⟩) (fun p hp => .tail _ hp) (List.forall_mem_cons.mpr ⟨off, List.forall_mem_nil _⟩) (List.forall_mem_cons.mpr ⟨rfl, List.forall_mem_nil _⟩) (by ksw_same) ⟨mi, e1, by dsimp only; omega, ?_⟩
      rw [← e3, hcn]
  case after =>
    rintro ⟨p, tp, ms, cm⟩ u g hh tk ⟨mi, e1, e2, e3⟩ hC F3 N3
    subst hC
    dsimp only [kstB] at e1 e2 e3 F3 N3
    rw [List.size_toArray, hi.length, List.drop_length, brkF, List.append_nil] at e3
    (repeat' (first | (k_unfold; (try dsimp only)) | ((first | (((with_reducible show wpAny _ _ (compareOp CmpOp.Eq (Value.str _ _) (Value.str _ _)) _ _ _); refine l_eq (by walk_at "lit") (by walk_at "lit") ?_)) | (((with_reducible show wpAny _ _ (call (Value.builtin "len") [Value.str (S _) _]) _ _ _); refine s_len (by walk_at "num") ?_; intro _ _)) | (((with_reducible rename Fr _ _ _ _ => F'); (with_reducible rename News _ _ _ _ => N'); first | ((with_reducible show wpAny _ _ (subscriptTail _ (Expr.Slice (some _) (some _) none _) (Value.str (S _) _) _) _ _ _); refine s_slice_ss (s := ⟨_, _, _, _, _⟩) F' N' (by walk_at "num") (by walk_at "num") (by walk_at "num") (by walk_at "num") ?_; intro _ _ _ _ _) | ((with_reducible show wpAny _ _ (subscriptTail _ (Expr.Slice (some (Expr.UnaryOp _ _ _)) none none _) (Value.str (S _) _) _) _ _ _); refine s_slice_last (s := ⟨_, _, _, _, _⟩) F' N' (by walk_at "num") ?_; intro _ _ _ _ _) | ((with_reducible show wpAny _ _ (subscriptTail _ (Expr.Slice (some _) none none _) (Value.str (S _) _) _) _ _ _); refine s_slice_sn (s := ⟨_, _, _, _, _⟩) F' N' (by walk_at "num") (by walk_at "num") (by walk_at "num") ?_; intro _ _ _ _ _) | ((with_reducible show wpAny _ _ (subscriptTail _ (Expr.Slice none (some _) none _) (Value.str (S _) _) _) _ _ _); refine s_slice_init (s := ⟨_, _, _, _, _⟩) F' N' (by walk_at "num") (by walk_at "num") ?_; intro _ _ _ _ _))))) | ((fail_if_success (with_reducible (first | show wpAny _ _ (exec (Stmt.While _ _ _ _) _) _ _ _ | show wpAny _ _ (call (Value.ref _) _) _ _ _ | show wpAny _ _ (call (Value.type "int") _) _ _ _ | show wpAny _ _ (exec (Stmt.For _ _ _ _ _) _) _ _ _ | show LpEnd _ _ _ _ _ _ _ _ _ _ | show wpAny _ _ (call (Value.builtin "str.rstrip") _) _ _ _ | show wpAny _ _ (call (Value.builtin "str.splitlines") _) _ _ _ | show wpAny _ _ (pyIter _) _ _ _ | show OutQ _ _ _ _ _ _ _ _ _ _ | show KswEnd _ _ _ _ _ _ _ _ _ _ _ _))); first | walk1 | (dsimp only; walk1))))
    exact hret lb ms cm _ _ (by k_asm) (by k_asm) ⟨q1a, q1b⟩ (e3 ▸ e1)
end
end
section
set_option Elab.async false
set_option maxRecDepth 100000
set_option maxHeartbeats 4000000
noncomputable def encN (o : Nat) : List Nat := if o = 10 then [10] else encL o
theorem m_translate {M : Model} {A : Around} {E : Value → Shared → Prop} {s : Shared} {x : Str} {t : Tok} {pl : Sem Bool} {Q : Value × List Value → Shared → Prop} (h : Q (.builtin "str.translate", [.str x t]) s) : wpAny M A (getMethod (.str x t) "translate" pl) Q E s := by
  with_reducible exact GM.of (.str x t) (typeIs_str _ _ _) F.slot_str_translate F.type_str_translate GM.noRef h
theorem encN_len (o : Nat) : (encN o).length ≤ 3 := by
  unfold encN encL; split
  · simp
  · split <;> simp
theorem enc_len (l : List Nat) : ((l.map encN).flatten).length ≤ 3 * l.length := by
  induction l with
  | nil => simp
  | cons c r ih => have := encN_len c; simp at ih ⊢; omega
noncomputable def tabIt (P : Params) : Array Value := match (o53 P).data with
  | .seq a _ => a
  | _ => #[]
noncomputable def tabOk (P : Params) (c : Nat) : Bool := match (tabIt P)[c]? with
  | some (.str x _) => x.cps.toList == encN c
  | _ => false
theorem tab_all (P : Params) : ((List.range 256).all fun c => (!(Nat.beq c 10) && Nat.blt c 33) || tabOk P c) = true := by kernel_rfl
theorem tab_at {c : Nat} {P : Params} (hc : Oct (c : Int)) : ∃ t, (tabIt P)[c]? = some (.str (S (encN c)) t) := by
  unfold Oct at hc
  have h := List.all_eq_true.mp (tab_all P) c (List.mem_range.mpr (by omega))
  have h2 : (!(Nat.beq c 10) && Nat.blt c 33) = false := by
    rcases hc with hc | hc
    · have : c = 10 := by omega
      subst this; rfl
    · have : Nat.blt c 33 = false := by
        cases e : Nat.blt c 33 with
        | false => rfl
        | true => have := Nat.blt_eq.mp e; omega
      rw [this, Bool.and_false]
  rw [h2, Bool.false_or] at h
  unfold tabOk at h
  split at h
  · rename_i x t e
    refine ⟨t, ?_⟩
    rw [e, ← beq_iff_eq.mp h]
  · cases h
theorem oct_lt {c : Nat} (hc : Oct (c : Int)) : c < 256 ∧ (encN c = [c] ∧ c < 128 ∨ (encN c).length = 3) := by
  unfold Oct at hc
  refine ⟨by omega, ?_⟩
  unfold encN encL
  split
  · left; exact ⟨by simp [*], by omega⟩
  · split
    · right; rfl
    · left; exact ⟨rfl, by omega⟩
section
variable {prog : Program} {w : World} {A : Around} {E : Value → Shared → Prop} {s : Shared}
theorem table_at {c : Nat} {P : Params} {Q : Builtin.Str.Mapped → Shared → Prop} (hT : s.heap.get? 53 = some (o53 P)) (hc : Oct (c : Int)) (h : ∀ k, Q (.text (S (encN c))) { s with toks := k }) : wpAny (model prog w) A (Builtin.Str.tableLookup (.ref 53) c) Q E s := by
  have hl : s.heap.IsList 53 (tabIt P) := ⟨_, hT, rfl, 0, rfl⟩
  obtain ⟨t, ht⟩ := tab_at (P := P) hc
  unfold Builtin.Str.tableLookup
  refine wpAny_bind (wpAny_attempt (wpAny_bind (wpAny_mkInt ?_)))
  refine wpAny_getItem_list (x := .str (S (encN c)) t) (by exact hl) (by omega) (by have := (oct_lt hc).1; omega) (by rw [Int.toNat_natCast]; exact ht) ?_
  dsimp only
  refine wpAny_bind (wpAny_of_eq (a := none) rfl ?_)
  dsimp only
  refine wpAny_bind (wpAny_of_eq (a := some (S (encN c))) rfl ?_)
  exact wpAny_pure (h _)
theorem all5 {α β γ δ ε : Type} {P : α × β × γ × δ × ε → Prop} (h : ∀ a b c d e, P (a, b, c, d, e)) : ∀ x, P x := fun x => h x.1 x.2.1 x.2.2.1 x.2.2.2.1 x.2.2.2.2
noncomputable abbrev TrB := List Str × Nat × Bool × List (Nat × Option Nat) × Bool
noncomputable def TrI (l : List Nat) (s : Shared) (rest : List Nat) (b : TrB) (s' : Shared) : Prop := ∃ k done, s' = { s with toks := k } ∧ b.2.2.2.2 = false ∧ b.1.reverse.foldl (fun acc p => acc ++ p.cps) #[] = ((done.map encN).flatten).toArray ∧ done ++ rest = l ∧ b.2.1 ≤ 3 * done.length ∧
    ∀ c a, b.2.2.2.1.lookup c = some a → a = some c ∧ encN c = [c]
theorem tr_call {Q : Value → Shared → Prop} {l : List Nat} {t : Tok} {P : Params} (hT : s.heap.get? 53 = some (o53 P)) (hl : ∀ c ∈ l, Oct (c : Int)) (h0 : 0 < l.length) (hn : l.length < 1000)
    (h : ∀ t' k, Q (.str (S (l.map encN).flatten) t') { s with toks := k }) : wpAny (model prog w) A (call (.builtin "str.translate") [.str (S l) t, .ref 53]) Q E s := by
  refine wpAny_call_entry F.slot_str_translate rfl F.entry_str_translate ?_ (F.args_str_translate_2 _ _)
  unfold Builtin.«str.translate»
  refine wpAny_bind (wpAny_of_eq (a := (Value.str (S l) t, S l, Value.ref 53)) rfl ?_)
  dsimp only
  rw [if_neg (show ¬ ((S l).length == 0) = true by rw [S_len, beq_iff_eq]; omega)]
  have small : ∀ n, n ≤ 3000 → ¬ Builtin.Str.tooLong n = true := fun n hn => by
    unfold Builtin.Str.tooLong
    rw [show sizeLine = 16777216 from rfl]
    simp only [decide_eq_true_eq]
    omega
  refine wpAny_bind (MeetsSeq2.wpAny_forIn_array _ (TrI l s) _ ?turn ?fin _ _ ?start)
  case start => exact ⟨s.toks, [], rfl, rfl, rfl, by simp, by simp, fun c a e => by cases e⟩
  case fin =>
    refine all5 ?_
    intro ps tot fast known ad s' hJ
    refine Classical.byContradiction fun hG => ?_
    obtain ⟨k, done, e0, e1, e2, e3, e4, e5⟩ := hJ
    dsimp only at e1 e2 e3 e4 e5 hG
    subst e0 e1
    refine hG ?_
    clear hG
    rw [List.append_nil] at e3
    subst e3
    rw [if_neg (small _ (by omega)), e2]
    unfold retStr
    refine wpAny_bind (wpAny_mkStr ?_ (by
      have := enc_len done
      show (S (done.map encN).flatten).length ≤ sizeLine
      rw [S_len, show sizeLine = 16777216 from rfl]; omega))
    exact wpAny_pure ⟨_, rfl, h _ _⟩
  case turn =>
    intro c rest
    refine all5 ?_
    intro ps tot fast known ad s' hJ
    refine Classical.byContradiction fun hG => ?_
    obtain ⟨k, done, e0, e1, e2, e3, e4, e5⟩ := hJ
    dsimp only at e1 e2 e3 e4 e5 hG
    subst e0 e1
    refine hG ?_
    clear hG
    have hln := congrArg List.length e3
    simp only [List.length_append, List.length_cons] at hln
    rw [if_neg (small _ (by omega))]
    have hc : Oct (c : Int) := hl c (by rw [← e3]; simp)
    have ho := oct_lt hc
    have push : ∀ t : Str, t.cps.toList = encN c → (t :: ps).reverse.foldl (fun acc p => acc ++ p.cps) #[] = (((done ++ [c]).map encN).flatten).toArray := fun t ht => by
      rw [List.reverse_cons, List.foldl_append, e2]
      apply Array.toList_inj.mp
      simp [ht]
    have ok : ∀ (t : Str) (tot' : Nat) (fast' : Bool) (known' : List (Nat × Option Nat)) (k' : Nat), t.cps.toList = encN c → tot' ≤ tot + 3 → (∀ c a, known'.lookup c = some a → a = some c ∧ encN c = [c]) →
        TrI l s rest (t :: ps, tot', fast', known', false) { s with toks := k' } := fun t tot' fast' known' k' h1 h2 h3 =>
      ⟨k', done ++ [c], rfl, rfl, push t h1, by simpa using e3, by simp; omega, h3⟩
    cases fast with
    | true =>
      rw [if_pos rfl]
      cases hk : known.lookup c with
      | some a =>
        obtain ⟨rfl, e⟩ := e5 c a hk
        dsimp only
        refine wpAny_bind (wpAny_pure ?_)
        dsimp only
        exact wpAny_pure (ok ⟨#[c]⟩ _ _ _ _ (by rw [e]) (by omega) e5)
      | none =>
        dsimp only
        refine wpAny_bind (table_at (Q := _) hT hc fun k' => ?_)
        dsimp only
        rcases ho.2 with ⟨e, h128⟩ | h3
        · have e1 : ((S (encN c)).length == 1 && (S (encN c)).cps.all fun x => decide (x < 128)) = true := by rw [e, S_len]; simp [h128]
          have e6 : (S (encN c)).cps[0]? = some c := by rw [e]; rfl
          rw [e1, e6]
          simp only [if_true]
          refine wpAny_bind (wpAny_pure ?_)
          dsimp only
          refine wpAny_pure (ok ⟨#[c]⟩ _ _ _ _ (by rw [e]) (by omega) fun c' a' h' => ?_)
          rw [List.lookup_cons] at h'
          split at h'
          · rename_i h7
            cases h'
            rw [beq_iff_eq.mp h7]
            exact ⟨rfl, e⟩
          · exact e5 _ _ h'
        · have e1 : ((S (encN c)).length == 1 && (S (encN c)).cps.all fun x => decide (x < 128)) = false := by rw [S_len, h3]; rfl
          rw [e1]
          simp only [Bool.false_eq_true, if_false]
          refine wpAny_bind (wpAny_pure ?_)
          dsimp only
          refine wpAny_bind (wpAny_rule ?_)
          refine wpAny_bind (table_at (Q := _) hT hc fun k2 => ?_)
          dsimp only
          exact wpAny_pure (ok _ _ _ _ _ rfl (by rw [S_len, h3]; omega) e5)
    | false =>
      rw [if_neg (by decide), if_neg (by decide)]
      refine wpAny_bind (table_at (Q := _) hT hc fun k' => ?_)
      dsimp only
      exact wpAny_pure (ok _ _ _ _ _ rfl (by rw [S_len]; rcases ho.2 with ⟨e, _⟩ | e <;> rw [e] <;> simp) e5)
end
end
section
set_option Elab.async false
set_option maxRecDepth 100000
set_option maxHeartbeats 4000000
open Sem (wp)
noncomputable def appObj (l : Addr) : Obj := { cls := .type "builtin_function_or_method", data := .fields #[.builtin "list.append", .ref l] }
theorem lk_list_append : typeLookup (.type "list") "append" = pure (some (.builtin "list.append")) := by rw [typeLookup_type, builtinLookup_eq_fast]; kernel_rfl
theorem ty_list_append : typeOf (.builtin "list.append") = pure (.type "method_descriptor") := by show builtinType _ = _; rw [builtinType_eq_fast]; kernel_rfl
theorem lk_md_get : typeLookup (.type "method_descriptor") "__get__" = pure (some (.builtin "method_descriptor.__get__")) := by rw [typeLookup_type, builtinLookup_eq_fast]; kernel_rfl
theorem lk_md_set : typeLookup (.type "method_descriptor") "__set__" = pure none := by rw [typeLookup_type, builtinLookup_eq_fast]; kernel_rfl
theorem lk_md_del : typeLookup (.type "method_descriptor") "__delete__" = pure none := by rw [typeLookup_type, builtinLookup_eq_fast]; kernel_rfl
theorem slot_md_get : Slot "method_descriptor" "__get__" "method_descriptor.__get__" :=
  .of (owner := "method_descriptor") (n := "__get__") (by rw [typeLookup_type, builtinLookup_eq_fast]; kernel_rfl) (by decide +kernel) (by decide +kernel) (by decide +kernel)
    (by first | exact .inl (by decide +kernel) | exact .inr (by decide +kernel)) (by rw [isSubtype_type]; kernel_rfl)
theorem entry_md_get : entryFor table "method_descriptor.__get__" = some Builtin.«method_descriptor.__get__» := entryFor_of_tree (by kernel_rfl)
theorem args_md_get (a b c : Value) : argsOk "method_descriptor.__get__" ⟨[a, b, c], []⟩ := by unfold argsOk; kernel_rfl
theorem told_append : Manifest.toldItsClass.contains "list.append" = false := by decide +kernel
theorem ow_list_append : (".".intercalate ("list.append".cutAt '.').dropLast) = "list" := by
  have e0 : "list.append".cutAt '.' = ["list", "append"] := by first | rfl | decide +kernel
  rw [e0]; first | rfl | decide +kernel
theorem sub_list_self : isSubtype (.type "list") (.type (".".intercalate ("list.append".cutAt '.').dropLast)) = pure true := by
  rw [ow_list_append, isSubtype_type]; kernel_rfl
section
variable {prog : Program} {w : World} {A : Around} {E : Value → Shared → Prop}
theorem ga_append {hp : Heap} {g : Array GenState} {d : Drawn} {t : Nat} {os : OsState} {l : Addr} {its : Array Value} {n : Nat} {u : Tok} {Q : Fin → Shared → Prop} (hx : hp.get? l = some { cls := .type "list", data := .seq its n })
    (hq : Q (.done (.ret (.ref hp.objs.size))) ⟨hp.push (appObj l), g, d, t, os⟩) : wpAny (model prog w) A (Builtin.«object.__getattribute__» ⟨[.ref l, .str "append" u], []⟩) Q E ⟨hp, g, d, t, os⟩ := by
  have hT : (⟨hp, g, d, t, os⟩ : Shared).TypeIs (.ref l) "list" := ⟨_, hx, rfl⟩
  have f1 := lk_list_append
  have f2 := ty_list_append
  have f3 := lk_md_get
  have f4 := lk_md_set
  have f5 := lk_md_del
  unfold Builtin.«object.__getattribute__»
  repeat (any_goals (first | assumption | wp_step))
  refine codeAny_call_builtin slot_md_get.plain entry_md_get (slot_md_get.check _ _ _ _ _ _ _ _ (show (⟨hp, g, d, t, os⟩ : Shared).TypeIs (.builtin "list.append") "method_descriptor" from ty_list_append) (args_md_get _ _ _) ?_)
  have f6 := told_append
  have f7 := sub_list_self
  unfold Builtin.«method_descriptor.__get__»
  repeat (any_goals (first | assumption | wp_step))
end
end
section
set_option Elab.async false
set_option maxRecDepth 100000
set_option maxHeartbeats 4000000
open Sem (wp)
theorem vm_list_append : Manifest.varargsMethods.contains "list.append" = false := by decide +kernel
theorem sig_list_append (a b : Value) : (Manifest.signature? "list.append").map (fun sig => Bind.checkArgs "list.append" { sig with full := toString (Bind.lastOf "list") ++ toString "." ++ toString (Bind.lastOf "list.append") } ⟨[a, b], []⟩) = some (pure ()) := by kernel_rfl
theorem kind_list_append : builtinKind "list.append" = some .method := by decide +kernel
theorem sub_list_module : isSubtype (.type "list") (.type "module") = pure false := by rw [isSubtype_type]; kernel_rfl
section
variable {prog : Program} {w : World} {A : Around} {E : Value → Shared → Prop}
theorem get_append {s : Shared} {l : Addr} {its : Array Value} {n : Nat} {Q : Value → Shared → Prop} (hx : s.heap.get? l = some { cls := .type "list", data := .seq its n })
    (h : ∀ k, Q (.ref s.heap.objs.size) { s with heap := s.heap.push (appObj l), toks := k }) : wpAny (model prog w) A (getAttr (.ref l) "append" true) Q E s := by
  obtain ⟨hp, g, d, tk, os⟩ := s
  have hT : ∀ tk', (⟨hp, g, d, tk', os⟩ : Shared).TypeIs (.ref l) "list" := fun _ => ⟨_, hx, rfl⟩
  have f3 := F.slot_list_getattribute.lookup
  have f4 := F.slot_list_getattribute.bind (.ref l)
  unfold getAttr getAttrBy
  repeat (any_goals (first | assumption | exact hT _ | ((with_reducible show wpAny _ _ (call (Value.builtin "list.__getattribute__") _ _) _ _ _); refine wpAny_call_entry F.slot_list_getattribute (hT _) am_entry_list_getattribute (ga_append hx ?_) (F.args_list_getattribute_2 _ _)) | wp_step))
  exact ⟨_, rfl, wpAny_pure (h _)⟩
theorem call_app {s : Shared} {q l : Addr} {its : Array Value} {n : Nat} {x : Value} {Q : Value → Shared → Prop} (hq : s.heap.get? q = some (appObj l)) (ho : s.heap.get? l = some { cls := .type "list", data := .seq its n })
    (h : ∀ h', Heap.SameBut l s.heap h' → h'.get? l = some { cls := .type "list", data := .seq (its.push x) (n + 1) } → Q .none { s with heap := h' }) (hsz : its.size ≤ sizeLine) : wpAny (model prog w) A (call (.ref q) [x]) Q E s := by
  refine wpAny_call (codeAny_of_tree ?_)
  show wpAny _ A.in1 (callAny (.ref q) _) _ _ _
  unfold callAny
  refine wpAny_bind (wpAny_load hq ?_)
  unfold appObj
  dsimp only
  refine wpAny_ite_true (by rfl) ?_
  show wpAny _ _ (if (Value.type "builtin_function_or_method" != Value.type "method") = true then (do checkBoundCall "list.append" ⟨[.ref l, x], []⟩; again (Code.builtin "list.append" ⟨[.ref l, x], []⟩)) else _) _ _ _
  refine wpAny_ite_true (by rfl) ?_
  have hT : s.TypeIs (.ref l) "list" := ⟨_, ho, rfl⟩
  refine wpAny_bind ?_
  unfold checkBoundCall
  rw [kind_list_append]
  dsimp only
  have hs := sig_list_append (.ref l) x
  cases hsg : Manifest.signature? "list.append" with
  | none => rw [hsg] at hs; cases hs
  | some sig =>
    rw [hsg] at hs
    have hs' := Option.some.inj hs
    dsimp only
    rw [if_neg (by decide)]
    have f1 := sub_list_module
    refine wpAny_bind (wpAny_isInstance hT f1 ?_)
    rw [if_neg (by rw [vm_list_append]; decide)]
    obtain ⟨hp, g, d, tk, os⟩ := s
    repeat (any_goals (first | assumption | ((with_reducible show wpAny _ _ (Bind.checkArgs _ _ _) _ _ _); rw [hs']; refine wpAny_pure ?_) | wp_step))
    refine ⟨Code.quiet_builtin _ (by decide +kernel), codeAny_builtin entry_list_append ?_⟩
    show wpAny _ _ (updateSeq l (·.push x) >>= fun _ => ret .none) _ _ _
    refine wpAny_bind (wpAny_updateSeq ho rfl (wpAny_pure (h _ (Heap.SameBut.update ..) ?_)))
    rw [Heap.get?_update_self _ ho (by rw [mapSeq_push]; rfl), mapSeq_push]
theorem app_led {s : Shared} {q l : Addr} {h₀ : Heap} {L : Addr} {m : Str → Option Value} {news : List (Addr × Obj)} {its : List Value} {n : Nat} {x : Value} {Q : Value → Shared → Prop} (F : Fr h₀ L s.heap m) (N : News h₀ L s.heap ((l, listOf its.toArray n) :: news)) (hq : (q, appObj l) ∈ news) (hne : ∀ p ∈ news, p.1 ≠ l) (hsz : its.length < 10000)
    (h : ∀ h', Fr h₀ L h' m → News h₀ L h' ((l, listOf (its ++ [x]).toArray (n + 1)) :: news) → Q .none { s with heap := h' }) : wpAny (model prog w) A (call (.ref q) [x]) Q E s := by
  have z := N _ (.head _)
  refine call_app (N _ (.tail _ hq)).1 z.1 (fun h' hs ho' => h h' (F.change hs z.2.1 z.2.2) ?_) (by rw [List.size_toArray, show sizeLine = 16777216 from rfl]; omega)
  have := news_set (pre := []) (post := news) N (fun _ h => nomatch h) hne hs ho'
  simpa using this
theorem get_led {s : Shared} {l : Addr} {h₀ : Heap} {L : Addr} {m : Str → Option Value} {news : List (Addr × Obj)} {its : List Value} {n : Nat} {Q : Value → Shared → Prop} (F : Fr h₀ L s.heap m) (N : News h₀ L s.heap ((l, listOf its.toArray n) :: news))
    (h : ∀ q h' k, Fr h₀ L h' m → News h₀ L h' ((q, appObj l) :: (l, listOf its.toArray n) :: news) → l < q ∧ AllLt q news → Q (.ref q) { s with heap := h', toks := k }) : wpAny (model prog w) A (getAttr (.ref l) "append" true) Q E s :=
  get_append (N _ (.head _)).1 fun k => h _ _ k (F.push _) (News.push F N _) ⟨Heap.lt_size (N _ (.head _)).1, allLt_of fun p hp => Heap.lt_size (N p (.tail _ hp)).1⟩
end
end
section
set_option Elab.async false
set_option maxRecDepth 100000
set_option maxHeartbeats 4000000
section
variable {prog : Program} {w : World} {A : Around} {E : Value → Shared → Prop} {s : Shared}
noncomputable def AppAt (prog : Program) (w : World) (A : Around) (q l : Addr) (Q E : Value → Shared → Prop) (v : Value) (s₁ : Shared) : Prop := s₁.heap.get? q = some (appObj l) ∧ wpAny (model prog w) A (call (.ref q) [v]) Q E s₁
theorem callWith_app {pos : Pos} {q l : Addr} {e : Expr} {env : Env} {Q : Value → Shared → Prop} {h₀ : Heap} {L : Addr} {news : List (Addr × Obj)} (_N : News h₀ L s.heap news) (_hm : (q, appObj l) ∈ news) (h : wpAny (model prog w) A (eval e env) (AppAt prog w A q l Q E) E s)
    (he : starEach [e] env = [(false, eval e env)] := by rfl) :
    wpAny (model prog w) A (callWith pos (.ref q) [] (backTo pos (starEach [e] env)) []) Q E s := by
  rw [he]
  unfold callWith
  refine wpAny_bind (wpAny_holding ?_)
  refine evalArgs_plain ?_
  refine spliced_cons (wpAny_mono h (fun v s₁ h₁ => spliced_nil ?_) fun _ _ x => x)
  obtain ⟨ho, hcall⟩ := h₁
  refine wpAny_bind (wpAny_standAt ?_)
  refine wpAny_bind (m := keeperOf (.ref q)) ?_
  unfold keeperOf
  refine wpAny_bind (wpAny_load ho ?_)
  refine wpAny_ite_true (by rfl) ?_
  refine wpAny_pure ?_
  exact wpAny_bind (wpAny_mono hcall (fun r s₂ hr => wpAny_bind (wpAny_holding (wpAny_point (wpAny_pure hr)))) fun _ _ x => x)
theorem app_at1 {q l : Addr} {h₀ : Heap} {L : Addr} {m : Str → Option Value} {rest : List (Addr × Obj)} {its : List Value} {n : Nat} {x : Value} {Q : Value → Shared → Prop} (F : Fr h₀ L s.heap m) (N : News h₀ L s.heap ((l, listOf its.toArray n) :: rest)) (hq : (q, appObj l) ∈ rest) (hne : ∀ p ∈ rest, p.1 ≠ l) (hsz : its.length < 10000)
    (h : ∀ h', Fr h₀ L h' m → News h₀ L h' ((l, listOf (its ++ [x]).toArray (n + 1)) :: rest) → Q .none { s with heap := h' }) : AppAt prog w A q l Q E x s :=
  ⟨(N _ (.tail _ hq)).1, app_led F N hq hne hsz h⟩
theorem app_at2 {q l : Addr} {h₀ : Heap} {L : Addr} {m : Str → Option Value} {p0 : Addr × Obj} {rest : List (Addr × Obj)} {its : List Value} {n : Nat} {x : Value} {Q : Value → Shared → Prop} (F : Fr h₀ L s.heap m) (N : News h₀ L s.heap (p0 :: (l, listOf its.toArray n) :: rest)) (hq : (q, appObj l) ∈ rest) (hp0 : p0.1 ≠ l) (hne : ∀ p ∈ rest, p.1 ≠ l) (hsz : its.length < 10000)
    (h : ∀ h', Fr h₀ L h' m → News h₀ L h' (p0 :: (l, listOf (its ++ [x]).toArray (n + 1)) :: rest) → Q .none { s with heap := h' }) : AppAt prog w A q l Q E x s := by
  refine app_at1 (rest := p0 :: rest) F (fun p hp => N p (by
    simp only [List.mem_cons] at hp ⊢
    rcases hp with h | h | h
    · exact .inr (.inl h)
    · exact .inl h
    · exact .inr (.inr h))) (.tail _ hq) (List.forall_mem_cons.mpr ⟨hp0, hne⟩) hsz fun h' F' N' => h h' F' fun p hp => N' p (by
    simp only [List.mem_cons] at hp ⊢
    rcases hp with h | h | h
    · exact .inr (.inl h)
    · exact .inl h
    · exact .inr (.inr h))
end
end
section
set_option Elab.async false
set_option maxRecDepth 100000
set_option maxHeartbeats 8000000
noncomputable def pcsL (w : Nat) : Nat → List Nat → List (List Nat)
  | 0, r => [r]
  | f + 1, r => if w < r.length then (if r.getD (w - 3) 0 = 61 then r.take (w - 2) :: pcsL w f (r.drop (w - 3)) else if r.getD (w - 2) 0 = 61 then r.take (w - 1) :: pcsL w f (r.drop (w - 2)) else (r.take (w - 1) ++ [61]) :: pcsL w f (r.drop (w - 1))) else [r]
noncomputable def encT (octs : List Nat) : List Nat := (octs.map encN).flatten
noncomputable def encPcs (w : Nat) (octs : List Nat) : List (List Nat) := ((linesG false (encT octs)).map fun y => pcsL w y.length y).flatten ++ (if (encT octs).getD ((encT octs).length - 1) 0 ∈ [13, 10] then [[]] else [])
theorem nsubB {g h : Heap} {L : Addr} {l1 l2 : List (Addr × Obj)} (N : News g L h l1) (hs : ∀ p ∈ l2, p ∈ l1) : News g L h l2 := fun p hp => N p (hs p hp)
theorem pcs_len (w : Nat) : ∀ (f : Nat) (r : List Nat), (pcsL w f r).length ≤ f + 1
  | 0, r => by simp [pcsL]
  | f + 1, r => by
    have h1 := pcs_len w f (r.drop (w - 3))
    have h2 := pcs_len w f (r.drop (w - 2))
    have h3 := pcs_len w f (r.drop (w - 1))
    rw [pcsL]
    split
    · split
      · rw [List.length_cons]; omega
      · split <;> (rw [List.length_cons]; omega)
    · simp
theorem pcs_sum {w : Nat} (hw : 4 ≤ w) : ∀ (f : Nat) (r : List Nat), ((pcsL w f r).map List.length).sum ≤ r.length + f
  | 0, r => by simp [pcsL]
  | f + 1, r => by
    have h1 := pcs_sum hw f (r.drop (w - 3))
    have h2 := pcs_sum hw f (r.drop (w - 2))
    have h3 := pcs_sum hw f (r.drop (w - 1))
    rw [List.length_drop] at h1 h2 h3
    rw [pcsL]
    split
    · split
      · rw [List.map_cons, List.sum_cons, List.length_take]; omega
      · split
        · rw [List.map_cons, List.sum_cons, List.length_take]; omega
        · rw [List.map_cons, List.sum_cons, List.length_append, List.length_take, List.length_singleton]; omega
    · simp
noncomputable def pcsAll (w : Nat) (ls : List (List Nat)) : List (List Nat) := (ls.map fun y => pcsL w y.length y).flatten
theorem all_len (w : Nat) (ls : List (List Nat)) : (pcsAll w ls).length ≤ (ls.map fun y => y.length + 1).sum := by
  unfold pcsAll
  induction ls with
  | nil => simp
  | cons y r ih => have := pcs_len w y.length y; simp at ih ⊢; omega
theorem all_sum {w : Nat} (hw : 4 ≤ w) (ls : List (List Nat)) : ((pcsAll w ls).map List.length).sum ≤ 2 * (ls.map fun y => y.length + 1).sum := by
  unfold pcsAll
  induction ls with
  | nil => simp
  | cons y r ih => have := pcs_sum hw y.length y; simp at ih ⊢; omega
theorem all_next {w : Nat} {ls : List (List Nat)} {i : Nat} (hi : i < ls.length) : pcsAll w (ls.take (i + 1)) = pcsAll w (ls.take i) ++ pcsL w (ls.getD i []).length (ls.getD i []) := by
  unfold pcsAll
  rw [List.take_add_one, List.getElem?_eq_getElem hi, List.getD_eq_getElem?_getD, List.getElem?_eq_getElem hi, List.map_append, List.flatten_append]
  simp
theorem all_bound (w : Nat) (t : List Nat) (i : Nat) : (pcsAll w ((linesG false t).take i)).length ≤ t.length + 1 := by
  have h1 := all_len w ((linesG false t).take i)
  have h2 := take_sum (linesG false t) i
  have h3 := lines_wt false t
  omega
theorem encT_len (octs : List Nat) : (encT octs).length ≤ 3 * octs.length := enc_len octs
theorem encT_pos {octs : List Nat} (h : 0 < octs.length) : 0 < (encT octs).length := by
  cases octs with
  | nil => simp at h
  | cons c r =>
    unfold encT encN encL
    simp
    split
    · simp; omega
    · split <;> (simp; omega)
theorem pcs_esc1 {wd f n : Nat} {y : List Nat} (hw : 4 ≤ wd) (h : n + wd < y.length) (hc : y.getD (n + wd - 3) 0 = 61) : pcsL wd (f + 1) (y.drop n) = (y.drop n).take (wd - 2) :: pcsL wd f (y.drop (n + wd - 3)) := by
  rw [pcsL, if_pos (by rw [List.length_drop]; omega), getD_drop, show n + (wd - 3) = n + wd - 3 by omega, if_pos hc, List.drop_drop, show n + (wd - 3) = n + wd - 3 by omega]
theorem pcs_esc2 {wd f n : Nat} {y : List Nat} (hw : 4 ≤ wd) (h : n + wd < y.length) (h1 : ¬ y.getD (n + wd - 3) 0 = 61) (hc : y.getD (n + wd - 2) 0 = 61) : pcsL wd (f + 1) (y.drop n) = (y.drop n).take (wd - 1) :: pcsL wd f (y.drop (n + wd - 2)) := by
  rw [pcsL, if_pos (by rw [List.length_drop]; omega), getD_drop, show n + (wd - 3) = n + wd - 3 by omega, if_neg h1, getD_drop, show n + (wd - 2) = n + wd - 2 by omega, if_pos hc, List.drop_drop, show n + (wd - 2) = n + wd - 2 by omega]
theorem pcs_cut {wd f n : Nat} {y : List Nat} (hw : 4 ≤ wd) (h : n + wd < y.length) (h1 : ¬ y.getD (n + wd - 3) 0 = 61) (h2 : ¬ y.getD (n + wd - 2) 0 = 61) : pcsL wd (f + 1) (y.drop n) = ((y.drop n).take (wd - 1) ++ [61]) :: pcsL wd f (y.drop (n + wd - 1)) := by
  rw [pcsL, if_pos (by rw [List.length_drop]; omega), getD_drop, show n + (wd - 3) = n + wd - 3 by omega, if_neg h1, getD_drop, show n + (wd - 2) = n + wd - 2 by omega, if_neg h2, List.drop_drop, show n + (wd - 1) = n + wd - 1 by omega]
theorem pcs_end {wd f n : Nat} {y : List Nat} (h : ¬ n + wd < y.length) : pcsL wd f (y.drop n) = [y.drop n] := by
  cases f with
  | zero => rfl
  | succ f => rw [pcsL, if_neg (by rw [List.length_drop]; omega)]
theorem TxtsAre.snoc {vs : List Value} {ls : List (List Nat)} {l : List Nat} {t : Tok} (h : TxtsAre vs ls) : TxtsAre (vs ++ [.str (S l) t]) (ls ++ [l]) := h.app (.cons l t .nil)
theorem s_join {prog : Program} {w : World} {A : Around} {E : Value → Shared → Prop} {s : Shared} {D : Addr} {vs : List Value} {ts : List (List Nat)} {mk : List Nat} {t : Tok} {Q : Value → Shared → Prop} (hl : s.heap.IsList D vs.toArray) (hi : TxtsAre vs ts) (hb : (ts.map List.length).sum + ts.length ≤ 100000) (hm : mk.length ≤ 16)
    (h : ∀ t' k, Q (.str (S (List.intercalate mk ts)) t') { s with toks := k }) : wpAny (model prog w) A (call (.builtin "str.join") [.str (S mk) t, .ref D]) Q E s := by
  obtain ⟨l, rfl, e⟩ := hi.values
  have e2 : Txt.join (S mk) (ts.map S) = S (List.intercalate mk ts) := by
    rw [← glued_S]; rfl
  refine SC.join hl e (joinOk_of_weight ?_ (by rw [S_len]; exact hm)) fun t' k => ?_
  · rw [List.map_map, show (fun x : Str => x.length) ∘ S = List.length from funext fun z => S_len z, List.length_map]; omega
  · rw [e2]; exact h t' k
section
variable {w : World} {mean : ExcName → Option Value} {mg mb : Str → Option Value}
    {dp un : Nat} {gd : Option (List Code)} {cn : Str} {cs : Scope} {a : Addr} {ccd : Value} {cl : List (Str × Addr)} {outer : List Env} {A₀ : Around} {base h₀ : Heap} {L : Addr} {m : Str → Option Value} {s : Shared} {Q E : Value → Shared → Prop}
    (B : Below A₀ base outer h₀) (F : Fr h₀ L s.heap m) (X : (Kf w.params).In h₀) (T : Top q (looseW q loose) mean mg mb h₀) (hk : cs.kind = .function)
include B F X T hk
theorem benc_spec {octs mk : List Nat} {wd : Nat} {t t1 t2 : Tok} {news : List (Addr × Obj)} (N : News h₀ L s.heap news) (hd : dp + 2 < recursionLimit) (hu : un + 64 < cLine) (hw : 4 ≤ wd) (hw2 : wd ≤ 8) (hl0 : 0 < octs.length) (hl : octs.length < 30) (ho : ∀ c ∈ octs, Oct (c : Int)) (hmk : mk.length ≤ 2)
    (hs : ∀ y ∈ linesG false (encT octs), ∀ c ∈ y, 32 < c)
    (hret : ∀ t' h' tk', Fr h₀ L h' m → News h₀ L h' news → Q (.str (S (List.intercalate mk (encPcs wd octs))) t') { s with heap := h', toks := tk' }) :
    wpAny (model PySem.Challenge.rw_op0130_01.prog w) (ktrTop dp un gd cn cs L a ccd cl outer) (call (.ref 64) [.str (S octs) t, .int (wd : Int) t1, .str (S mk) t2]) Q E s := by
  have X2 := X.keeps F.keep
  revert X; k_fill; intro X
  refine wpAny_call ?_
  k_dflt (refine' code_def (binds := [(Str.ofString "body", .str (S octs) t), (Str.ofString "maxlinelen", .int (wd : Int) t1), (Str.ofString "eol", .str (S mk) t2)]) ?k1 ?k2 ?k3 ?k4 ?k5 ?kA ?kF ?kK ?k6 ?k7 ?k8 ?k9 ?kB ?_ ?c2 ?c3 ?c4 ?c5; (((case kA => exact rfl); (case kF => exact rfl); (case kK => assumption); (case k1 => k_asm); (case k2 => k_asm); (case k3 => k_asm); (case k4 => k_asm); (case k5 => k_asm); (case k6 => k_is); (case k7 => k_is); (case k8 => ktr_room); (case c5 => decide); (case kB => exact locs rfl); (case c2 => exact rfl); (case c3 => exact rfl); (case c4 => exact rfl))); (case k9 => exact BindsTo.of_defaults (T := 57) (o := o57 w.params) rfl (X2 _ _ rfl) rfl rfl rfl);  k_whole; intro g' L' h' FG' F' N' B' X' T'; (try dsimp only); (try k_fold))
  (repeat' (first | (k_unfold; (try dsimp only)) | ((first | (((with_reducible show wpAny _ _ (compareOp CmpOp.In (Value.str (S [_]) _) (Value.str _ _)) _ _ _); refine l_in (by walk_at "lit") (by walk_at "lit") ?_; rw [decide_eq_false (by assumption)])) | (((with_reducible show wpAny _ _ (callWith _ (Value.ref _) [] (backTo _ (starEach [_] _)) []) _ _ _); refine callWith_app (by k_asm) (by k_mem) ?_)) | (((with_reducible show wpAny _ _ (compareOp CmpOp.In (Value.str _ _) (Value.str _ _)) _ _ _); refine l_in (by walk_at "lit") (by walk_at "lit") ?_)) | (((with_reducible show wpAny _ _ (compareOp CmpOp.Eq (Value.str _ _) (Value.str _ _)) _ _ _); refine l_eq (by walk_at "lit") (by walk_at "lit") ?_)) | (((with_reducible show wpAny _ _ (binaryOp Operator.Add (Value.str _ _) (Value.str _ _)) _ _ _); refine l_add (by walk_at "lit") (by walk_at "lit") (by walk_at "num") ?_; intro _ _)) | (((with_reducible show wpAny _ _ (call (Value.builtin "len") [Value.str (S _) _]) _ _ _); refine s_len (by walk_at "num") ?_; intro _ _)) | (((with_reducible rename Fr _ _ _ _ => F'); (with_reducible rename News _ _ _ _ => N'); first | ((with_reducible show wpAny _ _ (subscriptTail _ (Expr.Slice (some _) (some _) none _) (Value.str (S _) _) _) _ _ _); refine s_slice_ss (s := ⟨_, _, _, _, _⟩) F' N' (by walk_at "num") (by walk_at "num") (by walk_at "num") (by walk_at "num") ?_; intro _ _ _ _ _) | ((with_reducible show wpAny _ _ (subscriptTail _ (Expr.Slice (some (Expr.UnaryOp _ _ _)) none none _) (Value.str (S _) _) _) _ _ _); refine s_slice_last (s := ⟨_, _, _, _, _⟩) F' N' (by walk_at "num") ?_; intro _ _ _ _ _) | ((with_reducible show wpAny _ _ (subscriptTail _ (Expr.Slice (some _) none none _) (Value.str (S _) _) _) _ _ _); refine s_slice_sn (s := ⟨_, _, _, _, _⟩) F' N' (by walk_at "num") (by walk_at "num") (by walk_at "num") ?_; intro _ _ _ _ _) | ((with_reducible show wpAny _ _ (subscriptTail _ (Expr.Slice none (some _) none _) (Value.str (S _) _) _) _ _ _); refine s_slice_init (s := ⟨_, _, _, _, _⟩) F' N' (by walk_at "num") (by walk_at "num") ?_; intro _ _ _ _ _))) | (((with_reducible show wpAny _ _ (subscriptTail _ _ (Value.str (S _) _) (Value.int _ _)) _ _ _); first | (with_reducible refine s_item_neg (by walk_at "num") (by walk_at "num") ?_; intro _ _) | (refine s_item (by walk_at "num") (by walk_at "num") (by walk_at "num") ?_; intro _ _))) | (((with_reducible show wpAny _ _ (truthy (Value.str (S _) _)) _ _ _); refine s_truthy (by walk_at "num") ?_; intro _)))) | ((fail_if_success (with_reducible (first | show wpAny _ _ (exec (Stmt.While _ _ _ _) _) _ _ _ | show wpAny _ _ (call (Value.ref _) _) _ _ _ | show wpAny _ _ (call (Value.type "int") _) _ _ _ | show wpAny _ _ (exec (Stmt.For _ _ _ _ _) _) _ _ _ | show LpEnd _ _ _ _ _ _ _ _ _ _ | show wpAny _ _ (call (Value.builtin "str.rstrip") _) _ _ _ | show wpAny _ _ (call (Value.builtin "str.splitlines") _) _ _ _ | show wpAny _ _ (pyIter _) _ _ _ | show OutQ _ _ _ _ _ _ _ _ _ _ | show KswEnd _ _ _ _ _ _ _ _ _ _ _ _))); first | walk1 | (dsimp only; walk1))))
  · have hl1 : octs = [] := by simpa using ‹octs.isEmpty = true›
    rw [hl1] at hl0; simp at hl0
  refine m_translate ?_
  (repeat' (first | (k_unfold; (try dsimp only)) | ((first | (((with_reducible show wpAny _ _ (compareOp CmpOp.In (Value.str (S [_]) _) (Value.str _ _)) _ _ _); refine l_in (by walk_at "lit") (by walk_at "lit") ?_; rw [decide_eq_false (by assumption)])) | (((with_reducible show wpAny _ _ (callWith _ (Value.ref _) [] (backTo _ (starEach [_] _)) []) _ _ _); refine callWith_app (by k_asm) (by k_mem) ?_)) | (((with_reducible show wpAny _ _ (compareOp CmpOp.In (Value.str _ _) (Value.str _ _)) _ _ _); refine l_in (by walk_at "lit") (by walk_at "lit") ?_)) | (((with_reducible show wpAny _ _ (compareOp CmpOp.Eq (Value.str _ _) (Value.str _ _)) _ _ _); refine l_eq (by walk_at "lit") (by walk_at "lit") ?_)) | (((with_reducible show wpAny _ _ (binaryOp Operator.Add (Value.str _ _) (Value.str _ _)) _ _ _); refine l_add (by walk_at "lit") (by walk_at "lit") (by walk_at "num") ?_; intro _ _)) | (((with_reducible show wpAny _ _ (call (Value.builtin "len") [Value.str (S _) _]) _ _ _); refine s_len (by walk_at "num") ?_; intro _ _)) | (((with_reducible rename Fr _ _ _ _ => F'); (with_reducible rename News _ _ _ _ => N'); first | ((with_reducible show wpAny _ _ (subscriptTail _ (Expr.Slice (some _) (some _) none _) (Value.str (S _) _) _) _ _ _); refine s_slice_ss (s := ⟨_, _, _, _, _⟩) F' N' (by walk_at "num") (by walk_at "num") (by walk_at "num") (by walk_at "num") ?_; intro _ _ _ _ _) | ((with_reducible show wpAny _ _ (subscriptTail _ (Expr.Slice (some (Expr.UnaryOp _ _ _)) none none _) (Value.str (S _) _) _) _ _ _); refine s_slice_last (s := ⟨_, _, _, _, _⟩) F' N' (by walk_at "num") ?_; intro _ _ _ _ _) | ((with_reducible show wpAny _ _ (subscriptTail _ (Expr.Slice (some _) none none _) (Value.str (S _) _) _) _ _ _); refine s_slice_sn (s := ⟨_, _, _, _, _⟩) F' N' (by walk_at "num") (by walk_at "num") (by walk_at "num") ?_; intro _ _ _ _ _) | ((with_reducible show wpAny _ _ (subscriptTail _ (Expr.Slice none (some _) none _) (Value.str (S _) _) _) _ _ _); refine s_slice_init (s := ⟨_, _, _, _, _⟩) F' N' (by walk_at "num") (by walk_at "num") ?_; intro _ _ _ _ _))) | (((with_reducible show wpAny _ _ (subscriptTail _ _ (Value.str (S _) _) (Value.int _ _)) _ _ _); first | (with_reducible refine s_item_neg (by walk_at "num") (by walk_at "num") ?_; intro _ _) | (refine s_item (by walk_at "num") (by walk_at "num") (by walk_at "num") ?_; intro _ _))) | (((with_reducible show wpAny _ _ (truthy (Value.str (S _) _)) _ _ _); refine s_truthy (by walk_at "num") ?_; intro _)))) | ((fail_if_success (with_reducible (first | show wpAny _ _ (exec (Stmt.While _ _ _ _) _) _ _ _ | show wpAny _ _ (call (Value.ref _) _) _ _ _ | show wpAny _ _ (call (Value.type "int") _) _ _ _ | show wpAny _ _ (exec (Stmt.For _ _ _ _ _) _) _ _ _ | show LpEnd _ _ _ _ _ _ _ _ _ _ | show wpAny _ _ (call (Value.builtin "str.rstrip") _) _ _ _ | show wpAny _ _ (call (Value.builtin "str.splitlines") _) _ _ _ | show wpAny _ _ (pyIter _) _ _ _ | show OutQ _ _ _ _ _ _ _ _ _ _ | show KswEnd _ _ _ _ _ _ _ _ _ _ _ _))); first | walk1 | (dsimp only; walk1))))
  rename Fr _ _ _ _ => F2
  refine tr_call (P := w.params) (X'.keeps F2.keep _ _ rfl) ho hl0 (by omega) ?_
  intro t3 k3
  have hlen := encT_len octs
  have hpos := encT_pos hl0
  rw [show (List.map encN octs).flatten = encT octs from rfl]
  unfold encPcs at hret
  generalize encT octs = tx at *
  (repeat' (first | (k_unfold; (try dsimp only)) | ((first | (((with_reducible show wpAny _ _ (compareOp CmpOp.In (Value.str (S [_]) _) (Value.str _ _)) _ _ _); refine l_in (by walk_at "lit") (by walk_at "lit") ?_; rw [decide_eq_false (by assumption)])) | (((with_reducible show wpAny _ _ (callWith _ (Value.ref _) [] (backTo _ (starEach [_] _)) []) _ _ _); refine callWith_app (by k_asm) (by k_mem) ?_)) | (((with_reducible show wpAny _ _ (compareOp CmpOp.In (Value.str _ _) (Value.str _ _)) _ _ _); refine l_in (by walk_at "lit") (by walk_at "lit") ?_)) | (((with_reducible show wpAny _ _ (compareOp CmpOp.Eq (Value.str _ _) (Value.str _ _)) _ _ _); refine l_eq (by walk_at "lit") (by walk_at "lit") ?_)) | (((with_reducible show wpAny _ _ (binaryOp Operator.Add (Value.str _ _) (Value.str _ _)) _ _ _); refine l_add (by walk_at "lit") (by walk_at "lit") (by walk_at "num") ?_; intro _ _)) | (((with_reducible show wpAny _ _ (call (Value.builtin "len") [Value.str (S _) _]) _ _ _); refine s_len (by walk_at "num") ?_; intro _ _)) | (((with_reducible rename Fr _ _ _ _ => F'); (with_reducible rename News _ _ _ _ => N'); first | ((with_reducible show wpAny _ _ (subscriptTail _ (Expr.Slice (some _) (some _) none _) (Value.str (S _) _) _) _ _ _); refine s_slice_ss (s := ⟨_, _, _, _, _⟩) F' N' (by walk_at "num") (by walk_at "num") (by walk_at "num") (by walk_at "num") ?_; intro _ _ _ _ _) | ((with_reducible show wpAny _ _ (subscriptTail _ (Expr.Slice (some (Expr.UnaryOp _ _ _)) none none _) (Value.str (S _) _) _) _ _ _); refine s_slice_last (s := ⟨_, _, _, _, _⟩) F' N' (by walk_at "num") ?_; intro _ _ _ _ _) | ((with_reducible show wpAny _ _ (subscriptTail _ (Expr.Slice (some _) none none _) (Value.str (S _) _) _) _ _ _); refine s_slice_sn (s := ⟨_, _, _, _, _⟩) F' N' (by walk_at "num") (by walk_at "num") (by walk_at "num") ?_; intro _ _ _ _ _) | ((with_reducible show wpAny _ _ (subscriptTail _ (Expr.Slice none (some _) none _) (Value.str (S _) _) _) _ _ _); refine s_slice_init (s := ⟨_, _, _, _, _⟩) F' N' (by walk_at "num") (by walk_at "num") ?_; intro _ _ _ _ _))) | (((with_reducible show wpAny _ _ (subscriptTail _ _ (Value.str (S _) _) (Value.int _ _)) _ _ _); first | (with_reducible refine s_item_neg (by walk_at "num") (by walk_at "num") ?_; intro _ _) | (refine s_item (by walk_at "num") (by walk_at "num") (by walk_at "num") ?_; intro _ _))) | (((with_reducible show wpAny _ _ (truthy (Value.str (S _) _)) _ _ _); refine s_truthy (by walk_at "num") ?_; intro _)))) | ((fail_if_success (with_reducible (first | show wpAny _ _ (exec (Stmt.While _ _ _ _) _) _ _ _ | show wpAny _ _ (call (Value.ref _) _) _ _ _ | show wpAny _ _ (call (Value.type "int") _) _ _ _ | show wpAny _ _ (exec (Stmt.For _ _ _ _ _) _) _ _ _ | show LpEnd _ _ _ _ _ _ _ _ _ _ | show wpAny _ _ (call (Value.builtin "str.rstrip") _) _ _ _ | show wpAny _ _ (call (Value.builtin "str.splitlines") _) _ _ _ | show wpAny _ _ (pyIter _) _ _ _ | show OutQ _ _ _ _ _ _ _ _ _ _ | show KswEnd _ _ _ _ _ _ _ _ _ _ _ _))); first | walk1 | (dsimp only; walk1))))
  rename_i le _ o4 _ _ _
  refine get_led (its := []) (by k_asm) (by k_asm) ?_
  intro qa h5 k5 F5 N5 o5
  obtain ⟨o5, -⟩ := o5
  (repeat' (first | (k_unfold; (try dsimp only)) | ((first | (((with_reducible show wpAny _ _ (compareOp CmpOp.In (Value.str (S [_]) _) (Value.str _ _)) _ _ _); refine l_in (by walk_at "lit") (by walk_at "lit") ?_; rw [decide_eq_false (by assumption)])) | (((with_reducible show wpAny _ _ (callWith _ (Value.ref _) [] (backTo _ (starEach [_] _)) []) _ _ _); refine callWith_app (by k_asm) (by k_mem) ?_)) | (((with_reducible show wpAny _ _ (compareOp CmpOp.In (Value.str _ _) (Value.str _ _)) _ _ _); refine l_in (by walk_at "lit") (by walk_at "lit") ?_)) | (((with_reducible show wpAny _ _ (compareOp CmpOp.Eq (Value.str _ _) (Value.str _ _)) _ _ _); refine l_eq (by walk_at "lit") (by walk_at "lit") ?_)) | (((with_reducible show wpAny _ _ (binaryOp Operator.Add (Value.str _ _) (Value.str _ _)) _ _ _); refine l_add (by walk_at "lit") (by walk_at "lit") (by walk_at "num") ?_; intro _ _)) | (((with_reducible show wpAny _ _ (call (Value.builtin "len") [Value.str (S _) _]) _ _ _); refine s_len (by walk_at "num") ?_; intro _ _)) | (((with_reducible rename Fr _ _ _ _ => F'); (with_reducible rename News _ _ _ _ => N'); first | ((with_reducible show wpAny _ _ (subscriptTail _ (Expr.Slice (some _) (some _) none _) (Value.str (S _) _) _) _ _ _); refine s_slice_ss (s := ⟨_, _, _, _, _⟩) F' N' (by walk_at "num") (by walk_at "num") (by walk_at "num") (by walk_at "num") ?_; intro _ _ _ _ _) | ((with_reducible show wpAny _ _ (subscriptTail _ (Expr.Slice (some (Expr.UnaryOp _ _ _)) none none _) (Value.str (S _) _) _) _ _ _); refine s_slice_last (s := ⟨_, _, _, _, _⟩) F' N' (by walk_at "num") ?_; intro _ _ _ _ _) | ((with_reducible show wpAny _ _ (subscriptTail _ (Expr.Slice (some _) none none _) (Value.str (S _) _) _) _ _ _); refine s_slice_sn (s := ⟨_, _, _, _, _⟩) F' N' (by walk_at "num") (by walk_at "num") (by walk_at "num") ?_; intro _ _ _ _ _) | ((with_reducible show wpAny _ _ (subscriptTail _ (Expr.Slice none (some _) none _) (Value.str (S _) _) _) _ _ _); refine s_slice_init (s := ⟨_, _, _, _, _⟩) F' N' (by walk_at "num") (by walk_at "num") ?_; intro _ _ _ _ _))) | (((with_reducible show wpAny _ _ (subscriptTail _ _ (Value.str (S _) _) (Value.int _ _)) _ _ _); first | (with_reducible refine s_item_neg (by walk_at "num") (by walk_at "num") ?_; intro _ _) | (refine s_item (by walk_at "num") (by walk_at "num") (by walk_at "num") ?_; intro _ _))) | (((with_reducible show wpAny _ _ (truthy (Value.str (S _) _)) _ _ _); refine s_truthy (by walk_at "num") ?_; intro _)))) | ((fail_if_success (with_reducible (first | show wpAny _ _ (exec (Stmt.While _ _ _ _) _) _ _ _ | show wpAny _ _ (call (Value.ref _) _) _ _ _ | show wpAny _ _ (call (Value.type "int") _) _ _ _ | show wpAny _ _ (exec (Stmt.For _ _ _ _ _) _) _ _ _ | show LpEnd _ _ _ _ _ _ _ _ _ _ | show wpAny _ _ (call (Value.builtin "str.rstrip") _) _ _ _ | show wpAny _ _ (call (Value.builtin "str.splitlines") _) _ _ _ | show wpAny _ _ (pyIter _) _ _ _ | show OutQ _ _ _ _ _ _ _ _ _ _ | show KswEnd _ _ _ _ _ _ _ _ _ _ _ _))); first | walk1 | (dsimp only; walk1))))
  refine wpAny_For ?_
  (repeat' (first | (k_unfold; (try dsimp only)) | ((first | (((with_reducible show wpAny _ _ (compareOp CmpOp.In (Value.str (S [_]) _) (Value.str _ _)) _ _ _); refine l_in (by walk_at "lit") (by walk_at "lit") ?_; rw [decide_eq_false (by assumption)])) | (((with_reducible show wpAny _ _ (callWith _ (Value.ref _) [] (backTo _ (starEach [_] _)) []) _ _ _); refine callWith_app (by k_asm) (by k_mem) ?_)) | (((with_reducible show wpAny _ _ (compareOp CmpOp.In (Value.str _ _) (Value.str _ _)) _ _ _); refine l_in (by walk_at "lit") (by walk_at "lit") ?_)) | (((with_reducible show wpAny _ _ (compareOp CmpOp.Eq (Value.str _ _) (Value.str _ _)) _ _ _); refine l_eq (by walk_at "lit") (by walk_at "lit") ?_)) | (((with_reducible show wpAny _ _ (binaryOp Operator.Add (Value.str _ _) (Value.str _ _)) _ _ _); refine l_add (by walk_at "lit") (by walk_at "lit") (by walk_at "num") ?_; intro _ _)) | (((with_reducible show wpAny _ _ (call (Value.builtin "len") [Value.str (S _) _]) _ _ _); refine s_len (by walk_at "num") ?_; intro _ _)) | (((with_reducible rename Fr _ _ _ _ => F'); (with_reducible rename News _ _ _ _ => N'); first | ((with_reducible show wpAny _ _ (subscriptTail _ (Expr.Slice (some _) (some _) none _) (Value.str (S _) _) _) _ _ _); refine s_slice_ss (s := ⟨_, _, _, _, _⟩) F' N' (by walk_at "num") (by walk_at "num") (by walk_at "num") (by walk_at "num") ?_; intro _ _ _ _ _) | ((with_reducible show wpAny _ _ (subscriptTail _ (Expr.Slice (some (Expr.UnaryOp _ _ _)) none none _) (Value.str (S _) _) _) _ _ _); refine s_slice_last (s := ⟨_, _, _, _, _⟩) F' N' (by walk_at "num") ?_; intro _ _ _ _ _) | ((with_reducible show wpAny _ _ (subscriptTail _ (Expr.Slice (some _) none none _) (Value.str (S _) _) _) _ _ _); refine s_slice_sn (s := ⟨_, _, _, _, _⟩) F' N' (by walk_at "num") (by walk_at "num") (by walk_at "num") ?_; intro _ _ _ _ _) | ((with_reducible show wpAny _ _ (subscriptTail _ (Expr.Slice none (some _) none _) (Value.str (S _) _) _) _ _ _); refine s_slice_init (s := ⟨_, _, _, _, _⟩) F' N' (by walk_at "num") (by walk_at "num") ?_; intro _ _ _ _ _))) | (((with_reducible show wpAny _ _ (subscriptTail _ _ (Value.str (S _) _) (Value.int _ _)) _ _ _); first | (with_reducible refine s_item_neg (by walk_at "num") (by walk_at "num") ?_; intro _ _) | (refine s_item (by walk_at "num") (by walk_at "num") (by walk_at "num") ?_; intro _ _))) | (((with_reducible show wpAny _ _ (truthy (Value.str (S _) _)) _ _ _); refine s_truthy (by walk_at "num") ?_; intro _)))) | ((fail_if_success (with_reducible (first | show wpAny _ _ (exec (Stmt.While _ _ _ _) _) _ _ _ | show wpAny _ _ (call (Value.ref _) _) _ _ _ | show wpAny _ _ (call (Value.type "int") _) _ _ _ | show wpAny _ _ (exec (Stmt.For _ _ _ _ _) _) _ _ _ | show LpEnd _ _ _ _ _ _ _ _ _ _ | show wpAny _ _ (call (Value.builtin "str.rstrip") _) _ _ _ | show wpAny _ _ (call (Value.builtin "str.splitlines") _) _ _ _ | show wpAny _ _ (pyIter _) _ _ _ | show OutQ _ _ _ _ _ _ _ _ _ _ | show KswEnd _ _ _ _ _ _ _ _ _ _ _ _))); first | walk1 | (dsimp only; walk1))))
  refine s_lines (by k_asm) (by k_asm) (by omega) ?_
  intro D' vs' h6 k6 e' F6 N6 l6
  obtain ⟨l6a, l6b, l6c⟩ := l6
  have N7 := nsubB N6 (l2 := (le, listOf (([] : List Value)).toArray 0) :: (qa, appObj le) :: (D', listOf vs'.toArray 0) :: news) (List.forall_mem_cons.mpr ⟨by k_mem, List.forall_mem_cons.mpr ⟨by k_mem, List.forall_mem_cons.mpr ⟨by k_mem, fun p hp => by repeat (first | exact hp | apply List.mem_cons_of_mem)⟩⟩⟩)
  have hne : ∀ p ∈ (qa, appObj le) :: (D', listOf vs'.toArray 0) :: news, p.1 ≠ le := List.forall_mem_cons.mpr ⟨Nat.ne_of_gt o5, List.forall_mem_cons.mpr ⟨Nat.ne_of_gt l6b, fun p hp => Nat.ne_of_lt (o4 p hp)⟩⟩
  refine for_list (σ := List Value × Nat) (fun g => g' = g) (fun c => (le, listOf c.1.toArray c.2) :: (qa, appObj le) :: (D', listOf vs'.toArray 0) :: news) (fun c => []) [Str.ofString "line", Str.ofString "start", Str.ofString "laststart", Str.ofString "stop"]
    (fun i c => TxtsAre c.1 (pcsAll wd ((linesG false tx).take i))) ([], 0) rfl (fun _ => .tail _ (.tail _ (.head _))) rfl ⟨_, rfl⟩ (fun g hg b hb => by rw [← hg]; exact hb) rfl (by k_asm) N7 (List.forall_mem_nil _) .nil ?turn ?after
  case turn =>
    rintro i v ⟨ws, cw⟩ u g hh tk I oI hv hP hC hit F8 N8 off
    subst hC
    obtain ⟨tv, rfl, hi⟩ := e'.get hv
    dsimp only [kstB] at hP F8 N8
    have hmem : (linesG false tx).getD i [] ∈ linesG false tx := by rw [List.getD_eq_getElem?_getD, List.getElem?_eq_getElem hi]; exact List.getElem_mem hi
    have hsp := hs _ hmem
    have hyl := line_len hmem
    have hnx := all_next (w := wd) hi
    have hbd := all_bound wd tx i
    have hbd2 := all_bound wd tx (i + 1)
    generalize (linesG false tx).getD i [] = y at *
    show wpAny _ _ (pure ()) _ _ _
    refine wpAny_pure ?_
    (repeat' (first | (k_unfold; (try dsimp only)) | ((first | (((with_reducible show wpAny _ _ (compareOp CmpOp.In (Value.str (S [_]) _) (Value.str _ _)) _ _ _); refine l_in (by walk_at "lit") (by walk_at "lit") ?_; rw [decide_eq_false (by assumption)])) | (((with_reducible show wpAny _ _ (callWith _ (Value.ref _) [] (backTo _ (starEach [_] _)) []) _ _ _); refine callWith_app (by k_asm) (by k_mem) ?_)) | (((with_reducible show wpAny _ _ (compareOp CmpOp.In (Value.str _ _) (Value.str _ _)) _ _ _); refine l_in (by walk_at "lit") (by walk_at "lit") ?_)) | (((with_reducible show wpAny _ _ (compareOp CmpOp.Eq (Value.str _ _) (Value.str _ _)) _ _ _); refine l_eq (by walk_at "lit") (by walk_at "lit") ?_)) | (((with_reducible show wpAny _ _ (binaryOp Operator.Add (Value.str _ _) (Value.str _ _)) _ _ _); refine l_add (by walk_at "lit") (by walk_at "lit") (by walk_at "num") ?_; intro _ _)) | (((with_reducible show wpAny _ _ (call (Value.builtin "len") [Value.str (S _) _]) _ _ _); refine s_len (by walk_at "num") ?_; intro _ _)) | (((with_reducible rename Fr _ _ _ _ => F'); (with_reducible rename News _ _ _ _ => N'); first | ((with_reducible show wpAny _ _ (subscriptTail _ (Expr.Slice (some _) (some _) none _) (Value.str (S _) _) _) _ _ _); refine s_slice_ss (s := ⟨_, _, _, _, _⟩) F' N' (by walk_at "num") (by walk_at "num") (by walk_at "num") (by walk_at "num") ?_; intro _ _ _ _ _) | ((with_reducible show wpAny _ _ (subscriptTail _ (Expr.Slice (some (Expr.UnaryOp _ _ _)) none none _) (Value.str (S _) _) _) _ _ _); refine s_slice_last (s := ⟨_, _, _, _, _⟩) F' N' (by walk_at "num") ?_; intro _ _ _ _ _) | ((with_reducible show wpAny _ _ (subscriptTail _ (Expr.Slice (some _) none none _) (Value.str (S _) _) _) _ _ _); refine s_slice_sn (s := ⟨_, _, _, _, _⟩) F' N' (by walk_at "num") (by walk_at "num") (by walk_at "num") ?_; intro _ _ _ _ _) | ((with_reducible show wpAny _ _ (subscriptTail _ (Expr.Slice none (some _) none _) (Value.str (S _) _) _) _ _ _); refine s_slice_init (s := ⟨_, _, _, _, _⟩) F' N' (by walk_at "num") (by walk_at "num") ?_; intro _ _ _ _ _))) | (((with_reducible show wpAny _ _ (subscriptTail _ _ (Value.str (S _) _) (Value.int _ _)) _ _ _); first | (with_reducible refine s_item_neg (by walk_at "num") (by walk_at "num") ?_; intro _ _) | (refine s_item (by walk_at "num") (by walk_at "num") (by walk_at "num") ?_; intro _ _))) | (((with_reducible show wpAny _ _ (truthy (Value.str (S _) _)) _ _ _); refine s_truthy (by walk_at "num") ?_; intro _)))) | ((fail_if_success (with_reducible (first | show wpAny _ _ (exec (Stmt.While _ _ _ _) _) _ _ _ | show wpAny _ _ (call (Value.ref _) _) _ _ _ | show wpAny _ _ (call (Value.type "int") _) _ _ _ | show wpAny _ _ (exec (Stmt.For _ _ _ _ _) _) _ _ _ | show LpEnd _ _ _ _ _ _ _ _ _ _ | show wpAny _ _ (call (Value.builtin "str.rstrip") _) _ _ _ | show wpAny _ _ (call (Value.builtin "str.splitlines") _) _ _ _ | show wpAny _ _ (pyIter _) _ _ _ | show OutQ _ _ _ _ _ _ _ _ _ _ | show KswEnd _ _ _ _ _ _ _ _ _ _ _ _))); first | walk1 | (dsimp only; walk1))))
    refine while_out (σ := Nat × Tok × List Value × Nat) (fun c => (I, oI) :: (le, listOf c.2.2.1.toArray c.2.2.2) :: (qa, appObj le) :: (D', listOf vs'.toArray 0) :: news) (fun c => [(Str.ofString "start", .int (c.1 : Int) c.2.1)]) [Str.ofString "stop"]
      (fun c => c.1 ≤ y.length ∧ ∃ ts f, TxtsAre c.2.2.1 ts ∧ y.length ≤ c.1 + f ∧ ts ++ pcsL wd f (y.drop c.1) = pcsAll wd ((linesG false tx).take (i + 1)))
      (fun c => c.1 ≤ y.length ∧ ∃ ts, TxtsAre c.2.2.1 ts ∧ ts ++ [y.drop c.1] = pcsAll wd ((linesG false tx).take (i + 1))) (fun c => y.length - c.1) (0, _, ws, cw) (by k_asm) (by k_asm) (List.forall_mem_cons.mpr ⟨rfl, List.forall_mem_nil _⟩) ⟨Nat.zero_le _, _, y.length, hP, by dsimp only; omega, by rw [hnx]; rfl⟩ ?wturn ?wafter
    case wturn =>
      rintro ⟨n, tn, zs, cz⟩ u2 h2 tk2 ⟨e1, ts, f, e2, e3, e4⟩ F9 N9
      dsimp only [kstB] at e1 e2 e3 e4 F9 N9
      have hb9 := congrArg List.length e4
      rw [List.length_append, ← e2.length] at hb9
      have hn1 : ((n : Int) + ((wd : Int) - 1) - 2).toNat = n + wd - 3 := by omega
      have hn2 : ((n : Int) + ((wd : Int) - 1) - 1).toNat = n + wd - 2 := by omega
      have hn3 : ((n : Int) + ((wd : Int) - 1)).toNat = n + wd - 1 := by omega
      have hst : (n : Int) ≤ (y.length : Int) - 1 - (wd : Int) → ∃ f', f = f' + 1 := fun h => ⟨f - 1, by omega⟩
      have hIle : I ≠ le := fun e => off _ (.head _) e.symm
      (repeat' (first | (k_unfold; (try dsimp only)) | ((first | (((with_reducible show wpAny _ _ (compareOp CmpOp.In (Value.str (S [_]) _) (Value.str _ _)) _ _ _); refine l_in (by walk_at "lit") (by walk_at "lit") ?_; rw [decide_eq_false (by assumption)])) | (((with_reducible show wpAny _ _ (callWith _ (Value.ref _) [] (backTo _ (starEach [_] _)) []) _ _ _); refine callWith_app (by k_asm) (by k_mem) ?_)) | (((with_reducible show wpAny _ _ (compareOp CmpOp.In (Value.str _ _) (Value.str _ _)) _ _ _); refine l_in (by walk_at "lit") (by walk_at "lit") ?_)) | (((with_reducible show wpAny _ _ (compareOp CmpOp.Eq (Value.str _ _) (Value.str _ _)) _ _ _); refine l_eq (by walk_at "lit") (by walk_at "lit") ?_)) | (((with_reducible show wpAny _ _ (binaryOp Operator.Add (Value.str _ _) (Value.str _ _)) _ _ _); refine l_add (by walk_at "lit") (by walk_at "lit") (by walk_at "num") ?_; intro _ _)) | (((with_reducible show wpAny _ _ (call (Value.builtin "len") [Value.str (S _) _]) _ _ _); refine s_len (by walk_at "num") ?_; intro _ _)) | (((with_reducible rename Fr _ _ _ _ => F'); (with_reducible rename News _ _ _ _ => N'); first | ((with_reducible show wpAny _ _ (subscriptTail _ (Expr.Slice (some _) (some _) none _) (Value.str (S _) _) _) _ _ _); refine s_slice_ss (s := ⟨_, _, _, _, _⟩) F' N' (by walk_at "num") (by walk_at "num") (by walk_at "num") (by walk_at "num") ?_; intro _ _ _ _ _) | ((with_reducible show wpAny _ _ (subscriptTail _ (Expr.Slice (some (Expr.UnaryOp _ _ _)) none none _) (Value.str (S _) _) _) _ _ _); refine s_slice_last (s := ⟨_, _, _, _, _⟩) F' N' (by walk_at "num") ?_; intro _ _ _ _ _) | ((with_reducible show wpAny _ _ (subscriptTail _ (Expr.Slice (some _) none none _) (Value.str (S _) _) _) _ _ _); refine s_slice_sn (s := ⟨_, _, _, _, _⟩) F' N' (by walk_at "num") (by walk_at "num") (by walk_at "num") ?_; intro _ _ _ _ _) | ((with_reducible show wpAny _ _ (subscriptTail _ (Expr.Slice none (some _) none _) (Value.str (S _) _) _) _ _ _); refine s_slice_init (s := ⟨_, _, _, _, _⟩) F' N' (by walk_at "num") (by walk_at "num") ?_; intro _ _ _ _ _))) | (((with_reducible show wpAny _ _ (subscriptTail _ _ (Value.str (S _) _) (Value.int _ _)) _ _ _); first | (with_reducible refine s_item_neg (by walk_at "num") (by walk_at "num") ?_; intro _ _) | (refine s_item (by walk_at "num") (by walk_at "num") (by walk_at "num") ?_; intro _ _))) | (((with_reducible show wpAny _ _ (truthy (Value.str (S _) _)) _ _ _); refine s_truthy (by walk_at "num") ?_; intro _)))) | ((fail_if_success (with_reducible (first | show wpAny _ _ (exec (Stmt.While _ _ _ _) _) _ _ _ | show wpAny _ _ (call (Value.ref _) _) _ _ _ | show wpAny _ _ (call (Value.type "int") _) _ _ _ | show wpAny _ _ (exec (Stmt.For _ _ _ _ _) _) _ _ _ | show LpEnd _ _ _ _ _ _ _ _ _ _ | show wpAny _ _ (call (Value.builtin "str.rstrip") _) _ _ _ | show wpAny _ _ (call (Value.builtin "str.splitlines") _) _ _ _ | show wpAny _ _ (pyIter _) _ _ _ | show OutQ _ _ _ _ _ _ _ _ _ _ | show KswEnd _ _ _ _ _ _ _ _ _ _ _ _))); first | walk1 | (dsimp only; walk1))))
      all_goals simp only [Int.toNat_natCast, hn1, hn2, hn3, List.cons.injEq, and_true] at *
      · obtain ⟨f', rfl⟩ := hst (by assumption)
        rw [pcs_esc1 hw (by omega) (by assumption)] at e4
        refine app_at2 (by k_asm) (by k_asm) (.head _) hIle hne (by omega) fun h7 F7 N7 => ?_
        (repeat' (first | (k_unfold; (try dsimp only)) | ((first | (((with_reducible show wpAny _ _ (compareOp CmpOp.In (Value.str (S [_]) _) (Value.str _ _)) _ _ _); refine l_in (by walk_at "lit") (by walk_at "lit") ?_; rw [decide_eq_false (by assumption)])) | (((with_reducible show wpAny _ _ (callWith _ (Value.ref _) [] (backTo _ (starEach [_] _)) []) _ _ _); refine callWith_app (by k_asm) (by k_mem) ?_)) | (((with_reducible show wpAny _ _ (compareOp CmpOp.In (Value.str _ _) (Value.str _ _)) _ _ _); refine l_in (by walk_at "lit") (by walk_at "lit") ?_)) | (((with_reducible show wpAny _ _ (compareOp CmpOp.Eq (Value.str _ _) (Value.str _ _)) _ _ _); refine l_eq (by walk_at "lit") (by walk_at "lit") ?_)) | (((with_reducible show wpAny _ _ (binaryOp Operator.Add (Value.str _ _) (Value.str _ _)) _ _ _); refine l_add (by walk_at "lit") (by walk_at "lit") (by walk_at "num") ?_; intro _ _)) | (((with_reducible show wpAny _ _ (call (Value.builtin "len") [Value.str (S _) _]) _ _ _); refine s_len (by walk_at "num") ?_; intro _ _)) | (((with_reducible rename Fr _ _ _ _ => F'); (with_reducible rename News _ _ _ _ => N'); first | ((with_reducible show wpAny _ _ (subscriptTail _ (Expr.Slice (some _) (some _) none _) (Value.str (S _) _) _) _ _ _); refine s_slice_ss (s := ⟨_, _, _, _, _⟩) F' N' (by walk_at "num") (by walk_at "num") (by walk_at "num") (by walk_at "num") ?_; intro _ _ _ _ _) | ((with_reducible show wpAny _ _ (subscriptTail _ (Expr.Slice (some (Expr.UnaryOp _ _ _)) none none _) (Value.str (S _) _) _) _ _ _); refine s_slice_last (s := ⟨_, _, _, _, _⟩) F' N' (by walk_at "num") ?_; intro _ _ _ _ _) | ((with_reducible show wpAny _ _ (subscriptTail _ (Expr.Slice (some _) none none _) (Value.str (S _) _) _) _ _ _); refine s_slice_sn (s := ⟨_, _, _, _, _⟩) F' N' (by walk_at "num") (by walk_at "num") (by walk_at "num") ?_; intro _ _ _ _ _) | ((with_reducible show wpAny _ _ (subscriptTail _ (Expr.Slice none (some _) none _) (Value.str (S _) _) _) _ _ _); refine s_slice_init (s := ⟨_, _, _, _, _⟩) F' N' (by walk_at "num") (by walk_at "num") ?_; intro _ _ _ _ _))) | (((with_reducible show wpAny _ _ (subscriptTail _ _ (Value.str (S _) _) (Value.int _ _)) _ _ _); first | (with_reducible refine s_item_neg (by walk_at "num") (by walk_at "num") ?_; intro _ _) | (refine s_item (by walk_at "num") (by walk_at "num") (by walk_at "num") ?_; intro _ _))) | (((with_reducible show wpAny _ _ (truthy (Value.str (S _) _)) _ _ _); refine s_truthy (by walk_at "num") ?_; intro _)))) | ((fail_if_success (with_reducible (first | show wpAny _ _ (exec (Stmt.While _ _ _ _) _) _ _ _ | show wpAny _ _ (call (Value.ref _) _) _ _ _ | show wpAny _ _ (call (Value.type "int") _) _ _ _ | show wpAny _ _ (exec (Stmt.For _ _ _ _ _) _) _ _ _ | show LpEnd _ _ _ _ _ _ _ _ _ _ | show wpAny _ _ (call (Value.builtin "str.rstrip") _) _ _ _ | show wpAny _ _ (call (Value.builtin "str.splitlines") _) _ _ _ | show wpAny _ _ (pyIter _) _ _ _ | show OutQ _ _ _ _ _ _ _ _ _ _ | show KswEnd _ _ _ _ _ _ _ _ _ _ _ _))); first | walk1 | (dsimp only; walk1))))
        refine ksw_end (n + wd - 3, _, zs ++ [_], cz + 1) (by k_asm) (by k_asm) (fun _ h => h) trivial (by refine List.forall_mem_cons.mpr ⟨?_, List.forall_mem_nil _⟩ <;> first | exact rfl | exact intEq (by omega)) (by ksw_same) ⟨by dsimp only; omega, _, f', e2.snoc, by dsimp only; omega, ?_⟩ (by dsimp only; omega)
        rw [← e4, show n + wd - 2 - n = wd - 2 by omega, List.append_assoc]; rfl
      · obtain ⟨f', rfl⟩ := hst (by assumption)
        rw [pcs_esc2 hw (by omega) (by assumption) (by assumption)] at e4
        refine app_at2 (by k_asm) (by k_asm) (.head _) hIle hne (by omega) fun h7 F7 N7 => ?_
        (repeat' (first | (k_unfold; (try dsimp only)) | ((first | (((with_reducible show wpAny _ _ (compareOp CmpOp.In (Value.str (S [_]) _) (Value.str _ _)) _ _ _); refine l_in (by walk_at "lit") (by walk_at "lit") ?_; rw [decide_eq_false (by assumption)])) | (((with_reducible show wpAny _ _ (callWith _ (Value.ref _) [] (backTo _ (starEach [_] _)) []) _ _ _); refine callWith_app (by k_asm) (by k_mem) ?_)) | (((with_reducible show wpAny _ _ (compareOp CmpOp.In (Value.str _ _) (Value.str _ _)) _ _ _); refine l_in (by walk_at "lit") (by walk_at "lit") ?_)) | (((with_reducible show wpAny _ _ (compareOp CmpOp.Eq (Value.str _ _) (Value.str _ _)) _ _ _); refine l_eq (by walk_at "lit") (by walk_at "lit") ?_)) | (((with_reducible show wpAny _ _ (binaryOp Operator.Add (Value.str _ _) (Value.str _ _)) _ _ _); refine l_add (by walk_at "lit") (by walk_at "lit") (by walk_at "num") ?_; intro _ _)) | (((with_reducible show wpAny _ _ (call (Value.builtin "len") [Value.str (S _) _]) _ _ _); refine s_len (by walk_at "num") ?_; intro _ _)) | (((with_reducible rename Fr _ _ _ _ => F'); (with_reducible rename News _ _ _ _ => N'); first | ((with_reducible show wpAny _ _ (subscriptTail _ (Expr.Slice (some _) (some _) none _) (Value.str (S _) _) _) _ _ _); refine s_slice_ss (s := ⟨_, _, _, _, _⟩) F' N' (by walk_at "num") (by walk_at "num") (by walk_at "num") (by walk_at "num") ?_; intro _ _ _ _ _) | ((with_reducible show wpAny _ _ (subscriptTail _ (Expr.Slice (some (Expr.UnaryOp _ _ _)) none none _) (Value.str (S _) _) _) _ _ _); refine s_slice_last (s := ⟨_, _, _, _, _⟩) F' N' (by walk_at "num") ?_; intro _ _ _ _ _) | ((with_reducible show wpAny _ _ (subscriptTail _ (Expr.Slice (some _) none none _) (Value.str (S _) _) _) _ _ _); refine s_slice_sn (s := ⟨_, _, _, _, _⟩) F' N' (by walk_at "num") (by walk_at "num") (by walk_at "num") ?_; intro _ _ _ _ _) | ((with_reducible show wpAny _ _ (subscriptTail _ (Expr.Slice none (some _) none _) (Value.str (S _) _) _) _ _ _); refine s_slice_init (s := ⟨_, _, _, _, _⟩) F' N' (by walk_at "num") (by walk_at "num") ?_; intro _ _ _ _ _))) | (((with_reducible show wpAny _ _ (subscriptTail _ _ (Value.str (S _) _) (Value.int _ _)) _ _ _); first | (with_reducible refine s_item_neg (by walk_at "num") (by walk_at "num") ?_; intro _ _) | (refine s_item (by walk_at "num") (by walk_at "num") (by walk_at "num") ?_; intro _ _))) | (((with_reducible show wpAny _ _ (truthy (Value.str (S _) _)) _ _ _); refine s_truthy (by walk_at "num") ?_; intro _)))) | ((fail_if_success (with_reducible (first | show wpAny _ _ (exec (Stmt.While _ _ _ _) _) _ _ _ | show wpAny _ _ (call (Value.ref _) _) _ _ _ | show wpAny _ _ (call (Value.type "int") _) _ _ _ | show wpAny _ _ (exec (Stmt.For _ _ _ _ _) _) _ _ _ | show LpEnd _ _ _ _ _ _ _ _ _ _ | show wpAny _ _ (call (Value.builtin "str.rstrip") _) _ _ _ | show wpAny _ _ (call (Value.builtin "str.splitlines") _) _ _ _ | show wpAny _ _ (pyIter _) _ _ _ | show OutQ _ _ _ _ _ _ _ _ _ _ | show KswEnd _ _ _ _ _ _ _ _ _ _ _ _))); first | walk1 | (dsimp only; walk1))))
        refine ksw_end (n + wd - 2, _, zs ++ [_], cz + 1) (by k_asm) (by k_asm) (fun _ h => h) trivial (by refine List.forall_mem_cons.mpr ⟨?_, List.forall_mem_nil _⟩ <;> first | exact rfl | exact intEq (by omega)) (by ksw_same) ⟨by dsimp only; omega, _, f', e2.snoc, by dsimp only; omega, ?_⟩ (by dsimp only; omega)
        rw [← e4, show n + wd - 1 - n = wd - 1 by omega, List.append_assoc]; rfl
      · obtain ⟨f', rfl⟩ := hst (by assumption)
        rw [pcs_cut hw (by omega) (by assumption) (by assumption)] at e4
        refine app_at2 (by k_asm) (by k_asm) (.head _) hIle hne (by omega) fun h7 F7 N7 => ?_
        (repeat' (first | (k_unfold; (try dsimp only)) | ((first | (((with_reducible show wpAny _ _ (compareOp CmpOp.In (Value.str (S [_]) _) (Value.str _ _)) _ _ _); refine l_in (by walk_at "lit") (by walk_at "lit") ?_; rw [decide_eq_false (by assumption)])) | (((with_reducible show wpAny _ _ (callWith _ (Value.ref _) [] (backTo _ (starEach [_] _)) []) _ _ _); refine callWith_app (by k_asm) (by k_mem) ?_)) | (((with_reducible show wpAny _ _ (compareOp CmpOp.In (Value.str _ _) (Value.str _ _)) _ _ _); refine l_in (by walk_at "lit") (by walk_at "lit") ?_)) | (((with_reducible show wpAny _ _ (compareOp CmpOp.Eq (Value.str _ _) (Value.str _ _)) _ _ _); refine l_eq (by walk_at "lit") (by walk_at "lit") ?_)) | (((with_reducible show wpAny _ _ (binaryOp Operator.Add (Value.str _ _) (Value.str _ _)) _ _ _); refine l_add (by walk_at "lit") (by walk_at "lit") (by walk_at "num") ?_; intro _ _)) | (((with_reducible show wpAny _ _ (call (Value.builtin "len") [Value.str (S _) _]) _ _ _); refine s_len (by walk_at "num") ?_; intro _ _)) | (((with_reducible rename Fr _ _ _ _ => F'); (with_reducible rename News _ _ _ _ => N'); first | ((with_reducible show wpAny _ _ (subscriptTail _ (Expr.Slice (some _) (some _) none _) (Value.str (S _) _) _) _ _ _); refine s_slice_ss (s := ⟨_, _, _, _, _⟩) F' N' (by walk_at "num") (by walk_at "num") (by walk_at "num") (by walk_at "num") ?_; intro _ _ _ _ _) | ((with_reducible show wpAny _ _ (subscriptTail _ (Expr.Slice (some (Expr.UnaryOp _ _ _)) none none _) (Value.str (S _) _) _) _ _ _); refine s_slice_last (s := ⟨_, _, _, _, _⟩) F' N' (by walk_at "num") ?_; intro _ _ _ _ _) | ((with_reducible show wpAny _ _ (subscriptTail _ (Expr.Slice (some _) none none _) (Value.str (S _) _) _) _ _ _); refine s_slice_sn (s := ⟨_, _, _, _, _⟩) F' N' (by walk_at "num") (by walk_at "num") (by walk_at "num") ?_; intro _ _ _ _ _) | ((with_reducible show wpAny _ _ (subscriptTail _ (Expr.Slice none (some _) none _) (Value.str (S _) _) _) _ _ _); refine s_slice_init (s := ⟨_, _, _, _, _⟩) F' N' (by walk_at "num") (by walk_at "num") ?_; intro _ _ _ _ _))) | (((with_reducible show wpAny _ _ (subscriptTail _ _ (Value.str (S _) _) (Value.int _ _)) _ _ _); first | (with_reducible refine s_item_neg (by walk_at "num") (by walk_at "num") ?_; intro _ _) | (refine s_item (by walk_at "num") (by walk_at "num") (by walk_at "num") ?_; intro _ _))) | (((with_reducible show wpAny _ _ (truthy (Value.str (S _) _)) _ _ _); refine s_truthy (by walk_at "num") ?_; intro _)))) | ((fail_if_success (with_reducible (first | show wpAny _ _ (exec (Stmt.While _ _ _ _) _) _ _ _ | show wpAny _ _ (call (Value.ref _) _) _ _ _ | show wpAny _ _ (call (Value.type "int") _) _ _ _ | show wpAny _ _ (exec (Stmt.For _ _ _ _ _) _) _ _ _ | show LpEnd _ _ _ _ _ _ _ _ _ _ | show wpAny _ _ (call (Value.builtin "str.rstrip") _) _ _ _ | show wpAny _ _ (call (Value.builtin "str.splitlines") _) _ _ _ | show wpAny _ _ (pyIter _) _ _ _ | show OutQ _ _ _ _ _ _ _ _ _ _ | show KswEnd _ _ _ _ _ _ _ _ _ _ _ _))); first | walk1 | (dsimp only; walk1))))
        refine ksw_end (n + wd - 1, _, zs ++ [_], cz + 1) (by k_asm) (by k_asm) (fun _ h => h) trivial (by refine List.forall_mem_cons.mpr ⟨?_, List.forall_mem_nil _⟩ <;> first | exact rfl | exact intEq (by omega)) (by ksw_same) ⟨by dsimp only; omega, _, f', e2.snoc, by dsimp only; omega, ?_⟩ (by dsimp only; omega)
        rw [← e4, show n + wd - 1 - n = wd - 1 by omega, List.append_assoc]; rfl
      · rw [pcs_end (by omega)] at e4
        exact outQ (n, tn, zs, cz) (by k_asm) (by k_asm) (fun _ h => h) (List.forall_mem_cons.mpr ⟨rfl, List.forall_mem_nil _⟩) (by ksw_same) ⟨e1, ts, e2, e4⟩
    case wafter =>
      rintro ⟨n, tn, zs, cz⟩ u2 h2 tk2 ⟨e1, ts, e2, e4⟩ F9 N9
      dsimp only [kstB] at e1 e2 e4 F9 N9
      have hb9 := congrArg List.length e4
      rw [List.length_append, ← e2.length] at hb9
      have hIle : I ≠ le := fun e => off _ (.head _) e.symm
      (repeat' (first | (k_unfold; (try dsimp only)) | ((first | (((with_reducible show wpAny _ _ (compareOp CmpOp.In (Value.str (S [_]) _) (Value.str _ _)) _ _ _); refine l_in (by walk_at "lit") (by walk_at "lit") ?_; rw [decide_eq_false (by assumption)])) | (((with_reducible show wpAny _ _ (callWith _ (Value.ref _) [] (backTo _ (starEach [_] _)) []) _ _ _); refine callWith_app (by k_asm) (by k_mem) ?_)) | (((with_reducible show wpAny _ _ (compareOp CmpOp.In (Value.str _ _) (Value.str _ _)) _ _ _); refine l_in (by walk_at "lit") (by walk_at "lit") ?_)) | (((with_reducible show wpAny _ _ (compareOp CmpOp.Eq (Value.str _ _) (Value.str _ _)) _ _ _); refine l_eq (by walk_at "lit") (by walk_at "lit") ?_)) | (((with_reducible show wpAny _ _ (binaryOp Operator.Add (Value.str _ _) (Value.str _ _)) _ _ _); refine l_add (by walk_at "lit") (by walk_at "lit") (by walk_at "num") ?_; intro _ _)) | (((with_reducible show wpAny _ _ (call (Value.builtin "len") [Value.str (S _) _]) _ _ _); refine s_len (by walk_at "num") ?_; intro _ _)) | (((with_reducible rename Fr _ _ _ _ => F'); (with_reducible rename News _ _ _ _ => N'); first | ((with_reducible show wpAny _ _ (subscriptTail _ (Expr.Slice (some _) (some _) none _) (Value.str (S _) _) _) _ _ _); refine s_slice_ss (s := ⟨_, _, _, _, _⟩) F' N' (by walk_at "num") (by walk_at "num") (by walk_at "num") (by walk_at "num") ?_; intro _ _ _ _ _) | ((with_reducible show wpAny _ _ (subscriptTail _ (Expr.Slice (some (Expr.UnaryOp _ _ _)) none none _) (Value.str (S _) _) _) _ _ _); refine s_slice_last (s := ⟨_, _, _, _, _⟩) F' N' (by walk_at "num") ?_; intro _ _ _ _ _) | ((with_reducible show wpAny _ _ (subscriptTail _ (Expr.Slice (some _) none none _) (Value.str (S _) _) _) _ _ _); refine s_slice_sn (s := ⟨_, _, _, _, _⟩) F' N' (by walk_at "num") (by walk_at "num") (by walk_at "num") ?_; intro _ _ _ _ _) | ((with_reducible show wpAny _ _ (subscriptTail _ (Expr.Slice none (some _) none _) (Value.str (S _) _) _) _ _ _); refine s_slice_init (s := ⟨_, _, _, _, _⟩) F' N' (by walk_at "num") (by walk_at "num") ?_; intro _ _ _ _ _))) | (((with_reducible show wpAny _ _ (subscriptTail _ _ (Value.str (S _) _) (Value.int _ _)) _ _ _); first | (with_reducible refine s_item_neg (by walk_at "num") (by walk_at "num") ?_; intro _ _) | (refine s_item (by walk_at "num") (by walk_at "num") (by walk_at "num") ?_; intro _ _))) | (((with_reducible show wpAny _ _ (truthy (Value.str (S _) _)) _ _ _); refine s_truthy (by walk_at "num") ?_; intro _)))) | ((fail_if_success (with_reducible (first | show wpAny _ _ (exec (Stmt.While _ _ _ _) _) _ _ _ | show wpAny _ _ (call (Value.ref _) _) _ _ _ | show wpAny _ _ (call (Value.type "int") _) _ _ _ | show wpAny _ _ (exec (Stmt.For _ _ _ _ _) _) _ _ _ | show LpEnd _ _ _ _ _ _ _ _ _ _ | show wpAny _ _ (call (Value.builtin "str.rstrip") _) _ _ _ | show wpAny _ _ (call (Value.builtin "str.splitlines") _) _ _ _ | show wpAny _ _ (pyIter _) _ _ _ | show OutQ _ _ _ _ _ _ _ _ _ _ | show KswEnd _ _ _ _ _ _ _ _ _ _ _ _))); first | walk1 | (dsimp only; walk1))))
      · refine app_at2 (by k_asm) (by k_asm) (.head _) hIle hne (by omega) fun h7 F7 N7 => ?_
        (repeat' (first | (k_unfold; (try dsimp only)) | ((first | (((with_reducible show wpAny _ _ (compareOp CmpOp.In (Value.str (S [_]) _) (Value.str _ _)) _ _ _); refine l_in (by walk_at "lit") (by walk_at "lit") ?_; rw [decide_eq_false (by assumption)])) | (((with_reducible show wpAny _ _ (callWith _ (Value.ref _) [] (backTo _ (starEach [_] _)) []) _ _ _); refine callWith_app (by k_asm) (by k_mem) ?_)) | (((with_reducible show wpAny _ _ (compareOp CmpOp.In (Value.str _ _) (Value.str _ _)) _ _ _); refine l_in (by walk_at "lit") (by walk_at "lit") ?_)) | (((with_reducible show wpAny _ _ (compareOp CmpOp.Eq (Value.str _ _) (Value.str _ _)) _ _ _); refine l_eq (by walk_at "lit") (by walk_at "lit") ?_)) | (((with_reducible show wpAny _ _ (binaryOp Operator.Add (Value.str _ _) (Value.str _ _)) _ _ _); refine l_add (by walk_at "lit") (by walk_at "lit") (by walk_at "num") ?_; intro _ _)) | (((with_reducible show wpAny _ _ (call (Value.builtin "len") [Value.str (S _) _]) _ _ _); refine s_len (by walk_at "num") ?_; intro _ _)) | (((with_reducible rename Fr _ _ _ _ => F'); (with_reducible rename News _ _ _ _ => N'); first | ((with_reducible show wpAny _ _ (subscriptTail _ (Expr.Slice (some _) (some _) none _) (Value.str (S _) _) _) _ _ _); refine s_slice_ss (s := ⟨_, _, _, _, _⟩) F' N' (by walk_at "num") (by walk_at "num") (by walk_at "num") (by walk_at "num") ?_; intro _ _ _ _ _) | ((with_reducible show wpAny _ _ (subscriptTail _ (Expr.Slice (some (Expr.UnaryOp _ _ _)) none none _) (Value.str (S _) _) _) _ _ _); refine s_slice_last (s := ⟨_, _, _, _, _⟩) F' N' (by walk_at "num") ?_; intro _ _ _ _ _) | ((with_reducible show wpAny _ _ (subscriptTail _ (Expr.Slice (some _) none none _) (Value.str (S _) _) _) _ _ _); refine s_slice_sn (s := ⟨_, _, _, _, _⟩) F' N' (by walk_at "num") (by walk_at "num") (by walk_at "num") ?_; intro _ _ _ _ _) | ((with_reducible show wpAny _ _ (subscriptTail _ (Expr.Slice none (some _) none _) (Value.str (S _) _) _) _ _ _); refine s_slice_init (s := ⟨_, _, _, _, _⟩) F' N' (by walk_at "num") (by walk_at "num") ?_; intro _ _ _ _ _))) | (((with_reducible show wpAny _ _ (subscriptTail _ _ (Value.str (S _) _) (Value.int _ _)) _ _ _); first | (with_reducible refine s_item_neg (by walk_at "num") (by walk_at "num") ?_; intro _ _) | (refine s_item (by walk_at "num") (by walk_at "num") (by walk_at "num") ?_; intro _ _))) | (((with_reducible show wpAny _ _ (truthy (Value.str (S _) _)) _ _ _); refine s_truthy (by walk_at "num") ?_; intro _)))) | ((fail_if_success (with_reducible (first | show wpAny _ _ (exec (Stmt.While _ _ _ _) _) _ _ _ | show wpAny _ _ (call (Value.ref _) _) _ _ _ | show wpAny _ _ (call (Value.type "int") _) _ _ _ | show wpAny _ _ (exec (Stmt.For _ _ _ _ _) _) _ _ _ | show LpEnd _ _ _ _ _ _ _ _ _ _ | show wpAny _ _ (call (Value.builtin "str.rstrip") _) _ _ _ | show wpAny _ _ (call (Value.builtin "str.splitlines") _) _ _ _ | show wpAny _ _ (pyIter _) _ _ _ | show OutQ _ _ _ _ _ _ _ _ _ _ | show KswEnd _ _ _ _ _ _ _ _ _ _ _ _))); first | walk1 | (dsimp only; walk1))))
        refine lp_end (zs ++ [_], cz + 1) rfl (by k_asm) (by k_asm) (List.forall_mem_cons.mpr ⟨.head _, List.forall_mem_nil _⟩) (fun p hp => .tail _ hp) (List.forall_mem_cons.mpr ⟨List.forall_mem_cons.mpr ⟨fun e => hIle e.symm, fun r hr => off r (.tail _ hr)⟩, List.forall_mem_nil _⟩) (List.forall_mem_nil _) (by ksw_same) ?_
        simp only [Int.toNat_natCast] at *
        rw [← e4]; exact e2.snoc
      · have hyp : 0 < y.length := by
          have h9 : y.isEmpty = false := by assumption
          cases y with
          | nil => cases h9
          | cons => simp
        have hbl : ¬ y.getD (y.length - 1) 0 ∈ [32, 9] := fun hm => by
          have h8 : y.getD (y.length - 1) 0 ∈ y := by rw [List.getD_eq_getElem?_getD, List.getElem?_eq_getElem (by omega)]; exact List.getElem_mem _
          have h9 := hsp _ h8
          generalize y.getD (y.length - 1) 0 = z at *
          simp only [List.mem_cons, List.not_mem_nil, or_false] at hm
          omega
        (repeat' (first | (k_unfold; (try dsimp only)) | ((first | (((with_reducible show wpAny _ _ (compareOp CmpOp.In (Value.str (S [_]) _) (Value.str _ _)) _ _ _); refine l_in (by walk_at "lit") (by walk_at "lit") ?_; rw [decide_eq_false (by assumption)])) | (((with_reducible show wpAny _ _ (callWith _ (Value.ref _) [] (backTo _ (starEach [_] _)) []) _ _ _); refine callWith_app (by k_asm) (by k_mem) ?_)) | (((with_reducible show wpAny _ _ (compareOp CmpOp.In (Value.str _ _) (Value.str _ _)) _ _ _); refine l_in (by walk_at "lit") (by walk_at "lit") ?_)) | (((with_reducible show wpAny _ _ (compareOp CmpOp.Eq (Value.str _ _) (Value.str _ _)) _ _ _); refine l_eq (by walk_at "lit") (by walk_at "lit") ?_)) | (((with_reducible show wpAny _ _ (binaryOp Operator.Add (Value.str _ _) (Value.str _ _)) _ _ _); refine l_add (by walk_at "lit") (by walk_at "lit") (by walk_at "num") ?_; intro _ _)) | (((with_reducible show wpAny _ _ (call (Value.builtin "len") [Value.str (S _) _]) _ _ _); refine s_len (by walk_at "num") ?_; intro _ _)) | (((with_reducible rename Fr _ _ _ _ => F'); (with_reducible rename News _ _ _ _ => N'); first | ((with_reducible show wpAny _ _ (subscriptTail _ (Expr.Slice (some _) (some _) none _) (Value.str (S _) _) _) _ _ _); refine s_slice_ss (s := ⟨_, _, _, _, _⟩) F' N' (by walk_at "num") (by walk_at "num") (by walk_at "num") (by walk_at "num") ?_; intro _ _ _ _ _) | ((with_reducible show wpAny _ _ (subscriptTail _ (Expr.Slice (some (Expr.UnaryOp _ _ _)) none none _) (Value.str (S _) _) _) _ _ _); refine s_slice_last (s := ⟨_, _, _, _, _⟩) F' N' (by walk_at "num") ?_; intro _ _ _ _ _) | ((with_reducible show wpAny _ _ (subscriptTail _ (Expr.Slice (some _) none none _) (Value.str (S _) _) _) _ _ _); refine s_slice_sn (s := ⟨_, _, _, _, _⟩) F' N' (by walk_at "num") (by walk_at "num") (by walk_at "num") ?_; intro _ _ _ _ _) | ((with_reducible show wpAny _ _ (subscriptTail _ (Expr.Slice none (some _) none _) (Value.str (S _) _) _) _ _ _); refine s_slice_init (s := ⟨_, _, _, _, _⟩) F' N' (by walk_at "num") (by walk_at "num") ?_; intro _ _ _ _ _))) | (((with_reducible show wpAny _ _ (subscriptTail _ _ (Value.str (S _) _) (Value.int _ _)) _ _ _); first | (with_reducible refine s_item_neg (by walk_at "num") (by walk_at "num") ?_; intro _ _) | (refine s_item (by walk_at "num") (by walk_at "num") (by walk_at "num") ?_; intro _ _))) | (((with_reducible show wpAny _ _ (truthy (Value.str (S _) _)) _ _ _); refine s_truthy (by walk_at "num") ?_; intro _)))) | ((fail_if_success (with_reducible (first | show wpAny _ _ (exec (Stmt.While _ _ _ _) _) _ _ _ | show wpAny _ _ (call (Value.ref _) _) _ _ _ | show wpAny _ _ (call (Value.type "int") _) _ _ _ | show wpAny _ _ (exec (Stmt.For _ _ _ _ _) _) _ _ _ | show LpEnd _ _ _ _ _ _ _ _ _ _ | show wpAny _ _ (call (Value.builtin "str.rstrip") _) _ _ _ | show wpAny _ _ (call (Value.builtin "str.splitlines") _) _ _ _ | show wpAny _ _ (pyIter _) _ _ _ | show OutQ _ _ _ _ _ _ _ _ _ _ | show KswEnd _ _ _ _ _ _ _ _ _ _ _ _))); first | walk1 | (dsimp only; walk1))))
        simp only [Int.toNat_natCast] at *
        refine app_at2 (by k_asm) (by k_asm) (.head _) hIle hne (by omega) fun h7 F7 N7 => ?_
        (repeat' (first | (k_unfold; (try dsimp only)) | ((first | (((with_reducible show wpAny _ _ (compareOp CmpOp.In (Value.str (S [_]) _) (Value.str _ _)) _ _ _); refine l_in (by walk_at "lit") (by walk_at "lit") ?_; rw [decide_eq_false (by assumption)])) | (((with_reducible show wpAny _ _ (callWith _ (Value.ref _) [] (backTo _ (starEach [_] _)) []) _ _ _); refine callWith_app (by k_asm) (by k_mem) ?_)) | (((with_reducible show wpAny _ _ (compareOp CmpOp.In (Value.str _ _) (Value.str _ _)) _ _ _); refine l_in (by walk_at "lit") (by walk_at "lit") ?_)) | (((with_reducible show wpAny _ _ (compareOp CmpOp.Eq (Value.str _ _) (Value.str _ _)) _ _ _); refine l_eq (by walk_at "lit") (by walk_at "lit") ?_)) | (((with_reducible show wpAny _ _ (binaryOp Operator.Add (Value.str _ _) (Value.str _ _)) _ _ _); refine l_add (by walk_at "lit") (by walk_at "lit") (by walk_at "num") ?_; intro _ _)) | (((with_reducible show wpAny _ _ (call (Value.builtin "len") [Value.str (S _) _]) _ _ _); refine s_len (by walk_at "num") ?_; intro _ _)) | (((with_reducible rename Fr _ _ _ _ => F'); (with_reducible rename News _ _ _ _ => N'); first | ((with_reducible show wpAny _ _ (subscriptTail _ (Expr.Slice (some _) (some _) none _) (Value.str (S _) _) _) _ _ _); refine s_slice_ss (s := ⟨_, _, _, _, _⟩) F' N' (by walk_at "num") (by walk_at "num") (by walk_at "num") (by walk_at "num") ?_; intro _ _ _ _ _) | ((with_reducible show wpAny _ _ (subscriptTail _ (Expr.Slice (some (Expr.UnaryOp _ _ _)) none none _) (Value.str (S _) _) _) _ _ _); refine s_slice_last (s := ⟨_, _, _, _, _⟩) F' N' (by walk_at "num") ?_; intro _ _ _ _ _) | ((with_reducible show wpAny _ _ (subscriptTail _ (Expr.Slice (some _) none none _) (Value.str (S _) _) _) _ _ _); refine s_slice_sn (s := ⟨_, _, _, _, _⟩) F' N' (by walk_at "num") (by walk_at "num") (by walk_at "num") ?_; intro _ _ _ _ _) | ((with_reducible show wpAny _ _ (subscriptTail _ (Expr.Slice none (some _) none _) (Value.str (S _) _) _) _ _ _); refine s_slice_init (s := ⟨_, _, _, _, _⟩) F' N' (by walk_at "num") (by walk_at "num") ?_; intro _ _ _ _ _))) | (((with_reducible show wpAny _ _ (subscriptTail _ _ (Value.str (S _) _) (Value.int _ _)) _ _ _); first | (with_reducible refine s_item_neg (by walk_at "num") (by walk_at "num") ?_; intro _ _) | (refine s_item (by walk_at "num") (by walk_at "num") (by walk_at "num") ?_; intro _ _))) | (((with_reducible show wpAny _ _ (truthy (Value.str (S _) _)) _ _ _); refine s_truthy (by walk_at "num") ?_; intro _)))) | ((fail_if_success (with_reducible (first | show wpAny _ _ (exec (Stmt.While _ _ _ _) _) _ _ _ | show wpAny _ _ (call (Value.ref _) _) _ _ _ | show wpAny _ _ (call (Value.type "int") _) _ _ _ | show wpAny _ _ (exec (Stmt.For _ _ _ _ _) _) _ _ _ | show LpEnd _ _ _ _ _ _ _ _ _ _ | show wpAny _ _ (call (Value.builtin "str.rstrip") _) _ _ _ | show wpAny _ _ (call (Value.builtin "str.splitlines") _) _ _ _ | show wpAny _ _ (pyIter _) _ _ _ | show OutQ _ _ _ _ _ _ _ _ _ _ | show KswEnd _ _ _ _ _ _ _ _ _ _ _ _))); first | walk1 | (dsimp only; walk1))))
        refine lp_end (zs ++ [_], cz + 1) rfl (by k_asm) (by k_asm) (List.forall_mem_cons.mpr ⟨.head _, List.forall_mem_nil _⟩) (fun p hp => .tail _ hp) (List.forall_mem_cons.mpr ⟨List.forall_mem_cons.mpr ⟨fun e => hIle e.symm, fun r hr => off r (.tail _ hr)⟩, List.forall_mem_nil _⟩) (List.forall_mem_nil _) (by ksw_same) ?_
        rw [← e4]; exact e2.snoc
  case after =>
    rintro ⟨ws, cw⟩ u g hh tk hP hC F8 N8
    subst hC
    dsimp only [kstB] at hP F8 N8
    rw [List.size_toArray, e'.length, List.take_length] at hP
    have hb1 := all_len wd (linesG false tx)
    have hb2 := all_sum hw (linesG false tx)
    have hb3 := lines_wt false tx
    rw [show ((linesG false tx).map fun y => pcsL wd y.length y).flatten = pcsAll wd (linesG false tx) from rfl] at hret
    (repeat' (first | (k_unfold; (try dsimp only)) | ((first | (((with_reducible show wpAny _ _ (compareOp CmpOp.In (Value.str (S [_]) _) (Value.str _ _)) _ _ _); refine l_in (by walk_at "lit") (by walk_at "lit") ?_; rw [decide_eq_false (by assumption)])) | (((with_reducible show wpAny _ _ (callWith _ (Value.ref _) [] (backTo _ (starEach [_] _)) []) _ _ _); refine callWith_app (by k_asm) (by k_mem) ?_)) | (((with_reducible show wpAny _ _ (compareOp CmpOp.In (Value.str _ _) (Value.str _ _)) _ _ _); refine l_in (by walk_at "lit") (by walk_at "lit") ?_)) | (((with_reducible show wpAny _ _ (compareOp CmpOp.Eq (Value.str _ _) (Value.str _ _)) _ _ _); refine l_eq (by walk_at "lit") (by walk_at "lit") ?_)) | (((with_reducible show wpAny _ _ (binaryOp Operator.Add (Value.str _ _) (Value.str _ _)) _ _ _); refine l_add (by walk_at "lit") (by walk_at "lit") (by walk_at "num") ?_; intro _ _)) | (((with_reducible show wpAny _ _ (call (Value.builtin "len") [Value.str (S _) _]) _ _ _); refine s_len (by walk_at "num") ?_; intro _ _)) | (((with_reducible rename Fr _ _ _ _ => F'); (with_reducible rename News _ _ _ _ => N'); first | ((with_reducible show wpAny _ _ (subscriptTail _ (Expr.Slice (some _) (some _) none _) (Value.str (S _) _) _) _ _ _); refine s_slice_ss (s := ⟨_, _, _, _, _⟩) F' N' (by walk_at "num") (by walk_at "num") (by walk_at "num") (by walk_at "num") ?_; intro _ _ _ _ _) | ((with_reducible show wpAny _ _ (subscriptTail _ (Expr.Slice (some (Expr.UnaryOp _ _ _)) none none _) (Value.str (S _) _) _) _ _ _); refine s_slice_last (s := ⟨_, _, _, _, _⟩) F' N' (by walk_at "num") ?_; intro _ _ _ _ _) | ((with_reducible show wpAny _ _ (subscriptTail _ (Expr.Slice (some _) none none _) (Value.str (S _) _) _) _ _ _); refine s_slice_sn (s := ⟨_, _, _, _, _⟩) F' N' (by walk_at "num") (by walk_at "num") (by walk_at "num") ?_; intro _ _ _ _ _) | ((with_reducible show wpAny _ _ (subscriptTail _ (Expr.Slice none (some _) none _) (Value.str (S _) _) _) _ _ _); refine s_slice_init (s := ⟨_, _, _, _, _⟩) F' N' (by walk_at "num") (by walk_at "num") ?_; intro _ _ _ _ _))) | (((with_reducible show wpAny _ _ (subscriptTail _ _ (Value.str (S _) _) (Value.int _ _)) _ _ _); first | (with_reducible refine s_item_neg (by walk_at "num") (by walk_at "num") ?_; intro _ _) | (refine s_item (by walk_at "num") (by walk_at "num") (by walk_at "num") ?_; intro _ _))) | (((with_reducible show wpAny _ _ (truthy (Value.str (S _) _)) _ _ _); refine s_truthy (by walk_at "num") ?_; intro _)))) | ((fail_if_success (with_reducible (first | show wpAny _ _ (exec (Stmt.While _ _ _ _) _) _ _ _ | show wpAny _ _ (call (Value.ref _) _) _ _ _ | show wpAny _ _ (call (Value.type "int") _) _ _ _ | show wpAny _ _ (exec (Stmt.For _ _ _ _ _) _) _ _ _ | show LpEnd _ _ _ _ _ _ _ _ _ _ | show wpAny _ _ (call (Value.builtin "str.rstrip") _) _ _ _ | show wpAny _ _ (call (Value.builtin "str.splitlines") _) _ _ _ | show wpAny _ _ (pyIter _) _ _ _ | show OutQ _ _ _ _ _ _ _ _ _ _ | show KswEnd _ _ _ _ _ _ _ _ _ _ _ _))); first | walk1 | (dsimp only; walk1))))
    · rename tx.getD (tx.length - 1) 0 ∈ [13, 10] => hcr
      rw [if_pos hcr] at hret
      refine app_at1 (by k_asm) (by k_asm) (.head _) hne (by rw [hP.length]; omega) fun h7 F7 N7 => ?_
      (repeat' (first | (k_unfold; (try dsimp only)) | ((first | (((with_reducible show wpAny _ _ (compareOp CmpOp.In (Value.str (S [_]) _) (Value.str _ _)) _ _ _); refine l_in (by walk_at "lit") (by walk_at "lit") ?_; rw [decide_eq_false (by assumption)])) | (((with_reducible show wpAny _ _ (callWith _ (Value.ref _) [] (backTo _ (starEach [_] _)) []) _ _ _); refine callWith_app (by k_asm) (by k_mem) ?_)) | (((with_reducible show wpAny _ _ (compareOp CmpOp.In (Value.str _ _) (Value.str _ _)) _ _ _); refine l_in (by walk_at "lit") (by walk_at "lit") ?_)) | (((with_reducible show wpAny _ _ (compareOp CmpOp.Eq (Value.str _ _) (Value.str _ _)) _ _ _); refine l_eq (by walk_at "lit") (by walk_at "lit") ?_)) | (((with_reducible show wpAny _ _ (binaryOp Operator.Add (Value.str _ _) (Value.str _ _)) _ _ _); refine l_add (by walk_at "lit") (by walk_at "lit") (by walk_at "num") ?_; intro _ _)) | (((with_reducible show wpAny _ _ (call (Value.builtin "len") [Value.str (S _) _]) _ _ _); refine s_len (by walk_at "num") ?_; intro _ _)) | (((with_reducible rename Fr _ _ _ _ => F'); (with_reducible rename News _ _ _ _ => N'); first | ((with_reducible show wpAny _ _ (subscriptTail _ (Expr.Slice (some _) (some _) none _) (Value.str (S _) _) _) _ _ _); refine s_slice_ss (s := ⟨_, _, _, _, _⟩) F' N' (by walk_at "num") (by walk_at "num") (by walk_at "num") (by walk_at "num") ?_; intro _ _ _ _ _) | ((with_reducible show wpAny _ _ (subscriptTail _ (Expr.Slice (some (Expr.UnaryOp _ _ _)) none none _) (Value.str (S _) _) _) _ _ _); refine s_slice_last (s := ⟨_, _, _, _, _⟩) F' N' (by walk_at "num") ?_; intro _ _ _ _ _) | ((with_reducible show wpAny _ _ (subscriptTail _ (Expr.Slice (some _) none none _) (Value.str (S _) _) _) _ _ _); refine s_slice_sn (s := ⟨_, _, _, _, _⟩) F' N' (by walk_at "num") (by walk_at "num") (by walk_at "num") ?_; intro _ _ _ _ _) | ((with_reducible show wpAny _ _ (subscriptTail _ (Expr.Slice none (some _) none _) (Value.str (S _) _) _) _ _ _); refine s_slice_init (s := ⟨_, _, _, _, _⟩) F' N' (by walk_at "num") (by walk_at "num") ?_; intro _ _ _ _ _))) | (((with_reducible show wpAny _ _ (subscriptTail _ _ (Value.str (S _) _) (Value.int _ _)) _ _ _); first | (with_reducible refine s_item_neg (by walk_at "num") (by walk_at "num") ?_; intro _ _) | (refine s_item (by walk_at "num") (by walk_at "num") (by walk_at "num") ?_; intro _ _))) | (((with_reducible show wpAny _ _ (truthy (Value.str (S _) _)) _ _ _); refine s_truthy (by walk_at "num") ?_; intro _)))) | ((fail_if_success (with_reducible (first | show wpAny _ _ (exec (Stmt.While _ _ _ _) _) _ _ _ | show wpAny _ _ (call (Value.ref _) _) _ _ _ | show wpAny _ _ (call (Value.type "int") _) _ _ _ | show wpAny _ _ (exec (Stmt.For _ _ _ _ _) _) _ _ _ | show LpEnd _ _ _ _ _ _ _ _ _ _ | show wpAny _ _ (call (Value.builtin "str.rstrip") _) _ _ _ | show wpAny _ _ (call (Value.builtin "str.splitlines") _) _ _ _ | show wpAny _ _ (pyIter _) _ _ _ | show OutQ _ _ _ _ _ _ _ _ _ _ | show KswEnd _ _ _ _ _ _ _ _ _ _ _ _))); first | walk1 | (dsimp only; walk1))))
      rename News _ _ _ _ => N9
      refine s_join (ts := pcsAll wd (linesG false tx) ++ [[]]) (PySem.IsL.isList (News.get N9 (.head _))) (hP.app (.cons [] _ .nil)) (by
        rw [List.map_append, List.sum_append, List.length_append]
        simp only [List.map_cons, List.map_nil, List.length_nil, List.sum_cons, List.sum_nil, List.length_cons]
        omega) (by omega) ?_
      intro t9 k9
      (repeat' (first | (k_unfold; (try dsimp only)) | ((first | (((with_reducible show wpAny _ _ (compareOp CmpOp.In (Value.str (S [_]) _) (Value.str _ _)) _ _ _); refine l_in (by walk_at "lit") (by walk_at "lit") ?_; rw [decide_eq_false (by assumption)])) | (((with_reducible show wpAny _ _ (callWith _ (Value.ref _) [] (backTo _ (starEach [_] _)) []) _ _ _); refine callWith_app (by k_asm) (by k_mem) ?_)) | (((with_reducible show wpAny _ _ (compareOp CmpOp.In (Value.str _ _) (Value.str _ _)) _ _ _); refine l_in (by walk_at "lit") (by walk_at "lit") ?_)) | (((with_reducible show wpAny _ _ (compareOp CmpOp.Eq (Value.str _ _) (Value.str _ _)) _ _ _); refine l_eq (by walk_at "lit") (by walk_at "lit") ?_)) | (((with_reducible show wpAny _ _ (binaryOp Operator.Add (Value.str _ _) (Value.str _ _)) _ _ _); refine l_add (by walk_at "lit") (by walk_at "lit") (by walk_at "num") ?_; intro _ _)) | (((with_reducible show wpAny _ _ (call (Value.builtin "len") [Value.str (S _) _]) _ _ _); refine s_len (by walk_at "num") ?_; intro _ _)) | (((with_reducible rename Fr _ _ _ _ => F'); (with_reducible rename News _ _ _ _ => N'); first | ((with_reducible show wpAny _ _ (subscriptTail _ (Expr.Slice (some _) (some _) none _) (Value.str (S _) _) _) _ _ _); refine s_slice_ss (s := ⟨_, _, _, _, _⟩) F' N' (by walk_at "num") (by walk_at "num") (by walk_at "num") (by walk_at "num") ?_; intro _ _ _ _ _) | ((with_reducible show wpAny _ _ (subscriptTail _ (Expr.Slice (some (Expr.UnaryOp _ _ _)) none none _) (Value.str (S _) _) _) _ _ _); refine s_slice_last (s := ⟨_, _, _, _, _⟩) F' N' (by walk_at "num") ?_; intro _ _ _ _ _) | ((with_reducible show wpAny _ _ (subscriptTail _ (Expr.Slice (some _) none none _) (Value.str (S _) _) _) _ _ _); refine s_slice_sn (s := ⟨_, _, _, _, _⟩) F' N' (by walk_at "num") (by walk_at "num") (by walk_at "num") ?_; intro _ _ _ _ _) | ((with_reducible show wpAny _ _ (subscriptTail _ (Expr.Slice none (some _) none _) (Value.str (S _) _) _) _ _ _); refine s_slice_init (s := ⟨_, _, _, _, _⟩) F' N' (by walk_at "num") (by walk_at "num") ?_; intro _ _ _ _ _))) | (((with_reducible show wpAny _ _ (subscriptTail _ _ (Value.str (S _) _) (Value.int _ _)) _ _ _); first | (with_reducible refine s_item_neg (by walk_at "num") (by walk_at "num") ?_; intro _ _) | (refine s_item (by walk_at "num") (by walk_at "num") (by walk_at "num") ?_; intro _ _))) | (((with_reducible show wpAny _ _ (truthy (Value.str (S _) _)) _ _ _); refine s_truthy (by walk_at "num") ?_; intro _)))) | ((fail_if_success (with_reducible (first | show wpAny _ _ (exec (Stmt.While _ _ _ _) _) _ _ _ | show wpAny _ _ (call (Value.ref _) _) _ _ _ | show wpAny _ _ (call (Value.type "int") _) _ _ _ | show wpAny _ _ (exec (Stmt.For _ _ _ _ _) _) _ _ _ | show LpEnd _ _ _ _ _ _ _ _ _ _ | show wpAny _ _ (call (Value.builtin "str.rstrip") _) _ _ _ | show wpAny _ _ (call (Value.builtin "str.splitlines") _) _ _ _ | show wpAny _ _ (pyIter _) _ _ _ | show OutQ _ _ _ _ _ _ _ _ _ _ | show KswEnd _ _ _ _ _ _ _ _ _ _ _ _))); first | walk1 | (dsimp only; walk1))))
      exact hret _ _ _ (by k_asm) (fun p hp => (by assumption : News _ _ _ _) p (.tail _ (.tail _ (.tail _ hp))))
    · rename ¬ tx.getD (tx.length - 1) 0 ∈ [13, 10] => hcr
      rw [if_neg hcr, List.append_nil] at hret
      rename News _ _ _ _ => N9
      refine s_join (PySem.IsL.isList (News.get N9 (.head _))) hP (by omega) (by omega) ?_
      intro t9 k9
      (repeat' (first | (k_unfold; (try dsimp only)) | ((first | (((with_reducible show wpAny _ _ (compareOp CmpOp.In (Value.str (S [_]) _) (Value.str _ _)) _ _ _); refine l_in (by walk_at "lit") (by walk_at "lit") ?_; rw [decide_eq_false (by assumption)])) | (((with_reducible show wpAny _ _ (callWith _ (Value.ref _) [] (backTo _ (starEach [_] _)) []) _ _ _); refine callWith_app (by k_asm) (by k_mem) ?_)) | (((with_reducible show wpAny _ _ (compareOp CmpOp.In (Value.str _ _) (Value.str _ _)) _ _ _); refine l_in (by walk_at "lit") (by walk_at "lit") ?_)) | (((with_reducible show wpAny _ _ (compareOp CmpOp.Eq (Value.str _ _) (Value.str _ _)) _ _ _); refine l_eq (by walk_at "lit") (by walk_at "lit") ?_)) | (((with_reducible show wpAny _ _ (binaryOp Operator.Add (Value.str _ _) (Value.str _ _)) _ _ _); refine l_add (by walk_at "lit") (by walk_at "lit") (by walk_at "num") ?_; intro _ _)) | (((with_reducible show wpAny _ _ (call (Value.builtin "len") [Value.str (S _) _]) _ _ _); refine s_len (by walk_at "num") ?_; intro _ _)) | (((with_reducible rename Fr _ _ _ _ => F'); (with_reducible rename News _ _ _ _ => N'); first | ((with_reducible show wpAny _ _ (subscriptTail _ (Expr.Slice (some _) (some _) none _) (Value.str (S _) _) _) _ _ _); refine s_slice_ss (s := ⟨_, _, _, _, _⟩) F' N' (by walk_at "num") (by walk_at "num") (by walk_at "num") (by walk_at "num") ?_; intro _ _ _ _ _) | ((with_reducible show wpAny _ _ (subscriptTail _ (Expr.Slice (some (Expr.UnaryOp _ _ _)) none none _) (Value.str (S _) _) _) _ _ _); refine s_slice_last (s := ⟨_, _, _, _, _⟩) F' N' (by walk_at "num") ?_; intro _ _ _ _ _) | ((with_reducible show wpAny _ _ (subscriptTail _ (Expr.Slice (some _) none none _) (Value.str (S _) _) _) _ _ _); refine s_slice_sn (s := ⟨_, _, _, _, _⟩) F' N' (by walk_at "num") (by walk_at "num") (by walk_at "num") ?_; intro _ _ _ _ _) | ((with_reducible show wpAny _ _ (subscriptTail _ (Expr.Slice none (some _) none _) (Value.str (S _) _) _) _ _ _); refine s_slice_init (s := ⟨_, _, _, _, _⟩) F' N' (by walk_at "num") (by walk_at "num") ?_; intro _ _ _ _ _))) | (((with_reducible show wpAny _ _ (subscriptTail _ _ (Value.str (S _) _) (Value.int _ _)) _ _ _); first | (with_reducible refine s_item_neg (by walk_at "num") (by walk_at "num") ?_; intro _ _) | (refine s_item (by walk_at "num") (by walk_at "num") (by walk_at "num") ?_; intro _ _))) | (((with_reducible show wpAny _ _ (truthy (Value.str (S _) _)) _ _ _); refine s_truthy (by walk_at "num") ?_; intro _)))) | ((fail_if_success (with_reducible (first | show wpAny _ _ (exec (Stmt.While _ _ _ _) _) _ _ _ | show wpAny _ _ (call (Value.ref _) _) _ _ _ | show wpAny _ _ (call (Value.type "int") _) _ _ _ | show wpAny _ _ (exec (Stmt.For _ _ _ _ _) _) _ _ _ | show LpEnd _ _ _ _ _ _ _ _ _ _ | show wpAny _ _ (call (Value.builtin "str.rstrip") _) _ _ _ | show wpAny _ _ (call (Value.builtin "str.splitlines") _) _ _ _ | show wpAny _ _ (pyIter _) _ _ _ | show OutQ _ _ _ _ _ _ _ _ _ _ | show KswEnd _ _ _ _ _ _ _ _ _ _ _ _))); first | walk1 | (dsimp only; walk1))))
      exact hret _ _ _ (by k_asm) (fun p hp => (by assumption : News _ _ _ _) p (.tail _ (.tail _ (.tail _ hp))))
end
end
section
set_option Elab.async false
set_option maxRecDepth 100000
set_option maxHeartbeats 8000000
theorem rng_small {a b : Nat} (ha : a < 100000) (hb : b < 100000) : Builtin.Range.small (a : Int) (b : Int) 1 = true := by
  unfold Builtin.Range.small
  have h : Builtin.Range.rangeSize (a : Int) (b : Int) 1 = (((b - a : Nat) : Nat) : Int) := by rw [rangeSize_nat]; omega
  rw [h]
  have f : ∀ x : Int, 0 ≤ x → x < 1000000 → Builtin.Range.rangeFitsLong x = true := fun x h1 h2 => by
    unfold Builtin.Range.rangeFitsLong
    simp only [Bool.and_eq_true, decide_eq_true_eq]
    omega
  rw [f a (by omega) (by omega), f b (by omega) (by omega), f 1 (by omega) (by omega), f ((b - a : Nat) : Int) (by omega) (by omega), if_pos (by decide), f _ (by omega) (by omega), Bool.or_true]
  rfl
theorem rng_size {a b : Nat} : Builtin.Range.rangeSize (a : Int) (b : Int) 1 = ((b - a : Nat) : Int) := by rw [rangeSize_nat]; omega
noncomputable def endsF (xs : List Int) (i : Nat) : List Int := ((List.range i).filter fun k => decide (xs.getD k 0 = 10)).map fun k : Nat => (k : Int)
theorem ends_next {xs : List Int} {i : Nat} : endsF xs (i + 1) = endsF xs i ++ (if xs.getD i 0 = 10 then [(i : Int)] else []) := by
  unfold endsF
  rw [List.range_succ, List.filter_append, List.map_append]
  congr 1
  by_cases h : xs.getD i 0 = 10
  · rw [if_pos h, List.filter_cons, if_pos (decide_eq_true h)]; rfl
  · rw [if_neg h, List.filter_cons, if_neg (by simpa using h)]; rfl
theorem endsF_len {xs : List Int} {n : Nat} : (endsF xs n).length ≤ n := by
  unfold endsF
  rw [List.length_map]
  exact Nat.le_trans (List.length_filter_le ..) (by simp)
theorem ints_at {v : Value} : ∀ {vs : List Value} {xs : List Int} {i : Nat}, IntsAre vs xs → vs.toArray[i]? = some v → ∃ t, v = .int (xs.getD i 0) t ∧ i < xs.length
  | _, _, i, .nil, e => by simp at e
  | _, _, 0, .cons n t _, e => by simp at e; exact ⟨t, by simp [← e], by simp⟩
  | _, _, i + 1, .cons n t r, e => by
    obtain ⟨t', h1, h2⟩ := ints_at (i := i) r (by simpa using e)
    exact ⟨t', by simpa using h1, by simpa using h2⟩
theorem ints_more : ∀ {vs ws : List Value} {xs ys : List Int}, IntsAre vs xs → IntsAre ws ys → IntsAre (vs ++ ws) (xs ++ ys)
  | _, _, _, _, .nil, h => h
  | _, _, _, _, .cons i t k, h => .cons i t (ints_more k h)
noncomputable def ZipSt (z TI TO i1 i2 l1 l2 : Addr) (xs ys : Array Value) (i : Nat) (h : Heap) : Prop := IsZip h z TI TO .none ∧ IsPair h TI (.ref i1) (.ref i2) ∧ (∃ a b, IsPair h TO a b) ∧ h.IsListIter i1 l1 i ∧ h.IsListIter i2 l2 i ∧ h.IsList l1 xs ∧ h.IsList l2 ys
noncomputable def ZOrd (z TI TO i1 i2 l1 l2 : Nat) : Prop := l1 < l2 ∧ l2 < i1 ∧ i1 < i2 ∧ i2 < TI ∧ TI < TO ∧ TO < z
theorem ZOrd.apart {z TI TO i1 i2 l1 l2 : Nat} (h : ZOrd z TI TO i1 i2 l1 l2) : ZipApart z TI TO i1 i2 l1 l2 := by
  obtain ⟨h1, h2, h3, h4, h5, h6⟩ := h
  constructor <;> (intro e; subst e; omega)
theorem fr_more {g h h' : Heap} {L : Addr} {m : Str → Option Value} (F : Fr g L h m) (hk : ∀ b o, h.get? b = some o → h'.get? b = some o) : Fr g L h' m := ⟨F.ns.at' fun o e => hk _ o e, fun b o e => hk b o (F.keep b o e), F.above⟩
theorem fr_none {g h : Heap} {L : Addr} {m : Str → Option Value} (F : Fr g L h m) {b : Nat} (hb : h.objs.size ≤ b) : (@Ne Nat b L) ∧ g.get? b = none := by
  refine ⟨fun e => absurd F.ns.lt (Nat.not_lt.mpr (e ▸ hb)), ?_⟩
  · cases e : g.get? b with
    | none => rfl
    | some o => have := Heap.lt_size (F.keep _ _ e); exact absurd this (Nat.not_lt.mpr hb)
section
variable {w : World} {mean : ExcName → Option Value} {mg mb : Str → Option Value}
    {dp un : Nat} {gd : Option (List Code)} {cn : Str} {cs : Scope} {a : Addr} {ccd : Value} {cl : List (Str × Addr)} {outer : List Env} {A₀ : Around} {base h₀ : Heap} {L : Addr} {m : Str → Option Value} {s : Shared} {Q E : Value → Shared → Prop}
    (B : Below A₀ base outer h₀) (F : Fr h₀ L s.heap m) (X : (Kf w.params).In h₀) (T : Top q (looseW q loose) mean mg mb h₀) (hk : cs.kind = .function)
include B F X T hk
theorem rows_spec {l : Addr} {vs : List Value} {xs : List Int} {c : Nat} {news : List (Addr × Obj)} (N : News h₀ L s.heap ((l, listOf vs.toArray c) :: news)) (hd : dp + 1 < recursionLimit) (hu : un + 64 < cLine) (hi : IntsAre vs xs) (hn : xs.length < 30) (h30 : ∀ x ∈ xs, 0 ≤ x ∧ x < 256)
    (hret : ∀ z TI TO i1 i2 l1 l2 va vb oz oTO o1 o2 oTI h' tk', Fr h₀ L h' m → News h₀ L h' ((z, oz) :: (TO, oTO) :: (i1, o1) :: (i2, o2) :: (TI, oTI) :: (l1, listOf va.toArray 0) :: (l2, listOf vb.toArray 0) :: (l, listOf vs.toArray c) :: news) →
      IntsAre va ([0] ++ (endsF xs xs.length).map fun z => z + 1) → IntsAre vb (endsF xs xs.length ++ [(xs.length : Int)]) → ZipSt z TI TO i1 i2 l1 l2 va.toArray vb.toArray 0 h' → ZOrd z TI TO i1 i2 l1 l2 → AllLt l1 ((l, listOf vs.toArray c) :: news) → Q (.ref z) { s with heap := h', toks := tk' }) :
    wpAny (model PySem.Challenge.rw_op0130_01.prog w) (ktrTop dp un gd cn cs L a ccd cl outer) (call (.ref 124) [.ref l]) Q E s := by
  revert X; k_fill; intro X
  refine wpAny_call ?_
  k_dflt (refine' code_defC (binds := [(Str.ofString "octets", .ref l)]) ?k1 ?k2 ?k3 ?k4 ?k5 ?kA ?kF ?kK ?k6 ?k7 ?k8 ?k9 ?kB ?kD ?_ ?c2 ?c3 ?c4; (case kA => exact rfl); (case kF => exact rfl); (case kK => assumption); (case k1 => k_asm); (case k2 => k_asm); (case k3 => k_asm); (case k4 => k_asm); (case k5 => k_asm); (case k6 => k_is); (case k7 => k_is); (case k8 => ktr_room); (case k9 => exact BindsTo.of_eq rfl); (case kB => exact rfl); (case kD => decide +kernel); (case c2 => exact rfl); (case c3 => exact rfl); (case c4 => exact rfl); k_whole; intro g' L' h' tk' cells' FG' F' N' Y' B' X' T' l1'; (try k_lt l1'); (try dsimp only); (try k_fold))
  obtain ⟨o1, hE, d1⟩ := CellsAre.one Y'; subst hE; clear Y'
  replace d1 : o1.data = .cell (some (.ref l)) := d1
  simp only [List.cons_append, List.nil_append] at N'
  (repeat' (first | (k_unfold; (try dsimp only)) | ((fail_if_success (with_reducible (first | show wpAny _ _ (exec (Stmt.While _ _ _ _) _) _ _ _ | show wpAny _ _ (call (Value.ref _) _) _ _ _ | show wpAny _ _ (exec (Stmt.For _ _ _ _ _) _) _ _ _ | show wpAny _ _ (eval (Expr.ListComp _ _ _ _) _) _ _ _ | show wpAny _ _ (exec (Stmt.Assign _ (Expr.ListComp _ _ _ _) _) _) _ _ _ | show LCg.CompSrc _ _ _ _ _ _ _ _ _ _ _ _ _ _ | show LCt.CompSrcT _ _ _ _ _ _ _ _ _ _ _ _ _ _ _ | show TurnQ _ _ _ _ _ _ _ _ | show wpAny _ _ (call (Value.type "zip") _) _ _ _ | show KswEnd _ _ _ _ _ _ _ _ _ _ _ _))); first | walk1 | (dsimp only; walk1))))
  k_dflt (refine LCt.Assign_ListComp_T (F₀ := by k_asm) (by rfl) (by with_unfolding_all rfl) (by with_unfolding_all rfl) (by decide) (by rfl) (by decide) (by rfl) (by rfl) (by rfl) ?_)
  (repeat' (first | (k_unfold; (try dsimp only)) | ((fail_if_success (with_reducible (first | show wpAny _ _ (exec (Stmt.While _ _ _ _) _) _ _ _ | show wpAny _ _ (call (Value.ref _) _) _ _ _ | show wpAny _ _ (exec (Stmt.For _ _ _ _ _) _) _ _ _ | show wpAny _ _ (eval (Expr.ListComp _ _ _ _) _) _ _ _ | show wpAny _ _ (exec (Stmt.Assign _ (Expr.ListComp _ _ _ _) _) _) _ _ _ | show LCg.CompSrc _ _ _ _ _ _ _ _ _ _ _ _ _ _ | show LCt.CompSrcT _ _ _ _ _ _ _ _ _ _ _ _ _ _ _ | show TurnQ _ _ _ _ _ _ _ _ | show wpAny _ _ (call (Value.type "zip") _) _ _ _ | show KswEnd _ _ _ _ _ _ _ _ _ _ _ _))); first | walk1 | (dsimp only; walk1))))
  rename IsRange _ _ _ _ _ _ _ _ => hr
  refine LCt.CompSrcT.range rfl (by k_asm) (by k_asm) hr (rng_small (a := 0) (by omega) (by omega)) (rng_size (a := 0)) (by rw [show sizeLine = 16777216 from rfl]; omega) fun gg => ?_
  refine comp_indT (fun i zs => IntsAre zs (endsF xs i)) trivial xs.length ?fin ?turn _ 0 [] (Nat.zero_add _) .nil
  case turn =>
    intro i zs v I oI C oC D m2 hh tkk E' hi2 hY hv hC hm hF hN off ne
    obtain ⟨tv, rfl⟩ := hv
    have e0 : ((0 : Int) + (i : Int)) = (i : Int) := by omega
    rw [e0] at hm
    (repeat' (first | (k_unfold; (try dsimp only)) | ((fail_if_success (with_reducible (first | show wpAny _ _ (exec (Stmt.While _ _ _ _) _) _ _ _ | show wpAny _ _ (call (Value.ref _) _) _ _ _ | show wpAny _ _ (exec (Stmt.For _ _ _ _ _) _) _ _ _ | show wpAny _ _ (eval (Expr.ListComp _ _ _ _) _) _ _ _ | show wpAny _ _ (exec (Stmt.Assign _ (Expr.ListComp _ _ _ _) _) _) _ _ _ | show LCg.CompSrc _ _ _ _ _ _ _ _ _ _ _ _ _ _ | show LCt.CompSrcT _ _ _ _ _ _ _ _ _ _ _ _ _ _ _ | show TurnQ _ _ _ _ _ _ _ _ | show wpAny _ _ (call (Value.type "zip") _) _ _ _ | show KswEnd _ _ _ _ _ _ _ _ _ _ _ _))); first | walk1 | (dsimp only; walk1))))
    · rename xs.getD _ 0 = 10 => hq
      rw [Int.toNat_natCast] at hq
      exact turnQ hF hN (fun _ h => h) (by rw [ends_next, if_pos hq]; exact ints_more hY (.cons _ _ .nil))
    · rename xs.getD _ 0 ≠ 10 => hq
      rw [Int.toNat_natCast] at hq
      exact turnQ hF hN (fun _ h => h) (by rw [ends_next, if_neg hq, List.append_nil]; exact hY)
  case fin =>
    intro zs hY D3 h3 tk3 F3 N3 o3
    replace N3 : News g' L' h3 ((D3, listOf zs.toArray zs.length) :: (L' + 1, o1) :: (l, listOf vs.toArray c) :: news) := N3
    have hel : (endsF xs xs.length).length ≤ xs.length := endsF_len
    generalize endsF xs xs.length = es at *
    (repeat' (first | (k_unfold; (try dsimp only)) | ((fail_if_success (with_reducible (first | show wpAny _ _ (exec (Stmt.While _ _ _ _) _) _ _ _ | show wpAny _ _ (call (Value.ref _) _) _ _ _ | show wpAny _ _ (exec (Stmt.For _ _ _ _ _) _) _ _ _ | show wpAny _ _ (eval (Expr.ListComp _ _ _ _) _) _ _ _ | show wpAny _ _ (exec (Stmt.Assign _ (Expr.ListComp _ _ _ _) _) _) _ _ _ | show LCg.CompSrc _ _ _ _ _ _ _ _ _ _ _ _ _ _ | show LCt.CompSrcT _ _ _ _ _ _ _ _ _ _ _ _ _ _ _ | show TurnQ _ _ _ _ _ _ _ _ | show wpAny _ _ (call (Value.type "zip") _) _ _ _ | show KswEnd _ _ _ _ _ _ _ _ _ _ _ _))); first | walk1 | (dsimp only; walk1))))
    k_dflt (refine LCg.ListComp_U (F₀ := by k_asm) (by with_unfolding_all rfl) (by decide) (by rfl) (by decide) (by rfl) ?_)
    (repeat' (first | (k_unfold; (try dsimp only)) | ((fail_if_success (with_reducible (first | show wpAny _ _ (exec (Stmt.While _ _ _ _) _) _ _ _ | show wpAny _ _ (call (Value.ref _) _) _ _ _ | show wpAny _ _ (exec (Stmt.For _ _ _ _ _) _) _ _ _ | show wpAny _ _ (eval (Expr.ListComp _ _ _ _) _) _ _ _ | show wpAny _ _ (exec (Stmt.Assign _ (Expr.ListComp _ _ _ _) _) _) _ _ _ | show LCg.CompSrc _ _ _ _ _ _ _ _ _ _ _ _ _ _ | show LCt.CompSrcT _ _ _ _ _ _ _ _ _ _ _ _ _ _ _ | show TurnQ _ _ _ _ _ _ _ _ | show wpAny _ _ (call (Value.type "zip") _) _ _ _ | show KswEnd _ _ _ _ _ _ _ _ _ _ _ _))); first | walk1 | (dsimp only; walk1))))
    refine LCg.CompSrc.ledger rfl (by k_asm) (by k_asm) (by k_mem) (by rw [List.size_toArray, hY.length, show sizeLine = 16777216 from rfl]; omega) fun gg => ?_
    refine comp_ind (fun i ws => IntsAre ws ((es.take i).map fun z => z + 1)) (.inr ⟨_, by k_mem, rfl, _, rfl⟩) zs.toArray.size ?fin ?turn _ 0 [] (Nat.zero_add _) .nil
    case turn =>
      intro i ws v I oI C oC D m2 hh tkk E' hi3 hW hv hC hm hF hN off ne
      obtain ⟨tv, rfl, hil⟩ := ints_at hY hv
      (repeat' (first | (k_unfold; (try dsimp only)) | ((fail_if_success (with_reducible (first | show wpAny _ _ (exec (Stmt.While _ _ _ _) _) _ _ _ | show wpAny _ _ (call (Value.ref _) _) _ _ _ | show wpAny _ _ (exec (Stmt.For _ _ _ _ _) _) _ _ _ | show wpAny _ _ (eval (Expr.ListComp _ _ _ _) _) _ _ _ | show wpAny _ _ (exec (Stmt.Assign _ (Expr.ListComp _ _ _ _) _) _) _ _ _ | show LCg.CompSrc _ _ _ _ _ _ _ _ _ _ _ _ _ _ | show LCt.CompSrcT _ _ _ _ _ _ _ _ _ _ _ _ _ _ _ | show TurnQ _ _ _ _ _ _ _ _ | show wpAny _ _ (call (Value.type "zip") _) _ _ _ | show KswEnd _ _ _ _ _ _ _ _ _ _ _ _))); first | walk1 | (dsimp only; walk1))))
      refine turnQ hF hN (fun _ h => h) ?_
      rw [List.take_add_one, List.getElem?_eq_getElem hil, List.map_append]
      rw [List.getD_eq_getElem?_getD, List.getElem?_eq_getElem hil]
      exact ints_more hW (.cons _ _ .nil)
    case fin =>
      intro ws hW D4 h4 tk4 F4 N4 o4
      replace N4 : News g' L' h4 ((D4, listOf ws.toArray ws.length) :: _) := N4
      rw [List.size_toArray, hY.length, List.take_length] at hW
      (repeat' (first | (k_unfold; (try dsimp only)) | ((fail_if_success (with_reducible (first | show wpAny _ _ (exec (Stmt.While _ _ _ _) _) _ _ _ | show wpAny _ _ (call (Value.ref _) _) _ _ _ | show wpAny _ _ (exec (Stmt.For _ _ _ _ _) _) _ _ _ | show wpAny _ _ (eval (Expr.ListComp _ _ _ _) _) _ _ _ | show wpAny _ _ (exec (Stmt.Assign _ (Expr.ListComp _ _ _ _) _) _) _ _ _ | show LCg.CompSrc _ _ _ _ _ _ _ _ _ _ _ _ _ _ | show LCt.CompSrcT _ _ _ _ _ _ _ _ _ _ _ _ _ _ _ | show TurnQ _ _ _ _ _ _ _ _ | show wpAny _ _ (call (Value.type "zip") _) _ _ _ | show KswEnd _ _ _ _ _ _ _ _ _ _ _ _))); first | walk1 | (dsimp only; walk1))))
      rename_i Da va _ ia qa _ _ _ Db vb h5 F5 N5 ib qb
      refine call_zip_2 (PySem.IsL.isList (News.get N5 (by k_mem))) (PySem.IsL.isList (News.get N5 (.head _))) fun h6 hz hTI hTO hi1 hi2 hsz hk => ?_
      have F6 := fr_more F5 hk
      have hla : h6.IsList Da va.toArray := PySem.IsL.isList (hk _ _ (News.get N5 (by k_mem)))
      have hlb : h6.IsList Db vb.toArray := PySem.IsL.isList (hk _ _ (News.get N5 (.head _)))
      have hDb : Db < h5.objs.size := Heap.lt_size (N5 _ (.head _)).1
      obtain ⟨oi1, hoi1, ri1⟩ := id hi1
      obtain ⟨oi2, hoi2, ri2⟩ := id hi2
      have nw : ∀ (k : Nat) (o : Obj), h6.get? (h5.objs.size + k) = some o → h6.get? (h5.objs.size + k) = some o ∧ (h5.objs.size + k : Nat) ≠ L' ∧ g'.get? (h5.objs.size + k) = none := fun k o e => ⟨e, (fr_none F5 (Nat.le_add_right _ _)).1, (fr_none F5 (Nat.le_add_right _ _)).2⟩
      have N6 : News g' L' h6 ((h5.objs.size + 4, _) :: (h5.objs.size + 3, _) :: (h5.objs.size, oi1) :: (h5.objs.size + 1, oi2) :: (h5.objs.size + 2, _) :: (Da, listOf va.toArray 0) :: (Db, listOf vb.toArray 0) :: (l, listOf vs.toArray c) :: news) :=
        List.forall_mem_cons.mpr ⟨nw 4 _ hz, List.forall_mem_cons.mpr ⟨nw 3 _ hTO, List.forall_mem_cons.mpr ⟨nw 0 _ hoi1, List.forall_mem_cons.mpr ⟨nw 1 _ hoi2, List.forall_mem_cons.mpr ⟨nw 2 _ hTI, fun p hp => (fun q : p ∈ _ => ⟨hk _ _ (N5 p q).1, (N5 p q).2⟩) ?_⟩⟩⟩⟩⟩
      · clear N5 N
        (repeat' (first | (k_unfold; (try dsimp only)) | ((fail_if_success (with_reducible (first | show wpAny _ _ (exec (Stmt.While _ _ _ _) _) _ _ _ | show wpAny _ _ (call (Value.ref _) _) _ _ _ | show wpAny _ _ (exec (Stmt.For _ _ _ _ _) _) _ _ _ | show wpAny _ _ (eval (Expr.ListComp _ _ _ _) _) _ _ _ | show wpAny _ _ (exec (Stmt.Assign _ (Expr.ListComp _ _ _ _) _) _) _ _ _ | show LCg.CompSrc _ _ _ _ _ _ _ _ _ _ _ _ _ _ | show LCt.CompSrcT _ _ _ _ _ _ _ _ _ _ _ _ _ _ _ | show TurnQ _ _ _ _ _ _ _ _ | show wpAny _ _ (call (Value.type "zip") _) _ _ _ | show KswEnd _ _ _ _ _ _ _ _ _ _ _ _))); first | walk1 | (dsimp only; walk1))))
        exact hret _ _ _ _ _ _ _ va vb _ _ _ _ _ _ _ (by k_asm) (by k_asm) ia ib ⟨hz, hTI, ⟨_, _, hTO⟩, hi1, hi2, hla, hlb⟩ ⟨qb.2.1, hDb, Nat.lt_succ_self _, Nat.lt_succ_self _, Nat.lt_succ_self _, Nat.lt_succ_self _⟩ qa.2.2.2.2
      · revert p
        exact List.forall_mem_cons.mpr ⟨by k_mem, List.forall_mem_cons.mpr ⟨by k_mem, List.forall_mem_cons.mpr ⟨by k_mem, fun p hp => by repeat (first | exact hp | apply List.mem_cons_of_mem)⟩⟩⟩
end
end
section
set_option Elab.async false
set_option maxRecDepth 100000
set_option maxHeartbeats 4000000
noncomputable def zObj (TI TO : Addr) : Obj := { cls := .type "zip", dict := none, data := .fields #[.none, .bool false, .bool false, .ref TI, .ref TO], slots := #[] }
noncomputable def pObj (a b : Value) : Obj := { cls := .type "tuple", data := .seq #[a, b] }
section
variable {prog : Program} {w : World} {A : Around} {E : Value → Shared → Prop} {Q : Flow → Shared → Prop} {s : Shared} {env : Env} {h₀ : Heap}
noncomputable def ZInv {σ : Type} (z TI TO i1 i2 l1 l2 : Addr) (va vb : List Value) (C : Heap → Prop) (L : Addr) (s : Shared) (Led : σ → List (Addr × Obj)) (ps : σ → List (Str × Value)) (stored : List Str) (m₀ : Str → Option Value) (P : Nat → σ → Prop) (k : Nat) (s' : Shared) : Prop :=
  ∃ (i : Nat) (c : σ) (g h₁ : Heap) (tk₁ : Nat) (m₁ : Str → Option Value), i ≤ min va.length vb.length ∧ k = min va.length vb.length + 1 - i ∧ s' = { s with heap := h₁, toks := tk₁ } ∧ ZipSt z TI TO i1 i2 l1 l2 va.toArray vb.toArray i h₁ ∧ C g ∧ Fr g L h₁ m₁ ∧ News g L h₁ (Led c) ∧ (∀ r ∈ Led c, r.1 ∉ [z, TO, i1, i2]) ∧
    (∀ p ∈ ps c, m₁ p.1 = some p.2) ∧ (∀ z, (∀ p ∈ ps c, z ≠ p.1) → stored.contains z = false → m₁ z = m₀ z) ∧ P i c
/-- a for over a zip of two lists that stand in the ledger -/
theorem for_zip {σ : Type} {elts : List Expr} {kx : Nat} {tpos : Pos} {body : List Stmt} {m₀ : Str → Option Value} {z TI TO i1 i2 l1 l2 : Addr} {va vb : List Value} {oTI : Obj} (D : ZOrd z TI TO i1 i2 l1 l2)
    (C : Heap → Prop) (Led : σ → List (Addr × Obj)) (ps : σ → List (Str × Value)) (stored : List Str) (P : Nat → σ → Prop) (c₀ : σ) (hh : A.handled = none)
    (hTI : ∀ c, (TI, oTI) ∈ Led c) (hl1 : ∀ c, (l1, listOf va.toArray 0) ∈ Led c) (hl2 : ∀ c, (l2, listOf vb.toArray 0) ∈ Led c)
    (hCn : ∀ g, C g → ∀ b ∈ [z, TO, i1, i2], g.get? b = none) (hIL : ∀ b ∈ [z, TO, i1, i2], b ≠ env.locals)
    (hst : ZipSt z TI TO i1 i2 l1 l2 va.toArray vb.toArray 0 s.heap) (hC : C h₀) (F : Fr h₀ env.locals s.heap m₀) (N : News h₀ env.locals s.heap (Led c₀)) (hoff : ∀ r ∈ Led c₀, r.1 ∉ [z, TO, i1, i2]) (hk : ∀ p ∈ ps c₀, m₀ p.1 = some p.2) (hp : P 0 c₀)
    (turn : ∀ (i : Nat) (x y : Value) (c : σ) (u : Str → Option Value) g h tk oz oTO o1 o2 T d nn sl, va.toArray[i]? = some x → vb.toArray[i]? = some y → P i c → C g → Fr g env.locals h (kstB (fun z => if stored.contains z then u z else m₀ z) (ps c)) →
      News g env.locals h ((T, ⟨.type "tuple", d, .seq #[x, y] nn, sl⟩) :: (z, oz) :: (TO, oTO) :: (i1, o1) :: (i2, o2) :: Led c) → (∀ r ∈ Led c, r.1 ∉ [z, TO, i1, i2]) → (∀ r ∈ Led c, r.1 < T) →
      wpAny (model prog w) A (assign (.Tuple elts kx tpos) env (.ref T)) (fun _ s₂ => wpAny (model prog w) A (execs body env) (LpPost C env.locals s [(z, oz), (TO, oTO), (i1, o1), (i2, o2)] Led ps stored m₀ (P (i + 1)) Q) E s₂) E { s with heap := h, toks := tk })
    (after : ∀ (c : σ) (u : Str → Option Value) g h tk, P (min va.length vb.length) c → C g → Fr g env.locals h (kstB (fun z => if stored.contains z then u z else m₀ z) (ps c)) → News g env.locals h (Led c) → Q .next { s with heap := h, toks := tk })
    (hE : PassesOwn (model prog w) A env E := by passes_own) :
    wpAny (model prog w) A (pyIter (.ref z)) (fun it s₂ => codeAny (model prog w) A (.forLoop (.Tuple elts kx tpos) it body [] env) (fun r s' => match r with | .ok f => Q f s' | .error e => cameBackBy (model prog w) A env E e s') s₂) E s := by
  have W := WalksT.zip2 (prog := prog) (w := w) hh z TI TO i1 i2 l1 l2 D.apart va.toArray vb.toArray
  rw [List.size_toArray, List.size_toArray] at W
  refine W.self 0 s _ _ hst ?_
  refine codeAny_forLoop_any (ZInv z TI TO i1 i2 l1 l2 va vb C env.locals s Led ps stored m₀ P) ?_ (min va.length vb.length + 1) ⟨0, c₀, h₀, s.heap, s.toks, m₀, Nat.zero_le _, rfl, rfl, hst, hC, F, N, hoff, hk, fun _ _ _ => rfl, hp⟩
  intro k s' hJ
  refine Classical.byContradiction fun hG => ?_
  obtain ⟨i, c, g, h₁, tk₁, m₁, hi, rfl, rfl, hst₁, hC₁, F₁, N₁, hoff₁, h1, h2, hp₁⟩ := hJ
  refine hG ?_
  clear hG
  have next : ∀ h₁ h₂ : Heap, Fr g env.locals h₁ m₁ → News g env.locals h₁ (Led c) → (∀ b o, b ∉ [z, TO, i1, i2] → h₁.get? b = some o → h₂.get? b = some o) → Fr g env.locals h₂ m₁ ∧ News g env.locals h₂ (Led c) := fun h₁ h₂ F₁ N₁ hk₂ =>
    ⟨⟨F₁.ns.at' fun o e => hk₂ _ o (fun q => hIL _ q rfl) e, fun b o e => hk₂ b o (fun q => by rw [hCn g hC₁ b q] at e; cases e) (F₁.keep b o e), F₁.above⟩, fun p hp => ⟨hk₂ _ _ (hoff₁ p hp) (N₁ p hp).1, (N₁ p hp).2⟩⟩
  by_cases hlt : i < min va.length vb.length
  · refine W.item i _ _ _ hlt hst₁ fun T vals h₂ tk₂ hP hT0 hT hM hk₂ => ?_
    obtain ⟨F₂, N₂⟩ := next _ _ F₁ N₁ hk₂
    obtain ⟨x, y, hx, hy, rfl⟩ := hP
    have hap := W.apart _ _ _ hM
    have hTg := (fr_none F₁ hT0)
    refine wpAny_passesOwn hE (W.go _ _ _ _ _ _ _ _ hM fun h₃ hst₃ hk₃ => ?_)
    obtain ⟨F₃, N₃⟩ := next _ _ F₂ N₂ hk₃
    refine Classical.byContradiction fun hG => ?_
    obtain ⟨⟨c1, d1, dt, sl⟩, hoT, hcT, nT, hdT⟩ := hT
    dsimp only at hcT hdT
    subst hcT hdT
    obtain ⟨a1, a2, ⟨b1, b2, a3⟩, ⟨oi1, a4, q4⟩, ⟨oi2, a5, q5⟩, a6, a7⟩ := id hst₃
    refine hG ?_
    clear hG
    have own : ∀ (b : Addr) (o : Obj), b ∈ [z, TO, i1, i2] → h₃.get? b = some o → h₃.get? b = some o ∧ b ≠ env.locals ∧ g.get? b = none := fun b o hb e => ⟨e, hIL b hb, hCn g hC₁ b hb⟩
    have N₄ : News g env.locals h₃ ((T, ⟨.type "tuple", d1, .seq #[x, y] nT, sl⟩) :: (z, zObj TI TO) :: (TO, pObj b1 b2) :: (i1, oi1) :: (i2, oi2) :: Led c) :=
      List.forall_mem_cons.mpr ⟨⟨hk₃ _ _ hap hoT, hTg.1, hTg.2⟩, List.forall_mem_cons.mpr ⟨own z _ (by simp) a1, List.forall_mem_cons.mpr ⟨own TO _ (by simp) a3, List.forall_mem_cons.mpr ⟨own i1 _ (by simp) a4, List.forall_mem_cons.mpr ⟨own i2 _ (by simp) a5, N₃⟩⟩⟩⟩⟩
    refine wpAny_passesOwn hE (wpAny_mono (turn i x y c m₁ g h₃ tk₂ (zObj TI TO) (pObj b1 b2) oi1 oi2 T d1 nT sl hx hy hp₁ hC₁ (ksw_fr h1 h2 F₃) N₄ hoff₁ (fun r hr => Nat.lt_of_lt_of_le (Heap.lt_size (N₁ r hr).1) hT0)) (fun _ s₂ q => ?_) fun _ _ e => e)
    refine wpAny_passesOwn hE (wpAny_mono q (fun f s₃ h₃' => ?_) fun _ _ e => e)
    have fin : LpEnd C env.locals s [(z, zObj TI TO), (TO, pObj b1 b2), (i1, oi1), (i2, oi2)] Led ps stored m₀ (P (i + 1)) s₃ → ∃ m, m < min va.length vb.length + 1 - i ∧ ZInv z TI TO i1 i2 l1 l2 va vb C env.locals s Led ps stored m₀ P m s₃ := by
      intro hJ
      refine Classical.byContradiction fun hG => ?_
      obtain ⟨c', g', h', tk, m', news', rfl, hC', F', N', ho, hn, hoff', hk', hr', hp'⟩ := hJ
      refine hG ?_
      clear hG
      have hTI3 := (N₃ _ (hTI c)).1
      have hTI4 := (N' _ (hn _ (hTI c'))).1
      refine ⟨min va.length vb.length + 1 - (i + 1), by omega, i + 1, c', g', h', tk, m', hlt, rfl, rfl, ⟨(N' _ (ho _ (.head _))).1, ?_, ⟨b1, b2, (N' _ (ho _ (.tail _ (.head _)))).1⟩, ⟨oi1, (N' _ (ho _ (.tail _ (.tail _ (.head _))))).1, q4⟩, ⟨oi2, (N' _ (ho _ (.tail _ (.tail _ (.tail _ (.head _)))))).1, q5⟩, PySem.IsL.isList (News.get N' (hn _ (hl1 c'))), PySem.IsL.isList (News.get N' (hn _ (hl2 c')))⟩, hC', F', fun p hp => N' p (hn p hp), fun r hr hb => ?_, hk', hr', hp'⟩
      · have a2' := a2
        unfold IsPair at a2' ⊢
        rw [hTI3] at a2'
        cases a2'
        exact hTI4
      · simp only [List.mem_cons, List.not_mem_nil, or_false] at hb
        rcases hb with h | h | h | h
        · exact hoff' _ (.head _) _ hr h
        · exact hoff' _ (.tail _ (.head _)) _ hr h
        · exact hoff' _ (.tail _ (.tail _ (.head _))) _ hr h
        · exact hoff' _ (.tail _ (.tail _ (.tail _ (.head _)))) _ hr h
    cases f with
    | ret v => exact h₃'
    | brk => exact h₃'
    | next => exact fin h₃'
    | cont => exact fin h₃'
  · have hin : i = min va.length vb.length := by omega
    subst hin
    refine W.done _ _ _ hst₁ fun h₂ tk₂ hk₂ => wpAny_execs_nil ?_
    obtain ⟨F₂, N₂⟩ := next _ _ F₁ N₁ hk₂
    exact after c m₁ g h₂ tk₂ hp₁ hC₁ (ksw_fr h1 h2 F₂) N₂
/-- a for over a range object -/
theorem for_range {σ : Type} {target : Expr} {body : List Stmt} {m₀ : Str → Option Value} {r : Addr} {a b : Int} {t0 u0 v0 : Tok} {k : Nat}
    (C : Heap → Prop) (Led : σ → List (Addr × Obj)) (ps : σ → List (Str × Value)) (stored : List Str) (P : Nat → σ → Prop) (c₀ : σ) (hh : A.handled = none)
    (hr : IsRange s.heap r a b 1 t0 u0 v0) (hsm : Builtin.Range.small a b 1 = true) (hn : Builtin.Range.rangeSize a b 1 = (k : Int)) (hCn : ∀ g, C g → ∀ b, h₀.get? b = none → g.get? b = none)
    (hC : C h₀) (F : Fr h₀ env.locals s.heap m₀) (N : News h₀ env.locals s.heap (Led c₀)) (hk : ∀ p ∈ ps c₀, m₀ p.1 = some p.2) (hp : P 0 c₀)
    (turn : ∀ (i : Nat) (t : Tok) (c : σ) (u : Str → Option Value) g h tk I oI, i < k → P i c → C g → Fr g env.locals h (kstB (fun z => if stored.contains z then u z else m₀ z) (ps c)) → News g env.locals h ((I, oI) :: Led c) → (∀ r ∈ Led c, r.1 ≠ I) →
      wpAny (model prog w) A (letOwnedTupleGo target (.ref I) (.int (a + (i : Int)) t)) (fun _ s₁ => wpAny (model prog w) A (assign target env (.int (a + (i : Int)) t)) (fun _ s₂ => wpAny (model prog w) A (execs body env) (LpPost C env.locals s [(I, oI)] Led ps stored m₀ (P (i + 1)) Q) E s₂) E s₁) E { s with heap := h, toks := tk })
    (after : ∀ (c : σ) (u : Str → Option Value) g h tk, P k c → C g → Fr g env.locals h (kstB (fun z => if stored.contains z then u z else m₀ z) (ps c)) → News g env.locals h (Led c) → Q .next { s with heap := h, toks := tk })
    (hE : PassesOwn (model prog w) A env E := by passes_own) :
    wpAny (model prog w) A (pyIter (.ref r)) (fun it s₂ => codeAny (model prog w) A (.forLoop target it body [] env) (fun r s' => match r with | .ok f => Q f s' | .error e => cameBackBy (model prog w) A env E e s') s₂) E s := by
  refine wpAny_pyIter_range hr hsm ?_
  have hI0 := fr_none F (Nat.le_refl _)
  refine for_any (W := Walks.range hh s.heap.objs.size a 1 k) C Led ps stored P c₀ [] (fun b hb => .inl (List.mem_singleton.mp hb)) (fun _ _ h => nomatch h) (fun i h st => ⟨_, st⟩) (fun g hg => hCn g hg _ hI0.2) hI0.1
    (by show IsRangeIter _ _ _ _ _; rw [hn]; simpa using Heap.get?_push_size _ rfl) hC (F.push _) (fun p hp => ⟨Heap.get?_push_of_some _ (N p hp).1, (N p hp).2⟩) (fun r hr => Nat.ne_of_lt (Heap.lt_size (N r hr).1)) hk hp (fun i v c u g h tk oI hi hv hP hC' st F' N' off => ?_) (fun c u g h tk a b F' N' => ?_) hE
  · obtain ⟨t, rfl⟩ := hv
    rw [Int.mul_one]
    exact turn i t c u g h tk _ oI hi hP hC' F' N' off
  · exact after c u g h tk a b F' N'
end
end
section
set_option Elab.async false
set_option maxRecDepth 100000
set_option maxHeartbeats 8000000
theorem news_sub2 {g h : Heap} {L : Addr} {l1 l2 : List (Addr × Obj)} (N : News g L h l1) (hs : ∀ p ∈ l2, p ∈ l1) : News g L h l2 := fun p hp => N p (hs p hp)
noncomputable def ovT (sz : List Int) (wd : Nat) (f e last : Int) : Bool := decide (((sz.drop f.toNat).take (min last.toNat sz.length - f.toNat)).sum + (if e - last < 1 then e - last else 1) > (wd : Int))
theorem take_flt {a : Int} {n i : Nat} (h : i < n) (p : Int → Bool) : ((rangeKs a n).take (i + 1)).filter p = ((rangeKs a n).take i).filter p ++ (if p (a + (i : Int)) then [a + (i : Int)] else []) := by
  have hl : i < (rangeKs a n).length := by rw [rangeKs_length]; exact h
  have hg : (rangeKs a n)[i] = a + (i : Int) := by simp [rangeKs]
  rw [List.take_add_one, List.getElem?_eq_getElem hl, List.filter_append, hg]
  simp only [Option.toList, List.filter_cons, List.filter_nil]
noncomputable def ovF (sz : List Int) (wd : Nat) (f e : Int) : List Int := (rangeKs (f + 1) (e + 1 - (f + 1)).toNat).filter fun last => ovT sz wd f e last
noncomputable def ovP (sz : List Int) (wd : Nat) (f e : Int) : List (Int × Int) := match ovF sz wd f e with
  | [] => []
  | o :: _ => [(o, f)]
noncomputable def strRow (sz : List Int) (wd : Nat) (st e : Int) : List (Int × Int) := ((rangeKs st (e - st).toNat).map fun f => ovP sz wd f e).flatten
noncomputable def rowsZ (xs : List Int) : List (Int × Int) := ([0] ++ (endsF xs xs.length).map fun z => z + 1).zip (endsF xs xs.length ++ [(xs.length : Int)])
noncomputable def strAll (xs sz : List Int) (wd : Nat) : List (Int × Int) := ((rowsZ xs).map fun r => strRow sz wd r.1 r.2).flatten
noncomputable def TupsAre (vs : List Value) (prs : List (Int × Int)) (tups : List (Addr × Obj)) : Prop := vs.length = prs.length ∧ ∀ k, k < prs.length → ∃ a t u, vs[k]? = some (.ref a) ∧ (a, tup2 (prs.getD k (0, 0)).1 (prs.getD k (0, 0)).2 t u) ∈ tups
theorem getD_of {P : Int → Prop} {l : List Int} (h : ∀ z ∈ l, P z) {i : Nat} (hi : i < l.length) : P (l.getD i 0) := by
  rw [List.getD_eq_getElem?_getD, List.getElem?_eq_getElem hi]; exact h _ (List.getElem_mem hi)
theorem endsF_bd {xs : List Int} {n : Nat} {z : Int} (h : z ∈ endsF xs n) : 0 ≤ z ∧ z < (n : Int) := by
  unfold endsF at h
  obtain ⟨k, hk, rfl⟩ := List.mem_map.mp h
  have := List.mem_range.mp (List.mem_filter.mp hk).1
  omega
theorem starts_bd (xs : List Int) {i : Nat} (h : i < ([0] ++ (endsF xs xs.length).map fun z => z + 1).length) : 0 ≤ ([0] ++ (endsF xs xs.length).map fun z => z + 1).getD i 0 ∧ ([0] ++ (endsF xs xs.length).map fun z => z + 1).getD i 0 ≤ (xs.length : Int) := by
  refine getD_of (P := fun z => 0 ≤ z ∧ z ≤ (xs.length : Int)) (fun z hz => ?_) h
  rcases List.mem_append.mp hz with hz | hz
  · rw [List.mem_singleton.mp hz]; omega
  · obtain ⟨y, hy, rfl⟩ := List.mem_map.mp hz
    have := endsF_bd hy
    omega
theorem ends_bd (xs : List Int) {i : Nat} (h : i < (endsF xs xs.length ++ [(xs.length : Int)]).length) : 0 ≤ (endsF xs xs.length ++ [(xs.length : Int)]).getD i 0 ∧ (endsF xs xs.length ++ [(xs.length : Int)]).getD i 0 ≤ (xs.length : Int) := by
  refine getD_of (P := fun z => 0 ≤ z ∧ z ≤ (xs.length : Int)) (fun z hz => ?_) h
  rcases List.mem_append.mp hz with hz | hz
  · have := endsF_bd hz
    omega
  · rw [List.mem_singleton.mp hz]; omega
theorem ints_cons {ys : List Value} {o : Int} {r : List Int} (h : IntsAre ys (o :: r)) : ∃ t ys', ys = .int o t :: ys' ∧ IntsAre ys' r := by
  cases h with
  | cons _ t h => exact ⟨t, _, rfl, h⟩
theorem ovF_len {sz : List Int} {wd : Nat} {f e : Int} : (ovF sz wd f e).length ≤ (e + 1 - (f + 1)).toNat := by
  unfold ovF
  exact Nat.le_trans (List.length_filter_le ..) (by rw [rangeKs_length]; exact Nat.le_refl _)
theorem row_next {sz : List Int} {wd : Nat} {e a : Int} {n i : Nat} (h : i < n) : (((rangeKs a n).take (i + 1)).map fun f => ovP sz wd f e).flatten = (((rangeKs a n).take i).map fun f => ovP sz wd f e).flatten ++ ovP sz wd (a + (i : Int)) e := by
  have hl : i < (rangeKs a n).length := by rw [rangeKs_length]; exact h
  have hg : (rangeKs a n)[i] = a + (i : Int) := by simp [rangeKs]
  rw [List.take_add_one, List.getElem?_eq_getElem hl, List.map_append, List.flatten_append, hg]
  simp
noncomputable def NeAll (c : Nat) (as : List Nat) : Prop := ∀ b ∈ as, b ≠ c
theorem neAll_use {c : Nat} {l : List (Addr × Obj)} (h : NeAll c (List.map Prod.fst l)) : ∀ p ∈ l, p.1 ≠ c := fun p hp => h p.1 (List.mem_map_of_mem hp)
theorem allLt_mem {d : Nat} : ∀ {l : List (Addr × Obj)}, AllLt d l → ∀ p ∈ l, (p.1 : Nat) < d
  | [], _, _, hp => (nomatch hp)
  | q :: r, h, p, hp => by
    rcases List.mem_cons.mp hp with rfl | hp
    · exact h.1
    · exact allLt_mem h.2 p hp
theorem zip_next {f : Int × Int → List (Int × Int)} {A B : List Int} {i : Nat} (h1 : i < A.length) (h2 : i < B.length) :
    (((A.zip B).take (i + 1)).map f).flatten = (((A.zip B).take i).map f).flatten ++ f (A.getD i 0, B.getD i 0) := by
  have hl : i < (A.zip B).length := by rw [List.length_zip]; omega
  rw [List.take_add_one, List.getElem?_eq_getElem hl, List.map_append, List.flatten_append, List.getElem_zip, List.getD_eq_getElem?_getD, List.getD_eq_getElem?_getD, List.getElem?_eq_getElem h1, List.getElem?_eq_getElem h2]
  simp
theorem tups_snoc {vs : List Value} {prs : List (Int × Int)} {tps : List (Addr × Obj)} {D : Addr} {x y : Int} {t u : Tok} (h : TupsAre vs prs tps) : TupsAre (vs ++ [.ref D]) (prs ++ [(x, y)]) ((D, tup2 x y t u) :: tps) := by
  obtain ⟨h1, h2⟩ := h
  refine ⟨by simp [h1], fun k hk => ?_⟩
  rw [List.length_append, List.length_singleton] at hk
  by_cases e : k < prs.length
  · obtain ⟨a, t', u', q1, q2⟩ := h2 k e
    refine ⟨a, t', u', ?_, ?_⟩
    · rw [List.getElem?_append_left (by omega)]; exact q1
    · rw [List.getD_eq_getElem?_getD, List.getElem?_append_left e, ← List.getD_eq_getElem?_getD]; exact .tail _ q2
  · obtain rfl : k = prs.length := by omega
    refine ⟨D, t, u, ?_, ?_⟩
    · rw [← h1]; simp
    · simp
theorem ovP_len {sz : List Int} {wd : Nat} {f e : Int} : (ovP sz wd f e).length ≤ 1 := by
  unfold ovP; split <;> simp
theorem tl_lt {n : Nat} {l : List (Addr × Obj)} (h : ∀ p ∈ l, (p.1 : Nat) < n) : ∀ y : Nat, y ∈ l.map Prod.fst → y < n := fun y hy => by
  obtain ⟨p, hp, rfl⟩ := List.mem_map.mp hy
  exact h p hp
theorem tl_ok {z n : Nat} {t l : List (Addr × Obj)} (ht : ∀ p ∈ t, z < (p.1 : Nat)) (h : ∀ p ∈ l, (p.1 : Nat) < n) : ∀ y : Nat, y ∈ (t ++ l).map Prod.fst → (z < y ∨ y < n) := fun y hy => by
  obtain ⟨p, hp, rfl⟩ := List.mem_map.mp hy
  exact (List.mem_append.mp hp).elim (fun k => .inl (ht p k)) fun k => .inr (h p k)
section
variable {L' lS T1 z TO i1 i2 TI l1 l2 l lz I2 : Nat} {tail : List (Addr × Obj)} (a1 : L' + 1 + 1 + 1 + 1 < lS) (a2 : lS < l1) (h : ZOrd z TI TO i1 i2 l1 l2)
include a1 a2 h
theorem ne_E (a3 : lS < T1) (a4 : l < L') (a5 : lz < L') (a6 : ∀ y : Nat, y ∈ tail.map Prod.fst → (z < y ∨ y < L')) : NeAll (L' + 1 + 1 + 1) ((L' + 1 + 1 + 1 + 1) :: lS :: T1 :: z :: TO :: i1 :: i2 :: TI :: l1 :: l2 :: (L' + 1 + 1) :: (L' + 1) :: l :: lz :: tail.map Prod.fst) := by
  obtain ⟨h1, h2, h3, h4, h5, h6⟩ := h
  intro b hb
  simp only [List.mem_cons] at hb
  rcases hb with hb | hb | hb | hb | hb | hb | hb | hb | hb | hb | hb | hb | hb | hb | hb
  all_goals first | (have := a6 b hb; omega) | omega
theorem ne_F (a3 : lS < T1) (a4 : l < L') (a5 : lz < L') (a6 : ∀ y : Nat, y ∈ tail.map Prod.fst → (z < y ∨ y < L')) : NeAll (L' + 1 + 1 + 1 + 1) (lS :: T1 :: z :: TO :: i1 :: i2 :: TI :: l1 :: l2 :: (L' + 1 + 1) :: (L' + 1) :: l :: lz :: tail.map Prod.fst) := by
  obtain ⟨h1, h2, h3, h4, h5, h6⟩ := h
  intro b hb
  simp only [List.mem_cons] at hb
  rcases hb with hb | hb | hb | hb | hb | hb | hb | hb | hb | hb | hb | hb | hb | hb
  all_goals first | (have := a6 b hb; omega) | omega
theorem ne_F2 (a3 : lS < T1) (a4 : l < L') (a5 : lz < L') (a7 : I2 ≠ L' + 1 + 1 + 1 + 1) (a6 : ∀ y : Nat, y ∈ tail.map Prod.fst → (z < y ∨ y < L')) : NeAll (L' + 1 + 1 + 1 + 1) (lS :: I2 :: (L' + 1 + 1 + 1) :: T1 :: z :: TO :: i1 :: i2 :: TI :: l1 :: l2 :: (L' + 1 + 1) :: (L' + 1) :: l :: lz :: tail.map Prod.fst) := by
  obtain ⟨h1, h2, h3, h4, h5, h6⟩ := h
  intro b hb
  simp only [List.mem_cons] at hb
  rcases hb with hb | hb | hb | hb | hb | hb | hb | hb | hb | hb | hb | hb | hb | hb | hb | hb
  all_goals first | (have := a6 b hb; omega) | omega
theorem ne_S (a3 : lS < T1) (a4 : l < L') (a5 : lz < L') (a7 : I2 ≠ lS) (a6 : ∀ y : Nat, y ∈ tail.map Prod.fst → (z < y ∨ y < L')) : NeAll lS ((L' + 1 + 1 + 1 + 1) :: I2 :: (L' + 1 + 1 + 1) :: T1 :: z :: TO :: i1 :: i2 :: TI :: l1 :: l2 :: (L' + 1 + 1) :: (L' + 1) :: l :: lz :: tail.map Prod.fst) := by
  obtain ⟨h1, h2, h3, h4, h5, h6⟩ := h
  intro b hb
  simp only [List.mem_cons] at hb
  rcases hb with hb | hb | hb | hb | hb | hb | hb | hb | hb | hb | hb | hb | hb | hb | hb | hb
  all_goals first | (have := a6 b hb; omega) | omega
theorem off_Z (a4 : l < L') (a5 : lz < L') (a6 : ∀ y : Nat, y ∈ tail.map Prod.fst → (z < y ∨ y < L')) : ∀ b : Nat, b ∈ ((L' + 1 + 1 + 1) :: (L' + 1 + 1 + 1 + 1) :: lS :: TI :: l1 :: l2 :: (L' + 1 + 1) :: (L' + 1) :: l :: lz :: tail.map Prod.fst) → b ∉ [z, TO, i1, i2] := by
  obtain ⟨h1, h2, h3, h4, h5, h6⟩ := h
  intro b hb hz
  simp only [List.mem_cons, List.not_mem_nil, or_false] at hb hz
  rcases hb with hb | hb | hb | hb | hb | hb | hb | hb | hb | hb | hb
  all_goals first | (have := a6 b hb; omega) | omega
end
local macro_rules | `(tactic| k_all) => `(tactic| exact neAll_use (by assumption))
section
variable {w : World} {mean : ExcName → Option Value} {mg mb : Str → Option Value}
    {dp un : Nat} {gd : Option (List Code)} {cn : Str} {cs : Scope} {a : Addr} {ccd : Value} {cl : List (Str × Addr)} {outer : List Env} {A₀ : Around} {base h₀ : Heap} {L : Addr} {m : Str → Option Value} {s : Shared} {Q E : Value → Shared → Prop}
    (B : Below A₀ base outer h₀) (F : Fr h₀ L s.heap m) (X : (Kf w.params).In h₀) (T : Top q (looseW q loose) mean mg mb h₀) (hk : cs.kind = .function)
include B F X T hk
theorem str_spec {l lz : Addr} {vs zs : List Value} {xs sz : List Int} {c cz wd : Nat} {tw : Tok} {news : List (Addr × Obj)} (N : News h₀ L s.heap ((l, listOf vs.toArray c) :: (lz, listOf zs.toArray cz) :: news)) (hd : dp + 2 < recursionLimit) (hu : un + 128 < cLine) (hi : IntsAre vs xs) (hz : IntsAre zs sz) (hn : xs.length < 30) (hnz : sz.length = xs.length)
    (h30 : ∀ x ∈ xs, 0 ≤ x ∧ x < 256) (hz3 : ∀ x ∈ sz, 0 ≤ x ∧ x ≤ 3)
    (hret : ∀ lS ws cw tps h' tk', Fr h₀ L h' m → News h₀ L h' ((lS, listOf ws.toArray cw) :: (l, listOf vs.toArray c) :: (lz, listOf zs.toArray cz) :: (tps ++ news)) → TupsAre ws (strAll xs sz wd) tps → (l < lS ∧ lz < lS ∧ AllLt lS news) → (∀ p ∈ tps, @LT.lt Nat _ lS p.1) → Q (.ref lS) { s with heap := h', toks := tk' }) :
    wpAny (model PySem.Challenge.rw_op0130_01.prog w) (ktrTop dp un gd cn cs L a ccd cl outer) (call (.ref 129) [.ref l, .ref lz, .int (wd : Int) tw]) Q E s := by
  revert X; k_fill; intro X
  refine wpAny_call ?_
  k_dflt (refine' code_defC (binds := [(Str.ofString "octets", .ref l), (Str.ofString "sizes", .ref lz), (Str.ofString "width", .int (wd : Int) tw)]) ?k1 ?k2 ?k3 ?k4 ?k5 ?kA ?kF ?kK ?k6 ?k7 ?k8 ?k9 ?kB ?kD ?_ ?c2 ?c3 ?c4; (case kA => exact rfl); (case kF => exact rfl); (case kK => assumption); (case k1 => k_asm); (case k2 => k_asm); (case k3 => k_asm); (case k4 => k_asm); (case k5 => k_asm); (case k6 => k_is); (case k7 => k_is); (case k8 => ktr_room); (case k9 => exact BindsTo.of_eq rfl); (case kB => exact rfl); (case kD => decide +kernel); (case c2 => exact rfl); (case c3 => exact rfl); (case c4 => exact rfl); k_whole; intro g' L' h' tk' cells' FG' F' N' Y' B' X' T' l1'; (try k_lt l1'); (try dsimp only); (try k_fold))
  obtain ⟨o1, o2, o3, o4, hE, d1, d2, d3, d4⟩ := CellsAre.four Y'; subst hE; clear Y'
  replace d4 : o4.data = .cell (some (.ref lz)) := d4
  replace d3 : o3.data = .cell (some (.int (wd : Int) tw)) := d3
  replace d1 : o1.data = .cell none := d1
  replace d2 : o2.data = .cell none := d2
  simp only [List.cons_append, List.nil_append] at N'
  (repeat' (first | (k_unfold; (try dsimp only)) | ((fail_if_success (with_reducible (first | show wpAny _ _ (exec (Stmt.While _ _ _ _) _) _ _ _ | show wpAny _ _ (call (Value.ref _) _) _ _ _ | show wpAny _ _ (exec (Stmt.For _ _ _ _ _) _) _ _ _ | show wpAny _ _ (eval (Expr.ListComp _ _ _ _) _) _ _ _ | show wpAny _ _ (exec (Stmt.Assign _ (Expr.ListComp _ _ _ _) _) _) _ _ _ | show LCt.CompSrcT _ _ _ _ _ _ _ _ _ _ _ _ _ _ _ | show TurnQ _ _ _ _ _ _ _ _ | show wpAny _ _ (subscriptTail _ (PySem.Expr.Slice _ _ _ _) _ _) _ _ _ | show wpAny _ _ (call (Value.builtin "min") _) _ _ _ | show wpAny _ _ (call (Value.builtin "sum") _) _ _ _ | show wpAny _ _ (pyIter _) _ _ _ | show LpEnd _ _ _ _ _ _ _ _ _ _ | show KswEnd _ _ _ _ _ _ _ _ _ _ _ _))); first | walk1 | (dsimp only; walk1))))
  refine wpAny_For ?_
  (repeat' (first | (k_unfold; (try dsimp only)) | ((fail_if_success (with_reducible (first | show wpAny _ _ (exec (Stmt.While _ _ _ _) _) _ _ _ | show wpAny _ _ (call (Value.ref _) _) _ _ _ | show wpAny _ _ (exec (Stmt.For _ _ _ _ _) _) _ _ _ | show wpAny _ _ (eval (Expr.ListComp _ _ _ _) _) _ _ _ | show wpAny _ _ (exec (Stmt.Assign _ (Expr.ListComp _ _ _ _) _) _) _ _ _ | show LCt.CompSrcT _ _ _ _ _ _ _ _ _ _ _ _ _ _ _ | show TurnQ _ _ _ _ _ _ _ _ | show wpAny _ _ (subscriptTail _ (PySem.Expr.Slice _ _ _ _) _ _) _ _ _ | show wpAny _ _ (call (Value.builtin "min") _) _ _ _ | show wpAny _ _ (call (Value.builtin "sum") _) _ _ _ | show wpAny _ _ (pyIter _) _ _ _ | show LpEnd _ _ _ _ _ _ _ _ _ _ | show KswEnd _ _ _ _ _ _ _ _ _ _ _ _))); first | walk1 | (dsimp only; walk1))))
  rename_i lS _ lo1 h1 F1 N1
  refine rows_spec (c := c) (vs := vs) (l := l) (news := (lS, listOf #[] 0) :: (L' + 1 + 1 + 1 + 1, o1) :: (L' + 1 + 1 + 1, o2) :: (L' + 1 + 1, o3) :: (L' + 1, o4) :: (lz, listOf zs.toArray cz) :: news) B' (by k_asm) X' T' rfl (N := news_sub2 N1 ?hsub) (by ktr_room) (by ktr_units) hi hn h30 ?_
  case hsub => exact List.forall_mem_cons.mpr ⟨by k_mem, List.forall_mem_cons.mpr ⟨by k_mem, List.forall_mem_cons.mpr ⟨by k_mem, List.forall_mem_cons.mpr ⟨by k_mem, List.forall_mem_cons.mpr ⟨by k_mem, List.forall_mem_cons.mpr ⟨by k_mem, List.forall_mem_cons.mpr ⟨by k_mem, fun p hp => by repeat (first | exact hp | apply List.mem_cons_of_mem)⟩⟩⟩⟩⟩⟩⟩
  intro z TI TO i1 i2 l1 l2 va vb oz oTO oi1 oi2 oTI h2 tk2 F2 N2 ia ib hst hord hlt
  obtain ⟨q1, q2, q3, q4, q5, q6, q7⟩ := lo1
  have q8 : lS < l1 := hlt.2.1
  let LedA : (Obj × Obj × List Value × Nat × List (Int × Int) × List (Addr × Obj)) → List (Addr × Obj) := fun c' => (L' + 1 + 1 + 1, c'.2.1) :: (L' + 1 + 1 + 1 + 1, c'.1) :: (lS, listOf c'.2.2.1.toArray c'.2.2.2.1) :: (TI, oTI) :: (l1, listOf va.toArray 0) :: (l2, listOf vb.toArray 0) :: (L' + 1 + 1, o3) :: (L' + 1, o4) :: (l, listOf vs.toArray c) :: (lz, listOf zs.toArray cz) :: (c'.2.2.2.2.2 ++ news)
  let PA : Nat → (Obj × Obj × List Value × Nat × List (Int × Int) × List (Addr × Obj)) → Prop := fun i c' => (∃ v, c'.1.data = .cell v) ∧ (∃ v, c'.2.1.data = .cell v) ∧ c'.2.2.2.2.1 = (((rowsZ xs).take i).map fun r => strRow sz wd r.1 r.2).flatten ∧ TupsAre c'.2.2.1 c'.2.2.2.2.1 c'.2.2.2.2.2 ∧ (∀ p ∈ c'.2.2.2.2.2, z < p.1) ∧ c'.2.2.2.2.1.length ≤ 40 * i
  refine for_zip (σ := Obj × Obj × List Value × Nat × List (Int × Int) × List (Addr × Obj)) (z := z) (TI := TI) (TO := TO) (i1 := i1) (i2 := i2) (l1 := l1) (l2 := l2) (va := va) (vb := vb) (oTI := oTI) hord (fun g => g' = g)
    LedA
    (fun _ => []) [Str.ofString "start", Str.ofString "over"]
    PA (o1, o2, [], 0, [], []) rfl
    (fun _ => by dsimp only [LedA]; k_mem) (fun _ => by dsimp only [LedA]; k_mem) (fun _ => by dsimp only [LedA]; k_mem) ?hCn ?hIL hst rfl F2 (news_sub2 N2 ?hsub) ?hoff (List.forall_mem_nil _) ⟨⟨_, d1⟩, ⟨_, d2⟩, rfl, ⟨rfl, fun k hk => absurd hk (Nat.not_lt_zero _)⟩, List.forall_mem_nil _, Nat.zero_le _⟩ ?turn ?after
  case hsub => exact List.forall_mem_cons.mpr ⟨by k_mem, List.forall_mem_cons.mpr ⟨by k_mem, List.forall_mem_cons.mpr ⟨by k_mem, List.forall_mem_cons.mpr ⟨by k_mem, List.forall_mem_cons.mpr ⟨by k_mem, List.forall_mem_cons.mpr ⟨by k_mem, List.forall_mem_cons.mpr ⟨by k_mem, List.forall_mem_cons.mpr ⟨by k_mem, List.forall_mem_cons.mpr ⟨by k_mem, List.forall_mem_cons.mpr ⟨by k_mem, fun p hp => by repeat (first | exact hp | apply List.mem_cons_of_mem)⟩⟩⟩⟩⟩⟩⟩⟩⟩⟩
  case hCn =>
    intro g hg b hb
    subst hg
    simp only [List.mem_cons, List.not_mem_nil, or_false] at hb
    rcases hb with rfl | rfl | rfl | rfl
    · exact (N2 _ (.head _)).2.2
    · exact (N2 _ (.tail _ (.head _))).2.2
    · exact (N2 _ (.tail _ (.tail _ (.head _)))).2.2
    · exact (N2 _ (.tail _ (.tail _ (.tail _ (.head _))))).2.2
  case hIL =>
    intro b hb
    simp only [List.mem_cons, List.not_mem_nil, or_false] at hb
    rcases hb with rfl | rfl | rfl | rfl
    · exact (N2 _ (.head _)).2.1
    · exact (N2 _ (.tail _ (.head _))).2.1
    · exact (N2 _ (.tail _ (.tail _ (.head _)))).2.1
    · exact (N2 _ (.tail _ (.tail _ (.tail _ (.head _))))).2.1
  case hoff => exact fun r hr => off_Z q1 q8 hord l1'.1 l1'.2.1 (fun y hy => .inr (tl_lt (fun p h => allLt_mem l1'.2.2 p h) y hy)) r.1 (List.mem_map_of_mem (f := Prod.fst) hr)
  case turn =>
    intro i x y c9 u g hh tk oz' oTO' oi1' oi2' T1 dd nn sl hx hy hP9 hC F4 N4 off hT1
    k_fold
    obtain ⟨oF, oE, ws, cw, prs, tps⟩ := c9
    obtain ⟨⟨vF, e1⟩, ⟨vE, e2⟩, e3, e4, e5, e6⟩ := hP9
    subst hC
    dsimp only [kstB, LedA] at e1 e2 e3 e4 e5 e6 F4 N4 off hT1
    obtain ⟨tx, rfl, hxi⟩ := ints_at ia hx
    obtain ⟨ty, rfl, hyi⟩ := ints_at ib hy
    have hstB := starts_bd xs hxi
    have henB := ends_bd xs hyi
    have hrw := zip_next (f := fun r => strRow sz wd r.1 r.2) hxi hyi
    have hi31 : i < 31 := by have := endsF_len (xs := xs) (n := xs.length); rw [List.length_append, List.length_singleton, List.length_map] at hxi; omega
    generalize List.getD ([0] ++ (endsF xs xs.length).map fun z => z + 1) i 0 = st at *
    generalize List.getD (endsF xs xs.length ++ [(xs.length : Int)]) i 0 = en at *
    have N5 := news_sub2 N4 (l2 := (L' + 1 + 1 + 1, oE) :: (L' + 1 + 1 + 1 + 1, oF) :: (lS, listOf ws.toArray cw) :: (T1, ⟨.type "tuple", dd, .seq #[.int st tx, .int en ty] nn, sl⟩) :: (z, oz') :: (TO, oTO') :: (i1, oi1') :: (i2, oi2') :: (TI, oTI) :: (l1, listOf va.toArray 0) :: (l2, listOf vb.toArray 0) :: (L' + 1 + 1, o3) :: (L' + 1, o4) :: (l, listOf vs.toArray c) :: (lz, listOf zs.toArray cz) :: (tps ++ news)) (by
      repeat (refine List.forall_mem_cons.mpr ⟨by k_mem, ?_⟩)
      exact fun p hp => by repeat (first | exact hp | apply List.mem_cons_of_mem))
    have hT2 : lS < T1 := hT1 _ (.tail _ (.tail _ (.head _)))
    have htl : ∀ y : Nat, y ∈ (tps ++ news).map Prod.fst → (z < y ∨ y < L') := tl_ok e5 fun p h => allLt_mem l1'.2.2 p h
    have hnE : NeAll (L' + 1 + 1 + 1) (List.map Prod.fst ((L' + 1 + 1 + 1 + 1, oF) :: (lS, listOf ws.toArray cw) :: (T1, ⟨.type "tuple", dd, .seq #[.int st tx, .int en ty] nn, sl⟩) :: (z, oz') :: (TO, oTO') :: (i1, oi1') :: (i2, oi2') :: (TI, oTI) :: (l1, listOf va.toArray 0) :: (l2, listOf vb.toArray 0) :: (L' + 1 + 1, o3) :: (L' + 1, o4) :: (l, listOf vs.toArray c) :: (lz, listOf zs.toArray cz) :: (tps ++ news))) := ne_E q1 q8 hord hT2 l1'.1 l1'.2.1 htl
    have hnF : NeAll (L' + 1 + 1 + 1 + 1) (List.map Prod.fst ((lS, listOf ws.toArray cw) :: (T1, ⟨.type "tuple", dd, .seq #[.int st tx, .int en ty] nn, sl⟩) :: (z, oz') :: (TO, oTO') :: (i1, oi1') :: (i2, oi2') :: (TI, oTI) :: (l1, listOf va.toArray 0) :: (l2, listOf vb.toArray 0) :: (L' + 1 + 1, o3) :: (L' + 1, o4) :: (l, listOf vs.toArray c) :: (lz, listOf zs.toArray cz) :: (tps ++ news))) := ne_F q1 q8 hord hT2 l1'.1 l1'.2.1 htl
    clear N4
    (repeat' (first | (k_unfold; (try dsimp only)) | ((fail_if_success (with_reducible (first | show wpAny _ _ (exec (Stmt.While _ _ _ _) _) _ _ _ | show wpAny _ _ (call (Value.ref _) _) _ _ _ | show wpAny _ _ (exec (Stmt.For _ _ _ _ _) _) _ _ _ | show wpAny _ _ (eval (Expr.ListComp _ _ _ _) _) _ _ _ | show wpAny _ _ (exec (Stmt.Assign _ (Expr.ListComp _ _ _ _) _) _) _ _ _ | show LCt.CompSrcT _ _ _ _ _ _ _ _ _ _ _ _ _ _ _ | show TurnQ _ _ _ _ _ _ _ _ | show wpAny _ _ (subscriptTail _ (PySem.Expr.Slice _ _ _ _) _ _) _ _ _ | show wpAny _ _ (call (Value.builtin "min") _) _ _ _ | show wpAny _ _ (call (Value.builtin "sum") _) _ _ _ | show wpAny _ _ (pyIter _) _ _ _ | show LpEnd _ _ _ _ _ _ _ _ _ _ | show KswEnd _ _ _ _ _ _ _ _ _ _ _ _))); first | walk1 | (dsimp only; walk1))))
    refine wpAny_For ?_
    (repeat' (first | (k_unfold; (try dsimp only)) | ((fail_if_success (with_reducible (first | show wpAny _ _ (exec (Stmt.While _ _ _ _) _) _ _ _ | show wpAny _ _ (call (Value.ref _) _) _ _ _ | show wpAny _ _ (exec (Stmt.For _ _ _ _ _) _) _ _ _ | show wpAny _ _ (eval (Expr.ListComp _ _ _ _) _) _ _ _ | show wpAny _ _ (exec (Stmt.Assign _ (Expr.ListComp _ _ _ _) _) _) _ _ _ | show LCt.CompSrcT _ _ _ _ _ _ _ _ _ _ _ _ _ _ _ | show TurnQ _ _ _ _ _ _ _ _ | show wpAny _ _ (subscriptTail _ (PySem.Expr.Slice _ _ _ _) _ _) _ _ _ | show wpAny _ _ (call (Value.builtin "min") _) _ _ _ | show wpAny _ _ (call (Value.builtin "sum") _) _ _ _ | show wpAny _ _ (pyIter _) _ _ _ | show LpEnd _ _ _ _ _ _ _ _ _ _ | show KswEnd _ _ _ _ _ _ _ _ _ _ _ _))); first | walk1 | (dsimp only; walk1))))
    rename_i oE' _ _ dE _ _ _ _ _ hr F6 N6 _
    obtain ⟨hs0, hs1⟩ : 0 ≤ st ∧ st ≤ (xs.length : Int) := hstB
    obtain ⟨he0, he1⟩ : 0 ≤ en ∧ en ≤ (xs.length : Int) := henB
    obtain ⟨sn, rfl⟩ := Int.eq_ofNat_of_zero_le hs0
    obtain ⟨en', rfl⟩ := Int.eq_ofNat_of_zero_le he0
    let LedB : (Obj × List Value × Nat × List (Int × Int) × List (Addr × Obj)) → List (Addr × Obj) := fun c' => (L' + 1 + 1 + 1 + 1, c'.1) :: (lS, listOf c'.2.1.toArray c'.2.2.1) :: (L' + 1 + 1 + 1, oE') :: (T1, ⟨.type "tuple", dd, .seq #[.int (sn : Int) tx, .int (en' : Int) ty] nn, sl⟩) :: (z, oz') :: (TO, oTO') :: (i1, oi1') :: (i2, oi2') :: (TI, oTI) :: (l1, listOf va.toArray 0) :: (l2, listOf vb.toArray 0) :: (L' + 1 + 1, o3) :: (L' + 1, o4) :: (l, listOf vs.toArray c) :: (lz, listOf zs.toArray cz) :: (c'.2.2.2.2 ++ news)
    let PB : Nat → (Obj × List Value × Nat × List (Int × Int) × List (Addr × Obj)) → Prop := fun i' c' => (∃ v, c'.1.data = .cell v) ∧ c'.2.2.2.1 = prs ++ (((rangeKs (sn : Int) ((en' : Int) - (sn : Int)).toNat).take i').map fun f => ovP sz wd f (en' : Int)).flatten ∧ TupsAre c'.2.1 c'.2.2.2.1 c'.2.2.2.2 ∧ (∀ p ∈ c'.2.2.2.2, z < p.1) ∧ c'.2.2.2.1.length ≤ 40 * i + i'
    refine for_range (σ := Obj × List Value × Nat × List (Int × Int) × List (Addr × Obj)) (k := en' - sn) (fun g => g' = g)
      LedB
      (fun _ => []) [Str.ofString "over"]
      PB (oF, ws, cw, prs, tps) rfl
      hr (rng_small (by omega) (by omega)) rng_size (fun g hg b hb => by rw [← hg]; exact hb) rfl F6 (news_sub2 N6 ?hsub2) (List.forall_mem_nil _) ⟨⟨_, e1⟩, by simp, e4, e5, by dsimp only; omega⟩ ?turn2 ?after2
    case hsub2 =>
      repeat (refine List.forall_mem_cons.mpr ⟨by k_mem, ?_⟩)
      exact fun p hp => by repeat (first | exact hp | apply List.mem_cons_of_mem)
    case turn2 =>
      intro j tj c9 u2 g hh2 tk3 I2 oI2 hj hP9 hC F7 N7 off2
      k_fold
      obtain ⟨oF, ws, cw, prs2, tps⟩ := c9
      obtain ⟨⟨vF2, f1⟩, f3, f4, f5, f6⟩ := hP9
      subst hC
      dsimp only [kstB, LedB] at f1 f3 f4 f5 f6 F7 N7 off2
      have N8 := news_sub2 N7 (l2 := (L' + 1 + 1 + 1 + 1, oF) :: (lS, listOf ws.toArray cw) :: (I2, oI2) :: (L' + 1 + 1 + 1, oE') :: (T1, ⟨.type "tuple", dd, .seq #[.int (sn : Int) tx, .int (en' : Int) ty] nn, sl⟩) :: (z, oz') :: (TO, oTO') :: (i1, oi1') :: (i2, oi2') :: (TI, oTI) :: (l1, listOf va.toArray 0) :: (l2, listOf vb.toArray 0) :: (L' + 1 + 1, o3) :: (L' + 1, o4) :: (l, listOf vs.toArray c) :: (lz, listOf zs.toArray cz) :: (tps ++ news)) (by
        repeat (refine List.forall_mem_cons.mpr ⟨by k_mem, ?_⟩)
        exact fun p hp => by repeat (first | exact hp | apply List.mem_cons_of_mem))
      have htl : ∀ y : Nat, y ∈ (tps ++ news).map Prod.fst → (z < y ∨ y < L') := tl_ok f5 fun p h => allLt_mem l1'.2.2 p h
      have hI2 : (@Ne Nat I2 (L' + 1 + 1 + 1 + 1)) ∧ (@Ne Nat I2 lS) := ⟨fun e => off2 _ (.head _) e.symm, fun e => off2 _ (.tail _ (.head _)) e.symm⟩
      have hnF2 : NeAll (L' + 1 + 1 + 1 + 1) (List.map Prod.fst ((lS, listOf ws.toArray cw) :: (I2, oI2) :: (L' + 1 + 1 + 1, oE') :: (T1, ⟨.type "tuple", dd, .seq #[.int (sn : Int) tx, .int (en' : Int) ty] nn, sl⟩) :: (z, oz') :: (TO, oTO') :: (i1, oi1') :: (i2, oi2') :: (TI, oTI) :: (l1, listOf va.toArray 0) :: (l2, listOf vb.toArray 0) :: (L' + 1 + 1, o3) :: (L' + 1, o4) :: (l, listOf vs.toArray c) :: (lz, listOf zs.toArray cz) :: (tps ++ news))) := by
        exact ne_F2 q1 q8 hord hT2 l1'.1 l1'.2.1 hI2.1 htl
      clear N7
      show wpAny _ _ (pure ()) _ _ _
      refine wpAny_pure ?_
      (repeat' (first | (k_unfold; (try dsimp only)) | ((fail_if_success (with_reducible (first | show wpAny _ _ (exec (Stmt.While _ _ _ _) _) _ _ _ | show wpAny _ _ (call (Value.ref _) _) _ _ _ | show wpAny _ _ (exec (Stmt.For _ _ _ _ _) _) _ _ _ | show wpAny _ _ (eval (Expr.ListComp _ _ _ _) _) _ _ _ | show wpAny _ _ (exec (Stmt.Assign _ (Expr.ListComp _ _ _ _) _) _) _ _ _ | show LCt.CompSrcT _ _ _ _ _ _ _ _ _ _ _ _ _ _ _ | show TurnQ _ _ _ _ _ _ _ _ | show wpAny _ _ (subscriptTail _ (PySem.Expr.Slice _ _ _ _) _ _) _ _ _ | show wpAny _ _ (call (Value.builtin "min") _) _ _ _ | show wpAny _ _ (call (Value.builtin "sum") _) _ _ _ | show wpAny _ _ (pyIter _) _ _ _ | show LpEnd _ _ _ _ _ _ _ _ _ _ | show KswEnd _ _ _ _ _ _ _ _ _ _ _ _))); first | walk1 | (dsimp only; walk1))))
      rename_i o' _ _ dF
      k_dflt (refine LCt.Assign_ListComp_T (F₀ := by k_asm) (by rfl) (by with_unfolding_all rfl) (by with_unfolding_all rfl) (by decide) (by rfl) (by decide) (by rfl) (by rfl) (by rfl) ?_)
      (repeat' (first | (k_unfold; (try dsimp only)) | ((fail_if_success (with_reducible (first | show wpAny _ _ (exec (Stmt.While _ _ _ _) _) _ _ _ | show wpAny _ _ (call (Value.ref _) _) _ _ _ | show wpAny _ _ (exec (Stmt.For _ _ _ _ _) _) _ _ _ | show wpAny _ _ (eval (Expr.ListComp _ _ _ _) _) _ _ _ | show wpAny _ _ (exec (Stmt.Assign _ (Expr.ListComp _ _ _ _) _) _) _ _ _ | show LCt.CompSrcT _ _ _ _ _ _ _ _ _ _ _ _ _ _ _ | show TurnQ _ _ _ _ _ _ _ _ | show wpAny _ _ (subscriptTail _ (PySem.Expr.Slice _ _ _ _) _ _) _ _ _ | show wpAny _ _ (call (Value.builtin "min") _) _ _ _ | show wpAny _ _ (call (Value.builtin "sum") _) _ _ _ | show wpAny _ _ (pyIter _) _ _ _ | show LpEnd _ _ _ _ _ _ _ _ _ _ | show KswEnd _ _ _ _ _ _ _ _ _ _ _ _))); first | walk1 | (dsimp only; walk1))))
      rename IsRange _ _ _ _ _ _ _ _ => hr2
      rw [show ((sn : Int) + (j : Int) + 1) = ((sn + j + 1 : Nat) : Int) by omega, show ((en' : Int) + 1) = ((en' + 1 : Nat) : Int) by omega] at hr2
      refine LCt.CompSrcT.range rfl (by k_asm) (by k_asm) hr2 (rng_small (by omega) (by omega)) rng_size (by rw [show sizeLine = 16777216 from rfl]; omega) fun gg => ?_
      refine comp_indT (fun i ys => IntsAre ys (((rangeKs ((sn + j + 1 : Nat) : Int) (en' + 1 - (sn + j + 1))).take i).filter fun last => ovT sz wd ((sn : Int) + (j : Int)) (en' : Int) last)) trivial (en' + 1 - (sn + j + 1)) ?fin3 ?turn3 _ 0 [] (Nat.zero_add _) .nil
      case turn3 =>
        intro i ys v I oI C oC D m2 hh3 tkk E' hi3 hY hv hC hm hF hN off3 ne
        obtain ⟨tv, rfl⟩ := hv
        (repeat' (first | (k_unfold; (try dsimp only)) | ((fail_if_success (with_reducible (first | show wpAny _ _ (exec (Stmt.While _ _ _ _) _) _ _ _ | show wpAny _ _ (call (Value.ref _) _) _ _ _ | show wpAny _ _ (exec (Stmt.For _ _ _ _ _) _) _ _ _ | show wpAny _ _ (eval (Expr.ListComp _ _ _ _) _) _ _ _ | show wpAny _ _ (exec (Stmt.Assign _ (Expr.ListComp _ _ _ _) _) _) _ _ _ | show LCt.CompSrcT _ _ _ _ _ _ _ _ _ _ _ _ _ _ _ | show TurnQ _ _ _ _ _ _ _ _ | show wpAny _ _ (subscriptTail _ (PySem.Expr.Slice _ _ _ _) _ _) _ _ _ | show wpAny _ _ (call (Value.builtin "min") _) _ _ _ | show wpAny _ _ (call (Value.builtin "sum") _) _ _ _ | show wpAny _ _ (pyIter _) _ _ _ | show LpEnd _ _ _ _ _ _ _ _ _ _ | show KswEnd _ _ _ _ _ _ _ _ _ _ _ _))); first | walk1 | (dsimp only; walk1))))
        refine kmk_slice_ints hF hN (PySem.IsL.isList (News.get hN (by k_mem))) (IsPart.int _ _) (IsPart.int _ _) hz (kmk_run hz (by omega) (by omega)) rfl ?_ (by with_unfolding_all rfl) (by kmk_pure) (by rw [List.size_toArray, hz.length, show sizeLine = 16777216 from rfl]; omega)
        intro D5 w5 h5 F5 N5 l5 i5 c5 c6
        (repeat' (first | (k_unfold; (try dsimp only)) | ((fail_if_success (with_reducible (first | show wpAny _ _ (exec (Stmt.While _ _ _ _) _) _ _ _ | show wpAny _ _ (call (Value.ref _) _) _ _ _ | show wpAny _ _ (exec (Stmt.For _ _ _ _ _) _) _ _ _ | show wpAny _ _ (eval (Expr.ListComp _ _ _ _) _) _ _ _ | show wpAny _ _ (exec (Stmt.Assign _ (Expr.ListComp _ _ _ _) _) _) _ _ _ | show LCt.CompSrcT _ _ _ _ _ _ _ _ _ _ _ _ _ _ _ | show TurnQ _ _ _ _ _ _ _ _ | show wpAny _ _ (subscriptTail _ (PySem.Expr.Slice _ _ _ _) _ _) _ _ _ | show wpAny _ _ (call (Value.builtin "min") _) _ _ _ | show wpAny _ _ (call (Value.builtin "sum") _) _ _ _ | show wpAny _ _ (pyIter _) _ _ _ | show LpEnd _ _ _ _ _ _ _ _ _ _ | show KswEnd _ _ _ _ _ _ _ _ _ _ _ _))); first | walk1 | (dsimp only; walk1))))
        refine sumK rfl (by k_asm) (by k_asm) (PySem.IsL.isList (News.get N5 (.head _))) i5 ?_
        intro h6 tk6 t6 F6 N6
        (repeat' (first | (k_unfold; (try dsimp only)) | ((fail_if_success (with_reducible (first | show wpAny _ _ (exec (Stmt.While _ _ _ _) _) _ _ _ | show wpAny _ _ (call (Value.ref _) _) _ _ _ | show wpAny _ _ (exec (Stmt.For _ _ _ _ _) _) _ _ _ | show wpAny _ _ (eval (Expr.ListComp _ _ _ _) _) _ _ _ | show wpAny _ _ (exec (Stmt.Assign _ (Expr.ListComp _ _ _ _) _) _) _ _ _ | show LCt.CompSrcT _ _ _ _ _ _ _ _ _ _ _ _ _ _ _ | show TurnQ _ _ _ _ _ _ _ _ | show wpAny _ _ (subscriptTail _ (PySem.Expr.Slice _ _ _ _) _ _) _ _ _ | show wpAny _ _ (call (Value.builtin "min") _) _ _ _ | show wpAny _ _ (call (Value.builtin "sum") _) _ _ _ | show wpAny _ _ (pyIter _) _ _ _ | show LpEnd _ _ _ _ _ _ _ _ _ _ | show KswEnd _ _ _ _ _ _ _ _ _ _ _ _))); first | walk1 | (dsimp only; walk1))))
        refine min_two_N rfl (by k_asm) (by k_asm) ?_
        intro h7 tk7 F7 N7
        (repeat' (first | (k_unfold; (try dsimp only)) | ((fail_if_success (with_reducible (first | show wpAny _ _ (exec (Stmt.While _ _ _ _) _) _ _ _ | show wpAny _ _ (call (Value.ref _) _) _ _ _ | show wpAny _ _ (exec (Stmt.For _ _ _ _ _) _) _ _ _ | show wpAny _ _ (eval (Expr.ListComp _ _ _ _) _) _ _ _ | show wpAny _ _ (exec (Stmt.Assign _ (Expr.ListComp _ _ _ _) _) _) _ _ _ | show LCt.CompSrcT _ _ _ _ _ _ _ _ _ _ _ _ _ _ _ | show TurnQ _ _ _ _ _ _ _ _ | show wpAny _ _ (subscriptTail _ (PySem.Expr.Slice _ _ _ _) _ _) _ _ _ | show wpAny _ _ (call (Value.builtin "min") _) _ _ _ | show wpAny _ _ (call (Value.builtin "sum") _) _ _ _ | show wpAny _ _ (pyIter _) _ _ _ | show LpEnd _ _ _ _ _ _ _ _ _ _ | show KswEnd _ _ _ _ _ _ _ _ _ _ _ _))); first | walk1 | (dsimp only; walk1))))
        · rename (wd : Int) < _ => hov
          refine turnQ (by k_asm) (by k_asm) (fun p hp => List.mem_cons_of_mem _ hp) ?_
          rw [take_flt hi3, if_pos (by unfold ovT; exact decide_eq_true hov)]
          exact ints_more hY (.cons _ _ .nil)
        · rename ¬ (wd : Int) < _ => hov
          refine turnQ (by k_asm) (by k_asm) (fun p hp => List.mem_cons_of_mem _ hp) ?_
          rw [take_flt hi3, if_neg (by unfold ovT; simpa using hov), List.append_nil]
          exact hY
      case fin3 =>
        intro ys hY D3 h3 tk3 F3 N3 oD
        replace hY : IntsAre ys (ovF sz wd ((sn : Int) + (j : Int)) (en' : Int)) := by
          rw [List.take_of_length_le (by rw [rangeKs_length]; exact Nat.le_refl _)] at hY
          unfold ovF
          rw [show ((sn : Int) + (j : Int) + 1) = ((sn + j + 1 : Nat) : Int) by omega, show ((en' : Int) + 1 - ((sn + j + 1 : Nat) : Int)).toNat = en' + 1 - (sn + j + 1) by omega]
          exact hY
        have hnx := row_next (sz := sz) (wd := wd) (e := (en' : Int)) (a := (sn : Int)) (n := ((en' : Int) - (sn : Int)).toNat) (i := j) (by omega)
        (repeat' (first | (k_unfold; (try dsimp only)) | ((fail_if_success (with_reducible (first | show wpAny _ _ (exec (Stmt.While _ _ _ _) _) _ _ _ | show wpAny _ _ (call (Value.ref _) _) _ _ _ | show wpAny _ _ (exec (Stmt.For _ _ _ _ _) _) _ _ _ | show wpAny _ _ (eval (Expr.ListComp _ _ _ _) _) _ _ _ | show wpAny _ _ (exec (Stmt.Assign _ (Expr.ListComp _ _ _ _) _) _) _ _ _ | show LCt.CompSrcT _ _ _ _ _ _ _ _ _ _ _ _ _ _ _ | show TurnQ _ _ _ _ _ _ _ _ | show wpAny _ _ (subscriptTail _ (PySem.Expr.Slice _ _ _ _) _ _) _ _ _ | show wpAny _ _ (call (Value.builtin "min") _) _ _ _ | show wpAny _ _ (call (Value.builtin "sum") _) _ _ _ | show wpAny _ _ (pyIter _) _ _ _ | show LpEnd _ _ _ _ _ _ _ _ _ _ | show KswEnd _ _ _ _ _ _ _ _ _ _ _ _))); first | walk1 | (dsimp only; walk1))))
        refine wpAny_truthy_list (PySem.IsL.isList (n := ys.length) (News.get N3 (.head _))) (by rw [List.size_toArray, hY.length]; have := ovF_len (sz := sz) (wd := wd) (f := (sn : Int) + (j : Int)) (e := (en' : Int)); omega) ?_
        cases hov : ovF sz wd ((sn : Int) + (j : Int)) (en' : Int) with
        | nil =>
          rw [hov] at hY
          cases hY
          simp only [List.isEmpty_toArray, List.isEmpty_nil, Bool.not_true]
          (repeat' (first | (k_unfold; (try dsimp only)) | ((fail_if_success (with_reducible (first | show wpAny _ _ (exec (Stmt.While _ _ _ _) _) _ _ _ | show wpAny _ _ (call (Value.ref _) _) _ _ _ | show wpAny _ _ (exec (Stmt.For _ _ _ _ _) _) _ _ _ | show wpAny _ _ (eval (Expr.ListComp _ _ _ _) _) _ _ _ | show wpAny _ _ (exec (Stmt.Assign _ (Expr.ListComp _ _ _ _) _) _) _ _ _ | show LCt.CompSrcT _ _ _ _ _ _ _ _ _ _ _ _ _ _ _ | show TurnQ _ _ _ _ _ _ _ _ | show wpAny _ _ (subscriptTail _ (PySem.Expr.Slice _ _ _ _) _ _) _ _ _ | show wpAny _ _ (call (Value.builtin "min") _) _ _ _ | show wpAny _ _ (call (Value.builtin "sum") _) _ _ _ | show wpAny _ _ (pyIter _) _ _ _ | show LpEnd _ _ _ _ _ _ _ _ _ _ | show KswEnd _ _ _ _ _ _ _ _ _ _ _ _))); first | walk1 | (dsimp only; walk1))))
          refine lp_end (o', ws, cw, prs2, tps) rfl (by k_asm) N3 (List.forall_mem_cons.mpr ⟨by k_mem, List.forall_mem_nil _⟩) ?_ (List.forall_mem_cons.mpr ⟨?_, List.forall_mem_nil _⟩) (List.forall_mem_nil _) (by ksw_same) ⟨⟨_, dF⟩, ?_, f4, f5, by dsimp only; omega⟩
          · repeat (refine List.forall_mem_cons.mpr ⟨by k_mem, ?_⟩)
            exact fun p hp => by repeat (first | exact hp | apply List.mem_cons_of_mem)
          · exact List.forall_mem_cons.mpr ⟨off2 (L' + 1 + 1 + 1 + 1, oF) (.head _), fun r hr => off2 r (.tail _ hr)⟩
          · dsimp only
            rw [hnx, f3]
            unfold ovP
            rw [hov, List.append_nil]
        | cons oo orest =>
          rw [hov] at hY
          obtain ⟨to, ys', rfl, hY'⟩ := ints_cons hY
          simp only [List.isEmpty_toArray, List.isEmpty_cons, Bool.not_false]
          (repeat' (first | (k_unfold; (try dsimp only)) | ((fail_if_success (with_reducible (first | show wpAny _ _ (exec (Stmt.While _ _ _ _) _) _ _ _ | show wpAny _ _ (call (Value.ref _) _) _ _ _ | show wpAny _ _ (exec (Stmt.For _ _ _ _ _) _) _ _ _ | show wpAny _ _ (eval (Expr.ListComp _ _ _ _) _) _ _ _ | show wpAny _ _ (exec (Stmt.Assign _ (Expr.ListComp _ _ _ _) _) _) _ _ _ | show LCt.CompSrcT _ _ _ _ _ _ _ _ _ _ _ _ _ _ _ | show TurnQ _ _ _ _ _ _ _ _ | show wpAny _ _ (subscriptTail _ (PySem.Expr.Slice _ _ _ _) _ _) _ _ _ | show wpAny _ _ (call (Value.builtin "min") _) _ _ _ | show wpAny _ _ (call (Value.builtin "sum") _) _ _ _ | show wpAny _ _ (pyIter _) _ _ _ | show LpEnd _ _ _ _ _ _ _ _ _ _ | show KswEnd _ _ _ _ _ _ _ _ _ _ _ _))); first | walk1 | (dsimp only; walk1))))
          rename_i tT DT hT FT NT qT
          have NT1 := news_sub2 NT (l2 := (lS, listOf ws.toArray cw) :: (DT, tup2 oo ((sn : Int) + (j : Int)) tT tj) :: (L' + 1 + 1 + 1 + 1, o') :: (I2, oI2) :: (L' + 1 + 1 + 1, oE') :: (T1, ⟨.type "tuple", dd, .seq #[.int (sn : Int) tx, .int (en' : Int) ty] nn, sl⟩) :: (z, oz') :: (TO, oTO') :: (i1, oi1') :: (i2, oi2') :: (TI, oTI) :: (l1, listOf va.toArray 0) :: (l2, listOf vb.toArray 0) :: (L' + 1 + 1, o3) :: (L' + 1, o4) :: (l, listOf vs.toArray c) :: (lz, listOf zs.toArray cz) :: (tps ++ news)) (by
            repeat (refine List.forall_mem_cons.mpr ⟨by k_mem, ?_⟩)
            exact fun p hp => by repeat (first | exact hp | apply List.mem_cons_of_mem))
          have hnS : NeAll lS (List.map Prod.fst ((L' + 1 + 1 + 1 + 1, o') :: (I2, oI2) :: (L' + 1 + 1 + 1, oE') :: (T1, (⟨.type "tuple", dd, .seq #[.int (sn : Int) tx, .int (en' : Int) ty] nn, sl⟩ : Obj)) :: (z, oz') :: (TO, oTO') :: (i1, oi1') :: (i2, oi2') :: (TI, oTI) :: (l1, listOf va.toArray 0) :: (l2, listOf vb.toArray 0) :: (L' + 1 + 1, o3) :: (L' + 1, o4) :: (l, listOf vs.toArray c) :: (lz, listOf zs.toArray cz) :: (tps ++ news))) := ne_S q1 q8 hord hT2 l1'.1 l1'.2.1 hI2.2 htl
          refine append_K FT NT1 (.head (List.forall_mem_cons.mpr ⟨Nat.ne_of_gt qT.2.2.1, neAll_use hnS⟩)) (fun h10 F10 N10 => ?_) (by rw [List.size_toArray, f4.1, show sizeLine = 16777216 from rfl]; omega)
          have e10 : ws.toArray.push (Value.ref DT) = (ws ++ [Value.ref DT]).toArray := by simp
          rw [e10] at N10
          clear NT NT1
          (repeat' (first | (k_unfold; (try dsimp only)) | ((fail_if_success (with_reducible (first | show wpAny _ _ (exec (Stmt.While _ _ _ _) _) _ _ _ | show wpAny _ _ (call (Value.ref _) _) _ _ _ | show wpAny _ _ (exec (Stmt.For _ _ _ _ _) _) _ _ _ | show wpAny _ _ (eval (Expr.ListComp _ _ _ _) _) _ _ _ | show wpAny _ _ (exec (Stmt.Assign _ (Expr.ListComp _ _ _ _) _) _) _ _ _ | show LCt.CompSrcT _ _ _ _ _ _ _ _ _ _ _ _ _ _ _ | show TurnQ _ _ _ _ _ _ _ _ | show wpAny _ _ (subscriptTail _ (PySem.Expr.Slice _ _ _ _) _ _) _ _ _ | show wpAny _ _ (call (Value.builtin "min") _) _ _ _ | show wpAny _ _ (call (Value.builtin "sum") _) _ _ _ | show wpAny _ _ (pyIter _) _ _ _ | show LpEnd _ _ _ _ _ _ _ _ _ _ | show KswEnd _ _ _ _ _ _ _ _ _ _ _ _))); first | walk1 | (dsimp only; walk1))))
          refine lp_end (o', ws ++ [.ref DT], cw + 1, prs2 ++ [(oo, (sn : Int) + (j : Int))], (DT, tup2 oo ((sn : Int) + (j : Int)) tT tj) :: tps) rfl (by k_asm) N10 (List.forall_mem_cons.mpr ⟨by k_mem, List.forall_mem_nil _⟩) ?_ (List.forall_mem_cons.mpr ⟨?_, List.forall_mem_nil _⟩) (List.forall_mem_nil _) (by ksw_same) ⟨⟨_, dF⟩, ?_, tups_snoc f4, List.forall_mem_cons.mpr ⟨qT.2.2.2.2.2.2.1, f5⟩, by dsimp only; rw [List.length_append, List.length_singleton]; omega⟩
          · repeat (refine List.forall_mem_cons.mpr ⟨by k_mem, ?_⟩)
            exact fun p hp => by repeat (first | exact hp | apply List.mem_cons_of_mem)
          · refine List.forall_mem_cons.mpr ⟨off2 (L' + 1 + 1 + 1 + 1, oF) (.head _), fun r hr => ?_⟩
            simp only [List.mem_cons, List.cons_append] at hr
            rcases hr with rfl | rfl | rfl | rfl | rfl | rfl | rfl | rfl | rfl | rfl | rfl | rfl | rfl | rfl | rfl | hr
            all_goals first | exact Nat.ne_of_gt qT.2.2.2.1 | exact off2 _ (by k_mem) | exact off2 (lS, listOf ws.toArray cw) (by k_mem) | exact off2 r (by repeat (first | exact hr | apply List.mem_cons_of_mem))
          · dsimp only
            rw [hnx, f3]
            unfold ovP
            rw [hov, List.append_assoc]
    case after2 =>
      rintro ⟨oF, ws, cw, prs2, tps⟩ u2 g hh2 tk3 ⟨⟨vF2, f1⟩, f3, f4, f5, f6⟩ hC F7 N7
      subst hC
      dsimp only [kstB, LedB] at f1 f3 f4 f5 f6 F7 N7
      (repeat' (first | (k_unfold; (try dsimp only)) | ((fail_if_success (with_reducible (first | show wpAny _ _ (exec (Stmt.While _ _ _ _) _) _ _ _ | show wpAny _ _ (call (Value.ref _) _) _ _ _ | show wpAny _ _ (exec (Stmt.For _ _ _ _ _) _) _ _ _ | show wpAny _ _ (eval (Expr.ListComp _ _ _ _) _) _ _ _ | show wpAny _ _ (exec (Stmt.Assign _ (Expr.ListComp _ _ _ _) _) _) _ _ _ | show LCt.CompSrcT _ _ _ _ _ _ _ _ _ _ _ _ _ _ _ | show TurnQ _ _ _ _ _ _ _ _ | show wpAny _ _ (subscriptTail _ (PySem.Expr.Slice _ _ _ _) _ _) _ _ _ | show wpAny _ _ (call (Value.builtin "min") _) _ _ _ | show wpAny _ _ (call (Value.builtin "sum") _) _ _ _ | show wpAny _ _ (pyIter _) _ _ _ | show LpEnd _ _ _ _ _ _ _ _ _ _ | show KswEnd _ _ _ _ _ _ _ _ _ _ _ _))); first | walk1 | (dsimp only; walk1))))
      have htl2 : ∀ y : Nat, y ∈ (tps ++ news).map Prod.fst → (z < y ∨ y < L') := tl_ok f5 fun p h => allLt_mem l1'.2.2 p h
      refine lp_end (oF, oE', ws, cw, prs2, tps) rfl (by k_asm) N7 ?own9 ?led9 ?off9 (List.forall_mem_nil _) (by ksw_same) ⟨⟨_, f1⟩, ⟨_, dE⟩, ?eq9, f4, f5, ?len9⟩
      case own9 => exact List.forall_mem_cons.mpr ⟨by k_mem, List.forall_mem_cons.mpr ⟨by k_mem, List.forall_mem_cons.mpr ⟨by k_mem, List.forall_mem_cons.mpr ⟨by k_mem, List.forall_mem_nil _⟩⟩⟩⟩
      case led9 =>
        repeat (refine List.forall_mem_cons.mpr ⟨by k_mem, ?_⟩)
        exact fun p hp => by repeat (first | exact hp | apply List.mem_cons_of_mem)
      case off9 =>
        intro p hp r hr e
        refine off_Z q1 q8 hord l1'.1 l1'.2.1 htl2 r.1 (List.mem_map_of_mem (f := Prod.fst) hr) ?_
        rw [e]
        simp only [List.mem_cons, List.not_mem_nil, or_false] at hp
        rcases hp with rfl | rfl | rfl | rfl
        · exact .head _
        · exact .tail _ (.head _)
        · exact .tail _ (.tail _ (.head _))
        · exact .tail _ (.tail _ (.tail _ (.head _)))
      case eq9 =>
        dsimp only
        rw [f3, List.take_of_length_le (by rw [rangeKs_length]; omega), e3]
        exact hrw.symm
      case len9 => dsimp only; omega
  case after =>
    rintro ⟨oF, oE, ws, cw, prs, tps⟩ u g hh tk ⟨⟨vF, e1⟩, ⟨vE, e2⟩, e3, e4, e5, e6⟩ hC F4 N4
    subst hC
    dsimp only [kstB, LedA] at e1 e2 e3 e4 e5 e6 F4 N4
    replace e3 : prs = strAll xs sz wd := by
      rw [e3, List.take_of_length_le (by unfold rowsZ; rw [List.length_zip, ← ia.length, ← ib.length]; exact Nat.le_refl _)]
      rfl
    subst e3
    have hzS : @LT.lt Nat _ lS z := by
      obtain ⟨g1, g2, g3, g4, g5, g6⟩ := hord
      exact Nat.lt_trans q8 (Nat.lt_trans g1 (Nat.lt_trans g2 (Nat.lt_trans g3 (Nat.lt_trans g4 (Nat.lt_trans g5 g6)))))
    (repeat' (first | (k_unfold; (try dsimp only)) | ((fail_if_success (with_reducible (first | show wpAny _ _ (exec (Stmt.While _ _ _ _) _) _ _ _ | show wpAny _ _ (call (Value.ref _) _) _ _ _ | show wpAny _ _ (exec (Stmt.For _ _ _ _ _) _) _ _ _ | show wpAny _ _ (eval (Expr.ListComp _ _ _ _) _) _ _ _ | show wpAny _ _ (exec (Stmt.Assign _ (Expr.ListComp _ _ _ _) _) _) _ _ _ | show LCt.CompSrcT _ _ _ _ _ _ _ _ _ _ _ _ _ _ _ | show TurnQ _ _ _ _ _ _ _ _ | show wpAny _ _ (subscriptTail _ (PySem.Expr.Slice _ _ _ _) _ _) _ _ _ | show wpAny _ _ (call (Value.builtin "min") _) _ _ _ | show wpAny _ _ (call (Value.builtin "sum") _) _ _ _ | show wpAny _ _ (pyIter _) _ _ _ | show LpEnd _ _ _ _ _ _ _ _ _ _ | show KswEnd _ _ _ _ _ _ _ _ _ _ _ _))); first | walk1 | (dsimp only; walk1))))
    refine hret lS ws cw tps _ _ (by k_asm) (news_sub2 (by assumption) ?_) e4 ⟨q5, q6, q7⟩ fun p hp => Nat.lt_trans hzS (e5 p hp)
    repeat (refine List.forall_mem_cons.mpr ⟨by k_mem, ?_⟩)
    exact fun p hp => by repeat (first | exact hp | apply List.mem_cons_of_mem)
end
end
section
set_option Elab.async false
set_option maxRecDepth 100000
set_option maxHeartbeats 8000000
theorem flt_ints {vs : List Value} {xs : List Int} (hi : IntsAre vs xs) : ∀ idx : List Nat, ∃ ms, IntsAre (idx.filterMap (vs.toArray[·]?)) ms
  | [] => ⟨[], .nil⟩
  | k :: r => by
    obtain ⟨ms, h⟩ := flt_ints hi r
    rw [List.filterMap_cons]
    cases e : vs.toArray[k]? with
    | none => exact ⟨ms, h⟩
    | some v =>
      obtain ⟨t, rfl, _⟩ := ints_at hi e
      exact ⟨_ :: ms, .cons _ t h⟩
theorem pick_ints {vs : List Value} {xs : List Int} (hi : IntsAre vs xs) (lo hi' st : Option Int) : ∃ ms, IntsAre (slicePick vs.toArray lo hi' st).toList ms := by
  obtain ⟨ms, h⟩ := flt_ints hi (sliceRange (sliceBounds lo hi' st vs.toArray.size).1 (sliceBounds lo hi' st vs.toArray.size).2.1 (sliceBounds lo hi' st vs.toArray.size).2.2)
  exact ⟨ms, by unfold slicePick; rw [List.toList_toArray]; exact h⟩
section
variable {w : World} {mean : ExcName → Option Value} {mg mb : Str → Option Value}
    {dp un : Nat} {gd : Option (List Code)} {cn : Str} {cs : Scope} {a : Addr} {ccd : Value} {cl : List (Str × Addr)} {outer : List Env} {A₀ : Around} {base h₀ : Heap} {L : Addr} {m : Str → Option Value} {s : Shared} {Q E : Value → Shared → Prop}
    (B : Below A₀ base outer h₀) (F : Fr h₀ L s.heap m) (X : (Kf w.params).In h₀) (T : Top q (looseW q loose) mean mg mb h₀) (hk : cs.kind = .function)
include B F X T hk
theorem num_spec {l : Addr} {vs : List Value} {xs : List Int} {news : List (Addr × Obj)} (hl : h₀.IsList l vs.toArray) (N : News h₀ L s.heap news) (hd : dp + 1 < recursionLimit) (hu : un + 64 < cLine) (hi : IntsAre vs xs) (hn : xs.length < 1000)
    (hret : ∀ lm ms h' tk', Fr h₀ L h' m → News h₀ L h' ((lm, listOf ms.toArray ms.length) :: news) → (∃ mi, IntsAre ms mi ∧ mi.length = 12) → Q (.ref lm) { s with heap := h', toks := tk' }) :
    wpAny (model PySem.Challenge.rw_op0130_01.prog w) (ktrTop dp un gd cn cs L a ccd cl outer) (call (.ref 105) [.ref l]) Q E s := by
  have hlg := hl
  revert X; k_fill; intro X
  refine wpAny_call ?_
  k_dflt (refine' code_defC (binds := [(Str.ofString "script", .ref l)]) ?k1 ?k2 ?k3 ?k4 ?k5 ?kA ?kF ?kK ?k6 ?k7 ?k8 ?k9 ?kB ?kD ?_ ?c2 ?c3 ?c4; (case kA => exact rfl); (case kF => exact rfl); (case kK => assumption); (case k1 => k_asm); (case k2 => k_asm); (case k3 => k_asm); (case k4 => k_asm); (case k5 => k_asm); (case k6 => k_is); (case k7 => k_is); (case k8 => ktr_room); (case k9 => exact BindsTo.of_eq rfl); (case kB => exact rfl); (case kD => decide +kernel); (case c2 => exact rfl); (case c3 => exact rfl); (case c4 => exact rfl); k_whole; intro g' L' h' tk' cells' FG' F' N' Y' B' X' T' l1'; (try k_lt l1'); (try dsimp only); (try k_fold))
  obtain ⟨o1, o2, hE, d1, d2⟩ := CellsAre.two Y'; subst hE; clear Y'
  replace d1 : o1.data = .cell none := d1
  replace d2 : o2.data = .cell (some (.ref l)) := d2
  simp only [List.cons_append, List.nil_append] at N'
  (repeat' (first | (k_unfold; (try dsimp only)) | ((fail_if_success (with_reducible (first | show wpAny _ _ (exec (Stmt.While _ _ _ _) _) _ _ _ | show wpAny _ _ (call (Value.ref _) _) _ _ _ | show wpAny _ _ (exec (Stmt.For _ _ _ _ _) _) _ _ _ | show wpAny _ _ (eval (Expr.ListComp _ _ _ _) _) _ _ _ | show wpAny _ _ (exec (Stmt.Assign _ (Expr.ListComp _ _ _ _) _) _) _ _ _ | show LCg.CompSrc _ _ _ _ _ _ _ _ _ _ _ _ _ _ | show TurnQ _ _ _ _ _ _ _ _ | show wpAny _ _ (subscriptTail _ _ _ _) _ _ _ | show wpAny _ _ (call (Value.builtin "sum") _) _ _ _))); first | walk1 | (dsimp only; walk1))))
  rename_i lS hS FS NS qS
  have hoff : ∀ p ∈ ((L' + 1, o2) :: news), p.1 ≠ L' + 1 + 1 := List.forall_mem_cons.mpr ⟨Nat.ne_of_lt (Nat.lt_succ_self _), fun p hp => Nat.ne_of_lt (Nat.lt_succ_of_lt (Nat.lt_succ_of_lt (l1' p hp)))⟩
  refine storeX_C FS NS rfl (.tail (Nat.ne_of_gt ?hq) (.head hoff)) d1 ?_ rfl rfl
  · exact qS.1
  intro h2 oS F2 N2 dS
  (repeat' (first | (k_unfold; (try dsimp only)) | ((fail_if_success (with_reducible (first | show wpAny _ _ (exec (Stmt.While _ _ _ _) _) _ _ _ | show wpAny _ _ (call (Value.ref _) _) _ _ _ | show wpAny _ _ (exec (Stmt.For _ _ _ _ _) _) _ _ _ | show wpAny _ _ (eval (Expr.ListComp _ _ _ _) _) _ _ _ | show wpAny _ _ (exec (Stmt.Assign _ (Expr.ListComp _ _ _ _) _) _) _ _ _ | show LCg.CompSrc _ _ _ _ _ _ _ _ _ _ _ _ _ _ | show TurnQ _ _ _ _ _ _ _ _ | show wpAny _ _ (subscriptTail _ _ _ _) _ _ _ | show wpAny _ _ (call (Value.builtin "sum") _) _ _ _))); first | walk1 | (dsimp only; walk1))))
  k_dflt (refine LCg.ListComp_U (F₀ := by k_asm) (by with_unfolding_all rfl) (by decide) (by rfl) (by decide) (by rfl) ?_)
  (repeat' (first | (k_unfold; (try dsimp only)) | ((fail_if_success (with_reducible (first | show wpAny _ _ (exec (Stmt.While _ _ _ _) _) _ _ _ | show wpAny _ _ (call (Value.ref _) _) _ _ _ | show wpAny _ _ (exec (Stmt.For _ _ _ _ _) _) _ _ _ | show wpAny _ _ (eval (Expr.ListComp _ _ _ _) _) _ _ _ | show wpAny _ _ (exec (Stmt.Assign _ (Expr.ListComp _ _ _ _) _) _) _ _ _ | show LCg.CompSrc _ _ _ _ _ _ _ _ _ _ _ _ _ _ | show TurnQ _ _ _ _ _ _ _ _ | show wpAny _ _ (subscriptTail _ _ _ _) _ _ _ | show wpAny _ _ (call (Value.builtin "sum") _) _ _ _))); first | walk1 | (dsimp only; walk1))))
  rename IsRange _ _ _ _ _ _ _ _ => hr
  refine LCg.CompSrc.range (n := 12) rfl (by k_asm) (by k_asm) hr (by decide) (by decide) (by rw [show sizeLine = 16777216 from rfl]; omega) fun gg => ?_
  refine comp_ind (fun i zs => ∃ mi, IntsAre zs mi ∧ mi.length = i) trivial 12 ?fin ?turn _ 0 [] (Nat.zero_add _) ⟨[], .nil, rfl⟩
  case turn =>
    rintro i zs v I oI C oC D m2 hh tkk E' hi2 ⟨mi, hY1, hY2⟩ hv hC hm hF hN off ne
    obtain ⟨tv, rfl⟩ := hv
    (repeat' (first | (k_unfold; (try dsimp only)) | ((fail_if_success (with_reducible (first | show wpAny _ _ (exec (Stmt.While _ _ _ _) _) _ _ _ | show wpAny _ _ (call (Value.ref _) _) _ _ _ | show wpAny _ _ (exec (Stmt.For _ _ _ _ _) _) _ _ _ | show wpAny _ _ (eval (Expr.ListComp _ _ _ _) _) _ _ _ | show wpAny _ _ (exec (Stmt.Assign _ (Expr.ListComp _ _ _ _) _) _) _ _ _ | show LCg.CompSrc _ _ _ _ _ _ _ _ _ _ _ _ _ _ | show TurnQ _ _ _ _ _ _ _ _ | show wpAny _ _ (subscriptTail _ _ _ _) _ _ _ | show wpAny _ _ (call (Value.builtin "sum") _) _ _ _))); first | walk1 | (dsimp only; walk1))))
    refine' ksa_sub (ns := [0, 378, 385, 3, 392, 645, 5, 408, 778, 415, 4, 422]) hN ?hm (.cons _ _ (.cons _ _ (.cons _ _ (.cons _ _ (.cons _ _ (.cons _ _ (.cons _ _ (.cons _ _ (.cons _ _ (.cons _ _ (.cons _ _ (.cons _ _ .nil)))))))))))) (by omega) (by simp only [List.length_cons, List.length_nil]; omega) (by omega) fun tx => ?_
    case hm => k_mem
    (repeat' (first | (k_unfold; (try dsimp only)) | ((fail_if_success (with_reducible (first | show wpAny _ _ (exec (Stmt.While _ _ _ _) _) _ _ _ | show wpAny _ _ (call (Value.ref _) _) _ _ _ | show wpAny _ _ (exec (Stmt.For _ _ _ _ _) _) _ _ _ | show wpAny _ _ (eval (Expr.ListComp _ _ _ _) _) _ _ _ | show wpAny _ _ (exec (Stmt.Assign _ (Expr.ListComp _ _ _ _) _) _) _ _ _ | show LCg.CompSrc _ _ _ _ _ _ _ _ _ _ _ _ _ _ | show TurnQ _ _ _ _ _ _ _ _ | show wpAny _ _ (subscriptTail _ _ _ _) _ _ _ | show wpAny _ _ (call (Value.builtin "sum") _) _ _ _))); first | walk1 | (dsimp only; walk1))))
    have hlh : hh.IsList l vs.toArray := (hlg.at fun o e => FG'.keep _ _ e).at fun o e => hF.keep _ _ e
    refine slice_list3 hF hN hlh (IsPart.int _ _) IsPart.none (IsPart.int _ _) (by decide) (fun h5 F5 N5 => ?_) (by with_unfolding_all rfl) (by intro _; with_unfolding_all rfl) (by rw [List.size_toArray, hi.length, show sizeLine = 16777216 from rfl]; omega)
    obtain ⟨ms, hms⟩ := pick_ints hi (some ((0 : Int) + (i : Int))) none (some 12)
    (repeat' (first | (k_unfold; (try dsimp only)) | ((fail_if_success (with_reducible (first | show wpAny _ _ (exec (Stmt.While _ _ _ _) _) _ _ _ | show wpAny _ _ (call (Value.ref _) _) _ _ _ | show wpAny _ _ (exec (Stmt.For _ _ _ _ _) _) _ _ _ | show wpAny _ _ (eval (Expr.ListComp _ _ _ _) _) _ _ _ | show wpAny _ _ (exec (Stmt.Assign _ (Expr.ListComp _ _ _ _) _) _) _ _ _ | show LCg.CompSrc _ _ _ _ _ _ _ _ _ _ _ _ _ _ | show TurnQ _ _ _ _ _ _ _ _ | show wpAny _ _ (subscriptTail _ _ _ _) _ _ _ | show wpAny _ _ (call (Value.builtin "sum") _) _ _ _))); first | walk1 | (dsimp only; walk1))))
    refine sumK (vs := (slicePick vs.toArray (some ((0 : Int) + (i : Int))) none (some 12)).toList) rfl (by k_asm) (by k_asm) (PySem.IsL.isList (News.get N5 (.head _))) hms ?_
    intro h6 tk6 t6 F6 N6
    (repeat' (first | (k_unfold; (try dsimp only)) | ((fail_if_success (with_reducible (first | show wpAny _ _ (exec (Stmt.While _ _ _ _) _) _ _ _ | show wpAny _ _ (call (Value.ref _) _) _ _ _ | show wpAny _ _ (exec (Stmt.For _ _ _ _ _) _) _ _ _ | show wpAny _ _ (eval (Expr.ListComp _ _ _ _) _) _ _ _ | show wpAny _ _ (exec (Stmt.Assign _ (Expr.ListComp _ _ _ _) _) _) _ _ _ | show LCg.CompSrc _ _ _ _ _ _ _ _ _ _ _ _ _ _ | show TurnQ _ _ _ _ _ _ _ _ | show wpAny _ _ (subscriptTail _ _ _ _) _ _ _ | show wpAny _ _ (call (Value.builtin "sum") _) _ _ _))); first | walk1 | (dsimp only; walk1))))
    refine turnQ (by k_asm) (by k_asm) (fun p hp => List.mem_cons_of_mem _ hp) ⟨mi ++ [_], ints_more hY1 (.cons _ _ .nil), by simp [hY2]⟩
  case fin =>
    rintro zs ⟨mi, hY1, hY2⟩ D3 h3 tk3 F3 N3 o3
    replace N3 : News g' L' h3 ((D3, listOf zs.toArray zs.length) :: _) := N3
    (repeat' (first | (k_unfold; (try dsimp only)) | ((fail_if_success (with_reducible (first | show wpAny _ _ (exec (Stmt.While _ _ _ _) _) _ _ _ | show wpAny _ _ (call (Value.ref _) _) _ _ _ | show wpAny _ _ (exec (Stmt.For _ _ _ _ _) _) _ _ _ | show wpAny _ _ (eval (Expr.ListComp _ _ _ _) _) _ _ _ | show wpAny _ _ (exec (Stmt.Assign _ (Expr.ListComp _ _ _ _) _) _) _ _ _ | show LCg.CompSrc _ _ _ _ _ _ _ _ _ _ _ _ _ _ | show TurnQ _ _ _ _ _ _ _ _ | show wpAny _ _ (subscriptTail _ _ _ _) _ _ _ | show wpAny _ _ (call (Value.builtin "sum") _) _ _ _))); first | walk1 | (dsimp only; walk1))))
    refine hret D3 zs _ _ (by k_asm) (List.forall_mem_cons.mpr ⟨(by assumption : News _ _ _ _) _ (.head _), fun p hp => (by assumption : News _ _ _ _) p (.tail _ (.tail _ (.tail _ (.tail _ hp))))⟩) ⟨mi, hY1, hY2⟩
end
end
section
set_option Elab.async false
set_option maxRecDepth 100000
set_option maxHeartbeats 1000000
noncomputable def enc (R : List Nat) : List Nat := (R.map encL).flatten
theorem enc_cons (o : Nat) (R : List Nat) : enc (o :: R) = encL o ++ enc R := rfl
theorem enc_app (A B : List Nat) : enc (A ++ B) = enc A ++ enc B := by simp [enc]
/-- an octet of a row -/
noncomputable def Ro (o : Nat) : Prop := 33 ≤ o ∧ o ≤ 255
theorem hx_rng {n : Nat} (h : n < 16) : (48 ≤ hx n ∧ hx n ≤ 57) ∨ (65 ≤ hx n ∧ hx n ≤ 70) := by unfold hx; split <;> omega
theorem encL_cases {o : Nat} (h : Ro o) : (encL o = [o] ∧ o ≠ 61 ∧ 33 ≤ o ∧ o ≤ 126) ∨ ∃ a b, encL o = [61, a, b] ∧ a ∈ hexL ∧ b ∈ hexL ∧ 16 * hv a + hv b = o ∧ 48 ≤ a ∧ 48 ≤ b ∧ a ≤ 70 ∧ b ≤ 70 ∧ a ≠ 61 ∧ b ≠ 61 := by
  obtain ⟨h1, h2⟩ := h
  by_cases hc : o = 61 ∨ 126 < o
  · right
    refine ⟨hx (o / 16), hx (o % 16), by unfold encL; rw [if_pos hc], ?_⟩
    have key : ∀ n : Fin 256, (hx (n.val / 16) ∈ hexL ∧ hx (n.val % 16) ∈ hexL ∧ 16 * hv (hx (n.val / 16)) + hv (hx (n.val % 16)) = n.val) := by decide +kernel
    obtain ⟨k1, k2, k3⟩ := key ⟨o, by omega⟩
    have r1 := hx_rng (n := o / 16) (by omega)
    have r2 := hx_rng (n := o % 16) (by omega)
    exact ⟨k1, k2, k3, by omega, by omega, by omega, by omega, by omega, by omega⟩
  · left
    exact ⟨by unfold encL; rw [if_neg hc], by omega, h1, by omega⟩
theorem encL_len {o : Nat} (h : Ro o) : (encL o).length = 1 ∨ (encL o).length = 3 := by
  rcases encL_cases h with ⟨e, _⟩ | ⟨a, b, e, _⟩ <;> rw [e] <;> simp
theorem encL_pos {o : Nat} (h : Ro o) : 1 ≤ (encL o).length ∧ (encL o).length ≤ 3 := by rcases encL_len h with e | e <;> omega
theorem enc_ge : ∀ {R : List Nat}, (∀ o ∈ R, Ro o) → R.length ≤ (enc R).length
  | [], _ => by simp [enc]
  | o :: R, h => by
    have := encL_pos (h o (.head _))
    have := enc_ge (R := R) fun x hx => h x (.tail _ hx)
    rw [enc_cons, List.length_append, List.length_cons]; omega
/-- a = has two signs behind it -/
theorem esc_room : ∀ {R : List Nat} (_ : ∀ o ∈ R, Ro o) (i : Nat), i < (enc R).length → (enc R).getD i 0 = 61 → i + 2 < (enc R).length
  | [], _, i, h, _ => by simp [enc] at h
  | o :: R, h, i, hi, he => by
    have ih := esc_room (R := R) fun x hx => h x (.tail _ hx)
    rw [enc_cons] at hi he ⊢
    rw [List.length_append] at hi ⊢
    rw [List.getD_eq_getElem?_getD] at he
    by_cases hl : i < (encL o).length
    · rw [List.getElem?_append_left hl] at he
      rcases encL_cases (h o (.head _)) with ⟨e, e1, _⟩ | ⟨a, b, e, _, _, _, _, _, _, _, e2, e3⟩
      · rw [e] at he hl ⊢
        obtain rfl : i = 0 := by simpa using hl
        simp at he; exact absurd he e1
      · rw [e] at he hl ⊢
        simp only [List.length_cons, List.length_nil] at hl ⊢
        obtain rfl | rfl | rfl : i = 0 ∨ i = 1 ∨ i = 2 := by omega
        · omega
        · simp at he; exact absurd he e2
        · simp at he; exact absurd he e3
    · rw [List.getElem?_append_right (by omega), ← List.getD_eq_getElem?_getD] at he
      have := ih (i - (encL o).length) (by omega) he
      omega
noncomputable def fit : Nat → List Nat → Nat
  | _, [] => 0
  | c, o :: r => if (encL o).length ≤ c then fit (c - (encL o).length) r + 1 else 0
theorem fit_le : ∀ (c : Nat) (R : List Nat), fit c R ≤ R.length ∧ (enc (R.take (fit c R))).length ≤ c
  | _, [] => by simp [fit, enc]
  | c, o :: r => by
    rw [fit]
    split
    · have := fit_le (c - (encL o).length) r
      rw [List.take_succ_cons, enc_cons, List.length_append, List.length_cons]; omega
    · simp [enc]
theorem fit_next : ∀ {c : Nat} {R : List Nat}, c < (enc R).length → fit c R < R.length ∧ c < (enc (R.take (fit c R + 1))).length
  | c, [], h => by simp [enc] at h
  | c, o :: r, h => by
    rw [enc_cons, List.length_append] at h
    rw [fit]
    split
    · have := fit_next (c := c - (encL o).length) (R := r) (by omega)
      rw [List.take_succ_cons, enc_cons, List.length_append, List.length_cons]; omega
    · rw [Nat.zero_add, List.take_succ_cons, enc_cons, List.length_append, List.length_cons]; omega
noncomputable def chunks (w : Nat) : Nat → List Nat → List (List Nat)
  | 0, R => [R]
  | f + 1, R => if w < (enc R).length then R.take (fit (w - 1) R) :: chunks w f (R.drop (fit (w - 1) R)) else [R]
noncomputable def pieces : List (List Nat) → List (List Nat)
  | [] => []
  | [C] => [enc C]
  | C :: r => (enc C ++ [61]) :: pieces r
theorem chunks_ne (w f : Nat) (R : List Nat) : ∃ C r, chunks w f R = C :: r := by
  cases f with
  | zero => exact ⟨_, _, rfl⟩
  | succ f => rw [chunks]; split <;> exact ⟨_, _, rfl⟩
theorem pieces_more (C : List Nat) {r : List (List Nat)} (h : ∃ D q, r = D :: q) : pieces (C :: r) = (enc C ++ [61]) :: pieces r := by
  obtain ⟨D, q, rfl⟩ := h; rfl
theorem getD_app_l {A B : List Nat} {i : Nat} (h : i < A.length) : (A ++ B).getD i 0 = A.getD i 0 := by
  rw [List.getD_eq_getElem?_getD, List.getElem?_append_left h, ← List.getD_eq_getElem?_getD]
theorem getD_app_r {A B : List Nat} {i : Nat} (h : A.length ≤ i) : (A ++ B).getD i 0 = B.getD (i - A.length) 0 := by
  rw [List.getD_eq_getElem?_getD, List.getElem?_append_right h, ← List.getD_eq_getElem?_getD]
theorem pcs_chunks {w : Nat} (hw : 4 ≤ w) : ∀ (f : Nat) (R : List Nat), (∀ o ∈ R, Ro o) → pcsL w f (enc R) = pieces (chunks w f R)
  | 0, R, _ => rfl
  | f + 1, R, h => by
    rw [pcsL, chunks]
    by_cases hl : w < (enc R).length
    · rw [if_pos hl, if_pos hl, pieces_more _ (chunks_ne w f _)]
      obtain ⟨hk, hk2⟩ := fit_next (c := w - 1) (R := R) (by omega)
      obtain ⟨-, hk3⟩ := fit_le (w - 1) R
      generalize fit (w - 1) R = k at *
      have hA : ∀ o ∈ R.take k, Ro o := fun o ho => h o (List.mem_of_mem_take ho)
      have hB : ∀ o ∈ R.drop k, Ro o := fun o ho => h o (List.mem_of_mem_drop ho)
      rw [← pcs_chunks hw f _ hB]
      have hR : enc R = enc (R.take k) ++ enc (R.drop k) := by rw [← enc_app, List.take_append_drop]
      have hd : R.drop k = R.getD k 0 :: R.drop (k + 1) := by rw [List.drop_eq_getElem_cons hk, List.getD_eq_getElem?_getD, List.getElem?_eq_getElem hk]; rfl
      have ho : Ro (R.getD k 0) := hB _ (by rw [hd]; exact .head _)
      have ht : enc (R.take (k + 1)) = enc (R.take k) ++ encL (R.getD k 0) := by
        rw [List.take_add_one, List.getElem?_eq_getElem hk, enc_app, List.getD_eq_getElem?_getD, List.getElem?_eq_getElem hk]
        simp [enc]
      rw [ht, List.length_append] at hk2
      have room := esc_room hA
      rw [hR]
      generalize hAe : enc (R.take k) = A at *
      have hde : enc (R.drop k) = encL (R.getD k 0) ++ enc (R.drop (k + 1)) := by rw [hd, enc_cons]
      have cut : ∀ {B : List Nat}, (A ++ B).take A.length = A ∧ (A ++ B).drop A.length = B := by simp
      have third : A.length = w - 1 → (if (A ++ enc (R.drop k)).getD (w - 3) 0 = 61 then (A ++ enc (R.drop k)).take (w - 2) :: pcsL w f ((A ++ enc (R.drop k)).drop (w - 3)) else if (A ++ enc (R.drop k)).getD (w - 2) 0 = 61 then (A ++ enc (R.drop k)).take (w - 1) :: pcsL w f ((A ++ enc (R.drop k)).drop (w - 2)) else ((A ++ enc (R.drop k)).take (w - 1) ++ [61]) :: pcsL w f ((A ++ enc (R.drop k)).drop (w - 1))) = (A ++ [61]) :: pcsL w f (enc (R.drop k)) := fun e => by
        rw [getD_app_l (by omega), getD_app_l (by omega), if_neg (fun z => by have := room (w - 3) (by omega) z; omega), if_neg (fun z => by have := room (w - 2) (by omega) z; omega), ← e, cut.1, cut.2]
      rcases encL_cases ho with ⟨e, e1, _⟩ | ⟨a, b, e, _⟩
      · rw [e, List.length_singleton] at hk2
        exact third (by omega)
      · rw [e] at hk2 hde
        simp only [List.length_cons, List.length_nil] at hk2
        have h61 : (A ++ enc (R.drop k)).getD A.length 0 = 61 := by rw [getD_app_r (Nat.le_refl _), Nat.sub_self, hde]; rfl
        have tk1 : (A ++ enc (R.drop k)).take (A.length + 1) = A ++ [61] := by rw [hde, List.take_append, List.take_of_length_le (by omega), show A.length + 1 - A.length = 1 by omega]; rfl
        rcases (show A.length = w - 1 ∨ A.length = w - 2 ∨ A.length = w - 3 by omega) with q | q | q
        · exact third q
        · rw [getD_app_l (i := w - 3) (by omega), if_neg (fun z => by have := room (w - 3) (by omega) z; omega), ← q, if_pos h61, cut.2, show w - 1 = A.length + 1 by omega, tk1]
        · rw [← q, if_pos h61, cut.2, show w - 2 = A.length + 1 by omega, tk1]
    · rw [if_neg hl, if_neg hl]; rfl
end
section
set_option Elab.async false
set_option maxRecDepth 100000
set_option maxHeartbeats 1000000
noncomputable def Oc (o : Nat) : Prop := o = 10 ∨ Ro o
theorem char_all : ∀ c : Fin 127, 33 ≤ c.val → Unicode.isLineBreak c.val = false ∧ Unicode.isSpace c.val = false := by decide +kernel
theorem char_ok {c : Nat} (h1 : 33 ≤ c) (h2 : c ≤ 126) : Unicode.isLineBreak c = false ∧ Unicode.isSpace c = false := char_all ⟨c, by omega⟩ h1
theorem encL_chars {o : Nat} (h : Ro o) : ∀ c ∈ encL o, 33 ≤ c ∧ c ≤ 126 := by
  rcases encL_cases h with ⟨e, _, h1, h2⟩ | ⟨a, b, e, _, _, _, h1, h2, h3, h4, _⟩
  · rw [e]; intro c hc; rw [List.mem_singleton.mp hc]; exact ⟨h1, h2⟩
  · rw [e]
    intro c hc
    simp only [List.mem_cons, List.not_mem_nil, or_false] at hc
    rcases hc with rfl | rfl | rfl <;> omega
theorem enc_chars {R : List Nat} (h : ∀ o ∈ R, Ro o) : ∀ c ∈ enc R, 33 ≤ c ∧ c ≤ 126 := by
  intro c hc
  unfold enc at hc
  obtain ⟨l, hl, hc⟩ := List.mem_flatten.mp hc
  obtain ⟨o, ho, rfl⟩ := List.mem_map.mp hl
  exact encL_chars (h o ho) c hc
theorem lines_pre : ∀ (p t : List Nat), (∀ c ∈ p, Unicode.isLineBreak c = false) → linesG false (p ++ t) = preL p (linesG false t)
  | [], t, _ => rfl
  | c :: p, t, h => by
    show linesG false (c :: (p ++ t)) = _
    rw [linesG, if_neg (by rw [h c (.head _)]; decide), lines_pre p t fun x hx => h x (.tail _ hx)]
    cases e : linesG false t with
    | nil => cases p with
      | nil => simp [preL]
      | cons a p => simp [preL]
    | cons q qs => cases p with
      | nil => simp [preL]
      | cons a p => simp [preL]
noncomputable def rowsN : List Nat → List (List Nat)
  | [] => [[]]
  | o :: r => if o = 10 then [] :: rowsN r else match rowsN r with
    | p :: ps => (o :: p) :: ps
    | [] => [[o]]
noncomputable def endNL : List Nat → Bool
  | [] => true
  | o :: r => if r = [] then o == 10 else endNL r
theorem rowsN_ne (l : List Nat) : ∃ p ps, rowsN l = p :: ps := by
  cases l with
  | nil => exact ⟨_, _, rfl⟩
  | cons o r =>
    rw [rowsN]; split
    · exact ⟨_, _, rfl⟩
    · split <;> exact ⟨_, _, rfl⟩
theorem encN_row {o : Nat} (h : o ≠ 10) : encN o = encL o := by unfold encN; rw [if_neg h]
theorem encT_cons (o : Nat) (r : List Nat) : encT (o :: r) = encN o ++ encT r := rfl
theorem rowsN_ok {l : List Nat} (h : ∀ o ∈ l, Oc o) : ∀ R ∈ rowsN l, ∀ o ∈ R, Ro o := by
  induction l with
  | nil => intro R hR; simp [rowsN] at hR; subst hR; intro o ho; cases ho
  | cons o r ih =>
    have ih := ih fun x hx => h x (.tail _ hx)
    obtain ⟨p, ps, e⟩ := rowsN_ne r
    rw [rowsN, e]
    rw [e] at ih
    split
    · intro R hR
      rcases List.mem_cons.mp hR with rfl | hR
      · intro o ho; cases ho
      · exact ih R hR
    · rename_i ho
      intro R hR
      rcases List.mem_cons.mp hR with rfl | hR
      · intro x hx
        rcases List.mem_cons.mp hx with rfl | hx
        · exact (h _ (.head _)).resolve_left ho
        · exact ih p (.head _) x hx
      · exact ih R (.tail _ hR)
theorem rowsN_lines {l : List Nat} (h : ∀ o ∈ l, Oc o) : linesG false (encT l) ++ (if endNL l then [[]] else []) = (rowsN l).map enc := by
  induction l with
  | nil => rfl
  | cons o r ih =>
    have ih := ih fun x hx => h x (.tail _ hx)
    have he : endNL (o :: r) = if r = [] then o == 10 else endNL r := rfl
    rw [encT_cons, rowsN]
    by_cases ho : o = 10
    · subst ho
      rw [if_pos rfl]
      have e1 : endNL (10 :: r) = endNL r := by rw [he]; split <;> simp_all [endNL]
      rw [e1]
      show linesG false (10 :: encT r) ++ _ = _
      have hb : Unicode.isLineBreak 10 = true := by decide +kernel
      rw [linesG, if_pos hb, List.map_cons, ← ih]
      rfl
    · rw [if_neg ho, encN_row ho]
      have hr := (h o (.head _)).resolve_left ho
      have hp := encL_pos hr
      rw [lines_pre _ _ fun c hc => (char_ok (encL_chars hr c hc).1 (encL_chars hr c hc).2).1]
      obtain ⟨p, ps, e⟩ := rowsN_ne r
      rw [e] at ih ⊢
      have hne : encL o ≠ [] := by intro z; rw [z] at hp; simp at hp
      by_cases hr0 : r = []
      · subst hr0
        simp [rowsN] at e
        obtain ⟨rfl, rfl⟩ := e
        rw [he, if_pos rfl]
        have : (o == 10) = false := by simpa using ho
        rw [this]
        simp [preL, hne, encT, linesG, enc]
      · rw [he, if_neg hr0]
        cases eL : linesG false (encT r) with
        | nil =>
          exfalso
          cases r with
          | nil => exact hr0 rfl
          | cons x y =>
            have h5 := encT_pos (octs := x :: y) (by simp)
            have h6 := lines_wt false (encT (x :: y))
            cases ee : encT (x :: y) with
            | nil => rw [ee] at h5; simp at h5
            | cons c d =>
              rw [ee, linesG] at eL
              split at eL
              · cases eL
              · split at eL <;> cases eL
        | cons q qs =>
          rw [eL] at ih
          simp only [List.cons_append, List.map_cons, List.cons.injEq] at ih
          obtain ⟨i1, i2⟩ := ih
          simp only [preL, hne, if_false, List.cons_append, List.map_cons, List.cons.injEq]
          exact ⟨by rw [i1, enc_cons], i2⟩
theorem last_app {A B : List Nat} (h : B ≠ []) : (A ++ B).getD ((A ++ B).length - 1) 0 = B.getD (B.length - 1) 0 := by
  have : 0 < B.length := List.length_pos_iff.mpr h
  rw [List.length_append, getD_app_r (by omega), show A.length + B.length - 1 - A.length = B.length - 1 by omega]
theorem last_mem {B : List Nat} (h : B ≠ []) : B.getD (B.length - 1) 0 ∈ B := by
  have : 0 < B.length := List.length_pos_iff.mpr h
  rw [List.getD_eq_getElem?_getD, List.getElem?_eq_getElem (by omega)]; exact List.getElem_mem _
theorem endNL_iff {l : List Nat} (h : ∀ o ∈ l, Oc o) (hl : l ≠ []) : (encT l).getD ((encT l).length - 1) 0 ∈ [13, 10] ↔ endNL l = true := by
  induction l with
  | nil => exact absurd rfl hl
  | cons o r ih =>
    have ih := ih fun x hx => h x (.tail _ hx)
    have he : endNL (o :: r) = if r = [] then o == 10 else endNL r := rfl
    rw [encT_cons, he]
    by_cases hr : r = []
    · subst hr
      rw [if_pos rfl]
      show (encN o ++ []).getD ((encN o ++ []).length - 1) 0 ∈ [13, 10] ↔ _
      rw [List.append_nil]
      by_cases ho : o = 10
      · subst ho; simp [encN]
      · rw [encN_row ho]
        have hr := (h o (.head _)).resolve_left ho
        have hp := encL_pos hr
        have hne : encL o ≠ [] := by intro z; rw [z] at hp; simp at hp
        have := encL_chars hr _ (last_mem hne)
        constructor
        · intro hm; simp only [List.mem_cons, List.not_mem_nil, or_false] at hm; omega
        · intro hm; exact absurd (by simpa using hm) ho
    · have h5 : encT r ≠ [] := by
        have := encT_pos (octs := r) (List.length_pos_iff.mpr hr)
        intro z; rw [z] at this; simp at this
      rw [if_neg hr, last_app h5]
      exact ih hr
noncomputable def itemsOf : List (List Nat) → List (List Nat × Bool)
  | [] => []
  | [C] => [(C, false)]
  | C :: r => (C, true) :: itemsOf r
noncomputable def pieceOf (p : List Nat × Bool) : List Nat := enc p.1 ++ if p.2 then [61] else []
theorem pieces_items : ∀ cs : List (List Nat), pieces cs = (itemsOf cs).map pieceOf
  | [] => rfl
  | [C] => by simp [pieces, itemsOf, pieceOf]
  | C :: D :: r => by
    rw [pieces_more C ⟨D, r, rfl⟩, pieces_items (D :: r)]
    simp [itemsOf, pieceOf]
noncomputable def items (w : Nat) (l : List Nat) : List (List Nat × Bool) := ((rowsN l).map fun R => itemsOf (chunks w (enc R).length R)).flatten
theorem encPcs_items {w : Nat} (hw : 4 ≤ w) {l : List Nat} (h : ∀ o ∈ l, Oc o) (hl : l ≠ []) : encPcs w l = (items w l).map pieceOf := by
  have e1 : ((rowsN l).map fun R => pcsL w (enc R).length (enc R)).flatten = (items w l).map pieceOf := by
    unfold items
    rw [List.map_flatten, List.map_map]
    congr 1
    apply List.map_congr_left
    intro R hR
    rw [pcs_chunks hw _ R (rowsN_ok h R hR), pieces_items]; rfl
  rw [← e1]
  have e2 := congrArg (fun ls => (ls.map fun y => pcsL w y.length y).flatten) (rowsN_lines h)
  rw [List.map_map, List.map_append, List.flatten_append] at e2
  show ((linesG false (encT l)).map fun y => pcsL w y.length y).flatten ++ (if (encT l).getD ((encT l).length - 1) 0 ∈ [13, 10] then [[]] else []) = _
  refine Eq.trans ?_ e2
  congr 1
  by_cases hn : endNL l = true
  · rw [if_pos ((endNL_iff h hl).mpr hn), if_pos hn]; rfl
  · rw [if_neg (fun z => hn ((endNL_iff h hl).mp z)), if_neg hn]; rfl
end
section
set_option Elab.async false
set_option maxRecDepth 100000
set_option maxHeartbeats 1000000
noncomputable def Gd : List (List Nat × Bool) → Prop
  | [] => False
  | [(C, s)] => s = false ∧ ∀ o ∈ C, Ro o
  | (C, s) :: r => (∀ o ∈ C, Ro o) ∧ (s = true → C ≠ []) ∧ Gd r
noncomputable def bod (mk : List Nat) : List (List Nat × Bool) → List Nat
  | [] => []
  | [x] => pieceOf x
  | x :: r => pieceOf x ++ (mk ++ bod mk r)
noncomputable def txt : List (List Nat × Bool) → List Nat
  | [] => []
  | [(C, _)] => C
  | (C, s) :: r => C ++ ((if s then [] else [10]) ++ txt r)
noncomputable def sgn (mk : List Nat) : List (List Nat × Bool) → List Nat
  | [] => []
  | [(C, _)] => enc C
  | (C, s) :: r => enc C ++ ((if s then [] else mk) ++ sgn mk r)
noncomputable def Mk (mk : List Nat) : Prop := mk = [10] ∨ mk = [13, 10]
theorem gd_more {C : List Nat} {s : Bool} {y : List Nat × Bool} {r : List (List Nat × Bool)} : Gd ((C, s) :: y :: r) ↔ (∀ o ∈ C, Ro o) ∧ (s = true → C ≠ []) ∧ Gd (y :: r) := Iff.rfl
theorem bod_inter (mk : List Nat) : ∀ it, List.intercalate mk (it.map pieceOf) = bod mk it
  | [] => rfl
  | [x] => by simp [List.intercalate, bod]
  | x :: y :: r => by
    have ih := bod_inter mk (y :: r)
    show _ = pieceOf x ++ (mk ++ bod mk (y :: r))
    rw [← ih]
    simp [List.intercalate]
theorem piece_chars {C : List Nat} {s : Bool} (h : ∀ o ∈ C, Ro o) : ∀ c ∈ pieceOf (C, s), 33 ≤ c ∧ c ≤ 126 := by
  intro c hc
  unfold pieceOf at hc
  rcases List.mem_append.mp hc with hc | hc
  · exact enc_chars h c hc
  · cases s with
    | false => cases hc
    | true => rw [List.mem_singleton.mp hc]; omega
-- P1
theorem sp_pre {b : Nat} {m t : List Nat} : ∀ p : List Nat, b ∉ p → splitG (b :: m) 0 (p ++ (b :: m ++ t)) = p :: splitG (b :: m) 0 t
  | [], _ => by
    show splitG (b :: m) 0 (b :: (m ++ t)) = _
    rw [splitG, if_pos (by rw [List.isPrefixOf_iff_prefix]; exact ⟨t, rfl⟩), splitG_skip]
    simp
  | c :: p, h => by
    show splitG (b :: m) 0 (c :: (p ++ (b :: m ++ t))) = _
    have hc : b ≠ c := fun e => h (e ▸ .head _)
    rw [splitG, if_neg (by simp [List.isPrefixOf, hc]), sp_pre p fun z => h (.tail _ z)]
theorem sp_one {b : Nat} {m : List Nat} : ∀ p : List Nat, b ∉ p → splitG (b :: m) 0 p = [p]
  | [], _ => rfl
  | c :: p, h => by
    have hc : b ≠ c := fun e => h (e ▸ .head _)
    rw [splitG, if_neg (by simp [List.isPrefixOf, hc]), sp_one p fun z => h (.tail _ z)]
theorem mk_cases {mk : List Nat} (h : Mk mk) : ∃ b m, mk = b :: m ∧ (b = 10 ∨ b = 13) := by
  rcases h with rfl | rfl
  · exact ⟨_, _, rfl, .inl rfl⟩
  · exact ⟨_, _, rfl, .inr rfl⟩
theorem bod_split {mk : List Nat} (hm : Mk mk) : ∀ it, Gd it → splitG mk 0 (bod mk it) = it.map pieceOf
  | [], h => h.elim
  | [(C, s)], h => by
    obtain ⟨b, m, rfl, hb⟩ := mk_cases hm
    exact sp_one _ fun z => by have := piece_chars h.2 b z; omega
  | (C, s) :: y :: r, h => by
    obtain ⟨b, m, rfl, hb⟩ := mk_cases hm
    obtain ⟨h1, h2, h3⟩ := gd_more.mp h
    show splitG (b :: m) 0 (pieceOf (C, s) ++ (b :: m ++ bod (b :: m) (y :: r))) = _
    rw [sp_pre _ fun z => by have := piece_chars h1 b z; omega, bod_split hm (y :: r) h3]
    rfl
-- P2
theorem fl_c {y : List Nat} {c : Nat} {t : List Nat} (h : y.isPrefixOf (c :: t) = false) : (splitG y 0 (c :: t)).flatten = c :: (splitG y 0 t).flatten := by
  rw [splitG, if_neg (by rw [h]; decide)]
  cases splitG y 0 t <;> simp
theorem fl_y {b : Nat} {m t : List Nat} : (splitG (b :: m) 0 (b :: m ++ t)).flatten = (splitG (b :: m) 0 t).flatten := by
  have := sp_pre (b := b) (m := m) (t := t) [] (by simp)
  rw [List.nil_append] at this
  rw [this]; rfl
theorem fl_enc {b : Nat} {m t : List Nat} (hb : b < 33) : ∀ {C : List Nat}, (∀ o ∈ C, Ro o) → (splitG (61 :: b :: m) 0 (enc C ++ t)).flatten = enc C ++ (splitG (61 :: b :: m) 0 t).flatten
  | [], _ => rfl
  | o :: C, h => by
    have ih := fl_enc (m := m) (t := t) hb (C := C) fun x hx => h x (.tail _ hx)
    rw [enc_cons]
    rcases encL_cases (h o (.head _)) with ⟨e, e1, _⟩ | ⟨x, y, e, _, _, _, h1, h2, _, _, h3, h4⟩
    · rw [e]
      show (splitG _ 0 (o :: (enc C ++ t))).flatten = _
      rw [fl_c (by simp [List.isPrefixOf]; intro q; exact absurd q.symm e1), ih]; rfl
    · rw [e]
      show (splitG _ 0 (61 :: x :: y :: (enc C ++ t))).flatten = _
      have n1 : ¬ (b = x) := by omega
      rw [fl_c (by simp [List.isPrefixOf, n1]), fl_c (by simp [List.isPrefixOf]; intro q; exact absurd q.symm h3), fl_c (by simp [List.isPrefixOf]; intro q; exact absurd q.symm h4), ih]; rfl
theorem bod_repl {mk : List Nat} (hm : Mk mk) : ∀ it, Gd it → (splitG (61 :: mk) 0 (bod mk it)).flatten = sgn mk it
  | [], h => h.elim
  | [(C, s)], h => by
    obtain ⟨b, m, rfl, hb⟩ := mk_cases hm
    obtain ⟨rfl, h2⟩ := h
    show (splitG _ 0 (enc C ++ [])).flatten = _
    rw [fl_enc (by omega) h2]
    simp [splitG, sgn]
  | (C, s) :: y :: r, h => by
    obtain ⟨h1, h2, h3⟩ := gd_more.mp h
    have ih := bod_repl hm (y :: r) h3
    show (splitG (61 :: mk) 0 (pieceOf (C, s) ++ (mk ++ bod mk (y :: r)))).flatten = enc C ++ ((if s then [] else mk) ++ sgn mk (y :: r))
    rw [← ih]
    unfold pieceOf
    cases s with
    | true =>
      obtain ⟨b, m, rfl, hb⟩ := mk_cases hm
      rw [if_pos rfl, if_pos rfl, List.append_assoc, fl_enc (by omega) h1]
      congr 1
      exact fl_y
    | false =>
      rw [if_neg Bool.false_ne_true, if_neg Bool.false_ne_true, List.append_nil]
      rcases hm with rfl | rfl
      · rw [fl_enc (by omega) h1]
        congr 1
        show (splitG _ 0 (10 :: bod [10] (y :: r))).flatten = _
        rw [fl_c (by simp [List.isPrefixOf])]; rfl
      · rw [fl_enc (by omega) h1]
        congr 1
        show (splitG _ 0 (13 :: 10 :: bod [13, 10] (y :: r))).flatten = _
        rw [fl_c (by simp [List.isPrefixOf]), fl_c (by simp [List.isPrefixOf])]; rfl
-- P3
theorem dec_enc {t : List Nat} (ht : t ≠ []) : ∀ {C : List Nat}, (∀ o ∈ C, Ro o) → decW 0 (enc C ++ t) = C ++ decW 0 t
  | [], _ => rfl
  | o :: C, h => by
    have ih := dec_enc ht (C := C) fun x hx => h x (.tail _ hx)
    rw [enc_cons]
    have hne : enc C ++ t ≠ [] := by simp [ht]
    have hlen : 0 < (enc C ++ t).length := List.length_pos_iff.mpr hne
    rcases encL_cases (h o (.head _)) with ⟨e, e1, _⟩ | ⟨x, y, e, hx, hy, hv', _⟩
    · rw [e]
      show decW 0 (o :: (enc C ++ t)) = _
      rw [decW, if_pos e1, if_neg hne, ih]; rfl
    · rw [e]
      show decW 0 (61 :: x :: y :: (enc C ++ t)) = _
      rw [decW, if_neg (by decide), if_neg (by simp), if_pos ⟨by simp, hx, hy⟩, if_neg (by simp; intro q; exact fun z => ht (by simp_all))]
      show (16 * hv x + hv y) :: decW 2 (x :: y :: (enc C ++ t)) = _
      rw [hv']
      show o :: decW 0 (enc C ++ t) = _
      rw [ih]; rfl
theorem dec_tok {o : Nat} (h : Ro o) : decW 0 (encL o) = [o, 10] := by
  rcases encL_cases h with ⟨e, e1, _⟩ | ⟨x, y, e, hx, hy, hv', _⟩
  · rw [e, decW, if_pos e1]; simp
  · rw [e, decW, if_neg (by decide), if_neg (by simp), if_pos ⟨by simp, hx, hy⟩, if_pos (by simp)]
    show [16 * hv x + hv y, 10] = _
    rw [hv']
theorem enc_ne {C : List Nat} (h : ∀ o ∈ C, Ro o) (hc : C ≠ []) : enc C ≠ [] := by
  have := enc_ge h
  have h2 := List.length_pos_iff.mpr hc
  intro e
  have h3 : C.length ≤ 0 := by rw [e] at this; exact this
  omega
theorem dec_hardrow {C : List Nat} (h : ∀ o ∈ C, Ro o) : decLn (enc C) = C ++ [10] := by
  unfold decLn
  by_cases hc : C = []
  · subst hc; rfl
  · rw [if_neg (enc_ne h hc)]
    obtain ⟨A, o, rfl⟩ : ∃ A o, C = A ++ [o] := ⟨_, _, (List.dropLast_concat_getLast hc).symm⟩
    have ho : Ro o := h o (by simp)
    rw [enc_app, show enc [o] = encL o by simp [enc], dec_enc (by have := encL_pos ho; intro e; rw [e] at this; simp at this) fun x hx => h x (List.mem_append_left _ hx), dec_tok ho]
    simp
theorem dec_softrow {C : List Nat} (h : ∀ o ∈ C, Ro o) : decLn (enc C ++ [61]) = C := by
  unfold decLn
  rw [if_neg (by simp), dec_enc (by simp) h]
  simp [decW]
theorem dec_piece {C : List Nat} {s : Bool} (h : ∀ o ∈ C, Ro o) : decLn (pieceOf (C, s)) = C ++ (if s then [] else [10]) := by
  unfold pieceOf
  cases s with
  | true => rw [if_pos rfl, if_pos rfl, dec_softrow h, List.append_nil]
  | false => rw [if_neg Bool.false_ne_true, if_neg Bool.false_ne_true, List.append_nil, dec_hardrow h]
theorem lines_one {p : List Nat} (h : ∀ c ∈ p, 33 ≤ c ∧ c ≤ 126) : linesG false p = if p = [] then [] else [p] := by
  have := lines_pre p [] fun c hc => (char_ok (h c hc).1 (h c hc).2).1
  rw [List.append_nil] at this
  rw [this]
  simp [linesG, preL]
theorem lines_mk {mk p t : List Nat} (hm : Mk mk) (h : ∀ c ∈ p, 33 ≤ c ∧ c ≤ 126) : linesG false (p ++ (mk ++ t)) = p :: linesG false t := by
  rw [lines_pre _ _ fun c hc => (char_ok (h c hc).1 (h c hc).2).1]
  have b10 : Unicode.isLineBreak 10 = true := by decide +kernel
  have b13 : Unicode.isLineBreak 13 = true := by decide +kernel
  have e : linesG false (mk ++ t) = [] :: linesG false t := by
    rcases hm with rfl | rfl
    · show linesG false (10 :: t) = _
      rw [linesG, if_pos b10]; rfl
    · show linesG false (13 :: 10 :: t) = _
      rw [linesG, if_pos b13]; rfl
  rw [e]
  unfold preL
  split
  · simp_all
  · simp
noncomputable def lastE : List (List Nat × Bool) → Bool
  | [] => true
  | [(C, _)] => decide (C = [])
  | _ :: r => lastE r
theorem dec_lines {mk : List Nat} (hm : Mk mk) : ∀ it, Gd it → ((linesG false (bod mk it)).map decLn).flatten = txt it ++ (if lastE it then [] else [10])
  | [], h => h.elim
  | [(C, s)], h => by
    obtain ⟨rfl, h2⟩ := h
    show ((linesG false (pieceOf (C, false))).map decLn).flatten = C ++ _
    rw [lines_one (piece_chars h2)]
    by_cases hc : C = []
    · subst hc; simp [pieceOf, enc, lastE]
    · have : pieceOf (C, false) ≠ [] := by simp [pieceOf, enc_ne h2 hc]
      rw [if_neg this]
      simp [lastE, hc, dec_piece (s := false) h2]
  | (C, s) :: y :: r, h => by
    obtain ⟨h1, h2, h3⟩ := gd_more.mp h
    have ih := dec_lines hm (y :: r) h3
    show ((linesG false (pieceOf (C, s) ++ (mk ++ bod mk (y :: r)))).map decLn).flatten = (C ++ ((if s then [] else [10]) ++ txt (y :: r))) ++ (if lastE (y :: r) then [] else [10])
    rw [lines_mk hm (piece_chars h1), List.map_cons, List.flatten_cons, ih, dec_piece h1]
    simp
theorem last_tail {A B : List Nat} (h : B ≠ []) : (A ++ B).getLast? = B.getLast? := by
  rw [List.getLast?_append]
  cases e : B.getLast? with
  | none => exact absurd (List.getLast?_eq_none_iff.mp e) h
  | some x => rfl
theorem body_last {mk : List Nat} (hm : Mk mk) : ∀ it, Gd it → (lastE it = true → it ≠ [([], false)] → (bod mk it).getLast? = some 10) ∧ (lastE it = false → ∃ c, (bod mk it).getLast? = some c ∧ 33 ≤ c)
  | [], h => h.elim
  | [(C, s)], h => by
    obtain ⟨rfl, h2⟩ := h
    refine ⟨fun h3 h4 => ?_, fun h3 => ?_⟩
    · have : C = [] := by simpa [lastE] using h3
      subst this; exact absurd rfl h4
    · have hc : C ≠ [] := by simpa [lastE] using h3
      have hne := enc_ne h2 hc
      show ∃ c, (enc C ++ []).getLast? = some c ∧ 33 ≤ c
      rw [List.append_nil]
      refine ⟨(enc C).getLast hne, List.getLast?_eq_some_getLast hne, (enc_chars h2 _ (List.getLast_mem hne)).1⟩
  | (C, s) :: y :: r, h => by
    obtain ⟨h1, h2, h3⟩ := gd_more.mp h
    obtain ⟨i1, i2⟩ := body_last hm (y :: r) h3
    have e : (bod mk ((C, s) :: y :: r)) = pieceOf (C, s) ++ (mk ++ bod mk (y :: r)) := rfl
    have hmn : mk ++ bod mk (y :: r) ≠ [] := by rcases hm with rfl | rfl <;> simp
    rw [e, last_tail hmn]
    by_cases hb : bod mk (y :: r) = []
    · rw [hb, List.append_nil]
      have hl : lastE (y :: r) = true := by
        cases q : lastE (y :: r) with
        | true => rfl
        | false => obtain ⟨c, hc, _⟩ := i2 q; rw [hb] at hc; cases hc
      refine ⟨fun _ _ => by rcases hm with rfl | rfl <;> rfl, fun q => ?_⟩
      have : lastE (y :: r) = false := q
      rw [hl] at this; cases this
    · rw [last_tail hb]
      refine ⟨fun q _ => i1 q fun z => ?_, i2⟩
      rw [z] at hb; exact hb rfl
theorem body_dec {mk : List Nat} (hm : Mk mk) {it : List (List Nat × Bool)} (h : Gd it) : decAll (bod mk it) = txt it := by
  have hd := dec_lines hm it h
  obtain ⟨b1, b2⟩ := body_last hm it h
  unfold decAll
  rw [hd]
  cases hl : lastE it with
  | true =>
    by_cases hn : it = [([], false)]
    · subst hn; rfl
    · rw [b1 hl hn]
      simp
  | false =>
    obtain ⟨c, hc, hc2⟩ := b2 hl
    rw [hc]
    have n1 : ¬ c = 13 := by omega
    have n2 : ¬ c = 10 := by omega
    simp [n1, n2]
end
section
set_option Elab.async false
set_option maxRecDepth 100000
set_option maxHeartbeats 1000000
theorem fit_pos {w : Nat} (hw : 4 ≤ w) {R : List Nat} (h : ∀ o ∈ R, Ro o) (hl : R ≠ []) : 1 ≤ fit (w - 1) R := by
  cases R with
  | nil => exact absurd rfl hl
  | cons o r =>
    have := encL_pos (h o (.head _))
    rw [fit, if_pos (by omega)]; omega
theorem enc_nil_of {R : List Nat} {w : Nat} (h : w < (enc R).length) : R ≠ [] := by
  intro e; subst e; simp [enc] at h
theorem chunks_flat (w : Nat) : ∀ (f : Nat) (R : List Nat), (chunks w f R).flatten = R
  | 0, R => by simp [chunks]
  | f + 1, R => by
    rw [chunks]; split
    · rw [List.flatten_cons, chunks_flat w f, List.take_append_drop]
    · simp
theorem itemsOf_more (C : List Nat) {r : List (List Nat)} (h : ∃ D q, r = D :: q) : itemsOf (C :: r) = (C, true) :: itemsOf r := by
  obtain ⟨D, q, rfl⟩ := h; rfl
theorem itemsOf_ne {r : List (List Nat)} (h : ∃ D q, r = D :: q) : ∃ y z, itemsOf r = y :: z := by
  obtain ⟨D, q, rfl⟩ := h
  cases q <;> exact ⟨_, _, rfl⟩
theorem chunks_gd {w : Nat} (hw : 4 ≤ w) : ∀ (f : Nat) (R : List Nat), (∀ o ∈ R, Ro o) → Gd (itemsOf (chunks w f R))
  | 0, R, h => ⟨rfl, h⟩
  | f + 1, R, h => by
    rw [chunks]; split
    · rename_i hl
      have hp := fit_pos hw h (enc_nil_of hl)
      have hn := fit_next (c := w - 1) (R := R) (by omega)
      have ih := chunks_gd hw f (R.drop (fit (w - 1) R)) fun o ho => h o (List.mem_of_mem_drop ho)
      rw [itemsOf_more _ (chunks_ne w f _)]
      obtain ⟨y, z, e⟩ := itemsOf_ne (chunks_ne w f (R.drop (fit (w - 1) R)))
      rw [e] at ih ⊢
      refine gd_more.mpr ⟨fun o ho => h o (List.mem_of_mem_take ho), fun _ e => ?_, ih⟩
      have := congrArg List.length e
      rw [List.length_take, List.length_nil] at this
      omega
    · exact ⟨rfl, h⟩
theorem chunks_small {w : Nat} (hw : 4 ≤ w) : ∀ (f : Nat) (R : List Nat), (∀ o ∈ R, Ro o) → R.length ≤ f → ∀ p ∈ itemsOf (chunks w f R), (pieceOf p).length ≤ w
  | 0, R, _, hf, p, hp => by
    have : R = [] := List.eq_nil_of_length_eq_zero (by omega)
    subst this
    rw [List.mem_singleton.mp hp]; simp [pieceOf, enc]
  | f + 1, R, h, hf, p, hp => by
    rw [chunks] at hp
    split at hp
    · rename_i hl
      have hpos := fit_pos hw h (enc_nil_of hl)
      have hle := fit_le (w - 1) R
      rw [itemsOf_more _ (chunks_ne w f _)] at hp
      rcases List.mem_cons.mp hp with rfl | hp
      · simp only [pieceOf, if_true, List.length_append, List.length_singleton]; omega
      · exact chunks_small hw f _ (fun o ho => h o (List.mem_of_mem_drop ho)) (by rw [List.length_drop]; omega) p hp
    · rename_i hl
      rw [List.mem_singleton.mp hp]
      simp only [pieceOf, Bool.false_eq_true, if_false, List.append_nil]; omega
theorem gd_app : ∀ {A B : List (List Nat × Bool)}, Gd A → Gd B → Gd (A ++ B)
  | [], _, h, _ => h.elim
  | [(C, s)], B, h, hB => by
    cases B with
    | nil => exact hB.elim
    | cons y r => exact gd_more.mpr ⟨h.2, (fun e => by rw [h.1] at e; cases e), hB⟩
  | (C, s) :: y :: r, B, h, hB => by
    obtain ⟨h1, h2, h3⟩ := gd_more.mp h
    exact gd_more.mpr ⟨h1, h2, gd_app (A := y :: r) h3 hB⟩
theorem txt_app : ∀ {A B : List (List Nat × Bool)}, Gd A → B ≠ [] → txt (A ++ B) = txt A ++ (10 :: txt B)
  | [], _, h, _ => h.elim
  | [(C, s)], B, h, hB => by
    obtain ⟨y, r, rfl⟩ := List.exists_cons_of_ne_nil hB
    show C ++ ((if s then [] else [10]) ++ txt (y :: r)) = _
    rw [h.1]; rfl
  | (C, s) :: y :: r, B, h, hB => by
    obtain ⟨h1, h2, h3⟩ := gd_more.mp h
    have ih := txt_app (A := y :: r) h3 hB
    show C ++ ((if s then [] else [10]) ++ txt ((y :: r) ++ B)) = (C ++ ((if s then [] else [10]) ++ txt (y :: r))) ++ _
    rw [ih]; simp
theorem txt_itemsOf : ∀ cs : List (List Nat), txt (itemsOf cs) = cs.flatten
  | [] => rfl
  | [C] => by simp [itemsOf, txt]
  | C :: D :: r => by
    have ih := txt_itemsOf (D :: r)
    rw [itemsOf_more C ⟨D, r, rfl⟩]
    obtain ⟨y, z, e⟩ := itemsOf_ne (r := D :: r) ⟨D, r, rfl⟩
    rw [e] at ih ⊢
    show C ++ ([] ++ txt (y :: z)) = _
    rw [ih]; rfl
noncomputable def joinNL : List (List Nat) → List Nat
  | [] => []
  | [R] => R
  | R :: r => R ++ (10 :: joinNL r)
theorem rowsN_join (l : List Nat) : joinNL (rowsN l) = l := by
  induction l with
  | nil => rfl
  | cons o r ih =>
    obtain ⟨p, ps, e⟩ := rowsN_ne r
    rw [rowsN, e]
    rw [e] at ih
    split
    · rename_i h
      show [] ++ (10 :: joinNL (p :: ps)) = _
      rw [ih, h]; rfl
    · cases ps with
      | nil => simpa [joinNL] using ih
      | cons q qs => simpa [joinNL] using ih
noncomputable def itemsR (w : Nat) (rows : List (List Nat)) : List (List Nat × Bool) := (rows.map fun R => itemsOf (chunks w (enc R).length R)).flatten
theorem itemsR_ok {w : Nat} (hw : 4 ≤ w) : ∀ {rows : List (List Nat)}, rows ≠ [] → (∀ R ∈ rows, ∀ o ∈ R, Ro o) → Gd (itemsR w rows) ∧ txt (itemsR w rows) = joinNL rows ∧ ∀ p ∈ itemsR w rows, (pieceOf p).length ≤ w
  | [], h, _ => absurd rfl h
  | [R], _, h => by
    have hR := h R (.head _)
    have e : itemsR w [R] = itemsOf (chunks w (enc R).length R) := by simp [itemsR]
    rw [e]
    exact ⟨chunks_gd hw _ R hR, by rw [txt_itemsOf, chunks_flat]; rfl, chunks_small hw _ R hR (enc_ge hR)⟩
  | R :: S :: r, _, h => by
    have hR := h R (.head _)
    obtain ⟨i1, i2, i3⟩ := itemsR_ok hw (rows := S :: r) (by simp) fun X hX => h X (.tail _ hX)
    have e : itemsR w (R :: S :: r) = itemsOf (chunks w (enc R).length R) ++ itemsR w (S :: r) := by simp [itemsR]
    have g := chunks_gd hw (enc R).length R hR
    rw [e]
    refine ⟨gd_app g i1, ?_, fun p hp => ?_⟩
    · rw [txt_app g (fun z => by rw [z] at i1; exact i1), i2, txt_itemsOf, chunks_flat]; rfl
    · rcases List.mem_append.mp hp with hp | hp
      · exact chunks_small hw _ R hR (enc_ge hR) p hp
      · exact i3 p hp
noncomputable def signL (mk : List Nat) (o : Nat) : List Nat := if o = 10 then mk else encL o
theorem sign_S (mk : List Nat) (o : Nat) : signOf (S mk) o = S (signL mk o) := by
  unfold signOf signL; split <;> rfl
theorem sgl_row {mk C : List Nat} (h : ∀ o ∈ C, Ro o) : (C.map (signL mk)).flatten = enc C := by
  unfold enc
  congr 1
  apply List.map_congr_left
  intro o ho
  unfold signL
  rw [if_neg (by have := h o ho; unfold Ro at this; omega)]
theorem sgn_txt {mk : List Nat} : ∀ {it : List (List Nat × Bool)}, Gd it → sgn mk it = ((txt it).map (signL mk)).flatten
  | [], h => h.elim
  | [(C, s)], h => (sgl_row h.2).symm
  | (C, s) :: y :: r, h => by
    obtain ⟨h1, h2, h3⟩ := gd_more.mp h
    have ih := sgn_txt (mk := mk) (it := y :: r) h3
    show enc C ++ ((if s then [] else mk) ++ sgn mk (y :: r)) = ((C ++ ((if s then [] else [10]) ++ txt (y :: r))).map (signL mk)).flatten
    rw [ih, List.map_append, List.flatten_append, sgl_row h1, List.map_append, List.flatten_append]
    congr 2
    cases s <;> simp [signL]
-- breaks
noncomputable def brkI : Nat → List (List Nat × Bool) → List Int
  | _, [] => []
  | p, (C, s) :: r => if s then ((p + C.length : Nat) : Int) :: brkI (p + C.length) r else brkI (p + C.length + 1) r
theorem dec_one {C : List Nat} {s : Bool} (h : ∀ o ∈ C, Ro o) : decAll (pieceOf (C, s)) = C := by
  cases s with
  | false => exact body_dec (mk := [10]) (it := [(C, false)]) (.inl rfl) ⟨rfl, h⟩
  | true =>
    have e : linesG false (pieceOf (C, true)) = [pieceOf (C, true)] := by rw [lines_one (piece_chars h), if_neg (by simp [pieceOf])]
    unfold decAll
    rw [e, List.map_singleton, List.flatten_singleton, dec_piece h, if_pos rfl, List.append_nil]
    have h1 : (pieceOf (C, true)).getLast? = some 61 := by simp [pieceOf]
    rw [h1]
    have h2 : C.getLast? ≠ some 10 := fun z => by
      have := h 10 (List.mem_of_getLast? z)
      unfold Ro at this; omega
    simp [h2]
theorem last_piece {C : List Nat} {s : Bool} (h : ∀ o ∈ C, Ro o) : (pieceOf (C, s)).getLast? = some 61 ↔ s = true := by
  cases s with
  | true => simp [pieceOf]
  | false =>
    constructor
    · intro z
      exfalso
      simp only [pieceOf, Bool.false_eq_true, if_false, List.append_nil] at z
      have hpos : 0 < (enc C).length := by
        cases q : enc C with
        | nil => rw [q] at z; cases z
        | cons => simp
      have h1 : (enc C).getD ((enc C).length - 1) 0 = 61 := by
        rw [List.getLast?_eq_getElem?] at z
        rw [List.getD_eq_getElem?_getD, z]; rfl
      have := esc_room h ((enc C).length - 1) (by omega) h1
      omega
    · intro z; cases z
theorem brk_items : ∀ (it : List (List Nat × Bool)) (p : Nat), (∀ x ∈ it, ∀ o ∈ x.1, Ro o) → brkF p (it.map pieceOf) = brkI p it
  | [], _, _ => rfl
  | (C, s) :: r, p, h => by
    have hC := h (C, s) (.head _)
    have ih := fun p => brk_items r p fun x hx => h x (.tail _ hx)
    rw [List.map_cons, brkF, dec_one hC, brkI, ih, ih]
    cases s with
    | true => rw [if_pos ((last_piece hC).mpr rfl), if_pos rfl]
    | false => rw [if_neg (fun z => Bool.noConfusion ((last_piece hC).mp z)), if_neg Bool.false_ne_true]
theorem gd_rows : ∀ {it : List (List Nat × Bool)}, Gd it → ∀ x ∈ it, ∀ o ∈ x.1, Ro o
  | [], h, _, _ => h.elim
  | [(C, s)], h, x, hx => by rw [List.mem_singleton.mp hx]; exact h.2
  | (C, s) :: y :: r, h, x, hx => by
    obtain ⟨h1, h2, h3⟩ := gd_more.mp h
    rcases List.mem_cons.mp hx with rfl | hx
    · exact h1
    · exact gd_rows (it := y :: r) h3 x hx
noncomputable def brkR (w : Nat) : Nat → Nat → List Nat → List Int
  | 0, _, _ => []
  | f + 1, a, R => if w < (enc R).length then ((a + fit (w - 1) R : Nat) : Int) :: brkR w f (a + fit (w - 1) R) (R.drop (fit (w - 1) R)) else []
theorem brkI_row {w : Nat} (rest : List (List Nat × Bool)) : ∀ (f a : Nat) (R : List Nat), brkI a (itemsOf (chunks w f R) ++ rest) = brkR w f a R ++ brkI (a + R.length + 1) rest
  | 0, a, R => rfl
  | f + 1, a, R => by
    rw [chunks, brkR]
    split
    · rename_i hl
      have hf := fit_next (c := w - 1) (R := R) (by omega)
      rw [itemsOf_more _ (chunks_ne w f _)]
      show (if true = true then _ else _) = _
      rw [if_pos rfl]
      have ht : (R.take (fit (w - 1) R)).length = fit (w - 1) R := by rw [List.length_take]; omega
      rw [ht]
      have ih := brkI_row (w := w) rest f (a + fit (w - 1) R) (R.drop (fit (w - 1) R))
      rw [List.length_drop, show a + fit (w - 1) R + (R.length - fit (w - 1) R) + 1 = a + R.length + 1 by omega] at ih
      show _ :: brkI _ (itemsOf _ ++ rest) = _
      rw [ih]; rfl
    · rfl
noncomputable def brkAll (w : Nat) : Nat → List (List Nat) → List Int
  | _, [] => []
  | a, R :: r => brkR w (enc R).length a R ++ brkAll w (a + R.length + 1) r
theorem brkI_rows {w : Nat} : ∀ (rows : List (List Nat)) (a : Nat), brkI a (itemsR w rows) = brkAll w a rows
  | [], _ => rfl
  | R :: r, a => by
    have e : itemsR w (R :: r) = itemsOf (chunks w (enc R).length R) ++ itemsR w r := by simp [itemsR]
    rw [e, brkI_row, brkI_rows r]; rfl
end
section
set_option Elab.async false
set_option maxRecDepth 100000
set_option maxHeartbeats 1000000
theorem fit_mono : ∀ {c c' : Nat} (R : List Nat), c ≤ c' → fit c R ≤ fit c' R
  | _, _, [], _ => Nat.le_refl _
  | c, c', o :: r, h => by
    rw [fit, fit]
    split
    · rw [if_pos (by omega)]
      have := fit_mono (c := c - (encL o).length) (c' := c' - (encL o).length) r (by omega)
      omega
    · omega
theorem fit_tail (c o : Nat) (r : List Nat) : fit c (o :: r) ≤ fit c r + 1 := by
  rw [fit]
  split
  · have := fit_mono (c := c - (encL o).length) (c' := c) r (by omega)
    omega
  · omega
/-- a row's stretches, from place a on: (end, beginning) -/
noncomputable def strR (w : Nat) : Nat → List Nat → List (Int × Int)
  | _, [] => []
  | a, o :: r => (if w < (enc (o :: r)).length then [(((a + fit (w - 1) (o :: r) + 1 : Nat) : Int), ((a : Nat) : Int))] else []) ++ strR w (a + 1) r
noncomputable def strI (w : Nat) : Nat → List (List Nat) → List (Int × Int)
  | _, [] => []
  | a, R :: rs => strR w a R ++ strI w (a + R.length + 1) rs
theorem strR_nil {w : Nat} : ∀ {a : Nat} {R : List Nat}, (enc R).length ≤ w → strR w a R = []
  | _, [], _ => rfl
  | a, o :: r, h => by
    rw [strR, if_neg (by omega), strR_nil (by rw [enc_cons, List.length_append] at h; omega)]; rfl
theorem strR_ge {w : Nat} : ∀ {a : Nat} {R : List Nat}, ∀ p ∈ strR w a R, ((a + fit (w - 1) R + 1 : Nat) : Int) ≤ p.1
  | _, [], p, hp => nomatch hp
  | a, o :: r, p, hp => by
    rw [strR] at hp
    rcases List.mem_append.mp hp with hp | hp
    · split at hp
      · rw [List.mem_singleton.mp hp]; omega
      · cases hp
    · have := strR_ge (a := a + 1) (R := r) p hp
      have := fit_tail (w - 1) o r
      omega
theorem strR_bd {w : Nat} (hw : 4 ≤ w) : ∀ {a : Nat} {R : List Nat}, (∀ o ∈ R, Ro o) → ∀ p ∈ strR w a R, (a : Int) ≤ p.2 ∧ p.2 + 1 < p.1 ∧ p.1 ≤ ((a + R.length : Nat) : Int)
  | _, [], _, p, hp => nomatch hp
  | a, o :: r, h, p, hp => by
    rw [strR] at hp
    rcases List.mem_append.mp hp with hp | hp
    · split at hp
      · rename_i hl
        have h1 := fit_next (c := w - 1) (R := o :: r) (by omega)
        have h2 := fit_pos hw h (by simp)
        rw [List.mem_singleton.mp hp]
        dsimp only
        omega
      · cases hp
    · have := strR_bd hw (a := a + 1) (R := r) (fun x hx => h x (.tail _ hx)) p hp
      rw [List.length_cons]
      omega
noncomputable def Lt2 (p q : Int × Int) : Prop := p.1 ≤ q.1 ∧ p.2 < q.2
theorem strR_sorted {w : Nat} (hw : 4 ≤ w) : ∀ {a : Nat} {R : List Nat}, (∀ o ∈ R, Ro o) → (strR w a R).Pairwise Lt2
  | _, [], _ => .nil
  | a, o :: r, h => by
    have hr : ∀ x ∈ r, Ro x := fun x hx => h x (.tail _ hx)
    rw [strR]
    split
    · refine List.pairwise_cons.mpr ⟨fun q hq => ?_, strR_sorted hw hr⟩
      have h1 := strR_ge q hq
      have h2 := strR_bd hw hr q hq
      have := fit_tail (w - 1) o r
      exact ⟨by dsimp only; omega, by dsimp only; omega⟩
    · exact strR_sorted hw hr
theorem strI_bd {w : Nat} (hw : 4 ≤ w) : ∀ {rows : List (List Nat)} {a : Nat}, (∀ R ∈ rows, ∀ o ∈ R, Ro o) → ∀ p ∈ strI w a rows, (a : Int) ≤ p.2 ∧ p.2 + 1 < p.1 ∧ p.1 ≤ ((a + (joinNL rows).length : Nat) : Int)
  | [], _, _, p, hp => nomatch hp
  | [R], a, h, p, hp => by
    have : p ∈ strR w a R := by simpa [strI] using hp
    exact strR_bd hw (h R (.head _)) p this
  | R :: S :: r, a, h, p, hp => by
    have hj : (joinNL (R :: S :: r)).length = R.length + 1 + (joinNL (S :: r)).length := by
      show (R ++ (10 :: joinNL (S :: r))).length = _
      rw [List.length_append, List.length_cons]; omega
    rw [hj]
    rcases List.mem_append.mp (show p ∈ strR w a R ++ strI w (a + R.length + 1) (S :: r) from hp) with hp | hp
    · have := strR_bd hw (h R (.head _)) p hp
      omega
    · have := strI_bd hw (rows := S :: r) (fun X hX => h X (.tail _ hX)) p hp
      omega
theorem strI_sorted {w : Nat} (hw : 4 ≤ w) : ∀ {rows : List (List Nat)} {a : Nat}, (∀ R ∈ rows, ∀ o ∈ R, Ro o) → (strI w a rows).Pairwise Lt2
  | [], _, _ => .nil
  | R :: r, a, h => by
    have hr : ∀ X ∈ r, ∀ o ∈ X, Ro o := fun X hX => h X (.tail _ hX)
    refine List.pairwise_append.mpr ⟨strR_sorted hw (h R (.head _)), strI_sorted hw hr, fun p hp q hq => ?_⟩
    have h1 := strR_bd hw (h R (.head _)) p hp
    have h2 := strI_bd hw hr q hq
    exact ⟨by omega, by omega⟩
theorem strR_len {w : Nat} : ∀ {a : Nat} {R : List Nat}, (strR w a R).length ≤ R.length
  | _, [] => Nat.le_refl _
  | a, o :: r => by
    have := strR_len (w := w) (a := a + 1) (R := r)
    rw [strR, List.length_append, List.length_cons]
    split <;> simp <;> omega
theorem strI_len {w : Nat} : ∀ {rows : List (List Nat)} {a : Nat}, (strI w a rows).length ≤ (joinNL rows).length
  | [], _ => Nat.le_refl _
  | [R], a => by
    have := strR_len (w := w) (a := a) (R := R)
    simpa [strI, joinNL] using this
  | R :: S :: r, a => by
    have h1 := strR_len (w := w) (a := a) (R := R)
    have h2 := strI_len (w := w) (rows := S :: r) (a := a + R.length + 1)
    show (strR w a R ++ strI w (a + R.length + 1) (S :: r)).length ≤ (R ++ (10 :: joinNL (S :: r))).length
    rw [List.length_append, List.length_append, List.length_cons]; omega
-- the choice, by the last break
noncomputable def chB : List (Int × Int) → Int → List Int
  | [], _ => []
  | p :: r, b => if b ≤ p.2 then (p.1 - 1) :: chB r (p.1 - 1) else chB r b
theorem chB_shift : ∀ {l : List (Int × Int)} {b b' N : Int}, (∀ p ∈ l, N ≤ p.2) → b ≤ N → b' ≤ N → chB l b = chB l b'
  | [], _, _, _, _, _, _ => rfl
  | p :: r, b, b', N, h, h1, h2 => by
    have := h p (.head _)
    rw [chB, chB, if_pos (by omega), if_pos (by omega)]
theorem chB_row {w : Nat} (hw : 4 ≤ w) {rest : List (Int × Int)} : ∀ (R : List Nat) (a b f : Nat), (∀ o ∈ R, Ro o) → a ≤ b → b ≤ a + R.length → R.length ≤ f + (b - a) → (∀ p ∈ rest, ((a + R.length : Nat) : Int) ≤ p.2) →
    chB (strR w a R ++ rest) (b : Int) = brkR w f b (R.drop (b - a)) ++ chB rest ((a + R.length : Nat) : Int)
  | [], a, b, f, _, h1, h2, _, h4 => by
    have e : b = a := by simp at h2; omega
    subst e
    have : brkR w f b ([].drop (b - b)) = [] := by
      cases f with
      | zero => rfl
      | succ f => rw [brkR, if_neg (by simp [enc])]
    rw [this]; rfl
  | o :: r, a, b, f, h, h1, h2, h3, h4 => by
    have hr : ∀ x ∈ r, Ro x := fun x hx => h x (.tail _ hx)
    have hlen : ((a + (o :: r).length : Nat) : Int) = ((a + 1 + r.length : Nat) : Int) := by rw [List.length_cons]; omega
    rw [List.length_cons] at h2 h3
    by_cases hb : b = a
    · subst hb
      rw [Nat.sub_self, List.drop_zero]
      obtain ⟨f', rfl⟩ : ∃ f', f = f' + 1 := ⟨f - 1, by omega⟩
      by_cases hl : w < (enc (o :: r)).length
      · have hn := fit_next (c := w - 1) (R := o :: r) (by omega)
        have hp := fit_pos hw h (by simp)
        rw [List.length_cons] at hn
        rw [strR, if_pos hl, brkR, if_pos hl]
        show chB ((_, _) :: (strR w (b + 1) r ++ rest)) _ = _
        rw [chB, if_pos (Int.le_refl _)]
        have e1 : (((b + fit (w - 1) (o :: r) + 1 : Nat) : Int) - 1) = ((b + fit (w - 1) (o :: r) : Nat) : Int) := by omega
        dsimp only
        rw [e1, chB_row hw r (b + 1) (b + fit (w - 1) (o :: r)) f' hr (by omega) (by omega) (by omega) (by rw [← hlen]; exact h4)]
        have e2 : (o :: r).drop (fit (w - 1) (o :: r)) = r.drop (b + fit (w - 1) (o :: r) - (b + 1)) := by
          obtain ⟨k, hk⟩ : ∃ k, fit (w - 1) (o :: r) = k + 1 := ⟨fit (w - 1) (o :: r) - 1, by omega⟩
          rw [hk, show b + (k + 1) - (b + 1) = k by omega]; rfl
        rw [e2, hlen]; rfl
      · have e0 : (enc (o :: r)).length ≤ w := by omega
        rw [strR_nil e0, brkR, if_neg hl]
        exact chB_shift h4 (by omega) (Int.le_refl _)
    · have e2 : (o :: r).drop (b - a) = r.drop (b - (a + 1)) := by
        obtain ⟨k, hk⟩ : ∃ k, b - a = k + 1 := ⟨b - a - 1, by omega⟩
        rw [hk, show b - (a + 1) = k by omega]; rfl
      rw [e2, hlen]
      have ih := chB_row hw r (a + 1) b f hr (by omega) (by omega) (by omega) (by rw [← hlen]; exact h4)
      rw [← ih, strR]
      split
      · show chB ((_, _) :: (strR w (a + 1) r ++ rest)) _ = _
        rw [chB, if_neg (by dsimp only; omega)]
      · rfl
theorem chB_rows {w : Nat} (hw : 4 ≤ w) : ∀ {rows : List (List Nat)} {a : Nat} {b : Int}, (∀ R ∈ rows, ∀ o ∈ R, Ro o) → b ≤ (a : Int) → chB (strI w a rows) b = brkAll w a rows
  | [], _, _, _, _ => rfl
  | R :: r, a, b, h, hb => by
    have hR := h R (.head _)
    have hr : ∀ X ∈ r, ∀ o ∈ X, Ro o := fun X hX => h X (.tail _ hX)
    have hrest : ∀ p ∈ strI w (a + R.length + 1) r, ((a + R.length : Nat) : Int) ≤ p.2 := fun p hp => by
      have := strI_bd hw hr p hp
      omega
    show chB (strR w a R ++ strI w (a + R.length + 1) r) b = brkR w (enc R).length a R ++ brkAll w (a + R.length + 1) r
    have e1 : chB (strR w a R ++ strI w (a + R.length + 1) r) b = chB (strR w a R ++ strI w (a + R.length + 1) r) (a : Int) := by
      refine chB_shift (N := (a : Int)) (fun p hp => ?_) hb (Int.le_refl _)
      rcases List.mem_append.mp hp with hp | hp
      · exact (strR_bd hw hR p hp).1
      · have := hrest p hp; omega
    have hge := enc_ge hR
    rw [e1, chB_row hw R a a (enc R).length hR (Nat.le_refl _) (by omega) (by omega) hrest, Nat.sub_self, List.drop_zero, chB_rows hw hr (by omega)]
theorem chB_inc : ∀ {l : List (Int × Int)} {b : Int}, (∀ p ∈ l, p.2 + 1 < p.1) → (∀ x ∈ chB l b, b < x) ∧ (chB l b).Pairwise (· < ·) ∧ (chB l b).length ≤ l.length
  | [], _, _ => ⟨fun _ h => (nomatch h), .nil, Nat.le_refl _⟩
  | p :: r, b, h => by
    have hp := h p (.head _)
    have hr : ∀ q ∈ r, q.2 + 1 < q.1 := fun q hq => h q (.tail _ hq)
    rw [chB]
    split
    · obtain ⟨i1, i2, i3⟩ := chB_inc (b := p.1 - 1) hr
      refine ⟨fun x hx => ?_, List.pairwise_cons.mpr ⟨i1, i2⟩, by simp; omega⟩
      rcases List.mem_cons.mp hx with rfl | hx
      · omega
      · have := i1 x hx; omega
    · obtain ⟨i1, i2, i3⟩ := chB_inc (b := b) hr
      exact ⟨i1, i2, by simp; omega⟩
theorem chB_met : ∀ {l : List (Int × Int)} {b : Int}, (∀ p ∈ l, p.2 + 1 < p.1) → l.Pairwise Lt2 → (∀ p ∈ l, b ≤ p.1 - 1) → ∀ p ∈ l, (∃ x ∈ chB l b, p.2 < x ∧ x ≤ p.1 - 1) ∨ (p.2 < b ∧ b ≤ p.1 - 1)
  | [], _, _, _, _, p, hp => nomatch hp
  | q :: r, b, h, hs, hb, p, hp => by
    have hq := h q (.head _)
    have hr : ∀ q ∈ r, q.2 + 1 < q.1 := fun q hq => h q (.tail _ hq)
    obtain ⟨s1, s2⟩ := List.pairwise_cons.mp hs
    rw [chB]
    split
    · have ih := chB_met (b := q.1 - 1) hr s2 fun p hp => by have := (s1 p hp).1; omega
      rcases List.mem_cons.mp hp with rfl | hp
      · exact .inl ⟨_, .head _, by omega, by omega⟩
      · rcases ih p hp with ⟨x, hx, h1⟩ | h1
        · exact .inl ⟨x, .tail _ hx, h1⟩
        · exact .inl ⟨_, .head _, h1⟩
    · rename_i hlt
      rcases List.mem_cons.mp hp with rfl | hp
      · exact .inr ⟨by omega, hb _ (.head _)⟩
      · exact chB_met hr s2 (fun p hp => hb p (.tail _ hp)) p hp
end
section
set_option Elab.async false
set_option maxRecDepth 100000
set_option maxHeartbeats 1000000
theorem mem_jnt {p : Int × Int} {x : Int} : x ∈ jnt p ↔ p.2 + 1 ≤ x ∧ x < p.1 := by
  unfold jnt
  constructor
  · intro h; have := mem_rangeKs h; omega
  · intro h; exact kre_mem h.1 (by omega)
theorem jnt_sorted (p : Int × Int) : (jnt p).Pairwise (· < ·) := range_sorted _ _
theorem apart_iff {p q : Int × Int} (h : q.1 ≤ p.1) (hq : q.2 + 1 < q.1) : (mergeF (jnt p) (jnt q)).1 = jnt p ↔ q.1 - 1 ≤ p.2 := by
  rw [merge_filter _ _ (jnt_sorted p) (jnt_sorted q)]
  dsimp only
  rw [List.filter_eq_self]
  constructor
  · intro hf
    rcases Int.lt_or_le p.2 (q.1 - 1) with hl | hl
    · have := hf (q.1 - 1) (mem_jnt.mpr (by omega))
      have hm : q.1 - 1 ∈ jnt q := mem_jnt.mpr (by omega)
      simp [hm] at this
    · exact hl
  · intro hl x hx
    have h1 := mem_jnt.mp hx
    have : x ∉ jnt q := fun hm => by have := mem_jnt.mp hm; omega
    simp [this]
theorem cho_chB {prs : List (Int × Int)} (hb : ∀ p ∈ prs, 0 ≤ p.2 ∧ p.2 + 1 < p.1) (hs : prs.Pairwise Lt2) : ∀ k, k ≤ prs.length → ∃ b, (((choSt (fun r => prs.getD r (0, 0)) k).1 = [] ∧ b = 0) ∨ ∃ q, (choSt (fun r => prs.getD r (0, 0)) k).1 = jnt q ∧ b = q.1 - 1 ∧ q.2 + 1 < q.1 ∧ ∀ p ∈ prs.drop k, q.1 ≤ p.1) ∧
    (choSt (fun r => prs.getD r (0, 0)) k).2 ++ chB (prs.drop k) b = chB prs 0
  | 0, _ => ⟨0, .inl ⟨rfl, rfl⟩, rfl⟩
  | k + 1, hk => by
    obtain ⟨b, hc, he⟩ := cho_chB hb hs k (by omega)
    have hd : prs.drop k = prs.getD k (0, 0) :: prs.drop (k + 1) := by rw [List.drop_eq_getElem_cons (by omega), List.getD_eq_getElem?_getD, List.getElem?_eq_getElem (by omega)]; rfl
    have hmem : prs.getD k (0, 0) ∈ prs := by rw [List.getD_eq_getElem?_getD, List.getElem?_eq_getElem (by omega)]; exact List.getElem_mem _
    have hp := hb _ hmem
    have hpw : (prs.drop k).Pairwise Lt2 := hs.sublist (List.drop_sublist _ _)
    rw [hd] at he hc hpw
    have hlater := (List.pairwise_cons.mp hpw).1
    have hcond : (mergeF (jnt (prs.getD k (0, 0))) (choSt (fun r => prs.getD r (0, 0)) k).1).1 = jnt (prs.getD k (0, 0)) ↔ b ≤ (prs.getD k (0, 0)).2 := by
      rcases hc with ⟨h1, rfl⟩ | ⟨q, h1, rfl, h2, h3⟩
      · rw [h1, merge_nil2]; exact ⟨fun _ => hp.1, fun _ => rfl⟩
      · rw [h1]; exact apart_iff (h3 _ (.head _)) h2
    rw [chB] at he
    by_cases hq : b ≤ (prs.getD k (0, 0)).2
    · rw [if_pos hq] at he
      rw [cho_yes (pr := fun r => prs.getD r (0, 0)) (hcond.mpr hq)]
      exact ⟨_, .inr ⟨prs.getD k (0, 0), rfl, rfl, hp.2, fun p hp => (hlater p hp).1⟩, by rw [← he]; simp⟩
    · rw [if_neg hq] at he
      rw [cho_no (pr := fun r => prs.getD r (0, 0)) (fun z => hq (hcond.mp z))]
      exact ⟨b, hc.imp id fun ⟨q, h1, h2, h3, h4⟩ => ⟨q, h1, h2, h3, fun p hp => h4 p (.tail _ hp)⟩, he⟩
theorem cho_all {prs : List (Int × Int)} (hb : ∀ p ∈ prs, 0 ≤ p.2 ∧ p.2 + 1 < p.1) (hs : prs.Pairwise Lt2) : (choSt (fun r => prs.getD r (0, 0)) prs.length).2 = chB prs 0 := by
  obtain ⟨b, _, h⟩ := cho_chB hb hs prs.length (Nat.le_refl _)
  rw [List.drop_length, chB, List.append_nil] at h
  exact h
theorem met_all {prs : List (Int × Int)} (hb : ∀ p ∈ prs, 0 ≤ p.2 ∧ p.2 + 1 < p.1) (hs : prs.Pairwise Lt2) : ∀ p ∈ prs, (mergeF (jnt p) (chB prs 0)).1 ≠ jnt p := by
  intro p hp
  have hinc := chB_inc (l := prs) (b := 0) fun p hp => (hb p hp).2
  rw [merge_filter _ _ (jnt_sorted p) hinc.2.1]
  dsimp only
  intro e
  rw [List.filter_eq_self] at e
  rcases chB_met (b := 0) (fun p hp => (hb p hp).2) hs (fun p hp => by have := hb p hp; omega) p hp with ⟨x, hx, h1, h2⟩ | h
  · have := e x (mem_jnt.mpr (by omega))
    simp [hx] at this
  · have := hb p hp; omega
-- the stretches as the law tells them
theorem rangeKs_add (a : Int) : ∀ (k m : Nat), rangeKs a (k + m) = rangeKs a k ++ rangeKs (a + (k : Int)) m
  | 0, m => by simp [rangeKs]
  | k + 1, m => by
    rw [show k + 1 + m = (k + m) + 1 by omega, kll_cons, kll_cons, rangeKs_add (a + 1) k m, List.cons_append]
    congr 3
    omega
noncomputable def szs (mk : List Nat) (l : List Nat) : List Int := l.map fun o => ((signL mk o).length : Int)
theorem szs_sum {mk : List Nat} : ∀ {R : List Nat} (j : Nat), (∀ o ∈ R, Ro o) → ((szs mk R).take j).sum = ((enc (R.take j)).length : Int)
  | [], j, _ => by simp [szs, enc]
  | o :: r, 0, _ => by simp [enc]
  | o :: r, j + 1, h => by
    have ih := szs_sum (mk := mk) (R := r) j fun x hx => h x (.tail _ hx)
    have e : signL mk o = encL o := by
      unfold signL
      rw [if_neg (by have := h o (.head _); unfold Ro at this; omega)]
    show ((((signL mk o).length : Nat) : Int) :: (szs mk r).take j).sum = _
    rw [List.sum_cons, ih, e, List.take_succ_cons, enc_cons, List.length_append]
    omega
theorem enc_take_le {R : List Nat} (h : ∀ o ∈ R, Ro o) {j : Nat} (hj : j < R.length) : (enc (R.take j)).length + 1 ≤ (enc R).length := by
  have e : enc R = enc (R.take j) ++ enc (R.drop j) := by rw [← enc_app, List.take_append_drop]
  have h2 := enc_ge (R := R.drop j) fun o ho => h o (List.mem_of_mem_drop ho)
  rw [List.length_drop] at h2
  rw [e, List.length_append]; omega
theorem enc_take_mono (R : List Nat) {i j : Nat} (h : i ≤ j) : (enc (R.take i)).length ≤ (enc (R.take j)).length := by
  have e : R.take j = R.take i ++ (R.take j).drop i := by
    have := List.take_append_drop i (R.take j)
    rw [List.take_take, Nat.min_eq_left h] at this
    exact this.symm
  rw [e, enc_app, List.length_append]; omega
theorem ovP_row {mk : List Nat} {w : Nat} (hw : 4 ≤ w) {pre post : List Int} {S : List Nat} (h : ∀ o ∈ S, Ro o) (hS : S ≠ []) :
    ovP (pre ++ (szs mk S ++ post)) w (pre.length : Int) ((pre.length + S.length : Nat) : Int) = if w < (enc S).length then [(((pre.length + fit (w - 1) S + 1 : Nat) : Int), ((pre.length : Nat) : Int))] else [] := by
  have hn : 0 < S.length := List.length_pos_iff.mpr hS
  have hlz : (szs mk S).length = S.length := by simp [szs]
  have test : ∀ j, 1 ≤ j → j ≤ S.length → ovT (pre ++ (szs mk S ++ post)) w (pre.length : Int) ((pre.length + S.length : Nat) : Int) ((pre.length : Int) + 1 + ((j - 1 : Nat) : Int)) = decide (w < (enc (S.take j)).length + (if j = S.length then 0 else 1)) := fun j h1 h2 => by
    unfold ovT
    have e1 : ((pre.length : Int) + 1 + ((j - 1 : Nat) : Int)) = ((pre.length + j : Nat) : Int) := by omega
    rw [e1, Int.toNat_natCast, Int.toNat_natCast, List.drop_left, show min (pre.length + j) (pre ++ (szs mk S ++ post)).length - pre.length = j by rw [List.length_append, List.length_append, hlz]; omega, List.take_append_of_le_length (by rw [hlz]; exact h2), szs_sum j h]
    by_cases e : j = S.length
    · rw [if_pos (by omega), if_pos e]
      congr 1
      apply propext
      omega
    · rw [if_neg (by omega), if_neg e]
      congr 1
      apply propext
      omega
  have hrng : (((pre.length + S.length : Nat) : Int) + 1 - ((pre.length : Int) + 1)).toNat = S.length := by omega
  unfold ovP ovF
  rw [hrng]
  by_cases hl : w < (enc S).length
  · rw [if_pos hl]
    obtain ⟨k1, k2⟩ := fit_next (c := w - 1) (R := S) (by omega)
    obtain ⟨_, k3⟩ := fit_le (w - 1) S
    generalize fit (w - 1) S = k at *
    obtain ⟨m, hm⟩ : ∃ m, S.length = k + (m + 1) := ⟨S.length - k - 1, by omega⟩
    have hf1 : (rangeKs ((pre.length : Int) + 1) k).filter (fun last => ovT (pre ++ (szs mk S ++ post)) w (pre.length : Int) ((pre.length + S.length : Nat) : Int) last) = [] := by
      rw [List.filter_eq_nil_iff]
      intro x hx
      have hx' := mem_rangeKs hx
      obtain ⟨j, hj⟩ : ∃ j : Nat, x = (pre.length : Int) + 1 + (j : Int) := ⟨(x - ((pre.length : Int) + 1)).toNat, by omega⟩
      have ht := test (j + 1) (by omega) (by omega)
      rw [Nat.add_sub_cancel, ← hj] at ht
      rw [ht]
      have hle := enc_take_mono S (i := j + 1) (j := k) (by omega)
      simp only [decide_eq_true_eq]
      split <;> omega
    have hf2 : ovT (pre ++ (szs mk S ++ post)) w (pre.length : Int) ((pre.length + S.length : Nat) : Int) ((pre.length : Int) + 1 + (k : Int)) = true := by
      have ht := test (k + 1) (by omega) (by omega)
      rw [Nat.add_sub_cancel] at ht
      rw [ht, decide_eq_true_eq]
      split
      · rename_i e
        rw [e, List.take_length]; omega
      · omega
    rw [hm, rangeKs_add, List.filter_append]
    rw [hm] at hf1 hf2
    rw [hf1, List.nil_append, kll_cons, List.filter_cons, if_pos hf2]
    show [((pre.length : Int) + 1 + (k : Int), (pre.length : Int))] = _
    rw [show ((pre.length : Int) + 1 + (k : Int)) = ((pre.length + k + 1 : Nat) : Int) by omega]
  · rw [if_neg hl]
    have : (rangeKs ((pre.length : Int) + 1) S.length).filter (fun last => ovT (pre ++ (szs mk S ++ post)) w (pre.length : Int) ((pre.length + S.length : Nat) : Int) last) = [] := by
      rw [List.filter_eq_nil_iff]
      intro x hx
      have hx' := mem_rangeKs hx
      obtain ⟨j, hj⟩ : ∃ j : Nat, x = (pre.length : Int) + 1 + (j : Int) := ⟨(x - ((pre.length : Int) + 1)).toNat, by omega⟩
      have ht := test (j + 1) (by omega) (by omega)
      rw [Nat.add_sub_cancel, ← hj] at ht
      rw [ht]
      simp only [decide_eq_true_eq]
      split
      · rename_i e
        rw [e, List.take_length]; omega
      · have := enc_take_le h (j := j + 1) (by omega)
        omega
    rw [this]
theorem strRow_row {mk : List Nat} {w : Nat} (hw : 4 ≤ w) {post : List Int} : ∀ (S : List Nat) (pre : List Int), (∀ o ∈ S, Ro o) →
    ((rangeKs (pre.length : Int) S.length).map fun f => ovP (pre ++ (szs mk S ++ post)) w f ((pre.length + S.length : Nat) : Int)).flatten = strR w pre.length S
  | [], pre, _ => by simp [rangeKs, strR]
  | o :: r, pre, h => by
    have ih := strRow_row (mk := mk) (post := post) hw r (pre ++ [((signL mk o).length : Int)]) fun x hx => h x (.tail _ hx)
    have e1 : pre ++ [((signL mk o).length : Int)] ++ (szs mk r ++ post) = pre ++ (szs mk (o :: r) ++ post) := by simp [szs]
    rw [e1, List.length_append, List.length_singleton, show pre.length + 1 + r.length = pre.length + (o :: r).length by rw [List.length_cons]; omega] at ih
    rw [List.length_cons, kll_cons, List.map_cons, List.flatten_cons, strR, ← ih, ← List.length_cons (a := o)]
    congr 1
    exact ovP_row hw h (by simp)
-- rows
noncomputable def rowsP : Nat → List (List Nat) → List (Int × Int)
  | _, [] => []
  | a, R :: r => ((a : Int), ((a + R.length : Nat) : Int)) :: rowsP (a + R.length + 1) r
noncomputable def endsA : Nat → List Nat → List Int
  | _, [] => []
  | a, o :: r => (if o = 10 then [(a : Int)] else []) ++ endsA (a + 1) r
theorem endsF_A : ∀ (l pre : List Nat), endsF ((pre ++ l).map fun o : Nat => (o : Int)) (pre.length + l.length) = endsF ((pre ++ l).map fun o : Nat => (o : Int)) pre.length ++ endsA pre.length l
  | [], pre => by simp [endsA]
  | o :: r, pre => by
    have ih := endsF_A r (pre ++ [o])
    rw [show pre ++ [o] ++ r = pre ++ (o :: r) by simp, List.length_append, List.length_singleton, show pre.length + 1 + r.length = pre.length + (o :: r).length by rw [List.length_cons]; omega] at ih
    rw [ih, ends_next, List.append_assoc]
    congr 2
    have : ((pre ++ (o :: r)).map fun o : Nat => (o : Int)).getD pre.length 0 = (o : Int) := by simp
    rw [this]
    by_cases h : o = 10
    · subst h; simp
    · rw [if_neg (by omega), if_neg h]
noncomputable def zr : Int → List Int → Int → List (Int × Int)
  | s, [], e => [(s, e)]
  | s, x :: r, e => (s, x) :: zr (x + 1) r e
theorem zip_zr : ∀ (s : Int) (ends : List Int) (e : Int), (s :: ends.map fun z => z + 1).zip (ends ++ [e]) = zr s ends e
  | s, [], e => rfl
  | s, x :: r, e => by
    show (s, x) :: ((x + 1) :: r.map fun z => z + 1).zip (r ++ [e]) = _
    rw [zip_zr (x + 1) r e]; rfl
theorem zr_rows : ∀ (l : List Nat) (s b : Nat), zr (s : Int) (endsA b l) ((b + l.length : Nat) : Int) = match rowsN l with
    | p :: ps => ((s : Int), ((b + p.length : Nat) : Int)) :: rowsP (b + p.length + 1) ps
    | [] => []
  | [], s, b => rfl
  | o :: r, s, b => by
    obtain ⟨p, ps, e⟩ := rowsN_ne r
    have e5 : b + (o :: r).length = b + 1 + r.length := by rw [List.length_cons]; omega
    rw [endsA, rowsN, e5]
    by_cases h : o = 10
    · rw [if_pos h, if_pos h]
      have ih := zr_rows r (b + 1) (b + 1)
      rw [e] at ih ⊢
      dsimp only at ih ⊢
      show ((s : Int), (b : Int)) :: zr ((b : Int) + 1) (endsA (b + 1) r) _ = _
      rw [show ((b : Int) + 1) = ((b + 1 : Nat) : Int) by omega, ih]
      rfl
    · rw [if_neg h, if_neg h, List.nil_append]
      have ih := zr_rows r s (b + 1)
      rw [e] at ih ⊢
      dsimp only at ih ⊢
      rw [ih, List.length_cons, show b + 1 + p.length = b + (p.length + 1) by omega]
theorem rowsZ_eq (l : List Nat) : rowsZ (l.map fun o : Nat => (o : Int)) = rowsP 0 (rowsN l) := by
  have h := endsF_A l []
  rw [List.nil_append, List.length_nil, Nat.zero_add, show endsF (l.map fun o : Nat => (o : Int)) 0 = [] from rfl, List.nil_append] at h
  unfold rowsZ
  rw [List.length_map, h]
  show ((0 : Int) :: (endsA 0 l).map fun z => z + 1).zip (endsA 0 l ++ [(l.length : Int)]) = _
  rw [zip_zr]
  have := zr_rows l 0 0
  rw [Nat.zero_add] at this
  rw [show ((0 : Nat) : Int) = 0 from rfl] at this
  rw [this]
  obtain ⟨p, ps, e⟩ := rowsN_ne l
  rw [e]; rfl
theorem strAll_rows {mk : List Nat} {w : Nat} (hw : 4 ≤ w) : ∀ (rows : List (List Nat)) (pre : List Int), rows ≠ [] → (∀ R ∈ rows, ∀ o ∈ R, Ro o) →
    ((rowsP pre.length rows).map fun r => strRow (pre ++ szs mk (joinNL rows)) w r.1 r.2).flatten = strI w pre.length rows
  | [], _, h, _ => absurd rfl h
  | [R], pre, _, h => by
    have h1 := strRow_row (mk := mk) (post := []) hw R pre (h R (.head _))
    rw [List.append_nil] at h1
    show (strRow (pre ++ szs mk R) w (pre.length : Int) ((pre.length + R.length : Nat) : Int)) ++ [] = strR w pre.length R ++ []
    unfold strRow
    rw [show (((pre.length + R.length : Nat) : Int) - (pre.length : Int)).toNat = R.length by omega, h1]
  | R :: T :: r, pre, _, h => by
    have ih := strAll_rows (mk := mk) hw (T :: r) (pre ++ (szs mk R ++ [((signL mk 10).length : Int)])) (by simp) fun X hX => h X (.tail _ hX)
    have h1 := strRow_row (mk := mk) (post := ((signL mk 10).length : Int) :: szs mk (joinNL (T :: r))) hw R pre (h R (.head _))
    have e1 : pre ++ (szs mk R ++ [((signL mk 10).length : Int)]) ++ szs mk (joinNL (T :: r)) = pre ++ szs mk (joinNL (R :: T :: r)) := by
      show _ = pre ++ szs mk (R ++ (10 :: joinNL (T :: r)))
      simp [szs]
    have e2 : pre ++ (szs mk R ++ (((signL mk 10).length : Int) :: szs mk (joinNL (T :: r)))) = pre ++ szs mk (joinNL (R :: T :: r)) := by
      show _ = pre ++ szs mk (R ++ (10 :: joinNL (T :: r)))
      simp [szs]
    have e3 : (pre ++ (szs mk R ++ [((signL mk 10).length : Int)])).length = pre.length + R.length + 1 := by simp [szs]; omega
    rw [e1, e3] at ih
    rw [e2] at h1
    show (strRow (pre ++ szs mk (joinNL (R :: T :: r))) w (pre.length : Int) ((pre.length + R.length : Nat) : Int)) ++ _ = strR w pre.length R ++ strI w (pre.length + R.length + 1) (T :: r)
    rw [← ih]
    congr 1
    unfold strRow
    rw [show (((pre.length + R.length : Nat) : Int) - (pre.length : Int)).toNat = R.length by omega, h1]
theorem strAll_eq {mk : List Nat} {w : Nat} (hw : 4 ≤ w) {l : List Nat} (h : ∀ o ∈ l, Oc o) : strAll (l.map fun o : Nat => (o : Int)) (szs mk l) w = strI w 0 (rowsN l) := by
  unfold strAll
  rw [rowsZ_eq]
  obtain ⟨p, ps, e⟩ := rowsN_ne l
  have := strAll_rows (mk := mk) hw (rowsN l) [] (by rw [e]; simp) (rowsN_ok h)
  rw [rowsN_join] at this
  exact this
end
section
set_option Elab.async false
set_option maxRecDepth 100000
set_option maxHeartbeats 1000000
theorem lines_sub {mk : List Nat} (hm : Mk mk) : ∀ it, Gd it → ∀ y ∈ linesG false (bod mk it), y ∈ it.map pieceOf
  | [], h, _, _ => h.elim
  | [(C, s)], h, y, hy => by
    have e : linesG false (pieceOf (C, s)) = _ := lines_one (piece_chars h.2)
    rw [show bod mk [(C, s)] = pieceOf (C, s) from rfl, e] at hy
    split at hy
    · cases hy
    · rw [List.mem_singleton.mp hy]; exact .head _
  | (C, s) :: x :: r, h, y, hy => by
    obtain ⟨h1, h2, h3⟩ := gd_more.mp h
    rw [show bod mk ((C, s) :: x :: r) = pieceOf (C, s) ++ (mk ++ bod mk (x :: r)) from rfl, lines_mk hm (piece_chars h1)] at hy
    rcases List.mem_cons.mp hy with rfl | hy
    · exact .head _
    · exact .tail _ (lines_sub hm (x :: r) h3 y hy)
theorem bod_len {mk : List Nat} (hm : mk.length ≤ 2) {w : Nat} : ∀ it : List (List Nat × Bool), (∀ p ∈ it, (pieceOf p).length ≤ w) → (bod mk it).length ≤ it.length * (w + 2)
  | [], _ => by simp [bod]
  | [x], h => by
    have := h x (.head _)
    show (pieceOf x).length ≤ _
    simp; omega
  | x :: y :: r, h => by
    have h1 := h x (.head _)
    have ih := bod_len hm (y :: r) fun p hp => h p (.tail _ hp)
    show (pieceOf x ++ (mk ++ bod mk (y :: r))).length ≤ _
    rw [List.length_append, List.length_append, List.length_cons, Nat.succ_mul]
    omega
theorem lex_of {prs : List (Int × Int)} (hs : prs.Pairwise Lt2) {i j : Nat} (hi : i < prs.length) (hj : j < prs.length) : lex (prs.getD i (0, 0)) (prs.getD j (0, 0)) = decide (i < j) := by
  have key : ∀ {i j : Nat}, i < j → j < prs.length → Lt2 (prs.getD i (0, 0)) (prs.getD j (0, 0)) := fun {i j} h hj => by
    rw [List.getD_eq_getElem?_getD, List.getD_eq_getElem?_getD, List.getElem?_eq_getElem (by omega), List.getElem?_eq_getElem hj]
    exact List.pairwise_iff_getElem.mp hs i j (by omega) hj h
  unfold lex
  rcases Nat.lt_trichotomy i j with h | h | h
  · obtain ⟨h1, h2⟩ := key h hj
    rw [decide_eq_true h]
    by_cases e : (prs.getD i (0, 0)).1 < (prs.getD j (0, 0)).1
    · rw [decide_eq_true e]; rfl
    · rw [decide_eq_true (show (prs.getD i (0, 0)).1 = (prs.getD j (0, 0)).1 by omega), decide_eq_true h2, Bool.and_self, Bool.or_true]
  · subst h
    rw [decide_eq_false (Nat.lt_irrefl _), decide_eq_false (Int.lt_irrefl _), decide_eq_false (Int.lt_irrefl _), Bool.and_false]; rfl
  · obtain ⟨h1, h2⟩ := key h hi
    rw [decide_eq_false (show ¬ i < j by omega), decide_eq_false (show ¬ (prs.getD i (0, 0)).1 < (prs.getD j (0, 0)).1 by omega), decide_eq_false (show ¬ (prs.getD i (0, 0)).2 < (prs.getD j (0, 0)).2 by omega), Bool.and_false]; rfl
section
variable {l mk : List Nat} {w : Nat} (hl : l.length = 11) (ho : ∀ o ∈ l, Oc o) (hw : 4 ≤ w) (hw2 : w ≤ 8) (hm : Mk mk)
include hl ho hw hw2 hm
theorem pl_ne : l ≠ [] := by intro e; subst e; simp at hl
theorem pl_it : Gd (items w l) ∧ txt (items w l) = l ∧ (∀ p ∈ items w l, (pieceOf p).length ≤ w) ∧ encPcs w l = (items w l).map pieceOf ∧ List.intercalate mk (encPcs w l) = bod mk (items w l) := by
  obtain ⟨p, ps, e⟩ := rowsN_ne l
  obtain ⟨h1, h2, h3⟩ := itemsR_ok hw (rows := rowsN l) (by rw [e]; simp) (rowsN_ok ho)
  rw [rowsN_join] at h2
  have h4 := encPcs_items hw ho (pl_ne hl ho hw hw2 hm)
  exact ⟨h1, h2, h3, h4, by rw [h4]; exact bod_inter mk _⟩
theorem p_split : splitG mk 0 (List.intercalate mk (encPcs w l)) = encPcs w l := by
  obtain ⟨h1, h2, h3, h4, h5⟩ := pl_it hl ho hw hw2 hm
  rw [h5, h4]; exact bod_split hm _ h1
theorem p_repl : (splitG (61 :: mk) 0 (List.intercalate mk (encPcs w l))).flatten = (l.map (signL mk)).flatten := by
  obtain ⟨h1, h2, h3, h4, h5⟩ := pl_it hl ho hw hw2 hm
  rw [h5, bod_repl hm _ h1, sgn_txt h1, h2]
theorem p_dec : decAll (List.intercalate mk (encPcs w l)) = l := by
  obtain ⟨h1, h2, h3, h4, h5⟩ := pl_it hl ho hw hw2 hm
  rw [h5, body_dec hm h1, h2]
theorem p_wide : ∀ y ∈ encPcs w l, y.length ≤ w := by
  obtain ⟨h1, h2, h3, h4, h5⟩ := pl_it hl ho hw hw2 hm
  rw [h4]
  intro y hy
  obtain ⟨p, hp, rfl⟩ := List.mem_map.mp hy
  exact h3 p hp
theorem p_chars : ∀ y ∈ encPcs w l, ∀ c ∈ y, 33 ≤ c ∧ c ≤ 126 := by
  obtain ⟨h1, h2, h3, h4, h5⟩ := pl_it hl ho hw hw2 hm
  rw [h4]
  intro y hy
  obtain ⟨p, hp, rfl⟩ := List.mem_map.mp hy
  exact piece_chars (gd_rows h1 p hp)
theorem p_linesT : ∀ y ∈ linesG false (encT l), ∀ c ∈ y, 32 < c := by
  intro y hy c hc
  have h1 : y ∈ (rowsN l).map enc := by rw [← rowsN_lines ho]; exact List.mem_append_left _ hy
  obtain ⟨R, hR, rfl⟩ := List.mem_map.mp h1
  exact (enc_chars (rowsN_ok ho R hR) c hc).1
theorem p_linesB : ∀ y ∈ linesG false (List.intercalate mk (encPcs w l)), ∀ c ∈ y, Unicode.isSpace c = false := by
  obtain ⟨h1, h2, h3, h4, h5⟩ := pl_it hl ho hw hw2 hm
  rw [h5]
  intro y hy c hc
  have := lines_sub hm _ h1 y hy
  rw [← h4] at this
  have := p_chars hl ho hw hw2 hm y this c hc
  exact (char_ok this.1 this.2).2
theorem p_linesP : ∀ z ∈ encPcs w l, ∀ y ∈ linesG false z, ∀ c ∈ y, Unicode.isSpace c = false := by
  intro z hz y hy c hc
  have hch := p_chars hl ho hw hw2 hm z hz
  rw [lines_one hch] at hy
  split at hy
  · cases hy
  · rw [List.mem_singleton.mp hy] at hc
    exact (char_ok (hch c hc).1 (hch c hc).2).2
theorem p_count : (encPcs w l).length < 100 := by
  have h1 := all_bound w (encT l) (linesG false (encT l)).length
  rw [List.take_length] at h1
  have h2 := encT_len l
  show (pcsAll w (linesG false (encT l)) ++ _).length < 100
  rw [List.length_append]
  split
  · simp; omega
  · simp; omega
theorem p_len : (List.intercalate mk (encPcs w l)).length < 1000 := by
  obtain ⟨h1, h2, h3, h4, h5⟩ := pl_it hl ho hw hw2 hm
  have h6 := p_count hl ho hw hw2 hm
  rw [h4, List.length_map] at h6
  have h7 := bod_len (mk := mk) (by rcases hm with rfl | rfl <;> simp) (items w l) h3
  rw [h5]
  have h8 := all_bound w (encT l) (linesG false (encT l)).length
  rw [List.take_length] at h8
  have h9 := encT_len l
  have h10 : (items w l).length ≤ 35 := by
    rw [← List.length_map (f := pieceOf), ← h4]
    show (pcsAll w (linesG false (encT l)) ++ _).length ≤ 35
    rw [List.length_append]
    split
    · simp; omega
    · simp; omega
  have h11 : (items w l).length * (w + 2) ≤ 35 * 10 := Nat.mul_le_mul h10 (by omega)
  omega
theorem p_str : (strAll (l.map fun o : Nat => (o : Int)) (szs mk l) w).length < 12 ∧ (∀ p ∈ strAll (l.map fun o : Nat => (o : Int)) (szs mk l) w, 0 ≤ p.2 ∧ p.2 + 1 < p.1 ∧ p.1 ≤ 50) ∧ (strAll (l.map fun o : Nat => (o : Int)) (szs mk l) w).Pairwise Lt2 ∧
    chB (strAll (l.map fun o : Nat => (o : Int)) (szs mk l) w) 0 = brkF 0 (encPcs w l) := by
  obtain ⟨h1, h2, h3, h4, h5⟩ := pl_it hl ho hw hw2 hm
  rw [strAll_eq hw ho]
  have hr := rowsN_ok ho
  have e1 := strI_len (w := w) (rows := rowsN l) (a := 0)
  rw [rowsN_join] at e1
  refine ⟨by omega, fun p hp => ?_, strI_sorted hw hr, ?_⟩
  · have := strI_bd hw hr p hp
    rw [rowsN_join] at this
    omega
  · rw [chB_rows hw hr (by omega), h4, brk_items _ _ (gd_rows h1), ← brkI_rows]; rfl
end
end
section
set_option Elab.async false
set_option maxRecDepth 100000
set_option maxHeartbeats 8000000
theorem add_fresh {prog : Program} {w : World} {A : Around} {E : Value → Shared → Prop} {s : Shared} {Q : Value → Shared → Prop} {x : Str} {l l' : List Nat} {t u : Tok} (hx : x = S l) (h1 : l ≠ []) (h2 : l' ≠ []) (hl : l.length + l'.length < 1000)
    (h : Q (.str (S (l ++ l')) s.toks) { s with toks := s.toks + 1 }) : wpAny (model prog w) A (binaryOp .Add (.str x t) (.str (S l') u)) Q E s := by
  subst hx
  refine P.add_str ?_
  have e1 : ((S l).length == 0) = false := by rw [S_len]; simpa using h1
  have e2 : ((S l').length == 0) = false := by rw [S_len]; simpa using h2
  rw [e1, e2]
  simp only [Bool.false_eq_true, if_false]
  rw [S_app]
  exact ⟨by rw [S_len, List.length_append, show sizeLine = 16777216 from rfl]; omega, h⟩
theorem repl_S {prog : Program} {w : World} {A : Around} {E : Value → Shared → Prop} {s : Shared} {Q : Value → Shared → Prop} {l y : List Nat} {t u v : Tok} (hu : u ≠ 0) (hv : v ≠ 0) (huv : u ≠ v) (hy : y ≠ []) (hl : l.length < 1000)
    (h : ∀ t' k, Q (.str (S (splitG y 0 l).flatten) t') { s with toks := k }) : wpAny (model prog w) A (call (.builtin "str.replace") [.str (S l) t, .str (S y) u, .str (S []) v]) Q E s := by
  refine SC.replace hu hv huv ?_ (by rw [S_len, S_len]; simp; omega) fun t' k => ?_
  · cases e : (S y == S []) with
    | false => rfl
    | true => exact absurd (S_inj (eq_of_beq e)) hy
  · rw [replace_S l y hy]; exact h t' k
theorem getD_memL {l : List (List Nat)} {i : Nat} (h : i < l.length) : l.getD i [] ∈ l := by
  rw [List.getD_eq_getElem?_getD, List.getElem?_eq_getElem h]; exact List.getElem_mem _
theorem sig_len {mk : List Nat} (hm : Mk mk) {o : Nat} (h : Oc o) : 1 ≤ (signL mk o).length ∧ (signL mk o).length ≤ 3 := by
  unfold signL
  split
  · rcases hm with rfl | rfl <;> simp
  · exact encL_pos (h.resolve_left (by assumption))
theorem sig_sum {mk : List Nat} (hm : Mk mk) {l : List Nat} (h : ∀ o ∈ l, Oc o) : ((l.map (signL mk)).map List.length).sum ≤ 3 * l.length := by
  induction l with
  | nil => simp
  | cons a r ih =>
    have h1 := sig_len hm (h a (.head _))
    have := ih fun o ho => h o (.tail _ ho)
    simp at this ⊢; omega
theorem szs_take {mk l : List Nat} {i : Nat} (h : i < l.length) : (szs mk l).take (i + 1) = (szs mk l).take i ++ [((signL mk (l.getD i 0)).length : Int)] := by
  have hl : i < (szs mk l).length := by unfold szs; rw [List.length_map]; exact h
  rw [List.take_add_one, List.getElem?_eq_getElem hl, List.getD_eq_getElem?_getD, List.getElem?_eq_getElem h]
  simp [szs]
theorem tups_rk {ws : List Value} {prs : List (Int × Int)} {tps : List (Addr × Obj)} (h : TupsAre ws prs tps) : ∃ ad : Nat → Addr, ws = (List.range prs.length).map (fun r => Value.ref (ad r)) ∧ ∀ r, r < prs.length → ∃ t u, (ad r, tup2 (prs.getD r (0, 0)).1 (prs.getD r (0, 0)).2 t u) ∈ tps := by
  obtain ⟨h1, h2⟩ := h
  refine ⟨fun r => match ws[r]? with | some (.ref a) => a | _ => 0, ?_, fun r hr => ?_⟩
  · apply List.ext_getElem
    · simp [h1]
    · intro k k1 k2
      obtain ⟨a, t, u, e, _⟩ := h2 k (by omega)
      rw [List.getElem?_eq_getElem k1] at e
      simp only [List.getElem_map, List.getElem_range, List.getElem?_eq_getElem k1]
      rw [Option.some.inj e]
  · obtain ⟨a, t, u, e, m⟩ := h2 r hr
    refine ⟨t, u, ?_⟩
    simp only [e]; exact m
theorem inter_nil : ∀ ls : List (List Nat), List.intercalate [] ls = ls.flatten
  | [] => rfl
  | [x] => by simp [List.intercalate]
  | x :: y :: r => by
    have ih := inter_nil (y :: r)
    rw [List.flatten_cons, ← ih]
    simp [List.intercalate]
theorem one_flat (l : List Nat) : (l.map fun o => [o]).flatten = l := by
  induction l with
  | nil => rfl
  | cons a r ih => simp [ih]
theorem one_sum (l : List Nat) : ((l.map fun o => [o]).map List.length).sum = l.length := by
  induction l with
  | nil => rfl
  | cons a r ih => simp at ih ⊢; omega
theorem octs_at {vs : List Value} {octs : List Nat} {v : Value} {i : Nat} (hi : IntsAre vs (octs.map fun o : Nat => (o : Int))) (hv : vs.toArray[i]? = some v) : ∃ t, v = .int ((octs.getD i 0 : Nat) : Int) t ∧ i < octs.length := by
  obtain ⟨t, h1, h2⟩ := ints_at hi hv
  rw [List.length_map] at h2
  refine ⟨t, ?_, h2⟩
  rw [h1, List.getD_eq_getElem?_getD, List.getD_eq_getElem?_getD, List.getElem?_map, List.getElem?_eq_getElem h2]
  rfl
theorem getD_mem {l : List Nat} {i : Nat} (h : i < l.length) : l.getD i 0 ∈ l := by
  rw [List.getD_eq_getElem?_getD, List.getElem?_eq_getElem h]; exact List.getElem_mem _
theorem take_mapT {f : Nat → List Nat} {l : List Nat} {i : Nat} (h : i < l.length) : (l.take (i + 1)).map f = (l.take i).map f ++ [f (l.getD i 0)] := by
  rw [List.take_add_one, List.getElem?_eq_getElem h, List.map_append, List.getD_eq_getElem?_getD, List.getElem?_eq_getElem h]; rfl
section
variable {w : World} {mean : ExcName → Option Value} {mg mb : Str → Option Value}
    {dp un : Nat} {gd : Option (List Code)} {cn : Str} {cs : Scope} {a : Addr} {ccd : Value} {cl : List (Str × Addr)} {outer : List Env} {A₀ : Around} {base h₀ : Heap} {L : Addr} {m : Str → Option Value} {s : Shared} {Q E : Value → Shared → Prop}
    (B : Below A₀ base outer h₀) (F : Fr h₀ L s.heap m) (X : (Kf w.params).In h₀) (T : Top q (looseW q loose) mean mg mb h₀) (hk : cs.kind = .function)
    (XB : (Kf w.params).In base) (TB : Top q (looseW q loose) mean mg mb base) (D : KtsDicts (outer.filterMap (·.frame)) h₀)
include B F X T hk XB TB D
theorem hold_spec {lo : Addr} {vs : List Value} {octs mk : List Nat} {c wd : Nat} {tw tm : Tok} {news : List (Addr × Obj)} (N : News h₀ L s.heap ((lo, listOf vs.toArray c) :: news)) (hd : dp + 8 < recursionLimit) (hu : un + 600 < cLine)
    (hi : IntsAre vs (octs.map fun o : Nat => (o : Int))) (hl : octs.length = 11) (ho : ∀ o ∈ octs, Oc o) (hw : 4 ≤ wd) (hw2 : wd ≤ 8) (hm : Mk mk)
    (hret : ∀ h₀' h' tk', KtsTurn (outer.filterMap (·.frame)) h₀ h₀' → Fr h₀' L h' m → News h₀' L h' ((lo, listOf vs.toArray c) :: news) →
      Below A₀ base outer h₀' → (Kf w.params).In h₀' → Top q (looseW q loose) mean mg mb h₀' → KtsDicts (outer.filterMap (·.frame)) h₀' → Q (.bool true) { s with heap := h', toks := tk' }) :
    wpAny (model PySem.Challenge.rw_op0130_01.prog w) (ktrTop dp un gd cn cs L a ccd cl outer) (call (.ref 160) [.ref lo, .int (wd : Int) tw, .str (S mk) tm]) Q E s := by
  revert X; k_fill; intro X
  refine wpAny_call ?_
  k_dflt (refine' callS_cells (g₀ := h₀) (binds := [(Str.ofString "octets", .ref lo), (Str.ofString "width", .int (wd : Int) tw), (Str.ofString "mark", .str (S mk) tm)]) ?k1 ?k2 ?k3 ?k4 ?k5 XB TB D KtsTurn.refl ?kA ?kF ?kK ?k6 ?k7 ?k8 ?k9 ?kB ?kD ?_ ?c2 ?c3 ?c4; (case kA => exact rfl); (case kF => exact rfl); (case kK => assumption); (case k1 => k_asm); (case k2 => k_asm); (case k3 => k_asm); (case k4 => k_asm); (case k5 => k_asm); (case k6 => k_is); (case k7 => k_is); (case k8 => ktr_room); (case k9 => exact BindsTo.of_eq rfl); (case kB => exact rfl); (case kD => decide +kernel); (case c2 => exact rfl); (case c3 => exact rfl); (case c4 => exact rfl); k_whole; intro g' L' h' tk' cells' FG' F' N' Y' B' X' T' D' l1'; (try k_lt l1'); (try dsimp only); (try k_fold))
  obtain ⟨o1, o2, hE, d1, d2⟩ := CellsAre.two Y'; subst hE; clear Y'
  replace d1 : o1.data = .cell (some (.str (S mk) tm)) := d1
  replace d2 : o2.data = .cell (some (.int (wd : Int) tw)) := d2
  simp only [List.cons_append, List.nil_append] at N'
  have hne : octs ≠ [] := by intro e; subst e; simp at hl
  have hoct : ∀ o ∈ octs, Oct (o : Int) := fun o h => by
    have := ho o h
    unfold Oc Ro at this
    unfold Oct
    omega
  have hmk0 : mk ≠ [] := by rcases hm with rfl | rfl <;> simp
  have hmk2 : mk.length ≤ 2 := by rcases hm with rfl | rfl <;> simp
  have hlen : vs.length = 11 := by rw [hi.length, List.length_map, hl]
  (repeat' (first | (k_unfold; (try dsimp only)) | ((fail_if_success (with_reducible show wpAny _ _ (binaryOp Operator.Add (Value.str _ _) (Value.str _ _)) _ _ _)); (first | (((with_reducible show wpAny _ _ (compareOp CmpOp.NotEq (Value.str _ _) (Value.str _ _)) _ _ _); refine l_ne (by walk_at "lit") (by walk_at "lit") ?_; first | rw [decide_eq_true rfl] | rw [decide_eq_true (by assumption)])) | (((with_reducible show wpAny _ _ (call (Value.builtin "len") [Value.str (S _) _]) _ _ _); refine s_len (by walk_at "num") ?_; intro _ _)))) | ((fail_if_success (with_reducible (first | show wpAny _ _ (binaryOp Operator.Add (Value.str _ _) (Value.str _ _)) _ _ _ | show wpAny _ _ (exec (Stmt.While _ _ _ _) _) _ _ _ | show wpAny _ _ (call (Value.ref _) _) _ _ _ | show wpAny _ _ (exec (Stmt.For _ _ _ _ _) _) _ _ _ | show wpAny _ _ (eval (Expr.ListComp _ _ _ _) _) _ _ _ | show wpAny _ _ (exec (Stmt.Assign _ (Expr.ListComp _ _ _ _) _) _) _ _ _ | show LCt.CompSrcT _ _ _ _ _ _ _ _ _ _ _ _ _ _ _ | show LCg.CompSrc _ _ _ _ _ _ _ _ _ _ _ _ _ _ | show TurnQ _ _ _ _ _ _ _ _ | show wpAny _ _ (call (Value.builtin "str.join") _) _ _ _ | show wpAny _ _ (call (Value.builtin "str.split") _) _ _ _ | show wpAny _ _ (call (Value.builtin "str.replace") _) _ _ _ | show wpAny _ _ (truthy (Value.ref _)) _ _ _ | show wpAny _ _ (compareOp CmpOp.Eq (Value.ref _) (Value.ref _)) _ _ _ | show LeaveS _ _ _ _ _ _ _ _ _ _ _ _ _ _ _ _ _ _))); first | walk1 | (dsimp only; walk1))))
  k_dflt (refine LCg.ListComp_U (F₀ := by k_asm) (by with_unfolding_all rfl) (by decide) (by rfl) (by decide) (by rfl) ?_)
  (repeat' (first | (k_unfold; (try dsimp only)) | ((fail_if_success (with_reducible show wpAny _ _ (binaryOp Operator.Add (Value.str _ _) (Value.str _ _)) _ _ _)); (first | (((with_reducible show wpAny _ _ (compareOp CmpOp.NotEq (Value.str _ _) (Value.str _ _)) _ _ _); refine l_ne (by walk_at "lit") (by walk_at "lit") ?_; first | rw [decide_eq_true rfl] | rw [decide_eq_true (by assumption)])) | (((with_reducible show wpAny _ _ (call (Value.builtin "len") [Value.str (S _) _]) _ _ _); refine s_len (by walk_at "num") ?_; intro _ _)))) | ((fail_if_success (with_reducible (first | show wpAny _ _ (binaryOp Operator.Add (Value.str _ _) (Value.str _ _)) _ _ _ | show wpAny _ _ (exec (Stmt.While _ _ _ _) _) _ _ _ | show wpAny _ _ (call (Value.ref _) _) _ _ _ | show wpAny _ _ (exec (Stmt.For _ _ _ _ _) _) _ _ _ | show wpAny _ _ (eval (Expr.ListComp _ _ _ _) _) _ _ _ | show wpAny _ _ (exec (Stmt.Assign _ (Expr.ListComp _ _ _ _) _) _) _ _ _ | show LCt.CompSrcT _ _ _ _ _ _ _ _ _ _ _ _ _ _ _ | show LCg.CompSrc _ _ _ _ _ _ _ _ _ _ _ _ _ _ | show TurnQ _ _ _ _ _ _ _ _ | show wpAny _ _ (call (Value.builtin "str.join") _) _ _ _ | show wpAny _ _ (call (Value.builtin "str.split") _) _ _ _ | show wpAny _ _ (call (Value.builtin "str.replace") _) _ _ _ | show wpAny _ _ (truthy (Value.ref _)) _ _ _ | show wpAny _ _ (compareOp CmpOp.Eq (Value.ref _) (Value.ref _)) _ _ _ | show LeaveS _ _ _ _ _ _ _ _ _ _ _ _ _ _ _ _ _ _))); first | walk1 | (dsimp only; walk1))))
  refine LCg.CompSrc.ledger rfl (by k_asm) (by k_asm) (by k_mem) (by rw [List.size_toArray, hlen, show sizeLine = 16777216 from rfl]; omega) fun gg => ?_
  refine comp_ind (fun i zs => TxtsAre zs ((octs.take i).map fun o => [o])) (.inr ⟨_, by k_mem, rfl, _, rfl⟩) vs.toArray.size ?fin ?turn _ 0 [] (Nat.zero_add _) .nil
  case turn =>
    intro i zs v I oI C oC D m2 hh tkk E' hi3 hZ hv hC hm2 hF hN off ne
    obtain ⟨tv, rfl, hil⟩ := octs_at hi hv
    have hot := hoct _ (getD_mem hil)
    unfold Oct at hot
    (repeat' (first | (k_unfold; (try dsimp only)) | ((fail_if_success (with_reducible show wpAny _ _ (binaryOp Operator.Add (Value.str _ _) (Value.str _ _)) _ _ _)); (first | (((with_reducible show wpAny _ _ (compareOp CmpOp.NotEq (Value.str _ _) (Value.str _ _)) _ _ _); refine l_ne (by walk_at "lit") (by walk_at "lit") ?_; first | rw [decide_eq_true rfl] | rw [decide_eq_true (by assumption)])) | (((with_reducible show wpAny _ _ (call (Value.builtin "len") [Value.str (S _) _]) _ _ _); refine s_len (by walk_at "num") ?_; intro _ _)))) | ((fail_if_success (with_reducible (first | show wpAny _ _ (binaryOp Operator.Add (Value.str _ _) (Value.str _ _)) _ _ _ | show wpAny _ _ (exec (Stmt.While _ _ _ _) _) _ _ _ | show wpAny _ _ (call (Value.ref _) _) _ _ _ | show wpAny _ _ (exec (Stmt.For _ _ _ _ _) _) _ _ _ | show wpAny _ _ (eval (Expr.ListComp _ _ _ _) _) _ _ _ | show wpAny _ _ (exec (Stmt.Assign _ (Expr.ListComp _ _ _ _) _) _) _ _ _ | show LCt.CompSrcT _ _ _ _ _ _ _ _ _ _ _ _ _ _ _ | show LCg.CompSrc _ _ _ _ _ _ _ _ _ _ _ _ _ _ | show TurnQ _ _ _ _ _ _ _ _ | show wpAny _ _ (call (Value.builtin "str.join") _) _ _ _ | show wpAny _ _ (call (Value.builtin "str.split") _) _ _ _ | show wpAny _ _ (call (Value.builtin "str.replace") _) _ _ _ | show wpAny _ _ (truthy (Value.ref _)) _ _ _ | show wpAny _ _ (compareOp CmpOp.Eq (Value.ref _) (Value.ref _)) _ _ _ | show LeaveS _ _ _ _ _ _ _ _ _ _ _ _ _ _ _ _ _ _))); first | walk1 | (dsimp only; walk1))))
    rw [Int.toNat_natCast]
    exact turnQ hF hN (fun _ h => h) (by rw [take_mapT hil]; exact hZ.app (.cons _ _ .nil))
  case fin =>
    intro zs hZ D1 h1 tk1 F1 N1 off1
    rw [List.size_toArray, hlen, ← hl, List.take_length] at hZ
    replace N1 : News g' L' h1 ((D1, listOf zs.toArray zs.length) :: _) := N1
    (repeat' (first | (k_unfold; (try dsimp only)) | ((fail_if_success (with_reducible show wpAny _ _ (binaryOp Operator.Add (Value.str _ _) (Value.str _ _)) _ _ _)); (first | (((with_reducible show wpAny _ _ (compareOp CmpOp.NotEq (Value.str _ _) (Value.str _ _)) _ _ _); refine l_ne (by walk_at "lit") (by walk_at "lit") ?_; first | rw [decide_eq_true rfl] | rw [decide_eq_true (by assumption)])) | (((with_reducible show wpAny _ _ (call (Value.builtin "len") [Value.str (S _) _]) _ _ _); refine s_len (by walk_at "num") ?_; intro _ _)))) | ((fail_if_success (with_reducible (first | show wpAny _ _ (binaryOp Operator.Add (Value.str _ _) (Value.str _ _)) _ _ _ | show wpAny _ _ (exec (Stmt.While _ _ _ _) _) _ _ _ | show wpAny _ _ (call (Value.ref _) _) _ _ _ | show wpAny _ _ (exec (Stmt.For _ _ _ _ _) _) _ _ _ | show wpAny _ _ (eval (Expr.ListComp _ _ _ _) _) _ _ _ | show wpAny _ _ (exec (Stmt.Assign _ (Expr.ListComp _ _ _ _) _) _) _ _ _ | show LCt.CompSrcT _ _ _ _ _ _ _ _ _ _ _ _ _ _ _ | show LCg.CompSrc _ _ _ _ _ _ _ _ _ _ _ _ _ _ | show TurnQ _ _ _ _ _ _ _ _ | show wpAny _ _ (call (Value.builtin "str.join") _) _ _ _ | show wpAny _ _ (call (Value.builtin "str.split") _) _ _ _ | show wpAny _ _ (call (Value.builtin "str.replace") _) _ _ _ | show wpAny _ _ (truthy (Value.ref _)) _ _ _ | show wpAny _ _ (compareOp CmpOp.Eq (Value.ref _) (Value.ref _)) _ _ _ | show LeaveS _ _ _ _ _ _ _ _ _ _ _ _ _ _ _ _ _ _))); first | walk1 | (dsimp only; walk1))))
    rw [lit_nil]
    refine s_join (PySem.IsL.isList (News.get N1 (.head _))) hZ (by rw [one_sum, List.length_map]; omega) (by simp) ?_
    intro t2 k2
    rw [inter_nil, one_flat]
    (repeat' (first | (k_unfold; (try dsimp only)) | ((fail_if_success (with_reducible show wpAny _ _ (binaryOp Operator.Add (Value.str _ _) (Value.str _ _)) _ _ _)); (first | (((with_reducible show wpAny _ _ (compareOp CmpOp.NotEq (Value.str _ _) (Value.str _ _)) _ _ _); refine l_ne (by walk_at "lit") (by walk_at "lit") ?_; first | rw [decide_eq_true rfl] | rw [decide_eq_true (by assumption)])) | (((with_reducible show wpAny _ _ (call (Value.builtin "len") [Value.str (S _) _]) _ _ _); refine s_len (by walk_at "num") ?_; intro _ _)))) | ((fail_if_success (with_reducible (first | show wpAny _ _ (binaryOp Operator.Add (Value.str _ _) (Value.str _ _)) _ _ _ | show wpAny _ _ (exec (Stmt.While _ _ _ _) _) _ _ _ | show wpAny _ _ (call (Value.ref _) _) _ _ _ | show wpAny _ _ (exec (Stmt.For _ _ _ _ _) _) _ _ _ | show wpAny _ _ (eval (Expr.ListComp _ _ _ _) _) _ _ _ | show wpAny _ _ (exec (Stmt.Assign _ (Expr.ListComp _ _ _ _) _) _) _ _ _ | show LCt.CompSrcT _ _ _ _ _ _ _ _ _ _ _ _ _ _ _ | show LCg.CompSrc _ _ _ _ _ _ _ _ _ _ _ _ _ _ | show TurnQ _ _ _ _ _ _ _ _ | show wpAny _ _ (call (Value.builtin "str.join") _) _ _ _ | show wpAny _ _ (call (Value.builtin "str.split") _) _ _ _ | show wpAny _ _ (call (Value.builtin "str.replace") _) _ _ _ | show wpAny _ _ (truthy (Value.ref _)) _ _ _ | show wpAny _ _ (compareOp CmpOp.Eq (Value.ref _) (Value.ref _)) _ _ _ | show LeaveS _ _ _ _ _ _ _ _ _ _ _ _ _ _ _ _ _ _))); first | walk1 | (dsimp only; walk1))))
    k_dflt (refine LCg.Assign_ListComp_U (F₀ := by k_asm) (by rfl) (by with_unfolding_all rfl) (by with_unfolding_all rfl) (by decide) (by rfl) (by decide) (by rfl) (by rfl) (by rfl) ?_)
    (repeat' (first | (k_unfold; (try dsimp only)) | ((fail_if_success (with_reducible show wpAny _ _ (binaryOp Operator.Add (Value.str _ _) (Value.str _ _)) _ _ _)); (first | (((with_reducible show wpAny _ _ (compareOp CmpOp.NotEq (Value.str _ _) (Value.str _ _)) _ _ _); refine l_ne (by walk_at "lit") (by walk_at "lit") ?_; first | rw [decide_eq_true rfl] | rw [decide_eq_true (by assumption)])) | (((with_reducible show wpAny _ _ (call (Value.builtin "len") [Value.str (S _) _]) _ _ _); refine s_len (by walk_at "num") ?_; intro _ _)))) | ((fail_if_success (with_reducible (first | show wpAny _ _ (binaryOp Operator.Add (Value.str _ _) (Value.str _ _)) _ _ _ | show wpAny _ _ (exec (Stmt.While _ _ _ _) _) _ _ _ | show wpAny _ _ (call (Value.ref _) _) _ _ _ | show wpAny _ _ (exec (Stmt.For _ _ _ _ _) _) _ _ _ | show wpAny _ _ (eval (Expr.ListComp _ _ _ _) _) _ _ _ | show wpAny _ _ (exec (Stmt.Assign _ (Expr.ListComp _ _ _ _) _) _) _ _ _ | show LCt.CompSrcT _ _ _ _ _ _ _ _ _ _ _ _ _ _ _ | show LCg.CompSrc _ _ _ _ _ _ _ _ _ _ _ _ _ _ | show TurnQ _ _ _ _ _ _ _ _ | show wpAny _ _ (call (Value.builtin "str.join") _) _ _ _ | show wpAny _ _ (call (Value.builtin "str.split") _) _ _ _ | show wpAny _ _ (call (Value.builtin "str.replace") _) _ _ _ | show wpAny _ _ (truthy (Value.ref _)) _ _ _ | show wpAny _ _ (compareOp CmpOp.Eq (Value.ref _) (Value.ref _)) _ _ _ | show LeaveS _ _ _ _ _ _ _ _ _ _ _ _ _ _ _ _ _ _))); first | walk1 | (dsimp only; walk1))))
    refine LCg.CompSrc.ledger rfl (by k_asm) (by k_asm) (by k_mem) (by rw [List.size_toArray, hlen, show sizeLine = 16777216 from rfl]; omega) fun gg => ?_
    refine comp_ind (fun i zs => TxtsAre zs ((octs.take i).map (signL mk))) (.inr ⟨_, by k_mem, rfl, _, rfl⟩) vs.toArray.size ?fin ?turn _ 0 [] (Nat.zero_add _) .nil
    case turn =>
      intro i zs v I oI C oC D m2 hh tkk E' hi3 hZ2 hv hC hm2 hF hN off ne
      obtain ⟨tv, rfl, hil⟩ := octs_at hi hv
      have hot := hoct _ (getD_mem hil)
      (repeat' (first | (k_unfold; (try dsimp only)) | ((fail_if_success (with_reducible show wpAny _ _ (binaryOp Operator.Add (Value.str _ _) (Value.str _ _)) _ _ _)); (first | (((with_reducible show wpAny _ _ (compareOp CmpOp.NotEq (Value.str _ _) (Value.str _ _)) _ _ _); refine l_ne (by walk_at "lit") (by walk_at "lit") ?_; first | rw [decide_eq_true rfl] | rw [decide_eq_true (by assumption)])) | (((with_reducible show wpAny _ _ (call (Value.builtin "len") [Value.str (S _) _]) _ _ _); refine s_len (by walk_at "num") ?_; intro _ _)))) | ((fail_if_success (with_reducible (first | show wpAny _ _ (binaryOp Operator.Add (Value.str _ _) (Value.str _ _)) _ _ _ | show wpAny _ _ (exec (Stmt.While _ _ _ _) _) _ _ _ | show wpAny _ _ (call (Value.ref _) _) _ _ _ | show wpAny _ _ (exec (Stmt.For _ _ _ _ _) _) _ _ _ | show wpAny _ _ (eval (Expr.ListComp _ _ _ _) _) _ _ _ | show wpAny _ _ (exec (Stmt.Assign _ (Expr.ListComp _ _ _ _) _) _) _ _ _ | show LCt.CompSrcT _ _ _ _ _ _ _ _ _ _ _ _ _ _ _ | show LCg.CompSrc _ _ _ _ _ _ _ _ _ _ _ _ _ _ | show TurnQ _ _ _ _ _ _ _ _ | show wpAny _ _ (call (Value.builtin "str.join") _) _ _ _ | show wpAny _ _ (call (Value.builtin "str.split") _) _ _ _ | show wpAny _ _ (call (Value.builtin "str.replace") _) _ _ _ | show wpAny _ _ (truthy (Value.ref _)) _ _ _ | show wpAny _ _ (compareOp CmpOp.Eq (Value.ref _) (Value.ref _)) _ _ _ | show LeaveS _ _ _ _ _ _ _ _ _ _ _ _ _ _ _ _ _ _))); first | walk1 | (dsimp only; walk1))))
      refine sign_spec B' hF X' T' rfl hN (by ktr_room) (by ktr_units) hot ?_
      intro t3 h3 k3 F3 N3
      rw [sign_S]
      (repeat' (first | (k_unfold; (try dsimp only)) | ((fail_if_success (with_reducible show wpAny _ _ (binaryOp Operator.Add (Value.str _ _) (Value.str _ _)) _ _ _)); (first | (((with_reducible show wpAny _ _ (compareOp CmpOp.NotEq (Value.str _ _) (Value.str _ _)) _ _ _); refine l_ne (by walk_at "lit") (by walk_at "lit") ?_; first | rw [decide_eq_true rfl] | rw [decide_eq_true (by assumption)])) | (((with_reducible show wpAny _ _ (call (Value.builtin "len") [Value.str (S _) _]) _ _ _); refine s_len (by walk_at "num") ?_; intro _ _)))) | ((fail_if_success (with_reducible (first | show wpAny _ _ (binaryOp Operator.Add (Value.str _ _) (Value.str _ _)) _ _ _ | show wpAny _ _ (exec (Stmt.While _ _ _ _) _) _ _ _ | show wpAny _ _ (call (Value.ref _) _) _ _ _ | show wpAny _ _ (exec (Stmt.For _ _ _ _ _) _) _ _ _ | show wpAny _ _ (eval (Expr.ListComp _ _ _ _) _) _ _ _ | show wpAny _ _ (exec (Stmt.Assign _ (Expr.ListComp _ _ _ _) _) _) _ _ _ | show LCt.CompSrcT _ _ _ _ _ _ _ _ _ _ _ _ _ _ _ | show LCg.CompSrc _ _ _ _ _ _ _ _ _ _ _ _ _ _ | show TurnQ _ _ _ _ _ _ _ _ | show wpAny _ _ (call (Value.builtin "str.join") _) _ _ _ | show wpAny _ _ (call (Value.builtin "str.split") _) _ _ _ | show wpAny _ _ (call (Value.builtin "str.replace") _) _ _ _ | show wpAny _ _ (truthy (Value.ref _)) _ _ _ | show wpAny _ _ (compareOp CmpOp.Eq (Value.ref _) (Value.ref _)) _ _ _ | show LeaveS _ _ _ _ _ _ _ _ _ _ _ _ _ _ _ _ _ _))); first | walk1 | (dsimp only; walk1))))
      exact turnQ F3 N3 (fun _ h => h) (by rw [take_mapT hil]; exact hZ2.app (.cons _ _ .nil))
    case fin =>
      intro ss hS D2 h2 tk2 F2 N2 off2
      rw [List.size_toArray, hlen, ← hl, List.take_length] at hS
      replace N2 : News g' L' h2 ((D2, listOf ss.toArray ss.length) :: _) := N2
      (repeat' (first | (k_unfold; (try dsimp only)) | ((fail_if_success (with_reducible show wpAny _ _ (binaryOp Operator.Add (Value.str _ _) (Value.str _ _)) _ _ _)); (first | (((with_reducible show wpAny _ _ (compareOp CmpOp.NotEq (Value.str _ _) (Value.str _ _)) _ _ _); refine l_ne (by walk_at "lit") (by walk_at "lit") ?_; first | rw [decide_eq_true rfl] | rw [decide_eq_true (by assumption)])) | (((with_reducible show wpAny _ _ (call (Value.builtin "len") [Value.str (S _) _]) _ _ _); refine s_len (by walk_at "num") ?_; intro _ _)))) | ((fail_if_success (with_reducible (first | show wpAny _ _ (binaryOp Operator.Add (Value.str _ _) (Value.str _ _)) _ _ _ | show wpAny _ _ (exec (Stmt.While _ _ _ _) _) _ _ _ | show wpAny _ _ (call (Value.ref _) _) _ _ _ | show wpAny _ _ (exec (Stmt.For _ _ _ _ _) _) _ _ _ | show wpAny _ _ (eval (Expr.ListComp _ _ _ _) _) _ _ _ | show wpAny _ _ (exec (Stmt.Assign _ (Expr.ListComp _ _ _ _) _) _) _ _ _ | show LCt.CompSrcT _ _ _ _ _ _ _ _ _ _ _ _ _ _ _ | show LCg.CompSrc _ _ _ _ _ _ _ _ _ _ _ _ _ _ | show TurnQ _ _ _ _ _ _ _ _ | show wpAny _ _ (call (Value.builtin "str.join") _) _ _ _ | show wpAny _ _ (call (Value.builtin "str.split") _) _ _ _ | show wpAny _ _ (call (Value.builtin "str.replace") _) _ _ _ | show wpAny _ _ (truthy (Value.ref _)) _ _ _ | show wpAny _ _ (compareOp CmpOp.Eq (Value.ref _) (Value.ref _)) _ _ _ | show LeaveS _ _ _ _ _ _ _ _ _ _ _ _ _ _ _ _ _ _))); first | walk1 | (dsimp only; walk1))))
      rename Fr _ _ _ _ => F3
      rename News _ _ _ _ => N3
      refine benc_spec B' F3 X' T' rfl N3 (by ktr_room) (by ktr_units) hw hw2 (by omega) (by omega) hoct (by rcases hm with rfl | rfl <;> simp) (p_linesT hl ho hw hw2 hm) ?_
      have q1 := p_split hl ho hw hw2 hm
      have q2 := p_repl hl ho hw hw2 hm
      have q3 := p_dec hl ho hw hw2 hm
      have q4 := p_wide hl ho hw hw2 hm
      have q5 := p_linesB hl ho hw hw2 hm
      have q6 := p_linesP hl ho hw hw2 hm
      have q7 := p_count hl ho hw hw2 hm
      have q8 := p_len hl ho hw hw2 hm
      obtain ⟨q9, q10, q11, q12⟩ := p_str hl ho hw hw2 hm
      generalize List.intercalate mk (encPcs wd octs) = bdy at *
      generalize encPcs wd octs = pcs at *
      intro t4 h4 k4 F4 N4
      (repeat' (first | (k_unfold; (try dsimp only)) | ((fail_if_success (with_reducible show wpAny _ _ (binaryOp Operator.Add (Value.str _ _) (Value.str _ _)) _ _ _)); (first | (((with_reducible show wpAny _ _ (compareOp CmpOp.NotEq (Value.str _ _) (Value.str _ _)) _ _ _); refine l_ne (by walk_at "lit") (by walk_at "lit") ?_; first | rw [decide_eq_true rfl] | rw [decide_eq_true (by assumption)])) | (((with_reducible show wpAny _ _ (call (Value.builtin "len") [Value.str (S _) _]) _ _ _); refine s_len (by walk_at "num") ?_; intro _ _)))) | ((fail_if_success (with_reducible (first | show wpAny _ _ (binaryOp Operator.Add (Value.str _ _) (Value.str _ _)) _ _ _ | show wpAny _ _ (exec (Stmt.While _ _ _ _) _) _ _ _ | show wpAny _ _ (call (Value.ref _) _) _ _ _ | show wpAny _ _ (exec (Stmt.For _ _ _ _ _) _) _ _ _ | show wpAny _ _ (eval (Expr.ListComp _ _ _ _) _) _ _ _ | show wpAny _ _ (exec (Stmt.Assign _ (Expr.ListComp _ _ _ _) _) _) _ _ _ | show LCt.CompSrcT _ _ _ _ _ _ _ _ _ _ _ _ _ _ _ | show LCg.CompSrc _ _ _ _ _ _ _ _ _ _ _ _ _ _ | show TurnQ _ _ _ _ _ _ _ _ | show wpAny _ _ (call (Value.builtin "str.join") _) _ _ _ | show wpAny _ _ (call (Value.builtin "str.split") _) _ _ _ | show wpAny _ _ (call (Value.builtin "str.replace") _) _ _ _ | show wpAny _ _ (truthy (Value.ref _)) _ _ _ | show wpAny _ _ (compareOp CmpOp.Eq (Value.ref _) (Value.ref _)) _ _ _ | show LeaveS _ _ _ _ _ _ _ _ _ _ _ _ _ _ _ _ _ _))); first | walk1 | (dsimp only; walk1))))
      refine s_split (by k_asm) (by k_asm) (by omega) (by rcases hm with rfl | rfl <;> simp) (by rcases hm with rfl | rfl <;> decide +kernel) ?_
      intro D5 lv h5 k5 i5 F5 N5 o5
      rw [q1] at i5
      (repeat' (first | (k_unfold; (try dsimp only)) | ((fail_if_success (with_reducible show wpAny _ _ (binaryOp Operator.Add (Value.str _ _) (Value.str _ _)) _ _ _)); (first | (((with_reducible show wpAny _ _ (compareOp CmpOp.NotEq (Value.str _ _) (Value.str _ _)) _ _ _); refine l_ne (by walk_at "lit") (by walk_at "lit") ?_; first | rw [decide_eq_true rfl] | rw [decide_eq_true (by assumption)])) | (((with_reducible show wpAny _ _ (call (Value.builtin "len") [Value.str (S _) _]) _ _ _); refine s_len (by walk_at "num") ?_; intro _ _)))) | ((fail_if_success (with_reducible (first | show wpAny _ _ (binaryOp Operator.Add (Value.str _ _) (Value.str _ _)) _ _ _ | show wpAny _ _ (exec (Stmt.While _ _ _ _) _) _ _ _ | show wpAny _ _ (call (Value.ref _) _) _ _ _ | show wpAny _ _ (exec (Stmt.For _ _ _ _ _) _) _ _ _ | show wpAny _ _ (eval (Expr.ListComp _ _ _ _) _) _ _ _ | show wpAny _ _ (exec (Stmt.Assign _ (Expr.ListComp _ _ _ _) _) _) _ _ _ | show LCt.CompSrcT _ _ _ _ _ _ _ _ _ _ _ _ _ _ _ | show LCg.CompSrc _ _ _ _ _ _ _ _ _ _ _ _ _ _ | show TurnQ _ _ _ _ _ _ _ _ | show wpAny _ _ (call (Value.builtin "str.join") _) _ _ _ | show wpAny _ _ (call (Value.builtin "str.split") _) _ _ _ | show wpAny _ _ (call (Value.builtin "str.replace") _) _ _ _ | show wpAny _ _ (truthy (Value.ref _)) _ _ _ | show wpAny _ _ (compareOp CmpOp.Eq (Value.ref _) (Value.ref _)) _ _ _ | show LeaveS _ _ _ _ _ _ _ _ _ _ _ _ _ _ _ _ _ _))); first | walk1 | (dsimp only; walk1))))
      refine add_fresh lit_eq (by simp) hmk0 (by simp only [List.length_cons, List.length_nil]; omega) ?_
      (repeat' (first | (k_unfold; (try dsimp only)) | ((fail_if_success (with_reducible show wpAny _ _ (binaryOp Operator.Add (Value.str _ _) (Value.str _ _)) _ _ _)); (first | (((with_reducible show wpAny _ _ (compareOp CmpOp.NotEq (Value.str _ _) (Value.str _ _)) _ _ _); refine l_ne (by walk_at "lit") (by walk_at "lit") ?_; first | rw [decide_eq_true rfl] | rw [decide_eq_true (by assumption)])) | (((with_reducible show wpAny _ _ (call (Value.builtin "len") [Value.str (S _) _]) _ _ _); refine s_len (by walk_at "num") ?_; intro _ _)))) | ((fail_if_success (with_reducible (first | show wpAny _ _ (binaryOp Operator.Add (Value.str _ _) (Value.str _ _)) _ _ _ | show wpAny _ _ (exec (Stmt.While _ _ _ _) _) _ _ _ | show wpAny _ _ (call (Value.ref _) _) _ _ _ | show wpAny _ _ (exec (Stmt.For _ _ _ _ _) _) _ _ _ | show wpAny _ _ (eval (Expr.ListComp _ _ _ _) _) _ _ _ | show wpAny _ _ (exec (Stmt.Assign _ (Expr.ListComp _ _ _ _) _) _) _ _ _ | show LCt.CompSrcT _ _ _ _ _ _ _ _ _ _ _ _ _ _ _ | show LCg.CompSrc _ _ _ _ _ _ _ _ _ _ _ _ _ _ | show TurnQ _ _ _ _ _ _ _ _ | show wpAny _ _ (call (Value.builtin "str.join") _) _ _ _ | show wpAny _ _ (call (Value.builtin "str.split") _) _ _ _ | show wpAny _ _ (call (Value.builtin "str.replace") _) _ _ _ | show wpAny _ _ (truthy (Value.ref _)) _ _ _ | show wpAny _ _ (compareOp CmpOp.Eq (Value.ref _) (Value.ref _)) _ _ _ | show LeaveS _ _ _ _ _ _ _ _ _ _ _ _ _ _ _ _ _ _))); first | walk1 | (dsimp only; walk1))))
      refine repl_S (y := [61] ++ mk) (Nat.succ_ne_zero _) (Nat.succ_ne_zero _) ?ht (by simp) (by omega) ?_
      case ht => exact Nat.ne_of_lt (Nat.lt_succ_self _)
      intro t6 k6
      rw [show ([61] ++ mk) = 61 :: mk from rfl, q2]
      (repeat' (first | (k_unfold; (try dsimp only)) | ((fail_if_success (with_reducible show wpAny _ _ (binaryOp Operator.Add (Value.str _ _) (Value.str _ _)) _ _ _)); (first | (((with_reducible show wpAny _ _ (compareOp CmpOp.NotEq (Value.str _ _) (Value.str _ _)) _ _ _); refine l_ne (by walk_at "lit") (by walk_at "lit") ?_; first | rw [decide_eq_true rfl] | rw [decide_eq_true (by assumption)])) | (((with_reducible show wpAny _ _ (call (Value.builtin "len") [Value.str (S _) _]) _ _ _); refine s_len (by walk_at "num") ?_; intro _ _)))) | ((fail_if_success (with_reducible (first | show wpAny _ _ (binaryOp Operator.Add (Value.str _ _) (Value.str _ _)) _ _ _ | show wpAny _ _ (exec (Stmt.While _ _ _ _) _) _ _ _ | show wpAny _ _ (call (Value.ref _) _) _ _ _ | show wpAny _ _ (exec (Stmt.For _ _ _ _ _) _) _ _ _ | show wpAny _ _ (eval (Expr.ListComp _ _ _ _) _) _ _ _ | show wpAny _ _ (exec (Stmt.Assign _ (Expr.ListComp _ _ _ _) _) _) _ _ _ | show LCt.CompSrcT _ _ _ _ _ _ _ _ _ _ _ _ _ _ _ | show LCg.CompSrc _ _ _ _ _ _ _ _ _ _ _ _ _ _ | show TurnQ _ _ _ _ _ _ _ _ | show wpAny _ _ (call (Value.builtin "str.join") _) _ _ _ | show wpAny _ _ (call (Value.builtin "str.split") _) _ _ _ | show wpAny _ _ (call (Value.builtin "str.replace") _) _ _ _ | show wpAny _ _ (truthy (Value.ref _)) _ _ _ | show wpAny _ _ (compareOp CmpOp.Eq (Value.ref _) (Value.ref _)) _ _ _ | show LeaveS _ _ _ _ _ _ _ _ _ _ _ _ _ _ _ _ _ _))); first | walk1 | (dsimp only; walk1))))
      rename News _ _ _ _ => N6
      refine s_join (PySem.IsL.isList (News.get N6 (by k_mem))) hS (by have := sig_sum hm ho; rw [List.length_map]; omega) (by simp) ?_
      intro t7 k7
      rw [inter_nil]
      (repeat' (first | (k_unfold; (try dsimp only)) | ((fail_if_success (with_reducible show wpAny _ _ (binaryOp Operator.Add (Value.str _ _) (Value.str _ _)) _ _ _)); (first | (((with_reducible show wpAny _ _ (compareOp CmpOp.NotEq (Value.str _ _) (Value.str _ _)) _ _ _); refine l_ne (by walk_at "lit") (by walk_at "lit") ?_; first | rw [decide_eq_true rfl] | rw [decide_eq_true (by assumption)])) | (((with_reducible show wpAny _ _ (call (Value.builtin "len") [Value.str (S _) _]) _ _ _); refine s_len (by walk_at "num") ?_; intro _ _)))) | ((fail_if_success (with_reducible (first | show wpAny _ _ (binaryOp Operator.Add (Value.str _ _) (Value.str _ _)) _ _ _ | show wpAny _ _ (exec (Stmt.While _ _ _ _) _) _ _ _ | show wpAny _ _ (call (Value.ref _) _) _ _ _ | show wpAny _ _ (exec (Stmt.For _ _ _ _ _) _) _ _ _ | show wpAny _ _ (eval (Expr.ListComp _ _ _ _) _) _ _ _ | show wpAny _ _ (exec (Stmt.Assign _ (Expr.ListComp _ _ _ _) _) _) _ _ _ | show LCt.CompSrcT _ _ _ _ _ _ _ _ _ _ _ _ _ _ _ | show LCg.CompSrc _ _ _ _ _ _ _ _ _ _ _ _ _ _ | show TurnQ _ _ _ _ _ _ _ _ | show wpAny _ _ (call (Value.builtin "str.join") _) _ _ _ | show wpAny _ _ (call (Value.builtin "str.split") _) _ _ _ | show wpAny _ _ (call (Value.builtin "str.replace") _) _ _ _ | show wpAny _ _ (truthy (Value.ref _)) _ _ _ | show wpAny _ _ (compareOp CmpOp.Eq (Value.ref _) (Value.ref _)) _ _ _ | show LeaveS _ _ _ _ _ _ _ _ _ _ _ _ _ _ _ _ _ _))); first | walk1 | (dsimp only; walk1))))
      rename Fr _ _ _ _ => F7
      rename News _ _ _ _ => N7
      refine dec_spec B' F7 X' T' rfl N7 (by ktr_room) (by ktr_units) q8 q5 ?_
      intro t8 h8 k8 F8 N8
      rw [q3]
      (repeat' (first | (k_unfold; (try dsimp only)) | ((fail_if_success (with_reducible show wpAny _ _ (binaryOp Operator.Add (Value.str _ _) (Value.str _ _)) _ _ _)); (first | (((with_reducible show wpAny _ _ (compareOp CmpOp.NotEq (Value.str _ _) (Value.str _ _)) _ _ _); refine l_ne (by walk_at "lit") (by walk_at "lit") ?_; first | rw [decide_eq_true rfl] | rw [decide_eq_true (by assumption)])) | (((with_reducible show wpAny _ _ (call (Value.builtin "len") [Value.str (S _) _]) _ _ _); refine s_len (by walk_at "num") ?_; intro _ _)))) | ((fail_if_success (with_reducible (first | show wpAny _ _ (binaryOp Operator.Add (Value.str _ _) (Value.str _ _)) _ _ _ | show wpAny _ _ (exec (Stmt.While _ _ _ _) _) _ _ _ | show wpAny _ _ (call (Value.ref _) _) _ _ _ | show wpAny _ _ (exec (Stmt.For _ _ _ _ _) _) _ _ _ | show wpAny _ _ (eval (Expr.ListComp _ _ _ _) _) _ _ _ | show wpAny _ _ (exec (Stmt.Assign _ (Expr.ListComp _ _ _ _) _) _) _ _ _ | show LCt.CompSrcT _ _ _ _ _ _ _ _ _ _ _ _ _ _ _ | show LCg.CompSrc _ _ _ _ _ _ _ _ _ _ _ _ _ _ | show TurnQ _ _ _ _ _ _ _ _ | show wpAny _ _ (call (Value.builtin "str.join") _) _ _ _ | show wpAny _ _ (call (Value.builtin "str.split") _) _ _ _ | show wpAny _ _ (call (Value.builtin "str.replace") _) _ _ _ | show wpAny _ _ (truthy (Value.ref _)) _ _ _ | show wpAny _ _ (compareOp CmpOp.Eq (Value.ref _) (Value.ref _)) _ _ _ | show LeaveS _ _ _ _ _ _ _ _ _ _ _ _ _ _ _ _ _ _))); first | walk1 | (dsimp only; walk1))))
      k_dflt (refine LCt.ListComp_T (F₀ := by k_asm) (by with_unfolding_all rfl) (by decide) (by rfl) (by decide) (by rfl) ?_)
      (repeat' (first | (k_unfold; (try dsimp only)) | ((fail_if_success (with_reducible show wpAny _ _ (binaryOp Operator.Add (Value.str _ _) (Value.str _ _)) _ _ _)); (first | (((with_reducible show wpAny _ _ (compareOp CmpOp.NotEq (Value.str _ _) (Value.str _ _)) _ _ _); refine l_ne (by walk_at "lit") (by walk_at "lit") ?_; first | rw [decide_eq_true rfl] | rw [decide_eq_true (by assumption)])) | (((with_reducible show wpAny _ _ (call (Value.builtin "len") [Value.str (S _) _]) _ _ _); refine s_len (by walk_at "num") ?_; intro _ _)))) | ((fail_if_success (with_reducible (first | show wpAny _ _ (binaryOp Operator.Add (Value.str _ _) (Value.str _ _)) _ _ _ | show wpAny _ _ (exec (Stmt.While _ _ _ _) _) _ _ _ | show wpAny _ _ (call (Value.ref _) _) _ _ _ | show wpAny _ _ (exec (Stmt.For _ _ _ _ _) _) _ _ _ | show wpAny _ _ (eval (Expr.ListComp _ _ _ _) _) _ _ _ | show wpAny _ _ (exec (Stmt.Assign _ (Expr.ListComp _ _ _ _) _) _) _ _ _ | show LCt.CompSrcT _ _ _ _ _ _ _ _ _ _ _ _ _ _ _ | show LCg.CompSrc _ _ _ _ _ _ _ _ _ _ _ _ _ _ | show TurnQ _ _ _ _ _ _ _ _ | show wpAny _ _ (call (Value.builtin "str.join") _) _ _ _ | show wpAny _ _ (call (Value.builtin "str.split") _) _ _ _ | show wpAny _ _ (call (Value.builtin "str.replace") _) _ _ _ | show wpAny _ _ (truthy (Value.ref _)) _ _ _ | show wpAny _ _ (compareOp CmpOp.Eq (Value.ref _) (Value.ref _)) _ _ _ | show LeaveS _ _ _ _ _ _ _ _ _ _ _ _ _ _ _ _ _ _))); first | walk1 | (dsimp only; walk1))))
      refine LCt.CompSrcT.ledger rfl (by k_asm) (by k_asm) (by k_mem) (by rw [List.size_toArray, i5.length, show sizeLine = 16777216 from rfl]; omega) fun gg => ?_
      refine comp_indT (fun i zs => zs = []) (.inr ⟨_, by k_mem, rfl, _, rfl⟩) lv.toArray.size ?fin ?turn _ 0 [] (Nat.zero_add _) rfl
      case turn =>
        intro i zs v I oI C oC D m2 hh tkk E' hi3 hZ3 hv hC hm2 hF hN off ne
        obtain ⟨tv, rfl, hil⟩ := i5.get hv
        have hyw := q4 _ (getD_memL hil)
        generalize pcs.getD i [] = y at *
        (repeat' (first | (k_unfold; (try dsimp only)) | ((fail_if_success (with_reducible show wpAny _ _ (binaryOp Operator.Add (Value.str _ _) (Value.str _ _)) _ _ _)); (first | (((with_reducible show wpAny _ _ (compareOp CmpOp.NotEq (Value.str _ _) (Value.str _ _)) _ _ _); refine l_ne (by walk_at "lit") (by walk_at "lit") ?_; first | rw [decide_eq_true rfl] | rw [decide_eq_true (by assumption)])) | (((with_reducible show wpAny _ _ (call (Value.builtin "len") [Value.str (S _) _]) _ _ _); refine s_len (by walk_at "num") ?_; intro _ _)))) | ((fail_if_success (with_reducible (first | show wpAny _ _ (binaryOp Operator.Add (Value.str _ _) (Value.str _ _)) _ _ _ | show wpAny _ _ (exec (Stmt.While _ _ _ _) _) _ _ _ | show wpAny _ _ (call (Value.ref _) _) _ _ _ | show wpAny _ _ (exec (Stmt.For _ _ _ _ _) _) _ _ _ | show wpAny _ _ (eval (Expr.ListComp _ _ _ _) _) _ _ _ | show wpAny _ _ (exec (Stmt.Assign _ (Expr.ListComp _ _ _ _) _) _) _ _ _ | show LCt.CompSrcT _ _ _ _ _ _ _ _ _ _ _ _ _ _ _ | show LCg.CompSrc _ _ _ _ _ _ _ _ _ _ _ _ _ _ | show TurnQ _ _ _ _ _ _ _ _ | show wpAny _ _ (call (Value.builtin "str.join") _) _ _ _ | show wpAny _ _ (call (Value.builtin "str.split") _) _ _ _ | show wpAny _ _ (call (Value.builtin "str.replace") _) _ _ _ | show wpAny _ _ (truthy (Value.ref _)) _ _ _ | show wpAny _ _ (compareOp CmpOp.Eq (Value.ref _) (Value.ref _)) _ _ _ | show LeaveS _ _ _ _ _ _ _ _ _ _ _ _ _ _ _ _ _ _))); first | walk1 | (dsimp only; walk1))))
        all_goals first | (exfalso; omega) | exact turnQ hF hN (fun _ h => h) hZ3
      case fin =>
        intro zs hZ3 D9 h9 k9 F9 N9 off9
        subst hZ3
        (repeat' (first | (k_unfold; (try dsimp only)) | ((fail_if_success (with_reducible show wpAny _ _ (binaryOp Operator.Add (Value.str _ _) (Value.str _ _)) _ _ _)); (first | (((with_reducible show wpAny _ _ (compareOp CmpOp.NotEq (Value.str _ _) (Value.str _ _)) _ _ _); refine l_ne (by walk_at "lit") (by walk_at "lit") ?_; first | rw [decide_eq_true rfl] | rw [decide_eq_true (by assumption)])) | (((with_reducible show wpAny _ _ (call (Value.builtin "len") [Value.str (S _) _]) _ _ _); refine s_len (by walk_at "num") ?_; intro _ _)))) | ((fail_if_success (with_reducible (first | show wpAny _ _ (binaryOp Operator.Add (Value.str _ _) (Value.str _ _)) _ _ _ | show wpAny _ _ (exec (Stmt.While _ _ _ _) _) _ _ _ | show wpAny _ _ (call (Value.ref _) _) _ _ _ | show wpAny _ _ (exec (Stmt.For _ _ _ _ _) _) _ _ _ | show wpAny _ _ (eval (Expr.ListComp _ _ _ _) _) _ _ _ | show wpAny _ _ (exec (Stmt.Assign _ (Expr.ListComp _ _ _ _) _) _) _ _ _ | show LCt.CompSrcT _ _ _ _ _ _ _ _ _ _ _ _ _ _ _ | show LCg.CompSrc _ _ _ _ _ _ _ _ _ _ _ _ _ _ | show TurnQ _ _ _ _ _ _ _ _ | show wpAny _ _ (call (Value.builtin "str.join") _) _ _ _ | show wpAny _ _ (call (Value.builtin "str.split") _) _ _ _ | show wpAny _ _ (call (Value.builtin "str.replace") _) _ _ _ | show wpAny _ _ (truthy (Value.ref _)) _ _ _ | show wpAny _ _ (compareOp CmpOp.Eq (Value.ref _) (Value.ref _)) _ _ _ | show LeaveS _ _ _ _ _ _ _ _ _ _ _ _ _ _ _ _ _ _))); first | walk1 | (dsimp only; walk1))))
        refine wpAny_truthy_list (PySem.IsL.isList (n := 0) (News.get N9 (.head _))) (by simp) ?_
        simp only [List.isEmpty_toArray, List.isEmpty_nil, Bool.not_true]
        (repeat' (first | (k_unfold; (try dsimp only)) | ((fail_if_success (with_reducible show wpAny _ _ (binaryOp Operator.Add (Value.str _ _) (Value.str _ _)) _ _ _)); (first | (((with_reducible show wpAny _ _ (compareOp CmpOp.NotEq (Value.str _ _) (Value.str _ _)) _ _ _); refine l_ne (by walk_at "lit") (by walk_at "lit") ?_; first | rw [decide_eq_true rfl] | rw [decide_eq_true (by assumption)])) | (((with_reducible show wpAny _ _ (call (Value.builtin "len") [Value.str (S _) _]) _ _ _); refine s_len (by walk_at "num") ?_; intro _ _)))) | ((fail_if_success (with_reducible (first | show wpAny _ _ (binaryOp Operator.Add (Value.str _ _) (Value.str _ _)) _ _ _ | show wpAny _ _ (exec (Stmt.While _ _ _ _) _) _ _ _ | show wpAny _ _ (call (Value.ref _) _) _ _ _ | show wpAny _ _ (exec (Stmt.For _ _ _ _ _) _) _ _ _ | show wpAny _ _ (eval (Expr.ListComp _ _ _ _) _) _ _ _ | show wpAny _ _ (exec (Stmt.Assign _ (Expr.ListComp _ _ _ _) _) _) _ _ _ | show LCt.CompSrcT _ _ _ _ _ _ _ _ _ _ _ _ _ _ _ | show LCg.CompSrc _ _ _ _ _ _ _ _ _ _ _ _ _ _ | show TurnQ _ _ _ _ _ _ _ _ | show wpAny _ _ (call (Value.builtin "str.join") _) _ _ _ | show wpAny _ _ (call (Value.builtin "str.split") _) _ _ _ | show wpAny _ _ (call (Value.builtin "str.replace") _) _ _ _ | show wpAny _ _ (truthy (Value.ref _)) _ _ _ | show wpAny _ _ (compareOp CmpOp.Eq (Value.ref _) (Value.ref _)) _ _ _ | show LeaveS _ _ _ _ _ _ _ _ _ _ _ _ _ _ _ _ _ _))); first | walk1 | (dsimp only; walk1))))
        rename Fr _ _ _ _ => F10
        rename News _ _ _ _ => N10
        refine brk_spec (l := D5) (vs := lv) (c := 0) B' F10 X' T' rfl (news_add N10 (by k_mem)) (by ktr_room) (by ktr_units) i5 q7 (fun y hy => by have := q4 y hy; omega) q6 ?_
        intro lb bs cb h11 k11 F11 N11 o11 ib
        (repeat' (first | (k_unfold; (try dsimp only)) | ((fail_if_success (with_reducible show wpAny _ _ (binaryOp Operator.Add (Value.str _ _) (Value.str _ _)) _ _ _)); (first | (((with_reducible show wpAny _ _ (compareOp CmpOp.NotEq (Value.str _ _) (Value.str _ _)) _ _ _); refine l_ne (by walk_at "lit") (by walk_at "lit") ?_; first | rw [decide_eq_true rfl] | rw [decide_eq_true (by assumption)])) | (((with_reducible show wpAny _ _ (call (Value.builtin "len") [Value.str (S _) _]) _ _ _); refine s_len (by walk_at "num") ?_; intro _ _)))) | ((fail_if_success (with_reducible (first | show wpAny _ _ (binaryOp Operator.Add (Value.str _ _) (Value.str _ _)) _ _ _ | show wpAny _ _ (exec (Stmt.While _ _ _ _) _) _ _ _ | show wpAny _ _ (call (Value.ref _) _) _ _ _ | show wpAny _ _ (exec (Stmt.For _ _ _ _ _) _) _ _ _ | show wpAny _ _ (eval (Expr.ListComp _ _ _ _) _) _ _ _ | show wpAny _ _ (exec (Stmt.Assign _ (Expr.ListComp _ _ _ _) _) _) _ _ _ | show LCt.CompSrcT _ _ _ _ _ _ _ _ _ _ _ _ _ _ _ | show LCg.CompSrc _ _ _ _ _ _ _ _ _ _ _ _ _ _ | show TurnQ _ _ _ _ _ _ _ _ | show wpAny _ _ (call (Value.builtin "str.join") _) _ _ _ | show wpAny _ _ (call (Value.builtin "str.split") _) _ _ _ | show wpAny _ _ (call (Value.builtin "str.replace") _) _ _ _ | show wpAny _ _ (truthy (Value.ref _)) _ _ _ | show wpAny _ _ (compareOp CmpOp.Eq (Value.ref _) (Value.ref _)) _ _ _ | show LeaveS _ _ _ _ _ _ _ _ _ _ _ _ _ _ _ _ _ _))); first | walk1 | (dsimp only; walk1))))
        k_dflt (refine LCg.ListComp_U (F₀ := by k_asm) (by with_unfolding_all rfl) (by decide) (by rfl) (by decide) (by rfl) ?_)
        (repeat' (first | (k_unfold; (try dsimp only)) | ((fail_if_success (with_reducible show wpAny _ _ (binaryOp Operator.Add (Value.str _ _) (Value.str _ _)) _ _ _)); (first | (((with_reducible show wpAny _ _ (compareOp CmpOp.NotEq (Value.str _ _) (Value.str _ _)) _ _ _); refine l_ne (by walk_at "lit") (by walk_at "lit") ?_; first | rw [decide_eq_true rfl] | rw [decide_eq_true (by assumption)])) | (((with_reducible show wpAny _ _ (call (Value.builtin "len") [Value.str (S _) _]) _ _ _); refine s_len (by walk_at "num") ?_; intro _ _)))) | ((fail_if_success (with_reducible (first | show wpAny _ _ (binaryOp Operator.Add (Value.str _ _) (Value.str _ _)) _ _ _ | show wpAny _ _ (exec (Stmt.While _ _ _ _) _) _ _ _ | show wpAny _ _ (call (Value.ref _) _) _ _ _ | show wpAny _ _ (exec (Stmt.For _ _ _ _ _) _) _ _ _ | show wpAny _ _ (eval (Expr.ListComp _ _ _ _) _) _ _ _ | show wpAny _ _ (exec (Stmt.Assign _ (Expr.ListComp _ _ _ _) _) _) _ _ _ | show LCt.CompSrcT _ _ _ _ _ _ _ _ _ _ _ _ _ _ _ | show LCg.CompSrc _ _ _ _ _ _ _ _ _ _ _ _ _ _ | show TurnQ _ _ _ _ _ _ _ _ | show wpAny _ _ (call (Value.builtin "str.join") _) _ _ _ | show wpAny _ _ (call (Value.builtin "str.split") _) _ _ _ | show wpAny _ _ (call (Value.builtin "str.replace") _) _ _ _ | show wpAny _ _ (truthy (Value.ref _)) _ _ _ | show wpAny _ _ (compareOp CmpOp.Eq (Value.ref _) (Value.ref _)) _ _ _ | show LeaveS _ _ _ _ _ _ _ _ _ _ _ _ _ _ _ _ _ _))); first | walk1 | (dsimp only; walk1))))
        refine LCg.CompSrc.ledger rfl (by k_asm) (by k_asm) (by k_mem) (by rw [List.size_toArray, hS.length, List.length_map, hl, show sizeLine = 16777216 from rfl]; omega) fun gg => ?_
        refine comp_ind (fun i zs => IntsAre zs ((szs mk octs).take i)) (.inr ⟨_, by k_mem, rfl, _, rfl⟩) ss.toArray.size ?fin ?turn _ 0 [] (Nat.zero_add _) .nil
        case turn =>
          intro i zs v I oI C oC D m2 hh tkk E' hi3 hZ3 hv hC hm2 hF hN off ne
          obtain ⟨tv, rfl, hil⟩ := hS.get hv
          rw [List.length_map] at hil
          have hg : (octs.map (signL mk)).getD i [] = signL mk (octs.getD i 0) := by
            rw [List.getD_eq_getElem?_getD, List.getD_eq_getElem?_getD, List.getElem?_map, List.getElem?_eq_getElem hil]; rfl
          rw [hg] at hv hm2
          have hsl := sig_len hm (ho _ (getD_mem hil))
          have htk := szs_take (mk := mk) hil
          generalize signL mk (octs.getD i 0) = y at *
          (repeat' (first | (k_unfold; (try dsimp only)) | ((fail_if_success (with_reducible show wpAny _ _ (binaryOp Operator.Add (Value.str _ _) (Value.str _ _)) _ _ _)); (first | (((with_reducible show wpAny _ _ (compareOp CmpOp.NotEq (Value.str _ _) (Value.str _ _)) _ _ _); refine l_ne (by walk_at "lit") (by walk_at "lit") ?_; first | rw [decide_eq_true rfl] | rw [decide_eq_true (by assumption)])) | (((with_reducible show wpAny _ _ (call (Value.builtin "len") [Value.str (S _) _]) _ _ _); refine s_len (by walk_at "num") ?_; intro _ _)))) | ((fail_if_success (with_reducible (first | show wpAny _ _ (binaryOp Operator.Add (Value.str _ _) (Value.str _ _)) _ _ _ | show wpAny _ _ (exec (Stmt.While _ _ _ _) _) _ _ _ | show wpAny _ _ (call (Value.ref _) _) _ _ _ | show wpAny _ _ (exec (Stmt.For _ _ _ _ _) _) _ _ _ | show wpAny _ _ (eval (Expr.ListComp _ _ _ _) _) _ _ _ | show wpAny _ _ (exec (Stmt.Assign _ (Expr.ListComp _ _ _ _) _) _) _ _ _ | show LCt.CompSrcT _ _ _ _ _ _ _ _ _ _ _ _ _ _ _ | show LCg.CompSrc _ _ _ _ _ _ _ _ _ _ _ _ _ _ | show TurnQ _ _ _ _ _ _ _ _ | show wpAny _ _ (call (Value.builtin "str.join") _) _ _ _ | show wpAny _ _ (call (Value.builtin "str.split") _) _ _ _ | show wpAny _ _ (call (Value.builtin "str.replace") _) _ _ _ | show wpAny _ _ (truthy (Value.ref _)) _ _ _ | show wpAny _ _ (compareOp CmpOp.Eq (Value.ref _) (Value.ref _)) _ _ _ | show LeaveS _ _ _ _ _ _ _ _ _ _ _ _ _ _ _ _ _ _))); first | walk1 | (dsimp only; walk1))))
          refine turnQ (by k_asm) (by k_asm) (fun _ h => h) ?_
          rw [htk]; exact ints_more hZ3 (.cons _ _ .nil)
        case fin =>
          intro zl hZl D12 h12 k12 F12 N12 off12
          have hszl : (szs mk octs).length = 11 := by unfold szs; rw [List.length_map, hl]
          rw [List.size_toArray, hS.length, List.length_map, List.take_of_length_le (by rw [hszl, hl]; exact Nat.le_refl _)] at hZl
          replace N12 : News g' L' h12 ((D12, listOf zl.toArray zl.length) :: _) := N12
          (repeat' (first | (k_unfold; (try dsimp only)) | ((fail_if_success (with_reducible show wpAny _ _ (binaryOp Operator.Add (Value.str _ _) (Value.str _ _)) _ _ _)); (first | (((with_reducible show wpAny _ _ (compareOp CmpOp.NotEq (Value.str _ _) (Value.str _ _)) _ _ _); refine l_ne (by walk_at "lit") (by walk_at "lit") ?_; first | rw [decide_eq_true rfl] | rw [decide_eq_true (by assumption)])) | (((with_reducible show wpAny _ _ (call (Value.builtin "len") [Value.str (S _) _]) _ _ _); refine s_len (by walk_at "num") ?_; intro _ _)))) | ((fail_if_success (with_reducible (first | show wpAny _ _ (binaryOp Operator.Add (Value.str _ _) (Value.str _ _)) _ _ _ | show wpAny _ _ (exec (Stmt.While _ _ _ _) _) _ _ _ | show wpAny _ _ (call (Value.ref _) _) _ _ _ | show wpAny _ _ (exec (Stmt.For _ _ _ _ _) _) _ _ _ | show wpAny _ _ (eval (Expr.ListComp _ _ _ _) _) _ _ _ | show wpAny _ _ (exec (Stmt.Assign _ (Expr.ListComp _ _ _ _) _) _) _ _ _ | show LCt.CompSrcT _ _ _ _ _ _ _ _ _ _ _ _ _ _ _ | show LCg.CompSrc _ _ _ _ _ _ _ _ _ _ _ _ _ _ | show TurnQ _ _ _ _ _ _ _ _ | show wpAny _ _ (call (Value.builtin "str.join") _) _ _ _ | show wpAny _ _ (call (Value.builtin "str.split") _) _ _ _ | show wpAny _ _ (call (Value.builtin "str.replace") _) _ _ _ | show wpAny _ _ (truthy (Value.ref _)) _ _ _ | show wpAny _ _ (compareOp CmpOp.Eq (Value.ref _) (Value.ref _)) _ _ _ | show LeaveS _ _ _ _ _ _ _ _ _ _ _ _ _ _ _ _ _ _))); first | walk1 | (dsimp only; walk1))))
          rename Fr _ _ _ _ => F13
          rename News _ _ _ _ => N13
          refine str_spec (sz := szs mk octs) (zs := zl) (wd := wd) B' F13 X' T' rfl (news_pre N13 (by k_mem) (by k_mem)) (by ktr_room) (by ktr_units) hi hZl (by rw [List.length_map, hl]; omega) (by rw [hszl, List.length_map, hl]) (fun x hx => by
            obtain ⟨o, h1, rfl⟩ := List.mem_map.mp hx
            have := hoct o h1
            unfold Oct at this; omega) (fun x hx => by
            obtain ⟨o, h1, rfl⟩ := List.mem_map.mp hx
            have := sig_len hm (ho o h1)
            omega) ?_
          intro lS ws cw tps h14 k14 F14 N14 tup o14 o15
          obtain ⟨ad, rfl, hrk⟩ := tups_rk tup
          have N14b : News g' L' h14 ((lS, listOf ((List.range (strAll (octs.map fun o : Nat => (o : Int)) (szs mk octs) wd).length).map fun r => Value.ref (ad r)).toArray cw) :: (lb, listOf bs.toArray cb) :: (lo, listOf vs.toArray c) :: (tps ++ news)) :=
            List.forall_mem_cons.mpr ⟨N14 _ (.head _), List.forall_mem_cons.mpr ⟨N14 _ (.tail _ (.tail _ (.tail _ (List.mem_append_right _ (by k_mem))))), List.forall_mem_cons.mpr ⟨N14 _ (.tail _ (.head _)), fun p hp => (List.mem_append.mp hp).elim (fun hp => N14 p (.tail _ (.tail _ (.tail _ (List.mem_append_left _ hp))))) (fun hp => N14 p (.tail _ (.tail _ (.tail _ (List.mem_append_right _ (by repeat (first | exact hp | apply List.mem_cons_of_mem)))))))⟩⟩⟩
          clear N14
          generalize hprs : strAll (octs.map fun o : Nat => (o : Int)) (szs mk octs) wd = prs at *
          have hR : Rk prs.length ad (fun r => prs.getD r (0, 0)) (tps ++ news) := ⟨fun r hr => let ⟨t, u, z⟩ := hrk r hr; ⟨t, u, List.mem_append_left _ z⟩, fun i j hi hj => lex_of q11 hi hj⟩
          have hgm : ∀ r, r < prs.length → prs.getD r (0, 0) ∈ prs := fun r hr => by rw [List.getD_eq_getElem?_getD, List.getElem?_eq_getElem hr]; exact List.getElem_mem _
          have hP : ∀ r, r < prs.length → 0 ≤ (prs.getD r (0, 0)).2 ∧ (prs.getD r (0, 0)).2 < (prs.getD r (0, 0)).1 ∧ (prs.getD r (0, 0)).1 ≤ 50 := fun r hr => by
            have := q10 _ (hgm r hr); omega
          have hb2 : ∀ p ∈ prs, 0 ≤ p.2 ∧ p.2 + 1 < p.1 := fun p hp => ⟨(q10 p hp).1, (q10 p hp).2.1⟩
          have hch := cho_all hb2 q11
          have hinc := chB_inc (l := prs) (b := 0) fun p hp => (hb2 p hp).2
          have hmt := met_all hb2 q11
          rw [q12] at hch hinc hmt
          (repeat' (first | (k_unfold; (try dsimp only)) | ((fail_if_success (with_reducible show wpAny _ _ (binaryOp Operator.Add (Value.str _ _) (Value.str _ _)) _ _ _)); (first | (((with_reducible show wpAny _ _ (compareOp CmpOp.NotEq (Value.str _ _) (Value.str _ _)) _ _ _); refine l_ne (by walk_at "lit") (by walk_at "lit") ?_; first | rw [decide_eq_true rfl] | rw [decide_eq_true (by assumption)])) | (((with_reducible show wpAny _ _ (call (Value.builtin "len") [Value.str (S _) _]) _ _ _); refine s_len (by walk_at "num") ?_; intro _ _)))) | ((fail_if_success (with_reducible (first | show wpAny _ _ (binaryOp Operator.Add (Value.str _ _) (Value.str _ _)) _ _ _ | show wpAny _ _ (exec (Stmt.While _ _ _ _) _) _ _ _ | show wpAny _ _ (call (Value.ref _) _) _ _ _ | show wpAny _ _ (exec (Stmt.For _ _ _ _ _) _) _ _ _ | show wpAny _ _ (eval (Expr.ListComp _ _ _ _) _) _ _ _ | show wpAny _ _ (exec (Stmt.Assign _ (Expr.ListComp _ _ _ _) _) _) _ _ _ | show LCt.CompSrcT _ _ _ _ _ _ _ _ _ _ _ _ _ _ _ | show LCg.CompSrc _ _ _ _ _ _ _ _ _ _ _ _ _ _ | show TurnQ _ _ _ _ _ _ _ _ | show wpAny _ _ (call (Value.builtin "str.join") _) _ _ _ | show wpAny _ _ (call (Value.builtin "str.split") _) _ _ _ | show wpAny _ _ (call (Value.builtin "str.replace") _) _ _ _ | show wpAny _ _ (truthy (Value.ref _)) _ _ _ | show wpAny _ _ (compareOp CmpOp.Eq (Value.ref _) (Value.ref _)) _ _ _ | show LeaveS _ _ _ _ _ _ _ _ _ _ _ _ _ _ _ _ _ _))); first | walk1 | (dsimp only; walk1))))
          rename Fr _ _ _ _ => F15
          rename News _ _ _ _ => N15
          refine cho_spec (n := prs.length) (pr := fun r => prs.getD r (0, 0)) (ad := ad) B' F15 X' T' rfl XB TB D' N15 (by ktr_room) (by ktr_units) q9 (hR.mono fun p hp => .tail _ (.tail _ hp)) hP ?_
          intro g2 lc cs2 cc h16 k16 T16 F16 N16 o16 i16 B16 X16 P16 D16
          rw [hch] at i16
          (repeat' (first | (k_unfold; (try dsimp only)) | ((fail_if_success (with_reducible show wpAny _ _ (binaryOp Operator.Add (Value.str _ _) (Value.str _ _)) _ _ _)); (first | (((with_reducible show wpAny _ _ (compareOp CmpOp.NotEq (Value.str _ _) (Value.str _ _)) _ _ _); refine l_ne (by walk_at "lit") (by walk_at "lit") ?_; first | rw [decide_eq_true rfl] | rw [decide_eq_true (by assumption)])) | (((with_reducible show wpAny _ _ (call (Value.builtin "len") [Value.str (S _) _]) _ _ _); refine s_len (by walk_at "num") ?_; intro _ _)))) | ((fail_if_success (with_reducible (first | show wpAny _ _ (binaryOp Operator.Add (Value.str _ _) (Value.str _ _)) _ _ _ | show wpAny _ _ (exec (Stmt.While _ _ _ _) _) _ _ _ | show wpAny _ _ (call (Value.ref _) _) _ _ _ | show wpAny _ _ (exec (Stmt.For _ _ _ _ _) _) _ _ _ | show wpAny _ _ (eval (Expr.ListComp _ _ _ _) _) _ _ _ | show wpAny _ _ (exec (Stmt.Assign _ (Expr.ListComp _ _ _ _) _) _) _ _ _ | show LCt.CompSrcT _ _ _ _ _ _ _ _ _ _ _ _ _ _ _ | show LCg.CompSrc _ _ _ _ _ _ _ _ _ _ _ _ _ _ | show TurnQ _ _ _ _ _ _ _ _ | show wpAny _ _ (call (Value.builtin "str.join") _) _ _ _ | show wpAny _ _ (call (Value.builtin "str.split") _) _ _ _ | show wpAny _ _ (call (Value.builtin "str.replace") _) _ _ _ | show wpAny _ _ (truthy (Value.ref _)) _ _ _ | show wpAny _ _ (compareOp CmpOp.Eq (Value.ref _) (Value.ref _)) _ _ _ | show LeaveS _ _ _ _ _ _ _ _ _ _ _ _ _ _ _ _ _ _))); first | walk1 | (dsimp only; walk1))))
          rename News _ _ _ _ => N17
          refine eq_intsK (PySem.IsL.isList (News.get N17 (.head _))) i16 (PySem.IsL.isList (News.get N17 (by k_mem))) ib (by ktr_units) ?_
          rw [decide_eq_true rfl]
          (repeat' (first | (k_unfold; (try dsimp only)) | ((fail_if_success (with_reducible show wpAny _ _ (binaryOp Operator.Add (Value.str _ _) (Value.str _ _)) _ _ _)); (first | (((with_reducible show wpAny _ _ (compareOp CmpOp.NotEq (Value.str _ _) (Value.str _ _)) _ _ _); refine l_ne (by walk_at "lit") (by walk_at "lit") ?_; first | rw [decide_eq_true rfl] | rw [decide_eq_true (by assumption)])) | (((with_reducible show wpAny _ _ (call (Value.builtin "len") [Value.str (S _) _]) _ _ _); refine s_len (by walk_at "num") ?_; intro _ _)))) | ((fail_if_success (with_reducible (first | show wpAny _ _ (binaryOp Operator.Add (Value.str _ _) (Value.str _ _)) _ _ _ | show wpAny _ _ (exec (Stmt.While _ _ _ _) _) _ _ _ | show wpAny _ _ (call (Value.ref _) _) _ _ _ | show wpAny _ _ (exec (Stmt.For _ _ _ _ _) _) _ _ _ | show wpAny _ _ (eval (Expr.ListComp _ _ _ _) _) _ _ _ | show wpAny _ _ (exec (Stmt.Assign _ (Expr.ListComp _ _ _ _) _) _) _ _ _ | show LCt.CompSrcT _ _ _ _ _ _ _ _ _ _ _ _ _ _ _ | show LCg.CompSrc _ _ _ _ _ _ _ _ _ _ _ _ _ _ | show TurnQ _ _ _ _ _ _ _ _ | show wpAny _ _ (call (Value.builtin "str.join") _) _ _ _ | show wpAny _ _ (call (Value.builtin "str.split") _) _ _ _ | show wpAny _ _ (call (Value.builtin "str.replace") _) _ _ _ | show wpAny _ _ (truthy (Value.ref _)) _ _ _ | show wpAny _ _ (compareOp CmpOp.Eq (Value.ref _) (Value.ref _)) _ _ _ | show LeaveS _ _ _ _ _ _ _ _ _ _ _ _ _ _ _ _ _ _))); first | walk1 | (dsimp only; walk1))))
          rename Fr _ _ _ _ => F18
          rename News _ _ _ _ => N18
          have N19 := news_sub2 N18 (l2 := (lb, listOf bs.toArray cb) :: (lS, listOf ((List.range prs.length).map fun r => Value.ref (ad r)).toArray cw) :: (lo, listOf vs.toArray c) :: (tps ++ news)) (List.forall_mem_cons.mpr ⟨by k_mem, List.forall_mem_cons.mpr ⟨by k_mem, List.forall_mem_cons.mpr ⟨by k_mem, fun p hp => by repeat (first | exact hp | apply List.mem_cons_of_mem)⟩⟩⟩)
          refine met_spec (n := prs.length) (pr := fun r => prs.getD r (0, 0)) (ad := ad) (bi := brkF 0 pcs) B16 F18 X16 P16 rfl XB TB D16 N19 (by ktr_room) (by ktr_units) q9 (hR.mono fun p hp => .tail _ hp) hP ib (by omega) hinc.2.1 (fun r hr => hmt _ (hgm r hr)) ?_
          intro g3 h20 k20 T20 F20 N20 B20 X20 P20 D20
          (repeat' (first | (k_unfold; (try dsimp only)) | ((fail_if_success (with_reducible show wpAny _ _ (binaryOp Operator.Add (Value.str _ _) (Value.str _ _)) _ _ _)); (first | (((with_reducible show wpAny _ _ (compareOp CmpOp.NotEq (Value.str _ _) (Value.str _ _)) _ _ _); refine l_ne (by walk_at "lit") (by walk_at "lit") ?_; first | rw [decide_eq_true rfl] | rw [decide_eq_true (by assumption)])) | (((with_reducible show wpAny _ _ (call (Value.builtin "len") [Value.str (S _) _]) _ _ _); refine s_len (by walk_at "num") ?_; intro _ _)))) | ((fail_if_success (with_reducible (first | show wpAny _ _ (binaryOp Operator.Add (Value.str _ _) (Value.str _ _)) _ _ _ | show wpAny _ _ (exec (Stmt.While _ _ _ _) _) _ _ _ | show wpAny _ _ (call (Value.ref _) _) _ _ _ | show wpAny _ _ (exec (Stmt.For _ _ _ _ _) _) _ _ _ | show wpAny _ _ (eval (Expr.ListComp _ _ _ _) _) _ _ _ | show wpAny _ _ (exec (Stmt.Assign _ (Expr.ListComp _ _ _ _) _) _) _ _ _ | show LCt.CompSrcT _ _ _ _ _ _ _ _ _ _ _ _ _ _ _ | show LCg.CompSrc _ _ _ _ _ _ _ _ _ _ _ _ _ _ | show TurnQ _ _ _ _ _ _ _ _ | show wpAny _ _ (call (Value.builtin "str.join") _) _ _ _ | show wpAny _ _ (call (Value.builtin "str.split") _) _ _ _ | show wpAny _ _ (call (Value.builtin "str.replace") _) _ _ _ | show wpAny _ _ (truthy (Value.ref _)) _ _ _ | show wpAny _ _ (compareOp CmpOp.Eq (Value.ref _) (Value.ref _)) _ _ _ | show LeaveS _ _ _ _ _ _ _ _ _ _ _ _ _ _ _ _ _ _))); first | walk1 | (dsimp only; walk1))))
          refine leaveS_r (by k_asm) (by k_asm) (T16.trans T20) ?_
          intro h₀' y1 y2 y3 y4 y5 y6 y7
          exact hret h₀' _ _ y1 y2 (List.forall_mem_cons.mpr ⟨y3 _ (by k_mem), fun p hp => y3 p (.tail _ (.tail _ (.tail _ (List.mem_append_right _ hp))))⟩) y4 y5 y6 y7
end
end
section
set_option Elab.async false
set_option maxRecDepth 100000
set_option maxHeartbeats 4000000
theorem kMap (P : Params) : kAddrs = (Kf P).map (·.1) := by kernel_rfl
noncomputable def lawRec : DefRec := match stm 39 with
  | .FunctionDef n a b _ _ _ sc _ _ p => ⟨n, a, b, sc, p⟩
  | _ => ⟨Str.empty, ⟨[], [], none, [], [], none, []⟩, [], default, ⟨0, 0, 0, 0⟩⟩
end
section
set_option Elab.async false
set_option maxRecDepth 100000
set_option maxHeartbeats 8000000
local macro_rules | `(tactic| k_qdec) => `(tactic| decide +kernel)
theorem law_walk : WalkO q loose (XL q []) (kHook Kf kAddrs kMap).says PySem.Challenge.rw_op0130_01.row.toRowW lawRec [] fun f vs => PySem.call f vs := by
  k_go0
  (try k_fold)
  (repeat' (first | (k_unfold; (try dsimp only)) | ((fail_if_success (with_reducible (first | show wpAny _ _ (exec (Stmt.While _ _ _ _) _) _ _ _ | show wpAny _ _ (call (Value.ref _) _) _ _ _ | show wpAny _ _ (exec (Stmt.For _ _ _ _ _) _) _ _ _ | show wpAny _ _ (eval (Expr.ListComp _ _ _ _) _) _ _ _ | show wpAny _ _ (exec (Stmt.Assign _ (Expr.ListComp _ _ _ _) _) _) _ _ _ | show LCg.CompSrc _ _ _ _ _ _ _ _ _ _ _ _ _ _ | show TurnQ _ _ _ _ _ _ _ _ | show wpAny _ _ (subscriptTail _ _ _ _) _ _ _))); first | walk1 | (dsimp only; walk1))))
  rename_i w0 s0 s1 mg mb _ _ _ _ _ _ _ _ _ KX _ _ _ T _ _ _ _ _ _ _ _ _ xs _ _ _ _ _ _ _ la vs _ hL _ _ _ hI _ hc _ K0 _ h1 F N0
  have hlen : xs.length ≤ 63 := by omega
  refine num_spec (vs := vs) (xs := xs) (hk := rfl) K0 F KX T hL N0 (by ktr_room) (by ktr_units) hI (by omega) ?_
  rintro ln ns h2 k2 F2 N2 ⟨ni, in1, in2⟩
  (repeat' (first | (k_unfold; (try dsimp only)) | ((fail_if_success (with_reducible (first | show wpAny _ _ (exec (Stmt.While _ _ _ _) _) _ _ _ | show wpAny _ _ (call (Value.ref _) _) _ _ _ | show wpAny _ _ (exec (Stmt.For _ _ _ _ _) _) _ _ _ | show wpAny _ _ (eval (Expr.ListComp _ _ _ _) _) _ _ _ | show wpAny _ _ (exec (Stmt.Assign _ (Expr.ListComp _ _ _ _) _) _) _ _ _ | show LCg.CompSrc _ _ _ _ _ _ _ _ _ _ _ _ _ _ | show TurnQ _ _ _ _ _ _ _ _ | show wpAny _ _ (subscriptTail _ _ _ _) _ _ _))); first | walk1 | (dsimp only; walk1))))
  k_dflt (refine LCg.Assign_ListComp_U (F₀ := by k_asm) (by rfl) (by with_unfolding_all rfl) (by with_unfolding_all rfl) (by decide) (by rfl) (by decide) (by rfl) (by rfl) (by rfl) ?_)
  (repeat' (first | (k_unfold; (try dsimp only)) | ((fail_if_success (with_reducible (first | show wpAny _ _ (exec (Stmt.While _ _ _ _) _) _ _ _ | show wpAny _ _ (call (Value.ref _) _) _ _ _ | show wpAny _ _ (exec (Stmt.For _ _ _ _ _) _) _ _ _ | show wpAny _ _ (eval (Expr.ListComp _ _ _ _) _) _ _ _ | show wpAny _ _ (exec (Stmt.Assign _ (Expr.ListComp _ _ _ _) _) _) _ _ _ | show LCg.CompSrc _ _ _ _ _ _ _ _ _ _ _ _ _ _ | show TurnQ _ _ _ _ _ _ _ _ | show wpAny _ _ (subscriptTail _ _ _ _) _ _ _))); first | walk1 | (dsimp only; walk1))))
  rename Fr _ _ _ _ => F3
  rename News _ _ _ _ => N3
  refine kmk_slice_ints F3 N3 (PySem.IsL.isList (News.get N3 (.head _))) (IsPart.int _ _) IsPart.none in1 (kmk_from in1 (by omega)) rfl ?_ (by with_unfolding_all rfl) (by kmk_pure) (by rw [List.size_toArray, in1.length, in2, show sizeLine = 16777216 from rfl]; omega)
  intro Dd vd h4 F4 N4 qd id4 c4 le4
  have hld : (List.drop (Int.toNat 1) ni).length = 11 := by rw [List.length_drop, in2]; rfl
  generalize List.drop (Int.toNat 1) ni = dn at *
  refine LCg.CompSrc.ledger rfl (by k_asm) (by k_asm) (by k_mem) (by rw [List.size_toArray, id4.length, show sizeLine = 16777216 from rfl]; omega) fun gg => ?_
  refine comp_ind (fun i zs => ∃ os : List Nat, IntsAre zs (os.map fun o : Nat => (o : Int)) ∧ os.length = i ∧ ∀ o ∈ os, Oc o) (.inr ⟨_, by k_mem, rfl, _, rfl⟩) vd.toArray.size ?fin ?turn _ 0 [] (Nat.zero_add _) ⟨[], .nil, rfl, fun _ h => nomatch h⟩
  case turn =>
    rintro i zs v I oI C oC D m2 hh tkk E' hi3 ⟨os, hY1, hY2, hY3⟩ hv hC hm2 hF hN off ne
    obtain ⟨tv, rfl, hil⟩ := ints_at id4 hv
    (repeat' (first | (k_unfold; (try dsimp only)) | ((fail_if_success (with_reducible (first | show wpAny _ _ (exec (Stmt.While _ _ _ _) _) _ _ _ | show wpAny _ _ (call (Value.ref _) _) _ _ _ | show wpAny _ _ (exec (Stmt.For _ _ _ _ _) _) _ _ _ | show wpAny _ _ (eval (Expr.ListComp _ _ _ _) _) _ _ _ | show wpAny _ _ (exec (Stmt.Assign _ (Expr.ListComp _ _ _ _) _) _) _ _ _ | show LCg.CompSrc _ _ _ _ _ _ _ _ _ _ _ _ _ _ | show TurnQ _ _ _ _ _ _ _ _ | show wpAny _ _ (subscriptTail _ _ _ _) _ _ _))); first | walk1 | (dsimp only; walk1))))
    refine oct_spec K0 hF KX T rfl hN (by ktr_room) (by ktr_units) ?_
    intro o t5 h5 k5 ho F5 N5
    unfold Oct at ho
    obtain ⟨on, rfl⟩ : ∃ on : Nat, o = (on : Int) := ⟨o.toNat, by omega⟩
    (repeat' (first | (k_unfold; (try dsimp only)) | ((fail_if_success (with_reducible (first | show wpAny _ _ (exec (Stmt.While _ _ _ _) _) _ _ _ | show wpAny _ _ (call (Value.ref _) _) _ _ _ | show wpAny _ _ (exec (Stmt.For _ _ _ _ _) _) _ _ _ | show wpAny _ _ (eval (Expr.ListComp _ _ _ _) _) _ _ _ | show wpAny _ _ (exec (Stmt.Assign _ (Expr.ListComp _ _ _ _) _) _) _ _ _ | show LCg.CompSrc _ _ _ _ _ _ _ _ _ _ _ _ _ _ | show TurnQ _ _ _ _ _ _ _ _ | show wpAny _ _ (subscriptTail _ _ _ _) _ _ _))); first | walk1 | (dsimp only; walk1))))
    refine turnQ F5 N5 (fun _ h => h) ⟨os ++ [on], by rw [List.map_append]; exact ints_more hY1 (.cons _ _ .nil), by rw [List.length_append, hY2]; rfl, ?_⟩
    intro x hx
    rcases List.mem_append.mp hx with hx | hx
    · exact hY3 x hx
    · rcases List.mem_singleton.mp hx with rfl
      unfold Oc Ro
      omega
  case fin =>
    rintro zs ⟨os, hY1, hY2, hY3⟩ D1 h1 tk1 F1 N1 off1
    rw [List.size_toArray, id4.length, hld] at hY2
    replace N1 : News s1.heap _ h1 ((D1, listOf zs.toArray zs.length) :: _) := N1
    (repeat' (first | (k_unfold; (try dsimp only)) | ((fail_if_success (with_reducible (first | show wpAny _ _ (exec (Stmt.While _ _ _ _) _) _ _ _ | show wpAny _ _ (call (Value.ref _) _) _ _ _ | show wpAny _ _ (exec (Stmt.For _ _ _ _ _) _) _ _ _ | show wpAny _ _ (eval (Expr.ListComp _ _ _ _) _) _ _ _ | show wpAny _ _ (exec (Stmt.Assign _ (Expr.ListComp _ _ _ _) _) _) _ _ _ | show LCg.CompSrc _ _ _ _ _ _ _ _ _ _ _ _ _ _ | show TurnQ _ _ _ _ _ _ _ _ | show wpAny _ _ (subscriptTail _ _ _ _) _ _ _))); first | walk1 | (dsimp only; walk1))))
    rw [lit_nl]
    refine hold_spec (wd := 4) (mk := [10]) (octs := os) K0 F1 KX T rfl KX T (fun b hb => nomatch hb) N1 (by ktr_room) (by ktr_units) hY1 hY2 hY3 (by decide) (by decide) (.inl rfl) ?_
    intro hb h5 k5 tn F5 N5 B5 X5 T5 D5
    (repeat' (first | (k_unfold; (try dsimp only)) | ((fail_if_success (with_reducible (first | show wpAny _ _ (exec (Stmt.While _ _ _ _) _) _ _ _ | show wpAny _ _ (call (Value.ref _) _) _ _ _ | show wpAny _ _ (exec (Stmt.For _ _ _ _ _) _) _ _ _ | show wpAny _ _ (eval (Expr.ListComp _ _ _ _) _) _ _ _ | show wpAny _ _ (exec (Stmt.Assign _ (Expr.ListComp _ _ _ _) _) _) _ _ _ | show LCg.CompSrc _ _ _ _ _ _ _ _ _ _ _ _ _ _ | show TurnQ _ _ _ _ _ _ _ _ | show wpAny _ _ (subscriptTail _ _ _ _) _ _ _))); first | walk1 | (dsimp only; walk1))))
    refine' ksa_sub (ns := ni) N5 ?hm in1 (by omega) (by omega) (by omega) fun tx => ?_
    case hm => k_mem
    (repeat' (first | (k_unfold; (try dsimp only)) | ((fail_if_success (with_reducible (first | show wpAny _ _ (exec (Stmt.While _ _ _ _) _) _ _ _ | show wpAny _ _ (call (Value.ref _) _) _ _ _ | show wpAny _ _ (exec (Stmt.For _ _ _ _ _) _) _ _ _ | show wpAny _ _ (eval (Expr.ListComp _ _ _ _) _) _ _ _ | show wpAny _ _ (exec (Stmt.Assign _ (Expr.ListComp _ _ _ _) _) _) _ _ _ | show LCg.CompSrc _ _ _ _ _ _ _ _ _ _ _ _ _ _ | show TurnQ _ _ _ _ _ _ _ _ | show wpAny _ _ (subscriptTail _ _ _ _) _ _ _))); first | walk1 | (dsimp only; walk1))))
    rw [lit_crlf]
    have hf1 := Int.fmod_nonneg_of_pos (ni.getD (Int.toNat 0) 0) (show (0 : Int) < 4 by decide)
    have hf2 := Int.fmod_lt_of_pos (ni.getD (Int.toNat 0) 0) (show (0 : Int) < 4 by decide)
    generalize (ni.getD (Int.toNat 0) 0).fmod 4 = fm at *
    obtain ⟨fn, rfl⟩ : ∃ fn : Nat, fm = (fn : Int) := ⟨fm.toNat, by omega⟩
    rw [show (5 + (fn : Int)) = ((5 + fn : Nat) : Int) from by omega]
    refine hold_spec (wd := 5 + fn) (mk := [13, 10]) (octs := os) B5 F5 X5 T5 rfl KX T D5 N5 (by ktr_room) (by ktr_units) hY1 hY2 hY3 (by omega) (by omega) (.inr rfl) ?_
    intro hb2 h6 k6 tn2 F6 N6 B6 X6 T6 D6
    have kp : ∀ a o, s1.heap.get? a = some o → h6.get? a = some o := fun a o e => F6.keep a o (tn2.other a o (tn.other a o e (fun h => nomatch h)) (fun h => nomatch h))
    refine ⟨.inl ⟨.bool true, _, _, rfl, raisesW_false ?_, .bool _, ?_, unshared_nil⟩, kp, rfl, by assumption⟩
    · wrow_none_raised
    · wrow_post
end
section
set_option Elab.async false
set_option maxRecDepth 100000
set_option maxHeartbeats 4000000

theorem left_of (run : ∀ (w : World) (os : OsState), ∃ s, topRun treeTable pw w 11 (some (.ref 6)) 18000 (s0T w.params os).abs (topStub pw) = some s ∧ looks pw q loose (boot_heap w.params) s = goods q loose ((Kf w.params).map fun p => some p.2)) :
    LeftO PySem.Challenge.pw_op0130_01 q loose xt (fun s => kAddrs.map s.heap.get?) (fun w => (Kf w.params).map fun p => some p.2) 18000 := fun w => by
  obtain ⟨⟨h, gs, d, k, os⟩, e, e'⟩ := Option.map_eq_some_iff.mp (show (fencedOpening treeTable PySem.Challenge.pw_op0130_01 w 18000).map (fun s => (s.heap, s.gens, s.drawn, s.toks)) = some (boot_heap w.params, Array.mk [], boot_drawn, boot_toks) from (congrFun (congrFun PySem.W.Fast.bootInQ_eq PySem.Challenge.pw_op0130_01) w).trans (boot_runs w))
  obtain ⟨rfl, rfl, rfl, rfl⟩ : h = boot_heap w.params ∧ gs = Array.mk [] ∧ d = boot_drawn ∧ k = boot_toks := by simpa using e'
  obtain ⟨s1, hr', hs⟩ := run w os
  rw [s0T_abs] at hr'
  unfold looks goods at hs
  obtain ⟨l1, l2, l3⟩ : _ ∧ _ ∧ _ := by simpa only [Prod.mk.injEq] using hs
  have z1 : (boot_heap w.params).isNs mainGlobals = true := by kernel_rfl
  have z2 : (boot_heap w.params).objs.size = 11 := by kernel_rfl
  have z3 : (boot_heap w.params).nsMap mainGlobals "__annotations__" = some (.ref 6) := by kernel_rfl
  have t : topFrom treeTable PySem.Challenge.pw_op0130_01 w 18000 ⟨boot_heap w.params, Array.mk [], boot_drawn, boot_toks, os⟩ = some s1 := by
    unfold topFrom
    dsimp only
    rw [z1, z2, z3, hr']
    show (match staticsOk _ _ _ && _ && _ && _ with | true => _ | false => _) = _
    rw [l1]
  unfold openEnds
  rw [e]
  show (topFrom treeTable _ w 18000 _).map _ = _
  rw [t]
  exact congrArg some (Prod.ext l2 l3)
noncomputable abbrev hook : Hook := kHook Kf kAddrs kMap
theorem said_ok : OpenLaw.wellSaid PySem.Challenge.rw_op0130_01 = true := by kernel_rfl
theorem head_of (run : ∀ (w : World) (os : OsState), ∃ s, topRun treeTable pw w 11 (some (.ref 6)) 18000 (s0T w.params os).abs (topStub pw) = some s ∧ looks pw q loose (boot_heap w.params) s = goods q loose ((Kf w.params).map fun p => some p.2))
    (call : WalkO q loose (XL q []) (kHook Kf kAddrs kMap).says PySem.Challenge.rw_op0130_01.row.toRowW lawRec [] fun f vs => PySem.call f vs) : PySem.Challenge.rw_op0130_01.Holds := by
  w_on
  refine holds_law said_ok fun said => ?_
  refine holds_open (q := q) (loose := loose) (Xt := xt) (XP := XL q []) (Yf := hook.obs) (Ya := hook.val) (YP := hook.says) (N := 18000) (left_of run) hook.of hook.keeps (fun s e => xl_of s (Bool.and_eq_true_iff.mp e).1) XL.keeps (by kernel_rfl) (by kernel_rfl) (by rfl) (fun s e => recFacts_of (Bool.and_eq_true_iff.mp e).2) (by rfl) (by assumption) (by decide +kernel) ⟨rfl, rfl, rfl, rfl, rfl, by decide +kernel⟩ ?hw call
  w_witness2
end
end Mine

theorem PySem.Challenge.cw_op0130_01_holds : PySem.Challenge.rw_op0130_01.Holds :=
  Mine.head_of Mine.run_all Mine.law_walk
