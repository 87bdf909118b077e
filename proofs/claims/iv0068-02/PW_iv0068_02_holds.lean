import PyProof.Rows.All
import Wide.All
import OpenK.AllK
import Wide.FinOn
import Lean
import PySem.Challenge.RW_iv0068_02
open PySem PySem.W PyProof.Rows PySem.Calls PySem.Spec
set_option Elab.async false
set_option maxRecDepth 100000
set_option linter.unusedVariables false
set_option linter.unusedSimpArgs false
set_option linter.unusedSectionVars false
set_option compiler.extract_closed false
namespace Tg
set_option maxHeartbeats 1000000
noncomputable def nth : List Stmt → Nat → Stmt
  | s :: _, 0 => s
  | _ :: r, n + 1 => nth r n
  | [], _ => .Pass default
noncomputable def dBody : Stmt → List Stmt
  | .FunctionDef _ _ b _ _ _ _ _ _ _ => b
  | _ => []
noncomputable def dArgs : Stmt → Arguments
  | .FunctionDef _ a _ _ _ _ _ _ _ _ => a
  | _ => default
noncomputable def dScope : Stmt → Scope
  | .FunctionDef _ _ _ _ _ _ s _ _ _ => s
  | _ => default
noncomputable def cBody : Stmt → List Stmt
  | .ClassDef _ _ _ b _ _ _ _ _ _ _ => b
  | _ => []
end Tg
namespace Tg
set_option maxHeartbeats 1000000
noncomputable def topRunT (tb : String → Option Builtin) (p : Program) (w : World) (n₀ : Nat) (ann : Option Value) : Nat → SharedT → Thread → Option SharedT
  | 0, _, _ => none
  | n + 1, s, t => match through t with
    | true => some s
    | false => match stepOk n₀ ann t with
      | false => none
      | true => match stepT (denote tb) p w s t with
        | some (s', t') => topRunT tb p w n₀ ann n s' t'
        | none => none
theorem topRun_ofT {tb : String → Option Builtin} {p : Program} {w : World} {n₀ : Nat} {ann : Option Value} : ∀ {n : Nat} {s s' : SharedT} {t : Thread}, topRunT tb p w n₀ ann n s t = some s' → topRun tb p w n₀ ann n s.abs t = some s'.abs
  | 0, _, _, _, h => by cases h
  | n + 1, s, s', t, h => by
    unfold topRunT at h
    unfold topRun
    cases ht : through t with
    | true => rw [ht] at h; cases h; rfl
    | false =>
      rw [ht] at h
      cases hk : stepOk n₀ ann t with
      | false => rw [hk] at h; cases h
      | true =>
        rw [hk] at h
        cases hs : stepT (denote tb) p w s t with
        | none => rw [hs] at h; cases h
        | some r => obtain ⟨s₂, t₂⟩ := r; rw [hs] at h; rw [stepT_spec hs]; exact topRun_ofT h
noncomputable def bootT (P : Params) : BT := .node (boot_o_0 P) (.node (boot_o_1 P) (.node (boot_o_3 P) (.node (boot_o_7 P) .nil .nil) .nil) (.node (boot_o_5 P) (.node (boot_o_9 P) .nil .nil) .nil))
  (.node (boot_o_2 P) (.node (boot_o_4 P) (.node (boot_o_8 P) .nil .nil) .nil) (.node (boot_o_6 P) (.node (boot_o_10 P) .nil .nil) .nil))
theorem bootT_abs (P : Params) : absHeap (bootT P) 11 {} = boot_heap P := by kernel_rfl
noncomputable abbrev en (P : Params) (x : Str) (t : Tok) (v : Value) : DictEntry := { hash := PyData.keyHash P x, key := .str x t, val := v }
noncomputable abbrev fnObj (name qual : Str) (d : Stmt) (dV : Value) (pm : Str) (t : Tok) (an : Option Addr) (c : Addr) : Obj :=
  { cls := .type "function", data := .func (fnX name qual (dArgs d) (dBody d) (dScope d) [] dV .none .none (.str pm t) an (.ref c) .none) }
noncomputable def K2 (p : Program) (P : Params) : Frag := [
  (2, ({ cls := .none, data := .dict #[] } : Obj)),
  (3, ({ cls := .type "dict", data := .dict #[en P "__name__" 165 (.str "law_iv0068_02" 1263), en P "__doc__" 166 (.none), en P "__package__" 167 (.none), en P "__loader__" 168 (.builtin "__main__.__loader__#opaque"), en P "__spec__" 169 (.none), en P "__annotations__" 170 (.ref 6), en P "__builtins__" 171 (.ref 4), en P "__file__" 173 (.str "/claim/cut.py" 172), en P "__cached__" 174 (.none), en P "_wall" 193 (.ref 21), en P "prod" 204 (.ref 28), en P "all_int" 211 (.ref 35), en P "partition" 222 (.ref 42), en P "gcd" 232 (.ref 49), en P "Node" 466 (.ref 232), en P "Variable" 535 (.ref 289), en P "NumNode" 603 (.ref 343), en P "variable" 612 (.ref 352), en P "create_node" 619 (.ref 359), en P "create_lt_node" 625 (.ref 364), en P "create_ge_node" 633 (.ref 371), en P "OpNode" 676 (.ref 402), en P "LtNode" 715 (.ref 435), en P "MulNode" 779 (.ref 490), en P "DivNode" 827 (.ref 531), en P "ModNode" 883 (.ref 579), en P "RedNode" 924 (.ref 612), en P "SumNode" 995 (.ref 665), en P "AndNode" 1031 (.ref 694), en P "sym_render" 1039 (.ref 704), en P "canonicalize_strides" 1049 (.ref 711), en P "strides_for_shape" 1058 (.ref 718), en P "_merge_dims" 1075 (.ref 726), en P "_reshape_mask" 1096 (.ref 733), en P "un1d" 1108 (.ref 740), en P "View" 1262 (.ref 845), en P "_law_starts" 1270 (.ref 856), en P "_law_stretch" 1276 (.ref 863), en P "_law_steps" 1282 (.ref 870), en P "_law_empty" 1288 (.ref 877), en P "_law_size" 1297 (.ref 884), en P "_law_spots" 1303 (.ref 889), en P "_law_split" 1309 (.ref 894), en P "_law_deed" 1331 (.ref 901), en P "_law_done" 1337 (.ref 906), en P "_law_do" 1346 (.ref 913), en P "_law_read" 1363 (.ref 920), en P "_law_row" 1369 (.ref 925), en P "_law_view" 1384 (.ref 932), en P "law" 1390 (.ref 937)] 50 } : Obj)),
  (27, ({ cls := .type "code", data := .fields #[.str "prod" 196, .str "prod" 197, .str "/claim/cut.py" 198, .int 5 0, .int 1 0, .int 0 0, .int 0 0, .int 3 0, .ref 22, .bool true, .int 181 0, .ref 23, .none, .ref 24, .ref 25, .ref 26, .int 202 0, .int 5 0, .str "/claim/cut.py" 203] } : Obj)),
  (28, fnObj "prod" "prod" (nth p.main.body 2) .none "tinygrad.helpers" 194 none 27),
  (34, ({ cls := .type "code", data := .fields #[.str "all_int" 205, .str "all_int" 206, .str "/claim/cut.py" 207, .int 10 0, .int 1 0, .int 0 0, .int 0 0, .int 3 0, .ref 29, .bool true, .int 181 0, .ref 30, .none, .ref 31, .ref 32, .ref 33, .int 209 0, .int 10 0, .str "/claim/cut.py" 210] } : Obj)),
  (35, fnObj "all_int" "all_int" (nth p.main.body 3) .none "tinygrad.helpers" 194 none 34),
  (343, ({ cls := .type "type", data := .cls { name := "NumNode", bases := [.ref 232], mro := [.ref 343, .ref 232, .type "object"], ns := 342, qualname := "NumNode" }, slots := #[some (.ref 292), none, some (.str "NumNode" 536), some (.str "NumNode" 544), some (.builtin "object.__new__"), some (.bool true)] } : Obj)),
  (710, ({ cls := .type "code", data := .fields #[.str "canonicalize_strides" 1042, .str "canonicalize_strides" 1043, .str "/claim/cut.py" 1044, .int 437 0, .int 2 0, .int 0 0, .int 0 0, .int 3 0, .ref 705, .bool true, .int 181 0, .ref 706, .none, .ref 707, .ref 708, .ref 709, .int 1047 0, .int 437 0, .str "/claim/cut.py" 1048] } : Obj)),
  (711, fnObj "canonicalize_strides" "canonicalize_strides" (nth p.main.body 24) .none "tinygrad.shape.view" 1040 none 710),
  (717, ({ cls := .type "code", data := .fields #[.str "strides_for_shape" 1050, .str "strides_for_shape" 1051, .str "/claim/cut.py" 1052, .int 439 0, .int 1 0, .int 0 0, .int 0 0, .int 3 0, .ref 712, .bool true, .int 181 0, .ref 713, .none, .ref 714, .ref 715, .ref 716, .int 1056 0, .int 439 0, .str "/claim/cut.py" 1057] } : Obj)),
  (718, fnObj "strides_for_shape" "strides_for_shape" (nth p.main.body 25) .none "tinygrad.shape.view" 1040 none 717),
  (719, ({ cls := .type "tuple", data := .seq #[.none] } : Obj)),
  (725, ({ cls := .type "code", data := .fields #[.str "_merge_dims" 1059, .str "_merge_dims" 1060, .str "/claim/cut.py" 1061, .int 446 0, .int 3 0, .int 0 0, .int 0 0, .int 3 0, .ref 720, .bool true, .int 181 0, .ref 721, .none, .ref 722, .ref 723, .ref 724, .int 1073 0, .int 446 0, .str "/claim/cut.py" 1074] } : Obj)),
  (726, fnObj "_merge_dims" "_merge_dims" (nth p.main.body 26) (.ref 719) "tinygrad.shape.view" 1040 none 725),
  (732, ({ cls := .type "code", data := .fields #[.str "_reshape_mask" 1076, .str "_reshape_mask" 1077, .str "/claim/cut.py" 1078, .int 462 0, .int 3 0, .int 0 0, .int 0 0, .int 3 0, .ref 727, .bool true, .int 181 0, .ref 728, .none, .ref 729, .ref 730, .ref 731, .int 1094 0, .int 462 0, .str "/claim/cut.py" 1095] } : Obj)),
  (733, fnObj "_reshape_mask" "_reshape_mask" (nth p.main.body 27) .none "tinygrad.shape.view" 1040 none 732),
  (753, ({ cls := .type "code", data := .fields #[.str "__init__" 1121, .str "View.__init__" 1122, .str "/claim/cut.py" 1123, .int 502 0, .int 6 0, .int 0 0, .int 0 0, .int 3 0, .ref 748, .bool true, .int 181 0, .ref 749, .none, .ref 750, .ref 751, .ref 752, .int 1130 0, .int 502 0, .str "/claim/cut.py" 1131] } : Obj)),
  (754, fnObj "__init__" "View.__init__" (nth (cBody (nth p.main.body 29)) 0) .none "tinygrad.shape.view" 1040 none 753),
  (767, ({ cls := .type "tuple", data := .seq #[.none, .int 0 1147, .none] } : Obj)),
  (771, ({ cls := .type "code", data := .fields #[.str "create" 1148, .str "View.create" 1149, .str "/claim/cut.py" 1150, .int 515 0, .int 4 0, .int 0 0, .int 0 0, .int 3 0, .ref 768, .bool true, .int 181 0, .ref 769, .none, .none, .none, .ref 770, .int 1151 0, .int 515 0, .str "/claim/cut.py" 1152] } : Obj)),
  (772, fnObj "create" "View.create" (nth (cBody (nth p.main.body 29)) 3) (.ref 767) "tinygrad.shape.view" 1040 (some 775) 771),
  (774, ({ cls := .type "staticmethod", dict := some 773, data := .fields #[.ref 772, .bool false] } : Obj)),
  (795, ({ cls := .type "tuple", data := .seq #[.none] } : Obj)),
  (799, ({ cls := .type "code", data := .fields #[.str "_unsafe_resize" 1187, .str "View._unsafe_resize" 1188, .str "/claim/cut.py" 1189, .int 610 0, .int 3 0, .int 0 0, .int 0 0, .int 3 0, .ref 796, .bool true, .int 181 0, .ref 797, .none, .none, .none, .ref 798, .int 1190 0, .int 610 0, .str "/claim/cut.py" 1191] } : Obj)),
  (800, fnObj "_unsafe_resize" "View._unsafe_resize" (nth (cBody (nth p.main.body 29)) 7) (.ref 795) "tinygrad.shape.view" 1040 none 799),
  (811, ({ cls := .type "code", data := .fields #[.str "shrink" 1199, .str "View.shrink" 1200, .str "/claim/cut.py" 1201, .int 628 0, .int 2 0, .int 0 0, .int 0 0, .int 3 0, .ref 806, .bool true, .int 181 0, .ref 807, .none, .ref 808, .ref 809, .ref 810, .int 1204 0, .int 628 0, .str "/claim/cut.py" 1205] } : Obj)),
  (812, fnObj "shrink" "View.shrink" (nth (cBody (nth p.main.body 29)) 9) .none "tinygrad.shape.view" 1040 none 811),
  (816, ({ cls := .type "code", data := .fields #[.str "expand" 1207, .str "View.expand" 1208, .str "/claim/cut.py" 1209, .int 632 0, .int 2 0, .int 0 0, .int 0 0, .int 3 0, .ref 813, .bool true, .int 181 0, .ref 814, .none, .none, .none, .ref 815, .int 1210 0, .int 632 0, .str "/claim/cut.py" 1211] } : Obj)),
  (817, fnObj "expand" "View.expand" (nth (cBody (nth p.main.body 29)) 10) .none "tinygrad.shape.view" 1040 none 816),
  (823, ({ cls := .type "code", data := .fields #[.str "permute" 1213, .str "View.permute" 1214, .str "/claim/cut.py" 1215, .int 642 0, .int 2 0, .int 0 0, .int 0 0, .int 3 0, .ref 818, .bool true, .int 181 0, .ref 819, .none, .ref 820, .ref 821, .ref 822, .int 1219 0, .int 642 0, .str "/claim/cut.py" 1220] } : Obj)),
  (824, fnObj "permute" "View.permute" (nth (cBody (nth p.main.body 29)) 11) .none "tinygrad.shape.view" 1040 none 823),
  (828, ({ cls := .type "code", data := .fields #[.str "stride" 1222, .str "View.stride" 1223, .str "/claim/cut.py" 1224, .int 646 0, .int 2 0, .int 0 0, .int 0 0, .int 3 0, .ref 825, .bool true, .int 181 0, .ref 826, .none, .none, .none, .ref 827, .int 1225 0, .int 646 0, .str "/claim/cut.py" 1226] } : Obj)),
  (829, fnObj "stride" "View.stride" (nth (cBody (nth p.main.body 29)) 12) .none "tinygrad.shape.view" 1040 none 828),
  (833, ({ cls := .type "code", data := .fields #[.str "reshape" 1228, .str "View.reshape" 1229, .str "/claim/cut.py" 1230, .int 654 0, .int 2 0, .int 0 0, .int 0 0, .int 3 0, .ref 830, .bool true, .int 181 0, .ref 831, .none, .none, .none, .ref 832, .int 1231 0, .int 654 0, .str "/claim/cut.py" 1232] } : Obj)),
  (834, fnObj "reshape" "View.reshape" (nth (cBody (nth p.main.body 29)) 13) .none "tinygrad.shape.view" 1040 none 833),
  (844, ({ cls := .type "dict", data := .dict #[en P "__module__" 1116 (.str "tinygrad.shape.view" 1040), en P "__firstlineno__" 1120 (.int 500 1119), en P "__init__" 1132 (.ref 754), en P "__eq__" 1140 (.ref 761), en P "size" 1146 (.ref 766), en P "create" 1165 (.ref 774), en P "__add__" 1171 (.ref 780), en P "invert" 1179 (.ref 787), en P "minify" 1186 (.ref 794), en P "_unsafe_resize" 1192 (.ref 800), en P "pad" 1198 (.ref 805), en P "shrink" 1206 (.ref 812), en P "expand" 1212 (.ref 817), en P "permute" 1221 (.ref 824), en P "stride" 1227 (.ref 829), en P "reshape" 1233 (.ref 834), en P "expr" 1248 (.ref 842), en P "__static_attributes__" 1254 (.ref 843), en P "__dict__" 1256 (.ref 846), en P "__weakref__" 1258 (.ref 847), en P "__doc__" 1259 (.none), en P "__hash__" 1260 (.none)] 5 } : Obj)),
  (845, ({ cls := .type "type", data := .cls { name := "View", bases := [.type "object"], mro := [.ref 845, .type "object"], ns := 844, qualname := "View" }, slots := #[none, none, some (.str "View" 1109), some (.str "View" 1117), some (.builtin "object.__new__"), some (.bool true)] } : Obj)),
  (855, ({ cls := .type "code", data := .fields #[.str "_law_starts" 1265, .str "_law_starts" 1266, .str "/claim/cut.py" 1267, .int 703 0, .int 0 0, .int 0 0, .int 0 0, .int 3 0, .ref 850, .bool true, .int 181 0, .ref 851, .none, .ref 852, .ref 853, .ref 854, .int 1268 0, .int 703 0, .str "/claim/cut.py" 1269] } : Obj)),
  (856, fnObj "_law_starts" "_law_starts" (nth p.main.body 31) .none "law_iv0068_02" 1263 none 855),
  (862, ({ cls := .type "code", data := .fields #[.str "_law_stretch" 1271, .str "_law_stretch" 1272, .str "/claim/cut.py" 1273, .int 705 0, .int 0 0, .int 0 0, .int 0 0, .int 3 0, .ref 857, .bool true, .int 181 0, .ref 858, .none, .ref 859, .ref 860, .ref 861, .int 1274 0, .int 705 0, .str "/claim/cut.py" 1275] } : Obj)),
  (863, fnObj "_law_stretch" "_law_stretch" (nth p.main.body 32) .none "law_iv0068_02" 1263 none 862),
  (869, ({ cls := .type "code", data := .fields #[.str "_law_steps" 1277, .str "_law_steps" 1278, .str "/claim/cut.py" 1279, .int 707 0, .int 0 0, .int 0 0, .int 0 0, .int 3 0, .ref 864, .bool true, .int 181 0, .ref 865, .none, .ref 866, .ref 867, .ref 868, .int 1280 0, .int 707 0, .str "/claim/cut.py" 1281] } : Obj)),
  (870, fnObj "_law_steps" "_law_steps" (nth p.main.body 33) .none "law_iv0068_02" 1263 none 869),
  (883, ({ cls := .type "code", data := .fields #[.str "_law_size" 1289, .str "_law_size" 1290, .str "/claim/cut.py" 1291, .int 711 0, .int 1 0, .int 0 0, .int 0 0, .int 3 0, .ref 878, .bool true, .int 181 0, .ref 879, .none, .ref 880, .ref 881, .ref 882, .int 1295 0, .int 711 0, .str "/claim/cut.py" 1296] } : Obj)),
  (884, fnObj "_law_size" "_law_size" (nth p.main.body 35) .none "law_iv0068_02" 1263 none 883),
  (888, ({ cls := .type "code", data := .fields #[.str "_law_spots" 1298, .str "_law_spots" 1299, .str "/claim/cut.py" 1300, .int 716 0, .int 1 0, .int 0 0, .int 0 0, .int 3 0, .ref 885, .bool true, .int 181 0, .ref 886, .none, .none, .none, .ref 887, .int 1301 0, .int 716 0, .str "/claim/cut.py" 1302] } : Obj)),
  (889, fnObj "_law_spots" "_law_spots" (nth p.main.body 36) .none "law_iv0068_02" 1263 none 888),
  (893, ({ cls := .type "code", data := .fields #[.str "_law_split" 1304, .str "_law_split" 1305, .str "/claim/cut.py" 1306, .int 721 0, .int 2 0, .int 0 0, .int 0 0, .int 3 0, .ref 890, .bool true, .int 181 0, .ref 891, .none, .none, .none, .ref 892, .int 1307 0, .int 721 0, .str "/claim/cut.py" 1308] } : Obj)),
  (894, fnObj "_law_split" "_law_split" (nth p.main.body 37) .none "law_iv0068_02" 1263 none 893),
  (900, ({ cls := .type "code", data := .fields #[.str "_law_deed" 1310, .str "_law_deed" 1311, .str "/claim/cut.py" 1312, .int 733 0, .int 4 0, .int 0 0, .int 0 0, .int 3 0, .ref 895, .bool true, .int 181 0, .ref 896, .none, .ref 897, .ref 898, .ref 899, .int 1329 0, .int 733 0, .str "/claim/cut.py" 1330] } : Obj)),
  (901, fnObj "_law_deed" "_law_deed" (nth p.main.body 38) .none "law_iv0068_02" 1263 none 900),
  (905, ({ cls := .type "code", data := .fields #[.str "_law_done" 1332, .str "_law_done" 1333, .str "/claim/cut.py" 1334, .int 784 0, .int 4 0, .int 0 0, .int 0 0, .int 3 0, .ref 902, .bool true, .int 181 0, .ref 903, .none, .none, .none, .ref 904, .int 1335 0, .int 784 0, .str "/claim/cut.py" 1336] } : Obj)),
  (906, fnObj "_law_done" "_law_done" (nth p.main.body 39) .none "law_iv0068_02" 1263 none 905),
  (912, ({ cls := .type "code", data := .fields #[.str "_law_do" 1338, .str "_law_do" 1339, .str "/claim/cut.py" 1340, .int 817 0, .int 3 0, .int 0 0, .int 0 0, .int 3 0, .ref 907, .bool true, .int 181 0, .ref 908, .none, .ref 909, .ref 910, .ref 911, .int 1344 0, .int 817 0, .str "/claim/cut.py" 1345] } : Obj)),
  (913, fnObj "_law_do" "_law_do" (nth p.main.body 40) .none "law_iv0068_02" 1263 none 912),
  (919, ({ cls := .type "code", data := .fields #[.str "_law_read" 1347, .str "_law_read" 1348, .str "/claim/cut.py" 1349, .int 829 0, .int 2 0, .int 0 0, .int 0 0, .int 3 0, .ref 914, .bool true, .int 181 0, .ref 915, .none, .ref 916, .ref 917, .ref 918, .int 1361 0, .int 829 0, .str "/claim/cut.py" 1362] } : Obj)),
  (920, fnObj "_law_read" "_law_read" (nth p.main.body 41) .none "law_iv0068_02" 1263 none 919),
  (924, ({ cls := .type "code", data := .fields #[.str "_law_row" 1364, .str "_law_row" 1365, .str "/claim/cut.py" 1366, .int 850 0, .int 2 0, .int 0 0, .int 0 0, .int 3 0, .ref 921, .bool true, .int 181 0, .ref 922, .none, .none, .none, .ref 923, .int 1367 0, .int 850 0, .str "/claim/cut.py" 1368] } : Obj)),
  (925, fnObj "_law_row" "_law_row" (nth p.main.body 42) .none "law_iv0068_02" 1263 none 924),
  (931, ({ cls := .type "code", data := .fields #[.str "_law_view" 1370, .str "_law_view" 1371, .str "/claim/cut.py" 1372, .int 852 0, .int 5 0, .int 0 0, .int 0 0, .int 3 0, .ref 926, .bool true, .int 181 0, .ref 927, .none, .ref 928, .ref 929, .ref 930, .int 1382 0, .int 852 0, .str "/claim/cut.py" 1383] } : Obj)),
  (932, fnObj "_law_view" "_law_view" (nth p.main.body 43) .none "law_iv0068_02" 1263 none 931),
  (936, ({ cls := .type "code", data := .fields #[.str "law" 1385, .str "law" 1386, .str "/claim/cut.py" 1387, .int 860 0, .int 1 0, .int 0 0, .int 0 0, .int 3 0, .ref 933, .bool true, .int 181 0, .ref 934, .none, .none, .none, .ref 935, .int 1388 0, .int 860 0, .str "/claim/cut.py" 1389] } : Obj)),
  (937, fnObj "law" "law" (nth p.main.body 44) .none "law_iv0068_02" 1263 none 936)]
noncomputable def asK : List Addr := [2, 3, 27, 28, 34, 35, 343, 710, 711, 717, 718, 719, 725, 726, 732, 733, 753, 754, 767, 771, 772, 774, 795, 799, 800, 811, 812, 816, 817, 823, 824, 828, 829, 833, 834, 844, 845, 855, 856, 862, 863, 869, 870, 883, 884, 888, 889, 893, 894, 900, 901, 905, 906, 912, 913, 919, 920, 924, 925, 931, 932, 936, 937]
noncomputable def tsK : List Addr := [23, 30, 706, 713, 721, 728, 749, 769, 797, 807, 814, 819, 826, 831, 851, 858, 865, 879, 886, 891, 896, 903, 908, 915, 922, 927, 934]
noncomputable def looseA : List Str := ["_wall", "prod", "all_int", "partition", "gcd", "Node", "Variable", "NumNode", "variable", "create_node", "create_lt_node", "create_ge_node", "OpNode", "LtNode", "MulNode", "DivNode", "ModNode", "RedNode", "SumNode", "AndNode", "sym_render", "canonicalize_strides", "strides_for_shape", "_merge_dims"]
noncomputable def looseB : List Str := ["_reshape_mask", "un1d", "View", "_law_starts", "_law_stretch", "_law_steps", "_law_empty", "_law_size", "_law_spots", "_law_split", "_law_deed", "_law_done", "_law_do", "_law_read", "_law_row", "_law_view"]
noncomputable def looseL : List Str := looseA ++ looseB

noncomputable def qv (p : Program) : Program := { p with main := { p.main with body := [nth p.main.body 44] } }
noncomputable def lhs (p : Program) (w : World) (os : OsState) :=
  (topRunT treeTable p w 11 (some (.ref 6)) 7000 ⟨bootT w.params, 11, {}, Array.mk [], boot_drawn, boot_toks, os⟩ (topStub p)).map fun s => 
    (openSeen (qv p) looseL (importedModules p.main.body) (fun _ => true) true s.abs, (asK.map s.abs.heap.get?, tsK.map s.abs.heap.get?), staticsOk (importedModules p.main.body) (boot_heap w.params) s.abs.heap && namesBound p s.abs.heap && gensDone s.abs && laidKept (boot_heap w.params) s.abs.heap)
noncomputable def rhs (p : Program) (w : World) (os : OsState) :=
  some (openGood (qv p) looseL, ((K2 p w.params).map fun p => some p.2, tsK.map fun _ => some (tabObj #[])), true)
theorem lay1 : (fun _ => true) @lhs = true := by k_qdec
end Tg
namespace Tg
set_option maxHeartbeats 1000000
theorem run1 : ∀ w : World, PySem.W.Fast.tw16089130777208786223 PySem.Challenge.pw_iv0068_02 w = rhs PySem.Challenge.pw_iv0068_02 w := fun w => by kernel_rfl
end Tg
namespace Tg
set_option maxHeartbeats 1000000
theorem said_q : PySem.W.Fast.tw9446332074065402090 PySem.Challenge.rw_iv0068_02 = true := by kernel_rfl
theorem said : PySem.Challenge.rw_iv0068_02.wellSaid = true := by rw [PySem.W.Fast.te9446332074065402090]; exact said_q
end Tg
namespace Tg
set_option maxHeartbeats 1000000
theorem eK (p : Program) (P : Params) : asK = (K2 p P).map (·.1) := by kernel_rfl
noncomputable def hk (p : Program) : Hook := kmHook (K2 p) asK (eK p) tsK
theorem boot_size (P : Params) : ((boot_heap P).isNs mainGlobals, (boot_heap P).objs.size, (boot_heap P).nsMap mainGlobals "__annotations__") = (true, 11, some (.ref 6)) := by kernel_rfl
theorem left_of {p : Program} (hr : ∀ w, lhs p w = rhs p w) (e : opening p = plainProg p.main.scope.names) (f : ∀ s, fenceModules? p s = some s) :
    LeftO p (qv p) looseL (fun _ => true) (hk p).obs (hk p).val 7000 := fun w => by
  obtain ⟨⟨h, gs, d, k, os⟩, e1, e'⟩ := Option.map_eq_some_iff.mp (boot_open (N := 7000) e (by decide) f w)
  obtain ⟨rfl, rfl, rfl, rfl⟩ : h = boot_heap w.params ∧ gs = Array.mk [] ∧ d = boot_drawn ∧ k = boot_toks := by simpa using e'
  obtain ⟨s, hs, hl⟩ := Option.map_eq_some_iff.mp (congrFun (hr w) os)
  obtain ⟨l2, l3⟩ := Prod.mk.inj hl
  obtain ⟨l3, l1⟩ := Prod.mk.inj l3
  have r := topRun_ofT hs
  have hab : (⟨bootT w.params, 11, {}, Array.mk [], boot_drawn, boot_toks, os⟩ : SharedT).abs = ⟨boot_heap w.params, Array.mk [], boot_drawn, boot_toks, os⟩ := congrArg (fun h => (⟨h, Array.mk [], boot_drawn, boot_toks, os⟩ : Shared)) (bootT_abs w.params)
  rw [hab] at r
  obtain ⟨z1, z2, z3⟩ : _ ∧ _ ∧ _ := by simpa only [Prod.mk.injEq] using boot_size w.params
  have t : topFrom treeTable p w 7000 ⟨boot_heap w.params, Array.mk [], boot_drawn, boot_toks, os⟩ = some s.abs := by
    unfold topFrom
    dsimp only
    rw [z1, z2, z3, r]
    show (match staticsOk (importedModules p.main.body) (boot_heap w.params) s.abs.heap && namesBound p s.abs.heap && gensDone s.abs && laidKept (boot_heap w.params) s.abs.heap with | true => _ | false => _) = _
    rw [l1]
  unfold openEnds
  rw [e1]
  show (topFrom treeTable p w 7000 _).map _ = _
  rw [t]
  exact congrArg some (Prod.ext l2 l3)
noncomputable abbrev pw : Program := PySem.Challenge.pw_iv0068_02
theorem lhs_rhs (w : World) : lhs pw w = rhs pw w := by
  rw [PySem.W.Fast.te16089130777208786223]; exact run1 w
theorem left2 : LeftO pw (qv pw) looseL (fun _ => true) (hk pw).obs (hk pw).val 7000 := left_of lhs_rhs (by kernel_rfl) (fun s => by kernel_rfl)
end Tg
namespace Tg
set_option maxHeartbeats 1000000
noncomputable def dLaw : DefRec := match recsOf (qv pw) with | d :: _ => d | [] => ⟨"", default, [], default, default⟩
theorem hdef2 : defOf (qv pw) "law" = some (dLaw, []) := by kernel_rfl
theorem hp2 : pw.theDef "law" = some (dLaw.params, dLaw.body, dLaw.scope) := by kernel_rfl
theorem hkw2 : kwWritten? dLaw.params.kwonlyargs dLaw.params.kw_defaults = some [] := by kernel_rfl
theorem ok2 : (chainsOk (qv pw) && opensWell pw && (frees PySem.Challenge.rw_iv0068_02.row.toRowW && PySem.Challenge.rw_iv0068_02.row.within.isEmpty)) = true := by kernel_rfl
theorem bare2 : pw.bare := ⟨by kernel_rfl, by kernel_rfl, by kernel_rfl, by kernel_rfl, by kernel_rfl, by decide +kernel⟩
theorem prom2 : PySem.Challenge.rw_iv0068_02.row.toRowW.promised := ⟨[.list []], by decide +kernel, by decide +kernel⟩
theorem top2 (call : WalkO (qv pw) looseL (fun _ _ => True) (hk pw).says PySem.Challenge.rw_iv0068_02.row.toRowW dLaw [] (fun f vs => PySem.call f vs)) : PySem.Challenge.rw_iv0068_02.Holds :=
  holds_law said fun k1 => holds_open (q := qv pw) (loose := looseL) (Xt := fun _ => true) (XP := fun _ _ => True) (Yf := (hk pw).obs) (Ya := (hk pw).val) (YP := (hk pw).says) (N := 7000)
    left2 (hk pw).of (hk pw).keeps (fun _ _ => trivial) (fun _ _ _ _ _ => trivial) hdef2 hp2 hkw2 (fun _ _ => recFacts_nil rfl) rfl k1 ok2 bare2 prom2 call
end Tg
namespace Tg
set_option maxHeartbeats 1000000
theorem len0 {α : Type} {l : List α} (h : l.length = 0) : l = [] := List.eq_nil_of_length_eq_zero h
theorem len1 {α : Type} {l : List α} {n : Nat} (h : l.length = n + 1) : ∃ a r, l = a :: r ∧ r.length = n := match l, h with
  | a :: r, h => ⟨a, r, rfl, Nat.succ.inj h⟩

inductive V where
  | none
  | bool (b : Bool)
  | int (i : Int)
  | str (s : Str)
  | tup (l : List V)
  | lst (l : List V)
  | obj (C : Addr) (ks : List Str) (vs : List V)
  | ref (i : Nat)
  | raw (v : Value)

inductive AO where
  | list (l : List V)
  | inst (C : Addr) (d : Nat)
  | ns (ks : List Str) (vs : List V)

noncomputable abbrev AH := List AO
noncomputable def Keyed : List Str → List DictEntry → Prop
  | [], [] => True
  | k :: ks, e :: es => (∃ t, e.key = .str k t) ∧ Keyed ks es
  | _, _ => False

noncomputable def Tu (h : Heap) (a : Addr) (vs : Array Value) : Prop := ∃ n, h.get? a = some { cls := .type "tuple", data := .seq vs n }
theorem Tu.is {h : Heap} {a : Addr} {vs : Array Value} (t : Tu h a vs) : IsTup h a vs := let ⟨n, e⟩ := t; ⟨_, e, rfl, n, rfl⟩
mutual
inductive VR (Z α : List Addr) (h : Heap) : V → Value → Prop
  | none : VR Z α h .none .none
  | bool (b : Bool) : VR Z α h (.bool b) (.bool b)
  | int (i : Int) (t : Tok) : VR Z α h (.int i) (.int i t)
  | str (s : Str) (t : Tok) : VR Z α h (.str s) (.str s t)
  | tup {l : List V} {a : Addr} {vs : List Value} : Tu h a vs.toArray → VRs Z α h l vs → a ∉ Z ++ α → VR Z α h (.tup l) (.ref a)
  | lst {l : List V} {a : Addr} {vs : List Value} : h.IsList a vs.toArray → VRs Z α h l vs → a ∉ Z ++ α → VR Z α h (.lst l) (.ref a)
  | obj {C : Addr} {ks : List Str} {l : List V} {a d : Addr} {es : List DictEntry} {n : Nat} : h.get? a = some (instObj C d) → h.get? d = some (dictOf es n) → Keyed ks es → VRs Z α h l (es.map (·.val)) → a ∉ Z ++ α → d ∉ Z ++ α → VR Z α h (.obj C ks l) (.ref a)
  | ref {i : Nat} {a : Addr} : α[i]? = some a → VR Z α h (.ref i) (.ref a)
  | raw (v : Value) : VR Z α h (.raw v) v
inductive VRs (Z α : List Addr) (h : Heap) : List V → List Value → Prop
  | nil : VRs Z α h [] []
  | cons {x : V} {v : Value} {l : List V} {vs : List Value} : VR Z α h x v → VRs Z α h l vs → VRs Z α h (x :: l) (v :: vs)
end

noncomputable def Solid (o : Obj) : Prop := (∀ vs, o.data ≠ .fields vs) ∨ o.cls ≠ .none
theorem solid_seq {o : Obj} {xs n} (h : o.data = .seq xs n) : Solid o := .inl fun vs e => by rw [h] at e; cases e
theorem solid_dict {o : Obj} {xs n} (h : o.data = .dict xs n) : Solid o := .inl fun vs e => by rw [h] at e; cases e
theorem solid_cell {o : Obj} {v} (h : o.data = .cell v) : Solid o := .inl fun vs e => by rw [h] at e; cases e
theorem solid_type {o : Obj} {n} (h : o.cls = .type n) : Solid o := .inr (by rw [h]; intro e; cases e)
theorem solid_inst {C dx : Addr} : Solid (instObj C dx) := .inl fun vs e => by cases e

noncomputable def Kp (W : List Addr) (h h' : Heap) : Prop := ∀ b o, h.get? b = some o → b ∉ W → Solid o → h'.get? b = some o
noncomputable def Fresh (t : List Addr) (h : Heap) : Prop := ∀ a ∈ t, h.get? a = none

theorem Kp.refl {W h} : Kp W h h := fun _ _ e _ _ => e
theorem Kp.of_keeps {W h h'} (k : ∀ b o, h.get? b = some o → h'.get? b = some o) : Kp W h h' := fun b o e _ _ => k b o e
theorem Kp.trans {W t h h' h''} (k : Kp W h h') (ft : Fresh t h) (k' : Kp (W ++ t) h' h'') : Kp W h h'' := fun b o e hb so =>
  k' b o (k b o e hb so) (fun hm => (List.mem_append.mp hm).elim hb fun hm => by rw [ft b hm] at e; cases e) so
theorem Kp.trans0 {W h h' h''} (k : Kp W h h') (k' : Kp W h' h'') : Kp W h h'' := fun b o e hb so => k' b o (k b o e hb so) hb so
theorem Kp.mono {W W' h h'} (k : Kp W h h') (s : ∀ a ∈ W, a ∈ W') : Kp W' h h' := fun b o e hb so => k b o e (fun hm => hb (s b hm)) so
theorem Fresh.nil {h} : Fresh [] h := fun _ h => nomatch h
theorem none_new' {h : Heap} {a : Addr} (x : h.objs.size ≤ a) : h.get? a = none := by
  cases e : h.get? a with
  | none => rfl
  | some o => exact absurd (Heap.lt_size e) (Nat.not_lt.mpr x)
theorem Fresh.size {h : Heap} : Fresh [h.objs.size] h := fun a ha => by rw [List.mem_singleton.mp ha]; exact none_new' (Nat.le_refl _)
theorem Fresh.not {t : List Addr} {h : Heap} (f : Fresh t h) {a o} (e : h.get? a = some o) : a ∉ t := fun hm => by rw [f a hm] at e; cases e

theorem IsTup.kp {W h h' a items} (x : IsTup h a items) (k : Kp W h h') (ha : a ∉ W) : IsTup h' a items :=
  let ⟨o, ho, hc, n, hd⟩ := x; ⟨o, k a o ho ha (solid_seq hd), hc, n, hd⟩

section
variable {Z Z' α α' : List Addr} {h h' : Heap} (hk : ∀ a o, h.get? a = some o → Solid o → a ∉ Z ++ α → h'.get? a = some o ∧ a ∉ Z' ++ α') (hr : ∀ (i : Nat) a, α[i]? = some a → α'[i]? = some a)
include hk hr
theorem VR.map_core : (∀ {x : V} {v : Value}, VR Z α h x v → VR Z' α' h' x v) ∧ (∀ {x : List V} {v : List Value}, VRs Z α h x v → VRs Z' α' h' x v) := by
  have t : ∀ {l : List V} {a : Addr} {vs : List Value}, Tu h a vs.toArray → VRs Z α h l vs → a ∉ Z ++ α → VRs Z' α' h' l vs → VR Z' α' h' (.tup l) (.ref a) := fun ⟨n, ho⟩ _ z ih =>
    let ⟨e, z'⟩ := hk _ _ ho (solid_type rfl) z; .tup ⟨n, e⟩ ih z'
  have u : ∀ {l : List V} {a : Addr} {vs : List Value}, h.IsList a vs.toArray → VRs Z α h l vs → a ∉ Z ++ α → VRs Z' α' h' l vs → VR Z' α' h' (.lst l) (.ref a) := fun ⟨o, ho, hc, n, hd⟩ _ z ih =>
    let ⟨e, z'⟩ := hk _ _ ho (solid_seq hd) z; .lst ⟨o, e, hc, n, hd⟩ ih z'
  have w : ∀ {C : Addr} {ks : List Str} {l : List V} {a d : Addr} {es : List DictEntry} {n : Nat}, h.get? a = some (instObj C d) → h.get? d = some (dictOf es n) → Keyed ks es → VRs Z α h l (es.map (·.val)) → a ∉ Z ++ α → d ∉ Z ++ α → VRs Z' α' h' l (es.map (·.val)) → VR Z' α' h' (.obj C ks l) (.ref a) :=
    fun e1 e2 q _ z1 z2 ih => let ⟨f1, y1⟩ := hk _ _ e1 solid_inst z1; let ⟨f2, y2⟩ := hk _ _ e2 (solid_type rfl) z2; .obj f1 f2 q ih y1 y2
  exact ⟨fun r => VR.rec (motive_1 := fun x v _ => VR Z' α' h' x v) (motive_2 := fun x v _ => VRs Z' α' h' x v) .none .bool .int .str t u w (fun e => .ref (hr _ _ e)) .raw .nil (fun _ _ a b => .cons a b) r,
    fun r => VRs.rec (motive_1 := fun x v _ => VR Z' α' h' x v) (motive_2 := fun x v _ => VRs Z' α' h' x v) .none .bool .int .str t u w (fun e => .ref (hr _ _ e)) .raw .nil (fun _ _ a b => .cons a b) r⟩
theorem VR.map {x : V} {v : Value} (r : VR Z α h x v) : VR Z' α' h' x v := (VR.map_core hk hr).1 r
theorem VRs.map {x : List V} {v : List Value} (r : VRs Z α h x v) : VRs Z' α' h' x v := (VR.map_core hk hr).2 r
end
theorem app_get {α t : List Addr} (i : Nat) (a : Addr) (e : α[i]? = some a) : (α ++ t)[i]? = some a := by rw [List.getElem?_append_left (List.getElem?_eq_some_iff.mp e).1]; exact e
section
variable {Z zs α t W : List Addr} {h h' : Heap}
theorem mono_k (k : Kp W h h') (hw : ∀ a ∈ W, a ∈ Z ++ α) (ft : Fresh t h) (a o) (e : h.get? a = some o) (so : Solid o) (z : a ∉ Z ++ α) : h'.get? a = some o ∧ a ∉ Z ++ (α ++ t) :=
  ⟨k a o e (fun hm => z (hw a hm)) so, fun hm => by rw [← List.append_assoc] at hm; exact (List.mem_append.mp hm).elim z (ft.not e)⟩
theorem VR.mono (k : Kp W h h') (hw : ∀ a ∈ W, a ∈ Z ++ α) (ft : Fresh t h) {x : V} {v : Value} (r : VR Z α h x v) : VR Z (α ++ t) h' x v := r.map (mono_k k hw ft) app_get
theorem VRs.mono (k : Kp W h h') (hw : ∀ a ∈ W, a ∈ Z ++ α) (ft : Fresh t h) {x : List V} {v : List Value} (r : VRs Z α h x v) : VRs Z (α ++ t) h' x v := r.map (mono_k k hw ft) app_get
theorem VR.mono0 (k : Kp W h h') (hw : ∀ a ∈ W, a ∈ Z ++ α) {x : V} {v : Value} (r : VR Z α h x v) : VR Z α h' x v := by
  have := VR.mono (t := []) k hw .nil r; rwa [List.append_nil] at this
theorem VRs.mono0 (k : Kp W h h') (hw : ∀ a ∈ W, a ∈ Z ++ α) {x : List V} {v : List Value} (r : VRs Z α h x v) : VRs Z α h' x v := by
  have := VRs.mono (t := []) k hw .nil r; rwa [List.append_nil] at this
theorem ban_k (f : Fresh zs h) (a o) (e : h.get? a = some o) (so : Solid o) (z : a ∉ Z ++ α) : h.get? a = some o ∧ a ∉ (zs ++ Z) ++ α := ⟨e, fun hm => by rw [List.append_assoc] at hm; exact (List.mem_append.mp hm).elim (f.not e) z⟩
theorem free_k (a o) (e : h.get? a = some o) (so : Solid o) (z : a ∉ (zs ++ Z) ++ α) : h.get? a = some o ∧ a ∉ Z ++ α := ⟨e, fun hm => z (by rw [List.append_assoc]; exact List.mem_append_right _ hm)⟩
theorem VR.banned (f : Fresh zs h) {v w} (r : VR Z α h v w) : VR (zs ++ Z) α h v w := r.map (ban_k f) fun _ _ e => e
theorem VRs.banned (f : Fresh zs h) {v w} (r : VRs Z α h v w) : VRs (zs ++ Z) α h v w := r.map (ban_k f) fun _ _ e => e
theorem VR.free {v w} (r : VR (zs ++ Z) α h v w) : VR Z α h v w := r.map free_k fun _ _ e => e
theorem VRs.free {v w} (r : VRs (zs ++ Z) α h v w) : VRs Z α h v w := r.map free_k fun _ _ e => e
end

section
variable {Z α : List Addr} {h : Heap}
theorem VRs.length {l : List V} {vs : List Value} (r : VRs Z α h l vs) : vs.length = l.length := by
  induction vs generalizing l with
  | nil => cases r; rfl
  | cons v vs ih => cases r with | cons _ r => simp [ih r]
theorem VRs.get {l : List V} {vs : List Value} (r : VRs Z α h l vs) {i : Nat} {x : V} (e : l[i]? = some x) : ∃ v, vs[i]? = some v ∧ VR Z α h x v := by
  induction vs generalizing l i with
  | nil => cases r; simp at e
  | cons v vs ih =>
    cases r with
    | cons a r =>
      cases i with
      | zero => simp at e; subst e; exact ⟨v, by simp, a⟩
      | succ i => simp at e; obtain ⟨w, hw, hr⟩ := ih r e; exact ⟨w, by simpa using hw, hr⟩
theorem VRs.append {l l' : List V} {vs vs' : List Value} (r : VRs Z α h l vs) (r' : VRs Z α h l' vs') : VRs Z α h (l ++ l') (vs ++ vs') := by
  induction vs generalizing l with
  | nil => cases r; exact r'
  | cons v vs ih => cases r with | cons a r => exact .cons a (ih r)
theorem VRs.one {x : V} {v : Value} (r : VR Z α h x v) : VRs Z α h [x] [v] := .cons r .nil
theorem VRs.drop {l : List V} {vs : List Value} (r : VRs Z α h l vs) (n : Nat) : VRs Z α h (l.drop n) (vs.drop n) := by
  induction n generalizing l vs with
  | zero => exact r
  | succ n ih => cases r with
    | nil => exact .nil
    | cons _ r => exact ih r
theorem VRs.take {l : List V} {vs : List Value} (r : VRs Z α h l vs) (n : Nat) : VRs Z α h (l.take n) (vs.take n) := by
  induction n generalizing l vs with
  | zero => exact .nil
  | succ n ih => cases r with
    | nil => exact .nil
    | cons a r => exact .cons a (ih r)
theorem VRs.reverse {l : List V} {vs : List Value} (r : VRs Z α h l vs) : VRs Z α h l.reverse vs.reverse := by
  induction vs generalizing l with
  | nil => cases r; exact .nil
  | cons v vs ih => cases r with | cons a r => simp only [List.reverse_cons]; exact (ih r).append (.one a)
theorem VRs.set {l : List V} {vs : List Value} (r : VRs Z α h l vs) {x : V} {v : Value} (e : VR Z α h x v) (i : Nat) : VRs Z α h (l.set i x) (vs.set i v) := by
  induction vs generalizing l i with
  | nil => cases r; exact .nil
  | cons w vs ih => cases r with
    | cons a r => cases i with
      | zero => exact .cons e r
      | succ i => exact .cons a (ih r i)
variable {w : Value}
theorem VR.intI {i : Int} (r : VR Z α h (.int i) w) : ∃ t, w = .int i t := by cases r; exact ⟨_, rfl⟩
theorem VR.boolI {i : Bool} (r : VR Z α h (.bool i) w) : w = .bool i := by cases r; rfl
theorem VR.noneI (r : VR Z α h .none w) : w = .none := by cases r; rfl
theorem VR.rawI {v : Value} (r : VR Z α h (.raw v) w) : w = v := by cases r; rfl
theorem VR.refI {i : Nat} (r : VR Z α h (.ref i) w) : ∃ a, w = .ref a ∧ α[i]? = some a := by cases r with | ref e => exact ⟨_, rfl, e⟩
theorem VR.tupI {l : List V} (r : VR Z α h (.tup l) w) : ∃ a vs, w = .ref a ∧ Tu h a vs.toArray ∧ VRs Z α h l vs ∧ a ∉ Z ++ α := by cases r with | tup x y z => exact ⟨_, _, rfl, x, y, z⟩
theorem VR.lstI {l : List V} (r : VR Z α h (.lst l) w) : ∃ a vs, w = .ref a ∧ h.IsList a vs.toArray ∧ VRs Z α h l vs ∧ a ∉ Z ++ α := by cases r with | lst x y z => exact ⟨_, _, rfl, x, y, z⟩
theorem VR.objI {C : Addr} {ks : List Str} {l : List V} (r : VR Z α h (.obj C ks l) w) : ∃ a d es n, w = .ref a ∧ h.get? a = some (instObj C d) ∧ h.get? d = some (dictOf es n) ∧ Keyed ks es ∧ VRs Z α h l (es.map (·.val)) := by cases r with | obj a b c d => exact ⟨_, _, _, _, rfl, a, b, c, d⟩
theorem VRs.nilI {ws : List Value} (r : VRs Z α h [] ws) : ws = [] := by cases r; rfl
theorem VRs.consI {v : V} {l : List V} {ws : List Value} (r : VRs Z α h (v :: l) ws) : ∃ x xs, ws = x :: xs ∧ VR Z α h v x ∧ VRs Z α h l xs := by cases r with | cons a b => exact ⟨_, _, rfl, a, b⟩
end

noncomputable def OR (Z : List Addr) (sz : Nat) (α : List Addr) (h : Heap) : AO → Addr → Prop
  | .list l, a => sz ≤ a ∧ ∃ vs n, h.get? a = some { cls := .type "list", data := .seq vs.toArray n } ∧ VRs Z α h l vs
  | .inst C d, a => sz ≤ a ∧ ∃ dx, α[d]? = some dx ∧ h.get? a = some (instObj C dx)
  | .ns ks l, a => sz ≤ a ∧ ∃ es n, h.get? a = some (dictOf es n) ∧ Keyed ks es ∧ VRs Z α h l (es.map (·.val))
theorem OR.map {Z Z' α α' : List Addr} {sz : Nat} {h h' : Heap} {o : AO} {a : Addr} (hk : ∀ o, h.get? a = some o → Solid o → h'.get? a = some o) (hv : ∀ {l vs}, VRs Z α h l vs → VRs Z' α' h' l vs) (hr : ∀ (i : Nat) a, α[i]? = some a → α'[i]? = some a) (r : OR Z sz α h o a) : OR Z' sz α' h' o a := by
  cases o with
  | list l => obtain ⟨z, vs, n, e, q⟩ := r; exact ⟨z, vs, n, hk _ e (solid_type rfl), hv q⟩
  | inst C d => obtain ⟨z, dx, q, e⟩ := r; exact ⟨z, dx, hr _ _ q, hk _ e solid_inst⟩
  | ns ks l => obtain ⟨z, es, n, e, k, q⟩ := r; exact ⟨z, es, n, hk _ e (solid_type rfl), k, hv q⟩
theorem OR.there {Z α : List Addr} {sz : Nat} {h : Heap} {o : AO} {a : Addr} (r : OR Z sz α h o a) : ∃ o, h.get? a = some o := by
  cases o with
  | list l => obtain ⟨_, vs, n, e, _⟩ := r; exact ⟨_, e⟩
  | inst C d => obtain ⟨_, dx, _, e⟩ := r; exact ⟨_, e⟩
  | ns ks l => obtain ⟨_, es, n, e, _⟩ := r; exact ⟨_, e⟩

structure HR (Z : List Addr) (sz : Nat) (α : List Addr) (H : AH) (h : Heap) : Prop where
  len : α.length = H.length
  nodup : α.Nodup
  dis : ∀ a ∈ α, a ∉ Z
  obj : ∀ (i : Nat) (o : AO) (a : Addr), H[i]? = some o → α[i]? = some a → OR Z sz α h o a

theorem HR.there {Z sz α H h} (r : HR Z sz α H h) {a} (ha : a ∈ α) : ∃ o, h.get? a = some o := by
  obtain ⟨i, hi⟩ := List.getElem?_of_mem ha
  have hl := (List.getElem?_eq_some_iff.mp hi).1
  rw [r.len] at hl
  exact (r.obj i _ a (List.getElem?_eq_getElem hl) hi).there

theorem HR.keep {Z sz α H h h' W} (r : HR Z sz α H h) (k : Kp W h h') (hw : ∀ a ∈ W, a ∈ Z) : HR Z sz α H h' :=
  ⟨r.len, r.nodup, r.dis, fun i o a e e' => (r.obj i o a e e').map (fun o e so => k _ _ e (fun hm => r.dis a (List.mem_of_getElem? e') (hw a hm)) so) (fun q => VRs.mono0 k (fun a hm => List.mem_append_left _ (hw a hm)) q) fun _ _ e => e⟩

theorem HR.push {Z sz α H h h'} {o : AO} {a : Addr} (r : HR Z sz α H h) (k : Kp [] h h') (fa : h.get? a = none) (hz : a ∉ Z) (ro : OR Z sz (α ++ [a]) h' o a) : HR Z sz (α ++ [a]) (H ++ [o]) h' := by
  have ft : Fresh [a] h := fun b hb => by rw [List.mem_singleton.mp hb]; exact fa
  refine ⟨by simp [r.len], ?_, fun b hb => ?_, fun i o' a' e e' => ?_⟩
  · rw [List.nodup_append]
    refine ⟨r.nodup, by simp, fun b hb c hc => ?_⟩
    rw [List.mem_singleton.mp hc]
    rintro rfl
    obtain ⟨ob, e⟩ := r.there hb
    rw [fa] at e; cases e
  · rcases List.mem_append.mp hb with hb | hb
    · exact r.dis b hb
    · rw [List.mem_singleton.mp hb]; exact hz
  · by_cases hi : i < H.length
    · rw [List.getElem?_append_left hi] at e
      rw [List.getElem?_append_left (by rw [r.len]; exact hi)] at e'
      exact (r.obj i o' a' e e').map (fun o e so => k _ _ e (by simp) so) (fun q => VRs.mono k (fun _ h => nomatch h) ft q) app_get
    · have hl : i < (H ++ [o]).length := (List.getElem?_eq_some_iff.mp e).1
      have hi' : i = H.length := by simp at hl; omega
      subst hi'
      rw [List.getElem?_append_right (Nat.le_refl _)] at e
      rw [List.getElem?_append_right (by rw [r.len]; exact Nat.le_refl _)] at e'
      simp [r.len] at e e'
      subst e e'
      exact ro

theorem HR.set {Z sz α H h h' W} {o : AO} {a : Addr} {i : Nat} (r : HR Z sz α H h) (hi : α[i]? = some a) (k : Kp (a :: W) h h') (hw : ∀ a ∈ W, a ∈ Z) (ro : OR Z sz α h' o a) : HR Z sz α (H.set i o) h' := by
  have ha := List.mem_of_getElem? hi
  refine ⟨by simp [r.len], r.nodup, r.dis, fun j o' b e e' => ?_⟩
  by_cases hj : i = j
  · subst hj
    have hl : i < H.length := by rw [← r.len]; exact (List.getElem?_eq_some_iff.mp hi).1
    rw [List.getElem?_set_self hl] at e
    rw [hi] at e'; cases e; cases e'; exact ro
  · rw [List.getElem?_set_ne hj] at e
    refine (r.obj j o' b e e').map (fun o e so => k _ _ e (fun hm => ?_) so) (fun q => VRs.mono0 k (fun c hm => ?_) q) fun _ _ e => e
    · rcases List.mem_cons.mp hm with hm | hm
      · subst hm
        exact hj ((List.getElem_inj r.nodup).mp ((List.getElem?_eq_some_iff.mp hi).2.trans (List.getElem?_eq_some_iff.mp e').2.symm))
      · exact r.dis b (List.mem_of_getElem? e') (hw b hm)
    · rcases List.mem_cons.mp hm with hm | hm
      · rw [hm]; exact List.mem_append_right _ ha
      · exact List.mem_append_left _ (hw c hm)
end Tg
namespace Tg
set_option maxHeartbeats 1000000
structure Bs where
  prog : Program
  w : World
  h : Heap
  g : Heap
  os : OsState
  codes : List (Addr × Addr)
  mg : Str → Option Value
  mb : Str → Option Value
  K : Frag
  /-- so many generators there are at least -/
  gn : Nat

structure Bs.Ok (B : Bs) : Prop where
  ns : B.g.Ns mainGlobals B.mg
  nb : B.g.Ns builtinsNs B.mb
  lim : B.g.NoLimit
  size : B.h.objs.size = B.g.objs.size
  K : B.K.In B.g
  cd : ∀ p ∈ B.codes, p.1 < B.g.objs.size ∧ p.2 < B.g.objs.size
  bm : ∃ bm ob, BMod B.g mainGlobals B.mg bm ob
  tb : ∀ p ∈ B.codes, (∃ ps₀, B.h.TableAt p.1 p.2 ps₀) ∧ p.2 ≠ cStatics ∧ B.g.get? p.2 = none
  ti : ∀ p ∈ B.codes, ∀ q ∈ B.codes, p.2 = q.2 → p = q

structure Inv (B : Bs) (Z α : List Addr) (H : AH) (s : Shared) : Prop where
  old : OldK B.h s.heap
  keep : ∀ b o, B.g.get? b = some o → s.heap.get? b = some o
  gens : AllBare s.gens ∧ B.gn ≤ s.gens.size
  os : s.os = B.os
  codes : ∀ p ∈ B.codes, ∃ ps, s.heap.IsCode p.1 p.2 ps ∧ s.heap.TableAt p.1 p.2 ps
  hr : HR Z B.g.objs.size α H s.heap
  ban : ∀ a ∈ Z, ∃ o, s.heap.get? a = some o

theorem code_of {h h' : Heap} {c P : Addr} {ps} (z : h.IsCode c P ps ∧ h.TableAt c P ps) (k1 : ∀ o, h.get? c = some o → h'.get? c = some o) (k2 : ∀ o, h.get? P = some o → h'.get? P = some o) : h'.IsCode c P ps ∧ h'.TableAt c P ps := by
  obtain ⟨⟨o, vs, file, tf, flags, tg, inF, text, tt, op, e1, r1, r2, r3, r4, r5, r6, e2, r⟩, ⟨o', vs', e3, q⟩, e4⟩ := z
  exact ⟨⟨o, vs, file, tf, flags, tg, inF, text, tt, op, k1 _ e1, r1, r2, r3, r4, r5, r6, k2 _ e2, r⟩, ⟨o', vs', k1 _ e3, q⟩, k2 _ e4⟩
theorem ns_solid {h h' : Heap} {a m} (n : h.Ns a m) (k : ∀ o, h.get? a = some o → Solid o → h'.get? a = some o) : h'.Ns a m :=
  let ⟨o, es, ep, e, hd, r⟩ := n; ⟨o, es, ep, k o e (solid_dict hd), hd, r⟩

section
variable {B : Bs} {Z α : List Addr} {H : AH} {s : Shared}
theorem Inv.g (I : Inv B Z α H s) (O : B.Ok) : s.heap.Ns mainGlobals B.mg := O.ns.keeps I.keep
theorem Inv.b (I : Inv B Z α H s) (O : B.Ok) : s.heap.Ns builtinsNs B.mb := O.nb.keeps I.keep
theorem Inv.lim (I : Inv B Z α H s) (O : B.Ok) : s.heap.NoLimit := O.lim.keeps I.keep
theorem Inv.K (I : Inv B Z α H s) (O : B.Ok) : B.K.In s.heap := O.K.keeps I.keep

theorem codes_keeps {h h' : Heap} {l : List (Addr × Addr)} (c : ∀ p ∈ l, ∃ ps, h.IsCode p.1 p.2 ps ∧ h.TableAt p.1 p.2 ps) (k : ∀ b o, h.get? b = some o → h'.get? b = some o) : ∀ p ∈ l, ∃ ps, h'.IsCode p.1 p.2 ps ∧ h'.TableAt p.1 p.2 ps :=
  fun p hp => let ⟨ps, x, y⟩ := c p hp; ⟨ps, x.keeps k, y.keeps k⟩
theorem Inv.keeps {s' : Shared} (I : Inv B Z α H s) (x : Keeps s s') : Inv B Z α H s' := by
  obtain ⟨h', tk, rfl, k⟩ := x
  exact ⟨I.old.step_keeps k, fun b o e => k b o (I.keep b o e), I.gens, I.os, codes_keeps I.codes k, I.hr.keep (W := []) (.of_keeps k) (fun _ h => nomatch h), fun a ha => let ⟨o, e⟩ := I.ban a ha; ⟨o, k a o e⟩⟩
theorem Inv.nw (I : Inv B Z α H s) {a : Addr} (e : s.heap.get? a = none) : a ∉ Z ++ α := fun hm => (List.mem_append.mp hm).elim (fun hm => by
  obtain ⟨o, e'⟩ := I.ban _ hm; rw [e] at e'; cases e') fun hm => by obtain ⟨o, e'⟩ := I.hr.there hm; rw [e] at e'; cases e'
theorem Inv.new (I : Inv B Z α H s) : s.heap.objs.size ∉ Z ++ α := I.nw (none_new' (Nat.le_refl _))
end
theorem Keeps.refl' (s : Shared) : Keeps s s := ⟨s.heap, s.toks, rfl, fun _ _ e => e⟩
theorem keeps_trans {s s' s'' : Shared} (x : Keeps s s') (y : Keeps s' s'') : Keeps s s'' := by
  obtain ⟨h1, t1, rfl, k1⟩ := x
  obtain ⟨h2, t2, rfl, k2⟩ := y
  exact ⟨h2, t2, rfl, fun b o e => k2 b o (k1 b o e)⟩
theorem Keeps.toks (s : Shared) (n : Nat) : Keeps s { s with toks := n } := ⟨s.heap, n, rfl, fun _ _ e => e⟩
theorem keeps_push (s : Shared) (o : Obj) : Keeps s { s with heap := s.heap.push o } := ⟨_, s.toks, rfl, fun _ _ e => Heap.get?_push_of_some _ e⟩
theorem keeps_kp {s s' : Shared} (x : Keeps s s') (W : List Addr) : Kp W s.heap s'.heap := by
  obtain ⟨h', tk, rfl, k⟩ := x; exact .of_keeps k
theorem VR.keeps {Z α} {s s' : Shared} {v w} (r : VR Z α s.heap v w) (x : Keeps s s') : VR Z α s'.heap v w := VR.mono0 (W := []) (keeps_kp x _) (fun _ h => nomatch h) r
theorem VRs.keeps {Z α} {s s' : Shared} {v w} (r : VRs Z α s.heap v w) (x : Keeps s s') : VRs Z α s'.heap v w := VRs.mono0 (W := []) (keeps_kp x _) (fun _ h => nomatch h) r

noncomputable abbrev En := List (Str × V)
structure EnvW (sz : Nat) (env : Env) : Prop where
  inj : ∀ x y c, env.cells.lookup x = some c → env.cells.lookup y = some c → x = y
  ne : ∀ x c, env.cells.lookup x = some c → c ≠ env.locals
  up : ∀ x c, env.cells.lookup x = some c → sz ≤ c
  mem : ∀ c ∈ env.cells.map (·.2), ∃ x, env.cells.lookup x = some c
  own : ∀ x, env.kindOf x = some .cell → ∃ c, env.cells.lookup x = some c

noncomputable def CdOk (B : Bs) (v : Value) : Prop := ∃ c P, v = .ref c ∧ (c, P) ∈ B.codes
structure EnvI (B : Bs) (sc : Scope) (env : Env) : Prop where
  esc : env.scope = sc
  efn : sc.kind = .function
  gl : env.globals = mainGlobals
  bi : env.builtins = builtinsNs
  cd : sc.names.lookup (".0" : Str) = none → CdOk B env.code
  w : EnvW B.g.objs.size env
structure FrI (Z : List Addr) (sz : Nat) (env : Env) (α : List Addr) (σ : En) (h : Heap) : Prop where
  loc : ∃ m, h.Ns env.locals m ∧ ∀ x v, σ.lookup x = some v → env.kindOf x = some .local → ∃ w, m x = some w ∧ VR Z α h v w
  cel : ∀ x v, σ.lookup x = some v → env.kindOf x = some .cell ∨ env.kindOf x = some .free → ∃ c w, env.cells.lookup x = some c ∧ h.IsCell c (some w) ∧ VR Z α h v w
  zL : env.locals ∈ Z
  zC : ∀ x c, env.cells.lookup x = some c → c ∈ Z ∧ ∃ v, h.IsCell c v
  up : sz ≤ env.locals

theorem isCell_solid {h h' : Heap} {c v} (x : h.IsCell c v) (k : ∀ o, h.get? c = some o → Solid o → h'.get? c = some o) : h'.IsCell c v := by
  obtain ⟨o, e, d⟩ := x
  exact ⟨o, k o e (solid_cell d), d⟩

theorem FrI.mono {Z sz env α t W σ h h'} (F : FrI Z sz env α σ h) (k : Kp W h h') (hw : ∀ a ∈ W, a ∈ Z ++ α) (hL : env.locals ∉ W) (hC : ∀ x c, env.cells.lookup x = some c → c ∉ W) (hft : Fresh t h) : FrI Z sz env (α ++ t) σ h' := by
  obtain ⟨m, hn, hl⟩ := F.loc
  refine ⟨⟨m, ns_solid hn fun o e so => k _ o e hL so, fun x v e q => let ⟨w, h1, h2⟩ := hl x v e q; ⟨w, h1, VR.mono k hw hft h2⟩⟩, fun x v e q => ?_, F.zL, fun x c e => ⟨(F.zC x c e).1, ?_⟩, F.up⟩
  · obtain ⟨c, w, h1, h2, h3⟩ := F.cel x v e q
    exact ⟨c, w, h1, isCell_solid h2 fun o e so => k _ o e (hC x c h1) so, VR.mono k hw hft h3⟩
  · obtain ⟨v, hv⟩ := (F.zC x c e).2
    exact ⟨v, isCell_solid hv fun o e' so => k _ o e' (hC x c e) so⟩
theorem FrI.mono0 {Z sz env α W σ h h'} (F : FrI Z sz env α σ h) (k : Kp W h h') (hw : ∀ a ∈ W, a ∈ Z ++ α) (hL : env.locals ∉ W) (hC : ∀ x c, env.cells.lookup x = some c → c ∉ W) : FrI Z sz env α σ h' := by
  have := F.mono (t := []) k hw hL hC .nil; rwa [List.append_nil] at this
theorem FrI.keeps {Z sz env α σ} {s s' : Shared} (F : FrI Z sz env α σ s.heap) (x : Keeps s s') : FrI Z sz env α σ s'.heap := F.mono0 (W := []) (keeps_kp x _) (fun _ h => nomatch h) (by simp) (by simp)
theorem FrI.banned {Z zs sz env α σ h} (F : FrI Z sz env α σ h) (f : Fresh zs h) : FrI (zs ++ Z) sz env α σ h := by
  obtain ⟨m, hn, hl⟩ := F.loc
  exact ⟨⟨m, hn, fun x v e q => let ⟨w, h1, h2⟩ := hl x v e q; ⟨w, h1, h2.banned f⟩⟩, fun x v e q => let ⟨c, w, h1, h2, h3⟩ := F.cel x v e q; ⟨c, w, h1, h2, h3.banned f⟩, List.mem_append_right _ F.zL, fun x c e => ⟨List.mem_append_right _ (F.zC x c e).1, (F.zC x c e).2⟩, F.up⟩

structure Ro (A : Around) : Prop where
  h : A.handled = none
  u : A.units + unitsPure < cLine
noncomputable def Sub (τ σ : En) : Prop := ∀ x v, τ.lookup x = some v → σ.lookup x = some v
theorem FrI.sub {Z sz env α τ σ h} (F : FrI Z sz env α σ h) (k : Sub τ σ) : FrI Z sz env α τ h :=
  ⟨let ⟨m, hn, hl⟩ := F.loc; ⟨m, hn, fun x v e => hl x v (k x v e)⟩, fun x v e => F.cel x v (k x v e), F.zL, F.zC, F.up⟩
noncomputable def There (h h' : Heap) : Prop := ∀ b o, h.get? b = some o → ∃ o', h'.get? b = some o'
theorem There.refl {h} : There h h := fun b o e => ⟨o, e⟩
theorem There.of_keeps {h h' : Heap} (k : ∀ b o, h.get? b = some o → h'.get? b = some o) : There h h' := fun b o e => ⟨o, k b o e⟩
theorem There.trans {h h' h''} (x : There h h') (y : There h' h'') : There h h'' := fun b o e => let ⟨o', e'⟩ := x b o e; y b o' e'

structure Stp (B : Bs) (Z W α : List Addr) (s : Shared) (α' : List Addr) (H' : AH) (s' : Shared) : Prop where
  ext : ∃ t, α' = α ++ t ∧ Fresh t s.heap
  inv : Inv B Z α' H' s'
  kp : Kp (W ++ α) s.heap s'.heap
  th : There s.heap s'.heap

section
variable {B : Bs} {Z W W' α α' α'' : List Addr} {s s' s'' : Shared} {H H' H'' : AH}
theorem Stp.refl (I : Inv B Z α H s) : Stp B Z W α s α H s := ⟨⟨[], by simp, .nil⟩, I, .refl, .refl⟩
theorem Stp.of_keeps (I : Inv B Z α H s) (k : Keeps s s') : Stp B Z W α s α H s' := ⟨⟨[], by simp, .nil⟩, I.keeps k, keeps_kp k _, by obtain ⟨_, _, rfl, q⟩ := k; exact .of_keeps q⟩
theorem Stp.trans (x : Stp B Z W α s α' H' s') (y : Stp B Z W α' s' α'' H'' s'') : Stp B Z W α s α'' H'' s'' := by
  obtain ⟨t, rfl, ft⟩ := x.ext
  obtain ⟨t', rfl, ft'⟩ := y.ext
  refine ⟨⟨t ++ t', by rw [List.append_assoc], fun a ha => ?_⟩, y.inv, ?_, x.th.trans y.th⟩
  · rcases List.mem_append.mp ha with ha | ha
    · exact ft a ha
    · cases e : s.heap.get? a with
      | none => rfl
      | some o => obtain ⟨o', e'⟩ := x.th a o e; rw [ft' a ha] at e'; cases e'
  · have := y.kp
    rw [← List.append_assoc] at this
    exact x.kp.trans ft this
theorem Stp.mono (x : Stp B Z W α s α' H' s') (h : ∀ a ∈ W, a ∈ W') : Stp B Z W' α s α' H' s' :=
  ⟨x.ext, x.inv, x.kp.mono fun a ha => (List.mem_append.mp ha).elim (fun ha => List.mem_append_left _ (h a ha)) fun ha => List.mem_append_right _ ha, x.th⟩
theorem Stp.wide (x : Stp B Z [] α s α' H' s') : Stp B Z W α s α' H' s' := x.mono fun _ h => nomatch h
theorem Stp.get (x : Stp B Z W α s α' H' s') {k : Nat} {a : Addr} (h : α[k]? = some a) : α'[k]? = some a := by
  obtain ⟨t, rfl, _⟩ := x.ext; exact app_get _ _ h
theorem wz (h : ∀ a ∈ W, a ∈ Z) : ∀ a ∈ W ++ α, a ∈ Z ++ α := fun a ha => (List.mem_append.mp ha).elim (fun ha => List.mem_append_left _ (h a ha)) fun ha => List.mem_append_right _ ha
theorem VR.stp {v w} (r : VR Z α s.heap v w) (x : Stp B Z W α s α' H' s') (hw : ∀ a ∈ W, a ∈ Z) : VR Z α' s'.heap v w := by
  obtain ⟨t, rfl, ft⟩ := x.ext
  exact VR.mono x.kp (wz hw) ft r
theorem VRs.stp {v w} (r : VRs Z α s.heap v w) (x : Stp B Z W α s α' H' s') (hw : ∀ a ∈ W, a ∈ Z) : VRs Z α' s'.heap v w := by
  obtain ⟨t, rfl, ft⟩ := x.ext
  exact VRs.mono x.kp (wz hw) ft r
theorem VR.stp0 {v w} (r : VR Z α s.heap v w) (x : Stp B Z [] α s α' H' s') : VR Z α' s'.heap v w := r.stp x fun _ h => nomatch h
theorem VRs.stp0 {v w} (r : VRs Z α s.heap v w) (x : Stp B Z [] α s α' H' s') : VRs Z α' s'.heap v w := r.stp x fun _ h => nomatch h
theorem FrI.stp {sz env σ} (F : FrI Z sz env α σ s.heap) (x : Stp B Z W α s α' H' s') (I : ∀ a ∈ α, a ∉ Z) (hw : ∀ a ∈ W, a ∈ Z) (hL : env.locals ∉ W) (hC : ∀ x c, env.cells.lookup x = some c → c ∉ W) : FrI Z sz env α' σ s'.heap := by
  obtain ⟨t, rfl, ft⟩ := x.ext
  exact F.mono x.kp (wz hw) (fun hm => (List.mem_append.mp hm).elim hL fun hm => I _ hm F.zL) (fun y c e hm => (List.mem_append.mp hm).elim (hC y c e) fun hm => I _ hm (F.zC y c e).1) ft
theorem FrI.stp0 {sz env σ} (F : FrI Z sz env α σ s.heap) (x : Stp B Z [] α s α' H' s') (I : Inv B Z α H s) : FrI Z sz env α' σ s'.heap := F.stp x I.hr.dis (fun _ h => nomatch h) (by simp) (by simp)
end

structure Rm (n : Nat) (A : Around) : Prop where
  h : A.handled = none
  d : A.depth + 8 * n + 8 < recursionLimit
  u : A.units + 100 * n + 100 < cLine
theorem Rm.le {n m A} (r : Rm n A) (h : m ≤ n) : Rm m A := ⟨r.h, by have := r.d; omega, by have := r.u; omega⟩

structure Kx where
  B : Bs
  n : Nat
  sc : Scope
structure Cx (K : Kx) (Z : List Addr) (A : Around) (env : Env) (s : Shared) (α : List Addr) (H : AH) (σ : En) : Prop where
  R : Rm K.n A
  O : K.B.Ok
  EI : EnvI K.B K.sc env
  I : Inv K.B Z α H s
  F : FrI Z K.B.g.objs.size env α σ s.heap
theorem Cx.step {K Z A env s α H σ s' α' H'} (C : Cx K Z A env s α H σ) (k : Stp K.B Z [] α s α' H' s') : Cx K Z A env s' α' H' σ := ⟨C.R, C.O, C.EI, k.inv, C.F.stp0 k C.I⟩
theorem Cx.sub {K Z A env s α H σ τ} (C : Cx K Z A env s α H σ) (k : Sub τ σ) : Cx K Z A env s α H τ := ⟨C.R, C.O, C.EI, C.I, C.F.sub k⟩
theorem FrI.size {Z sz env α σ h} (F : FrI Z sz env α σ h) : sz ≤ h.objs.size := by
  obtain ⟨m, hn, _⟩ := F.loc
  exact Nat.le_trans F.up (Nat.le_of_lt hn.lt)
theorem Cx.size {K Z A env s α H σ} (C : Cx K Z A env s α H σ) : K.B.g.objs.size ≤ s.heap.objs.size := C.F.size
noncomputable def Ev (K : Kx) (e : Expr) (σ : En) (H : AH) (v : V) (H' : AH) : Prop := ∀ ⦃Z A env s α⦄ (Q : Value → Shared → Prop) (E : Value → Shared → Prop), Cx K Z A env s α H σ →
  (∀ w s' α', Stp K.B Z [] α s α' H' s' → VR Z α' s'.heap v w → Q w s') → wpAny (model K.B.prog K.B.w) A (eval e env) Q E s
noncomputable def Tv (K : Kx) (e : Expr) (σ : En) (H : AH) (c : Bool) (H' : AH) : Prop := ∀ ⦃Z A env s α⦄ (Q : Bool → Shared → Prop) (E : Value → Shared → Prop), Cx K Z A env s α H σ →
  (∀ s' α', Stp K.B Z [] α s α' H' s' → Q c s') → wpAny (model K.B.prog K.B.w) A (isTrue e env (eval e env)) Q E s

noncomputable def Pure (v : V) : Prop := ∀ {Z α t h w}, VR Z (α ++ t) h v w → VR Z α h v w
theorem Sep {Z α t : List Addr} {a : Addr} (h : a ∉ Z ++ (α ++ t)) : a ∉ Z ++ α := fun hm => h (by rw [← List.append_assoc]; exact List.mem_append_left _ hm)
theorem pure_none : Pure .none := fun r => by rw [r.noneI]; exact .none
theorem pure_int {i : Int} : Pure (.int i) := fun r => by obtain ⟨_, rfl⟩ := r.intI; exact .int _ _
theorem pure_bool {i : Bool} : Pure (.bool i) := fun r => by rw [r.boolI]; exact .bool _
theorem pures {l : List V} (h : ∀ v ∈ l, Pure v) {Z α t hp ws} (r : VRs Z (α ++ t) hp l ws) : VRs Z α hp l ws := by
  induction l generalizing ws with
  | nil => rw [r.nilI]; exact .nil
  | cons v l ih => obtain ⟨x, xs, rfl, a, b⟩ := r.consI; exact .cons (h v (.head _) a) (ih (fun v hv => h v (.tail _ hv)) b)
theorem pure_tup {l : List V} (h : ∀ v ∈ l, Pure v) : Pure (.tup l) := fun r => by obtain ⟨a, vs, rfl, x, y, z⟩ := r.tupI; exact .tup x (pures h y) (Sep z)
theorem pure_lst {l : List V} (h : ∀ v ∈ l, Pure v) : Pure (.lst l) := fun r => by obtain ⟨a, vs, rfl, x, y, z⟩ := r.lstI; exact .lst x (pures h y) (Sep z)
theorem pure_obj {C ks} {l : List V} (h : ∀ v ∈ l, Pure v) : Pure (.obj C ks l) := fun r => by cases r with | obj a b c d e f => exact .obj a b c (pures h d) (Sep e) (Sep f)
theorem back {Z Z0 α t : List Addr} {h h0 : Heap} : (∀ {x v}, VR Z (α ++ t) h x v → ∀ {w}, VR Z0 α h0 x w → VR Z α h x v) ∧ (∀ {l vs}, VRs Z (α ++ t) h l vs → ∀ {ws}, VRs Z0 α h0 l ws → VRs Z α h l vs) := by
  have c1 : ∀ {x : V} {v : Value} {l : List V} {vs : List Value}, VR Z (α ++ t) h x v → VRs Z (α ++ t) h l vs → (∀ {w}, VR Z0 α h0 x w → VR Z α h x v) → (∀ {ws}, VRs Z0 α h0 l ws → VRs Z α h l vs) → ∀ {ws}, VRs Z0 α h0 (x :: l) ws → VRs Z α h (x :: l) (v :: vs) :=
    fun _ _ i1 i2 _ q => by obtain ⟨_, _, rfl, a, b⟩ := q.consI; exact .cons (i1 a) (i2 b)
  have t1 : ∀ {l : List V} {a : Addr} {vs : List Value}, Tu h a vs.toArray → VRs Z (α ++ t) h l vs → a ∉ Z ++ (α ++ t) → (∀ {ws}, VRs Z0 α h0 l ws → VRs Z α h l vs) → ∀ {w}, VR Z0 α h0 (.tup l) w → VR Z α h (.tup l) (.ref a) :=
    fun x _ z ih _ q => by obtain ⟨_, _, rfl, _, y, _⟩ := q.tupI; exact .tup x (ih y) (Sep z)
  have u1 : ∀ {l : List V} {a : Addr} {vs : List Value}, h.IsList a vs.toArray → VRs Z (α ++ t) h l vs → a ∉ Z ++ (α ++ t) → (∀ {ws}, VRs Z0 α h0 l ws → VRs Z α h l vs) → ∀ {w}, VR Z0 α h0 (.lst l) w → VR Z α h (.lst l) (.ref a) :=
    fun x _ z ih _ q => by obtain ⟨_, _, rfl, _, y, _⟩ := q.lstI; exact .lst x (ih y) (Sep z)
  have w1 : ∀ {C : Addr} {ks : List Str} {l : List V} {a d : Addr} {es : List DictEntry} {n : Nat}, h.get? a = some (instObj C d) → h.get? d = some (dictOf es n) → Keyed ks es → VRs Z (α ++ t) h l (es.map (·.val)) → a ∉ Z ++ (α ++ t) → d ∉ Z ++ (α ++ t) → (∀ {ws}, VRs Z0 α h0 l ws → VRs Z α h l (es.map (·.val))) → ∀ {w}, VR Z0 α h0 (.obj C ks l) w → VR Z α h (.obj C ks l) (.ref a) :=
    fun e1 e2 q _ z1 z2 ih _ q' => by obtain ⟨_, _, _, _, rfl, _, _, _, y⟩ := q'.objI; exact .obj e1 e2 q (ih y) (Sep z1) (Sep z2)
  have r1 : ∀ {i : Nat} {a : Addr}, (α ++ t)[i]? = some a → ∀ {w}, VR Z0 α h0 (.ref i) w → VR Z α h (.ref i) (.ref a) := fun e _ q => by
    obtain ⟨b, rfl, e'⟩ := q.refI
    rw [app_get _ _ e'] at e; cases e; exact .ref e'
  exact ⟨fun r => VR.rec (motive_1 := fun x v _ => ∀ {w}, VR Z0 α h0 x w → VR Z α h x v) (motive_2 := fun x v _ => ∀ {w}, VRs Z0 α h0 x w → VRs Z α h x v) (fun _ => .none) (fun _ _ _ => .bool _) (fun _ _ _ _ => .int _ _) (fun _ _ _ _ => .str _ _) t1 u1 w1 r1 (fun _ _ _ => .raw _) (fun q => .nil) c1 r,
    fun r => VRs.rec (motive_1 := fun x v _ => ∀ {w}, VR Z0 α h0 x w → VR Z α h x v) (motive_2 := fun x v _ => ∀ {w}, VRs Z0 α h0 x w → VRs Z α h x v) (fun _ => .none) (fun _ _ _ => .bool _) (fun _ _ _ _ => .int _ _) (fun _ _ _ _ => .str _ _) t1 u1 w1 r1 (fun _ _ _ => .raw _) (fun q => .nil) c1 r⟩
theorem HR.drop {Z Z0 : List Addr} {sz : Nat} {α t : List Addr} {H T : AH} {h0 h : Heap} (r0 : HR Z0 sz α H h0) (r : HR Z sz (α ++ t) (H ++ T) h) : HR Z sz α H h := by
  refine ⟨r0.len, r0.nodup, fun a ha => r.dis a (List.mem_append_left _ ha), fun i o a e e' => ?_⟩
  have x := r.obj i o a (by rw [List.getElem?_append_left (List.getElem?_eq_some_iff.mp e).1]; exact e) (app_get _ _ e')
  have y := r0.obj i o a e e'
  cases o with
  | list l => obtain ⟨z, vs, n, e, q⟩ := x; obtain ⟨_, _, _, _, q'⟩ := y; exact ⟨z, vs, n, e, back.2 q q'⟩
  | inst C d => obtain ⟨z, dx, q, e⟩ := x; obtain ⟨_, dy, q', _⟩ := y; rw [app_get _ _ q'] at q; cases q; exact ⟨z, _, q', e⟩
  | ns ks l => obtain ⟨z, es, n, e, k, q⟩ := x; obtain ⟨_, _, _, _, _, q'⟩ := y; exact ⟨z, es, n, e, k, back.2 q q'⟩
theorem Stp.drop {B : Bs} {Z Z0 W α α' : List Addr} {s s' : Shared} {H T : AH} (I : Inv B Z0 α H s) (x : Stp B Z W α s α' (H ++ T) s') : Stp B Z W α s α H s' := by
  obtain ⟨t, rfl, ft⟩ := x.ext
  exact ⟨⟨[], by simp, .nil⟩, ⟨x.inv.old, x.inv.keep, x.inv.gens, x.inv.os, x.inv.codes, I.hr.drop x.inv.hr, x.inv.ban⟩, x.kp, x.th⟩
noncomputable def Fz (H : AH) (n : Nat) (v v' : V) : Prop := ∀ {Z sz α t h w}, α.length = n → HR Z sz (α ++ t) H h → VR Z (α ++ t) h v w → VR Z α h v' w
theorem fz_pure {H n v} (h : Pure v) : Fz H n v v := fun _ _ r => h r
theorem sep_get {Z α t : List Addr} {sz H h} {i : Nat} {a : Addr} (r : HR Z sz (α ++ t) H h) (e : (α ++ t)[i]? = some a) (hi : α.length ≤ i) : a ∉ Z ++ α := fun hm => (List.mem_append.mp hm).elim (r.dis a (List.mem_of_getElem? e)) fun hm => by
  obtain ⟨j, hj⟩ := List.getElem?_of_mem hm
  have lj := (List.getElem?_eq_some_iff.mp hj).1
  have := (List.getElem_inj r.nodup).mp ((List.getElem?_eq_some_iff.mp (app_get (t := t) j a hj)).2.trans (List.getElem?_eq_some_iff.mp e).2.symm)
  omega
theorem fz_lst {H n i l} (hi : n ≤ i) (e : H[i]? = some (.list l)) (h : ∀ v ∈ l, Pure v) : Fz H n (.ref i) (.lst l) := fun hl hr r => by
  obtain ⟨a, rfl, ha⟩ := r.refI
  obtain ⟨z, vs, m, ea, q⟩ := hr.obj _ _ _ e ha
  exact .lst ⟨_, ea, rfl, m, rfl⟩ (pures h q) (sep_get hr ha (hl ▸ hi))
theorem fz_obj {H n i C d ks l} (hi : n ≤ i) (hd : n ≤ d) (e : H[i]? = some (.inst C d)) (e' : H[d]? = some (.ns ks l)) (h : ∀ v ∈ l, Pure v) : Fz H n (.ref i) (.obj C ks l) := fun hl hr r => by
  obtain ⟨a, rfl, ha⟩ := r.refI
  obtain ⟨z, dx, q, ea⟩ := hr.obj _ _ _ e ha
  obtain ⟨_, es, m, ed, k, q'⟩ := hr.obj _ _ _ e' q
  exact .obj ea ed k (pures h q') (sep_get hr ha (hl ▸ hi)) (sep_get hr q (hl ▸ hd))
theorem fz_tup2 {H n a b a' b'} (h1 : Fz H n a a') (h2 : Fz H n b b') : Fz H n (.tup [a, b]) (.tup [a', b']) := fun hl hr r => by
  obtain ⟨_, ws, rfl, t, y, z⟩ := r.tupI
  obtain ⟨x1, xs, rfl, r1, y⟩ := y.consI
  obtain ⟨x2, xs, rfl, r2, y⟩ := y.consI
  rw [y.nilI] at t
  exact .tup t (.cons (h1 hl hr r1) (.cons (h2 hl hr r2) .nil)) (Sep z)
theorem ev_fz {K e σ H T v v'} (h : Ev K e σ H v (H ++ T)) (f : Fz (H ++ T) H.length v v') : Ev K e σ H v' H := fun _ _ _ _ _ Q E C hQ => h Q E C fun w s' α' k r => by
  obtain ⟨t, rfl, ft⟩ := k.ext
  exact hQ w s' _ (k.drop C.I) (f C.I.hr.len k.inv.hr r)
theorem ev_frz {K e σ H l} (h : Ev K e σ H (.ref H.length) (H ++ [.list l])) (hp : ∀ v ∈ l, Pure v) : Ev K e σ H (.lst l) H := ev_fz h (fz_lst (Nat.le_refl _) (by simp) hp)
end Tg
namespace Tg
set_option maxHeartbeats 1000000
section
variable {K : Kx} {σ τ : En} {H H₁ H₂ H₃ H' : AH} {v a b c : V} {e l r t o : Expr} {pos : Pos} {x : Str} {k : Nat}
theorem Cx.kind {Z A env s α} (C : Cx K Z A env s α H σ) (x : Str) : env.kindOf x = K.sc.names.lookup x := by unfold Env.kindOf; rw [C.EI.esc]
theorem Cx.fn {Z A env s α} (C : Cx K Z A env s α H σ) : env.scope.kind = .function := C.EI.esc ▸ C.EI.efn
theorem ev_sub (h : Ev K e τ H v H') (k : Sub τ σ) : Ev K e σ H v H' := fun _ _ _ _ _ Q E C hQ => h Q E (C.sub k) hQ
theorem ev_int {i : Int} {k pos} : Ev K (.Constant (.int i) k pos) σ H (.int i) H := fun _ _ _ _ _ Q E C hQ => wpAny_Constant_int (hQ _ _ _ (.of_keeps C.I (Keeps.toks _ _)) (.int _ _))
theorem ev_bool {i : Bool} {k pos} : Ev K (.Constant (.bool i) k pos) σ H (.bool i) H := fun _ _ _ _ _ Q E C hQ => wpAny_Constant_bool (hQ _ _ _ (.refl C.I) (.bool _))
theorem ev_none {k pos} : Ev K (.Constant .none k pos) σ H .none H := fun _ _ _ _ _ Q E C hQ => wpAny_Constant_none (hQ _ _ _ (.refl C.I) .none)
noncomputable def nameOk (sc : Scope) (x : Str) : Bool :=
  (sc.names.lookup x == some .local || sc.names.lookup x == some .cell || sc.names.lookup x == some .free) && !(x == ("__debug__" : Str)) && !(x == ("__classdict__" : Str))
theorem load_name {Z A env s α} {Q : Value → Shared → Prop} {E : Value → Shared → Prop} (C : Cx K Z A env s α H σ) (hn : nameOk K.sc x = true) (hf : σ.lookup x = some v) (hQ : ∀ w, VR Z α s.heap v w → Q w s) : wpAny (model K.B.prog K.B.w) A (loadName env x) Q E s := by
  have hfn := C.fn
  unfold nameOk at hn
  simp only [Bool.and_eq_true, Bool.or_eq_true, beq_iff_eq, Bool.not_eq_true'] at hn
  obtain ⟨⟨hk, hd⟩, hc⟩ := hn
  have kk := C.kind x
  rcases hk with (hk | hk) | hk
  · obtain ⟨m, hn, hl⟩ := C.F.loc
    obtain ⟨w, h1, h2⟩ := hl x v hf (kk.trans hk)
    exact wpAny_loadName_local hfn (kk.trans hk) hn h1 (hQ w h2)
  · obtain ⟨c, w, h1, h2, h3⟩ := C.F.cel x v hf (.inl (kk.trans hk))
    exact wpAny_loadName_cell hfn (kk.trans hk) h1 h2 (hQ w h3)
  · obtain ⟨c, w, h1, h2, h3⟩ := C.F.cel x v hf (.inr (kk.trans hk))
    exact wpAny_loadName_free hfn (kk.trans hk) h1 h2 (hQ w h3) hc
theorem ev_name (hf : σ.lookup x = some v) (hn : nameOk K.sc x = true) : Ev K (.Name x pos) σ H v H := fun _ _ _ _ _ Q E C hQ =>
  wpAny_Name (load_name C hn hf fun w r => hQ w _ _ (.refl C.I) r) (by unfold nameOk at hn; simp only [Bool.and_eq_true, Bool.not_eq_true'] at hn; exact hn.1.2)
noncomputable def Gl (K : Kx) (x : Str) (v : Value) : Prop := K.sc.names.lookup x = some .globalImplicit ∧ (x == ("__debug__" : Str)) = false ∧ (K.B.mg x = some v ∨ K.B.mg x = none ∧ K.B.mb x = some v)
theorem ev_glob {f : Value} (hv : Gl K x f) : Ev K (.Name x pos) σ H (.raw f) H := fun _ _ _ _ _ Q E C hQ => by
  obtain ⟨hk, hd, hv⟩ := hv
  have kk := (C.kind x).trans hk
  have q := hQ _ _ _ (.refl C.I) (.raw f)
  exact Name_function_global C.fn kk (hv.elim (fun hv => loadGlobal_global (C.EI.gl ▸ C.I.g C.O) hv q) fun hv => loadGlobal_builtin (C.EI.gl ▸ C.I.g C.O) hv.1 (C.EI.bi ▸ C.I.b C.O) hv.2 q) hd

noncomputable def small (i : Int) : Bool := decide (-(2 ^ 62) ≤ i) && decide (i ≤ 2 ^ 62)
theorem small_bits {a : Int} (h : small a = true) : Builtin.Int.intBits a ≤ 64 := by
  unfold small at h
  simp only [Bool.and_eq_true, decide_eq_true_eq] at h
  exact PySem.intBits_le_64 (by omega) (by omega)
theorem add_tup {B : Bs} {A : Around} {s : Shared} {Z α : List Addr} {H : AH} {t b : Addr} {vs ws : List Value} {l : List V} {Q : Value → Shared → Prop} {E : Value → Shared → Prop}
    (I : Inv B Z α H s) (hzt : t ∉ Z ++ α) (hzb : b ∉ Z ++ α) (ht : Tu s.heap t vs.toArray) (hb : Tu s.heap b ws.toArray) (r : VRs Z α s.heap l (vs ++ ws)) (hsz : vs.length + ws.length ≤ 1048576)
    (hQ : ∀ w s', Keeps s s' → VR Z α s'.heap (.tup l) w → Q w s') : wpAny (model B.prog B.w) A (binaryOp .Add (.ref t) (.ref b)) Q E s := by
  obtain ⟨n, ho⟩ := id ht
  obtain ⟨n2, ho2⟩ := id hb
  by_cases hv : vs = []
  · refine concat_meets ⟨_, ho, rfl⟩ ⟨_, ho2, rfl⟩ noFill_tuple_add seq_tuple_add PySem.F.slot_tuple_add PySem.F.entry_tuple_add (PySem.F.args_tuple_add_2 _ _)
      (tuple_addW0 t b vs.toArray ws.toArray n n2 none none #[] #[] (by simp [hv])) ⟨ho, ho2, hQ _ _ (Keeps.refl' _) (.tup hb (by subst hv; exact r) hzb)⟩
  · by_cases hw : ws = []
    · exact concat_meets ⟨_, ho, rfl⟩ ⟨_, ho2, rfl⟩ noFill_tuple_add seq_tuple_add PySem.F.slot_tuple_add PySem.F.entry_tuple_add (PySem.F.args_tuple_add_2 _ _)
        (tuple_addW1 t b vs.toArray ws.toArray n n2 none none #[] #[] (by simpa using hv) (by simp [hw])) ⟨ho, ho2, hQ _ _ (Keeps.refl' _) (.tup ht (by subst hw; rwa [List.append_nil] at r) hzt)⟩
    · refine concat_meets ⟨_, ho, rfl⟩ ⟨_, ho2, rfl⟩ noFill_tuple_add seq_tuple_add PySem.F.slot_tuple_add PySem.F.entry_tuple_add (PySem.F.args_tuple_add_2 _ _)
        (tuple_addW2 t b vs.toArray ws.toArray n n2 none none #[] #[] (by simpa using hv) (by simpa using hw) (by rw [List.size_toArray, List.size_toArray]; exact Nat.le_trans hsz (by decide))) ⟨ho, ho2, ?_⟩
      have k := keeps_push s { cls := .type "tuple", data := .seq (vs.toArray ++ ws.toArray) }
      exact hQ _ _ k (.tup (vs := vs ++ ws) ⟨0, by simpa using Heap.get?_push_size s.heap (o := { cls := .type "tuple", data := .seq (vs.toArray ++ ws.toArray) }) rfl⟩ (r.keeps k) I.new)
noncomputable def BinR (op : Operator) (H : AH) (a b v : V) (H' : AH) : Prop := ∀ ⦃B : Bs⦄ ⦃A : Around⦄ ⦃s : Shared⦄ ⦃Z α : List Addr⦄ ⦃x y : Value⦄ (Q : Value → Shared → Prop) (E : Value → Shared → Prop), Inv B Z α H s → B.g.objs.size ≤ s.heap.objs.size →
  VR Z α s.heap a x → VR Z α s.heap b y → (∀ w s' α', Stp B Z [] α s α' H' s' → VR Z α' s'.heap v w → Q w s') → wpAny (model B.prog B.w) A (binaryOp op x y) Q E s
section
variable {i j : Int}
theorem bin_add : BinR .Add H (.int i) (.int j) (.int (i + j)) H := fun _ _ _ _ _ _ _ Q E I _ ra rb hQ => by
  obtain ⟨_, rfl⟩ := ra.intI; obtain ⟨_, rfl⟩ := rb.intI; exact add_int (hQ _ _ _ (.of_keeps I (Keeps.toks _ _)) (.int _ _))
theorem bin_sub : BinR .Sub H (.int i) (.int j) (.int (i - j)) H := fun _ _ _ _ _ _ _ Q E I _ ra rb hQ => by
  obtain ⟨_, rfl⟩ := ra.intI; obtain ⟨_, rfl⟩ := rb.intI; exact sub_int (hQ _ _ _ (.of_keeps I (Keeps.toks _ _)) (.int _ _))
theorem bin_mul (h : small i = true) : BinR .Mult H (.int i) (.int j) (.int (i * j)) H := fun _ _ _ _ _ _ _ Q E I _ ra rb hQ => by
  obtain ⟨_, rfl⟩ := ra.intI; obtain ⟨_, rfl⟩ := rb.intI; exact mul_int (hQ _ _ _ (.of_keeps I (Keeps.toks _ _)) (.int _ _)) (.of_left (small_bits h))
theorem bin_div (h : j ≠ 0) (h2 : j.natAbs < 1073741824) : BinR .FloorDiv H (.int i) (.int j) (.int (i.fdiv j)) H := fun _ _ _ _ _ _ _ Q E I _ ra rb hQ => by
  obtain ⟨_, rfl⟩ := ra.intI; obtain ⟨_, rfl⟩ := rb.intI; exact floordiv_int h (hQ _ _ _ (.of_keeps I (Keeps.toks _ _)) (.int _ _)) (.inl (PyProof.noPylong_small h2))
theorem bin_mod (h : j ≠ 0) : BinR .Mod H (.int i) (.int j) (.int (i.fmod j)) H := fun _ _ _ _ _ _ _ Q E I _ ra rb hQ => by
  obtain ⟨_, rfl⟩ := ra.intI; obtain ⟨_, rfl⟩ := rb.intI; exact mod_int' h (hQ _ _ _ (.of_keeps I (Keeps.toks _ _)) (.int _ _))
theorem bin_cat {l m : List V} (h : l.length + m.length ≤ 1048576) : BinR .Add H (.tup l) (.tup m) (.tup (l ++ m)) H := fun _ _ _ _ _ _ _ Q E I _ ra rb hQ => by
  obtain ⟨_, vs, rfl, ha, r, za⟩ := ra.tupI
  obtain ⟨_, ws, rfl, hb, q, zb⟩ := rb.tupI
  exact add_tup I za zb ha hb (r.append q) (by rw [r.length, q.length]; exact h) fun w s' k => hQ w s' _ (.of_keeps I k)
end
theorem ev_bin {op : Operator} (hl : Ev K l σ H a H₁) (hr : Ev K r σ H₁ b H₂) (hv : BinR op H₂ a b v H₃) : Ev K (.BinOp l op r pos) σ H v H₃ := fun _ _ _ _ _ Q E C hQ =>
  wpAny_BinOp (hl _ E C fun x s₁ α₁ k₁ r₁ => hr _ E (C.step k₁) fun y s₂ α₂ k₂ r₂ => hv _ E k₂.inv (C.step (k₁.trans k₂)).F.size (r₁.stp0 k₂) r₂ fun w s₃ α₃ k₃ => hQ w s₃ α₃ ((k₁.trans k₂).trans k₃))
theorem ev_neg {i : Int} (h : Ev K e σ H (.int i) H₁) : Ev K (.UnaryOp .USub e pos) σ H (.int (-i)) H₁ := fun _ _ _ _ _ Q E C hQ =>
  wpAny_UnaryOp (h _ E C fun w s₁ α₁ k₁ r₁ => by obtain ⟨_, rfl⟩ := r₁.intI; exact neg_int (hQ _ _ _ (k₁.trans (.of_keeps k₁.inv (Keeps.toks _ _))) (.int _ _)))
end
end Tg
namespace Tg
set_option maxHeartbeats 1000000
noncomputable abbrev tI (l : List Int) : V := .tup (l.map .int)
noncomputable abbrev dI (l : List Int) : List PyData := l.map .int
theorem ints_ok {Z α : List Addr} {h : Heap} {l : List Int} {ws : List Value} (r : VRs Z α h (l.map .int) ws) : (∃ as, ReadsAll h ws (dI l) as) ∧ PyData.canLayAll0 (dI l) = true ∧ PyData.depthAll (dI l) = 0 := by
  induction l generalizing ws with
  | nil => rw [r.nilI]; exact ⟨⟨_, .nil⟩, rfl, rfl⟩
  | cons i l ih =>
    obtain ⟨_, xs, rfl, rx, r1⟩ := r.consI
    obtain ⟨_, rfl⟩ := rx.intI
    obtain ⟨⟨as, ra⟩, c, d⟩ := ih r1
    exact ⟨⟨_, .cons (.int _ _) ra⟩, c, (Nat.zero_max _).trans d⟩
noncomputable def Dat (H : AH) (v : V) (d : PyData) : Prop := ∀ {Z sz α h w}, HR Z sz α H h → VR Z α h v w → (∃ as, Reads h w d as) ∧ SeqAt.shaped d = true
theorem dat_ints {H : AH} {l : List Int} : Dat H (tI l) (.tuple (dI l)) := fun hr r => by
  obtain ⟨_, ws, rfl, ⟨k, ho⟩, r, _⟩ := r.tupI
  obtain ⟨⟨as, ra⟩, c, dd⟩ := ints_ok r
  exact ⟨⟨_, .tuple ho rfl rfl (by simpa using ra)⟩, Bool.and_eq_true_iff.mpr ⟨c, decide_eq_true (by show PyData.depthAll (dI l) + 1 ≤ 64; rw [dd]; decide)⟩⟩
noncomputable def Lq (v : V) (l : List V) (H : AH) : Prop := v = .lst l ∨ ∃ i, v = .ref i ∧ H[i]? = some (.list l)
theorem lq_lst {l : List V} {H : AH} : Lq (.lst l) l H := .inl rfl
theorem lq_ref {i : Nat} {l : List V} {H : AH} (h : H[i]? = some (.list l)) : Lq (.ref i) l H := .inr ⟨i, rfl, h⟩
theorem Lq.at {Z sz α h H v l w} (hl : Lq v l H) (hr : HR Z sz α H h) (r : VR Z α h v w) : ∃ a ws, w = .ref a ∧ h.IsList a ws.toArray ∧ VRs Z α h l ws := by
  rcases hl with rfl | ⟨i, rfl, e⟩
  · obtain ⟨a, ws, rfl, x, y, _⟩ := r.lstI; exact ⟨a, ws, rfl, x, y⟩
  · obtain ⟨a, rfl, ha⟩ := r.refI
    obtain ⟨_, ws, n, ea, q⟩ := hr.obj _ _ _ e ha
    exact ⟨a, ws, rfl, ⟨_, ea, rfl, n, rfl⟩, q⟩
theorem dat_list {H : AH} {v : V} {l : List Int} (hl : Lq v (l.map .int) H) : Dat H v (.list (dI l)) := fun hr r => by
  obtain ⟨_, ws, rfl, ⟨o, ho, hc, k, hd⟩, r⟩ := hl.at hr r
  obtain ⟨⟨as, ra⟩, c, dd⟩ := ints_ok r
  exact ⟨⟨_, .list ho hc hd (by simpa using ra)⟩, Bool.and_eq_true_iff.mpr ⟨c, decide_eq_true (by show PyData.depthAll (dI l) + 1 ≤ 64; rw [dd]; decide)⟩⟩
theorem eqvAll_ints : ∀ l m : List Int, PyData.eqvAll (dI l) (dI m) = decide (l = m)
  | [], [] => rfl
  | [], _ :: _ => rfl
  | _ :: _, [] => rfl
  | a :: l, b :: m => by
    show (PyData.eqv (.int a) (.int b) && PyData.eqvAll (dI l) (dI m)) = _
    rw [eqvAll_ints l m]
    show (a == b && decide (l = m)) = _
    by_cases h1 : a = b <;> by_cases h2 : l = m <;> simp [h1, h2]
theorem any_ints (a : Int) : ∀ l : List Int, ((dI l).any fun y => PyData.eqv y (.int a)) = decide (a ∈ l)
  | [] => rfl
  | x :: l => by
    show ((x == a) || (dI l).any fun y => PyData.eqv y (.int a)) = _
    rw [any_ints a l, List.decide_mem_cons, Bool.beq_comm]
noncomputable def isNoneV : V → Option Bool
  | .none => some true
  | .raw _ => none
  | _ => some false
theorem isNone_ok {Z α h v w b} (r : VR Z α h v w) (e : isNoneV v = some b) : (w == Value.none) = b := by
  cases r <;> cases e <;> rfl
noncomputable def CmpR (H : AH) (op : CmpOp) (a b : V) (c : Bool) : Prop := ∀ ⦃B : Bs⦄ ⦃A : Around⦄ ⦃s : Shared⦄ ⦃Z α : List Addr⦄ ⦃x y : Value⦄ (Q : Value → Shared → Prop) (E : Value → Shared → Prop), A.units + 64 < cLine → Inv B Z α H s →
  VR Z α s.heap a x → VR Z α s.heap b y → Q (.bool c) s → wpAny (model B.prog B.w) A (compareOp op x y) Q E s
noncomputable def TruthR (H : AH) (a : V) (c : Bool) : Prop := ∀ ⦃B : Bs⦄ ⦃A : Around⦄ ⦃s : Shared⦄ ⦃Z α : List Addr⦄ ⦃x : Value⦄ (Q : Bool → Shared → Prop) (E : Value → Shared → Prop), Inv B Z α H s →
  VR Z α s.heap a x → (∀ s', Keeps s s' → Q c s') → wpAny (model B.prog B.w) A (truthy x) Q E s
theorem VRs.empty {Z α h l ws} (r : VRs Z α h l ws) : (!ws.toArray.isEmpty) = (!l.isEmpty) := by cases r <;> rfl
section
variable {H : AH} {i j : Int} {a b : V} {c : Bool} {l m : List V} {d d' : PyData} {ds : List PyData}
theorem c_lt : CmpR H .Lt (.int i) (.int j) (decide (i < j)) := fun _ _ _ _ _ _ _ Q E _ _ ra rb hQ => by obtain ⟨_, rfl⟩ := ra.intI; obtain ⟨_, rfl⟩ := rb.intI; exact lt_int hQ
theorem c_le : CmpR H .LtE (.int i) (.int j) (decide (i ≤ j)) := fun _ _ _ _ _ _ _ Q E _ _ ra rb hQ => by obtain ⟨_, rfl⟩ := ra.intI; obtain ⟨_, rfl⟩ := rb.intI; exact le_int hQ
theorem c_gt : CmpR H .Gt (.int i) (.int j) (decide (i > j)) := fun _ _ _ _ _ _ _ Q E _ _ ra rb hQ => by obtain ⟨_, rfl⟩ := ra.intI; obtain ⟨_, rfl⟩ := rb.intI; exact gt_int hQ
theorem c_ge : CmpR H .GtE (.int i) (.int j) (decide (i ≥ j)) := fun _ _ _ _ _ _ _ Q E _ _ ra rb hQ => by obtain ⟨_, rfl⟩ := ra.intI; obtain ⟨_, rfl⟩ := rb.intI; exact ge_int hQ
theorem c_eq : CmpR H .Eq (.int i) (.int j) (i == j) := fun _ _ _ _ _ _ _ Q E _ _ ra rb hQ => by obtain ⟨_, rfl⟩ := ra.intI; obtain ⟨_, rfl⟩ := rb.intI; exact eq_int hQ
theorem c_ne : CmpR H .NotEq (.int i) (.int j) (!(i == j)) := fun _ _ _ _ _ _ _ Q E _ _ ra rb hQ => by obtain ⟨_, rfl⟩ := ra.intI; obtain ⟨_, rfl⟩ := rb.intI; exact ne_int hQ
theorem c_eqd (e1 : Dat H a d) (e2 : Dat H b d') : CmpR H .Eq a b (PyData.eqv d d') := fun _ _ _ _ _ _ _ Q E hu I ra rb hQ =>
  let ⟨⟨_, q1⟩, c1⟩ := e1 I.hr ra; let ⟨⟨_, q2⟩, c2⟩ := e2 I.hr rb; eq_dataH q1 q2 c1 c2 hu hQ
theorem c_ned (e1 : Dat H a d) (e2 : Dat H b d') : CmpR H .NotEq a b (!PyData.eqv d d') := fun _ _ _ _ _ _ _ Q E hu I ra rb hQ =>
  let ⟨⟨_, q1⟩, c1⟩ := e1 I.hr ra; let ⟨⟨_, q2⟩, c2⟩ := e2 I.hr rb; ne_dataH q1 q2 c1 c2 hu hQ
theorem c_eqt {l m : List Int} : CmpR H .Eq (tI l) (tI m) (decide (l = m)) := eqvAll_ints l m ▸ c_eqd dat_ints dat_ints
theorem c_net {l m : List Int} : CmpR H .NotEq (tI l) (tI m) (!decide (l = m)) := eqvAll_ints l m ▸ c_ned dat_ints dat_ints
theorem c_eql {l m : List Int} (hi : Lq a (l.map .int) H) (hj : Lq b (m.map .int) H) : CmpR H .Eq a b (decide (l = m)) := eqvAll_ints l m ▸ c_eqd (dat_list hi) (dat_list hj)
theorem c_nel {l m : List Int} (hi : Lq a (l.map .int) H) (hj : Lq b (m.map .int) H) : CmpR H .NotEq a b (!decide (l = m)) := eqvAll_ints l m ▸ c_ned (dat_list hi) (dat_list hj)
theorem c_is (h : isNoneV a = some c) : CmpR H .Is a .none c := fun _ _ _ _ _ _ _ Q E _ _ ra rb hQ => by rw [rb.noneI]; exact is_none (by rw [isNone_ok ra h]; exact hQ)
theorem c_isnt (h : isNoneV a = some c) : CmpR H .IsNot a .none (!c) := fun _ _ _ _ _ _ _ Q E _ _ ra rb hQ => by rw [rb.noneI]; exact isnot_none_gen (by rw [isNone_ok ra h]; exact hQ)
theorem c_in {l : List Int} : CmpR H .In (.int i) (tI l) (decide (i ∈ l)) := fun _ _ _ _ _ _ _ Q E hu I ra rb hQ => by
  obtain ⟨_, rfl⟩ := ra.intI
  obtain ⟨_, ws, rfl, ⟨k, ho⟩, r, _⟩ := rb.tupI
  obtain ⟨⟨bs, q2⟩, c2, l2⟩ := ints_ok r
  exact SeqAt.in_tuple_reads (.tuple ho rfl rfl (by simpa using q2)) (.int _ _) c2 rfl (by rw [l2, Nat.zero_min]; omega) (by rw [any_ints]; exact hQ)
theorem t_none : TruthR H .none false := fun _ _ _ _ _ _ Q E I ra hQ => by rw [ra.noneI]; exact truthy_none (hQ _ (Keeps.refl' _))
theorem t_bool : TruthR H (.bool c) c := fun _ _ _ _ _ _ Q E I ra hQ => by rw [ra.boolI]; exact wpAny_truthy_bool (hQ _ (Keeps.refl' _))
theorem t_int : TruthR H (.int i) (i != 0) := fun _ _ _ _ _ _ Q E I ra hQ => by obtain ⟨_, rfl⟩ := ra.intI; exact truthy_int (hQ _ (Keeps.refl' _))
theorem t_tup (h : l.length ≤ 1048576) : TruthR H (.tup l) (!l.isEmpty) := fun _ _ _ _ _ _ Q E I ra hQ => by
  obtain ⟨_, ws, rfl, ht, r, _⟩ := ra.tupI
  exact truthy_tuple ht.is (by rw [List.size_toArray, r.length]; omega) (by rw [r.empty]; exact hQ _ (Keeps.toks _ _))
theorem t_ls (hi : Lq a l H) (h : l.length ≤ 1048576) : TruthR H a (!l.isEmpty) := fun _ _ _ _ _ _ Q E I ra hQ => by
  obtain ⟨_, ws, rfl, ho, r⟩ := hi.at I.hr ra
  exact wpAny_truthy_list ho (by rw [List.size_toArray, r.length]; omega) (by rw [r.empty]; exact hQ _ (Keeps.toks _ _))
end
section
variable {K : Kx} {σ τ : En} {H H₁ H₂ H₃ H' : AH} {v a b : V} {c d : Bool} {e l r t o : Expr} {pos : Pos} {x : Str} {k : Nat}
theorem Rm.cmp {n A} (r : Rm n A) : A.units + 64 < cLine := by have := r.u; omega
theorem tv_plain (h : Ev K e σ H v H₁) (ht : TruthR H₁ v c) (hp : ∀ env whole, isTrue e env whole = do let v ← whole; standAt e.pos; holding [v] (truthy v)) : Tv K e σ H c H₁ := fun _ _ _ _ _ Q E C hQ =>
  isTrue_plain (h _ E C fun x s₁ α₁ k₁ r₁ => ht _ E k₁.inv r₁ fun s₂ k₂ => hQ _ _ (k₁.trans (.of_keeps k₁.inv k₂))) (hp _ _)
theorem tv_not (h : Tv K e σ H c H₁) : Tv K (.UnaryOp .Not e pos) σ H (!c) H₁ := fun _ _ _ _ _ Q E C hQ => isTrue_not (h _ E C hQ)
theorem tv_cmp {op : CmpOp} (hl : Ev K l σ H a H₁) (hr : Ev K r σ H₁ b H₂) (hc : CmpR H₂ op a b c) (hm : behindInMarks op r = false := by rfl) : Tv K (.Compare l [op] [r] pos) σ H c H₂ := fun _ _ _ _ _ Q E C hQ =>
  wpAny_isTrue_Compare1 (hl _ E C fun x s₁ α₁ k₁ r₁ => hr _ E (C.step k₁) fun y s₂ α₂ k₂ r₂ => hc _ E C.R.cmp k₂.inv (r₁.stp0 k₂) r₂ (wpAny_truthy_bool (hQ _ _ (k₁.trans k₂)))) hm
theorem ev_cmp {op : CmpOp} (hl : Ev K l σ H a H₁) (hr : Ev K r σ H₁ b H₂) (hc : CmpR H₂ op a b c) (hm : behindInMarks op r = false := by rfl) : Ev K (.Compare l [op] [r] pos) σ H (.bool c) H₂ := fun _ _ _ _ _ Q E C hQ =>
  wpAny_Compare1 (hl _ E C fun x s₁ α₁ k₁ r₁ => hr _ E (C.step k₁) fun y s₂ α₂ k₂ r₂ => hc _ E C.R.cmp k₂.inv (r₁.stp0 k₂) r₂ (hQ _ _ _ (k₁.trans k₂) (.bool _))) hm
theorem tv_and_t (ha : Tv K l σ H true H₁) (hb : Tv K r σ H₁ c H₂) : Tv K (.BoolOp .And [l, r] pos) σ H c H₂ := fun _ _ _ _ _ Q E C hQ => by
  show wpAny _ _ (isTrue l _ (eval l _) >>= fun t => _) Q E _
  refine wpAny_bind (ha _ E C fun s₁ α₁ k₁ => ?_)
  show wpAny _ _ (isTrue r _ (eval r _) >>= fun t => _) Q E s₁
  refine wpAny_bind (hb _ E (C.step k₁) fun s₂ α₂ k₂ => ?_)
  cases c <;> exact wpAny_pure (hQ _ _ (k₁.trans k₂))
theorem tv_and_f (ha : Tv K l σ H false H₁) : Tv K (.BoolOp .And [l, r] pos) σ H false H₁ := fun _ _ _ _ _ Q E C hQ => by
  show wpAny _ _ (isTrue l _ (eval l _) >>= fun t => _) Q E _
  exact wpAny_bind (ha _ E C fun s₁ α₁ k₁ => wpAny_pure (hQ _ _ k₁))
theorem tv_or_f (ha : Tv K l σ H false H₁) (hb : Tv K r σ H₁ c H₂) : Tv K (.BoolOp .Or [l, r] pos) σ H c H₂ := fun _ _ _ _ _ Q E C hQ => by
  show wpAny _ _ (isTrue l _ (eval l _) >>= fun t => _) Q E _
  refine wpAny_bind (ha _ E C fun s₁ α₁ k₁ => ?_)
  show wpAny _ _ (isTrue r _ (eval r _) >>= fun t => _) Q E s₁
  refine wpAny_bind (hb _ E (C.step k₁) fun s₂ α₂ k₂ => ?_)
  cases c <;> exact wpAny_pure (hQ _ _ (k₁.trans k₂))
theorem tv_or_t (ha : Tv K l σ H true H₁) : Tv K (.BoolOp .Or [l, r] pos) σ H true H₁ := fun _ _ _ _ _ Q E C hQ => by
  show wpAny _ _ (isTrue l _ (eval l _) >>= fun t => _) Q E _
  exact wpAny_bind (ha _ E C fun s₁ α₁ k₁ => wpAny_pure (hQ _ _ k₁))
theorem ev_ite_t (ht : Tv K t σ H true H₁) (hb : Ev K l σ H₁ v H₂) : Ev K (.IfExp t l r pos) σ H v H₂ := fun _ _ _ _ _ Q E C hQ =>
  wpAny_IfExp (ht _ E C fun s₁ α₁ k₁ => hb _ E (C.step k₁) fun w s₂ α₂ k₂ => hQ w s₂ α₂ (k₁.trans k₂))
theorem ev_ite_f (ht : Tv K t σ H false H₁) (hb : Ev K r σ H₁ v H₂) : Ev K (.IfExp t l r pos) σ H v H₂ := fun _ _ _ _ _ Q E C hQ =>
  wpAny_IfExp (ht _ E C fun s₁ α₁ k₁ => hb _ E (C.step k₁) fun w s₂ α₂ k₂ => hQ w s₂ α₂ (k₁.trans k₂))
theorem ev_and_t (ha : Ev K l σ H a H₁) (hc : TruthR H₁ a true) (hb : Ev K r σ H₁ v H₂) : Ev K (.BoolOp .And [l, r] pos) σ H v H₂ := fun _ _ _ _ _ Q E C hQ =>
  BoolOp_and (ha _ E C fun w s₁ α₁ k₁ r₁ => hc _ E k₁.inv r₁ fun s₂ k₂ => hb _ E (C.step (k₁.trans (.of_keeps k₁.inv k₂))) fun w s₃ α₃ k₃ => hQ w s₃ α₃ ((k₁.trans (.of_keeps k₁.inv k₂)).trans k₃))
theorem ev_and_f (ha : Ev K l σ H a H₁) (hc : TruthR H₁ a false) : Ev K (.BoolOp .And [l, r] pos) σ H a H₁ := fun _ _ _ _ _ Q E C hQ =>
  BoolOp_and (ha _ E C fun w s₁ α₁ k₁ r₁ => hc _ E k₁.inv r₁ fun s₂ k₂ => hQ w s₂ α₁ (k₁.trans (.of_keeps k₁.inv k₂)) (r₁.keeps k₂))
theorem ev_or_f (ha : Ev K l σ H a H₁) (hc : TruthR H₁ a false) (hb : Ev K r σ H₁ v H₂) : Ev K (.BoolOp .Or [l, r] pos) σ H v H₂ := fun _ _ _ _ _ Q E C hQ =>
  BoolOp_or (ha _ E C fun w s₁ α₁ k₁ r₁ => hc _ E k₁.inv r₁ fun s₂ k₂ => hb _ E (C.step (k₁.trans (.of_keeps k₁.inv k₂))) fun w s₃ α₃ k₃ => hQ w s₃ α₃ ((k₁.trans (.of_keeps k₁.inv k₂)).trans k₃))
theorem ev_or_t (ha : Ev K l σ H a H₁) (hc : TruthR H₁ a true) : Ev K (.BoolOp .Or [l, r] pos) σ H a H₁ := fun _ _ _ _ _ Q E C hQ =>
  BoolOp_or (ha _ E C fun w s₁ α₁ k₁ r₁ => hc _ E k₁.inv r₁ fun s₂ k₂ => hQ w s₂ α₁ (k₁.trans (.of_keeps k₁.inv k₂)) (r₁.keeps k₂))
end
end Tg
namespace Tg
set_option maxHeartbeats 1000000
noncomputable def ItemR (H : AH) (a b v : V) : Prop := ∀ ⦃B : Bs⦄ ⦃A : Around⦄ ⦃s : Shared⦄ ⦃Z α : List Addr⦄ ⦃x y : Value⦄ ⦃value slice : Expr⦄ (Q : Value → Shared → Prop) (E : Value → Shared → Prop), Inv B Z α H s →
  VR Z α s.heap a x → VR Z α s.heap b y → (∀ o i, subscripted slice false o i = operate [o, i] (getItem o i)) → (∀ w, VR Z α s.heap v w → Q w s) → wpAny (model B.prog B.w) A (subscriptTail value slice x y) Q E s
section
variable {H : AH} {i j : Nat} {k : Int} {l : List V} {v a : V} {c : Bool}
theorem it_tup (hk : k = (j : Int)) (hj : l[j]? = some v) (hb : j < 1048576) : ItemR H (.tup l) (.int k) v := fun _ _ _ _ _ _ _ _ _ Q E I ra rb hs hQ => by
  obtain ⟨_, ws, rfl, ht, r, _⟩ := ra.tupI
  obtain ⟨_, rfl⟩ := rb.intI
  obtain ⟨w, hw, hr⟩ := r.get hj
  have hlt := (List.getElem?_eq_some_iff.mp hw).1
  subst hk
  refine tail_any ht.is.typeIs slot_tuple_getitem.lookup (getItem_tuple ht.is (by omega) (by omega) (j := j) ?_ (by simpa using hw) (hQ w hr)) (hs _ _)
  unfold seqIndex?
  simp only [show ¬ (j : Int) < 0 by omega, if_false, List.size_toArray]
  rw [if_pos (by simp only [Bool.and_eq_true, decide_eq_true_eq]; omega)]; rfl
theorem it_ls (hi : Lq a l H) (hk : k = (j : Int)) (hj : l[j]? = some v) (hb : j < 1048576) : ItemR H a (.int k) v := fun _ _ _ _ _ _ _ _ _ Q E I ra rb hs hQ => by
  obtain ⟨_, rfl⟩ := rb.intI
  obtain ⟨_, ws, rfl, ho, r⟩ := hi.at I.hr ra
  obtain ⟨w, hw, hr⟩ := r.get hj
  subst hk
  exact tail_any ho.typeIs slot_list_getitem.lookup (wpAny_getItem_list ho (by omega) (by omega) (by simpa using hw) (hQ w hr)) (hs _ _)
theorem it_last {m : List V} (hi : Lq a (m ++ [v]) H) : ItemR H a (.int (-1)) v := fun _ _ _ _ _ _ _ _ _ Q E I ra rb hs hQ => by
  obtain ⟨_, rfl⟩ := rb.intI
  obtain ⟨_, ws, rfl, ho, r⟩ := hi.at I.hr ra
  have hl := r.length
  rw [List.length_append, List.length_singleton] at hl
  obtain ⟨w, hw, hr⟩ := r.get (i := m.length) (x := v) (by simp)
  have e : (-1 + (ws.toArray.size : Int)).toNat = m.length := by rw [List.size_toArray]; omega
  exact tail_any ho.typeIs slot_list_getitem.lookup (wpAny_getItem_list_neg ho (by decide) (by rw [List.size_toArray]; omega) (by decide) (by rw [e]; simpa using hw) (hQ w hr)) (hs _ _)
noncomputable def LenR (H : AH) (a : V) (n : Nat) : Prop := ∀ ⦃B : Bs⦄ ⦃A : Around⦄ ⦃s : Shared⦄ ⦃Z α : List Addr⦄ ⦃x : Value⦄ (Q : Value → Shared → Prop) (E : Value → Shared → Prop), Inv B Z α H s →
  VR Z α s.heap a x → (∀ t s', Keeps s s' → Q (.int n t) s') → wpAny (model B.prog B.w) A (call (.builtin "len") [x]) Q E s
theorem len_t (h : l.length ≤ 1048576) : LenR H (.tup l) l.length := fun _ _ _ _ _ _ Q E I ra hQ => by
  obtain ⟨_, ws, rfl, ht, r, _⟩ := ra.tupI
  have e := r.length
  exact len_tuple ht.is (by rw [List.size_toArray, e]; omega) (by rw [List.size_toArray, e]; exact hQ _ _ (Keeps.toks _ _))
theorem len_l (hi : Lq a l H) (h : l.length ≤ 1048576) : LenR H a l.length := fun _ _ _ _ _ _ Q E I ra hQ => by
  obtain ⟨_, ws, rfl, ho, r⟩ := hi.at I.hr ra
  have e := r.length
  exact len_list ho (by rw [List.size_toArray, e]; omega) (by rw [List.size_toArray, e]; exact hQ _ _ (Keeps.toks _ _))
end
noncomputable def EvL (K : Kx) (es : List Expr) (σ : En) (H : AH) (l : List V) (H' : AH) : Prop := ∀ ⦃Z A env s α⦄ (pos : Pos) (Q : List Value → Shared → Prop) (E : Value → Shared → Prop), Cx K Z A env s α H σ →
  (∀ w s' α', Stp K.B Z [] α s α' H' s' → VRs Z α' s'.heap l w → Q w s') → wpAny (model K.B.prog K.B.w) A (spliced (backTo pos (starEach es env))) Q E s
section
variable {K : Kx} {σ τ : En} {H H₁ H₂ H₃ H' : AH} {v a b : V} {c d : Bool} {e l r t o : Expr} {es : List Expr} {vs : List V} {pos : Pos} {x : Str} {k : Nat}
theorem el_nil : EvL K [] σ H [] H := fun _ _ _ _ _ pos Q E C hQ => spliced_none (hQ _ _ _ (.refl C.I) .nil)
theorem el_cons (he : Ev K e σ H v H₁) (hes : EvL K es σ H₁ vs H₂) (hs : ∀ env, starEach (e :: es) env = (false, eval e env) :: starEach es env := by intro _; rfl) : EvL K (e :: es) σ H (v :: vs) H₂ := fun _ _ _ _ _ pos Q E C hQ => by
  rw [hs]
  show wpAny _ _ (spliced ((false, eval e _) :: backTo pos (starEach es _))) Q E _
  exact spliced_cons (he _ E C fun w s₁ α₁ k₁ r₁ => hes pos _ E (C.step k₁) fun ws s₂ α₂ k₂ r₂ => hQ _ _ _ (k₁.trans k₂) (.cons (r₁.stp0 k₂) r₂))
theorem tup_made {B : Bs} {A : Around} {s : Shared} {Z α : List Addr} {H : AH} {l : List V} {ws : List Value} {Q : Value → Shared → Prop} {E : Value → Shared → Prop} (I : Inv B Z α H s) (r : VRs Z α s.heap l ws) (hl : l.length ≤ 1048576)
    (hQ : ∀ w s', Keeps s s' → VR Z α s'.heap (.tup l) w → Q w s') : wpAny (model B.prog B.w) A (newTuple ws) Q E s := by
  have k := keeps_push s { cls := .type "tuple", data := .seq ws.toArray }
  exact wpAny_newTuple (hQ _ _ k (.tup ⟨0, Heap.get?_push_size _ rfl⟩ (r.keeps k) I.new)) (by rw [r.length]; exact Nat.le_trans hl (by decide))
theorem ev_tuple {k} (h : EvL K es σ H vs H₁) (hsz : vs.length ≤ 1048576 := by decide) : Ev K (.Tuple es k pos) σ H (.tup vs) H₁ := fun _ _ _ _ _ Q E C hQ =>
  Tuple_ (h pos _ E C fun ws s₁ α₁ k₁ r₁ => tup_made k₁.inv r₁ hsz fun w s₂ k₂ r₂ => hQ w s₂ α₁ (k₁.trans (.of_keeps k₁.inv k₂)) r₂)
theorem Stp.push {B : Bs} {Z α : List Addr} {s : Shared} {H : AH} {o : AO} {h' : Heap} {tk : Nat} {a : Addr} (I : Inv B Z α H s) (hk : ∀ b o, s.heap.get? b = some o → h'.get? b = some o) (fr : s.heap.get? a = none) (ro : OR Z B.g.objs.size (α ++ [a]) h' o a) :
    Stp B Z [] α s (α ++ [a]) (H ++ [o]) { s with heap := h', toks := tk } := by
  have I' := I.keeps (s' := { s with heap := h', toks := tk }) ⟨h', tk, rfl, hk⟩
  exact ⟨⟨_, rfl, fun b hb => by rw [List.mem_singleton.mp hb]; exact fr⟩, ⟨I'.old, I'.keep, I'.gens, I'.os, I'.codes, I.hr.push (.of_keeps hk) fr (fun hm => I.nw fr (List.mem_append_left _ hm)) ro, I'.ban⟩, .of_keeps hk, .of_keeps hk⟩
theorem new_list {B : Bs} {Z α : List Addr} {s : Shared} {H : AH} {l : List V} {h' : Heap} {tk : Nat} {a : Addr} {ws : List Value} {c : Nat} (I : Inv B Z α H s) (hsz : B.g.objs.size ≤ a) (hk : ∀ b o, s.heap.get? b = some o → h'.get? b = some o) (fr : s.heap.get? a = none) (e : h'.get? a = some { cls := .type "list", data := .seq ws.toArray c }) (r : VRs Z α s.heap l ws) :
    Stp B Z [] α s (α ++ [a]) (H ++ [.list l]) { s with heap := h', toks := tk } ∧ VR Z (α ++ [a]) h' (.ref H.length) (.ref a) :=
  ⟨.push I hk fr ⟨hsz, ws, c, e, VRs.mono (W := []) (.of_keeps hk) (fun _ h => nomatch h) (fun b hb => by rw [List.mem_singleton.mp hb]; exact fr) r⟩, .ref (by rw [← I.hr.len]; simp)⟩
theorem list_made {B : Bs} {Z : List Addr} {s : Shared} {α : List Addr} {H : AH} {l : List V} {ws : List Value} (hsz : B.g.objs.size ≤ s.heap.objs.size) (I : Inv B Z α H s) (r : VRs Z α s.heap l ws) (m : Nat) :
    Stp B Z [] α s (α ++ [s.heap.objs.size]) (H ++ [.list l]) { s with heap := s.heap.push { cls := .type "list", data := .seq ws.toArray m } } ∧ VR Z (α ++ [s.heap.objs.size]) (s.heap.push { cls := .type "list", data := .seq ws.toArray m }) (.ref H.length) (.ref s.heap.objs.size) :=
  new_list (tk := s.toks) I hsz (fun _ _ e => Heap.get?_push_of_some _ e) (none_new' (Nat.le_refl _)) (Heap.get?_push_size _ rfl) r
theorem ev_list (h : EvL K es σ H vs H₁) (hsz : vs.length ≤ 1048576 := by decide) : Ev K (.List es pos) σ H (.ref H₁.length) (H₁ ++ [.list vs]) := fun _ _ _ _ _ Q E C hQ =>
  List_ (h pos _ E C fun ws s₁ α₁ k₁ r₁ => wpAny_newList (let ⟨k₂, r₂⟩ := list_made (C.step k₁).size k₁.inv r₁ 0; hQ _ _ _ (k₁.trans k₂) r₂) (by rw [r₁.length]; exact Nat.le_trans hsz (by decide)))
theorem ev_item (hl : Ev K l σ H a H₁) (hr : Ev K r σ H₁ b H₂) (hi : ItemR H₂ a b v) (hs : ∀ o i, subscripted r false o i = operate [o, i] (getItem o i) := by intro _ _; rfl) : Ev K (.Subscript l r pos) σ H v H₂ := fun _ _ _ _ _ Q E C hQ =>
  Subscript_ (hl _ E C fun x s₁ α₁ k₁ r₁ => hr _ E (C.step k₁) fun y s₂ α₂ k₂ r₂ => hi Q E k₂.inv (r₁.stp0 k₂) r₂ hs fun w rw => hQ _ _ _ (k₁.trans k₂) rw)
end
end Tg
namespace Tg
set_option maxHeartbeats 1000000
noncomputable def Fn (B : Bs) (n : Nat) (fv : Value) (vs : List V) (H : AH) (v : V) (H' : AH) : Prop := ∀ ⦃Z A s α ws⦄ (Q : Value → Shared → Prop) (E : Value → Shared → Prop),
  Rm n A → B.Ok → Inv B Z α H s → B.g.objs.size ≤ s.heap.objs.size → VRs Z α s.heap vs ws → (∀ w s' α', Stp B Z [] α s α' H' s' → VR Z α' s'.heap v w → Q w s') → wpAny (model B.prog B.w) A (call fv ws []) Q E s
noncomputable def CalleeOk (B : Bs) (fv : Value) : Bool := keepIn B.K fv || (match fv with | .builtin _ => true | .type _ => true | _ => false)
theorem callWith_pos {B : Bs} {A : Around} {env : Env} {s : Shared} {pos : Pos} {fv : Value} {es : List Expr} {Q : Value → Shared → Prop} {E : Value → Shared → Prop} (O : B.Ok) (hc : CalleeOk B fv = true) (first : List Value)
    (hs : ∀ e ∈ es, ∀ rest, starEach (e :: rest) env = (false, eval e env) :: starEach rest env)
    (h : wpAny (model B.prog B.w) A (spliced (backTo pos (starEach es env))) (fun ws s₁ => B.K.In s₁.heap ∧ wpAny (model B.prog B.w) A (call fv (first ++ ws) []) Q E s₁) E s) :
    wpAny (model B.prog B.w) A (callWith pos fv first (backTo pos (starEach es env)) (backToKw pos (keywordEach [] env))) Q E s := by
  have hpl : (backTo pos (starEach es env)).any (·.1) = false := by
    clear h
    induction es with
    | nil => rfl
    | cons e es ih =>
      rw [hs e (.head _)]
      show (false || (backTo pos (starEach es env)).any (·.1)) = false
      rw [ih fun e' he' => hs e' (.tail _ he')]; rfl
  have hargs : ∀ (f : Value) (Q' : Args → Shared → Prop), wpAny (model B.prog B.w) A (spliced (backTo pos (starEach es env))) (fun ws s₁ => Q' ⟨ws, []⟩ s₁) E s → wpAny (model B.prog B.w) A (evalArgs f true (backTo pos (starEach es env)) []) Q' E s := by
    intro f Q' h'
    cases es with
    | nil =>
      unfold evalArgs
      show wpAny _ A (spliced [] >>= _) Q' E s
      refine wpAny_bind (wpAny_mono h' (fun vs s' h'' => ?_) fun _ _ x => x)
      refine wpAny_holding ?_
      exact wpAny_bind (wpAny_pure (wpAny_bind (wpAny_pure (wpAny_pure h''))))
    | cons e es =>
      rw [hs e (.head _)] at h' ⊢
      exact evalArgs_plain h'
  unfold CalleeOk at hc
  rcases Bool.or_eq_true_iff.mp hc with hc | hc
  · exact callWith_of (P := fun h => B.K.In h) (by rw [hpl]; rfl) (keeps_K hc) (hargs _ _ h)
  · split at hc
    · exact Calls.callWith_builtin hpl (hargs _ _ (wpAny_mono h (fun ws s₁ h₁ => h₁.2) fun _ _ x => x))
    · exact PyProof.Rows.callWith_type hpl (hargs _ _ (wpAny_mono h (fun ws s₁ h₁ => h₁.2) fun _ _ x => x))
    · cases hc
noncomputable def starOk (es : List Expr) : Bool := es.all fun | .Starred .. => false | _ => true
theorem star_ok {es : List Expr} (h : starOk es = true) (env : Env) : ∀ e ∈ es, ∀ rest, starEach (e :: rest) env = (false, eval e env) :: starEach rest env := by
  intro e he rest
  have := List.all_eq_true.mp h e he
  cases e <;> first | rfl | cases this
noncomputable def callEq (f : Expr) (es : List Expr) (pos : Pos) : Prop := ∀ env, eval (.Call f es [] pos) env = (do callWith pos (← eval f env) [] (backTo pos (starEach es env)) (backToKw pos (keywordEach [] env)))
noncomputable def methEq (o : Expr) (name : Str) (ap : Pos) (es : List Expr) (pos : Pos) : Prop := ∀ env, ∃ pl, eval (.Call (.Attribute o name ap) es [] pos) env = (do
      let ov ← eval o env
      standAt ap.atName
      let (f, first) ← holding [ov] (getMethod ov name pl)
      callWith pos f first (backTo pos (starEach es env)) (backToKw pos (keywordEach [] env)))
section
variable {K : Kx} {B : Bs} {n : Nat} {σ τ : En} {H H₁ H₂ H₃ H' : AH} {v a b : V} {e f o : Expr} {es : List Expr} {vs : List V} {pos ap : Pos} {x name : Str} {k : Nat} {fv : Value}
theorem ev_call (hfv : Ev K f σ H (.raw fv) H) (hes : EvL K es σ H vs H₁) (hg : Fn K.B K.n fv vs H₁ v H₂) (hc : CalleeOk K.B fv = true) (hf : callEq f es pos := by intro _; rfl) (hso : starOk es = true := by rfl) :
    Ev K (.Call f es [] pos) σ H v H₂ := fun _ _ _ _ _ Q E C hQ => by
  rw [hf]
  refine wpAny_bind (hfv _ E C fun w s₁ α₁ k₁ r₁ => ?_)
  rw [r₁.rawI]
  have C₁ := C.step k₁
  exact callWith_pos C.O hc [] (star_ok hso _) (hes pos _ E C₁ fun ws s₂ α₂ k₂ r₂ => ⟨k₂.inv.K C.O, hg Q E C.R C.O k₂.inv (C₁.step k₂).size r₂ fun w s₃ α₃ k₃ => hQ _ _ _ ((k₁.trans k₂).trans k₃)⟩)
theorem fn_len {m : Nat} (h : LenR H a m) : Fn B n (.builtin "len") [a] H (.int m) H := fun _ _ _ _ _ Q E R O I hsz r hQ => by
  obtain ⟨_, _, rfl, ra, r⟩ := r.consI
  rw [r.nilI]
  exact h Q E I ra fun t s' k => hQ _ _ _ (.of_keeps I k) (.int _ _)
noncomputable def Meth (B : Bs) (C : Addr) (name : Str) (f : Addr) : Prop := plainGet B.K C name = true ∧ findIn B.K (.ref C) name = some (some (.ref f)) ∧ isFn B.K (.ref f) = true
end
end Tg
namespace Tg
set_option maxHeartbeats 1000000
section
variable {B : Bs} {n : Nat}
structure ClsOk (B : Bs) (C : Addr) : Prop where
  hd : hasDictIn B.K C = true
  sa : findIn B.K (.ref C) "__setattr__" = some (some (.builtin "object.__setattr__"))
  po : plainOver B.K C = true
structure FldOk (B : Bs) (C : Addr) (x : Str) : Prop where
  pg : plainGet B.K C x = true
  fi : ∃ attr, findIn B.K (.ref C) x = some attr ∧ noGet B.K attr = true
  tk : takerIn B.K C x = some none
theorem getL_hit {hs : Int} {y : Str} {t : Tok} {w : Value} {es : List DictEntry} : getL y (⟨hs, .str y t, w⟩ :: es) = some (some w) := by simp [getL, Value.isStr]
theorem getL_miss {hs : Int} {x y : Str} {t : Tok} {w : Value} {es : List DictEntry} (q : (x == y) = false) : getL x (⟨hs, .str y t, w⟩ :: es) = getL x es := by
  have hb' : (y == x) = false := by rw [Bool.beq_comm]; exact q
  have : (⟨hs, .str y t, w⟩ : DictEntry).key.isStr x = false := hb'
  unfold getL
  rw [List.find?_cons, this]
  simp only [List.any_cons, DictEntry.refKey, Bool.false_or]
  rfl
theorem fr_get {Z α : List Addr} {h : Heap} {x : Str} {v : V} : ∀ {ks : List Str} {l : List V} {es : List DictEntry}, Keyed ks es → VRs Z α h l (es.map (·.val)) → (ks.zip l).lookup x = some v → ∃ w, getL x es = some (some w) ∧ VR Z α h v w
  | [], _, _, _, _, e => by simp at e
  | _ :: _, [], _, _, _, e => by simp at e
  | y :: ks, u :: l, [], k, _, _ => by cases k
  | y :: ks, u :: l, ⟨hs, key, w⟩ :: es, k, r, e => by
    obtain ⟨⟨t, hk⟩, k⟩ := k
    simp only at hk
    subst hk
    obtain ⟨_, _, e0, r1, r2⟩ := r.consI
    cases e0
    rw [List.zip_cons_cons, List.lookup_cons] at e
    cases q : (x == y) with
    | true => rw [q] at e; cases e; cases (beq_iff_eq.mp q); exact ⟨w, getL_hit, r1⟩
    | false => rw [q] at e; rw [getL_miss q]; exact fr_get k r2 e
theorem fr_none {x : Str} : ∀ {ks : List Str} {es : List DictEntry}, Keyed ks es → ks.contains x = false → getL x es = some none
  | [], [], _, _ => rfl
  | [], _ :: _, k, _ => by cases k
  | _ :: _, [], k, _ => by cases k
  | y :: ks, ⟨hs, key, w⟩ :: es, k, e => by
    obtain ⟨⟨t, hk⟩, k⟩ := k
    simp only at hk
    subst hk
    rw [List.contains_cons, Bool.or_eq_false_iff] at e
    rw [getL_miss e.1]
    exact fr_none k e.2
structure SmOk (B : Bs) (C : Addr) (name : Str) (f : Addr) : Prop where
  hg : specialIn B.K (.ref C) "__getattribute__" = some (some (.builtin "type.__getattribute__"))
  ex : ∃ mc p rest, readsIn B.K C mc = true ∧ findCls B.K (.ref C) mc name = some (.get (.builtin "staticmethod.__get__") (.ref p) .none (.ref C)) ∧ recIn B.K p "staticmethod" = some (.ref f :: rest)
theorem SmOk.wp {C f : Addr} {name : Str} (M : SmOk B C name f) {A : Around} {s : Shared} {pl : Sem Bool} {Q : Value × List Value → Shared → Prop} {E : Value → Shared → Prop} (K : B.K.In s.heap) (h : Q (.ref f, []) { s with toks := s.toks + 1 }) :
    wpAny (model B.prog B.w) A (getMethod (.ref C) name pl) Q E s := by
  obtain ⟨mc, p, rest, h1, h2, h3⟩ := M.ex
  exact method_cls K M.hg (cls_bind K h1 h2 (wpAny_call (sm_get (s := { s with toks := s.toks + 1 }) K h3 (handed_on rfl h))))
end
noncomputable def Ob (v : V) (C : Addr) (ks : List Str) (l : List V) (H : AH) : Prop := v = .obj C ks l ∨ ∃ i d, v = .ref i ∧ H[i]? = some (.inst C d) ∧ H[d]? = some (.ns ks l)
theorem ob_obj {C ks l H} : Ob (.obj C ks l) C ks l H := .inl rfl
noncomputable def isRaw : V → Bool
  | .raw _ => true
  | _ => false
theorem handed_of {Z α h v w} (r : VR Z α h v w) (e : isRaw v = false) : handedIn w = true := by cases r <;> first | rfl | cases e
theorem Ob.at {Z sz α h H v C ks l w} (o : Ob v C ks l H) (hr : HR Z sz α H h) (r : VR Z α h v w) : ∃ xa dx es m, w = .ref xa ∧ InstAt h xa (instObj C dx) C (some (dictOf es m)) ∧ Keyed ks es ∧ VRs Z α h l (es.map (·.val)) := by
  rcases o with rfl | ⟨i, d, rfl, e1, e2⟩
  · obtain ⟨a, d, es, n, rfl, e1, e2, k, q⟩ := r.objI
    exact ⟨a, d, es, n, rfl, ⟨e1, rfl, rfl, e2⟩, k, q⟩
  · obtain ⟨a, rfl, ha⟩ := r.refI
    obtain ⟨_, dx, hdx, ex⟩ := hr.obj _ _ _ e1 ha
    obtain ⟨_, es, m, ed, k, q⟩ := hr.obj _ _ _ e2 hdx
    exact ⟨a, dx, es, m, rfl, ⟨ex, rfl, rfl, ed⟩, k, q⟩
section
variable {K : Kx} {B : Bs} {n : Nat} {σ τ : En} {H H₁ H₂ H₃ H' : AH} {v a b : V} {e f o : Expr} {es : List Expr} {vs : List V} {pos ap pp : Pos} {x xp name : Str} {k i : Nat} {fv : Value} {C fa : Addr} {fs : List (Str × V)}
theorem ev_attr {ks : List Str} {l : List V} (ho : Ev K (.Name xp pp) σ H a H) (hc : ClsOk K.B C) (hx : FldOk K.B C x) (hi : Ob a C ks l H) (hv : (ks.zip l).lookup x = some v) (hr : isRaw v = false := by rfl) : Ev K (.Attribute (.Name xp pp) x ap) σ H v H := fun _ _ _ _ _ Q E C' hQ => by
  rw [arm_eval_Attribute]
  refine wpAny_bind (ho _ E C' fun w s₁ α₁ k₁ r₁ => wpAny_bind (wpAny_standAt (wpAny_bind (wpAny_holding ?_))))
  obtain ⟨xa, dx, es, m, rfl, Ins, k, r⟩ := hi.at k₁.inv.hr r₁
  obtain ⟨w', hg, rw⟩ := fr_get k r hv
  obtain ⟨attr, h1, h2⟩ := hx.fi
  refine get_value (k₁.inv.K C'.O) Ins (plainGet_of hx.pg).1 (findObj_own hc.hd h1 h2 (by rw [lookIn_dict]; exact hg)) (handed_of rw hr) ?_
  exact wpAny_bind (m := letTemporaryGo (.Name xp pp) _ _) (wpAny_pure (wpAny_pure (hQ _ _ _ (k₁.trans (.of_keeps k₁.inv (Keeps.toks _ _))) (rw.keeps (Keeps.toks s₁ (s₁.toks + 1))))))
theorem ev_meth {ks : List Str} {l : List V} (ho : Ev K o σ H a H₁) (hi : Ob a C ks l H₁) (hm : Meth K.B C name fa) (hl : ks.contains name = false) (hes : EvL K es σ H₁ vs H₂) (hg : Fn K.B K.n (.ref fa) (a :: vs) H₂ v H₃)
    (hc : CalleeOk K.B (.ref fa) = true) (hev : methEq o name ap es pos := by intro _; exact ⟨_, rfl⟩) (hso : starOk es = true := by rfl) : Ev K (.Call (.Attribute o name ap) es [] pos) σ H v H₃ := fun _ _ _ _ _ Q E C' hQ => by
  obtain ⟨pl, hev⟩ := hev _
  refine methodCall_KW (ho _ E C' fun w s₁ α₁ k₁ r₁ => ?_) hev
  obtain ⟨xa, dx, es, m, rfl, Ins, k, r⟩ := hi.at k₁.inv.hr r₁
  refine method_fn (k₁.inv.K C'.O) Ins (plainGet_of hm.1).1 (plainGet_of hm.1).2 hm.2.1 (beq_iff_eq.mp hm.2.2) (by show (lookIn name (dictOf es m)).map _ = _; rw [lookIn_dict, fr_none k hl]; rfl) ?_
  have C₁ := C'.step k₁
  exact callWith_pos C'.O hc _ (star_ok hso _) (hes pos _ E C₁ fun ws s₂ α₂ k₂ r₂ => ⟨k₂.inv.K C'.O, hg Q E C'.R C'.O k₂.inv (C₁.step k₂).size (.cons (r₁.stp0 k₂) r₂) fun w s₃ α₃ k₃ => hQ _ _ _ ((k₁.trans k₂).trans k₃)⟩)
theorem ev_static (ho : Ev K o σ H (.raw (.ref C)) H) (hm : SmOk K.B C name fa) (hes : EvL K es σ H vs H₂) (hg : Fn K.B K.n (.ref fa) vs H₂ v H₃)
    (hc : CalleeOk K.B (.ref fa) = true) (hev : methEq o name ap es pos := by intro _; exact ⟨_, rfl⟩) (hso : starOk es = true := by rfl) : Ev K (.Call (.Attribute o name ap) es [] pos) σ H v H₃ := fun _ _ _ _ _ Q E C' hQ => by
  obtain ⟨pl, hev⟩ := hev _
  refine methodCall_KW (ho _ E C' fun w s₁ α₁ k₁ r₁ => ?_) hev
  rw [r₁.rawI]
  refine hm.wp (k₁.inv.K C'.O) ?_
  have k₂ := k₁.trans (.of_keeps (W := []) k₁.inv (Keeps.toks s₁ (s₁.toks + 1)))
  have C₁ := C'.step k₂
  exact callWith_pos C'.O hc _ (star_ok hso _) (hes pos _ E C₁ fun ws s₂ α₂ k₃ r₂ => ⟨k₃.inv.K C'.O, hg Q E C'.R C'.O k₃.inv (C₁.step k₃).size r₂ fun w s₃ α₃ k₄ => hQ _ _ _ ((k₂.trans k₃).trans k₄)⟩)
end
end Tg
namespace Tg
set_option maxHeartbeats 1000000
theorem beq_false_of_ne {x y : Str} (h : x ≠ y) : (x == y) = false := by simpa using h
inductive Fl where
  | next | brk | cont
  | ret (v : V)
inductive FlR (Z α : List Addr) (h : Heap) : Fl → Flow → Prop
  | next : FlR Z α h .next .next
  | brk : FlR Z α h .brk .brk
  | cont : FlR Z α h .cont .cont
  | ret {v : V} {w : Value} : VR Z α h v w → FlR Z α h (.ret v) (.ret w)

theorem FlR.nextI {Z α h w} (r : FlR Z α h .next w) : w = .next := by cases r; rfl
theorem FlR.brkI {Z α h w} (r : FlR Z α h .brk w) : w = .brk := by cases r; rfl
theorem FlR.contI {Z α h w} (r : FlR Z α h .cont w) : w = .cont := by cases r; rfl
theorem FlR.retI {Z α h v w} (r : FlR Z α h (.ret v) w) : ∃ x, w = .ret x ∧ VR Z α h v x := by cases r with | ret r => exact ⟨_, rfl, r⟩
noncomputable def Ow (env : Env) : List Addr := env.locals :: if env.func.isSome then env.cells.map (·.2) else []
theorem ow_cases {env : Env} {a : Addr} (h : a ∈ Ow env) : a = env.locals ∨ (env.func.isSome = true ∧ a ∈ env.cells.map (·.2)) := by
  rcases List.mem_cons.mp h with h | h
  · exact .inl h
  · split at h
    · exact .inr ⟨by assumption, h⟩
    · cases h
structure EnvF (sz : Nat) (env : Env) : Prop extends EnvW sz env where
  fe : env.func.isSome = true
section
variable {B : Bs} {n : Nat} {sc : Scope} {Z : List Addr}
theorem SameBut.kp {a : Addr} {h h' : Heap} {W : List Addr} (hs : Heap.SameBut a h h') (ha : a ∈ W) : Kp W h h' := fun b o e hb _ => (hs.2 b fun q => hb (q ▸ ha)).trans e
theorem SameBut.there {a : Addr} {h h' : Heap} {o' : Obj} (hs : Heap.SameBut a h h') (ha : h'.get? a = some o') : There h h' := fun b o e => by
  by_cases hb : b = a
  · subst hb; exact ⟨_, ha⟩
  · exact ⟨o, (hs.2 b hb).trans e⟩
theorem Inv.write {α : List Addr} {H H' : AH} {s : Shared} {a : Addr} {h' : Heap} {tk : Nat} (I : Inv B Z α H s) (O : B.Ok) (ha : B.g.objs.size ≤ a) (hs : Heap.SameBut a s.heap h')
    (hd : ∀ o, s.heap.get? a = some o → ∀ vs, o.data ≠ .fields vs) (hr : HR Z B.g.objs.size α H' h') (th : There s.heap h') : Inv B Z α H' { s with heap := h', toks := tk } := by
  refine ⟨I.old.step_same (O.size ▸ ha) hs, fun b o e => (hs.2 b ?_).trans (I.keep b o e), I.gens, I.os, fun p hp => ?_, hr, fun a ha => let ⟨o, e⟩ := I.ban a ha; th a o e⟩
  · exact Nat.ne_of_lt (Nat.lt_of_lt_of_le (Heap.lt_size e) ha)
  · obtain ⟨ps, x, y⟩ := I.codes p hp
    have hP : p.2 ≠ a := fun q => hd _ (q ▸ y.2) ps rfl
    have hc : p.1 ≠ a := fun q => by
      obtain ⟨⟨o, vs, e, _, d, _⟩, _⟩ := y
      exact hd _ (q ▸ e) vs d
    exact ⟨ps, code_of ⟨x, y⟩ (fun _ e => (hs.2 _ hc).trans e) fun _ e => (hs.2 _ hP).trans e⟩
theorem ow_z {env : Env} {Z α : List Addr} {σ : En} {h : Heap} {sz} (W : EnvW sz env) (F : FrI Z sz env α σ h) : ∀ a ∈ Ow env, a ∈ Z := fun a ha => by
  rcases ow_cases ha with rfl | ⟨_, ha⟩
  · exact F.zL
  · obtain ⟨x, hx⟩ := W.mem a ha; exact (F.zC x a hx).1
theorem one_z {Z : List Addr} {a : Addr} (h : a ∈ Z) : ∀ b ∈ [a], b ∈ Z := fun b hb => List.mem_singleton.mp hb ▸ h
theorem one_za {Z α : List Addr} {a : Addr} (h : a ∈ Z) : ∀ b ∈ [a], b ∈ Z ++ α := fun b hb => List.mem_append_left _ (one_z h b hb)
theorem store_ok {x : Str} {v : V} {w : Value} {A : Around} {env : Env} {s : Shared} {α : List Addr} {H : AH} {σ : En} {Q : Unit → Shared → Prop} {E : Value → Shared → Prop}
    (O : B.Ok) (EI : EnvI B sc env) (W : EnvW B.g.objs.size env) (I : Inv B Z α H s) (F : FrI Z B.g.objs.size env α σ s.heap) (hk : sc.names.lookup x = some .local ∨ (sc.names.lookup x = some .cell ∧ env.func.isSome = true ∧ ∃ c, env.cells.lookup x = some c))
    (r : VR Z α s.heap v w) (hQ : ∀ s', Stp B Z (Ow env) α s α H s' → FrI Z B.g.objs.size env α ((x, v) :: σ) s'.heap → VR Z α s'.heap v w → s'.gens = s.gens → Q () s') : wpAny (model B.prog B.w) A (storeName env x w) Q E s := by
  have hfn : env.scope.kind = .function := EI.esc ▸ EI.efn
  have kk : ∀ x, env.kindOf x = sc.names.lookup x := fun x => by unfold Env.kindOf; rw [EI.esc]
  have hp : (env.scope.kind == .class || (env.scope.kind == .module && env.locals != env.globals)) = false := by rw [hfn]; rfl
  obtain ⟨m, hn, hl⟩ := F.loc
  rcases hk with hk | ⟨hk, hfe, c, hc⟩
  · refine wpAny_storeName_local ((kk x).trans hk) hn (fun h' hn' hs => ?_) hp
    have k1 : Kp [env.locals] s.heap h' := SameBut.kp hs (.head _)
    have hr : HR Z B.g.objs.size α H h' := I.hr.keep k1 (one_z F.zL)
    have th : There s.heap h' := by obtain ⟨o, _, _, e, _⟩ := hn'; exact SameBut.there hs e
    have mono : ∀ {y u}, VR Z α s.heap y u → VR Z α h' y u := fun r => VR.mono0 k1 (one_za F.zL) r
    refine hQ _ ⟨⟨[], by simp, .nil⟩, I.write O F.up hs (fun o e vs d => ?_) hr th, k1.mono fun a ha => List.mem_append_left _ (List.mem_singleton.mp ha ▸ .head _), th⟩ ⟨⟨_, hn', fun y u hu hy => ?_⟩, fun y u hu hy => ?_, F.zL, fun y c e => ?_, F.up⟩ (mono r) rfl
    · obtain ⟨o', es, ep, e', d', _⟩ := hn
      rw [e] at e'; cases e'; rw [d] at d'; cases d'
    · rw [List.lookup_cons] at hu
      by_cases q : y = x
      · rw [q, beq_self_eq_true] at hu; cases hu
        exact ⟨w, by rw [if_pos q], mono r⟩
      · rw [beq_false_of_ne q] at hu
        obtain ⟨u', h1, h2⟩ := hl y u hu hy
        exact ⟨u', by rw [if_neg q]; exact h1, mono h2⟩
    · rw [List.lookup_cons] at hu
      have q : y ≠ x := fun q => by
        rw [q, kk, hk] at hy
        rcases hy with hy | hy <;> cases hy
      rw [beq_false_of_ne q] at hu
      obtain ⟨c, u', h1, h2, h3⟩ := F.cel y u hu hy
      exact ⟨c, u', h1, isCell_solid h2 fun o e _ => (hs.2 c (W.ne y c h1)).trans e, mono h3⟩
    · obtain ⟨h1, v0, h2⟩ := F.zC y c e
      exact ⟨h1, v0, isCell_solid h2 fun o e' _ => (hs.2 c (W.ne y c e)).trans e'⟩
  · obtain ⟨hcα, v0, hv0⟩ := F.zC x c hc
    refine wpAny_storeName_cell hfn ((kk x).trans hk) hc hv0 (fun h' hv' hs => ?_)
    have k1 : Kp [c] s.heap h' := SameBut.kp hs (.head _)
    have hr : HR Z B.g.objs.size α H h' := I.hr.keep k1 (one_z hcα)
    have th : There s.heap h' := by obtain ⟨o, e, _⟩ := hv'; exact SameBut.there hs e
    have mono : ∀ {y u}, VR Z α s.heap y u → VR Z α h' y u := fun r => VR.mono0 k1 (one_za hcα) r
    have hcL := W.ne x c hc
    refine hQ _ ⟨⟨[], by simp, .nil⟩, I.write (tk := s.toks) O (W.up x c hc) hs (fun o e vs d => ?_) hr th, k1.mono fun a ha => List.mem_append_left _ (List.mem_singleton.mp ha ▸ List.mem_cons_of_mem _ (by rw [if_pos hfe]; exact List.mem_map.mpr ⟨(x, c), mem_of_lookup hc, rfl⟩)), th⟩
      ⟨⟨m, ns_solid hn fun o e _ => (hs.2 _ (Ne.symm hcL)).trans e, fun y u hu hy => ?_⟩, fun y u hu hy => ?_, F.zL, fun y c' e => ?_, F.up⟩ (mono r) rfl
    · obtain ⟨o', e', d'⟩ := hv0
      rw [e] at e'; cases e'; rw [d] at d'; cases d'
    · rw [List.lookup_cons] at hu
      have q : y ≠ x := fun q => by rw [q, kk, hk] at hy; cases hy
      rw [beq_false_of_ne q] at hu
      obtain ⟨u', h1, h2⟩ := hl y u hu hy
      exact ⟨u', h1, mono h2⟩
    · rw [List.lookup_cons] at hu
      by_cases q : y = x
      · rw [q, beq_self_eq_true] at hu; cases hu
        exact ⟨c, w, by rw [q]; exact hc, hv', mono r⟩
      · rw [beq_false_of_ne q] at hu
        obtain ⟨c', u', h1, h2, h3⟩ := F.cel y u hu hy
        exact ⟨c', u', h1, isCell_solid h2 fun o e _ => (hs.2 c' fun q' => q (W.inj y x c (q' ▸ h1) hc)).trans e, mono h3⟩
    · obtain ⟨h1, v1, h2⟩ := F.zC y c' e
      by_cases q : y = x
      · subst q
        rw [hc] at e; cases e
        exact ⟨h1, _, hv'⟩
      · exact ⟨h1, v1, isCell_solid h2 fun o e' _ => (hs.2 c' fun q' => q (W.inj y x c (q' ▸ e) hc)).trans e'⟩


end
structure Cs (K : Kx) (Z : List Addr) (A : Around) (env : Env) (s : Shared) (α : List Addr) (H : AH) (σ : En) : Prop extends Cx K Z A env s α H σ where
  W : EnvF K.B.g.objs.size env
noncomputable def Rn (K : Kx) (run : Env → Sem Flow) (σ : En) (H : AH) (fl : Fl) (σ' : En) (H' : AH) : Prop := ∀ ⦃Z A env s α⦄ (Q : Flow → Shared → Prop) (E : Value → Shared → Prop), Cs K Z A env s α H σ →
  (∀ w s' α', Stp K.B Z (Ow env) α s α' H' s' → FrI Z K.B.g.objs.size env α' σ' s'.heap → FlR Z α' s'.heap fl w → Q w s') → wpAny (model K.B.prog K.B.w) A (run env) Q E s
noncomputable abbrev St (K : Kx) (st : Stmt) (σ : En) (H : AH) (fl : Fl) (σ' : En) (H' : AH) : Prop := Rn K (fun env => exec st env) σ H fl σ' H'
noncomputable abbrev Bl (K : Kx) (b : List Stmt) (σ : En) (H : AH) (fl : Fl) (σ' : En) (H' : AH) : Prop := Rn K (fun env => execs b env) σ H fl σ' H'
noncomputable def canStore (sc : Scope) (x : Str) : Bool := sc.names.lookup x == some .local || sc.names.lookup x == some .cell
section
variable {K : Kx} {σ σ₁ σ₂ σ' τ : En} {H H₁ H₂ H₃ H' : AH} {v a b : V} {c : Bool} {e t o : Expr} {st : Stmt} {bl bo : List Stmt} {pos xp : Pos} {x : Str} {k : Nat} {fl : Fl} {run : Env → Sem Flow}
theorem Cs.step {Z A env s α s' α'} (C : Cs K Z A env s α H σ) (k : Stp K.B Z [] α s α' H' s') : Cs K Z A env s' α' H' σ := ⟨C.toCx.step k, C.W⟩
theorem Cs.go {Z A env s α s' α' W} (C : Cs K Z A env s α H σ) (k : Stp K.B Z W α s α' H' s') (F : FrI Z K.B.g.objs.size env α' σ' s'.heap) : Cs K Z A env s' α' H' σ' := ⟨⟨C.R, C.O, C.EI, k.inv, F⟩, C.W⟩
theorem Cs.put {Z A env s α w} {Q : Unit → Shared → Prop} {E : Value → Shared → Prop} (C : Cs K Z A env s α H σ) (hx : canStore K.sc x = true) (r : VR Z α s.heap v w)
    (hQ : ∀ s', Stp K.B Z (Ow env) α s α H s' → FrI Z K.B.g.objs.size env α ((x, v) :: σ) s'.heap → Q () s') : wpAny (model K.B.prog K.B.w) A (storeName env x w) Q E s := by
  unfold canStore at hx
  simp only [Bool.or_eq_true, beq_iff_eq] at hx
  exact store_ok C.O C.EI C.W.toEnvW C.I C.F (hx.imp id fun h => ⟨h, C.W.fe, C.W.own x ((C.kind x).trans h)⟩) r fun s' k F' _ _ => hQ s' k F'
theorem rn_sub (h : Rn K run τ H fl σ' H') (k : Sub τ σ) : Rn K run σ H fl σ' H' := fun _ _ _ _ _ Q E C hQ => h Q E ⟨C.toCx.sub k, C.W⟩ hQ
theorem rn_wk (h : Rn K run σ H fl σ' H') (k : Sub τ σ') : Rn K run σ H fl τ H' := fun _ _ _ _ _ Q E C hQ => h Q E C fun w s' α' k₁ F₁ r₁ => hQ w s' α' k₁ (F₁.sub k) r₁
theorem bl_nil : Bl K [] σ H .next σ H := fun _ _ _ _ _ Q E C hQ => wpAny_execs_nil (hQ _ _ _ (.refl C.I) C.F .next)
theorem bl_cons (hs : St K st σ H .next σ₁ H₁) (hb : Bl K bl σ₁ H₁ fl σ' H') : Bl K (st :: bl) σ H fl σ' H' := fun _ _ _ _ _ Q E C hQ =>
  wpAny_execs_cons (hs _ E C fun w s₁ α₁ k₁ F₁ r₁ => by rw [r₁.nextI]; exact hb _ E (C.go k₁ F₁) fun w s₂ α₂ k₂ F₂ r₂ => hQ _ _ _ (k₁.trans k₂) F₂ r₂)
theorem bl_ret (hs : St K st σ H (.ret v) σ₁ H₁) : Bl K (st :: bl) σ H (.ret v) σ₁ H₁ := fun _ _ _ _ _ Q E C hQ => wpAny_execs_cons (hs _ E C fun w s₁ α₁ k₁ F₁ r₁ => by obtain ⟨x, rfl, r⟩ := r₁.retI; exact hQ _ _ _ k₁ F₁ (.ret r))
theorem bl_brk (hs : St K st σ H .brk σ₁ H₁) : Bl K (st :: bl) σ H .brk σ₁ H₁ := fun _ _ _ _ _ Q E C hQ => wpAny_execs_cons (hs _ E C fun w s₁ α₁ k₁ F₁ r₁ => by rw [r₁.brkI]; exact hQ _ _ _ k₁ F₁ .brk)
theorem bl_cont (hs : St K st σ H .cont σ₁ H₁) : Bl K (st :: bl) σ H .cont σ₁ H₁ := fun _ _ _ _ _ Q E C hQ => wpAny_execs_cons (hs _ E C fun w s₁ α₁ k₁ F₁ r₁ => by rw [r₁.contI]; exact hQ _ _ _ k₁ F₁ .cont)
theorem st_brk : St K (.Break pos) σ H .brk σ H := fun _ _ _ _ _ Q E C hQ => wpAny_Break (hQ _ _ _ (.refl C.I) C.F .brk)
theorem st_cont : St K (.Continue pos) σ H .cont σ H := fun _ _ _ _ _ Q E C hQ => wpAny_Continue (hQ _ _ _ (.refl C.I) C.F .cont)
theorem st_assign (he : Ev K e σ H v H₁) (hx : canStore K.sc x = true) (hsw : ∀ env, swapsWith e (some (.Name x xp)) pos.line env = pure false := by intro _; rfl) : St K (.Assign [.Name x xp] e pos) σ H .next ((x, v) :: σ) H₁ := fun _ _ _ _ _ Q E C hQ =>
  wpAny_Assign_Name (he _ E C.toCx fun w s₁ α₁ k₁ r₁ => (C.step k₁).put hx r₁ fun s₂ k₂ F₂ => hQ _ _ _ (k₁.wide.trans k₂) F₂ .next) (hsw _)
theorem st_if_t (ht : Tv K t σ H true H₁) (hb : Bl K bl σ H₁ fl σ' H') : St K (.If t bl bo pos) σ H fl σ' H' := fun _ _ _ _ _ Q E C hQ =>
  wpAny_If (ht _ E C.toCx fun s₁ α₁ k₁ => hb _ E (C.step k₁) fun w s₂ α₂ k₂ F₂ r₂ => hQ _ _ _ (k₁.wide.trans k₂) F₂ r₂)
theorem st_if_f (ht : Tv K t σ H false H₁) (hb : Bl K bo σ H₁ fl σ' H') : St K (.If t bl bo pos) σ H fl σ' H' := fun _ _ _ _ _ Q E C hQ =>
  wpAny_If (ht _ E C.toCx fun s₁ α₁ k₁ => hb _ E (C.step k₁) fun w s₂ α₂ k₂ F₂ r₂ => hQ _ _ _ (k₁.wide.trans k₂) F₂ r₂)
theorem st_ret (he : Ev K e σ H v H₁) : St K (.Return (some e) pos) σ H (.ret v) σ H₁ := fun _ _ _ _ _ Q E C hQ => wpAny_Return_some (he _ E C.toCx fun w s₁ α₁ k₁ r₁ => hQ _ _ _ k₁.wide (C.step k₁).F (.ret r₁))
theorem st_assert {msg : Option Expr} (ht : Tv K t σ H true H₁) : St K (.Assert t msg pos) σ H .next σ H₁ := fun _ _ _ _ _ Q E C hQ => wpAny_Assert_holds (ht _ E C.toCx fun s₁ α₁ k₁ => ⟨rfl, hQ _ _ _ k₁.wide (C.step k₁).F .next⟩)
theorem st_expr (he : Ev K e σ H v H₁) (hs : ∀ env, swapsWith e none pos.line env = pure false := by intro _; rfl) : St K (.Expr e pos) σ H .next σ H₁ := fun _ _ _ _ _ Q E C hQ =>
  wpAny_Expr_any (he _ E C.toCx fun w s₁ α₁ k₁ r₁ => hQ _ _ _ k₁.wide (C.step k₁).F .next) (by unfold interactive; rw [C.EI.esc, C.EI.efn]; rfl) (hs _)
noncomputable def IopR (op : Operator) (H : AH) (a b v : V) (H' : AH) : Prop := ∀ ⦃B : Bs⦄ ⦃A : Around⦄ ⦃s : Shared⦄ ⦃Z α : List Addr⦄ ⦃x y : Value⦄ (Q : Value → Shared → Prop) (E : Value → Shared → Prop), B.Ok → Inv B Z α H s → B.g.objs.size ≤ s.heap.objs.size →
  VR Z α s.heap a x → VR Z α s.heap b y → (∀ w s' α', Stp B Z [] α s α' H' s' → VR Z α' s'.heap v w → Q w s') → wpAny (model B.prog B.w) A (inplaceOp op x y) Q E s
theorem st_aug {op : Operator} (ha : σ.lookup x = some a) (he : Ev K e σ H b H₁) (hi : IopR op H₁ a b v H₂) (hx : canStore K.sc x = true) (hn : nameOk K.sc x = true) : St K (.AugAssign (.Name x xp) op e pos) σ H .next ((x, v) :: σ) H₂ := fun _ _ _ _ _ Q E C hQ =>
  wpAny_AugAssign_Name (load_name C.toCx hn ha fun w r => he _ E C.toCx fun u s₁ α₁ k₁ r₁ => hi _ E C.O k₁.inv (C.step k₁).size (r.stp0 k₁) r₁ fun z s₂ α₂ k₂ r₂ =>
    ((C.step k₁).step k₂).put hx r₂ fun s₃ k₃ F₃ => hQ _ _ _ ((k₁.trans k₂).wide.trans k₃) F₃ .next)
inductive WhR (K : Kx) (t : Expr) (bl bo : List Stmt) : Nat → En → AH → Fl → En → AH → Prop
  | done {σ : En} {H H₁ : AH} {fl : Fl} {σ' : En} {H' : AH} : Tv K t σ H false H₁ → Bl K bo σ H₁ fl σ' H' → WhR K t bl bo 0 σ H fl σ' H'
  | next {n : Nat} {σ σ₁ : En} {H H₁ H₂ : AH} {fl : Fl} {σ' : En} {H' : AH} : Tv K t σ H true H₁ → Bl K bl σ H₁ .next σ₁ H₂ → WhR K t bl bo n σ₁ H₂ fl σ' H' → WhR K t bl bo (n + 1) σ H fl σ' H'
  | brk {σ : En} {H H₁ : AH} {σ' : En} {H' : AH} : Tv K t σ H true H₁ → Bl K bl σ H₁ .brk σ' H' → WhR K t bl bo 0 σ H .next σ' H'
  | ret {σ : En} {H H₁ : AH} {v : V} {σ' : En} {H' : AH} : Tv K t σ H true H₁ → Bl K bl σ H₁ (.ret v) σ' H' → WhR K t bl bo 0 σ H (.ret v) σ' H'
theorem st_while {n : Nat} (h : WhR K t bl bo n σ H fl σ' H') : St K (.While t bl bo pos) σ H fl σ' H' := by
  intro Z A env s α Q E C hQ
  refine wpAny_While (codeAny_whileLoop (fun n s' => ∃ σ₁ H₁ α₁, Stp K.B Z (Ow env) α s α₁ H₁ s' ∧ Cs K Z A env s' α₁ H₁ σ₁ ∧ WhR K t bl bo n σ₁ H₁ fl σ' H') ?_ n ⟨σ, H, α, .refl C.I, C, h⟩)
  rintro n s' ⟨σ₁, H₁, α₁, k₁, C₁, h⟩
  cases h with
  | done h1 h2 => exact h1 _ _ C₁.toCx fun s₂ α₂ k₂ => h2 _ _ (C₁.step k₂) fun w s₃ α₃ k₃ F₃ r₃ => hQ w s₃ α₃ (k₁.trans (k₂.wide.trans k₃)) F₃ r₃
  | next h1 h2 h3 => exact h1 _ _ C₁.toCx fun s₂ α₂ k₂ => h2 _ _ (C₁.step k₂) fun w s₃ α₃ k₃ F₃ r₃ => (by rw [r₃.nextI]; exact ⟨_, Nat.lt_succ_self _, _, _, _, k₁.trans (k₂.wide.trans k₃), (C₁.step k₂).go k₃ F₃, h3⟩)
  | brk h1 h2 => exact h1 _ _ C₁.toCx fun s₂ α₂ k₂ => h2 _ _ (C₁.step k₂) fun w s₃ α₃ k₃ F₃ r₃ => (by rw [r₃.brkI]; exact hQ _ s₃ α₃ (k₁.trans (k₂.wide.trans k₃)) F₃ .next)
  | ret h1 h2 => exact h1 _ _ C₁.toCx fun s₂ α₂ k₂ => h2 _ _ (C₁.step k₂) fun w s₃ α₃ k₃ F₃ r₃ => by obtain ⟨x, rfl, r⟩ := r₃.retI; exact hQ _ s₃ α₃ (k₁.trans (k₂.wide.trans k₃)) F₃ (.ret r)
end
end Tg
namespace Tg
set_option maxHeartbeats 1000000
theorem bindL_look {kindOf : Str → Option NameKind} : ∀ {binds : List (Str × Value)} {m : Str → Option Value} {x : Str}, (binds.map (·.1)).Nodup → kindOf x = some .local → bindL kindOf binds m x = (binds.lookup x).or (m x)
  | [], m, x, _, _ => rfl
  | (n, v) :: r, m, x, hn, hk => by
    simp only [List.map_cons, List.nodup_cons] at hn
    unfold bindL
    rw [bindL_look hn.2 hk, List.lookup_cons]
    by_cases hx : x = n
    · subst hx
      have : r.lookup x = none := by
        cases e : r.lookup x with
        | none => rfl
        | some v' => exact absurd (List.mem_map.mpr ⟨_, mem_of_lookup e, rfl⟩) hn.1
      rw [this, if_pos hk]; simp
    · have hb : (x == n) = false := by simpa using hx
      rw [hb]
      cases e : r.lookup x with
      | some v' => rfl
      | none => simp only [Option.none_or]; split <;> simp [hx]
theorem bindC_look {kindOf : Str → Option NameKind} : ∀ {binds : List (Str × Value)} {m : Str → Option Value} {x : Str}, (binds.map (·.1)).Nodup → kindOf x ≠ some .local → bindC kindOf binds m x = (binds.lookup x).or (m x)
  | [], m, x, _, _ => rfl
  | (n, v) :: r, m, x, hn, hk => by
    simp only [List.map_cons, List.nodup_cons] at hn
    unfold bindC
    rw [bindC_look hn.2 hk, List.lookup_cons]
    by_cases hx : x = n
    · subst hx
      have : r.lookup x = none := by
        cases e : r.lookup x with
        | none => rfl
        | some v' => exact absurd (List.mem_map.mpr ⟨_, mem_of_lookup e, rfl⟩) hn.1
      rw [this, if_neg hk]; simp
    · have hb : (x == n) = false := by simpa using hx
      rw [hb]
      cases e : r.lookup x with
      | some v' => rfl
      | none => simp only [Option.none_or]; split <;> simp [hx]
theorem zip_look {α : List Addr} {h : Heap} : ∀ {nm : List Str} {vs : List V} {ws : List Value} {x : Str} {v : V}, VRs Z α h vs ws → (nm.zip vs).lookup x = some v → ∃ w, (nm.zip ws).lookup x = some w ∧ VR Z α h v w
  | [], vs, ws, x, v, r, e => by simp at e
  | n :: nm, [], ws, x, v, r, e => by simp at e
  | n :: nm, u :: vs, ws, x, v, r, e => by
    cases r with
    | cons r0 r =>
      simp only [List.zip_cons_cons, List.lookup_cons] at e ⊢
      cases hx : (x == n) with
      | true => rw [hx] at e; cases e; exact ⟨_, rfl, r0⟩
      | false => rw [hx] at e; exact zip_look r e

theorem pair_inj : ∀ {cs : List (Str × Addr)} {x y : Str} {c : Addr}, cs.Pairwise (fun a b => a.2 ≠ b.2) → (x, c) ∈ cs → (y, c) ∈ cs → x = y
  | [], _, _, _, _, h, _ => nomatch h
  | p :: cs, x, y, c, hp, h1, h2 => by
    rw [List.pairwise_cons] at hp
    rcases List.mem_cons.mp h1 with h1 | h1
    · rcases List.mem_cons.mp h2 with h2 | h2
      · rw [← h1] at h2; exact (Prod.mk.inj h2).1.symm
      · exact absurd rfl (h1 ▸ hp.1 _ h2)
    · rcases List.mem_cons.mp h2 with h2 | h2
      · exact absurd rfl (h2 ▸ hp.1 _ h1)
      · exact pair_inj hp.2 h1 h2

section
variable {B : Bs} {zs Z α : List Addr} {H : AH} {s s' : Shared}
theorem HR.banned {sz h} (r : HR Z sz α H h) (f : Fresh zs h) : HR (zs ++ Z) sz α H h :=
  ⟨r.len, r.nodup, fun a ha hm => (List.mem_append.mp hm).elim (fun hm => by obtain ⟨o, e⟩ := r.there ha; rw [f a hm] at e; cases e) (r.dis a ha), fun i o a e e' => (r.obj i o a e e').map (fun _ e _ => e) (fun q => VRs.banned f q) fun _ _ e => e⟩
theorem HR.free {sz h} (r : HR (zs ++ Z) sz α H h) : HR Z sz α H h :=
  ⟨r.len, r.nodup, fun a ha hm => r.dis a ha (List.mem_append_right _ hm), fun i o a e e' => (r.obj i o a e e').map (fun _ e _ => e) (fun q => VRs.free q) fun _ _ e => e⟩
theorem Inv.banned (I : Inv B Z α H s) (f : Fresh zs s.heap) (k : Keeps s s') (th : ∀ a ∈ zs, ∃ o, s'.heap.get? a = some o) : Inv B (zs ++ Z) α H s' := by
  have I' := I.keeps k
  exact ⟨I'.old, I'.keep, I'.gens, I'.os, I'.codes, (I.hr.banned f).keep (W := []) (keeps_kp k _) (fun _ h => nomatch h), fun a ha => (List.mem_append.mp ha).elim (th a) (I'.ban a)⟩
theorem Inv.free (I : Inv B (zs ++ Z) α H s) : Inv B Z α H s := ⟨I.old, I.keep, I.gens, I.os, I.codes, I.hr.free, fun a ha => I.ban a (List.mem_append_right _ ha)⟩
theorem Stp.free {W α' H'} (x : Stp B (zs ++ Z) W α s α' H' s') : Stp B Z W α s α' H' s' := ⟨x.ext, x.inv.free, x.kp, x.th⟩
theorem Stp.own {W W' α' H'} {s₁ : Shared} (k : Keeps s s₁) (x : Stp B Z (W ++ W') α s₁ α' H' s') (hw : ∀ a ∈ W, s.heap.get? a = none) : Stp B Z W' α s α' H' s' := by
  obtain ⟨t, rfl, ft⟩ := x.ext
  obtain ⟨h', tk, rfl, kk⟩ := k
  refine ⟨⟨t, rfl, fun a ha => ?_⟩, x.inv, fun b o e hb so => x.kp b o (kk b o e) (fun hm => ?_) so, (There.of_keeps kk).trans x.th⟩
  · cases e : s.heap.get? a with
    | none => rfl
    | some o => have := kk a o e; rw [ft a ha] at this; cases this
  · rcases List.mem_append.mp hm with hm | hm
    · rcases List.mem_append.mp hm with hm | hm
      · rw [hw b hm] at e; cases e
      · exact hb (List.mem_append_left _ hm)
    · exact hb (List.mem_append_right _ hm)
end
section
variable {B : Bs} {n : Nat}
theorem def_enter {fa : Addr} {name qual : Str} {params : Arguments} {body : List Stmt} {scope : Scope} {dV kV doc pm cdv ct oc : Value} {an od : Option Addr} {osl : Array (Option Value)} {k : Nat} {nm : List Str} {dfl : List V} {dfw : List Value}
     (ho : B.K.lookup fa = some ⟨oc, od, .func (fnX name qual params body scope [] dV kV doc pm an cdv ct), osl⟩) (hcd : codeIn B.K cdv qual = true)
    (hbind : ∀ (s : Shared) (ws : List Value), B.K.In s.heap → ws.length = k → BindsTo s (fnX name qual params body scope [] dV kV doc pm an cdv ct) ⟨ws, []⟩ (nm.zip (ws ++ dfw)))
    (hdf : ∀ Z α h, VRs Z α h dfl dfw) (hlen : nm.length = k + dfl.length) (hnm : nm.Nodup) (hkind : (nm.all fun x => canStore scope x) = true)
    (hnd : ((cellsFrom 0 scope.names []).map (·.1)).Nodup) (hcds : CdOk B cdv) (hk : scope.kind = .function := by rfl) (hco : scope.isCoroutine = false := by rfl) (hgen : scope.isGenerator = false := by rfl) 
    {Z : List Addr} {A : Around} {s : Shared} {α : List Addr} {H : AH} {vs : List V} {ws : List Value} {RR : Result → Shared → Prop}
    (R : Rm (n + 1) A) (O : B.Ok) (I : Inv B Z α H s) (hsz : B.g.objs.size ≤ s.heap.objs.size) (hl : ws.length = k) (r : VRs Z α s.heap vs ws)
    (h : ∀ env s₂, EnvI B scope env → EnvF B.g.objs.size env → Inv B (Ow env ++ Z) α H s₂ → FrI (Ow env ++ Z) B.g.objs.size env α (nm.zip (vs ++ dfl)) s₂.heap → Keeps s s₂ → env.frame = some env.locals → Fresh (Ow env) s.heap → Rm n (A.deeper env) →
      wpAny (model B.prog B.w) (A.deeper env) (execs body env) (fun f s' => RR (.ok (.ret (match f with | .ret v => v | _ => .none))) s')
        (fun e s' => wpAny (model B.prog B.w) (A.deeper env) (leaving env e) (fun _ s'' => RR (.error e) s'') (fun e' s'' => RR (.error e') s'') s') s₂) :
    codeAny (model B.prog B.w) A (.call (.ref fa) ⟨ws, []⟩) RR s := by
  have KI := I.K O
  have r' : VRs Z α s.heap (vs ++ dfl) (ws ++ dfw) := r.append (hdf _ _ _)
  have hnames : ((nm.zip (ws ++ dfw)).map (·.1)) = nm := by
    have hd := (hdf Z α s.heap).length
    rw [List.map_fst_zip]
    simp only [List.length_append]; omega
  refine codeAny_call_function (by have := R.d; omega) (KI _ _ ho) rfl hco hgen rfl (codeRec_of KI hcd) (hbind s ws KI hl _ _ _ _ ?_)
  refine wpAny_newFunctionEnv_cells hk (fun x hx => ?_) fun env he s' X => ?_
  · have hm : x.1 ∈ nm := hnames ▸ List.mem_map.mpr ⟨x, hx, rfl⟩
    have := List.all_eq_true.mp hkind _ hm
    unfold canStore at this
    simp only [Bool.or_eq_true, beq_iff_eq] at this
    exact this.imp id fun q => ⟨q, cellsFrom_some _ _ _ (.inl q)⟩
  · subst he
    obtain ⟨h₁, tk, rfl⟩ := X.toInCall.same
    have keep := X.toInCall.keep
    have hns := X.toInCall.ns
    have fr := X.toInCall.fresh
    refine ⟨(I.lim O).keeps keep, codeAny_func ?_⟩
    dsimp only [newEnv] at X hns fr ⊢
    generalize hcl : cellsFrom (s.heap.objs.size + 1) scope.names [] = cl at X hns fr ⊢
    have kk : Keeps s { s with heap := h₁, toks := tk } := ⟨h₁, tk, rfl, keep⟩
    have hndc : (cl.map (·.1)).Nodup := by
      rw [← hcl]
      exact cellsFrom_names scope.names 0 (s.heap.objs.size + 1) [] [] rfl ▸ hnd
    have r₁ : VRs Z α h₁ (vs ++ dfl) (ws ++ dfw) := r'.keeps kk
    have hfuel : ∀ x, scope.names.lookup x = some .cell → ∃ c, cl.lookup x = some c := fun x hx => by
      have q := cellsFrom_some (x := x) scope.names (s.heap.objs.size + 1) [] (.inl hx)
      rw [hcl] at q
      exact Option.isSome_iff_exists.mp q
    have Xc := X.cell
    have Xa := X.above
    have Xp := X.apart
    have hfin : Rm n (A.deeper { scope := scope, locals := s.heap.objs.size, globals := mainGlobals, cells := cl, qual := qual ++ Str.ofString ".<locals>.", func := some fa, code := cdv, frame := some s.heap.objs.size, builtins := builtinsNs }) := ⟨R.h, by have := R.d; show A.depth + 1 + 8 * n + 8 < _; omega, by have := R.u; show A.units + 3 + 100 * n + 100 < _; omega⟩
    have e1 : ({ scope := scope, locals := s.heap.objs.size, globals := mainGlobals, cells := cl, qual := qual ++ Str.ofString ".<locals>.", func := some fa, code := cdv, frame := some s.heap.objs.size, builtins := builtinsNs } : Env).scope = scope := rfl
    have e2 : ({ scope := scope, locals := s.heap.objs.size, globals := mainGlobals, cells := cl, qual := qual ++ Str.ofString ".<locals>.", func := some fa, code := cdv, frame := some s.heap.objs.size, builtins := builtinsNs } : Env).locals = s.heap.objs.size := rfl
    have e3 : ({ scope := scope, locals := s.heap.objs.size, globals := mainGlobals, cells := cl, qual := qual ++ Str.ofString ".<locals>.", func := some fa, code := cdv, frame := some s.heap.objs.size, builtins := builtinsNs } : Env).cells = cl := rfl
    have e4 : ({ scope := scope, locals := s.heap.objs.size, globals := mainGlobals, cells := cl, qual := qual ++ Str.ofString ".<locals>.", func := some fa, code := cdv, frame := some s.heap.objs.size, builtins := builtinsNs } : Env).globals = mainGlobals := rfl
    have e5 : ({ scope := scope, locals := s.heap.objs.size, globals := mainGlobals, cells := cl, qual := qual ++ Str.ofString ".<locals>.", func := some fa, code := cdv, frame := some s.heap.objs.size, builtins := builtinsNs } : Env).builtins = builtinsNs := rfl
    have e6 : ({ scope := scope, locals := s.heap.objs.size, globals := mainGlobals, cells := cl, qual := qual ++ Str.ofString ".<locals>.", func := some fa, code := cdv, frame := some s.heap.objs.size, builtins := builtinsNs } : Env).func.isSome = true := rfl
    have e7 : ({ scope := scope, locals := s.heap.objs.size, globals := mainGlobals, cells := cl, qual := qual ++ Str.ofString ".<locals>.", func := some fa, code := cdv, frame := some s.heap.objs.size, builtins := builtinsNs } : Env).frame = some s.heap.objs.size := rfl
    have e8 : ({ scope := scope, locals := s.heap.objs.size, globals := mainGlobals, cells := cl, qual := qual ++ Str.ofString ".<locals>.", func := some fa, code := cdv, frame := some s.heap.objs.size, builtins := builtinsNs } : Env).code = cdv := rfl
    generalize ({ scope := scope, locals := s.heap.objs.size, globals := mainGlobals, cells := cl, qual := qual ++ Str.ofString ".<locals>.", func := some fa, code := cdv, frame := some s.heap.objs.size, builtins := builtinsNs } : Env) = env at hfin e1 e2 e3 e4 e5 e6 e7 e8 Xc hns ⊢
    clear X fr
    have kinds : ∀ x, env.kindOf x = scope.names.lookup x := fun x => by unfold Env.kindOf; rw [e1]
    have W : EnvW B.g.objs.size env := by
      refine ⟨fun x y c hx hy => ?_, fun x c hx => ?_, fun x c hx => ?_, fun c hc => ?_, fun x hx => ?_⟩ <;> rw [e3] at *
      · exact pair_inj Xp (mem_of_lookup hx) (mem_of_lookup hy)
      · rw [e2]; exact Nat.ne_of_gt (Xa x c (mem_of_lookup hx))
      · exact Nat.le_trans hsz (Nat.le_of_lt (Xa x c (mem_of_lookup hx)))
      · obtain ⟨p, hp, rfl⟩ := List.mem_map.mp hc
        exact ⟨p.1, lookup_of_mem_nodup hndc hp⟩
      · exact hfuel x ((kinds x).symm.trans hx)
    have EI : EnvI B scope env := ⟨e1, hk, e4, e5, fun _ => e8 ▸ hcds, W⟩
    have fz : Fresh (Ow env) s.heap := fun a ha => none_new' (by
      rcases ow_cases ha with rfl | ⟨_, ha⟩
      · exact Nat.le_of_eq e2.symm
      · rw [e3] at ha
        obtain ⟨p, hp, rfl⟩ := List.mem_map.mp ha
        exact Nat.le_of_lt (Xa p.1 p.2 hp))
    have cz : ∀ x c, cl.lookup x = some c → c ∈ Ow env := fun x c hx => by
      unfold Ow; rw [e6, if_pos rfl, e3]
      exact List.mem_cons_of_mem _ (List.mem_map.mpr ⟨_, mem_of_lookup hx, rfl⟩)
    have r₂ := (r'.banned fz).keeps kk
    have I₁ : Inv B (Ow env ++ Z) α H { s with heap := h₁, toks := tk } := I.banned fz kk fun a ha => by
      rcases ow_cases ha with rfl | ⟨_, ha⟩
      · obtain ⟨o, _, _, e, _⟩ := hns; exact ⟨o, e2 ▸ e⟩
      · obtain ⟨x, hx⟩ := W.mem a ha
        rw [e3] at hx
        obtain ⟨o, e, _⟩ := Xc x a hx; exact ⟨o, e⟩
    have F : FrI (Ow env ++ Z) B.g.objs.size env α (nm.zip (vs ++ dfl)) h₁ := by
      refine ⟨⟨_, e2 ▸ hns, fun x v hx hk => ?_⟩, fun x v hx hk => ?_, List.mem_append_left _ (.head _), fun x c hc => ?_, e2 ▸ hsz⟩
      · obtain ⟨w, h1, h2⟩ := zip_look r₂ hx
        refine ⟨w, ?_, h2⟩
        rw [bindL_look (by rw [hnames]; exact hnm) hk, h1]; rfl
      · obtain ⟨w, h1, h2⟩ := zip_look r₂ hx
        have hm : x ∈ nm := hnames ▸ List.mem_map.mpr ⟨_, mem_of_lookup h1, rfl⟩
        have hs := List.all_eq_true.mp hkind _ hm
        unfold canStore at hs
        simp only [Bool.or_eq_true, beq_iff_eq] at hs
        have hc : scope.names.lookup x = some .cell := by
          rw [kinds] at hk
          rcases hs with hs | hs
          · rcases hk with hk | hk <;> (rw [hs] at hk; cases hk)
          · exact hs
        obtain ⟨c, hc'⟩ := hfuel x hc
        refine ⟨c, w, e3 ▸ hc', ?_, h2⟩
        have := Xc x c hc'
        rw [bindC_look (by rw [hnames]; exact hnm) (by intro e; rw [kinds, hc] at e; cases e), h1] at this
        exact this
      · rw [e3] at hc
        exact ⟨List.mem_append_left _ (cz x c hc), _, Xc x c hc⟩
    exact h _ _ EI ⟨W, e6⟩ I₁ F kk (e7.trans (congrArg some e2.symm)) fz hfin

noncomputable def Fc (B : Bs) (n : Nat) (fv : Value) (vs : List V) (H : AH) (v : V) (H' : AH) : Prop := ∀ ⦃Z A s α ws⦄ (RR : Result → Shared → Prop),
  Rm n A → B.Ok → Inv B Z α H s → B.g.objs.size ≤ s.heap.objs.size → VRs Z α s.heap vs ws → (∀ w s' α', Stp B Z [] α s α' H' s' → VR Z α' s'.heap v w → RR (.ok (.ret w)) s') → codeAny (model B.prog B.w) A (.call fv ⟨ws, []⟩) RR s
theorem Fc.fn {fv vs H v H'} (h : Fc B n fv vs H v H') : Fn B n fv vs H v H' := fun _ _ _ _ _ Q E R O I hsz r hQ => wpAny_call (h _ R O I hsz r hQ)
set_option genInjectivity false in
structure DefR (B : Bs) (fa : Addr) (k : Nat) (scope : Scope) (body : List Stmt) (nm : List Str) (dfl : List V) where
  (name qual : Str) (params : Arguments) (dV kV doc pm cdv ct oc : Value) (an od : Option Addr) (osl : Array (Option Value)) (dfw : List Value)
  ho : B.K.lookup fa = some ⟨oc, od, .func (fnX name qual params body scope [] dV kV doc pm an cdv ct), osl⟩
  hcd : codeIn B.K cdv qual = true
  hbind : ∀ (s : Shared) (ws : List Value), B.K.In s.heap → ws.length = k → BindsTo s (fnX name qual params body scope [] dV kV doc pm an cdv ct) ⟨ws, []⟩ (nm.zip (ws ++ dfw))
  hdf : ∀ Z α h, VRs Z α h dfl dfw
  hlen : nm.length = k + dfl.length
  hnm : nm.Nodup
  hkind : (nm.all fun x => canStore scope x) = true
  hnd : ((cellsFrom 0 scope.names []).map (·.1)).Nodup
  hcds : CdOk B cdv
  hk : scope.kind = .function
  hco : scope.isCoroutine = false
  hgen : scope.isGenerator = false
noncomputable def flV : Fl → Option V
  | .ret v => some v
  | .next => some .none
  | _ => none
theorem fc_def {fa : Addr} {k : Nat} {scope : Scope} {body : List Stmt} {nm : List Str} {dfl vs : List V} {H H' : AH} {fl : Fl} {v : V} {σ' : En} (d : DefR B fa k scope body nm dfl) (hk : vs.length = k) (hb : Bl ⟨B, n, scope⟩ body (nm.zip (vs ++ dfl)) H fl σ' H') (hv : flV fl = some v) :
    Fc B (n + 1) (.ref fa) vs H v H' := by
  intro Z A s α ws RR R O I hsz r hQ
  refine def_enter d.ho d.hcd d.hbind d.hdf d.hlen d.hnm d.hkind d.hnd d.hcds d.hk d.hco d.hgen R O I hsz (r.length.trans hk) r fun env s₁ EI W I₁ F kk hfr how R' => ?_
  refine hb _ _ ⟨⟨R', O, EI, I₁, F⟩, W⟩ fun w s₂ α₂ k₂ F₂ r₂ => ?_
  have st : Stp B Z [] α s α₂ H' s₂ := Stp.own (W := Ow env) kk (by rw [List.append_nil]; exact k₂.free) how
  cases fl with
  | next => cases hv; rw [r₂.nextI]; exact hQ _ _ _ st .none
  | ret u => cases hv; obtain ⟨x, rfl, rv⟩ := r₂.retI; exact hQ _ _ _ st rv.free
  | brk => cases hv
  | cont => cases hv
theorem fc_fz {fv : Value} {vs : List V} {H T : AH} {v v' : V} (h : Fc B n fv vs H v (H ++ T)) (f : Fz (H ++ T) H.length v v') : Fc B n fv vs H v' H := fun _ _ _ _ _ RR R O I hsz r hQ => h RR R O I hsz r fun w s' α' k r' => by
  obtain ⟨t, rfl, ft⟩ := k.ext
  exact hQ w s' _ (k.drop I) (f I.hr.len k.inv.hr r')
noncomputable def Fp (B : Bs) (n : Nat) (fv : Value) (vs : List V) (v : V) : Prop := ∀ H, Fc B n fv vs H v H
theorem Fp.fn {fv : Value} {vs : List V} {H : AH} {v : V} (h : Fp B n fv vs v) : Fn B n fv vs H v H := Fc.fn (h H)
theorem Fc.le {m : Nat} {fv vs H v H'} (h : Fc B n fv vs H v H') (hm : n ≤ m) : Fc B m fv vs H v H' := fun _ _ _ _ _ RR R => h RR (R.le hm)
theorem Fp.le {m : Nat} {fv vs v} (h : Fp B n fv vs v) (hm : n ≤ m) : Fp B m fv vs v := fun H => Fc.le (h H) hm
theorem fp_def {fa : Addr} {k : Nat} {scope : Scope} {body : List Stmt} {nm : List Str} {dfl vs : List V} {fl : Fl} {v v' : V} (d : DefR B fa k scope body nm dfl) (hk : vs.length = k) (hv : flV fl = some v)
    (hb : ∀ H, ∃ σ' T, Bl ⟨B, n, scope⟩ body (nm.zip (vs ++ dfl)) H fl σ' (H ++ T) ∧ Fz (H ++ T) H.length v v') : Fp B (n + 1) (.ref fa) vs v' := fun H =>
  let ⟨_, _, h1, h2⟩ := hb H; fc_fz (fc_def d hk h1 hv) h2
end
end Tg
namespace Tg
set_option maxHeartbeats 1000000
noncomputable def IS (wr : List Addr) (s s' : Shared) : Prop := (∃ h' tk, s' = { s with heap := h', toks := tk }) ∧ (∀ b o, b ∉ wr → s.heap.get? b = some o → s'.heap.get? b = some o) ∧ There s.heap s'.heap
noncomputable def IE (wr : List Addr) (s s' : Shared) : Prop := (∃ h' tk, s' = { s with heap := h', toks := tk }) ∧ (∀ b o, b ∉ wr → s.heap.get? b = some o → s'.heap.get? b = some o)
theorem IE.kp {wr s s'} (x : IE wr s s') : Kp wr s.heap s'.heap := fun b o e hb _ => x.2 b o hb e
theorem IE.ext {a : Addr} {s : Shared} {h' : Heap} {tk : Nat} (hs : Heap.ExtBut a s.heap h') : IE [a] s { s with heap := h', toks := tk } :=
  ⟨⟨h', tk, rfl⟩, fun b o hb e => hs b o (fun q => hb (List.mem_singleton.mpr q)) e⟩
theorem IE.same {a : Addr} {s : Shared} {h' : Heap} {tk : Nat} (hs : Heap.SameBut a s.heap h') : IE [a] s { s with heap := h', toks := tk } :=
  ⟨⟨h', tk, rfl⟩, fun b o hb e => (hs.2 b fun q => hb (List.mem_singleton.mpr q)).trans e⟩
theorem IS.refl {wr s} : IS wr s s := ⟨⟨s.heap, s.toks, rfl⟩, fun _ _ _ e => e, .refl⟩
theorem IS.trans {wr s s' s''} (x : IS wr s s') (y : IS wr s' s'') : IS wr s s'' := by
  obtain ⟨⟨h1, t1, rfl⟩, k1, th1⟩ := x
  obtain ⟨⟨h2, t2, rfl⟩, k2, th2⟩ := y
  exact ⟨⟨h2, t2, rfl⟩, fun b o hb e => k2 b o hb (k1 b o hb e), th1.trans th2⟩
theorem IS.kp {wr s s'} (x : IS wr s s') : Kp wr s.heap s'.heap := fun b o e hb _ => x.2.1 b o hb e
theorem IS.of_keeps {wr s s'} (x : Keeps s s') : IS wr s s' := by
  obtain ⟨h', tk, rfl, k⟩ := x
  exact ⟨⟨h', tk, rfl⟩, fun b o _ e => k b o e, .of_keeps k⟩
theorem IS.mono {wr wr' s s'} (x : IS wr s s') (h : ∀ a ∈ wr, a ∈ wr') : IS wr' s s' := ⟨x.1, fun b o hb e => x.2.1 b o (fun hm => hb (h b hm)) e, x.2.2⟩
theorem IS.ie {wr s s'} (x : IS wr s s') : IE wr s s' := ⟨x.1, x.2.1⟩
theorem IE.trans {wr s s' s''} (x : IE wr s s') (y : IE wr s' s'') : IE wr s s'' := by
  obtain ⟨⟨h1, t1, rfl⟩, k1⟩ := x
  obtain ⟨⟨h2, t2, rfl⟩, k2⟩ := y
  exact ⟨⟨h2, t2, rfl⟩, fun b o hb e => k2 b o hb (k1 b o hb e)⟩
theorem IE.mono {wr wr' s s'} (x : IE wr s s') (h : ∀ a ∈ wr, a ∈ wr') : IE wr' s s' := ⟨x.1, fun b o hb e => x.2 b o (fun hm => hb (h b hm)) e⟩

theorem oldK_below {h₀ h h' : Heap} (K : OldK h₀ h) (k : ∀ b o, b < h₀.objs.size → h.get? b = some o → h'.get? b = some o) : OldK h₀ h' := by
  refine ⟨fun b o e => ?_, fun b o e => let ⟨o', e'⟩ := K.there b o e; ⟨o', k _ _ (Heap.lt_size e) e'⟩⟩
  rcases K.old b o e with x | ⟨t, hc, vs, more, hv, x⟩ | ⟨rfl, hc, ⟨o', es, n, ho', r⟩, z⟩
  · exact .inl (k _ _ (Heap.lt_size e) x)
  · exact .inr (.inl ⟨t, hc, vs, more, hv, k _ _ (Heap.lt_size e) x⟩)
  · exact .inr (.inr ⟨rfl, hc, ⟨o', es, n, k _ _ (Heap.lt_size e) ho', r⟩, fun key => by rw [OldK.staticOf_congr ((k _ _ (Heap.lt_size e) ho').trans ho'.symm) key]; exact z key⟩)

section
variable {B : Bs} {Z zs α : List Addr} {H : AH} {s s' : Shared} {wr : List Addr}
theorem Inv.off {h' : Heap} {tk : Nat} (I : Inv B (zs ++ Z) α H s) (O : B.Ok) (k : ∀ b o, b ∉ wr → s.heap.get? b = some o → h'.get? b = some o) (hw : ∀ a ∈ wr, B.g.objs.size ≤ a ∧ a ∈ zs ++ Z) (hz : ∀ a ∈ Z, ∃ o, h'.get? a = some o) : Inv B Z α H { s with heap := h', toks := tk } := by
  have below : ∀ b o, b < B.g.objs.size → s.heap.get? b = some o → h'.get? b = some o := fun b o hb e => k b o (fun hm => absurd hb (Nat.not_lt.mpr (hw b hm).1)) e
  have hr : HR (zs ++ Z) B.g.objs.size α H h' := I.hr.keep (W := wr) (fun b o e hb _ => k b o hb e) fun a ha => (hw a ha).2
  refine ⟨oldK_below I.old (O.size ▸ below), fun b o e => below b o (Heap.lt_size e) (I.keep b o e), I.gens, I.os, fun p hp => ?_, hr.free, hz⟩
  obtain ⟨ps, z⟩ := I.codes p hp
  exact ⟨ps, code_of z (fun _ e => below _ _ (O.cd p hp).1 e) fun _ e => below _ _ (O.cd p hp).2 e⟩
theorem Inv.is (I : Inv B Z α H s) (O : B.Ok) (x : IS wr s s') (hw : ∀ a ∈ wr, B.g.objs.size ≤ a ∧ a ∈ Z) : Inv B Z α H s' := by
  obtain ⟨⟨h', tk, rfl⟩, k, th⟩ := x
  exact Inv.off (zs := []) I O k hw fun a ha => let ⟨o, e⟩ := I.ban a ha; th a o e
theorem Inv.ie (I : Inv B (wr ++ Z) α H s) (O : B.Ok) (x : IE wr s s') (hw : ∀ a ∈ wr, B.g.objs.size ≤ a) (hz : ∀ a ∈ Z, a ∉ wr) : Inv B Z α H s' := by
  obtain ⟨⟨h', tk, rfl⟩, k⟩ := x
  exact I.off O k (fun a ha => ⟨hw a ha, List.mem_append_left _ ha⟩) fun a ha => let ⟨o, e⟩ := I.ban a (List.mem_append_right _ ha); ⟨o, k a o (hz a ha) e⟩
theorem VR.is {v w} (r : VR Z α s.heap v w) (x : IS wr s s') (hw : ∀ a ∈ wr, a ∈ Z) : VR Z α s'.heap v w := r.mono0 x.kp fun a ha => List.mem_append_left _ (hw a ha)
theorem VRs.is {v w} (r : VRs Z α s.heap v w) (x : IS wr s s') (hw : ∀ a ∈ wr, a ∈ Z) : VRs Z α s'.heap v w := r.mono0 x.kp fun a ha => List.mem_append_left _ (hw a ha)
theorem Stp.is {W α' H' s''} (x : Stp B Z (wr ++ W) α s α' H' s') (k : IS wr s' s'') (I : Inv B Z α' H' s'') : Stp B Z (wr ++ W) α s α' H' s'' :=
  ⟨x.ext, I, fun b o e hb so => k.2.1 b o (fun hm => hb (List.mem_append_left _ (List.mem_append_left _ hm))) (x.kp b o e hb so), x.th.trans k.2.2⟩
end
structure Wk (B : Bs) (Z : List Addr) (tgt : Expr) (I : Addr) (wr : List Addr) (St : List V → List Addr → Heap → Prop) : Prop where
  mono : ∀ vs α (H : AH) α' H' W (s s' : Shared), St vs α s.heap → (∀ a ∈ α, a ∉ Z) → Stp B Z W α s α' H' s' → (∀ a ∈ W, a ∈ Z) → (∀ a ∈ wr, a ∈ Z ∧ a ∉ W) → St vs α' s'.heap
  nx : ∀ (A : Around) (s : Shared) α H v vs (Q : Value → Shared → Prop) (E : Value → Shared → Prop), A.handled = none → Inv B Z α H s → (∀ a ∈ wr, B.g.objs.size ≤ a ∧ a ∈ Z) → St (v :: vs) α s.heap →
    (∀ w s₂, IS wr s s₂ → St vs α s₂.heap → VR Z α s₂.heap v w → Q w s₂) →
    wpAny (model B.prog B.w) A (pyNext (.ref I)) (fun r s₁ => ∃ w, r = some w ∧ wpAny (model B.prog B.w) A (letOwnedTupleGo tgt (.ref I) w) (fun _ s₂ => Q w s₂) E s₁) E s
  dn : ∀ (A : Around) (s : Shared) α H (Q : Shared → Prop) (E : Value → Shared → Prop), A.handled = none → Inv B Z α H s → (∀ a ∈ wr, B.g.objs.size ≤ a ∧ a ∈ Z) → St [] α s.heap →
    (∀ s₁, IE wr s s₁ → Q s₁) → wpAny (model B.prog B.w) A (pyNext (.ref I)) (fun r s₁ => r = none ∧ Q s₁) E s
  self : ∀ (A : Around) (s : Shared) vs α (Q : Value → Shared → Prop) (E : Value → Shared → Prop), St vs α s.heap → Q (.ref I) s → wpAny (model B.prog B.w) A (pyIter (.ref I)) Q E s

structure Dr (B : Bs) (Z : List Addr) (tgt : Expr) (I : Addr) (vs : List V) (wr : List Addr) (St : List Addr → List V → List Addr → Heap → Prop) (s₁ s₂ : Shared) (α₁ : List Addr) : Prop where
  kk : Keeps s₁ s₂
  wk : ∀ Z, Wk B Z tgt I wr (St Z)
  st : St (wr ++ Z) vs α₁ s₂.heap
  ban : ∀ zs Z vs α h, Fresh zs h → St Z vs α h → St (zs ++ Z) vs α h
  wr : ∀ a ∈ wr, B.g.objs.size ≤ a ∧ s₁.heap.get? a = none ∧ ∃ o, s₂.heap.get? a = some o
noncomputable def Si (K : Kx) (tgt iter : Expr) (σ : En) (H : AH) (vs : List V) (H₁ : AH) : Prop := ∀ ⦃Z A env s α⦄ (Q : Value → Shared → Prop) (E : Value → Shared → Prop), Cx K Z A env s α H σ →
  (∀ I wr St s₁ s₂ α₁, Stp K.B Z [] α s α₁ H₁ s₁ → Dr K.B Z tgt I vs wr St s₁ s₂ α₁ → Q (.ref I) s₂) →
  wpAny (model K.B.prog K.B.w) A (eval iter env) (fun x s' => wpAny (model K.B.prog K.B.w) A (pyIter x) Q E s') E s
end Tg
namespace Tg
set_option maxHeartbeats 1000000
noncomputable def At (K : Kx) (fn : Bool) (tgt : Expr) (v : V) (σ σ' : En) : Prop := ∀ ⦃Z A env s α H w⦄ (Q : Unit → Shared → Prop) (E : Value → Shared → Prop), Cx K Z A env s α H σ → (fn = true → env.func.isSome = true) → VR Z α s.heap v w →
  (∀ s', Stp K.B Z (Ow env) α s α H s' → FrI Z K.B.g.objs.size env α σ' s'.heap → s'.gens = s.gens → Q () s') → wpAny (model K.B.prog K.B.w) A (assign tgt env w) Q E s
noncomputable def AtL (K : Kx) (fn : Bool) (ts : List Expr) (vs : List V) (σ σ' : En) : Prop := ∀ ⦃Z A env s α H ws⦄ (Q : Unit → Shared → Prop) (E : Value → Shared → Prop), Cx K Z A env s α H σ → (fn = true → env.func.isSome = true) → VRs Z α s.heap vs ws →
  (∀ s', Stp K.B Z (Ow env) α s α H s' → FrI Z K.B.g.objs.size env α σ' s'.heap → s'.gens = s.gens → Q () s') → wpAny (model K.B.prog K.B.w) A (assignInOrder ((assignEach ts env).map (·.2)) ws) Q E s
section
variable {K : Kx} {fn : Bool} {σ σ₁ σ' : En} {v : V} {vs : List V} {x : Str} {p pos : Pos} {t : Expr} {ts : List Expr} {H H₁ H' : AH}
theorem Cx.at {Z A env s α s' W} (C : Cx K Z A env s α H σ) (k : Stp K.B Z W α s α H' s') (F : FrI Z K.B.g.objs.size env α σ' s'.heap) : Cx K Z A env s' α H' σ' := ⟨C.R, C.O, C.EI, k.inv, F⟩
theorem at_name (hx : canStore K.sc x = true) : At K true (.Name x p) v σ ((x, v) :: σ) := fun _ _ _ _ _ _ _ Q E C fe r hQ => by
  unfold canStore at hx
  simp only [Bool.or_eq_true, beq_iff_eq] at hx
  exact wpAny_assign_Name (store_ok C.O C.EI C.EI.w C.I C.F (hx.imp id fun h => ⟨h, fe rfl, C.EI.w.own x ((C.kind x).trans h)⟩) r fun s' k F' _ e => hQ s' k F' e)
theorem at_local (hx : K.sc.names.lookup x = some .local) : At K fn (.Name x p) v σ ((x, v) :: σ) := fun _ _ _ _ _ _ _ Q E C fe r hQ =>
  wpAny_assign_Name (store_ok C.O C.EI C.EI.w C.I C.F (.inl hx) r fun s' k F' _ e => hQ s' k F' e)
theorem atl_nil : AtL K fn [] [] σ σ := fun _ _ _ _ _ _ _ Q E C fe r hQ => by rw [r.nilI]; exact wpAny_pure (hQ _ (.refl C.I) C.F rfl)
theorem atl_cons (h : At K fn t v σ σ₁) (hs : AtL K fn ts vs σ₁ σ') (he : ∀ env, assignEach (t :: ts) env = (false, assign t env) :: assignEach ts env := by intro _; rfl) : AtL K fn (t :: ts) (v :: vs) σ σ' := fun _ _ _ _ _ _ _ Q E C fe r hQ => by
  obtain ⟨v0, ws, rfl, r0, r⟩ := r.consI
  rw [he]
  show wpAny _ _ (do holding ws (assign t _ v0); assignInOrder ((assignEach ts _).map (·.2)) ws) Q E _
  exact wpAny_bind (wpAny_holding (h _ E C fe r0 fun s₁ k₁ F₁ e₁ => hs Q E (C.at k₁ F₁) fe (r.stp k₁ (ow_z C.EI.w C.F)) fun s₂ k₂ F₂ e₂ => hQ s₂ (k₁.trans k₂) F₂ (e₂.trans e₁)))
theorem at_tuple {k} (h : AtL K fn ts vs σ σ') (hl : vs.length = ts.length := by rfl) (hst : ∀ env, (assignEach ts env).findIdx? (·.1) = none := by intro _; rfl) (hl' : ∀ env, (assignEach ts env).length = ts.length := by intro _; rfl) :
    At K fn (.Tuple ts k p) (.tup vs) σ σ' := by
  intro Z A env s α H w Q E C fe r hQ
  obtain ⟨a, ws, rfl, ht, r, hz⟩ := r.tupI
  refine wpAny_assign_Tuple C.R.h ht.is (by rw [hl', List.size_toArray, r.length, hl]) (hst _) fun h' hx => ?_
  have keeps : Keeps s { s with heap := h' } := ⟨h', s.toks, rfl, fun b o e => hx b o (Nat.ne_of_lt (Heap.lt_size e)) e⟩
  exact h Q E (C.step (.of_keeps C.I keeps)) fe (r.keeps keeps) fun s₂ k₂ F₂ => hQ s₂ (Stp.trans (.of_keeps C.I keeps) k₂) F₂
end
noncomputable def Lp (fl₁ : Fl) (σ₁ : En) (H₁ : AH) (go : Prop) (fl : Fl) (σ' : En) (H' : AH) : Prop := match fl₁ with
  | .brk => fl = .next ∧ σ' = σ₁ ∧ H' = H₁
  | .ret v => fl = .ret v ∧ σ' = σ₁ ∧ H' = H₁
  | _ => go
noncomputable def ForR (K : Kx) (tgt : Expr) (bl bo : List Stmt) (fl : Fl) (σ' : En) (H' : AH) : List V → En → AH → Prop
  | [], σ, H => Bl K bo σ H fl σ' H'
  | v :: vs, σ, H => ∃ σ₁ fl₁ σ₂ H₂, At K true tgt v σ σ₁ ∧ Bl K bl σ₁ H fl₁ σ₂ H₂ ∧ Lp fl₁ σ₂ H₂ (ForR K tgt bl bo fl σ' H' vs σ₂ H₂) fl σ' H'
structure Jv (K : Kx) (Z : List Addr) (A : Around) (env : Env) (wr : List Addr) (St : List V → List Addr → Heap → Prop) (s₂ : Shared) (α₁ : List Addr) (vs : List V) (α : List Addr) (H : AH) (σ : En) (s : Shared) : Prop where
  st : St vs α s.heap
  sp : Stp K.B Z (wr ++ Ow env) α₁ s₂ α H s
  cx : Cx K Z A env s α H σ
structure Jo (K : Kx) (Z : List Addr) (env : Env) (tgt : Expr) (J : Addr) (wr : List Addr) (St : List V → List Addr → Heap → Prop) : Prop where
  wk : Wk K.B Z tgt J wr St
  up : ∀ a ∈ wr, K.B.g.objs.size ≤ a ∧ a ∈ Z
  oL : env.locals ∉ wr
  oC : ∀ x c, env.cells.lookup x = some c → c ∉ wr
  oW : ∀ a ∈ wr, a ∉ Ow env
section
variable {K : Kx} {tgt iter : Expr} {bl bo : List Stmt} {fl : Fl} {σ σ' : En} {H H₁ H' : AH} {vs : List V} {pos : Pos}
variable {Z wr α α₁ : List Addr} {A : Around} {env : Env} {J : Addr} {St : List V → List Addr → Heap → Prop} {StZ : List Addr → List V → List Addr → Heap → Prop} {s s₁ s₂ : Shared} {τ : En} {v : V}
theorem Jv.dn (D : Jo K Z env tgt J wr St) (j : Jv K Z A env wr St s₂ α₁ [] α H σ s) (Q : Shared → Prop) (E : Value → Shared → Prop) (h : ∀ s₃, IE wr s s₃ → Q s₃) : wpAny (model K.B.prog K.B.w) A (pyNext (.ref J)) (fun r s' => r = none ∧ Q s') E s :=
  D.wk.dn A s α H Q E j.cx.R.h j.cx.I D.up j.st h
theorem Jv.nx (D : Jo K Z env tgt J wr St) {us : List V} (j : Jv K Z A env wr St s₂ α₁ (v :: us) α H σ s) (Q : Value → Shared → Prop) (E : Value → Shared → Prop)
    (h : ∀ w s₃, Cx K Z A env s₃ α H σ → VR Z α s₃.heap v w → (∀ s₅ α₅ H₅ σ₅, Stp K.B Z (Ow env) α s₃ α₅ H₅ s₅ → FrI Z K.B.g.objs.size env α₅ σ₅ s₅.heap → Jv K Z A env wr St s₂ α₁ us α₅ H₅ σ₅ s₅) → Q w s₃) :
    wpAny (model K.B.prog K.B.w) A (pyNext (.ref J)) (fun r s' => ∃ w, r = some w ∧ wpAny (model K.B.prog K.B.w) A (letOwnedTupleGo tgt (.ref J) w) (fun _ s₂ => Q w s₂) E s') E s := by
  have C := j.cx
  refine D.wk.nx A s α H v us Q E C.R.h C.I D.up j.st fun w s₃ k₃ hst₃ r₃ => ?_
  have I₃ := C.I.is C.O k₃ D.up
  have F₃ := C.F.mono0 k₃.kp (fun a ha => List.mem_append_left _ (D.up a ha).2) D.oL D.oC
  refine h w s₃ ⟨C.R, C.O, C.EI, I₃, F₃⟩ r₃ fun s₅ α₅ H₅ σ₅ k₅ F₅ => ?_
  exact ⟨D.wk.mono _ _ H _ _ _ _ _ hst₃ I₃.hr.dis k₅ (ow_z C.EI.w C.F) (fun a ha => ⟨(D.up a ha).2, D.oW a ha⟩), (j.sp.is k₃ I₃).trans (k₅.mono fun a h => List.mem_append_right wr h), ⟨C.R, C.O, C.EI, k₅.inv, F₅⟩⟩
theorem Dr.fz (D : Dr K.B Z tgt J vs wr StZ s₁ s₂ α₁) : Fresh wr s₁.heap := fun a ha => (D.wr a ha).2.1
theorem Dr.off (D : Dr K.B Z tgt J vs wr StZ s₁ s₂ α₁) (I : Inv K.B Z α₁ H₁ s₁) {a : Addr} (h : a ∈ Z) : a ∉ wr := fun hm => by obtain ⟨o, e⟩ := I.ban a h; rw [(D.wr _ hm).2.1] at e; cases e
theorem Dr.jo (D : Dr K.B Z tgt J vs wr StZ s₁ s₂ α₁) (C : Cx K Z A env s₁ α₁ H₁ τ) : Jo K (wr ++ Z) env tgt J wr (StZ (wr ++ Z)) :=
  ⟨D.wk _, fun a ha => ⟨(D.wr a ha).1, List.mem_append_left _ ha⟩, D.off C.I C.F.zL, fun x c e => D.off C.I (C.F.zC x c e).1, fun a ha hm => D.off C.I (ow_z C.EI.w C.F a hm) ha⟩
theorem Dr.jv (D : Dr K.B Z tgt J vs wr StZ s₁ s₂ α₁) (C : Cx K Z A env s₁ α₁ H₁ τ) : Jv K (wr ++ Z) A env wr (StZ (wr ++ Z)) s₂ α₁ vs α₁ H₁ τ s₂ := by
  have I := C.I.banned D.fz D.kk fun a ha => (D.wr a ha).2.2
  exact ⟨D.st, .refl I, ⟨C.R, C.O, C.EI, I, (C.F.banned D.fz).keeps D.kk⟩⟩
theorem FrI.freeZ {zs sz h} (F : FrI (zs ++ Z) sz env α σ h) (hL : env.locals ∈ Z) (hC : ∀ x c, env.cells.lookup x = some c → c ∈ Z) : FrI Z sz env α σ h := by
  obtain ⟨m, hn, hl⟩ := F.loc
  exact ⟨⟨m, hn, fun x v e q => let ⟨w, h1, h2⟩ := hl x v e q; ⟨w, h1, h2.free⟩⟩, fun x v e q => let ⟨c, w, h1, h2, h3⟩ := F.cel x v e q; ⟨c, w, h1, h2, h3.free⟩, hL, fun x c e => ⟨hC x c e, (F.zC x c e).2⟩, F.up⟩
theorem Stp.done {W α' : List Addr} {H' : AH} {s₃ : Shared} (x : Stp K.B (wr ++ Z) (wr ++ W) α₁ s₂ α' H' s) (D : Dr K.B Z tgt J vs wr StZ s₁ s₂ α₁) (I₁ : Inv K.B Z α₁ H₁ s₁) (O : K.B.Ok) (k₃ : IE wr s s₃) : Stp K.B Z W α₁ s₁ α' H' s₃ := by
  have I₃ := x.inv.ie O k₃ (fun a ha => (D.wr a ha).1) fun a ha => D.off I₁ ha
  have y := x.own D.kk D.fz
  refine ⟨y.ext, I₃, fun b o e hb so => k₃.2 b o (D.fz.not e) (y.kp b o e hb so), fun b o e => ?_⟩
  obtain ⟨o', e'⟩ := y.th b o e
  exact ⟨o', k₃.2 b o' (D.fz.not e) e'⟩
theorem for_core (D : Dr K.B Z tgt J vs wr StZ s₁ s₂ α₁) (C₁ : Cs K Z A env s₁ α₁ H₁ σ) (hr : ForR K tgt bl bo fl σ' H' vs σ H₁) {R : Result → Shared → Prop}
    (hQ : ∀ w s' α', Stp K.B Z (Ow env) α₁ s₁ α' H' s' → FrI Z K.B.g.objs.size env α' σ' s'.heap → FlR Z α' s'.heap fl w → R (.ok w) s') : codeAny (model K.B.prog K.B.w) A (.forLoop tgt (.ref J) bl bo env) R s₂ := by
  have W := C₁.W
  have C := C₁.toCx
  have jo := D.jo C
  refine codeAny_forLoop_any (fun k s' => ∃ us α' H₃ σ₁, k = us.length ∧ Jv K (wr ++ Z) A env wr (StZ (wr ++ Z)) s₂ α₁ us α' H₃ σ₁ s' ∧ ForR K tgt bl bo fl σ' H' us σ₁ H₃) ?_ vs.length ⟨vs, α₁, H₁, σ, rfl, D.jv C, hr⟩
  rintro k s' ⟨us, α', H₃, σ₁, rfl, j, hrun⟩
  cases us with
  | nil =>
    refine wpAny_mono (j.dn jo _ _ fun s₃ k₃ => ?_) (fun r s₃ hr => by rw [hr.1]; exact hr.2) fun _ _ e => e
    have st := j.sp.done D C.I C.O k₃
    have F₃ := (j.cx.F.mono0 k₃.kp (fun a ha => List.mem_append_left _ (List.mem_append_left _ ha)) jo.oL jo.oC).freeZ C.F.zL fun x c e => (C.F.zC x c e).1
    exact hrun _ _ ⟨⟨C.R, C.O, C.EI, st.inv, F₃⟩, W⟩ fun w s₄ α₄ k₄ F₄ r₄ => hQ w s₄ α₄ (st.trans k₄) F₄ r₄
  | cons v us =>
    obtain ⟨σ₂, fl₃, σ₃, H₄, hg', hb', hrun⟩ := hrun
    refine wpAny_mono (j.nx jo (fun w s₃ => wpAny (model K.B.prog K.B.w) A (assign tgt env w) _ _ s₃) _ fun w s₃ C₃ r₃ out => hg' _ _ C₃ (fun _ => W.fe) r₃ fun s₄ k₄ F₄ _ => hb' _ _ ⟨C₃.at k₄ F₄, W⟩ fun fw s₅ α₅ k₅ F₅ r₅ => ?_) (fun r s₃ hr => by obtain ⟨w, rfl, hr⟩ := hr; exact hr) fun _ _ e => e
    have o := out s₅ α₅ H₄ σ₃ (k₄.trans k₅) F₅
    have st := (o.sp.own D.kk D.fz).free
    have F₆ := F₅.freeZ C.F.zL fun x c e => (C.F.zC x c e).1
    cases fl₃ with
    | next => rw [r₅.nextI]; exact ⟨_, Nat.lt_succ_self _, us, α₅, H₄, σ₃, rfl, o, hrun⟩
    | cont => rw [r₅.contI]; exact ⟨_, Nat.lt_succ_self _, us, α₅, H₄, σ₃, rfl, o, hrun⟩
    | brk =>
      obtain ⟨rfl, rfl, rfl⟩ := hrun
      rw [r₅.brkI]; exact hQ _ s₅ α₅ st F₆ .next
    | ret u =>
      obtain ⟨rfl, rfl, rfl⟩ := hrun
      obtain ⟨x, rfl, r⟩ := r₅.retI
      exact hQ _ s₅ α₅ st F₆ (.ret r.free)
theorem st_for (hsrc : Si K tgt iter σ H vs H₁) (hr : ForR K tgt bl bo fl σ' H' vs σ H₁) (hfold : ∀ env x, foldedSetIterable iter env x = pure x := by intro _ _; rfl) : Tg.St K (.For tgt iter bl bo pos) σ H fl σ' H' := fun _ _ _ _ _ Q E C hQ =>
  wpAny_For (hsrc _ E C.toCx fun J wr St s₁ s₂ α₁ k₁ D => for_core D (C.step k₁) hr fun w s' α' k => hQ w s' α' (k₁.wide.trans k)) (hfold _)
end
end Tg
namespace Tg
set_option maxHeartbeats 1000000
noncomputable def ownedKinds : List String := ["enumerate", "zip", "dict_itemiterator", "dict_reverseitemiterator", "odict_iterator", "itertools.zip_longest", "itertools.pairwise"]
theorem letOwned_other {M : Model} {A : Around} {s : Shared} {tgt : Expr} {I : Addr} {w : Value} {o : Obj} {T : String} {Q : Unit → Shared → Prop} {E : Value → Shared → Prop}
    (ho : s.heap.get? I = some o) (hc : o.cls = .type T) (hT : ownedKinds.contains T = false) (h : Q () s) : wpAny M A (letOwnedTupleGo tgt (.ref I) w) Q E s := by
  have key : wpAny M A (do
    let (.ref r, .ref a) := (Value.ref I, w) | return
    let o ← load r
    match o.cls, o.data with
    | .type n, .fields vs =>
      if ["enumerate", "zip", "dict_itemiterator", "dict_reverseitemiterator", "odict_iterator", "itertools.zip_longest", "itertools.pairwise"].contains n && vs[0]? == some (rawInt a) then
        rule "for.unpacks-the-owned-tuple"
        updateField r 0 .none
    | _, _ => pure ()) Q E s := by
    cases w <;> try exact wpAny_pure h
    refine wpAny_bind (wpAny_load ho ?_)
    rw [hc]
    cases o.data <;> try exact wpAny_pure h
    rename_i a vs
    dsimp only
    have hT' : (["enumerate", "zip", "dict_itemiterator", "dict_reverseitemiterator", "odict_iterator", "itertools.zip_longest", "itertools.pairwise"].contains T) = false := hT
    simp only [hT', Bool.false_and, Bool.false_eq_true, if_false]
    exact wpAny_pure h
  unfold letOwnedTupleGo
  split
  · exact key
  · exact key
  · exact wpAny_pure h
theorem IS.same {a : Addr} {s : Shared} {h' : Heap} {tk : Nat} {o : Obj} (hs : Heap.SameBut a s.heap h') (e : h'.get? a = some o) : IS [a] s { s with heap := h', toks := tk } :=
  ⟨⟨h', tk, rfl⟩, fun b o hb e => (hs.2 b fun q => hb (List.mem_singleton.mpr q)).trans e, SameBut.there hs e⟩
theorem IsList.kp {W h h' a items} (x : Heap.IsList h a items) (k : Kp W h h') (ha : a ∉ W) : Heap.IsList h' a items :=
  let ⟨o, ho, hc, n, hd⟩ := x; ⟨o, k a o ho ha (solid_seq hd), hc, n, hd⟩
section
variable {B : Bs} {Z : List Addr} {tgt : Expr}
theorem Stp.mine {α α' : List Addr} {H' : AH} {W : List Addr} {s s' : Shared} {a : Addr} {o : Obj} {T : String} (k : Stp B Z W α s α' H' s') (I : ∀ a ∈ α, a ∉ Z) (h : a ∈ Z ∧ a ∉ W) (e : s.heap.get? a = some o) (c : o.cls = .type T) : s'.heap.get? a = some o :=
  k.kp _ _ e (fun hm => (List.mem_append.mp hm).elim h.2 fun hm => I a hm h.1) (solid_type c)
theorem Stp.sep {α α' : List Addr} {H' : AH} {W : List Addr} {s s' : Shared} {a : Addr} {o : Obj} (k : Stp B Z W α s α' H' s') (hw : ∀ a ∈ W, a ∈ Z) (e : s.heap.get? a = some o) (so : Solid o) (z : a ∉ Z ++ α) : s'.heap.get? a = some o ∧ a ∉ Z ++ α' := by
  obtain ⟨t, rfl, ft⟩ := k.ext
  exact mono_k k.kp (wz hw) ft a o e so z
noncomputable def TupSt (Z : List Addr) (I : Addr) (vs : List V) (α : List Addr) (h : Heap) : Prop :=
  ∃ k l t ws, h.IsTupleIter I t k ∧ IsTup h t ws.toArray ∧ t ∉ Z ++ α ∧ VRs Z α h l ws ∧ l.drop k = vs
noncomputable def LstSt (Z : List Addr) (I : Addr) (vs : List V) (α : List Addr) (h : Heap) : Prop :=
  ∃ k l t ws, h.IsListIter I t k ∧ h.IsList t ws.toArray ∧ t ∉ Z ++ α ∧ VRs Z α h l ws ∧ l.drop k = vs
theorem drop_head {α : Type} {l vs : List α} {v : α} {k : Nat} (hd : l.drop k = v :: vs) : l[k]? = some v ∧ l.drop (k + 1) = vs :=
  ⟨by have := congrArg (·[0]?) hd; simpa using this, by rw [← List.drop_drop, hd]; rfl⟩
theorem drop_none {Z α h} {l : List V} {ws : List Value} {k : Nat} (r : VRs Z α h l ws) (hd : l.drop k = []) : ws.toArray[k]? = none := by
  have h1 := List.drop_eq_nil_iff.mp hd
  have : ws[k]? = none := List.getElem?_eq_none (by rw [r.length]; exact h1)
  simpa using this
theorem wk_tuple {J : Addr} : Wk B Z tgt J [J] (TupSt Z J) where
  mono := by
    rintro vs α H α' H' W s s' ⟨k, l, t, ws, ⟨o, e, c, d⟩, ⟨o', e', c', n, d'⟩, hz, r, hd⟩ I k₁ hW hw
    obtain ⟨f, z⟩ := k₁.sep hW e' (solid_seq d') hz
    exact ⟨k, l, t, ws, ⟨o, k₁.mine I (hw _ (.head _)) e c, c, d⟩, ⟨o', f, c', n, d'⟩, z, r.stp k₁ hW, hd⟩
  nx := by
    rintro A s α H v vs Q E hh I hw ⟨k, l, t, ws, hit, ht, hz, r, hd⟩ hQ
    obtain ⟨hk, hd'⟩ := drop_head hd
    obtain ⟨w, hw', rw⟩ := r.get hk
    have hJ := fun a (h : a ∈ [J]) => (hw a h).2
    have hti : t ≠ J := fun q => hz (q ▸ List.mem_append_left _ (hJ _ (.head _)))
    refine wpAny_pyNext_tuple_item hit ht (by simpa using hw') fun h' hit' hs => ⟨w, rfl, ?_⟩
    obtain ⟨o, e, c, d⟩ := id hit'
    have k₁ : IS [J] s { s with heap := h' } := IS.same hs e
    exact letOwned_other e c (by decide) (hQ w _ k₁ ⟨k + 1, l, t, ws, hit', IsTup.kp ht k₁.kp (by simpa using hti), hz, r.is k₁ hJ, hd'⟩ (rw.is k₁ hJ))
  dn := by
    rintro A s α H Q E hh I hw ⟨k, l, t, ws, hit, ht, hz, r, hd⟩ hQ
    exact wpAny_pyNext_tuple_end hh hit ht (drop_none r hd) fun h' hx => ⟨rfl, hQ _ (IE.ext hx)⟩
  self := by
    rintro A s vs α Q E ⟨k, l, t, ws, hit, ht, hz, r, hd⟩ hQ
    exact wpAny_pyIter_tupleiter hit hQ
theorem wk_list {J : Addr} : Wk B Z tgt J [J] (LstSt Z J) where
  mono := by
    rintro vs α H α' H' W s s' ⟨k, l, t, ws, ⟨o, e, c, d⟩, ⟨o', e', c', n, d'⟩, hz, r, hd⟩ I k₁ hW hw
    obtain ⟨f, z⟩ := k₁.sep hW e' (solid_seq d') hz
    exact ⟨k, l, t, ws, ⟨o, k₁.mine I (hw _ (.head _)) e c, c, d⟩, ⟨o', f, c', n, d'⟩, z, r.stp k₁ hW, hd⟩
  nx := by
    rintro A s α H v vs Q E hh I hw ⟨k, l, t, ws, hit, ht, hz, r, hd⟩ hQ
    obtain ⟨hk, hd'⟩ := drop_head hd
    obtain ⟨w, hw', rw⟩ := r.get hk
    have hJ := fun a (h : a ∈ [J]) => (hw a h).2
    have hti : t ≠ J := fun q => hz (q ▸ List.mem_append_left _ (hJ _ (.head _)))
    refine wpAny_pyNext_list_item hit ht (by simpa using hw') fun h' hit' hs => ⟨w, rfl, ?_⟩
    obtain ⟨o, e, c, d⟩ := id hit'
    have k₁ : IS [J] s { s with heap := h' } := IS.same hs e
    exact letOwned_other e c (by decide) (hQ w _ k₁ ⟨k + 1, l, t, ws, hit', IsList.kp ht k₁.kp (by simpa using hti), hz, r.is k₁ hJ, hd'⟩ (rw.is k₁ hJ))
  dn := by
    rintro A s α H Q E hh I hw ⟨k, l, t, ws, hit, ht, hz, r, hd⟩ hQ
    exact wpAny_pyNext_list_end hh hit ht (drop_none r hd) fun h' hx => ⟨rfl, hQ _ (IE.ext hx)⟩
  self := by
    rintro A s vs α Q E ⟨k, l, t, ws, hit, ht, hz, r, hd⟩ hQ
    exact wpAny_pyIter_listiter hit hQ
theorem tup_ban {J : Addr} : ∀ (zs Z : List Addr) (vs : List V) (α : List Addr) (h : Heap), Fresh zs h → TupSt Z J vs α h → TupSt (zs ++ Z) J vs α h := by
  rintro zs Z vs α h f ⟨k, l, t, ws, hit, ⟨o, e, c, n, d⟩, hz, r, hd⟩
  exact ⟨k, l, t, ws, hit, ⟨o, e, c, n, d⟩, (ban_k f _ _ e (solid_type c) hz).2, r.banned f, hd⟩
theorem lst_ban {J : Addr} : ∀ (zs Z : List Addr) (vs : List V) (α : List Addr) (h : Heap), Fresh zs h → LstSt Z J vs α h → LstSt (zs ++ Z) J vs α h := by
  rintro zs Z vs α h f ⟨k, l, t, ws, hit, ⟨o, e, c, n, d⟩, hz, r, hd⟩
  exact ⟨k, l, t, ws, hit, ⟨o, e, c, n, d⟩, (ban_k f _ _ e (solid_type c) hz).2, r.banned f, hd⟩
noncomputable def rngL (a : Int) : Nat → List Int
  | 0 => []
  | n + 1 => a :: rngL (a + 1) n
theorem rngL_length (a : Int) : ∀ n, (rngL a n).length = n
  | 0 => rfl
  | n + 1 => by simp [rngL, rngL_length (a + 1) n]
noncomputable def RngSt (J : Addr) (vs : List V) (α : List Addr) (h : Heap) : Prop := ∃ x n, IsRangeIter h J x (n : Nat) 1 ∧ vs = (rngL x n).map .int
theorem wk_range {J : Addr} : Wk B Z tgt J [J] (RngSt J) where
  mono := by
    rintro vs α H α' H' W s s' ⟨x, n, e, hv⟩ I k₁ hW hw
    exact ⟨x, n, k₁.mine I (hw _ (.head _)) e rfl, hv⟩
  nx := by
    rintro A s α H v vs Q E hh I hw ⟨x, n, hit, hv⟩ hQ
    cases n with
    | zero => cases hv
    | succ n =>
      simp only [rngL, List.map_cons, List.cons.injEq] at hv
      obtain ⟨rfl, rfl⟩ := hv
      refine wpAny_pyNext_range_item hit (by omega) fun h' hit' hs => ⟨_, rfl, ?_⟩
      have k₁ : IS [J] s { s with heap := h', toks := s.toks + 1 } := IS.same hs hit'
      have e' : IsRangeIter h' J (x + 1) (n : Nat) 1 := by
        have : ((n + 1 : Nat) : Int) - 1 = (n : Nat) := by omega
        rw [← this]; exact hit'
      exact letOwned_other e' rfl (by decide) (hQ _ _ k₁ ⟨x + 1, n, e', rfl⟩ (.int _ _))
  dn := by
    rintro A s α H Q E hh I hw ⟨x, n, hit, hv⟩ hQ
    cases n with
    | zero => exact wpAny_pyNext_range_end hh hit (by omega) fun h' hx => ⟨rfl, hQ _ (IE.ext hx)⟩
    | succ n => cases hv
  self := by
    rintro A s vs α Q E ⟨x, n, hit, hv⟩ hQ
    exact wpAny_pyIter_rangeiter hit hQ

end
end Tg
namespace Tg
set_option maxHeartbeats 1000000
section
variable {K : Kx} {tgt e : Expr} {σ : En} {H H₁ : AH} {l vs : List V} {i : Nat}
theorem Dr.one {B : Bs} {Z α₁ : List Addr} {s₁ : Shared} {o : Obj} {St : List Addr → List V → List Addr → Heap → Prop} (hsz : B.g.objs.size ≤ s₁.heap.objs.size) (wk : ∀ Z, Wk B Z tgt s₁.heap.objs.size [s₁.heap.objs.size] (St Z)) (st : St ([s₁.heap.objs.size] ++ Z) vs α₁ (s₁.heap.push o)) (hb : ∀ zs Z vs α h, Fresh zs h → St Z vs α h → St (zs ++ Z) vs α h) (hf : o.isFreed = false) :
    Dr B Z tgt s₁.heap.objs.size vs [s₁.heap.objs.size] St s₁ { s₁ with heap := s₁.heap.push o } α₁ :=
  ⟨keeps_push s₁ o, wk, st, hb, fun a ha => by rw [List.mem_singleton] at ha; subst ha; exact ⟨hsz, none_new' (Nat.le_refl _), _, Heap.get?_push_size _ hf⟩⟩
noncomputable def Sq (v : V) (l : List V) : Prop := v = .tup l ∨ v = .lst l
theorem si_of {v : V} (h : Ev K e σ H v H₁) (hv : Sq v l) : Si K tgt e σ H l H₁ := fun _ _ _ _ _ Q E C hQ => h _ E C fun w s₁ α₁ k₁ r₁ => by
  rcases hv with rfl | rfl
  · obtain ⟨t, ws, rfl, ht, r, hz⟩ := r₁.tupI
    replace ht := ht.is
    refine wpAny_pyIter_tuple ht ?_
    have kk := keeps_push s₁ { cls := .type "tuple_iterator", data := .fields #[.ref t, .int 0 0] }
    obtain ⟨o, e, _⟩ := id ht
    exact hQ _ _ _ s₁ _ α₁ k₁ (.one (St := fun Z => TupSt Z s₁.heap.objs.size) (C.step k₁).size (fun _ => wk_tuple) ⟨0, l, t, ws, ⟨_, Heap.get?_push_size _ rfl, rfl, rfl⟩, ht.push _, (ban_k Fresh.size t o e (solid_type ‹_ ∧ _›.1) hz).2, (r.banned Fresh.size).keeps kk, rfl⟩ tup_ban rfl)
  · obtain ⟨t, ws, rfl, ht, r, hz⟩ := r₁.lstI
    refine wpAny_pyIter_list ht ?_
    have kk := keeps_push s₁ { cls := .type "list_iterator", data := .fields #[.ref t, .int 0 0] }
    obtain ⟨o, e, _⟩ := id ht
    exact hQ _ _ _ s₁ _ α₁ k₁ (.one (St := fun Z => LstSt Z s₁.heap.objs.size) (C.step k₁).size (fun _ => wk_list) ⟨0, l, t, ws, ⟨_, Heap.get?_push_size _ rfl, rfl, rfl⟩, IsList.kp (W := []) ht (keeps_kp kk []) (by simp), (ban_k Fresh.size t o e (solid_type ‹_ ∧ _›.1) hz).2, (r.banned Fresh.size).keeps kk, rfl⟩ lst_ban rfl)
theorem si_tup (h : Ev K e σ H (.tup l) H₁) : Si K tgt e σ H l H₁ := si_of h (.inl rfl)
theorem si_lst (h : Ev K e σ H (.lst l) H₁) : Si K tgt e σ H l H₁ := si_of h (.inr rfl)
variable {f : Expr} {es : List Expr} {pos : Pos} {fv : Value} {i j : Int}
theorem call_open (hfv : Ev K f σ H (.raw fv) H) (hes : EvL K es σ H vs H₁) (hc : CalleeOk K.B fv = true) (hf : callEq f es pos) (hso : starOk es = true) {Z A env s α} {Q : Value → Shared → Prop} {E : Value → Shared → Prop} (C : Cx K Z A env s α H σ)
    (h : ∀ ws s₁ α₁, Stp K.B Z [] α s α₁ H₁ s₁ → VRs Z α₁ s₁.heap vs ws → wpAny (model K.B.prog K.B.w) A (call fv ws []) Q E s₁) : wpAny (model K.B.prog K.B.w) A (eval (.Call f es [] pos) env) Q E s := by
  rw [hf]
  refine wpAny_bind (hfv _ E C fun w s₁ α₁ k₁ r₁ => ?_)
  rw [r₁.rawI]
  exact callWith_pos C.O hc [] (star_ok hso _) (hes pos _ E (C.step k₁) fun ws s₂ α₂ k₂ r₂ => ⟨k₂.inv.K C.O, h ws s₂ α₂ (k₁.trans k₂) r₂⟩)
theorem range_it {Z A env s₁ α₁} {a b : Int} {t u v : Tok} {tk : Nat} {Q : Value → Shared → Prop} {E : Value → Shared → Prop} (C : Cx K Z A env s₁ α₁ H₁ σ) (ha : -1048576 ≤ a ∧ a ≤ 1048576) (hb : -1048576 ≤ b ∧ b ≤ 1048576)
    (hQ : ∀ I wr St s₂ s₃ α₁', Stp K.B Z [] α₁ s₁ α₁' H₁ s₂ → Dr K.B Z tgt I ((rngL a (b - a).toNat).map .int) wr St s₂ s₃ α₁' → Q (.ref I) s₃) :
    wpAny (model K.B.prog K.B.w) A (pyIter (.ref s₁.heap.objs.size)) Q E { s₁ with heap := s₁.heap.push { cls := .type "range", data := .fields #[.int a t, .int b u, .int 1 v] }, toks := tk } := by
  have kk : Keeps s₁ { s₁ with heap := s₁.heap.push { cls := .type "range", data := .fields #[.int a t, .int b u, .int 1 v] }, toks := tk } := ⟨_, tk, rfl, fun b o e => Heap.get?_push_of_some _ e⟩
  have k : Stp K.B Z [] α₁ s₁ α₁ H₁ _ := .of_keeps C.I kk
  refine wpAny_pyIter_range (IsRange.new ..) (small_one (by omega) (by omega) (by omega) (by omega)) ?_
  rw [rangeSize_nat]
  exact hQ _ _ _ _ _ α₁ k (.one (St := fun _ => RngSt _) (C.step k).size (fun _ => wk_range) ⟨a, (b - a).toNat, Heap.get?_push_size _ rfl, rfl⟩ (fun _ _ _ _ _ _ h => h) rfl)
theorem si_range (hfv : Ev K f σ H (.raw (.type "range")) H) (hes : EvL K es σ H [.int j] H₁) (hj : -1048576 ≤ j ∧ j ≤ 1048576) (hf : callEq f es pos := by intro _; rfl) (hso : starOk es = true := by rfl) :
    Si K tgt (.Call f es [] pos) σ H ((rngL 0 j.toNat).map .int) H₁ := fun _ _ _ _ _ Q E C hQ => call_open hfv hes rfl hf hso C fun ws s₁ α₁ k₁ r₁ => by
  obtain ⟨_, _, rfl, r0, r⟩ := r₁.consI
  obtain ⟨_, rfl⟩ := r0.intI
  rw [r.nilI]
  exact call_range_1 (range_it (C.step k₁) (by decide) hj fun I wr St s₂ s₃ α₂ k₂ D => hQ I wr St s₂ s₃ α₂ (k₁.trans k₂) (by rw [Int.sub_zero] at D; exact D))
theorem si_range2 (hfv : Ev K f σ H (.raw (.type "range")) H) (hes : EvL K es σ H [.int i, .int j] H₁) (hi : -1048576 ≤ i ∧ i ≤ 1048576) (hj : -1048576 ≤ j ∧ j ≤ 1048576) (hf : callEq f es pos := by intro _; rfl) (hso : starOk es = true := by rfl) :
    Si K tgt (.Call f es [] pos) σ H ((rngL i (j - i).toNat).map .int) H₁ := fun _ _ _ _ _ Q E C hQ => call_open hfv hes rfl hf hso C fun ws s₁ α₁ k₁ r₁ => by
  obtain ⟨_, _, rfl, r0, r⟩ := r₁.consI
  obtain ⟨_, rfl⟩ := r0.intI
  obtain ⟨_, _, rfl, r2, r3⟩ := r.consI
  obtain ⟨_, rfl⟩ := r2.intI
  rw [r3.nilI]
  exact call_range_2 (range_it (C.step k₁) hi hj fun I wr St s₂ s₃ α₂ k₂ => hQ I wr St s₂ s₃ α₂ (k₁.trans k₂))
end
end Tg
namespace Tg
set_option maxHeartbeats 1000000
noncomputable def loN : Option Int → Nat
  | some a => a.toNat
  | none => 0
noncomputable def hiN (n : Nat) : Option Int → Nat
  | some b => b.toNat
  | none => n
theorem pick_eq (items : List Value) (lo hi : Option Int) (h1 : ∀ a, lo = some a → 0 ≤ a) (h2 : ∀ b, hi = some b → 0 ≤ b) :
    slicePick items.toArray lo hi none = ((items.take (hiN items.length hi)).drop (loN lo)).toArray := by
  rw [slicePick_plain]
  congr 1
  have key : ∀ a b : Nat, (items.drop (min a items.length)).take (min b items.length - min a items.length) = (items.take b).drop a := fun a b => by
    apply List.ext_getElem?
    intro i
    simp only [List.getElem?_take, List.getElem?_drop]
    by_cases ha : a ≤ items.length
    · rw [Nat.min_eq_left ha]
      by_cases hi : a + i < items.length
      · by_cases hb : a + i < b
        · rw [if_pos (by omega), if_pos hb]
        · rw [if_neg (by omega), if_neg hb]
      · rw [List.getElem?_eq_none (by omega)]; simp
    · have e1 : items[items.length + i]? = none := List.getElem?_eq_none (by omega)
      have e2 : items[a + i]? = none := List.getElem?_eq_none (by omega)
      rw [Nat.min_eq_right (show items.length ≤ a by omega), e1, e2]; simp
  have size : items.toArray.size = items.length := by simp
  rw [size]
  cases lo with
  | none =>
    cases hi with
    | none => simp [loN, hiN]
    | some b =>
      have := h2 b rfl
      obtain ⟨b', rfl⟩ := Int.eq_ofNat_of_zero_le this
      have := key 0 b'
      simpa [clipAt_nat, loN, hiN] using this
  | some a =>
    have := h1 a rfl
    obtain ⟨a', rfl⟩ := Int.eq_ofNat_of_zero_le this
    cases hi with
    | none =>
      have := key a' items.length
      simpa [clipAt_nat, loN, hiN] using this
    | some b =>
      have := h2 b rfl
      obtain ⟨b', rfl⟩ := Int.eq_ofNat_of_zero_le this
      have := key a' b'
      simpa [clipAt_nat, loN, hiN] using this

noncomputable def Bnd (v : V) : Option Int → Prop
  | some i => v = .int i ∧ 0 ≤ i
  | none => v = .none
theorem Bnd.part {Z α h v w o} (b : Bnd v o) (r : VR Z α h v w) : IsPart w o ∧ ∀ a, o = some a → 0 ≤ a := by
  cases o with
  | none => cases b; rw [r.noneI]; exact ⟨.none, fun _ e => nomatch e⟩
  | some i => obtain ⟨rfl, h⟩ := b; obtain ⟨_, rfl⟩ := r.intI; exact ⟨.int _ _, fun a e => by cases e; exact h⟩
noncomputable def PartV (K : Kx) (e : Option Expr) (σ : En) (H : AH) (v : V) (H' : AH) : Prop := match e with
  | some e => Ev K e σ H v H'
  | none => v = .none ∧ H' = H
section
variable {K : Kx} {X : Expr} {lo hi : Option Expr} {a b v : V} {σ : En} {H H₁ H₂ H₃ : AH} {i : Nat} {l : List V} {p pos : Pos} {ol oh : Option Int}
theorem PartV.wp {e : Option Expr} (h : PartV K e σ H v H₁) {Z A env s α} {Q : Value → Shared → Prop} {E : Value → Shared → Prop} (C : Cx K Z A env s α H σ)
    (hQ : ∀ w s' α', Stp K.B Z [] α s α' H₁ s' → VR Z α' s'.heap v w → Q w s') : wpAny (model K.B.prog K.B.w) A (evalPart e env) Q E s := by
  cases e with
  | none => obtain ⟨rfl, rfl⟩ := h; exact wpAny_of_eq (evalPart_none _) (hQ _ _ _ (.refl C.I) .none)
  | some e => exact h Q E C hQ
noncomputable def SlcR (H : AH) (a : V) (lo hi : Option Int) (v : V) (H' : AH) : Prop := ∀ ⦃B : Bs⦄ ⦃A : Around⦄ ⦃s : Shared⦄ ⦃Z α : List Addr⦄ ⦃x vl vu : Value⦄ ⦃sl : Addr⦄ ⦃value slice : Expr⦄ (Q : Value → Shared → Prop) (E : Value → Shared → Prop), Inv B Z α H s → B.g.objs.size ≤ s.heap.objs.size →
  VR Z α s.heap a x → IsPart vl lo → IsPart vu hi → s.heap.IsSliceOf sl vl vu .none → (∀ o i, ∃ ops, subscripted slice false o i = operate ops (getItem o i)) → (∀ w s' α', Stp B Z [] α s α' H' s' → VR Z α' s'.heap v w → Q w s') → wpAny (model B.prog B.w) A (subscriptTail value slice x (.ref sl)) Q E s
theorem slc_ls (hl : Lq a l H) (h1 : ∀ a, ol = some a → 0 ≤ a) (h2 : ∀ a, oh = some a → 0 ≤ a) (hz : l.length ≤ 1048576) : SlcR H a ol oh (.ref H.length) (H ++ [.list ((l.take (hiN l.length oh)).drop (loN ol))]) := fun _ _ _ _ _ _ _ _ _ _ _ Q E I hsz ra pl pu hs hop hQ => by
  obtain ⟨ax, ws, rfl, hls, r⟩ := hl.at I.hr ra
  obtain ⟨ops, hop⟩ := hop (.ref ax) (.ref _)
  have hlen := r.length
  refine tail_any hls.typeIs slot_list_getitem.lookup (wpAny_getItem_list_slice hls hs pl pu .none (by simp) ?_ (by rw [List.size_toArray, hlen]; exact Nat.le_trans hz (by decide))) hop
  rw [pick_eq _ _ _ h1 h2, hlen]
  obtain ⟨k, r'⟩ := list_made hsz I ((r.take (hiN l.length oh)).drop (loN ol)) 0
  exact hQ _ _ _ k r'
theorem slc_tup {n : Nat} (h1 : 1 ≤ n) (h2 : n ≤ l.length) (hz : l.length ≤ 1048576) {j : Int} (hj : j = n) : SlcR H (.tup l) (some j) none (.tup (l.drop n)) H := by
  intro B A s Z α x vl vu sl value slice Q E I hsz ra pl pu hs hop hQ
  obtain ⟨t, ws, rfl, ht, r, _⟩ := ra.tupI
  replace ht := ht.is
  obtain ⟨ops, hop⟩ := hop (.ref t) (.ref _)
  have hlen := r.length
  subst hj
  cases pl
  cases pu
  refine tail_any ht.typeIs slot_tuple_getitem.lookup (getItem_tuple_from ht hs h1 (by rw [List.size_toArray, hlen]; exact h2) ?_ (by rw [List.size_toArray, hlen]; exact Nat.le_trans hz (by decide))) hop
  have k := keeps_push s { cls := .type "tuple", data := .seq (ws.toArray.toList.drop n).toArray }
  exact hQ _ _ _ (.of_keeps I k) (.tup (vs := ws.drop n) ⟨0, by simpa using Heap.get?_push_size s.heap (o := { cls := .type "tuple", data := .seq (ws.toArray.toList.drop n).toArray }) rfl⟩ ((r.drop n).keeps k) I.new)
theorem ev_slice (hX : Ev K X σ H a H₁) (hlo : PartV K lo σ H₁ b H₂) (hb : Bnd b ol) {c : V} (hhi : PartV K hi σ H₂ c H₃) (hc : Bnd c oh) {H' : AH} (hs : SlcR H₃ a ol oh v H') : Ev K (.Subscript X (.Slice lo hi none p) pos) σ H v H' := fun _ _ _ _ _ Q E C hQ =>
  Subscript_ (hX _ E C fun x s₁ α₁ k₁ r₁ => wpAny_Slice (hlo.wp (C.step k₁) fun y s₂ α₂ k₂ r₂ => hhi.wp ((C.step k₁).step k₂) fun z s₃ α₃ k₃ r₃ => by
    refine wpAny_of_eq (evalPart_none _) ?_
    have kk := keeps_push s₃ { cls := .type "slice", data := .fields #[y, z, .none] }
    have k := ((k₁.trans k₂).trans k₃).trans (.of_keeps (W := []) k₃.inv kk)
    exact hs Q E k.inv (C.step k).size ((r₁.stp0 (k₂.trans k₃)).keeps kk) (hb.part (r₂.stp0 k₃)).1 (hc.part r₃).1 (Heap.IsSliceOf.new ..) (fun _ _ => ⟨_, rfl⟩) fun w s' α' k' => hQ w s' α' (k.trans k')))
end
end Tg
namespace Tg
set_option maxHeartbeats 1000000
section
variable {B : Bs} {n : Nat} {H : AH} {i : Nat} {l : List V} {v a : V}
theorem fn_tuple (hl : Lq a l H) (hz : l.length ≤ 1048576) : Fn B n (.type "tuple") [a] H (.tup l) H := by
  intro Z A s α ws Q E R O I hsz r hQ
  obtain ⟨_, _, rfl, ra, r⟩ := r.consI
  rw [r.nilI]
  obtain ⟨ax, ws, rfl, hls, r⟩ := hl.at I.hr ra
  refine call_tuple_list hls (fun h' hk => ?_) (by rw [List.size_toArray, r.length]; exact Nat.le_trans hz (by decide))
  have k1 : Keeps s { s with heap := h' } := ⟨h', s.toks, rfl, hk⟩
  have k := keeps_trans k1 (keeps_push { s with heap := h' } { cls := .type "tuple", data := .seq ws.toArray })
  exact hQ _ _ _ (.of_keeps I k) (.tup ⟨0, Heap.get?_push_size _ rfl⟩ (r.keeps k) (I.keeps k1).new)
theorem list_of {Z A s α} {a : Addr} {T : String} {o : Obj} {ws : List Value} {m : Nat} {Q : Value → Shared → Prop} {E : Value → Shared → Prop} (I : Inv B Z α H s) (hsz : B.g.objs.size ≤ s.heap.objs.size) (hT : T = "list" ∨ T = "tuple") (ho : s.heap.get? a = some o) (hc : o.cls = .type T) (hd : o.data = .seq ws.toArray m) (r : VRs Z α s.heap l ws) (hz : l.length ≤ 1048576)
    (hQ : ∀ w s' α', Stp B Z [] α s α' (H ++ [.list l]) s' → VR Z α' s'.heap (.ref H.length) w → Q w s') : wpAny (model B.prog B.w) A (call (.type "list") [.ref a]) Q E s :=
  call_list_seq a hT ho hc hd (fun h' c' hk e => by
    obtain ⟨k, r'⟩ := new_list (tk := s.toks) I hsz hk (none_new' (Nat.le_refl _)) e r
    exact hQ _ _ _ k r') (by rw [List.size_toArray, r.length]; exact Nat.le_trans hz (by decide))
theorem fn_list_tup (hz : l.length ≤ 1048576) : Fn B n (.type "list") [.tup l] H (.ref H.length) (H ++ [.list l]) := fun _ _ _ _ _ Q E R O I hsz r hQ => by
  obtain ⟨_, _, rfl, ra, r⟩ := r.consI
  rw [r.nilI]
  obtain ⟨t, ws, rfl, ⟨m, e⟩, r, _⟩ := ra.tupI
  exact list_of I hsz (.inr rfl) e rfl rfl r hz hQ
end
end Tg
namespace Tg
set_option maxHeartbeats 1000000
section
variable {H : AH} {a b : V} {l m : List V}
theorem bin_lcat (hl : Lq a l H) (hm : Lq b m H) (hz : l.length + m.length ≤ 1048576) : BinR .Add H a b (.ref H.length) (H ++ [.list (l ++ m)]) := by
  intro B A s Z α x y Q E I hsz ra rb hQ
  obtain ⟨a, vs, rfl, hl, r⟩ := hl.at I.hr ra
  obtain ⟨b, ws, rfl, hm, q⟩ := hm.at I.hr rb
  obtain ⟨⟨cls, dd, data, sl⟩, ho, hc, n, hd⟩ := hl
  obtain ⟨⟨cls2, dd2, data2, sl2⟩, ho2, hc2, n2, hd2⟩ := hm
  simp only at hc hd hc2 hd2
  subst hc hd hc2 hd2
  have e1 := r.length
  have e2 := q.length
  refine concat_meets ⟨_, ho, rfl⟩ ⟨_, ho2, rfl⟩ noFill_list_add seq_list_add PySem.F.slot_list_add PySem.F.entry_list_add (PySem.F.args_list_add_2 _ _)
    (list_addW a b vs.toArray ws.toArray n n2 dd dd2 sl sl2 (by rw [List.size_toArray, List.size_toArray, e1, e2]; exact Nat.le_trans hz (by decide))) ⟨ho, ho2, ?_⟩
  obtain ⟨k, r'⟩ := list_made hsz I (r.append q) 0
  rw [List.append_toArray]
  exact hQ _ _ _ k r'
end
end Tg
namespace Tg
set_option maxHeartbeats 1000000
section
variable {B : Bs} {Z α : List Addr} {H : AH} {s : Shared} {A : Around} {k : Nat} {a : Addr} {l l' : List V} {v : V} {x : Value} {ws' : List Value} {m' : Nat} {E : Value → Shared → Prop}
theorem Stp.wlist {h' : Heap} {tk : Nat} (O : B.Ok) (I : Inv B Z α H s) (hi : α[k]? = some a) (hl : H[k]? = some (.list l)) (hs : Heap.SameBut a s.heap h') (e' : h'.get? a = some { cls := .type "list", data := .seq ws'.toArray m' }) (r : VRs Z α s.heap l' ws') :
    Stp B Z [] α s α (H.set k (.list l')) { s with heap := h', toks := tk } := by
  obtain ⟨hup, ws, m, e, _⟩ := I.hr.obj _ _ _ hl hi
  have kp : Kp [a] s.heap h' := SameBut.kp hs (.head _)
  have ha : ∀ b ∈ [a], b ∈ Z ++ α := fun b hb => by rw [List.mem_singleton.mp hb]; exact List.mem_append_right _ (List.mem_of_getElem? hi)
  have hr : HR Z B.g.objs.size α (H.set k (.list l')) h' := I.hr.set (W := []) hi kp (fun _ h => nomatch h) ⟨hup, ws', m', e', r.mono0 kp ha⟩
  have th := SameBut.there hs e'
  exact ⟨⟨[], by simp, .nil⟩, I.write (tk := tk) O hup hs (fun o eo vs d => by rw [e] at eo; cases eo; cases d) hr th, kp.mono fun b hb => by rw [List.mem_singleton] at hb; subst hb; exact List.mem_append_right _ (List.mem_of_getElem? hi), th⟩
theorem append_wp {Q : Value → Shared → Prop} (O : B.Ok) (I : Inv B Z α H s) (hi : α[k]? = some a) (hl : H[k]? = some (.list l)) (r : VR Z α s.heap v x) (hsz : l.length ≤ 1048576) (hQ : ∀ s', Stp B Z [] α s α (H.set k (.list (l ++ [v]))) s' → Q .none s') :
    wpAny (model B.prog B.w) A (call (.builtin "list.append") [.ref a, x]) Q E s := by
  obtain ⟨hup, ws, m, e, rs⟩ := I.hr.obj _ _ _ hl hi
  refine wpAny_list_append_plain (hsz := by rw [List.size_toArray, rs.length]; exact Nat.le_trans hsz (by decide)) ⟨m, e⟩ fun h' hp hs => ?_
  obtain ⟨m', e'⟩ := hp
  exact hQ _ (.wlist (tk := s.toks) (ws' := ws ++ [x]) (m' := m') O I hi hl hs (by rw [e']; simp) (rs.append (.one r)))
theorem pop_wp {Q : Value → Shared → Prop} (O : B.Ok) (I : Inv B Z α H s) (hi : α[k]? = some a) (hl : H[k]? = some (.list (l ++ [v]))) (hsz : l.length < 1048576) (hQ : ∀ w s', Stp B Z [] α s α (H.set k (.list l)) s' → VR Z α s'.heap v w → Q w s') :
    wpAny (model B.prog B.w) A (call (.builtin "list.pop") [.ref a]) Q E s := by
  obtain ⟨hup, ws, m, e, rs⟩ := I.hr.obj _ _ _ hl hi
  obtain ⟨y, hy, ry⟩ := rs.get (i := l.length) (x := v) (by simp)
  have hlen := rs.length
  rw [List.length_append, List.length_singleton] at hlen
  have ra : VRs Z α s.heap l (ws.take l.length) := by have := rs.take l.length; rwa [List.take_left] at this
  refine Copied.pop_at (y := y) e (by rw [List.size_toArray, hlen]; simpa using hy) (fun h' hs e' => ?_) (by rw [List.size_toArray, hlen]; exact Nat.le_trans hsz (by decide))
  have st : Stp B Z [] α s α (H.set k (.list l)) { s with heap := h' } := .wlist (tk := s.toks) (ws' := ws.take l.length) O I hi hl hs (by
    rw [e']
    have : ws.take l.length = ws.dropLast := by rw [List.dropLast_eq_take, hlen, Nat.add_sub_cancel]
    rw [this, List.pop_toArray]) ra
  exact hQ y _ st (ry.stp0 st)
theorem set_wp {Q : Unit → Shared → Prop} (O : B.Ok) (I : Inv B Z α H s) (hi : α[k]? = some a) (hl : H[k]? = some (.list l)) (r : VR Z α s.heap v x) {i : Int} {j : Nat} {t : Tok} (hj : i = j ∨ i = (j : Int) - l.length) (hlt : j < l.length) (hsz : l.length ≤ 1048576) (hQ : ∀ s', Stp B Z [] α s α (H.set k (.list (l.set j v))) s' → Q () s') :
    wpAny (model B.prog B.w) A (setItem (.ref a) (.int i t) x) Q E s := by
  obtain ⟨hup, ws, m, e, rs⟩ := I.hr.obj _ _ _ hl hi
  have hlen := rs.length
  have fin : Q () { s with heap := s.heap.update a (Obj.mapSeq (·.setIfInBounds j x)) } := by
    have ee : Obj.mapSeq (fun y => y.setIfInBounds j x) { cls := .type "list", data := .seq ws.toArray m } = { cls := .type "list", data := .seq (ws.set j x).toArray m } := by
      simp [Obj.mapSeq]
    have := Heap.get?_update_self (Obj.mapSeq (·.setIfInBounds j x)) e (by rw [ee]; rfl)
    exact hQ _ (.wlist (tk := s.toks) O I hi hl (Heap.SameBut.update ..) (this.trans (congrArg some ee)) (rs.set r j))
  rcases hj with rfl | rfl
  · exact ki_setAt (n := m) e (by omega) (by omega) (by rw [List.size_toArray, hlen]; omega) fin
  · refine ki_setBack (n := m) e (by omega) (by rw [List.size_toArray, hlen]; omega) (by omega) ?_
    rw [List.size_toArray, hlen]
    have : ((j : Int) - l.length + l.length).toNat = j := by omega
    rw [this]
    exact fin
theorem list_iconcat {M : Model} {A : Around} {E : Value → Shared → Prop} {s : Shared} {a b : Value} {Q : Value → Shared → Prop} (ha : s.TypeIs a "list") (hb : s.TypeIs b "list") (hc : wpAny M A (call (.builtin "list.__iadd__") [a, b]) Q E s) : wpAny M A (inplaceOp .Add a b) Q E s := by
  have hi : isSeqSlot (some (.builtin "list.__iadd__")) = true := by decide +kernel
  have hl : typeLookup (.type "list") (dunderI "add") = pure (some (.builtin "list.__iadd__")) := PySem.F.slot_list_iadd.lookup
  have hfi : fillsInplaceSlot (.type "list") "add" (Operator.Add == .Add) = pure false := by
    unfold fillsInplaceSlot
    show (typeLookup (.type "list") (dunderI "add") >>= fun fi => pure (fi.isSome && !isSeqSlot fi)) = pure false
    rw [hl]
    show (pure ((some (Value.builtin "list.__iadd__")).isSome && !isSeqSlot (some (.builtin "list.__iadd__"))) : Sem Bool) = _
    rw [hi]; rfl
  unfold inplaceOp
  refine wpAny_holding ?_
  refine wpAny_bind (wpAny_typeOf ha (wpAny_bind (wpAny_of_eq hfi ?_)))
  show wpAny M A (if false = true then _ else _) Q E s
  rw [if_neg Bool.false_ne_true]
  refine wpAny_bind (wpAny_binaryOp1_none (nm := "add") ha hb noFill_list_add ?_)
  exact wpAny_bind (wpAny_of_eq (PySem.seqSlot_of hl hi) (wpAny_bind (wpAny_rule hc)))
theorem iop_cat {i j : Nat} {m : List V} (hl : H[i]? = some (.list l)) (hm : H[j]? = some (.list m)) (hz : l.length + m.length ≤ 1048576) : IopR .Add H (.ref i) (.ref j) (.ref i) (H.set i (.list (l ++ m))) := by
  intro B A s Z α x y Q E O I hsz ra rb hQ
  obtain ⟨a, rfl, hi⟩ := ra.refI
  obtain ⟨b, rfl, hj⟩ := rb.refI
  obtain ⟨hup, ws, n, e, rs⟩ := I.hr.obj _ _ _ hl hi
  obtain ⟨_, us, n', e', ru⟩ := I.hr.obj _ _ _ hm hj
  have h1 := rs.length
  have h2 := ru.length
  have hs : ws.toArray.size + us.toArray.size ≤ 1048576 := by rw [List.size_toArray, List.size_toArray, h1, h2]; exact hz
  have big : (1048576 : Nat) ≤ sizeLine := by decide
  refine list_iconcat ⟨_, e, rfl⟩ ⟨_, e', rfl⟩ (call_meets PySem.F.slot_list_iadd ⟨_, e, rfl⟩ PySem.F.entry_list_iadd (PySem.F.args_list_iadd_2 _ _)
    (PySem.AutoSeq1.list___iadd___list_list_0 a ws.toArray n b us.toArray n' (by unfold Builtin.List.listTooLong; simp; intro _; simp at hs; omega) (by omega) (by omega)) ⟨e, e', ?_⟩)
  obtain ⟨n'', ee⟩ : ∃ n'', Obj.mapSeq (fun x => x ++ us.toArray) { cls := .type "list", data := .seq ws.toArray n } = { cls := .type "list", data := .seq (ws ++ us).toArray n'' } := ⟨if us = [] then n else n + 1, by simp [Obj.mapSeq]⟩
  have := Heap.get?_update_self (Obj.mapSeq (fun x => x ++ us.toArray)) e (by rw [ee]; rfl)
  exact hQ _ _ _ (.wlist (tk := s.toks) O I hi hl (Heap.SameBut.update ..) (this.trans (congrArg some ee)) (rs.append ru)) (.ref hi)
end
section
variable {K : Kx} {σ : En} {H H₁ H₂ H₃ : AH} {v w a b : V} {o e r : Expr} {i j : Nat} {l l₁ : List V} {pos ap sp : Pos} {k : Int}
theorem ev_append (ho : Ev K o σ H (.ref i) H₁) (he : Ev K e σ H₁ v H₂) (h1 : H₁[i]? = some (.list l₁)) (h2 : H₂[i]? = some (.list l)) (hz : l.length ≤ 1048576) (hev : methEq o "append" ap [e] pos := by intro _; exact ⟨_, rfl⟩) (hso : starOk [e] = true := by rfl) :
    Ev K (.Call (.Attribute o "append" ap) [e] [] pos) σ H .none (H₂.set i (.list (l ++ [v]))) := fun _ _ _ _ _ Q E C hQ => by
  obtain ⟨pl, hev⟩ := hev _
  refine methodCall_KW (ho _ E C fun w s₁ α₁ k₁ r₁ => ?_) hev
  obtain ⟨a, rfl, hi⟩ := r₁.refI
  obtain ⟨_, ws, m, e0, r⟩ := k₁.inv.hr.obj _ _ _ h1 hi
  refine PySem.Calls.getMethod_list_append e0 rfl rfl ?_
  have C₁ := C.step k₁
  refine callWith_pos C.O rfl [_] (star_ok hso _) ?_
  rw [star_ok hso _ e (.head _)]
  exact spliced_cons (he _ E C₁ fun w s₂ α₂ k₂ r₂ => spliced_none ⟨k₂.inv.K C.O, append_wp C.O k₂.inv (k₂.get hi) h2 r₂ hz fun s₃ k₃ => hQ _ _ _ ((k₁.trans k₂).trans k₃) .none⟩)
theorem ev_pop (ho : Ev K o σ H (.ref i) H₁) (h1 : H₁[i]? = some (.list (l ++ [v]))) (hz : l.length < 1048576) (hev : methEq o "pop" ap [] pos := by intro _; exact ⟨_, rfl⟩) :
    Ev K (.Call (.Attribute o "pop" ap) [] [] pos) σ H v (H₁.set i (.list l)) := fun _ _ _ _ _ Q E C hQ => by
  obtain ⟨pl, hev⟩ := hev _
  refine methodCall_KW (ho _ E C fun w s₁ α₁ k₁ r₁ => ?_) hev
  obtain ⟨a, rfl, hi⟩ := r₁.refI
  obtain ⟨_, ws, m, e0, r⟩ := k₁.inv.hr.obj _ _ _ h1 hi
  refine Copied.getMethod_pop_at e0 rfl rfl ?_
  exact callWith_pos C.O rfl [_] (star_ok rfl _) (spliced_none ⟨k₁.inv.K C.O, pop_wp C.O k₁.inv hi h1 hz fun w s₂ k₂ r₂ => hQ _ _ _ (k₁.trans k₂) r₂⟩)
theorem st_setitem (he : Ev K e σ H v H₁) (ho : Ev K o σ H₁ (.ref i) H₂) (hr : Ev K r σ H₂ (.int k) H₃) (hl : H₃[i]? = some (.list l)) (hk : k = j ∨ k = (j : Int) - l.length) (hlt : j < l.length) (hz : l.length ≤ 1048576)
    (hsw : ∀ env, swapsWith e (some (.Subscript o r sp)) pos.line env = pure false := by intro _; rfl) : St K (.Assign [.Subscript o r sp] e pos) σ H .next σ (H₃.set i (.list (l.set j v))) := fun _ _ _ _ _ Q E C hQ =>
  wpAny_Assign_Subscript (he _ E C.toCx fun w s₁ α₁ k₁ r₁ => ho _ E (C.step k₁).toCx fun x s₂ α₂ k₂ r₂ => hr _ E ((C.step k₁).step k₂).toCx fun y s₃ α₃ k₃ r₃ => by
    obtain ⟨a, rfl, hi⟩ := r₂.refI
    obtain ⟨_, rfl⟩ := r₃.intI
    have k₁₃ := (k₁.trans k₂).trans k₃
    exact set_wp C.O k₃.inv (k₃.get hi) hl (r₁.stp0 (k₂.trans k₃)) hk hlt hz fun s₄ k₄ => hQ _ _ _ (k₁₃.trans k₄).wide (C.step (k₁₃.trans k₄)).F .next) (hsw _)
end
end Tg
namespace Tg
set_option maxHeartbeats 1000000
section
variable {B : Bs} {n : Nat} {H : AH} {i : Int} {b : Bool} {c : Value} {its : List Value} {a : V} {l : List Int}
theorem vrs_raw {Z α h} : ∀ {its : List Value} {ws : List Value}, VRs Z α h (its.map .raw) ws → ws = its
  | [], ws, r => r.nilI
  | x :: its, ws, r => by obtain ⟨_, xs, rfl, r0, r⟩ := r.consI; rw [r0.rawI, vrs_raw r]
theorem vrs_ints {Z α h} : ∀ {l : List Int} {ws : List Value}, VRs Z α h (l.map .int) ws → ∃ xs : List (Int × Tok), ws = xs.map (fun p => .int p.1 p.2) ∧ xs.map (·.1) = l
  | [], ws, r => ⟨[], r.nilI, rfl⟩
  | x :: l, ws, r => by
    obtain ⟨_, xs, rfl, r0, r1⟩ := r.consI
    obtain ⟨t, rfl⟩ := r0.intI
    obtain ⟨ys, rfl, rfl⟩ := vrs_ints r1
    exact ⟨(x, t) :: ys, rfl, rfl⟩
theorem fn_isi (h : kitOne B.K (.type "int") c = some b) : Fn B n (.builtin "isinstance") [.int i, .raw c] H (.bool b) H := fun _ _ _ _ _ Q E R O I hsz r hQ => by
  obtain ⟨_, _, rfl, r0, r⟩ := r.consI
  obtain ⟨_, _, rfl, r1, r⟩ := r.consI
  rw [r.nilI, r1.rawI]
  obtain ⟨_, rfl⟩ := r0.intI
  exact kia_one kitx_int (I.K O) trivial h (by intro e; cases e) fun tk => hQ _ _ _ (.of_keeps I (Keeps.toks _ _)) (.bool _)
theorem fn_isit (h : kitAny B.K (.type "int") its = some b) : Fn B n (.builtin "isinstance") [.int i, .tup (its.map .raw)] H (.bool b) H := fun _ _ _ _ _ Q E R O I hsz r hQ => by
  obtain ⟨_, _, rfl, r0, r⟩ := r.consI
  obtain ⟨_, _, rfl, r1, r⟩ := r.consI
  rw [r.nilI]
  obtain ⟨_, rfl⟩ := r0.intI
  obtain ⟨_, ws, rfl, ⟨m, e⟩, q, _⟩ := r1.tupI
  obtain rfl := vrs_raw q
  exact kia_tup kitx_int (I.K O) trivial e h (by intro e; cases e) fun tk => hQ _ _ _ (.of_keeps I (Keeps.toks _ _)) (.bool _)
theorem fn_abs : Fn B n (.builtin "abs") [.int i] H (.int i.natAbs) H := fun _ _ _ _ _ Q E R O I hsz r hQ => by
  obtain ⟨_, _, rfl, r0, r⟩ := r.consI
  rw [r.nilI]
  obtain ⟨_, rfl⟩ := r0.intI
  refine call_abs_int fun u tk => hQ _ _ _ (.of_keeps I (Keeps.toks _ _)) ?_
  have : (if i < 0 then -i else i) = i.natAbs := by split <;> omega
  rw [this]; exact .int _ _
theorem fn_sum (hl : Lq a (l.map .int) H) : Fn B n (.builtin "sum") [a] H (.int l.sum) H := fun _ _ _ _ _ Q E R O I hsz r hQ => by
  obtain ⟨_, _, rfl, r0, r⟩ := r.consI
  rw [r.nilI]
  obtain ⟨ax, ws, rfl, hls, q⟩ := hl.at I.hr r0
  obtain ⟨xs, rfl, rfl⟩ := vrs_ints q
  refine sum_intListG (xs := xs.toArray) R.h (by simpa [intItems] using hls) fun h' tk t' hk => ?_
  rw [preSum_eq, List.take_of_length_le (by simp)]
  exact hQ _ _ _ (.of_keeps I ⟨h', tk, rfl, hk⟩) (.int _ _)
theorem perm_sorted {l m : List Int} (hp : l.Perm m) (h1 : l.Pairwise (· ≤ ·)) (h2 : m.Pairwise (· ≤ ·)) : l = m :=
  hp.eq_of_pairwise (fun a b _ _ h1 h2 => Int.le_antisymm h1 h2) h1 h2
theorem ints_are : ∀ xs : List (Int × Tok), IntsAre (xs.map (fun p => Value.int p.1 p.2)) (xs.map (·.1))
  | [] => .nil
  | (x, t) :: xs => .cons x t (ints_are xs)
theorem are_vrs {Z α h} {ws : List Value} {ns : List Int} (hI : IntsAre ws ns) : VRs Z α h (ns.map .int) ws := by
  induction hI with
  | nil => exact .nil
  | cons _ _ _ ih => exact .cons (.int _ _) ih
theorem collect_tup {prog : Program} {w : World} {A : Around} {E : Value → Shared → Prop} {s : Shared} {t : Addr} {vs : List Value} {Q : List Value → Shared → Prop} (ht : Tu s.heap t vs.toArray) (hz : vs.length ≤ sizeLine)
    (h : ∀ h', (∀ b o, s.heap.get? b = some o → h'.get? b = some o) → s.heap.objs.size ≤ h'.objs.size → Q vs { s with heap := h' }) : wpAny (model prog w) A (collect (.ref t)) Q E s := by
  obtain ⟨n, ho⟩ := ht
  have ho' : (s.heap.push (seqObj "list" #[] 0)).get? t = some { cls := .type "tuple", data := .seq vs.toArray n } := Heap.get?_push_of_some _ ho
  have hl : (s.heap.push (seqObj "list" #[] 0)).get? s.heap.objs.size = some (seqObj "list" #[] 0) := Heap.get?_push_size _ rfl
  unfold collect
  refine wpAny_bind (wpAny_runValue (codeAny_builtin entry_proto_collect' ?_))
  show wpAny _ _ (newList [] >>= fun l => again (.builtin "list.__iadd__" ⟨[l, .ref t], []⟩)) _ _ s
  refine wpAny_bind (wpAny_newList (wpAny_pure ⟨Code.quiet_builtin _ (by decide +kernel), codeAny_builtin entry_list_iadd' ?_⟩))
  show wpAny _ _ (Builtin.List.listExtendWith (.ref s.heap.objs.size) (.ref t) (.ref s.heap.objs.size)) _ _ { s with heap := s.heap.push (seqObj "list" #[] 0) }
  unfold Builtin.List.listExtendWith
  refine wpAny_bind (wpAny_typeOf (T := "tuple") ⟨_, ho', rfl⟩ ?_)
  have tt : (Value.type "tuple" == Value.type "tuple") = true := rfl
  rw [if_pos (by rw [tt]; simp)]
  refine wpAny_bind (listItems_at ho' rfl (wpAny_bind (listItems_at (xs := #[]) (n := 0) hl rfl ?_)))
  rw [if_neg (by simp)]
  refine wpAny_bind (listUpdate_at (xs := #[]) (n := 0) hl rfl (wpAny_pure ?_) (Nat.zero_le _) (by show (#[] ++ vs.toArray).size ≤ sizeLine + 1; simp only [Array.size_append, List.size_toArray, List.length_nil]; omega))
  show wpAny (model prog w) A (load s.heap.objs.size >>= _) Q E _
  refine wpAny_bind (wpAny_load (get?_update_seq hl _) ?_)
  have e : ((#[] : Array Value) ++ vs.toArray).toList = vs := by simp
  show wpAny _ _ (pure ((#[] : Array Value) ++ vs.toArray).toList) Q E _
  rw [e]
  exact wpAny_pure (h _ (fun b o eb => (Heap.get?_update_ne _ _ _ _ (Nat.ne_of_lt (Heap.lt_size eb))).trans (Heap.get?_push_of_some _ eb)) (by rw [Heap.size_update, size_push']; exact Nat.le_succ _))
theorem fn_sorted {m : List Int} (hp : m.Perm l) (hs : m.Pairwise (· ≤ ·)) (h64 : l.length < 64) : Fn B n (.builtin "sorted") [tI l] H (.ref H.length) (H ++ [.list (m.map .int)]) := by
  intro Z A s α ws Q E R O I hsz r hQ
  obtain ⟨_, _, rfl, r0, r⟩ := r.consI
  rw [r.nilI]
  obtain ⟨ax, ws, rfl, ⟨k, e⟩, q, _⟩ := r0.tupI
  obtain ⟨xs, rfl, rfl⟩ := vrs_ints q
  have hlen : (xs.map fun p => Value.int p.1 p.2).length < 64 := by simpa using h64
  refine Calls.call_function_entry kind_sorted plain_sorted entry_sorted (args_sorted1 _) ?_
  unfold Builtin.«sorted»
  refine wpAny_bind (m := checkCount "sorted" 1 1 _) (wpAny_pure ?_)
  have big : (xs.map fun p => Value.int p.1 p.2).length ≤ sizeLine := Nat.le_trans (Nat.le_of_lt hlen) (by decide)
  refine wpAny_bind (collect_tup ⟨k, e⟩ big fun h₁ hk hz1 => wpAny_bind (wpAny_newList ?_ big))
  have k₁ : Keeps s { s with heap := h₁ } := ⟨h₁, s.toks, rfl, hk⟩
  have I₁ := I.keeps k₁
  have hoL : (h₁.push (seqObj "list" (xs.map fun p => Value.int p.1 p.2).toArray 0)).get? h₁.objs.size = some (seqObj "list" (xs.map fun p => Value.int p.1 p.2).toArray 0) := Heap.get?_push_size _ rfl
  refine wpAny_bind (wpAny_holding (wpAny_call_entry slot_list_sort ⟨_, hoL, rfl⟩ entry_list_sort (list_sort_tree hoL (ints_are xs) hlen fun out ns' a1 a2 a3 => ⟨_, rfl, ?_⟩) (args_list_sort _)))
  refine wpAny_pure ⟨_, rfl, ?_⟩
  obtain ⟨e', he⟩ := sortedHeap_at (out := out) hoL
  have hkeep : ∀ b o, h₁.get? b = some o → (sortedHeap (h₁.push (seqObj "list" (xs.map fun p => Value.int p.1 p.2).toArray 0)) h₁.objs.size (xs.map fun p => Value.int p.1 p.2) out).get? b = some o := fun b o eb => by
    have hlt := Heap.lt_size eb
    rw [sortedHeap_old (Nat.ne_of_lt hlt) (by rw [size_push']; exact Nat.lt_succ_of_lt hlt), Heap.get?_push_ne _ _ _ (Nat.ne_of_lt hlt)]
    exact eb
  obtain rfl : ns' = m := perm_sorted (a2.trans hp.symm) a3 hs
  obtain ⟨k, r'⟩ := new_list (tk := s.toks) I₁ (Nat.le_trans hsz hz1) hkeep (none_new' (Nat.le_refl _)) he (are_vrs a1)
  exact hQ _ _ _ ((Stp.of_keeps I k₁).trans k) r'
end
end Tg
namespace Tg
set_option maxHeartbeats 1000000
section
variable {H : AH} {i j : Int} {a b : V} {l : List V} {p q : Bool}
theorem iop_mul (h : small i = true) : IopR .Mult H (.int i) (.int j) (.int (i * j)) H := fun _ _ _ _ _ _ _ Q E _ I _ ra rb hQ => by
  obtain ⟨_, rfl⟩ := ra.intI; obtain ⟨_, rfl⟩ := rb.intI; exact imul_int (hQ _ _ _ (.of_keeps I (Keeps.toks _ _)) (.int _ _)) (.of_left (small_bits h))
theorem VRs.rep {Z α : List Addr} {h : Heap} {l : List V} {ws : List Value} (r : VRs Z α h l ws) : ∀ k : Nat, VRs Z α h (List.replicate k l).flatten (List.replicate k ws).flatten
  | 0 => .nil
  | k + 1 => by simp only [List.replicate_succ, List.flatten_cons]; exact r.append (r.rep k)
theorem bin_rep {i : Nat} {k : Int} (hl : H[i]? = some (.list l)) (h1 : l.length ≤ 64) (h0 : 0 ≤ k) (h2 : k ≤ 64) : BinR .Mult H (.ref i) (.int k) (.ref H.length) (H ++ [.list (List.replicate k.toNat l).flatten]) := by
  intro B A s Z α x y Q E I hsz ra rb hQ
  obtain ⟨a, rfl, hi⟩ := ra.refI
  obtain ⟨u, rfl⟩ := rb.intI
  obtain ⟨_, ws, m, e, r⟩ := I.hr.obj _ _ _ hl hi
  have hlen := r.length
  have hb : ws.length * k.toNat ≤ 64 * 64 := Nat.mul_le_mul (by omega) (by omega)
  refine PySem.wpAny_binaryOp_repeat_ref (T := "list") (U := "int") (by decide) ⟨_, e, rfl⟩ (fun s' => typeIs_int s' k u) PySem.noFill_list_mul PySem.F.fills_int_mul PySem.F.slot_int_rmul PySem.repeat_list PySem.F.slot_int_index.lookup
    (call_meets PySem.F.slot_int_rmul (typeIs_int s k u) PySem.F.entry_int_rmul (PySem.F.args_int_rmul_2 _ _) (lm_int_rmul_list_any k u a ws.toArray m none #[])
      ⟨e, rfl, ⟨_, e, rfl⟩, call_meets PySem.F.slot_list_mul ⟨_, e, rfl⟩ PySem.F.entry_list_mul (PySem.F.args_list_mul_2 _ _)
        (lm_list_mul_any a ws.toArray m none #[] k u (by simp [Builtin.List.listFitsIndex]; omega) (by rw [List.size_toArray]; omega) (by simp [Builtin.List.listTooLong, sizeLine]; omega))
        ⟨e, ?_⟩⟩)
  rw [listMul_foldl_if]
  obtain ⟨k', r''⟩ := list_made hsz I (r.rep k.toNat) 0
  exact hQ _ _ _ k' r''
theorem c_neb : CmpR H .NotEq (.bool p) (.bool q) (!(p == q)) := by
  intro B A s Z α x y Q E hu I ra rb hQ
  rw [ra.boolI, rb.boolI]
  refine ne_dataH (Reads.bool p) (Reads.bool q) rfl rfl hu ?_
  cases p <;> cases q <;> exact hQ
end
section
variable {K : Kx} {σ σ' : En} {H H₁ H₂ H₃ : AH} {a b c d v : V} {l r₁ r₂ r₃ e X : Expr} {pos p k1p : Pos} {op₁ op₂ op₃ : CmpOp} {t : Bool} {vs : List V}
theorem ev_cmp3 (h0 : Ev K l σ H a H) (h1 : Ev K r₁ σ H b H) (h2 : Ev K r₂ σ H c H) (h3 : Ev K r₃ σ H d H) (q1 : CmpR H op₁ a b true) (q2 : CmpR H op₂ b c true) (q3 : CmpR H op₃ c d t)
    (hm : lastMarks [op₁, op₂, op₃] [r₁, r₂, r₃] = false := by rfl) : Ev K (.Compare l [op₁, op₂, op₃] [r₁, r₂, r₃] pos) σ H (.bool t) H := fun _ _ _ _ _ Q E C hQ => by
  refine Compare_chain (h0 _ E C fun w₀ s₀ α₀ k₀ v₀ => chain_link (h1 _ E (C.step k₀) fun w₁ s₁ α₁ k₁ v₁ => q1 _ E C.R.cmp k₁.inv (v₀.stp0 k₁) v₁ (wpAny_truthy_bool ?_))) hm
  rw [if_pos rfl]
  have C₁ := (C.step k₀).step k₁
  refine chain_link (h2 _ E C₁ fun w₂ s₂ α₂ k₂ v₂ => q2 _ E C.R.cmp k₂.inv (v₁.stp0 k₂) v₂ (wpAny_truthy_bool ?_))
  rw [if_pos rfl]
  exact chain_last (h3 _ E (C₁.step k₂) fun w₃ s₃ α₃ k₃ v₃ => q3 _ E C.R.cmp k₃.inv (v₂.stp0 k₃) v₃ (hQ _ _ _ (((k₀.trans k₁).trans k₂).trans k₃) (.bool _)))
theorem ev_srev {k1 : Nat} {p1 p2 : Pos} (hX : Ev K X σ H a H₁) (hl : Lq a vs H₁) (hz : vs.length ≤ 1048576) : Ev K (.Subscript X (.Slice none none (some (.UnaryOp .USub (.Constant (.int 1) k1 p1) p2)) p) pos) σ H (.ref H₁.length) (H₁ ++ [.list vs.reverse]) := by
  intro Z A env s α Q E C hQ
  refine Subscript_ (hX _ E C fun o s₁ α₁ k₁ r₁ => wpAny_Slice (wpAny_of_eq (evalPart_none _) (wpAny_of_eq (evalPart_none _) ?_)))
  show wpAny _ A (eval (.UnaryOp .USub (.Constant (.int 1) k1 p1) p2) env) _ E s₁
  refine wpAny_UnaryOp (wpAny_Constant_int (neg_int ?_))
  have kk : Keeps s₁ { s₁ with heap := s₁.heap.push { cls := .type "slice", data := .fields #[.none, .none, .int (-1) (s₁.toks + 1)] }, toks := s₁.toks + 1 + 1 } := ⟨_, _, rfl, fun b o e => Heap.get?_push_of_some _ e⟩
  have k₃ := k₁.trans (.of_keeps (W := []) k₁.inv kk)
  obtain ⟨ax, ws, rfl, hls, r⟩ := hl.at k₃.inv.hr (r₁.keeps kk)
  have hlen := r.length
  refine tail_any hls.typeIs slot_list_getitem.lookup (wpAny_getItem_list_slice hls (Heap.IsSliceOf.new ..) .none .none (.int _ _) (by decide) ?_ (by rw [List.size_toArray, hlen]; exact Nat.le_trans hz (by decide))) (ops := [_, _]) rfl
  rw [krv_pick]
  obtain ⟨k, r'⟩ := list_made (C.step k₃).size k₃.inv r.reverse 0
  exact hQ _ _ _ (k₃.trans k) r'
theorem st_assign_t {elts : List Expr} {k : Nat} {tp : Pos} (he : Ev K e σ H v H₁) (ht : At K true (.Tuple elts k tp) v σ σ') (hsw : ∀ env, swapsWithSole [.Tuple elts k tp] e pos.line env = pure false := by intro _; rfl)
    (hw : ∀ env, swappedStores [.Tuple elts k tp] e env = pure none := by intro _; rfl) : St K (.Assign [.Tuple elts k tp] e pos) σ H .next σ' H₁ := fun _ _ _ _ _ Q E C hQ =>
  Assign_Tuple (he _ E C.toCx fun w s₁ α₁ k₁ r₁ => ht _ E (C.step k₁).toCx (fun _ => C.W.fe) r₁ fun s₂ k₂ F₂ _ => hQ _ _ _ (k₁.wide.trans k₂) F₂ .next) (hsw _) (hw _)
theorem st_assign_2 {x y : Str} {px py tp vp : Pos} {k k' : Nat} {e₁ e₂ : Expr} (h1 : Ev K e₁ σ H a H₁) (h2 : Ev K e₂ σ H₁ b H₂) (hx : K.sc.names.lookup x = some .local) (hy : K.sc.names.lookup y = some .local)
    (hst : starOk [e₁, e₂] = true := by rfl) (hsw : ∀ env, swapsWithSole [.Tuple [.Name x px, .Name y py] k tp] (.Tuple [e₁, e₂] k' vp) pos.line env = pure false := by intro _; rfl)
    (hw : ∀ env, env.scope = K.sc → swappedStores [.Tuple [.Name x px, .Name y py] k tp] (.Tuple [e₁, e₂] k' vp) env = pure (some [x, y])) : St K (.Assign [.Tuple [.Name x px, .Name y py] k tp] (.Tuple [e₁, e₂] k' vp) pos) σ H .next ((x, a) :: (y, b) :: σ) H₂ := by
  intro Z A env s α Q E C hQ
  refine Assign_Tuple_swapped (names := [x, y]) (ev_tuple (el_cons h1 (el_cons h2 el_nil (fun env => star_ok hst env _ (.tail _ (.head _)) _)) (fun env => star_ok hst env _ (.head _) _)) (show (2 : Nat) ≤ 1048576 by decide) _ E C.toCx fun w s₁ α₁ k₁ r₁ => ?_) (hsw _) (hw _ C.EI.esc)
  obtain ⟨t, ws, rfl, ht, r, hz⟩ := r₁.tupI
  obtain ⟨w1, xs, rfl, ra, r⟩ := r.consI
  obtain ⟨w2, xs, rfl, rb, r⟩ := r.consI
  obtain rfl := r.nilI
  generalize hn : [x, y].length = n
  obtain rfl : n = [w1, w2].toArray.size := hn.symm
  refine unpackItems_tuple C.R.h ht.is fun h' he => ?_
  have keeps : Keeps s₁ { s₁ with heap := h' } := ⟨h', s₁.toks, rfl, fun b o e => he b o (Nat.ne_of_lt (Heap.lt_size e)) e⟩
  have k₂ := k₁.trans (.of_keeps (W := []) k₁.inv keeps)
  have C₂ := C.step k₂
  show wpAny _ A (assignInOrder [fun v => bindName env y v, fun v => bindName env x v] [w2, w1]) _ _ _
  show wpAny _ A (holding [w1] (bindName env y w2) >>= fun _ => assignInOrder [fun v => bindName env x v] [w1]) _ _ _
  refine wpAny_bind (wpAny_holding (wpAny_bindName (C₂.put (by unfold canStore; rw [hy]; rfl) (rb.keeps keeps) fun s₃ k₃ F₃ => ?_)))
  have C₃ := C₂.go k₃ F₃
  show wpAny _ A (holding [] (bindName env x w1) >>= fun _ => assignInOrder [] []) _ _ _
  refine wpAny_bind (wpAny_holding (wpAny_bindName (C₃.put (by unfold canStore; rw [hx]; rfl) ((ra.keeps keeps).stp k₃ (ow_z C.EI.w C.F)) fun s₄ k₄ F₄ => wpAny_pure ?_)))
  exact hQ _ _ _ ((k₂.wide.trans k₃).trans k₄) F₄ .next
end
end Tg
namespace Tg
set_option maxHeartbeats 1000000
section
variable {K : Kx} {σ : En} {H H₁ H₂ : AH} {f e g : Expr} {es : List Expr} {pos ap : Pos} {fv : Value} {i j k : Int} {v : V}
theorem call_gen (hfv : Ev K f σ H (.raw fv) H) (hc : CalleeOk K.B fv = true) (hf : callEq f [e] pos) (hso : starOk [e] = true) {Z A env s α} {Q : Value → Shared → Prop} {E : Value → Shared → Prop} (C : Cx K Z A env s α H σ)
    (h : ∀ s₁ α₁, Stp K.B Z [] α s α₁ H s₁ → wpAny (model K.B.prog K.B.w) A (eval e env) (fun w s₂ => K.B.K.In s₂.heap ∧ wpAny (model K.B.prog K.B.w) A (call fv [w] []) Q E s₂) E s₁) : wpAny (model K.B.prog K.B.w) A (eval (.Call f [e] [] pos) env) Q E s := by
  rw [hf]
  refine wpAny_bind (hfv _ E C fun w s₁ α₁ k₁ r₁ => ?_)
  rw [r₁.rawI]
  refine callWith_pos C.O hc [] (star_ok hso _) ?_
  rw [star_ok hso _ e (.head _)]
  exact spliced_cons (wpAny_mono (h s₁ α₁ k₁) (fun w s₂ h₂ => spliced_none h₂) fun _ _ x => x)
noncomputable def Rg (K : Kx) (e : Expr) (σ : En) (H : AH) (a b c : Int) (H' : AH) : Prop := ∀ ⦃Z A env s α⦄ (Q : Value → Shared → Prop) (E : Value → Shared → Prop), Cx K Z A env s α H σ →
  (∀ r s' α' t u v, Stp K.B Z [] α s α' H' s' → IsRange s'.heap r a b c t u v → Q (.ref r) s') → wpAny (model K.B.prog K.B.w) A (eval e env) Q E s
theorem rg_1 (hfv : Ev K f σ H (.raw (.type "range")) H) (hes : EvL K es σ H [.int j] H₁) (hf : callEq f es pos := by intro _; rfl) (hso : starOk es = true := by rfl) : Rg K (.Call f es [] pos) σ H 0 j 1 H₁ := fun _ _ _ _ _ Q E C hQ => call_open hfv hes rfl hf hso C fun ws s₁ α₁ k₁ r₁ => by
  obtain ⟨_, _, rfl, r0, r⟩ := r₁.consI
  rw [r.nilI]
  obtain ⟨t, rfl⟩ := r0.intI
  refine call_range_1 ?_
  have kk : Keeps s₁ { s₁ with heap := s₁.heap.push { cls := .type "range", data := .fields #[.int 0 s₁.toks, .int j t, .int 1 (s₁.toks + 1)] }, toks := s₁.toks + 1 + 1 } := ⟨_, _, rfl, fun b o e => Heap.get?_push_of_some _ e⟩
  exact hQ _ _ _ _ _ _ (k₁.trans (.of_keeps k₁.inv kk)) (IsRange.new ..)
theorem rg_3 (hfv : Ev K f σ H (.raw (.type "range")) H) (hes : EvL K es σ H [.int i, .int j, .int k] H₁) (hk : k ≠ 0) (hk2 : k.natAbs < 1073741824) (hf : callEq f es pos := by intro _; rfl) (hso : starOk es = true := by rfl) : Rg K (.Call f es [] pos) σ H i j k H₁ := fun _ _ _ _ _ Q E C hQ => call_open hfv hes rfl hf hso C fun ws s₁ α₁ k₁ r₁ => by
  obtain ⟨_, _, rfl, r0, r⟩ := r₁.consI
  obtain ⟨_, _, rfl, r1, r⟩ := r.consI
  obtain ⟨_, _, rfl, r2, r⟩ := r.consI
  rw [r.nilI]
  obtain ⟨t, rfl⟩ := r0.intI
  obtain ⟨u, rfl⟩ := r1.intI
  obtain ⟨v, rfl⟩ := r2.intI
  refine call_range_3 hk ?_ (.inl (PyProof.noPylong_small hk2))
  have kk : Keeps s₁ { s₁ with heap := s₁.heap.push { cls := .type "range", data := .fields #[.int i t, .int j u, .int k v] }, toks := s₁.toks } := ⟨_, _, rfl, fun b o e => Heap.get?_push_of_some _ e⟩
  exact hQ _ _ _ _ _ _ (k₁.trans (.of_keeps k₁.inv kk)) (IsRange.new ..)
theorem VRs.of_get {Z α : List Addr} {h : Heap} : ∀ {l : List V} {ws : List Value}, ws.length = l.length → (∀ (i : Nat) x w, l[i]? = some x → ws[i]? = some w → VR Z α h x w) → VRs Z α h l ws
  | [], [], _, _ => .nil
  | x :: l, w :: ws, e, g => .cons (g 0 x w rfl rfl) (VRs.of_get (by simpa using e) fun i y z h1 h2 => g (i + 1) y z (by simpa using h1) (by simpa using h2))
  | [], _ :: _, e, _ => by simp at e
  | _ :: _, [], e, _ => by simp at e
noncomputable def rngS (a c : Int) (n : Nat) : List Int := (List.range n).map fun i : Nat => a + i * c
theorem rngS_get {a c : Int} {n i : Nat} {x : V} (h : ((rngS a c n).map V.int)[i]? = some x) : x = .int (a + i * c) := by
  unfold rngS at h
  simp only [List.map_map, List.getElem?_map, Option.map_eq_some_iff] at h
  obtain ⟨k, h1, h2⟩ := h
  obtain ⟨_, hk⟩ := List.getElem?_eq_some_iff.mp h1
  rw [List.getElem_range] at hk
  subst hk; exact h2.symm
theorem ev_list_rg {n : Nat} (hfv : Ev K f σ H (.raw (.type "list")) H) (hr : Rg K e σ H i j k H₁) (hs : Builtin.Range.small i j k = true) (hn : Builtin.Range.rangeSize i j k = n) (hz : n ≤ 1048576) (hf : callEq f [e] pos := by intro _; rfl) (hso : starOk [e] = true := by rfl) :
    Ev K (.Call f [e] [] pos) σ H (.ref H₁.length) (H₁ ++ [.list ((rngS i k n).map .int)]) := by
  intro Z A env s α Q E C hQ
  exact call_gen hfv rfl hf hso C fun s₁ α₁ k₁ => hr _ E (C.step k₁) fun r s₂ α₂ t u v k₂ ir => ⟨k₂.inv.K C.O, by
    have C₂ := (C.step k₁).step k₂
    refine call_list_range C.R.h ir hs hn (Nat.le_trans hz (by decide)) fun h' tk acc' c' hk e' hit => ?_
    have fr := none_new' (Nat.le_refl s₂.heap.objs.size)
    have rr : VRs Z α₂ s₂.heap ((rngS i k n).map .int) acc'.toList := .of_get (by simpa [rngS] using hit.1) fun a x w h1 h2 => by
      obtain ⟨t', rfl⟩ := hit.2 a w (by simpa using h2)
      rw [rngS_get h1]; exact .int _ _
    obtain ⟨k₃, r₃⟩ := new_list (tk := tk) C₂.I C₂.size hk fr (ws := acc'.toList) (by simpa using e') rr
    exact hQ _ _ _ ((k₁.trans k₂).trans k₃) r₃⟩
end
section
variable {K : Kx} {σ : En} {H H₁ H₂ : AH} {o e : Expr} {pos ap : Pos} {l : List Int} {x : Int} {n : Nat}
theorem idx_loop {prog : Program} {w : World} {A : Around} {E : Value → Shared → Prop} {s : Shared} {t : Tok} (xs : List (Int × Tok)) {Q : Option PySem.Fin × Unit → Shared → Prop} (hx : (xs.map (·.1))[n]? = some x) (hno : ∀ m, m < n → (xs.map (·.1))[m]? ≠ some x)
    (hQ : Q (some (.done (.ret (.int n s.toks))), ()) { s with toks := s.toks + 1 }) : ∀ (k a : Nat), a + k = xs.length → a ≤ n → wpAny (model prog w) A (forIn (List.range' a k) ((none : Option PySem.Fin), ()) fun (i : Nat) _ =>
      match (xs.map fun p => Value.int p.1 p.2).toArray[i]? with
      | some y => do
        let c ← eqBool y (.int x t)
        if c = true then do
          let r ← retInt (i : Int)
          pure (ForInStep.done (some r, ()))
        else pure (ForInStep.yield (none, ()))
      | x => pure (ForInStep.yield (none, ()))) Q E s := by
  intro k
  induction k with
  | zero =>
    intro a h1 h2
    exfalso
    have := (List.getElem?_eq_some_iff.mp hx).1
    rw [List.length_map] at this; omega
  | succ k ih =>
    intro a h1 h2
    have ha : a < xs.length := by omega
    have e : (xs.map fun p => Value.int p.1 p.2).toArray[a]? = some (.int xs[a].1 xs[a].2) := by simp [List.getElem?_eq_getElem ha]
    have e2 : (xs.map (·.1))[a]? = some xs[a].1 := by simp [List.getElem?_eq_getElem ha]
    rw [List.range'_succ, List.forIn_cons, e]
    refine wpAny_bind (wpAny_bind (PySem.wpAny_eqBool_int ?_))
    by_cases hb : xs[a].1 = x
    · have hn : a = n := by
        rcases Nat.lt_or_eq_of_le h2 with h | h
        · exact absurd (by rw [e2, hb]) (hno a h)
        · exact h
      subst hn
      rw [if_pos (by simpa using hb)]
      exact wpAny_bind (wpAny_bind (wpAny_mkInt (wpAny_pure (wpAny_pure (wpAny_pure hQ)))))
    · rw [if_neg (by simpa using hb)]
      have : a ≠ n := fun q => by subst q; rw [e2] at hx; exact hb (Option.some.inj hx)
      exact wpAny_pure (ih (a + 1) (by omega) (by omega))
theorem ev_index (ho : Ev K o σ H (tI l) H₁) (he : Ev K e σ H₁ (.int x) H₂) (hx : l[n]? = some x) (hno : ∀ m, m < n → l[m]? ≠ some x) (hev : methEq o "index" ap [e] pos := by intro _; exact ⟨_, rfl⟩) (hso : starOk [e] = true := by rfl) :
    Ev K (.Call (.Attribute o "index" ap) [e] [] pos) σ H (.int n) H₂ := by
  intro Z A env s α Q E C hQ
  obtain ⟨pl, hev⟩ := hev env
  refine methodCall_KW (ho _ E C fun w s₁ α₁ k₁ r₁ => ?_) hev
  obtain ⟨a, ws, rfl, ⟨m, ha⟩, r, hz⟩ := r₁.tupI
  obtain ⟨xs, rfl, rfl⟩ := vrs_ints r
  refine getMethod_builtin ⟨_, ha, rfl⟩ PySem.F.plainAttrs_tuple PySem.F.slot_tuple_index PySem.F.type_tuple_index (fun b e => by cases e; exact ⟨_, ha, rfl⟩) ?_
  have C₁ := C.step k₁
  refine callWith_pos C.O rfl [_] (star_ok hso _) ?_
  rw [star_ok hso _ e (.head _)]
  refine spliced_cons (he _ E C₁ fun w s₂ α₂ k₂ r₂ => spliced_none ⟨k₂.inv.K C.O, ?_⟩)
  obtain ⟨t, rfl⟩ := r₂.intI
  have ha₂ := (k₂.sep (by simp) ha (solid_type rfl) hz).1
  refine wpAny_call_entry PySem.F.slot_tuple_index ⟨_, ha₂, rfl⟩ PySem.F.entry_tuple_index ?_ (PySem.F.args_tuple_index_2 _ _)
  unfold Builtin.«tuple.index»
  refine wpAny_bind (wpAny_pure ?_)
  show wpAny _ _ (Builtin.Tuple.tupleItemsOf (.ref a) >>= _) _ _ s₂
  unfold Builtin.Tuple.tupleItemsOf
  refine wpAny_bind (wpAny_bind (wpAny_seqItems ha₂ rfl (wpAny_pure ?_)))
  refine wpAny_bind (wpAny_pure (wpAny_bind (wpAny_pure ?_)))
  dsimp only
  rw [Nat.min_self, Std.Legacy.Range.forIn_eq_forIn_range']
  refine wpAny_bind ?_
  have hsz : (Std.Legacy.Range.size [0:(List.map (fun p => Value.int p.1 p.2) xs).toArray.size]) = xs.length := by simp [Std.Legacy.Range.size]
  rw [hsz]
  exact idx_loop xs hx hno (wpAny_pure ⟨_, rfl, hQ _ _ _ ((k₁.trans k₂).trans (.of_keeps k₂.inv (Keeps.toks _ _))) (.int _ _)⟩) xs.length 0 (by omega) (Nat.zero_le _)
end
end Tg
namespace Tg
set_option maxHeartbeats 1000000
section
variable {prog : Program} {w : World} {A : Around} {E : Value → Shared → Prop} {s : Shared}
theorem nextOf_tuple {it t : Addr} {i : Nat} {items : Array Value} {Q : Value → Shared → Prop} (hh : A.handled = none) (hit : s.heap.IsTupleIter it t i) (ht : IsTup s.heap t items)
    (hQ : ∀ x h', items[i]? = some x → h'.IsTupleIter it t (i + 1) → Heap.SameBut it s.heap h' → Q x { s with heap := h' })
    (hE : ∀ h' e, items[i]? = none → Heap.ExtBut it s.heap h' → (∃ o, h'.get? e = some o ∧ o.cls = .type "StopIteration") → E (.ref e) { s with heap := h' }) :
    wpAny (model prog w) A (Builtin.SmallTypes.nextOf (.ref it)) Q E s := by
  obtain ⟨o, ho, hc, hd⟩ := id hit
  obtain ⟨ol, hol, _, nl, hdl⟩ := ht
  unfold Builtin.SmallTypes.nextOf
  refine wpAny_bind (wpAny_callSpecial?_slot (name := Str.ofString "__next__") hit.typeIs PySem.F.slot_tuple_iterator_next
    (wpAny_call_entry PySem.F.slot_tuple_iterator_next hit.typeIs PySem.F.entry_tuple_iterator_next ?_ (PySem.F.args_tuple_iterator_next_1 _)))
  show wpAny _ _ (field (.ref it) 0 >>= _) _ _ s
  refine wpAny_bind (wpAny_field ho hd (x := .ref t) rfl ?_)
  show wpAny _ _ (if (Value.ref t == Value.none) = true then _ else _) _ _ s
  rw [if_neg (show ¬ ((Value.ref t == Value.none) = true) from Bool.false_ne_true)]
  show wpAny _ _ (field (.ref it) 1 >>= _) _ _ s
  refine wpAny_bind (wpAny_field ho hd (x := .int i 0) rfl ?_)
  show wpAny _ _ (seqItems? (.ref t) >>= _) _ _ s
  refine wpAny_bind (wpAny_seqItems hol hdl ?_)
  simp only [Int.toNat_natCast]
  cases hx : items[i]? with
  | some x =>
    refine wpAny_bind (wpAny_setField ho hd (by simp) (wpAny_pure ⟨x, rfl, wpAny_pure (hQ _ _ hx ?_ (Heap.SameBut.update ..))⟩))
    exact ⟨_, Heap.get?_update_self _ ho (Obj.isFreed_of_fields (Obj.data_mapFields hd _)), (Obj.cls_mapFields ..).trans hc, by rw [Obj.data_mapFields hd]; simp [rawInt]⟩
  | none =>
    refine wpAny_bind (wpAny_rule (wpAny_bind (wpAny_setField ho hd (by simp) ?_)))
    show wpAny _ _ (newExc (.type "StopIteration") [] >>= _) _ _ _
    refine wpAny_bind ?_
    simp only [newExc, newTuple]
    refine wpAny_bind (wpAny_newObj_type ?_ (by size_fits))
    refine wpAny_bind (m := firstArgMember _ _) (wpAny_of_eq (a := Value.none) (by first | rfl | (simp only [firstArgMember]; rfl)) ?_)
    refine wpAny_newObj_type ?_ (by size_fits)
    simp only [raiseNew]
    refine wpAny_bind (wpAny_handled ?_)
    first | rw [show A.in1.handled = none from hh] | rw [hh]
    refine wpAny_bind (wpAny_pure (wpAny_throw ?_))
    exact hE _ _ hx (((Heap.SameBut.update ..).extBut.push _).push _) ⟨_, Heap.get?_push_size _ rfl, rfl⟩
end
theorem set_take {α : Type} {l : List α} {j : Nat} (y : α) (h : j < l.length) : (l.set j y).take (j + 1) = l.take j ++ [y] := by
  refine List.ext_getElem? fun a => ?_
  rw [List.getElem?_take]
  by_cases h1 : a < j
  · rw [if_pos (by omega), List.getElem?_set_ne (by omega), List.getElem?_append_left (by simp; omega), List.getElem?_take, if_pos h1]
  · by_cases h2 : a = j
    · subst h2
      rw [if_pos (by omega), List.getElem?_set_self h, List.getElem?_append_right (by simp; omega)]
      simp [Nat.min_eq_left (Nat.le_of_lt h)]
    · rw [if_neg (by omega), List.getElem?_eq_none (by simp; omega)]
noncomputable abbrev Col := Addr × Addr × List Value
noncomputable def Col.At (h : Heap) (k : Nat) (c : Col) : Prop := h.IsTupleIter c.1 c.2.1 k ∧ Tu h c.2.1 c.2.2.toArray
noncomputable def zipObj (f0 f1 : Value) (TI TO : Addr) : Obj := { cls := .type "zip", dict := none, data := .fields #[f0, f1, .bool false, .ref TI, .ref TO], slots := #[] }
structure ZipAt (z TI TO : Addr) (cs : List Col) (n k : Nat) (h : Heap) : Prop where
  ti : ∃ m, h.get? TI = some { cls := .type "tuple", data := .seq (cs.map fun c => Value.ref c.1).toArray m }
  to : ∃ kept m, h.get? TO = some { cls := .type "tuple", data := .seq kept m } ∧ kept.size = cs.length
  at' : ∀ c ∈ cs, c.At h k
  len : ∀ c ∈ cs, c.2.2.length = n
  ne : cs ≠ []
structure ZipA (z TI TO : Addr) (cs : List Col) : Prop where
  nd : (z :: TI :: TO :: cs.map (·.1)).Nodup
  off : ∀ c ∈ cs, c.2.1 ∉ z :: TI :: TO :: cs.map (·.1)
theorem Col.At.keep {h h' : Heap} {k : Nat} {c : Col} (x : c.At h k) (k1 : ∀ o, h.get? c.1 = some o → h'.get? c.1 = some o) (k2 : ∀ o, h.get? c.2.1 = some o → h'.get? c.2.1 = some o) : c.At h' k := by
  obtain ⟨⟨o, e, c, d⟩, m, e'⟩ := x
  exact ⟨⟨o, k1 _ e, c, d⟩, m, k2 _ e'⟩
section
variable {prog : Program} {w : World} {A : Around} {E : Value → Shared → Prop} {s : Shared} {TO z : Addr} {n k : Nat}
noncomputable def colX (k : Nat) (c : Col) : Value := c.2.2.getD k .none
theorem col_next {c : Col} {Q : Value → Shared → Prop} (hh : A.handled = none) (x : c.At s.heap k) (hk : k < c.2.2.length) (hQ : ∀ h', h'.IsTupleIter c.1 c.2.1 (k + 1) → Heap.SameBut c.1 s.heap h' → Q (colX k c) { s with heap := h' }) : wpAny (model prog w) A (Builtin.SmallTypes.nextOf (.ref c.1)) Q E s := by
  have e : c.2.2.toArray[k]? = some (colX k c) := by simp [colX, List.getElem?_eq_getElem hk]
  exact nextOf_tuple hh x.1 x.2.is (fun y h' hy hit hs => by rw [e] at hy; cases hy; exact hQ h' hit hs) fun h' e' hy => by rw [e] at hy; cases hy
theorem col_end {c : Col} {Q : Value → Shared → Prop} (hh : A.handled = none) (x : c.At s.heap k) (hk : c.2.2.length ≤ k) (hE : ∀ s₁ e, IE [c.1] s s₁ → (∃ o, s₁.heap.get? e = some o ∧ o.cls = .type "StopIteration") → E (.ref e) s₁) : wpAny (model prog w) A (Builtin.SmallTypes.nextOf (.ref c.1)) Q E s := by
  have e : c.2.2.toArray[k]? = none := by simp [List.getElem?_eq_none hk]
  exact nextOf_tuple hh x.1 x.2.is (fun y h' hy => by rw [e] at hy; cases hy) fun h' e' hy hx he => hE _ _ (IE.ext hx) he
theorem zip_fill (hh : A.handled = none) {Q : Option PySem.Fin × Unit → Shared → Prop} {F : Value × Nat → Sem (ForInStep (Option PySem.Fin × Unit))} {U : Sem (ForInStep (Option PySem.Fin × Unit))} {G : Sem Unit} : ∀ (cs : List Col) (j : Nat) (s : Shared) (kept : Array Value) (m : Nat), (TO :: cs.map (·.1)).Nodup → (∀ c ∈ cs, c.2.1 ∉ TO :: cs.map (·.1)) → (∀ c ∈ cs, c.At s.heap k) → (∀ c ∈ cs, k < c.2.2.length) →
    s.heap.get? TO = some { cls := .type "tuple", data := .seq kept m } → kept.size = j + cs.length → kept.size ≤ 64 →
    (∀ s' m', IS (TO :: cs.map (·.1)) s s' → s'.heap.objs.size = s.heap.objs.size → (∀ c ∈ cs, c.At s'.heap (k + 1)) → s'.heap.get? TO = some { cls := .type "tuple", data := .seq ((kept.toList.take j) ++ cs.map (colX k)).toArray m' } → Q (none, ()) s') →
    wpAny (model prog w) A (forIn ((cs.map fun c => Value.ref c.1).zipIdx j) ((none : Option PySem.Fin), ()) fun x _ => do
      match ← ((do return some (← Builtin.SmallTypes.nextOf x.1)) : Sem (Option Value)).onRaise fun _ => G with
      | some y => do
        match ← seqItems? (.ref TO) with
        | some kept => do
          updateSeq TO (·.setIfInBounds x.2 y)
          letGo [kept.getD x.2 .none]
          pure (ForInStep.yield (none, ()))
        | _ => U
      | none => F x) Q E s
  | [], j, s, kept, m, _, _, _, _, hT, hz, _, hQ => by
    refine wpAny_pure (hQ s m .refl rfl (fun c h => nomatch h) ?_)
    rw [hT, List.map_nil, List.append_nil, List.take_of_length_le (by simp at hz; simp; omega)]
  | c :: cs, j, s, kept, m, nd, off, at', lt, hT, hz, h64, hQ => by
    have nd' := List.nodup_cons.mp nd
    have nd'' : c.1 ∉ cs.map (·.1) ∧ (cs.map (·.1)).Nodup := List.nodup_cons.mp nd'.2
    have hTc : TO ≠ c.1 := fun q => nd'.1 (q ▸ .head _)
    have offc := off c (.head _)
    have hlen : j < kept.size := by rw [hz, List.length_cons]; omega
    rw [List.map_cons, List.zipIdx_cons, List.forIn_cons]
    refine wpAny_bind (wpAny_bind (wpAny_onRaise (wpAny_bind (col_next hh (at' c (.head _)) (lt c (.head _)) fun h₁ hit hs => wpAny_pure ?_))))
    have e₁ : h₁.get? TO = some { cls := .type "tuple", data := .seq kept m } := (hs.2 _ hTc).trans hT
    refine wpAny_bind (wpAny_seqItems e₁ rfl ?_)
    have e₂ := Heap.get?_update_self (Obj.mapSeq (·.setIfInBounds j (colX k c))) e₁ rfl
    have e₃ : Obj.mapSeq (·.setIfInBounds j (colX k c)) { cls := .type "tuple", data := .seq kept m } = { cls := .type "tuple", data := .seq (kept.setIfInBounds j (colX k c)) m } := by simp [Obj.mapSeq]
    rw [e₃] at e₂
    have sb : Heap.SameBut TO h₁ (h₁.update TO (Obj.mapSeq (·.setIfInBounds j (colX k c)))) := Heap.SameBut.update ..
    refine wpAny_bind (wpAny_updateSeq e₁ rfl (wpAny_bind (wpAny_letGo (wpAny_pure ?_))) ?_ ?_)
    · have keep : ∀ b o, b ≠ c.1 → b ≠ TO → s.heap.get? b = some o → (h₁.update TO (Obj.mapSeq (·.setIfInBounds j (colX k c)))).get? b = some o := fun b o h1 h2 e => (sb.2 b h2).trans ((hs.2 b h1).trans e)
      have kept' : ∀ c' ∈ cs, c'.1 ≠ c.1 ∧ c'.1 ≠ TO ∧ c'.2.1 ≠ c.1 ∧ c'.2.1 ≠ TO := fun c' hc' => by
        have hm : c'.1 ∈ cs.map (·.1) := List.mem_map.mpr ⟨c', hc', rfl⟩
        have ho := off c' (.tail _ hc')
        exact ⟨fun q => nd''.1 (q ▸ hm), fun q => nd'.1 (.tail _ (q ▸ hm)), fun q => ho (q ▸ .tail _ (.head _)), fun q => ho (q ▸ .head _)⟩
      refine zip_fill hh cs (j + 1) _ _ m (List.nodup_cons.mpr ⟨fun h => nd'.1 (.tail _ h), nd''.2⟩) (fun c' hc' hm => off c' (.tail _ hc') (by
          rcases List.mem_cons.mp hm with h | h
          · rw [h]; exact .head _
          · exact .tail _ (.tail _ h))) (fun c' hc' => (at' c' (.tail _ hc')).keep (fun o => keep _ o (kept' c' hc').1 (kept' c' hc').2.1) (fun o => keep _ o (kept' c' hc').2.2.1 (kept' c' hc').2.2.2)) (fun c' hc' => lt c' (.tail _ hc')) e₂ (by simp [hz]; omega) (by simpa using h64) fun s' m' x hsz hat hT' => ?_
      obtain ⟨o, e0, hc0, hd0⟩ := id hit
      have e4 := x.2.1 c.1 o (fun hm => by
        rcases List.mem_cons.mp hm with h | h
        · exact hTc h.symm
        · exact nd''.1 h) ((sb.2 _ (Ne.symm hTc)).trans e0)
      obtain ⟨mt, et⟩ := (at' c (.head _)).2
      have e5 := x.2.1 c.2.1 _ (fun hm => offc (by
        rcases List.mem_cons.mp hm with h | h
        · rw [h]; exact .head _
        · exact .tail _ (.tail _ h))) (keep _ _ (fun q => offc (q ▸ .tail _ (.head _))) (fun q => offc (q ▸ .head _)) et)
      refine hQ s' m' ?_ (hsz.trans (sb.1.trans hs.1)) (fun c' hc' => ?_) ?_
      · have x1 : IS (TO :: (c :: cs).map (·.1)) s { s with heap := h₁ } := (IS.same hs e0).mono fun a ha => by rw [List.mem_singleton.mp ha]; simp
        have x2 : IS (TO :: (c :: cs).map (·.1)) { s with heap := h₁ } { s with heap := h₁.update TO (Obj.mapSeq (·.setIfInBounds j (colX k c))) } := (IS.same (tk := s.toks) sb e₂).mono fun a ha => by rw [List.mem_singleton.mp ha]; simp
        exact (x1.trans x2).trans (x.mono fun a ha => by
          rcases List.mem_cons.mp ha with h | h
          · rw [h]; exact .head _
          · exact .tail _ (.tail _ h))
      · rcases List.mem_cons.mp hc' with rfl | hc'
        · exact ⟨⟨o, e4, hc0, hd0⟩, mt, e5⟩
        · exact hat c' hc'
      · rw [hT']
        congr 3
        have : (kept.setIfInBounds j (colX k c)).toList.take (j + 1) = kept.toList.take j ++ [colX k c] := by rw [Array.toList_setIfInBounds]; exact set_take _ (by rw [Array.length_toList]; exact hlen)
        rw [this]; simp
    · exact Nat.le_trans h64 (by decide)
    · exact Nat.le_trans (by simpa using h64) (by decide)
end
end Tg
namespace Tg
set_option maxHeartbeats 1000000
section
variable {prog : Program} {w : World} {A : Around} {E : Value → Shared → Prop} {s : Shared} {TI TO z : Addr} {n k : Nat} {cs : List Col}
theorem loadIfAlive_wp {M : Model} {a : Addr} {o : Obj} {Q : Option Obj → Shared → Prop} (e : s.heap.get? a = some o) (h : Q (some o) s) : wpAny M A (loadIfAlive a) Q E s := by
  intro Γ p hΓ
  unfold loadIfAlive
  simp only [Sem.wp]
  rw [e]; exact h
noncomputable abbrev zipW (z TO : Addr) (cs : List Col) : List Addr := z :: TO :: cs.map (·.1)
theorem zip_next_free {Q : Value → Shared → Prop} (hh : A.handled = none) (D : ZipA z TI TO cs) (x : ZipAt z TI TO cs n k s.heap) (h64 : cs.length ≤ 64) (hz : s.heap.get? z = some (zipObj .none (.bool false) TI TO)) (hk : k < n)
    (hQ : ∀ s', IS (zipW z TO cs) s s' → Tu s'.heap s.heap.objs.size (cs.map (colX k)).toArray → ZipAt z TI TO cs n (k + 1) s'.heap → s'.heap.get? z = some (zipObj (rawInt s.heap.objs.size) (.bool false) TI TO) → Q (.ref s.heap.objs.size) s') :
    wpAny (model prog w) A (Builtin.«zip.__next__» ⟨[.ref z], []⟩) (fun fin s' => ∃ v, fin = .done (.ret v) ∧ Q v s') E s := by
  obtain ⟨m, hti⟩ := x.ti
  obtain ⟨kept, mo, hto, hks⟩ := x.to
  have hne : (cs.map fun c => Value.ref c.1).toArray.isEmpty = false := by
    cases cs with
    | nil => exact absurd rfl x.ne
    | cons => simp
  show wpAny _ _ (field (.ref z) 2 >>= _) _ _ _
  refine wpAny_bind (wpAny_field hz rfl (x := .bool false) rfl ?_)
  show wpAny _ _ (field (.ref z) 3 >>= _) _ _ _
  refine wpAny_bind (wpAny_field hz rfl (x := .ref TI) rfl ?_)
  refine wpAny_bind (wpAny_seqItems hti rfl ?_)
  dsimp only
  rw [hne]
  rw [if_neg Bool.false_ne_true]
  refine wpAny_bind ?_
  unfold Builtin.SmallTypes.ownedTupleIsFree
  refine wpAny_bind (wpAny_field hz rfl (x := .none) rfl (wpAny_pure ?_))
  rw [if_pos rfl]
  refine wpAny_bind (wpAny_rule (wpAny_bind (wpAny_field hz rfl (x := .ref TO) rfl ?_)))
  refine wpAny_bind (wpAny_setField_rec hz (by simp) fun h₁ hz₁ hs₁ => ?_)
  replace hz₁ : h₁.get? z = some (zipObj .ellipsis (.bool false) TI TO) := hz₁
  have nd1 := List.nodup_cons.mp D.nd
  have nd2 := List.nodup_cons.mp nd1.2
  have zTO : TO ≠ z := fun q => nd1.1 (by rw [← q]; simp)
  have zTI : TI ≠ z := fun q => nd1.1 (by rw [← q]; simp)
  have zc : ∀ c ∈ cs, c.1 ≠ z ∧ c.2.1 ≠ z := fun c hc => ⟨fun q => nd1.1 (by rw [← q]; simp; exact .inr (.inr ⟨_, _, hc⟩)), fun q => D.off c hc (by rw [q]; simp)⟩
  have to₁ := (hs₁.2 _ zTO).trans hto
  refine wpAny_bind (zip_fill hh cs 0 _ _ _ nd2.2 (fun c hc hm => D.off c hc (.tail _ (.tail _ hm))) (fun c hc => (x.at' c hc).keep (fun o e => (hs₁.2 _ (zc c hc).1).trans e) fun o e => (hs₁.2 _ (zc c hc).2).trans e) (fun c hc => by rw [x.len c hc]; exact hk) to₁ (by rw [hks]; simp) (by rw [hks]; exact h64) fun s₂ m₂ x₂ sz₂ at₂ to₂ => ?_)
  have x₁ : IS (zipW z TO cs) s { s with heap := h₁ } := (IS.same hs₁ hz₁).mono fun a ha => by rw [List.mem_singleton.mp ha]; exact .head _
  have x₁₂ : IS (zipW z TO cs) s s₂ := x₁.trans (x₂.mono fun a ha => .tail _ ha)
  have hz₂ : s₂.heap.get? z = some (zipObj .ellipsis (.bool false) TI TO) := x₂.2.1 _ _ (fun hm => nd1.1 (.tail _ hm)) hz₁
  have e0 : kept.toList.take 0 ++ cs.map (colX k) = cs.map (colX k) := by simp
  rw [e0] at to₂
  refine wpAny_bind (wpAny_seqItems to₂ rfl (wpAny_bind (wpAny_newTuple ?_ (by simp; exact Nat.le_trans h64 (by decide)))))
  have szN : s₂.heap.objs.size = s.heap.objs.size := sz₂.trans hs₁.1
  rw [szN]
  unfold Builtin.SmallTypes.ownedTupleHandOut
  have kp := keeps_push s₂ { cls := .type "tuple", data := .seq (cs.map (colX k)).toArray }
  have hz₃ : (s₂.heap.push { cls := .type "tuple", data := .seq (cs.map (colX k)).toArray }).get? z = some (zipObj .ellipsis (.bool false) TI TO) := Heap.get?_push_of_some _ hz₂
  have hT₃ : (s₂.heap.push { cls := .type "tuple", data := .seq (cs.map (colX k)).toArray }).get? s.heap.objs.size = some { cls := .type "tuple", data := .seq (cs.map (colX k)).toArray } := by rw [← szN]; exact Heap.get?_push_size _ rfl
  have zT : s.heap.objs.size ≠ z := fun q => Nat.lt_irrefl _ (q ▸ Heap.lt_size hz)
  refine wpAny_bind (wpAny_bind (wpAny_setField_rec hz₃ (by simp) fun h₄ hz₄ hs₄ => wpAny_setField_rec hz₄ (by simp) fun h₅ hz₅ hs₅ => ?_))
  replace hz₅ : h₅.get? z = some (zipObj (rawInt s.heap.objs.size) (.bool false) TI TO) := hz₅
  have kk : ∀ b o, b ≠ z → s₂.heap.get? b = some o → h₅.get? b = some o := fun b o hb e => (hs₅.2 b hb).trans ((hs₄.2 b hb).trans (Heap.get?_push_of_some _ e))
  have x₃ : IS (zipW z TO cs) s₂ { s₂ with heap := h₅ } := ⟨⟨h₅, s₂.toks, rfl⟩, fun b o hb e => kk b o (fun q => hb (q ▸ .head _)) e, fun b o e => by
    by_cases q : b = z
    · exact ⟨_, q ▸ hz₅⟩
    · exact ⟨o, kk b o q e⟩⟩
  refine wpAny_pure ⟨_, rfl, hQ _ (x₁₂.trans x₃) ⟨0, (hs₅.2 _ zT).trans ((hs₄.2 _ zT).trans hT₃)⟩ ⟨⟨m, kk _ _ zTI (x₁₂.2.1 _ _ (fun hm => ?_) hti)⟩, ⟨_, m₂, kk _ _ zTO to₂, by simp⟩, fun c hc => (at₂ c hc).keep (fun o => kk _ o (zc c hc).1) fun o => kk _ o (zc c hc).2, x.len, x.ne⟩ hz₅⟩
  rcases List.mem_cons.mp hm with h | h
  · exact zTI h
  · exact nd2.1 h
end
end Tg
namespace Tg
set_option maxHeartbeats 1000000
section
variable {prog : Program} {w : World} {A : Around} {E : Value → Shared → Prop} {s : Shared} {TI TO z : Addr} {n k : Nat} {cs : List Col}
noncomputable def Stop (e : Addr) (s : Shared) : Prop := ∃ o, s.heap.get? e = some o ∧ o.cls = .type "StopIteration"
theorem zip_end_free {Q : Value → Shared → Prop} (hh : A.handled = none) (D : ZipA z TI TO cs) (x : ZipAt z TI TO cs n n s.heap) (hz : s.heap.get? z = some (zipObj .none (.bool false) TI TO))
    (hE : ∀ s' e, IE (zipW z TO cs) s s' → Stop e s' → E (.ref e) s') :
    wpAny (model prog w) A (Builtin.«zip.__next__» ⟨[.ref z], []⟩) (fun fin s' => ∃ v, fin = .done (.ret v) ∧ Q v s') E s := by
  obtain ⟨m, hti⟩ := x.ti
  obtain ⟨c, cs, rfl⟩ : ∃ c r, cs = c :: r := by cases cs with
    | nil => exact absurd rfl x.ne
    | cons c r => exact ⟨c, r, rfl⟩
  have hc : c.1 ≠ z ∧ c.2.1 ≠ z := ⟨fun q => (List.nodup_cons.mp D.nd).1 (by rw [← q]; simp), fun q => D.off c (.head _) (by rw [q]; simp)⟩
  show wpAny _ _ (field (.ref z) 2 >>= _) _ _ _
  refine wpAny_bind (wpAny_field hz rfl (x := .bool false) rfl ?_)
  show wpAny _ _ (field (.ref z) 3 >>= _) _ _ _
  refine wpAny_bind (wpAny_field hz rfl (x := .ref TI) rfl (wpAny_bind (wpAny_seqItems hti rfl ?_)))
  show wpAny _ _ (Builtin.SmallTypes.ownedTupleIsFree (.ref z) >>= _) _ _ _
  refine wpAny_bind ?_
  unfold Builtin.SmallTypes.ownedTupleIsFree
  refine wpAny_bind (wpAny_field hz rfl (x := .none) rfl (wpAny_pure ?_))
  rw [if_pos rfl]
  refine wpAny_bind (wpAny_rule (wpAny_bind (wpAny_field hz rfl (x := .ref TO) rfl ?_)))
  refine wpAny_bind (wpAny_setField_rec hz (by simp) fun h₁ hz₁ hs₁ => ?_)
  replace hz₁ : h₁.get? z = some (zipObj .ellipsis (.bool false) TI TO) := hz₁
  refine wpAny_bind ?_
  simp only [List.map_cons, List.zipIdx_cons, List.forIn_cons]
  refine wpAny_bind (wpAny_bind (wpAny_onRaise ?_))
  show wpAny _ _ (Builtin.SmallTypes.nextOf (.ref c.1) >>= _) _ _ _
  refine wpAny_bind (col_end hh ((x.at' c (.head _)).keep (fun o e => (hs₁.2 _ hc.1).trans e) fun o e => (hs₁.2 _ hc.2).trans e) (Nat.le_of_eq (x.len c (.head _))) fun s₂ e x₂ he => ?_)
  have hz₂ : s₂.heap.get? z = some (zipObj .ellipsis (.bool false) TI TO) := x₂.2 _ _ (by simpa using hc.1.symm) hz₁
  obtain ⟨o, ho, hcl⟩ := he
  have hez : e ≠ z := fun q => by rw [q, hz₂] at ho; cases ho; exact absurd (Value.type.inj hcl) (by decide)
  refine wpAny_setField_rec hz₂ (by simp) fun h₃ hz₃ hs₃ => hE _ e (((IE.same (tk := s.toks) hs₁).mono ?_).trans ((x₂.mono ?_).trans ((IE.same (tk := s₂.toks) hs₃).mono ?_))) ⟨o, (hs₃.2 _ hez).trans ho, hcl⟩ <;> intro a ha <;> rw [List.mem_singleton.mp ha] <;> simp
theorem zip_take (hh : A.handled = none) {Q : Option PySem.Fin × Array Value → Shared → Prop} {F : Value → Option PySem.Fin × Array Value → Sem (ForInStep (Option PySem.Fin × Array Value))} : ∀ (cs : List Col) (s : Shared) (acc : Array Value), (cs.map (·.1)).Nodup → (∀ c ∈ cs, c.2.1 ∉ cs.map (·.1)) → (∀ c ∈ cs, c.At s.heap k) → (∀ c ∈ cs, k < c.2.2.length) →
    (∀ s', IS (cs.map (·.1)) s s' → s'.heap.objs.size = s.heap.objs.size → (∀ c ∈ cs, c.At s'.heap (k + 1)) → Q (none, acc ++ (cs.map (colX k)).toArray) s') →
    wpAny (model prog w) A (forIn (cs.map fun c => Value.ref c.1) ((none : Option PySem.Fin), acc) fun it r => do
      match ← holding r.2.toList ((do return some (← Builtin.SmallTypes.nextOf it)) : Sem (Option Value)) with
      | some y => pure (ForInStep.yield (none, r.2.push y))
      | none => F it r) Q E s
  | [], s, acc, _, _, _, _, hQ => wpAny_pure (by have := hQ s .refl rfl (fun c h => nomatch h); simpa using this)
  | c :: cs, s, acc, nd, off, at', lt, hQ => by
    have nd' : c.1 ∉ cs.map (·.1) ∧ (cs.map (·.1)).Nodup := List.nodup_cons.mp nd
    have offc := off c (.head _)
    rw [List.map_cons, List.forIn_cons]
    refine wpAny_bind (wpAny_bind (wpAny_holding (wpAny_bind (col_next hh (at' c (.head _)) (lt c (.head _)) fun h₁ hit hs => wpAny_pure (wpAny_pure ?_)))))
    have kept' : ∀ c' ∈ cs, c'.1 ≠ c.1 ∧ c'.2.1 ≠ c.1 := fun c' hc' => ⟨fun q => nd'.1 (q ▸ List.mem_map.mpr ⟨c', hc', rfl⟩), fun q => off c' (.tail _ hc') (q ▸ .head _)⟩
    refine zip_take hh cs _ (acc.push (colX k c)) nd'.2 (fun c' hc' hm => off c' (.tail _ hc') (.tail _ hm)) (fun c' hc' => (at' c' (.tail _ hc')).keep (fun o e => (hs.2 _ (kept' c' hc').1).trans e) fun o e => (hs.2 _ (kept' c' hc').2).trans e) (fun c' hc' => lt c' (.tail _ hc')) fun s' x hsz hat => ?_
    obtain ⟨o, e0, hc0, hd0⟩ := id hit
    obtain ⟨mt, et⟩ := (at' c (.head _)).2
    have e4 := x.2.1 c.1 o nd'.1 e0
    have e5 := x.2.1 c.2.1 _ (fun hm => offc (.tail _ hm)) ((hs.2 _ (show c.2.1 ≠ c.1 from fun q => offc (by rw [q]; exact .head _))).trans et)
    have := hQ s' (((IS.same (tk := s.toks) hs e0).mono fun a ha => by rw [List.mem_singleton.mp ha]; exact .head _).trans (x.mono fun a ha => .tail _ ha)) (hsz.trans hs.1) fun c' hc' => by
      rcases List.mem_cons.mp hc' with rfl | hc'
      · exact ⟨⟨o, e4, hc0, hd0⟩, mt, e5⟩
      · exact hat c' hc'
    have e : acc.push (colX k c) ++ (cs.map (colX k)).toArray = acc ++ ((c :: cs).map (colX k)).toArray := by simp
    rw [e]; exact this
theorem zip_taken {Q : Value → Shared → Prop} {T : Addr} {oT : Obj} {b : Bool} (hh : A.handled = none) (D : ZipA z TI TO cs) (x : ZipAt z TI TO cs n k s.heap) (h64 : cs.length ≤ 64) (hz : s.heap.get? z = some (zipObj (rawInt T) (.bool b) TI TO)) (hT : s.heap.get? T = some oT)
    (hQ : ∀ s', k < n → IS (zipW z TO cs) s s' → Tu s'.heap s.heap.objs.size (cs.map (colX k)).toArray → ZipAt z TI TO cs n (k + 1) s'.heap → s'.heap.get? z = some (zipObj (rawInt T) (.bool true) TI TO) → Q (.ref s.heap.objs.size) s')
    (hE : ∀ s' e, k = n → IE (zipW z TO cs) s s' → Stop e s' → E (.ref e) s') (hk : k ≤ n) :
    wpAny (model prog w) A (Builtin.«zip.__next__» ⟨[.ref z], []⟩) (fun fin s' => ∃ v, fin = .done (.ret v) ∧ Q v s') E s := by
  obtain ⟨m, hti⟩ := x.ti
  obtain ⟨kept, mo, hto, hks⟩ := x.to
  have hne : (cs.map fun c => Value.ref c.1).toArray.isEmpty = false := by
    cases cs with
    | nil => exact absurd rfl x.ne
    | cons => simp
  have nd1 := List.nodup_cons.mp D.nd
  have nd2 := List.nodup_cons.mp nd1.2
  have nd3 := List.nodup_cons.mp nd2.2
  have zTO : TO ≠ z := fun q => nd1.1 (by rw [← q]; simp)
  have zTI : TI ≠ z := fun q => nd1.1 (by rw [← q]; simp)
  have zc : ∀ c ∈ cs, c.1 ≠ z ∧ c.2.1 ≠ z := fun c hc => ⟨fun q => nd1.1 (by rw [← q]; simp; exact .inr (.inr ⟨_, _, hc⟩)), fun q => D.off c hc (by rw [q]; simp)⟩
  show wpAny _ _ (field (.ref z) 2 >>= _) _ _ _
  refine wpAny_bind (wpAny_field hz rfl (x := .bool false) rfl ?_)
  show wpAny _ _ (field (.ref z) 3 >>= _) _ _ _
  refine wpAny_bind (wpAny_field hz rfl (x := .ref TI) rfl (wpAny_bind (wpAny_seqItems hti rfl ?_)))
  dsimp only
  rw [hne, if_neg Bool.false_ne_true]
  refine wpAny_bind ?_
  unfold Builtin.SmallTypes.ownedTupleIsFree
  refine wpAny_bind (wpAny_field hz rfl (x := rawInt T) rfl ?_)
  show wpAny _ _ (loadIfAlive T >>= _) _ _ _
  refine wpAny_bind (loadIfAlive_wp hT ?_)
  rw [if_neg (by simp)]
  refine wpAny_mono (Q := fun free s₁ => free = false ∧ IS [z] s s₁ ∧ s₁.heap.objs.size = s.heap.objs.size ∧ s₁.heap.get? z = some (zipObj (rawInt T) (.bool true) TI TO)) (E := E) ?_ (fun free s₁ h => ?_) fun _ _ h => h
  · refine wpAny_bind (wpAny_field hz rfl (x := .bool b) rfl ?_)
    cases b with
    | true => exact wpAny_pure ⟨rfl, .refl, rfl, hz⟩
    | false => exact wpAny_bind (wpAny_setField_rec hz (by simp) fun h₁ hz₁ hs₁ => wpAny_pure ⟨rfl, IS.same (tk := s.toks) hs₁ hz₁, hs₁.1, hz₁⟩)
  · obtain ⟨rfl, x₁, sz₁, hz₁⟩ := h
    have at₁ : ∀ c ∈ cs, c.At s₁.heap k := fun c hc => (x.at' c hc).keep (fun o => x₁.2.1 _ _ (by simpa using (zc c hc).1)) fun o => x₁.2.1 _ _ (by simpa using (zc c hc).2)
    rw [if_neg Bool.false_ne_true]
    rw [List.forIn_toArray]
    rcases Nat.lt_or_ge k n with hlt | hge
    · refine wpAny_bind (zip_take hh cs s₁ #[] nd3.2 (fun c hc hm => D.off c hc (.tail _ (.tail _ (.tail _ hm)))) at₁ (fun c hc => by rw [x.len c hc]; exact hlt) fun s₂ x₂ sz₂ at₂ => ?_)
      have x₁₂ : IS (zipW z TO cs) s s₂ := (x₁.mono fun a ha => by rw [List.mem_singleton.mp ha]; exact .head _).trans (x₂.mono fun a ha => .tail _ (.tail _ ha))
      have hz₂ : s₂.heap.get? z = some (zipObj (rawInt T) (.bool true) TI TO) := x₂.2.1 _ _ (fun hm => nd1.1 (.tail _ (.tail _ hm))) hz₁
      have hto₂ := x₂.2.1 _ _ nd3.1 (x₁.2.1 _ _ (by simpa using zTO) hto)
      have hti₂ := x₂.2.1 _ _ (fun hm => nd2.1 (.tail _ hm)) (x₁.2.1 _ _ (by simpa using zTI) hti)
      have e0 : (#[] : Array Value) ++ (cs.map (colX k)).toArray = (cs.map (colX k)).toArray := by simp
      rw [e0]
      refine wpAny_bind (wpAny_newTuple ?_ (by simp; exact Nat.le_trans h64 (by decide)))
      have kp := keeps_push s₂ { cls := .type "tuple", data := .seq (cs.map (colX k)).toArray }
      have szN : s₂.heap.objs.size = s.heap.objs.size := sz₂.trans sz₁
      have kk : ∀ b o, s₂.heap.get? b = some o → (s₂.heap.push { cls := .type "tuple", data := .seq (cs.map (colX k)).toArray }).get? b = some o := fun b o e => Heap.get?_push_of_some _ e
      refine wpAny_pure ⟨_, rfl, ?_⟩
      have := hQ { s₂ with heap := s₂.heap.push { cls := .type "tuple", data := .seq (cs.map (colX k)).toArray } } hlt (x₁₂.trans (.of_keeps kp)) ⟨0, by rw [← szN]; exact Heap.get?_push_size _ rfl⟩ ⟨⟨m, kk _ _ hti₂⟩, ⟨kept, mo, kk _ _ hto₂, hks⟩, fun c hc => (at₂ c hc).keep (fun o => kk _ o) fun o => kk _ o, x.len, x.ne⟩ (kk _ _ hz₂)
      rw [← szN] at this
      exact this
    · obtain rfl : k = n := Nat.le_antisymm hk hge
      obtain ⟨c, cs, rfl⟩ : ∃ c r, cs = c :: r := by cases cs with
        | nil => exact absurd rfl x.ne
        | cons c r => exact ⟨c, r, rfl⟩
      rw [List.map_cons, List.forIn_cons]
      refine wpAny_bind (wpAny_bind (wpAny_bind (wpAny_holding ?_)))
      show wpAny _ _ (Builtin.SmallTypes.nextOf (.ref c.1) >>= _) _ _ _
      exact wpAny_bind (col_end hh (at₁ c (.head _)) (Nat.le_of_eq (x.len c (.head _))) fun s₂ e x₂ he => hE _ e rfl ((x₁.ie.mono fun a ha => by rw [List.mem_singleton.mp ha]; exact .head _).trans (x₂.mono fun a ha => by rw [List.mem_singleton.mp ha]; simp)) he)
end
end Tg
namespace Tg
set_option maxHeartbeats 1000000
section
variable {Z α : List Addr} {h h' : Heap} {n k : Nat}
noncomputable def ColsR (Z α : List Addr) (h : Heap) : List (List V) → List Col → Prop
  | [], [] => True
  | l :: ls, c :: cs => (VRs Z α h l c.2.2 ∧ c.2.1 ∉ Z ++ α) ∧ ColsR Z α h ls cs
  | _, _ => False
noncomputable def rowAt (ls : List (List V)) (i : Nat) : List V := ls.map fun l => l.getD i .none
noncomputable def rows (ls : List (List V)) (n : Nat) : List V := (List.range n).map fun i => .tup (rowAt ls i)
theorem ColsR.map {Z' α' : List Addr} (f : ∀ {l ws}, VRs Z α h l ws → VRs Z' α' h' l ws) : ∀ {ls : List (List V)} {cs : List Col}, (∀ c ∈ cs, c.2.1 ∉ Z ++ α → c.2.1 ∉ Z' ++ α') → ColsR Z α h ls cs → ColsR Z' α' h' ls cs
  | [], [], _, _ => trivial
  | [], _ :: _, _, x => x.elim
  | _ :: _, [], _, x => x.elim
  | l :: ls, c :: cs, g, ⟨⟨a, b⟩, x⟩ => ⟨⟨f a, g c (.head _) b⟩, x.map f fun c hc => g c (.tail _ hc)⟩
theorem ColsR.off : ∀ {ls : List (List V)} {cs : List Col}, ColsR Z α h ls cs → ∀ c ∈ cs, c.2.1 ∉ Z ++ α
  | [], [], _, _, hc => nomatch hc
  | [], _ :: _, x, _, _ => x.elim
  | _ :: _, [], x, _, _ => x.elim
  | l :: ls, c :: cs, ⟨⟨_, b⟩, x⟩, c', hc => by
    rcases List.mem_cons.mp hc with rfl | hc
    · exact b
    · exact x.off c' hc
theorem ColsR.row : ∀ {ls : List (List V)} {cs : List Col}, ColsR Z α h ls cs → (∀ c ∈ cs, k < c.2.2.length) → VRs Z α h (rowAt ls k) (cs.map (colX k))
  | [], [], _, _ => .nil
  | [], _ :: _, x, _ => x.elim
  | _ :: _, [], x, _ => x.elim
  | l :: ls, c :: cs, ⟨⟨a, _⟩, x⟩, hk => by
    refine .cons ?_ (x.row fun c hc => hk c (.tail _ hc))
    have h1 := hk c (.head _)
    have h2 : k < l.length := by rw [← a.length]; exact h1
    obtain ⟨v, hv, r⟩ := a.get (List.getElem?_eq_getElem h2)
    have e1 : l.getD k .none = l[k] := by simp [h2]
    have e2 : colX k c = v := by
      rw [List.getElem?_eq_getElem h1] at hv
      simp only [Option.some.injEq] at hv
      simp [colX, h1, hv]
    show VR Z α h (l.getD k .none) (colX k c)
    rw [e1, e2]; exact r
theorem rows_head {ls : List (List V)} {v : V} {vs : List V} (e : (rows ls n).drop k = v :: vs) : k < n ∧ v = .tup (rowAt ls k) ∧ (rows ls n).drop (k + 1) = vs := by
  obtain ⟨h1, h2⟩ := drop_head e
  have hk : k < n := by have := (List.getElem?_eq_some_iff.mp h1).1; simpa [rows] using this
  refine ⟨hk, ?_, h2⟩
  simp [rows, hk] at h1
  exact h1.symm
theorem rows_end {ls : List (List V)} (e : (rows ls n).drop k = []) : n ≤ k := by have := List.drop_eq_nil_iff.mp e; simpa [rows] using this
variable {z TI TO : Addr} {cs : List Col} {ls : List (List V)}
noncomputable abbrev zipO (z TI TO : Addr) (cs : List Col) : List Addr := z :: TI :: TO :: cs.map (·.1)
theorem zipW_O {a : Addr} (h : a ∈ zipW z TO cs) : a ∈ zipO z TI TO cs := by
  rcases List.mem_cons.mp h with h | h
  · rw [h]; exact .head _
  · exact .tail _ (.tail _ h)
theorem zipA_of (nd : (zipO z TI TO cs).Nodup) (hz : ∀ a ∈ zipO z TI TO cs, a ∈ Z) (x : ColsR Z α h ls cs) : ZipA z TI TO cs := ⟨nd, fun c hc hm => x.off c hc (List.mem_append_left _ (hz _ hm))⟩
theorem ZipAt.step {B : Bs} {α' W : List Addr} {H' : AH} {s s' : Shared} (x : ZipAt z TI TO cs n k s.heap) (y : ColsR Z α s.heap ls cs) (I : ∀ a ∈ α, a ∉ Z) (st : Stp B Z W α s α' H' s') (hW : ∀ a ∈ W, a ∈ Z) (hw : ∀ a ∈ zipO z TI TO cs, a ∈ Z ∧ a ∉ W) : ZipAt z TI TO cs n k s'.heap ∧ ColsR Z α' s'.heap ls cs := by
  obtain ⟨m, hti⟩ := x.ti
  obtain ⟨kept, mo, hto, hks⟩ := x.to
  refine ⟨⟨⟨m, st.mine I (hw _ (by simp)) hti rfl⟩, ⟨kept, mo, st.mine I (hw _ (by simp)) hto rfl, hks⟩, fun c hc => ?_, x.len, x.ne⟩, ?_⟩
  · have off := y.off c hc
    obtain ⟨⟨o, e, cl, d⟩, mt, et⟩ := x.at' c hc
    exact ⟨⟨o, st.mine I (hw _ (by simp; exact .inr (.inr (.inr ⟨_, _, hc⟩)))) e cl, cl, d⟩, mt, (st.sep hW et (solid_type rfl) off).1⟩
  · refine ColsR.map (fun q => q.stp st hW) (fun c hc z => ?_) y
    obtain ⟨_, mt, et⟩ := x.at' c hc
    exact (st.sep hW et (solid_type rfl) z).2
theorem ColsR.is {wr : List Addr} {s s' : Shared} (y : ColsR Z α s.heap ls cs) (k : IS wr s s') (hw : ∀ a ∈ wr, a ∈ Z) : ColsR Z α s'.heap ls cs := ColsR.map (fun q => q.is k hw) (fun _ _ h => h) y
noncomputable def ZipSt (Z : List Addr) (z TI TO : Addr) (cs : List Col) (ls : List (List V)) (n : Nat) (vs : List V) (α : List Addr) (h : Heap) : Prop :=
  ∃ k, k ≤ n ∧ ZipAt z TI TO cs n k h ∧ h.get? z = some (zipObj .none (.bool false) TI TO) ∧ ColsR Z α h ls cs ∧ (rows ls n).drop k = vs
theorem wk_zip {B : Bs} {elts : List Expr} {kk : Nat} {tp : Pos} (O : B.Ok) (nd : (zipO z TI TO cs).Nodup) (h64 : cs.length ≤ 64) : Wk B Z (.Tuple elts kk tp) z (zipO z TI TO cs) (ZipSt Z z TI TO cs ls n) where
  mono := by
    rintro vs α H α' H' W s s' ⟨k, hk, x, hz, y, hd⟩ I st hW hw
    obtain ⟨x', y'⟩ := x.step y I st hW hw
    exact ⟨k, hk, x', st.mine I (hw _ (by simp)) hz rfl, y', hd⟩
  nx := by
    rintro A s α H v vs Q E hh I hw ⟨k, _, x, hz, y, hd⟩ hQ
    obtain ⟨hk, rfl, hd'⟩ := rows_head hd
    have hZ := fun a (h : a ∈ zipO z TI TO cs) => (hw a h).2
    have D := zipA_of nd hZ y
    have hT : s.TypeIs (.ref z) "zip" := ⟨_, hz, rfl⟩
    unfold pyNext
    refine wpAny_bind (wpAny_attempt (wpAny_callSpecial?_slot (name := Str.ofString "__next__") hT PySem.F.slot_zip_next
      (wpAny_call_entry PySem.F.slot_zip_next hT PySem.F.entry_zip_next ?_ (PySem.F.args_zip_next_1 _))))
    refine zip_next_free (by first | exact hh | assumption) D x h64 hz hk fun s₁ k₁ hTu x₁ hz₁ => wpAny_pure ⟨_, rfl, ?_⟩
    have k₁' : IS (zipO z TI TO cs) s s₁ := k₁.mono fun a => zipW_O
    refine wpAny_letOwnedTupleGo_zip hz₁ fun h' hz' hs' => ?_
    have k₂ : IS (zipO z TI TO cs) s₁ { s₁ with heap := h' } := (IS.same (tk := s₁.toks) hs' hz').mono fun a ha => by rw [List.mem_singleton.mp ha]; exact .head _
    have I₁ := I.is O k₁' hw
    have r₁ : VR Z α s₁.heap (.tup (rowAt ls k)) (.ref s.heap.objs.size) := .tup hTu ((y.row fun c hc => by rw [x.len c hc]; exact hk).is k₁' hZ) I.new
    have nz := fun c (hc : c ∈ cs) => D.off c hc
    have nd1 := List.nodup_cons.mp nd
    obtain ⟨m, hti⟩ := x₁.ti
    obtain ⟨kept, mo, hto, hks⟩ := x₁.to
    have ne : ∀ b, b ≠ z → ∀ o, s₁.heap.get? b = some o → h'.get? b = some o := fun b hb o e => (hs'.2 b hb).trans e
    refine hQ _ _ (k₁'.trans k₂) ⟨k + 1, hk, ⟨⟨m, ne _ (fun q => nd1.1 (by rw [← q]; simp)) _ hti⟩, ⟨kept, mo, ne _ (fun q => nd1.1 (by rw [← q]; simp)) _ hto, hks⟩, fun c hc => (x₁.at' c hc).keep (fun o => ne _ (fun q => nd1.1 (by rw [← q]; simp; exact .inr (.inr ⟨_, _, hc⟩))) o) (fun o => ne _ (fun q => nz c hc (by rw [q]; simp)) o), x₁.len, x₁.ne⟩, hz', (y.is k₁' hZ).is k₂ hZ, hd'⟩ (r₁.is k₂ hZ)
  dn := by
    rintro A s α H Q E hh I hw ⟨k, hk, x, hz, y, hd⟩ hQ
    obtain rfl : k = n := Nat.le_antisymm hk (rows_end hd)
    have hT : s.TypeIs (.ref z) "zip" := ⟨_, hz, rfl⟩
    unfold pyNext
    refine wpAny_bind (wpAny_attempt (wpAny_callSpecial?_slot (name := Str.ofString "__next__") hT PySem.F.slot_zip_next
      (wpAny_call_entry PySem.F.slot_zip_next hT PySem.F.entry_zip_next (zip_end_free (by first | exact hh | assumption) (zipA_of nd (fun a h => (hw a h).2) y) x hz fun s₁ e k₁ he => ?_) (PySem.F.args_zip_next_1 _))))
    obtain ⟨o, ho, hc⟩ := he
    exact wpAny_bind (wpAny_isInstance (T := "StopIteration") (b := true) ⟨o, ho, hc⟩ isSubtype_stop (wpAny_pure ⟨rfl, hQ _ (k₁.mono fun a => zipW_O)⟩))
  self := by
    rintro A s vs α Q E ⟨k, hk, x, hz, y, hd⟩ hQ
    exact wpAny_pyIter_zip hz hQ
end
end Tg
namespace Tg
set_option maxHeartbeats 1000000
section
variable {prog : Program} {w : World} {A : Around} {E : Value → Shared → Prop} {s : Shared}
theorem iter_loop {Q : Array Value → Shared → Prop} : ∀ (ts : List (Addr × List Value)) (s : Shared) (acc : Array Value), (∀ p ∈ ts, Tu s.heap p.1 p.2.toArray) →
    (∀ s' (cs : List Col), Keeps s s' → s'.heap.objs.size = s.heap.objs.size + ts.length → cs.map (·.2) = ts → cs.map (·.1) = List.range' s.heap.objs.size ts.length → (∀ c ∈ cs, Col.At s'.heap 0 c) → Q (acc ++ (cs.map fun c => Value.ref c.1).toArray) s') →
    wpAny (model prog w) A (forIn (ts.map fun p => Value.ref p.1) acc fun x r => do
      let i ← holding r.toList (pyIter x)
      pure (ForInStep.yield (r.push i))) Q E s
  | [], s, acc, _, hQ => wpAny_pure (by have := hQ s [] (Keeps.refl' s) rfl rfl rfl (fun c h => nomatch h); simpa using this)
  | p :: ts, s, acc, ht, hQ => by
    rw [List.map_cons, List.forIn_cons]
    refine wpAny_bind (wpAny_bind (wpAny_holding (wpAny_pyIter_tuple (ht p (.head _)).is (wpAny_pure ?_))))
    have kk := keeps_push s { cls := .type "tuple_iterator", data := .fields #[.ref p.1, .int 0 0] }
    have kh : ∀ b o, s.heap.get? b = some o → (s.heap.push { cls := .type "tuple_iterator", data := .fields #[.ref p.1, .int 0 0] }).get? b = some o := fun _ _ e => Heap.get?_push_of_some _ e
    have tk : ∀ q ∈ p :: ts, Tu (s.heap.push { cls := .type "tuple_iterator", data := .fields #[.ref p.1, .int 0 0] }) q.1 q.2.toArray := fun q hq => let ⟨m, e⟩ := ht q hq; ⟨m, kh _ _ e⟩
    refine iter_loop ts _ _ (fun q hq => tk q (.tail _ hq)) fun s' cs k' sz e1 e2 at' => ?_
    have e := hQ s' ((s.heap.objs.size, p.1, p.2) :: cs) (keeps_trans kk k') (by rw [sz, List.length_cons]; show (s.heap.push _).objs.size + ts.length = _; rw [Heap.size_push]; omega) (by rw [List.map_cons, e1]) (by
      rw [List.map_cons, e2, List.length_cons, List.range'_succ]
      show _ :: List.range' (s.heap.push _).objs.size ts.length = _
      rw [Heap.size_push]) fun c hc => by
        rcases List.mem_cons.mp hc with rfl | hc
        · obtain ⟨h', tk', rfl, kk'⟩ := k'
          obtain ⟨m, et⟩ := tk p (.head _)
          exact ⟨⟨_, kk' _ _ (Heap.get?_push_size _ rfl), rfl, rfl⟩, m, kk' _ _ et⟩
        · exact at' c hc
    have ea : acc.push (.ref s.heap.objs.size) ++ (cs.map fun c => Value.ref c.1).toArray = acc ++ (((s.heap.objs.size, p.1, p.2) :: cs).map fun c => Value.ref c.1).toArray := by simp
    rw [ea]; exact e
theorem zip_made {ts : List (Addr × List Value)} {Q : Value → Shared → Prop} (c1 : checkTypeCall "zip" ⟨ts.map fun p => Value.ref p.1, []⟩ = pure ()) (c2 : checkBuiltinCall "zip.__new__" ⟨.type "zip" :: ts.map fun p => Value.ref p.1, []⟩ = pure ()) (c3 : ∀ obj, argsOk "object.__init__" ⟨obj :: ts.map fun p => Value.ref p.1, []⟩) (hl : ts.length ≤ 64) (ht : ∀ p ∈ ts, Tu s.heap p.1 p.2.toArray)
    (hQ : ∀ s' (cs : List Col), Keeps s s' → cs.map (·.2) = ts → cs.map (·.1) = List.range' s.heap.objs.size ts.length → (∀ c ∈ cs, Col.At s'.heap 0 c) →
      s'.heap.get? (s.heap.objs.size + ts.length) = some { cls := .type "tuple", data := .seq (cs.map fun c => Value.ref c.1).toArray } → s'.heap.get? (s.heap.objs.size + ts.length + 1) = some { cls := .type "tuple", data := .seq (cs.map fun _ => Value.none).toArray } →
      s'.heap.get? (s.heap.objs.size + ts.length + 2) = some (zipObj .none (.bool false) (s.heap.objs.size + ts.length) (s.heap.objs.size + ts.length + 1)) → Q (.ref (s.heap.objs.size + ts.length + 2)) s') :
    wpAny (model prog w) A (call (.type "zip") (ts.map fun p => .ref p.1)) Q E s := by
  refine callType_codes (Q₁ := fun obj s₁ => s₁.TypeIs obj "zip" ∧ Q obj s₁) PySem.F.called_zip c1 PySem.F.entry_object_init ?_ fun obj s₁ h₁ =>
    ⟨h₁.1, c3 obj, object_init_meets PySem.F.called_zip.init.lookup PySem.F.called_zip.made (by decide) prog w A.in1 _ s₁ ⟨h₁.1, rfl, h₁.2⟩⟩
  generalize hxs : (ts.map fun p => Value.ref p.1) = xs at *
  refine codeAny_of_tree ?_
  show wpAny _ A.in1.in1 (do checkBuiltinCall "zip.__new__" ⟨.type "zip" :: xs, []⟩; again (.builtin "zip.__new__" ⟨.type "zip" :: xs, []⟩)) _ _ s
  refine wpAny_bind (wpAny_of_eq c2 (wpAny_pure ⟨plainId_quiet (by decide +kernel) _, codeAny_builtin PySem.F.entry_zip_new ?_⟩))
  have hit : ∀ {Q : List Value → Shared → Prop} {E : Value → Shared → Prop} {A : Around}, (∀ s' (cs : List Col), Keeps s s' → s'.heap.objs.size = s.heap.objs.size + ts.length → cs.map (·.2) = ts → cs.map (·.1) = List.range' s.heap.objs.size ts.length → (∀ c ∈ cs, Col.At s'.heap 0 c) → Q (cs.map fun c => Value.ref c.1) s') →
      wpAny (model prog w) A (Builtin.SmallTypes.iterAll xs) Q E s := fun h => by
    subst hxs
    unfold Builtin.SmallTypes.iterAll
    exact wpAny_bind (iter_loop ts s #[] ht fun s' cs k sz e1 e2 at' => wpAny_pure (by have := h s' cs k sz e1 e2 at'; simpa using this))
  unfold Builtin.«zip.__new__»
  have hsub := PySem.sub_zip
  wp_walk using hit
  intro s' cs k sz e1 e2 at'
  have hlen : cs.length = ts.length := by rw [← e1, List.length_map]
  refine wpAny_bind (wpAny_newTuple ?_ (by rw [List.length_map, hlen]; exact Nat.le_trans hl (by decide)))
  refine wpAny_bind (wpAny_newTuple ?_ (by simp only [List.length_map]; rw [hlen]; exact Nat.le_trans hl (by decide)))
  generalize hN : s.heap.objs.size + ts.length = N at *
  have s1 : (s'.heap.push { cls := .type "tuple", data := .seq (cs.map fun c => Value.ref c.1).toArray }).objs.size = N + 1 := by rw [Heap.size_push, sz]
  have g1 : (s'.heap.push { cls := .type "tuple", data := .seq (cs.map fun c => Value.ref c.1).toArray }).get? N = some { cls := .type "tuple", data := .seq (cs.map fun c => Value.ref c.1).toArray } := by rw [← sz]; exact Heap.get?_push_size _ rfl
  have kk := keeps_push s' { cls := .type "tuple", data := .seq (cs.map fun c => Value.ref c.1).toArray }
  have e0 : (cs.map fun c => Value.ref c.1).map (fun _ => Value.none) = cs.map fun _ => Value.none := by rw [List.map_map]; rfl
  rw [e0]
  have kk2 := keeps_trans kk (keeps_push { s' with heap := s'.heap.push { cls := .type "tuple", data := .seq (cs.map fun c => Value.ref c.1).toArray } } { cls := .type "tuple", data := .seq (cs.map fun _ => Value.none).toArray })
  have g2 : ((s'.heap.push { cls := .type "tuple", data := .seq (cs.map fun c => Value.ref c.1).toArray }).push { cls := .type "tuple", data := .seq (cs.map fun _ => Value.none).toArray }).get? (N + 1) = some { cls := .type "tuple", data := .seq (cs.map fun _ => Value.none).toArray } := by rw [← s1]; exact Heap.get?_push_size _ rfl
  have g1' : ((s'.heap.push { cls := .type "tuple", data := .seq (cs.map fun c => Value.ref c.1).toArray }).push { cls := .type "tuple", data := .seq (cs.map fun _ => Value.none).toArray }).get? N = some { cls := .type "tuple", data := .seq (cs.map fun c => Value.ref c.1).toArray } := Heap.get?_push_of_some _ g1
  have s2 : ((s'.heap.push { cls := .type "tuple", data := .seq (cs.map fun c => Value.ref c.1).toArray }).push { cls := .type "tuple", data := .seq (cs.map fun _ => Value.none).toArray }).objs.size = N + 2 := by rw [Heap.size_push, s1]
  show wpAny _ _ (Builtin.SmallTypes.newRecord (.type "zip") (Builtin.SmallTypes.ownedTupleFields ++ [.bool false, .ref s'.heap.objs.size, .ref (s'.heap.push { cls := .type "tuple", data := .seq (cs.map fun c => Value.ref c.1).toArray }).objs.size]) >>= fun x => ret x) _ _ { s' with heap := (s'.heap.push { cls := .type "tuple", data := .seq (cs.map fun c => Value.ref c.1).toArray }).push { cls := .type "tuple", data := .seq (cs.map fun _ => Value.none).toArray } }
  rw [sz, s1]
  generalize ((s'.heap.push { cls := .type "tuple", data := .seq (cs.map fun c => Value.ref c.1).toArray }).push { cls := .type "tuple", data := .seq (cs.map fun _ => Value.none).toArray }) = h2 at *
  wp_walk
  have g3 : (h2.push (zipObj .none (.bool false) N (N + 1))).get? h2.objs.size = some (zipObj .none (.bool false) N (N + 1)) := Heap.get?_push_size _ rfl
  have kk3 := keeps_trans k (keeps_trans kk2 (keeps_push { s' with heap := h2 } (zipObj .none (.bool false) N (N + 1))))
  have at2 : ∀ c ∈ cs, Col.At (h2.push (zipObj .none (.bool false) N (N + 1))) 0 c := fun c hc => by
    obtain ⟨h', tk', e, kq⟩ := keeps_trans kk2 (keeps_push { s' with heap := h2 } (zipObj .none (.bool false) N (N + 1)))
    have e' : h2.push (zipObj .none (.bool false) N (N + 1)) = h' := congrArg Shared.heap e
    rw [e']
    exact (at' c hc).keep (fun o => kq _ o) fun o => kq _ o
  have fin := hQ { s' with heap := h2.push (zipObj .none (.bool false) N (N + 1)) } cs kk3 e1 e2 at2 (Heap.get?_push_of_some _ g1') (Heap.get?_push_of_some _ g2) (by rw [← s2]; exact g3)
  refine ⟨⟨_, g3, rfl⟩, ?_⟩
  show Q (.ref h2.objs.size) _
  rw [s2]
  exact fin
end
end Tg
namespace Tg
set_option maxHeartbeats 1000000
theorem args_init_4 (a b c d : Value) : argsOk "object.__init__" ⟨[a, b, c, d], []⟩ := by
  unfold argsOk; rw [PySem.signature?_of (id := "object.__init__") (n := ['_', '_', 't', 'i', 'n', 'i', '_', '_']) (o := ['t', 'c', 'e', 'j', 'b', 'o']) (by kernel_rfl) PySem.F.owner_object]; kernel_rfl
theorem zip_checks {xs : List Value} (h : xs.length = 2 ∨ xs.length = 3) : checkTypeCall "zip" ⟨xs, []⟩ = pure () ∧ checkBuiltinCall "zip.__new__" ⟨.type "zip" :: xs, []⟩ = pure () ∧ ∀ obj, argsOk "object.__init__" ⟨obj :: xs, []⟩ := by
  rcases h with h | h
  · obtain ⟨a, xs, rfl, h1⟩ := len1 h
    obtain ⟨b, xs, rfl, h2⟩ := len1 h1
    obtain rfl := len0 h2
    exact ⟨PySem.F.typeCall_zip_2 _ _, PySem.F.newCall_zip_2 _ _, fun obj => PySem.F.args_object_init_3 obj _ _⟩
  · obtain ⟨a, xs, rfl, h1⟩ := len1 h
    obtain ⟨b, xs, rfl, h2⟩ := len1 h1
    obtain ⟨c, xs, rfl, h3⟩ := len1 h2
    obtain rfl := len0 h3
    exact ⟨by kernel_rfl, by kernel_rfl, fun obj => args_init_4 obj _ _ _⟩
section
variable {Z α : List Addr} {h : Heap} {n : Nat}
noncomputable def TsR (Z α : List Addr) (h : Heap) : List (List V) → List (Addr × List Value) → Prop
  | [], [] => True
  | l :: ls, p :: ts => (Tu h p.1 p.2.toArray ∧ VRs Z α h l p.2 ∧ p.1 ∉ Z ++ α) ∧ TsR Z α h ls ts
  | _, _ => False
theorem tups_open : ∀ {ls : List (List V)} {ws : List Value}, VRs Z α h (ls.map .tup) ws → ∃ ts : List (Addr × List Value), ws = ts.map (fun p => .ref p.1) ∧ TsR Z α h ls ts
  | [], ws, r => ⟨[], r.nilI, trivial⟩
  | l :: ls, ws, r => by
    obtain ⟨x, xs, rfl, r0, r1⟩ := r.consI
    obtain ⟨a, vs, rfl, t, q, z⟩ := r0.tupI
    obtain ⟨ts, e, y⟩ := tups_open r1
    exact ⟨(a, vs) :: ts, by rw [e]; rfl, ⟨t, q, z⟩, y⟩
theorem TsR.tu : ∀ {ls : List (List V)} {ts : List (Addr × List Value)}, TsR Z α h ls ts → ∀ p ∈ ts, Tu h p.1 p.2.toArray
  | [], [], _, _, hp => nomatch hp
  | [], _ :: _, x, _, _ => x.elim
  | _ :: _, [], x, _, _ => x.elim
  | l :: ls, p :: ts, ⟨⟨t, _⟩, x⟩, q, hq => by
    rcases List.mem_cons.mp hq with rfl | hq
    · exact t
    · exact x.tu q hq
theorem TsR.len : ∀ {ls : List (List V)} {ts : List (Addr × List Value)}, TsR Z α h ls ts → ts.length = ls.length
  | [], [], _ => rfl
  | [], _ :: _, x => x.elim
  | _ :: _, [], x => x.elim
  | l :: ls, p :: ts, ⟨_, x⟩ => congrArg Nat.succ x.len
theorem TsR.cols : ∀ {ls : List (List V)} {cs : List Col}, TsR Z α h ls (cs.map (·.2)) → (∀ l ∈ ls, l.length = n) → ColsR Z α h ls cs ∧ ∀ c ∈ cs, c.2.2.length = n
  | [], [], _, _ => ⟨trivial, fun c h => nomatch h⟩
  | [], _ :: _, x, _ => x.elim
  | _ :: _, [], x, _ => x.elim
  | l :: ls, c :: cs, ⟨⟨_, q, z⟩, x⟩, hn => by
    obtain ⟨a, b⟩ := x.cols fun l hl => hn l (.tail _ hl)
    refine ⟨⟨⟨q, z⟩, a⟩, fun c' hc' => ?_⟩
    rcases List.mem_cons.mp hc' with rfl | hc'
    · rw [q.length]; exact hn l (.head _)
    · exact b c' hc'
theorem rows2 {l m : List V} (h1 : l.length = n) (h2 : m.length = n) : rows [l, m] n = List.zipWith (fun a b => .tup [a, b]) l m := by
  refine List.ext_getElem? fun i => ?_
  by_cases hi : i < n
  · simp [rows, rowAt, hi, List.getElem?_zipWith, List.getElem?_eq_getElem, h1, h2]
  · rw [List.getElem?_eq_none (by simp [rows]; omega), List.getElem?_eq_none (by simp; omega)]
theorem rows3 {l m k : List V} (h1 : l.length = n) (h2 : m.length = n) (h3 : k.length = n) : rows [l, m, k] n = (l.zip (m.zip k)).map fun p => .tup [p.1, p.2.1, p.2.2] := by
  refine List.ext_getElem? fun i => ?_
  by_cases hi : i < n
  · simp [rows, rowAt, hi, List.getElem?_eq_getElem, h1, h2, h3]
  · rw [List.getElem?_eq_none (by simp [rows]; omega), List.getElem?_eq_none (by simp; omega)]
end
section
variable {K : Kx} {σ : En} {H H₁ : AH} {f : Expr} {es elts : List Expr} {pos tp : Pos} {kk n : Nat} {ls : List (List V)}
theorem zip_nd (N m : Nat) : ((N + m + 2) :: (N + m) :: (N + m + 1) :: List.range' N m).Nodup := by
  simp only [List.nodup_cons, List.mem_cons, List.mem_range'_1, not_or]
  exact ⟨by omega, by omega, by omega, List.nodup_range'⟩
theorem zip_src {Z A env s₁ α₁} {ws : List Value} {Q : Value → Shared → Prop} {E : Value → Shared → Prop} (C : Cx K Z A env s₁ α₁ H₁ σ) (r : VRs Z α₁ s₁.heap (ls.map .tup) ws) (hn : ∀ l ∈ ls, l.length = n) (hl : ls.length = 2 ∨ ls.length = 3)
    (hQ : ∀ s₂ (z TI TO : Addr) (cs : List Col), Keeps s₁ s₂ → (zipO z TI TO cs).Nodup → cs.length ≤ 64 → (∀ a ∈ zipO z TI TO cs, s₁.heap.objs.size ≤ a ∧ ∃ o, s₂.heap.get? a = some o) → ZipAt z TI TO cs n 0 s₂.heap → s₂.heap.get? z = some (zipObj .none (.bool false) TI TO) → ColsR (zipO z TI TO cs ++ Z) α₁ s₂.heap ls cs → Q (.ref z) s₂) :
    wpAny (model K.B.prog K.B.w) A (call (.type "zip") ws) Q E s₁ := by
  obtain ⟨ts, rfl, y⟩ := tups_open r
  have hlen := y.len
  obtain ⟨c1, c2, c3⟩ := zip_checks (xs := ts.map fun p => .ref p.1) (by rw [List.length_map, hlen]; exact hl)
  refine zip_made c1 c2 c3 (by omega) y.tu fun s₂ cs kk e1 e2 at' g1 g2 g3 => ?_
  have hcl : cs.length = ts.length := by rw [← e1, List.length_map]
  have up : ∀ a ∈ zipO (s₁.heap.objs.size + ts.length + 2) (s₁.heap.objs.size + ts.length) (s₁.heap.objs.size + ts.length + 1) cs, s₁.heap.objs.size ≤ a := fun a ha => by
    rcases List.mem_cons.mp ha with h | ha
    · rw [h]; exact Nat.le_trans (Nat.le_add_right _ _) (Nat.le_add_right _ _)
    · rcases List.mem_cons.mp ha with h | ha
      · rw [h]; exact Nat.le_add_right _ _
      · rcases List.mem_cons.mp ha with h | ha
        · rw [h]; exact Nat.le_trans (Nat.le_add_right _ _) (Nat.le_add_right _ _)
        · rw [e2] at ha; exact (List.mem_range'_1.mp ha).1
  have fz : Fresh (zipO (s₁.heap.objs.size + ts.length + 2) (s₁.heap.objs.size + ts.length) (s₁.heap.objs.size + ts.length + 1) cs) s₁.heap := fun a ha => none_new' (up a ha)
  subst e1
  obtain ⟨w1, w2⟩ := y.cols (n := n) hn
  refine hQ s₂ _ _ _ cs kk ?_ (by omega) (fun a ha => ⟨up a ha, ?_⟩) ⟨⟨0, g1⟩, ⟨_, 0, g2, by simp⟩, at', w2, ?_⟩ g3 ?_
  · show (_ :: _ :: _ :: cs.map (·.1)).Nodup
    rw [e2]
    exact zip_nd _ _
  · simp only [List.mem_cons, List.mem_map] at ha
    rcases ha with rfl | rfl | rfl | ⟨c, hc, rfl⟩
    · exact ⟨_, g3⟩
    · exact ⟨_, g1⟩
    · exact ⟨_, g2⟩
    · obtain ⟨⟨o, e, _⟩, _⟩ := at' c hc; exact ⟨o, e⟩
  · rintro rfl
    simp at hcl hlen
    omega
  · have w1' : ColsR (zipO (s₁.heap.objs.size + (cs.map (·.2)).length + 2) (s₁.heap.objs.size + (cs.map (·.2)).length) (s₁.heap.objs.size + (cs.map (·.2)).length + 1) cs ++ Z) α₁ s₁.heap ls cs := ColsR.map (fun q => q.banned fz) (fun c hc z => by
      obtain ⟨m, e⟩ := y.tu c.2 (List.mem_map.mpr ⟨c, hc, rfl⟩)
      exact (ban_k fz _ _ e (solid_type rfl) z).2) w1
    exact ColsR.map (fun q => q.keeps kk) (fun _ _ h => h) w1'
theorem zip_ban {z TI TO : Addr} {cs : List Col} : ∀ (zs Z : List Addr) (vs : List V) (α : List Addr) (h : Heap), Fresh zs h → ZipSt Z z TI TO cs ls n vs α h → ZipSt (zs ++ Z) z TI TO cs ls n vs α h := by
  rintro zs Z vs α h f ⟨k, hk, x, hz, y, hd⟩
  exact ⟨k, hk, x, hz, ColsR.map (fun q => q.banned f) (fun c hc zz => let ⟨_, _, et⟩ := x.at' c hc; (ban_k f _ _ et (solid_type rfl) zz).2) y, hd⟩
theorem si_zip (hfv : Ev K f σ H (.raw (.type "zip")) H) (hes : EvL K es σ H (ls.map .tup) H₁) (hn : ∀ l ∈ ls, l.length = n) (hl : ls.length = 2 ∨ ls.length = 3 := by decide) (hf : callEq f es pos := by intro _; rfl) (hso : starOk es = true := by rfl) :
    Si K (.Tuple elts kk tp) (.Call f es [] pos) σ H (rows ls n) H₁ := fun _ _ _ _ _ Q E C hQ => call_open hfv hes rfl hf hso C fun ws s₁ α₁ k₁ r₁ =>
  zip_src (C.step k₁) r₁ hn hl fun s₂ z TI TO cs kk nd h64 hw x hz y => wpAny_pyIter_zip hz (hQ z _ (fun Z => ZipSt Z z TI TO cs ls n) s₁ s₂ α₁ k₁
    ⟨kk, fun Z => wk_zip (Z := Z) C.O nd h64, ⟨0, Nat.zero_le _, x, hz, y, rfl⟩, zip_ban, fun a ha => ⟨Nat.le_trans (C.step k₁).size (hw a ha).1, none_new' (hw a ha).1, (hw a ha).2⟩⟩)
end
end Tg
namespace Tg
set_option maxHeartbeats 1000000
namespace FR
theorem owner_rev : Manifest.owners.lookup (String.ofList ['d', 'e', 's', 'r', 'e', 'v', 'e', 'r'].reverse) = some Manifest.sig_reversed := by kernel_rfl
theorem slot_next : Slot "reversed" "__next__" "reversed.__next__" :=
  .of (owner := "reversed") (n := "__next__") (by rw [typeLookup_type, builtinLookup_eq_fast]; kernel_rfl) (by decide +kernel) (by decide +kernel) (by decide +kernel)
    (by first | exact .inl (by decide +kernel) | exact .inr (by decide +kernel)) (by rw [isSubtype_type]; kernel_rfl)
theorem entry_next : entryFor table "reversed.__next__" = some Builtin.«reversed.__next__» := entryFor_of_tree (by kernel_rfl)
theorem args_next (a : Value) : argsOk "reversed.__next__" ⟨[a], []⟩ := by
  unfold argsOk; rw [signature?_of (id := "reversed.__next__") (n := ['_', '_', 't', 'x', 'e', 'n', '_', '_']) (o := ['d', 'e', 's', 'r', 'e', 'v', 'e', 'r']) (by kernel_rfl) owner_rev]; kernel_rfl
theorem slot_iter : Slot "reversed" "__iter__" "reversed.__iter__" :=
  .of (owner := "reversed") (n := "__iter__") (by rw [typeLookup_type, builtinLookup_eq_fast]; kernel_rfl) (by decide +kernel) (by decide +kernel) (by decide +kernel)
    (by first | exact .inl (by decide +kernel) | exact .inr (by decide +kernel)) (by rw [isSubtype_type]; kernel_rfl)
theorem args_iter (a : Value) : argsOk "reversed.__iter__" ⟨[a], []⟩ := by
  unfold argsOk; rw [signature?_of (id := "reversed.__iter__") (n := ['_', '_', 'r', 'e', 't', 'i', '_', '_']) (o := ['d', 'e', 's', 'r', 'e', 'v', 'e', 'r']) (by kernel_rfl) owner_rev]; kernel_rfl
theorem entry_iter : entryFor table "reversed.__iter__" = some Builtin.«dict_keyiterator.__iter__» :=
  entryFor_alias (id' := "dict_keyiterator.__iter__") (by kernel_rfl) (by first | rfl | decide +kernel | (unfold String.splitOn; simp +decide [String.splitOnAux])) (by decide +kernel) (by kernel_rfl)
theorem slot_init : Slot "reversed" "__init__" "object.__init__" :=
  .of (owner := "object") (n := "__init__") (by rw [typeLookup_type, builtinLookup_eq_fast]; kernel_rfl) (by decide +kernel) (by decide +kernel) (by decide +kernel)
    (by first | exact .inl (by decide +kernel) | exact .inr (by decide +kernel)) (by rw [isSubtype_type]; kernel_rfl)
theorem called : TypeCalled "reversed" "reversed.__new__" "object.__init__" :=
  ⟨by decide +kernel, by decide +kernel, ⟨_, _, PySem.F.mro_reversed⟩, madeBy_type PySem.F.mro_reversed PySem.F.lookup_reversed_new (by decide +kernel), by decide +kernel, by rw [isSubtype_type]; kernel_rfl, slot_init⟩
theorem tuple_no_rev : typeLookup (.type "tuple") "__reversed__" = pure none := by rw [typeLookup_type, builtinLookup_eq_fast]; kernel_rfl
theorem sub_tuple_dict : isSubtype (.type "tuple") (.type "dict") = pure false := by rw [isSubtype_type]; kernel_rfl
end FR
noncomputable abbrev revO (t : Addr) (i : Int) : Obj := { cls := .type "reversed", data := .fields #[.ref t, rawInt i] }
noncomputable abbrev IsRev (h : Heap) (a t : Addr) (i : Int) : Prop := h.get? a = some (revO t i)
section
variable {prog : Program} {w : World} {A : Around} {E : Value → Shared → Prop} {s : Shared}
theorem call_reversed_tuple {t : Addr} {items : Array Value} {Q : Value → Shared → Prop} (ht : IsTup s.heap t items) (hsz : items.size ≤ 1048576)
    (h : ∀ (tk : Nat), Q (.ref s.heap.objs.size) { s with heap := s.heap.push (revO t ((items.size : Int) - 1)), toks := tk }) : wpAny (model prog w) A (call (.type "reversed") [.ref t]) Q E s := by
  refine callType_codes (Q₁ := fun obj s₁ => s₁.TypeIs obj "reversed" ∧ Q obj s₁) FR.called (PySem.F.typeCall_reversed_1 _) PySem.F.entry_object_init ?_ fun obj s₁ h₁ =>
    ⟨h₁.1, PySem.F.args_object_init_2 obj _, object_init_meets FR.called.init.lookup FR.called.made (by decide) prog w A.in1 _ s₁ ⟨h₁.1, rfl, h₁.2⟩⟩
  refine codeAny_of_tree ?_
  show wpAny _ A.in1.in1 (do checkBuiltinCall "reversed.__new__" ⟨[.type "reversed", .ref t], []⟩; again (.builtin "reversed.__new__" ⟨[.type "reversed", .ref t], []⟩)) _ _ s
  refine wpAny_bind (wpAny_of_eq (PySem.F.newCall_reversed_1 _) (wpAny_pure ⟨plainId_quiet PySem.F.plain_reversed_new _, codeAny_builtin PySem.F.entry_reversed_new ?_⟩))
  rw [Around.under_plainId PySem.F.plain_reversed_new _]
  unfold Builtin.«reversed.__new__»
  refine wpAny_bind (wpAny_of_eq (newClass_reversed _) ?_)
  try dsimp only
  refine wpAny_bind (wpAny_of_eq (a := ()) (by first | rfl | kernel_rfl) ?_)
  refine wpAny_bind (wpAny_of_eq (a := ()) (by first | rfl | kernel_rfl) ?_)
  try dsimp only
  refine wpAny_bind (wpAny_specialOf ht.typeIs FR.tuple_no_rev ?_)
  try dsimp only
  refine wpAny_bind ?_
  show wpAny _ _ (isInstance (.ref t) (.type "dict") >>= _) _ _ s
  refine wpAny_bind (wpAny_isInstance ht.typeIs FR.sub_tuple_dict ?_)
  show wpAny _ _ (specialOf (.ref t) "__getitem__" >>= _) _ _ s
  refine wpAny_bind (wpAny_specialOf ht.typeIs slot_tuple_getitem.lookup ?_)
  dsimp only
  rw [if_pos (by decide)]
  refine wpAny_pure ?_
  rw [if_neg (by decide)]
  refine wpAny_bind (len_tuple ht (by omega) ?_)
  refine wpAny_bind (wpAny_pure ?_)
  dsimp only
  refine wpAny_bind ?_
  show wpAny _ _ (newObj (.type "reversed") (.fields #[.ref t, rawInt ((items.size : Int) - 1)])) _ _ _
  exact wpAny_newObj_type (wpAny_pure ⟨⟨_, Heap.get?_push_size _ rfl, rfl⟩, h _⟩)
theorem rev_item {J t : Addr} {i : Nat} {items : Array Value} {x : Value} {Q : Option Value → Shared → Prop} (hJ : IsRev s.heap J t (i : Int)) (ht : IsTup s.heap t items) (hx : items[i]? = some x) (hi : i < 1048576)
    (hQ : ∀ h', IsRev h' J t ((i : Int) - 1) → Heap.SameBut J s.heap h' → Q (some x) { s with heap := h', toks := s.toks + 1 }) : wpAny (model prog w) A (pyNext (.ref J)) Q E s := by
  have hT : s.TypeIs (.ref J) "reversed" := ⟨_, hJ, rfl⟩
  unfold pyNext
  refine wpAny_bind (wpAny_attempt (wpAny_callSpecial?_slot (name := Str.ofString "__next__") hT FR.slot_next
    (wpAny_call_entry FR.slot_next hT FR.entry_next ?_ (FR.args_next _))))
  unfold Builtin.«reversed.__next__»
  refine wpAny_bind (wpAny_of_eq (a := (Value.ref J, [])) rfl ?_)
  try dsimp only
  refine wpAny_bind (wpAny_field hJ rfl (x := .ref t) rfl ?_)
  refine wpAny_bind (wpAny_field hJ rfl (x := rawInt (i : Int)) rfl ?_)
  show wpAny _ _ (if (i : Int) < 0 then _ else _) _ _ s
  rw [if_neg (by omega)]
  refine wpAny_bind (wpAny_specialOf ht.typeIs slot_tuple_getitem.lookup ?_)
  try dsimp only
  rw [if_neg (by decide)]
  refine wpAny_bind (wpAny_mkInt ?_)
  refine wpAny_bind (wpAny_attempt (getItem_tuple (s := { s with toks := s.toks + 1 }) ht (by omega) (by omega) (j := i) ?_ hx ?_))
  · unfold seqIndex?
    have h1 : ¬ (i : Int) < 0 := by omega
    have h2 := (Array.getElem?_eq_some_iff.mp hx).1
    simp only [h1, if_false]
    rw [if_pos (by simp only [Bool.and_eq_true, decide_eq_true_eq]; omega)]
    simp
  · dsimp only
    refine wpAny_bind (wpAny_field (s := { s with toks := s.toks + 1 }) hJ rfl (x := rawInt (i : Int)) rfl ?_)
    refine wpAny_bind (wpAny_setField_rec (s := { s with toks := s.toks + 1 }) hJ (by simp) fun h' hJ' hs' => ?_)
    exact wpAny_pure ⟨_, rfl, wpAny_pure (hQ h' hJ' hs')⟩
theorem rev_end {J t : Addr} {Q : Option Value → Shared → Prop} (hh : A.handled = none) (hJ : IsRev s.heap J t (-1)) (hQ : ∀ h', Heap.ExtBut J s.heap h' → Q none { s with heap := h' }) : wpAny (model prog w) A (pyNext (.ref J)) Q E s := by
  have hT : s.TypeIs (.ref J) "reversed" := ⟨_, hJ, rfl⟩
  unfold pyNext
  refine wpAny_bind (wpAny_attempt (wpAny_callSpecial?_slot (name := Str.ofString "__next__") hT FR.slot_next
    (wpAny_call_entry FR.slot_next hT FR.entry_next ?_ (FR.args_next _))))
  unfold Builtin.«reversed.__next__»
  refine wpAny_bind (wpAny_of_eq (a := (Value.ref J, [])) rfl ?_)
  try dsimp only
  refine wpAny_bind (wpAny_field hJ rfl (x := .ref t) rfl ?_)
  refine wpAny_bind (wpAny_field hJ rfl (x := rawInt (-1)) rfl ?_)
  show wpAny _ _ (if (-1 : Int) < 0 then _ else _) _ _ s
  rw [if_pos (by decide)]
  refine wpAny_bind (wpAny_rule ?_)
  refine wpAny_bind ?_
  show wpAny _ _ (setField (.ref J) 1 (rawInt (-1)) >>= fun _ => setField (.ref J) 0 .none) _ _ s
  refine wpAny_bind (wpAny_setField_rec hJ (by simp) fun h₁ hJ₁ hs₁ => ?_)
  refine wpAny_setField_rec hJ₁ (by simp) fun h₂ hJ₂ hs₂ => ?_
  replace hs₁ : Heap.SameBut J s.heap h₁ := hs₁
  replace hs₂ : Heap.SameBut J h₁ h₂ := hs₂
  have x : Heap.ExtBut J s.heap h₂ := fun b o hb e => hs₂.extBut b o hb (hs₁.extBut b o hb e)
  first
  | show wpAny _ _ (newExc (.type "StopIteration") [] >>= _) _ _ _
  | (refine wpAny_bind ?_; show wpAny _ _ (newExc (.type "StopIteration") [] >>= _) _ _ _)
  refine wpAny_bind ?_
  simp only [newExc, newTuple]
  refine wpAny_bind (wpAny_newObj_type ?_ (by size_fits))
  refine wpAny_bind (m := firstArgMember _ _) (wpAny_of_eq (a := Value.none) (by first | rfl | (simp only [firstArgMember]; rfl)) ?_)
  refine wpAny_newObj_type ?_ (by size_fits)
  simp only [raiseNew]
  refine wpAny_bind (wpAny_handled ?_)
  first | rw [show A.in1.handled = none from hh] | rw [hh]
  refine wpAny_bind (wpAny_pure (wpAny_throw ?_))
  refine wpAny_bind (wpAny_isInstance (T := "StopIteration") (b := true) ⟨_, Heap.get?_push_size _ rfl, rfl⟩ isSubtype_stop ?_)
  exact wpAny_pure (hQ _ ((x.push _).push _))
theorem rev_iter {J t : Addr} {i : Int} {Q : Value → Shared → Prop} (hJ : IsRev s.heap J t i) (h : Q (.ref J) s) : wpAny (model prog w) A (pyIter (.ref J)) Q E s := by
  have hT : s.TypeIs (.ref J) "reversed" := ⟨_, hJ, rfl⟩
  refine wpAny_pyIter_slot hT FR.slot_iter (wpAny_call_entry FR.slot_iter hT FR.entry_iter ?_ (FR.args_iter _))
  show wpAny _ _ (ret (.ref J)) _ _ s
  exact wpAny_pure ⟨_, rfl, "reversed", _, hT, FR.slot_next.lookup, h⟩
end
section
variable {B : Bs} {Z : List Addr} {tgt : Expr}
noncomputable def RevSt (Z : List Addr) (J : Addr) (vs : List V) (α : List Addr) (h : Heap) : Prop :=
  ∃ (k : Nat) (l : List V) (t : Addr) (ws : List Value), IsRev h J t ((k : Int) - 1) ∧ Tu h t ws.toArray ∧ t ∉ Z ++ α ∧ VRs Z α h l ws ∧ k ≤ l.length ∧ l.length ≤ 1048576 ∧ (l.take k).reverse = vs
theorem take_rev {α : Type} {l vs : List α} {v : α} {k : Nat} (h : (l.take (k + 1)).reverse = v :: vs) (hk : k < l.length) : l[k]? = some v ∧ (l.take k).reverse = vs := by
  have e1 : l.take (k + 1) = l.take k ++ [l[k]] := (List.take_append_getElem hk).symm
  rw [e1, List.reverse_append] at h
  simp only [List.reverse_cons, List.reverse_nil, List.nil_append, List.singleton_append, List.cons.injEq] at h
  exact ⟨by rw [List.getElem?_eq_getElem hk, h.1], h.2⟩
theorem wk_rev {J : Addr} : Wk B Z tgt J [J] (RevSt Z J) where
  mono := by
    rintro vs α H α' H' W s s' ⟨k, l, t, ws, e, ⟨m, ht⟩, hz, r, hk, hl, hv⟩ I k₁ hW hw
    obtain ⟨f, z⟩ := k₁.sep hW ht (solid_type rfl) hz
    exact ⟨k, l, t, ws, k₁.mine I (hw _ (.head _)) e rfl, ⟨m, f⟩, z, r.stp k₁ hW, hk, hl, hv⟩
  nx := by
    rintro A s α H v vs Q E hh I hw ⟨k, l, t, ws, e, ⟨m, ht⟩, hz, r, hk, hl, hv⟩ hQ
    cases k with
    | zero => simp at hv
    | succ k =>
      have hk' : k < l.length := by omega
      obtain ⟨h1, h2⟩ := take_rev hv hk'
      obtain ⟨w, hw', rw⟩ := r.get h1
      have hJ := fun a (h : a ∈ [J]) => (hw a h).2
      have hti : t ≠ J := fun q => hz (q ▸ List.mem_append_left _ (hJ _ (.head _)))
      have e2 : ((k + 1 : Nat) : Int) - 1 = (k : Int) := by omega
      rw [e2] at e
      refine rev_item e (Tu.is ⟨m, ht⟩) (by simpa using hw') (by omega) fun h' hJ' hs => ⟨w, rfl, ?_⟩
      have k₁ : IS [J] s { s with heap := h', toks := s.toks + 1 } := IS.same hs hJ'
      exact letOwned_other hJ' rfl (by decide) (hQ w _ k₁ ⟨k, l, t, ws, hJ', ⟨m, (hs.2 _ hti).trans ht⟩, hz, r.is k₁ hJ, by omega, hl, h2⟩ (rw.is k₁ hJ))
  dn := by
    rintro A s α H Q E hh I hw ⟨k, l, t, ws, e, ht, hz, r, hk, hl, hv⟩ hQ
    cases k with
    | zero =>
      have e2 : ((0 : Nat) : Int) - 1 = -1 := rfl
      rw [e2] at e
      exact rev_end hh e fun h' hx => ⟨rfl, hQ _ (IE.ext hx)⟩
    | succ k =>
      have := congrArg List.length hv
      rw [List.length_reverse, List.length_take, Nat.min_eq_left hk] at this
      cases this
  self := by
    rintro A s vs α Q E ⟨k, l, t, ws, e, _⟩ hQ
    exact rev_iter e hQ
end
theorem rev_ban {J : Addr} : ∀ (zs Z : List Addr) (vs : List V) (α : List Addr) (h : Heap), Fresh zs h → RevSt Z J vs α h → RevSt (zs ++ Z) J vs α h := by
  rintro zs Z vs α h f ⟨k, l, t, ws, e, ⟨m, ht⟩, hz, r, hk, hl, hv⟩
  exact ⟨k, l, t, ws, e, ⟨m, ht⟩, (ban_k f _ _ ht (solid_type rfl) hz).2, r.banned f, hk, hl, hv⟩
section
variable {K : Kx} {tgt f : Expr} {es : List Expr} {σ : En} {H H₁ : AH} {l : List V} {pos : Pos}
theorem si_rev (hfv : Ev K f σ H (.raw (.type "reversed")) H) (hes : EvL K es σ H [.tup l] H₁) (hlen : l.length ≤ 1048576) (hf : callEq f es pos := by intro _; rfl) (hso : starOk es = true := by rfl) : Si K tgt (.Call f es [] pos) σ H l.reverse H₁ := fun _ _ _ _ _ Q E C hQ => call_open hfv hes rfl hf hso C fun ws s₁ α₁ k₁ r₁ => by
  obtain ⟨_, _, rfl, ra, r⟩ := r₁.consI
  rw [r.nilI]
  obtain ⟨t, ws, rfl, ht, r, hz⟩ := ra.tupI
  have hlw := r.length
  refine call_reversed_tuple ht.is (by rw [List.size_toArray, hlw]; exact hlen) fun tk => ?_
  have kk : Keeps s₁ { s₁ with heap := s₁.heap.push (revO t (((ws.toArray).size : Int) - 1)), toks := tk } := ⟨_, _, rfl, fun b o e => Heap.get?_push_of_some _ e⟩
  have e : (s₁.heap.push (revO t (((ws.toArray).size : Int) - 1))).get? s₁.heap.objs.size = some (revO t (((ws.toArray).size : Int) - 1)) := Heap.get?_push_size _ rfl
  obtain ⟨m, et⟩ := ht
  refine rev_iter (s := { s₁ with heap := s₁.heap.push (revO t (((ws.toArray).size : Int) - 1)), toks := tk }) e (hQ _ [s₁.heap.objs.size] (fun Z => RevSt Z s₁.heap.objs.size) s₁ _ α₁ k₁ ⟨kk, fun _ => wk_rev, ⟨l.length, l, t, ws, by rw [← hlw, ← List.size_toArray]; exact e, ⟨m, Heap.get?_push_of_some _ et⟩, (ban_k Fresh.size _ _ et (solid_type rfl) hz).2, (r.banned Fresh.size).keeps kk, Nat.le_refl _, hlen, by rw [List.take_length]⟩, rev_ban,
    fun a ha => by rw [List.mem_singleton] at ha; subst ha; exact ⟨(C.step k₁).size, none_new' (Nat.le_refl _), _, e⟩⟩)
end
end Tg
namespace Tg
set_option maxHeartbeats 1000000
section
variable {prog : Program} {w : World} {A : Around} {E : Value → Shared → Prop} {s : Shared} {e z : Addr} {i : Int} {old : Value}
theorem enum_next {P : Value → Shared → Prop} {Q : Value → Shared → Prop} (he : IsEnum s.heap e z i old) (hin : wpAny (model prog w) A (Builtin.SmallTypes.nextOf (.ref z)) (fun x s₁ => IsEnum s₁.heap e z i old ∧ P x s₁) E s)
    (hQ : ∀ x s₁ h', P x s₁ → (∀ b o, b ≠ e → s₁.heap.get? b = some o → h'.get? b = some o) → h'.get? s₁.heap.objs.size = some { cls := .type "tuple", data := .seq #[.int i s₁.toks, x] } → IsEnumOut h' e z (i + 1) x s₁.heap.objs.size → Q (.ref s₁.heap.objs.size) { s₁ with heap := h', toks := s₁.toks + 1 }) :
    wpAny (model prog w) A (Builtin.«enumerate.__next__» ⟨[.ref e], []⟩) (fun fin s' => ∃ v, fin = .done (.ret v) ∧ Q v s') E s := by
  show wpAny _ _ (field (.ref e) 2 >>= _) _ _ _
  refine wpAny_bind (wpAny_field he rfl (x := .ref z) rfl (wpAny_bind (wpAny_mono hin (fun x s₁ h => ?_) fun _ _ h => h)))
  obtain ⟨he₁, hP⟩ := h
  show wpAny _ _ (field (.ref e) 3 >>= _) _ _ s₁
  refine wpAny_bind (wpAny_field he₁ rfl (x := rawInt i) rfl ?_)
  show wpAny _ _ (field (.ref e) 4 >>= _) _ _ s₁
  refine wpAny_bind (wpAny_field he₁ rfl (x := .none) rfl ?_)
  show wpAny _ _ (mkInt i >>= _) _ _ s₁
  refine wpAny_bind (wpAny_mkInt ?_)
  refine wpAny_bind (wpAny_setField_rec (s := { s₁ with toks := s₁.toks + 1 }) he₁ (by simp) fun h₂ he₂ hs₂ => ?_)
  replace he₂ : IsEnum h₂ e z (i + 1) old := he₂
  refine wpAny_bind (wpAny_setField_rec (s := { s₁ with heap := h₂, toks := s₁.toks + 1 }) he₂ (by simp) fun h₃ he₃ hs₃ => ?_)
  replace he₃ : IsEnum h₃ e z (i + 1) old := he₃
  refine wpAny_bind (wpAny_newTuple ?_)
  have szN : h₃.objs.size = s₁.heap.objs.size := hs₃.1.trans hs₂.1
  have he₄ : IsEnum (h₃.push { cls := .type "tuple", data := .seq #[.int i s₁.toks, x] }) e z (i + 1) old := Heap.get?_push_of_some _ he₃
  have hT₄ : (h₃.push { cls := .type "tuple", data := .seq #[.int i s₁.toks, x] }).get? s₁.heap.objs.size = some { cls := .type "tuple", data := .seq #[.int i s₁.toks, x] } := by rw [← szN]; exact Heap.get?_push_size _ rfl
  show wpAny _ _ _ _ _ { s₁ with heap := h₃.push { cls := .type "tuple", data := .seq #[.int i s₁.toks, x] }, toks := s₁.toks + 1 }
  dsimp only
  rw [szN]
  have kk : ∀ b o, b ≠ e → s₁.heap.get? b = some o → (h₃.push { cls := .type "tuple", data := .seq #[.int i s₁.toks, x] }).get? b = some o := fun b o hb eb => Heap.get?_push_of_some _ ((hs₃.2 b hb).trans ((hs₂.2 b hb).trans eb))
  generalize (h₃.push { cls := .type "tuple", data := .seq #[.int i s₁.toks, x] }) = h₄ at *
  have eT : s₁.heap.objs.size ≠ e := fun q => Nat.lt_irrefl _ (q ▸ Heap.lt_size he₁)
  unfold Builtin.SmallTypes.ownedTupleIsFree
  refine wpAny_bind (wpAny_bind (wpAny_field (s := { s₁ with heap := h₄, toks := s₁.toks + 1 }) he₄ rfl (x := .none) rfl (wpAny_pure ?_)))
  rw [if_pos rfl]
  refine wpAny_bind (wpAny_rule ?_)
  refine wpAny_bind (wpAny_field (s := { s₁ with heap := h₄, toks := s₁.toks + 1 }) he₄ rfl (x := old) rfl ?_)
  refine wpAny_bind (wpAny_setField_rec (s := { s₁ with heap := h₄, toks := s₁.toks + 1 }) he₄ (by simp) fun h₅ he₅ hs₅ => ?_)
  replace he₅ : IsEnum h₅ e z (i + 1) x := he₅
  unfold Builtin.SmallTypes.ownedTupleHandOut
  refine wpAny_bind (wpAny_bind (wpAny_setField_rec (s := { s₁ with heap := h₅, toks := s₁.toks + 1 }) he₅ (by simp) fun h₆ he₆ hs₆ => ?_))
  replace he₆ : IsEnumOut h₆ e z (i + 1) x s₁.heap.objs.size := he₆
  refine wpAny_setField_rec (s := { s₁ with heap := h₆, toks := s₁.toks + 1 }) he₆ (by simp) fun h₇ he₇ hs₇ => ?_
  replace he₇ : IsEnumOut h₇ e z (i + 1) x s₁.heap.objs.size := he₇
  have kk7 : ∀ b o, b ≠ e → h₄.get? b = some o → h₇.get? b = some o := fun b o hb eb => (hs₇.2 b hb).trans ((hs₆.2 b hb).trans ((hs₅.2 b hb).trans eb))
  exact wpAny_bind (wpAny_letGo (wpAny_pure ⟨_, rfl, hQ x s₁ h₇ hP (fun b o hb eb => kk7 b o hb (kk b o hb eb)) (kk7 _ _ eT hT₄) he₇⟩))
end
end Tg
namespace Tg
set_option maxHeartbeats 1000000
section
variable {Z α : List Addr} {h : Heap} {n k : Nat} {e z TI TO : Addr} {cs : List Col} {ls : List (List V)} {a : Int}
noncomputable def enumR (a : Int) (ls : List (List V)) (n : Nat) : List V := (List.range n).map fun i : Nat => .tup [.int (a + i), .tup (rowAt ls i)]
theorem enumR_head {v : V} {vs : List V} (e : (enumR a ls n).drop k = v :: vs) : k < n ∧ v = .tup [.int (a + k), .tup (rowAt ls k)] ∧ (enumR a ls n).drop (k + 1) = vs := by
  obtain ⟨h1, h2⟩ := drop_head e
  have hk : k < n := by have := (List.getElem?_eq_some_iff.mp h1).1; simpa [enumR] using this
  refine ⟨hk, ?_, h2⟩
  simp [enumR, hk] at h1
  exact h1.symm
theorem enumR_end (e : (enumR a ls n).drop k = []) : n ≤ k := by have := List.drop_eq_nil_iff.mp e; simpa [enumR] using this
noncomputable def ZF (Z α : List Addr) (h : Heap) (z TI TO : Addr) : Prop := h.get? z = some (zipObj .none (.bool false) TI TO) ∨ ∃ (T : Addr) (b : Bool) (m : Nat) (items : Array Value), h.get? z = some (zipObj (rawInt T) (.bool b) TI TO) ∧ h.get? T = some { cls := .type "tuple", data := .seq items m } ∧ T ∉ Z ++ α
theorem ZF.obj (x : ZF Z α h z TI TO) : ∃ f0 f1, h.get? z = some (zipObj f0 f1 TI TO) := by
  rcases x with x | ⟨T, b, m, items, x, _⟩
  · exact ⟨_, _, x⟩
  · exact ⟨_, _, x⟩
theorem zip_next_any {B : Bs} {A : Around} {E : Value → Shared → Prop} {s : Shared} {H : AH} {Q : Value → Shared → Prop} (hh : A.handled = none) (O : B.Ok) (I : Inv B Z α H s) (hw : ∀ a ∈ zipO z TI TO cs, B.g.objs.size ≤ a ∧ a ∈ Z) (nd : (zipO z TI TO cs).Nodup) (h64 : cs.length ≤ 64) (x : ZipAt z TI TO cs n k s.heap) (y : ColsR Z α s.heap ls cs) (f : ZF Z α s.heap z TI TO) (hk : k ≤ n)
    (hQ : ∀ w s', k < n → IS (zipO z TI TO cs) s s' → VR Z α s'.heap (.tup (rowAt ls k)) w → ZipAt z TI TO cs n (k + 1) s'.heap → ZF Z α s'.heap z TI TO → Q w s') (hE : ∀ s' e, k = n → IE (zipO z TI TO cs) s s' → Stop e s' → E (.ref e) s') :
    wpAny (model B.prog B.w) A (Builtin.SmallTypes.nextOf (.ref z)) Q E s := by
  have hZ := fun a (h : a ∈ zipO z TI TO cs) => (hw a h).2
  have D := zipA_of nd hZ y
  obtain ⟨f0, f1, hz0⟩ := f.obj
  have hT : s.TypeIs (.ref z) "zip" := ⟨_, hz0, rfl⟩
  unfold Builtin.SmallTypes.nextOf
  refine wpAny_bind (wpAny_callSpecial?_slot (name := Str.ofString "__next__") hT PySem.F.slot_zip_next (wpAny_call_entry PySem.F.slot_zip_next hT PySem.F.entry_zip_next ?_ (PySem.F.args_zip_next_1 _)))
  have row : k < n → ∀ s', IS (zipO z TI TO cs) s s' → Tu s'.heap s.heap.objs.size (cs.map (colX k)).toArray → VR Z α s'.heap (.tup (rowAt ls k)) (.ref s.heap.objs.size) := fun hlt s' k' t => .tup t ((y.row fun c hc => by rw [x.len c hc]; exact hlt).is k' hZ) I.new
  rcases f with hz | ⟨T, b, m, items, hz, hTT, hTz⟩
  · rcases Nat.lt_or_ge k n with hlt | hge
    · refine zip_next_free (by first | exact hh | assumption) D x h64 hz hlt fun s' k' t x' hz' => wpAny_pure ?_
      have k'' : IS (zipO z TI TO cs) s s' := k'.mono fun a => zipW_O
      obtain ⟨m, e⟩ := id t
      exact hQ _ s' hlt k'' (row hlt s' k'' t) x' (.inr ⟨_, _, m, _, hz', e, I.new⟩)
    · obtain rfl : k = n := Nat.le_antisymm hk hge
      exact zip_end_free (by first | exact hh | assumption) D x hz fun s' e k' he => hE s' e rfl (k'.mono fun a => zipW_O) he
  · refine zip_taken (by first | exact hh | assumption) D x h64 hz hTT (fun s' hlt k' t x' hz' => wpAny_pure ?_) (fun s' e hk k' he => hE s' e hk (k'.mono fun a => zipW_O) he) hk
    have k'' : IS (zipO z TI TO cs) s s' := k'.mono fun a => zipW_O
    exact hQ _ s' hlt k'' (row hlt s' k'' t) x' (.inr ⟨T, true, m, items, hz', k''.2.1 _ _ (fun hm => hTz (List.mem_append_left _ (hZ _ hm))) hTT, hTz⟩)
noncomputable def EnzSt (Z : List Addr) (e z TI TO : Addr) (cs : List Col) (ls : List (List V)) (n : Nat) (a : Int) (vs : List V) (α : List Addr) (h : Heap) : Prop :=
  ∃ k old, k ≤ n ∧ ZipAt z TI TO cs n k h ∧ ColsR Z α h ls cs ∧ IsEnum h e z (a + (k : Nat)) old ∧ ZF Z α h z TI TO ∧ (enumR a ls n).drop k = vs
theorem ZipAt.same {h' : Heap} (x : ZipAt z TI TO cs n k h) (y : ColsR Z α h ls cs) (hZ : ∀ a ∈ zipO z TI TO cs, a ∈ Z) (he : e ∈ Z) (off : e ∉ zipO z TI TO cs) (kk : ∀ b o, b ≠ e → h.get? b = some o → h'.get? b = some o) : ZipAt z TI TO cs n k h' := by
  obtain ⟨m, hti⟩ := x.ti
  obtain ⟨kept, mo, hto, hks⟩ := x.to
  have ne : ∀ b ∈ zipO z TI TO cs, b ≠ e := fun b hb q => off (q ▸ hb)
  exact ⟨⟨m, kk _ _ (ne _ (by simp)) hti⟩, ⟨kept, mo, kk _ _ (ne _ (by simp)) hto, hks⟩, fun c hc => (x.at' c hc).keep (fun o => kk _ _ (ne _ (by simp; exact .inr (.inr (.inr ⟨_, _, hc⟩))))) fun o => kk _ _ (fun q => y.off c hc (List.mem_append_left _ (q ▸ he))), x.len, x.ne⟩
theorem ZF.same {h' : Heap} {α' : List Addr} (f : ZF Z α h z TI TO) (kz : ∀ o, h.get? z = some o → h'.get? z = some o) (kk : ∀ b o, h.get? b = some o → Solid o → b ∉ Z ++ α → h'.get? b = some o ∧ b ∉ Z ++ α') : ZF Z α' h' z TI TO := by
  rcases f with f | ⟨T, b, m, items, hz, hTT, hTz⟩
  · exact .inl (kz _ f)
  · exact .inr ⟨T, b, m, items, kz _ hz, (kk _ _ hTT (solid_type rfl) hTz).1, (kk _ _ hTT (solid_type rfl) hTz).2⟩
theorem wk_enz {B : Bs} {elts : List Expr} {kk : Nat} {tp : Pos} (O : B.Ok) (nd : (zipO z TI TO cs).Nodup) (off : e ∉ zipO z TI TO cs) (h64 : cs.length ≤ 64) : Wk B Z (.Tuple elts kk tp) e (e :: zipO z TI TO cs) (EnzSt Z e z TI TO cs ls n a) where
  mono := by
    rintro vs α H α' H' W s s' ⟨k, old, hk, x, y, he, f, hd⟩ I st hW hw
    obtain ⟨x', y'⟩ := x.step y I st hW fun a ha => hw a (.tail _ ha)
    obtain ⟨f0, f1, hz0⟩ := f.obj
    exact ⟨k, old, hk, x', y', st.mine I (hw _ (.head _)) he rfl, f.same (fun o eo => by rw [hz0] at eo; cases eo; exact st.mine I (hw z (by simp)) hz0 rfl) (fun b o eo so zb => st.sep hW eo so zb), hd⟩
  nx := by
    rintro A s α H v vs Q E hh I hw ⟨k, old, _, x, y, he, f, hd⟩ hQ
    obtain ⟨hlt, rfl, hd'⟩ := enumR_head hd
    have hZ := fun a (h : a ∈ zipO z TI TO cs) => (hw a (.tail _ h)).2
    have heZ := (hw e (.head _)).2
    have hT : s.TypeIs (.ref e) "enumerate" := ⟨_, he, rfl⟩
    unfold pyNext
    refine wpAny_bind (wpAny_attempt (wpAny_callSpecial?_slot (name := Str.ofString "__next__") hT PySem.F.slot_enumerate_next
      (wpAny_call_entry PySem.F.slot_enumerate_next hT PySem.F.entry_enumerate_next ?_ (PySem.F.args_enumerate_next_1 _))))
    refine enum_next (P := fun w s' => IS (zipO z TI TO cs) s s' ∧ VR Z α s'.heap (.tup (rowAt ls k)) w ∧ ZipAt z TI TO cs n (k + 1) s'.heap ∧ ZF Z α s'.heap z TI TO) he
      (zip_next_any (by first | exact hh | assumption) O I (fun a ha => hw a (.tail _ ha)) nd h64 x y f (Nat.le_of_lt hlt) (fun w s' _ k' r x' f' => ⟨k'.2.1 _ _ off he, k', r, x', f'⟩) fun s' e' q => absurd hlt (by omega)) fun w s₁ h' hP kk hT' he' => wpAny_pure ⟨_, rfl, ?_⟩
    obtain ⟨k₁, r₁, x₁, f₁⟩ := hP
    have I₁ := I.is O k₁ fun a ha => hw a (.tail _ ha)
    refine wpAny_letOwnedTupleGo_enum he' fun h2 he2 hs2 => ?_
    have kk2 : ∀ b o, b ≠ e → s₁.heap.get? b = some o → h2.get? b = some o := fun b o hb eb => (hs2.2 b hb).trans (kk b o hb eb)
    have k₂ : IS [e] s₁ { s₁ with heap := h2, toks := s₁.toks + 1 } := ⟨⟨h2, _, rfl⟩, fun b o hb eb => kk2 b o (by simpa using hb) eb, fun b o eb => by
      by_cases q : b = e
      · exact ⟨_, q ▸ he2⟩
      · exact ⟨o, kk2 b o q eb⟩⟩
    have heZ' : ∀ a ∈ [e], a ∈ Z := one_z heZ
    have kAll : IS (e :: zipO z TI TO cs) s { s₁ with heap := h2, toks := s₁.toks + 1 } := (k₁.mono fun a ha => .tail _ ha).trans (k₂.mono fun a ha => by rw [List.mem_singleton.mp ha]; exact .head _)
    have eT : s₁.heap.objs.size ≠ e := fun q => by
      have := I₁.new; rw [q] at this; exact this (List.mem_append_left _ heZ)
    have y₁ := y.is k₁ hZ
    have a1 : a + (k : Nat) + 1 = a + ((k + 1 : Nat) : Int) := by omega
    rw [a1] at he2
    have zne : z ≠ e := fun q => off (by rw [← q]; simp)
    refine hQ _ _ kAll ⟨k + 1, w, hlt, x₁.same y₁ hZ heZ off kk2, y₁.is k₂ heZ', he2, f₁.same (fun o => kk2 _ _ zne) (fun b o eb so zb => ⟨kk2 b o (fun q => zb (List.mem_append_left _ (q ▸ heZ))) eb, zb⟩), hd'⟩
      (.tup (vs := [.int (a + k) s₁.toks, w]) ⟨0, (hs2.2 _ eT).trans hT'⟩ (.cons (.int _ _) (.one (r₁.is k₂ heZ'))) I₁.new)
  dn := by
    rintro A s α H Q E hh I hw ⟨k, old, hk, x, y, he, f, hd⟩ hQ
    obtain rfl : k = n := Nat.le_antisymm hk (enumR_end hd)
    have hT : s.TypeIs (.ref e) "enumerate" := ⟨_, he, rfl⟩
    unfold pyNext
    refine wpAny_bind (wpAny_attempt (wpAny_callSpecial?_slot (name := Str.ofString "__next__") hT PySem.F.slot_enumerate_next
      (wpAny_call_entry PySem.F.slot_enumerate_next hT PySem.F.entry_enumerate_next ?_ (PySem.F.args_enumerate_next_1 _))))
    refine enum_next (P := fun w s' => False) he (zip_next_any (by first | exact hh | assumption) O I (fun a ha => hw a (.tail _ ha)) nd h64 x y f hk (fun w s' q => absurd q (Nat.lt_irrefl _)) fun s' e' _ k' hs => ?_) fun w s₁ h' hP => hP.elim
    obtain ⟨o, ho, hc⟩ := hs
    exact wpAny_bind (wpAny_isInstance (T := "StopIteration") (b := true) ⟨o, ho, hc⟩ isSubtype_stop (wpAny_pure ⟨rfl, hQ _ (k'.mono fun a ha => .tail _ ha)⟩))
  self := by
    rintro A s vs α Q E ⟨k, old, hk, x, y, he, f, hd⟩ hQ
    exact wpAny_pyIter_enum he hQ
end
end Tg
namespace Tg
set_option maxHeartbeats 1000000
section
variable {prog : Program} {w : World} {A : Around} {E : Value → Shared → Prop} {s : Shared} {z : Addr} {t : Tok}
theorem enum_new {R : Result → Shared → Prop} (hi : ∀ {Q : Value → Shared → Prop} {E : Value → Shared → Prop} {A : Around}, Q (.ref z) s → wpAny (model prog w) A (pyIter (.ref z)) Q E s)
    (h : R (.ok (.ret (.ref s.heap.objs.size))) { s with heap := s.heap.push { cls := .type "enumerate", data := .fields #[.none, .bool false, .ref z, rawInt 1, .none, .none] } }) :
    codeAny (model prog w) A (.builtin "enumerate.__new__" ⟨[.type "enumerate", .ref z], [(Str.ofString "start", .int 1 t)]⟩) R s := by
  refine codeAny_builtin PySem.F.entry_enumerate_new ?_
  unfold Builtin.«enumerate.__new__»
  have hsub := PySem.sub_enumerate
  wp_walk using hi
  refine wpAny_stack_any fun st => wpAny_pure ?_
  split
  · rename_i c _ _ _ _ _
    cases (c == Value.type "enumerate")
    · wp_walk using hi
      exact h
    · wp_walk using hi
      exact h
  · wp_walk using hi
    exact h
set_option maxHeartbeats 2000000 in
theorem call_enum_kw {Q : Value → Shared → Prop} (hi : ∀ {Q : Value → Shared → Prop} {E : Value → Shared → Prop} {A : Around}, Q (.ref z) s → wpAny (model prog w) A (pyIter (.ref z)) Q E s)
    (h : Q (.ref s.heap.objs.size) { s with heap := s.heap.push { cls := .type "enumerate", data := .fields #[.none, .bool false, .ref z, rawInt 1, .none, .none] } }) :
    wpAny (model prog w) A (call (.type "enumerate") [.ref z] [(Str.ofString "start", .int 1 t)]) Q E s := by
  obtain ⟨c, tl, hmro⟩ := PySem.F.called_enumerate.mro
  have hmade := PySem.F.called_enumerate.made
  have hsub := PySem.F.called_enumerate.sub
  refine wpAny_call (codeAny_of_tree ?_)
  show wpAny _ _ (callAny (.type "enumerate") _) _ _ _
  refine wpAny_pure ⟨Code.quiet_builtin _ (by decide +kernel), codeAny_builtin PySem.F.entry_type_call ?_⟩
  rw [Around.under_plain (weight_type_call_type "enumerate" [.ref z] [(Str.ofString "start", .int 1 t)]) rfl]
  have h1 := PySem.F.called_enumerate.notType
  have h2 := PySem.F.called_enumerate.canCreate
  have hct : checkTypeCall "enumerate" ⟨[.ref z], [(Str.ofString "start", .int 1 t)]⟩ = pure () := by kernel_rfl
  have hcn : checkBuiltinCall "enumerate.__new__" ⟨[.type "enumerate", .ref z], [(Str.ofString "start", .int 1 t)]⟩ = pure () := by kernel_rfl
  have hargs : argsOk "object.__init__" ⟨[.ref s.heap.objs.size, .ref z], [(Str.ofString "start", .int 1 t)]⟩ := by
    unfold argsOk; rw [PySem.signature?_of (id := "object.__init__") (n := ['_', '_', 't', 'i', 'n', 'i', '_', '_']) (o := ['t', 'c', 'e', 'j', 'b', 'o']) (by kernel_rfl) PySem.F.owner_object]; kernel_rfl
  repeat (any_goals (first | assumption | wp_step))
  refine codeAny_mono (codeAny_of_tree (R := fun r s' => r = .ok (.ret (.ref s.heap.objs.size)) ∧ s' = { s with heap := s.heap.push { cls := .type "enumerate", data := .fields #[.none, .bool false, .ref z, rawInt 1, .none, .none] } }) ?_) fun r s₁ hr => ?_
  · show wpAny _ A.in1.in1 (do checkBuiltinCall "enumerate.__new__" ⟨[.type "enumerate", .ref z], [(Str.ofString "start", .int 1 t)]⟩; again (.builtin "enumerate.__new__" ⟨[.type "enumerate", .ref z], [(Str.ofString "start", .int 1 t)]⟩)) _ _ s
    exact wpAny_bind (wpAny_of_eq hcn (wpAny_pure ⟨plainId_quiet PySem.F.called_enumerate.plain _, enum_new hi ⟨rfl, rfl⟩⟩))
  · obtain ⟨rfl, rfl⟩ := hr
    have hT : ({ s with heap := s.heap.push { cls := .type "enumerate", data := .fields #[.none, .bool false, .ref z, rawInt 1, .none, .none] } } : Shared).TypeIs (.ref s.heap.objs.size) "enumerate" := ⟨_, Heap.get?_push_size _ rfl, rfl⟩
    have hli := PySem.F.called_enumerate.init.lookup
    have hbi := PySem.F.called_enumerate.init.bind (.ref s.heap.objs.size)
    generalize ({ s with heap := s.heap.push { cls := .type "enumerate", data := .fields #[.none, .bool false, .ref z, rawInt 1, .none, .none] } } : Shared) = s₁ at *
    repeat (any_goals (first | assumption | wp_step))
    refine codeAny_mono (codeAny_call_builtin (R := fun r s' => r = .ok (.ret .none) ∧ s' = s₁) PySem.F.called_enumerate.init.plain PySem.F.entry_object_init (PySem.F.called_enumerate.init.check _ _ _ _ _ _ _ _ hT hargs ?_)) fun r₂ s₂ hr₂ => ?_
    · unfold Builtin.«object.__init__»
      repeat (any_goals (first | assumption | wp_step))
      exact ⟨rfl, rfl⟩
    · obtain ⟨rfl, rfl⟩ := hr₂
      repeat (any_goals (first | assumption | wp_step))
end
end Tg
namespace Tg
set_option maxHeartbeats 1000000
section
variable {K : Kx} {σ : En} {H H₁ : AH} {f g : Expr} {es elts : List Expr} {pos pz tp kp cp : Pos} {kk n ck : Nat} {ls : List (List V)}
theorem enz_ban {e z TI TO : Addr} {cs : List Col} {a : Int} : ∀ (zs Z : List Addr) (vs : List V) (α : List Addr) (h : Heap), Fresh zs h → EnzSt Z e z TI TO cs ls n a vs α h → EnzSt (zs ++ Z) e z TI TO cs ls n a vs α h := by
  rintro zs Z vs α h f ⟨k, old, hk, x, y, he, g, hd⟩
  refine ⟨k, old, hk, x, ColsR.map (fun q => q.banned f) (fun c hc zz => let ⟨_, _, et⟩ := x.at' c hc; (ban_k f _ _ et (solid_type rfl) zz).2) y, he, ?_, hd⟩
  rcases g with g | ⟨T, b, m, items, hz, hT, zz⟩
  · exact .inl g
  · exact .inr ⟨T, b, m, items, hz, hT, (ban_k f _ _ hT (solid_type rfl) zz).2⟩
theorem si_enz (hfv : Ev K f σ H (.raw (.type "enumerate")) H) (hgv : Ev K g σ H (.raw (.type "zip")) H) (hes : EvL K es σ H (ls.map .tup) H₁) (hn : ∀ l ∈ ls, l.length = n) (hl : ls.length = 2 ∨ ls.length = 3 := by decide) (hg : callEq g es pz := by intro _; rfl) (hso : starOk es = true := by rfl)
    (hf : ∀ env, eval (.Call f [.Call g es [] pz] [⟨some (Str.ofString "start"), .Constant (.int 1) ck cp, kp⟩] pos) env = (do callWith pos (← eval f env) [] (backTo pos (starEach [.Call g es [] pz] env)) (backToKw pos (keywordEach [⟨some (Str.ofString "start"), .Constant (.int 1) ck cp, kp⟩] env))) := by intro _; rfl) :
    Si K (.Tuple elts kk tp) (.Call f [.Call g es [] pz] [⟨some (Str.ofString "start"), .Constant (.int 1) ck cp, kp⟩] pos) σ H (enumR 1 ls n) H₁ := by
  intro Z A env s α Q E C hQ
  rw [hf]
  refine wpAny_bind (hfv _ E C fun w s₁ α₁ k₁ r₁ => ?_)
  rw [r₁.rawI]
  unfold callWith
  have C₁ := C.step k₁
  refine wpAny_bind (wpAny_holding ?_)
  refine evalArgs_kw2 (e := .Call g es [] pz) (rest := []) rfl (spliced_cons (call_open hgv hes rfl hg hso C₁ fun ws s₂ α₂ k₂ r₂ => ?_)) rfl
  have C₂ := C₁.step k₂
  refine zip_src C₂ r₂ hn hl fun s₃ z TI TO cs kk₃ nd h64 hw x hz y => spliced_none (wpAny_evalAll_cons (wpAny_bind (wpAny_Constant_int (wpAny_bind (wpAny_standAt (wpAny_pure (wpAny_evalAll_nil (wpAny_bind (wpAny_standAt ?_)))))))))
  refine wpAny_bind (wpAny_pure ?_)
  have kt := Keeps.toks s₃ (s₃.toks + 1)
  refine wpAny_bind (call_enum_kw (s := { s₃ with toks := s₃.toks + 1 }) (z := z) (fun h => wpAny_pyIter_zip hz h) ?_)
  have kp₃ := keeps_push { s₃ with toks := s₃.toks + 1 } { cls := .type "enumerate", data := .fields #[.none, .bool false, .ref z, rawInt 1, .none, .none] }
  have kAll := keeps_trans kk₃ (keeps_trans kt kp₃)
  obtain ⟨h', tk, e, kq⟩ := keeps_trans kt kp₃
  have kh : ∀ b o, s₃.heap.get? b = some o → (s₃.heap.push { cls := .type "enumerate", data := .fields #[.none, .bool false, .ref z, rawInt 1, .none, .none] }).get? b = some o := fun b o eb => Heap.get?_push_of_some _ eb
  have he : IsEnum (s₃.heap.push { cls := .type "enumerate", data := .fields #[.none, .bool false, .ref z, rawInt 1, .none, .none] }) s₃.heap.objs.size z 1 .none := Heap.get?_push_size _ rfl
  have eoff : s₃.heap.objs.size ∉ zipO z TI TO cs := fun hm => by obtain ⟨o, eo⟩ := (hw _ hm).2; exact Nat.lt_irrefl _ (Heap.lt_size eo)
  have sz3 : s₂.heap.objs.size ≤ s₃.heap.objs.size := Nat.le_trans (hw z (by simp)).1 (Nat.le_of_lt (Heap.lt_size hz))
  have up : ∀ a ∈ s₃.heap.objs.size :: zipO z TI TO cs, s₂.heap.objs.size ≤ a := fun a ha => by
    rcases List.mem_cons.mp ha with rfl | ha
    · exact sz3
    · exact (hw a ha).1
  have fe : Fresh [s₃.heap.objs.size] s₂.heap := fun a ha => by rw [List.mem_singleton.mp ha]; exact none_new' sz3
  have fe3 : Fresh [s₃.heap.objs.size] s₃.heap := Fresh.size
  refine wpAny_bind (wpAny_holding (wpAny_point (wpAny_pure (wpAny_pyIter_enum he (hQ s₃.heap.objs.size (s₃.heap.objs.size :: zipO z TI TO cs) (fun Z => EnzSt Z s₃.heap.objs.size z TI TO cs ls n 1) s₂ _ α₂ (k₁.trans k₂) ⟨kAll, fun Z => wk_enz (Z := Z) C.O nd eoff h64 (ls := ls) (n := n) (a := 1), ⟨0, .none, Nat.zero_le _, ?_, ?_, he, .inl (kh _ _ hz), rfl⟩, enz_ban, fun a ha => ⟨Nat.le_trans C₂.size (up a ha), none_new' (up a ha), ?_⟩⟩)))))
  · obtain ⟨m, hti⟩ := x.ti
    obtain ⟨kept, mo, hto, hks⟩ := x.to
    exact ⟨⟨m, kh _ _ hti⟩, ⟨kept, mo, kh _ _ hto, hks⟩, fun c hc => (x.at' c hc).keep (fun o => kh _ o) fun o => kh _ o, x.len, x.ne⟩
  · have y' : ColsR ([s₃.heap.objs.size] ++ (zipO z TI TO cs ++ Z)) α₂ s₃.heap ls cs := ColsR.map (fun q => q.banned fe3) (fun c hc zz => by
      obtain ⟨_, mt, et⟩ := x.at' c hc
      exact (ban_k fe3 _ _ et (solid_type rfl) zz).2) y
    exact ColsR.map (fun q => q.keeps (keeps_trans kt kp₃)) (fun _ _ h => h) y'
  · rcases List.mem_cons.mp ha with rfl | ha
    · exact ⟨_, he⟩
    · obtain ⟨o, eo⟩ := (hw a ha).2; exact ⟨o, kh _ _ eo⟩
end
end Tg
namespace Tg
set_option maxHeartbeats 1000000
noncomputable def others (h : Heap) (L d : Addr) : List (Addr × Obj) := ((List.range h.objs.size).filterMap fun b => (h.get? b).map fun o => (b, o)).filter fun p => p.1 != L && p.1 != d
theorem mem_others {h : Heap} {L d b : Addr} {o : Obj} (h1 : b ≠ L) (h2 : b ≠ d) (e : h.get? b = some o) : (b, o) ∈ others h L d := by
  unfold others
  refine List.mem_filter.mpr ⟨List.mem_filterMap.mpr ⟨b, List.mem_range.mpr (Heap.lt_size e), by rw [e]; rfl⟩, by simp [h1, h2]⟩
theorem others_at {h : Heap} {L d : Addr} {p : Addr × Obj} (hp : p ∈ others h L d) : h.get? p.1 = some p.2 ∧ p.1 ≠ L ∧ p.1 ≠ d := by
  unfold others at hp
  obtain ⟨h1, h2⟩ := List.mem_filter.mp hp
  obtain ⟨b, _, h3⟩ := List.mem_filterMap.mp h1
  simp only [Option.map_eq_some_iff] at h3
  obtain ⟨o, e, rfl⟩ := h3
  simpa [e] using h2
theorem empty_get (h : Heap) (b : Addr) : ({ h with objs := #[] } : Heap).get? b = none := by
  cases e : ({ h with objs := #[] } : Heap).get? b with
  | none => rfl
  | some o => exact absurd (Heap.lt_size e) (by simp)
section
variable {B : Bs}
theorem setattr_wp {A : Around} {s : Shared} {L x dx C : Addr} {m : Str → Option Value} {es : List DictEntry} {k : Nat} {v : Value} {name : Str} {Q : Unit → Shared → Prop} {E : Value → Shared → Prop}
    (X : B.K.In s.heap) (hc : ClsOk B C) (hx : FldOk B C name) (hL : s.heap.Ns L m) (ne : L ≠ dx) (ex : s.heap.get? x = some (instObj C dx)) (ed : s.heap.get? dx = some (dictOf es k)) (hl : (getL name es).isSome = true) (hz : (putL name (PyData.keyHash B.w.params name) (.str name (s.toks + 1)) v es).length ≤ 1000)
    (h : ∀ h' k', (∀ b o, b ≠ L → b ≠ dx → s.heap.get? b = some o → h'.get? b = some o) → h'.Ns L m → h'.get? dx = some (dictOf (putL name (PyData.keyHash B.w.params name) (.str name (s.toks + 1)) v es) k') → Q () { s with heap := h', toks := s.toks + 2 }) :
    wpAny (model B.prog B.w) A (setAttr (.ref x) name v) Q E s := by
  have Ins : InstAt s.heap x (instObj C dx) C (some (dictOf es k)) := ⟨ex, rfl, rfl, ed⟩
  have F : Fr { s.heap with objs := #[] } L s.heap m := ⟨hL, fun b o e => absurd ((empty_get s.heap b).symm.trans e) (by simp), Nat.zero_le _⟩
  have N : News { s.heap with objs := #[] } L s.heap ([] ++ (dx, dictOf es k) :: others s.heap L dx) := fun p hp => by
    rcases List.mem_cons.mp hp with rfl | hp
    · exact ⟨ed, Ne.symm ne, empty_get _ _⟩
    · obtain ⟨h1, h2, _⟩ := others_at hp
      exact ⟨h1, h2, empty_get _ _⟩
  refine set_plain X Ins hc.sa (osa_dict (s := { s with toks := s.toks + 1 }) F N X Ins rfl hc.po hx.tk hc.hd (by rw [lookIn_dict]; exact hl) (fun p hp => nomatch hp) (fun p hp => (others_at hp).2.2) (putName_dict ..) rfl hz fun h' F' N' => ?_)
  exact h h' _ (fun b o h1 h2 e => (N' (b, o) (List.mem_cons_of_mem _ (mem_others h1 h2 e))).1) F'.ns (N' (dx, _) (.head _)).1
end
theorem putL_new {x : Str} {hs : Int} {t : Tok} {w : Value} : ∀ {ks : List Str} {es : List DictEntry}, Keyed ks es → ks.contains x = false → Keyed (ks ++ [x]) (putL x hs (.str x t) w es) ∧ (putL x hs (.str x t) w es).map (·.val) = es.map (·.val) ++ [w]
  | [], [], _, _ => ⟨⟨⟨t, rfl⟩, trivial⟩, rfl⟩
  | [], _ :: _, k, _ => by cases k
  | _ :: _, [], k, _ => by cases k
  | y :: ks, ⟨hs', key, u⟩ :: es, k, e => by
    obtain ⟨⟨t', hk⟩, k⟩ := k
    simp only at hk
    subst hk
    rw [List.contains_cons, Bool.or_eq_false_iff] at e
    have q : (⟨hs', .str y t', u⟩ : DictEntry).key.isStr x = false := by
      show (y == x) = false
      rw [Bool.beq_comm]; exact e.1
    obtain ⟨a, b⟩ := putL_new (hs := hs) (t := t) (w := w) k e.2
    unfold putL
    rw [q]
    exact ⟨⟨⟨t', rfl⟩, a⟩, by simp only [Bool.false_eq_true, if_false, List.map_cons, b, List.cons_append]⟩
noncomputable def AtH (K : Kx) (tgt : Expr) (v : V) (σ : En) (H : AH) (σ' : En) (H' : AH) : Prop := ∀ ⦃Z A env s α w⦄ (Q : Unit → Shared → Prop) (E : Value → Shared → Prop), Cs K Z A env s α H σ → VR Z α s.heap v w →
  (∀ s', Stp K.B Z (Ow env) α s α H' s' → FrI Z K.B.g.objs.size env α σ' s'.heap → Q () s') → wpAny (model K.B.prog K.B.w) A (assign tgt env w) Q E s
noncomputable def AtHL (K : Kx) (ts : List Expr) (vs : List V) (σ : En) (H : AH) (σ' : En) (H' : AH) : Prop := ∀ ⦃Z A env s α ws⦄ (Q : Unit → Shared → Prop) (E : Value → Shared → Prop), Cs K Z A env s α H σ → VRs Z α s.heap vs ws →
  (∀ s', Stp K.B Z (Ow env) α s α H' s' → FrI Z K.B.g.objs.size env α σ' s'.heap → Q () s') → wpAny (model K.B.prog K.B.w) A (assignInOrder ((assignEach ts env).map (·.2)) ws) Q E s
section
variable {K : Kx} {σ σ₁ σ' : En} {H H₁ H' : AH} {v : V} {vs l : List V} {t e : Expr} {ts : List Expr} {pos p ap pp : Pos} {x xp : Str} {C : Addr} {i d : Nat} {ks : List Str}
theorem athl_nil : AtHL K [] [] σ H σ H := fun _ _ _ _ _ _ Q E C r hQ => by rw [r.nilI]; exact wpAny_pure (hQ _ (.refl C.I) C.F)
theorem athl_cons (h : AtH K t v σ H σ₁ H₁) (hs : AtHL K ts vs σ₁ H₁ σ' H') (he : ∀ env, assignEach (t :: ts) env = (false, assign t env) :: assignEach ts env := by intro _; rfl) : AtHL K (t :: ts) (v :: vs) σ H σ' H' := fun _ _ _ _ _ _ Q E C r hQ => by
  obtain ⟨v0, ws, rfl, r0, r1⟩ := r.consI
  rw [he]
  show wpAny _ _ (do holding ws (assign t _ v0); assignInOrder ((assignEach ts _).map (·.2)) ws) Q E _
  exact wpAny_bind (wpAny_holding (h _ E C r0 fun s₁ k₁ F₁ => hs Q E (C.go k₁ F₁) (r1.stp k₁ (ow_z C.EI.w C.F)) fun s₂ k₂ F₂ => hQ s₂ (k₁.trans k₂) F₂))
theorem ath_tuple {k} (h : AtHL K ts vs σ H σ' H') (hl : vs.length = ts.length := by rfl) (hst : ∀ env, (assignEach ts env).findIdx? (·.1) = none := by intro _; rfl) (hl' : ∀ env, (assignEach ts env).length = ts.length := by intro _; rfl) :
    AtH K (.Tuple ts k p) (.tup vs) σ H σ' H' := by
  intro Z A env s α w Q E C r hQ
  obtain ⟨a, ws, rfl, ht, r, hz⟩ := r.tupI
  refine wpAny_assign_Tuple C.R.h ht.is (by rw [hl', List.size_toArray, r.length, hl]) (hst _) fun h' hx => ?_
  have keeps : Keeps s { s with heap := h' } := ⟨h', s.toks, rfl, fun b o e => hx b o (Nat.ne_of_lt (Heap.lt_size e)) e⟩
  exact h Q E (C.step (.of_keeps C.I keeps)) (r.keeps keeps) fun s₂ k₂ F₂ => hQ s₂ (Stp.trans (.of_keeps C.I keeps) k₂) F₂
theorem ath_attr (ho : Ev K (.Name xp pp) σ H (.ref i) H) (hc : ClsOk K.B C) (hx : FldOk K.B C x) (h1 : H[i]? = some (.inst C d)) (h2 : H[d]? = some (.ns ks l)) (hk : ks.contains x = false) (hz : ks.length ≤ 900) :
    AtH K (.Attribute (.Name xp pp) x ap) v σ H σ (H.set d (.ns (ks ++ [x]) (l ++ [v]))) := by
  intro Z A env s α w Q E Cc r hQ
  rw [assign_Attribute]
  refine wpAny_bind (wpAny_holding (ho _ E Cc.toCx fun ov s₁ α₁ k₁ r₁ => wpAny_bind (wpAny_standAt (wpAny_bind (wpAny_holding ?_)))))
  obtain ⟨a, rfl, ha⟩ := r₁.refI
  have C₁ := Cc.step k₁
  have I₁ := k₁.inv
  have F₁ := C₁.F
  obtain ⟨t, rfl, _⟩ := k₁.ext
  have tl : t = [] := by
    have e1 := I₁.hr.len
    have e2 := Cc.I.hr.len
    rw [List.length_append] at e1
    exact List.eq_nil_of_length_eq_zero (by omega)
  subst tl
  rw [List.append_nil] at *
  have rv := r.stp0 k₁
  obtain ⟨_, dx, hdx, ex⟩ := I₁.hr.obj _ _ _ h1 ha
  obtain ⟨hup, es, m, ed, kd, rf⟩ := I₁.hr.obj _ _ _ h2 hdx
  obtain ⟨mL, hn, hlL⟩ := id F₁.loc
  have hdα := List.mem_of_getElem? hdx
  have hLd : env.locals ≠ dx := fun q => I₁.hr.dis dx hdα (q ▸ F₁.zL)
  have hlen : es.length ≤ 900 := by
    have : ∀ {ks : List Str} {es : List DictEntry}, Keyed ks es → es.length = ks.length := by
      intro ks
      induction ks with
      | nil => intro es k; cases es with
        | nil => rfl
        | cons => cases k
      | cons y ks ih => intro es k; cases es with
        | nil => cases k
        | cons e es => exact congrArg Nat.succ (ih k.2)
    rw [this kd]; exact hz
  have pl := fun hs => putL_new (hs := hs) (t := s₁.toks + 1) (w := w) kd hk
  refine setattr_wp (I₁.K Cc.O) hc hx hn hLd ex ed (by rw [fr_none kd hk]; rfl) (by have := congrArg List.length (pl (PyData.keyHash K.B.w.params x)).2; simp at this; omega) fun h' k' hkk hn' ed' => ?_
  have kp : Kp (dx :: [env.locals]) s₁.heap h' := fun b o e hb _ => hkk b o (fun q => hb (by simp [q])) (fun q => hb (by simp [q])) e
  have hza : ∀ b ∈ dx :: [env.locals], b ∈ Z ++ α := fun b hb => by
    rcases List.mem_cons.mp hb with rfl | hb
    · exact List.mem_append_right _ hdα
    · rw [List.mem_singleton.mp hb]; exact List.mem_append_left _ F₁.zL
  have th : There s₁.heap h' := fun b o e => by
    by_cases q1 : b = env.locals
    · obtain ⟨o', _, _, e', _⟩ := hn'; exact ⟨o', q1 ▸ e'⟩
    · by_cases q2 : b = dx
      · exact ⟨_, q2 ▸ ed'⟩
      · exact ⟨o, hkk b o q1 q2 e⟩
  have below : ∀ b o, b < K.B.g.objs.size → s₁.heap.get? b = some o → h'.get? b = some o := fun b o hb e =>
    hkk b o (fun q => absurd hb (Nat.not_lt.mpr (q ▸ F₁.up))) (fun q => absurd hb (Nat.not_lt.mpr (q ▸ hup))) e
  have hr : HR Z K.B.g.objs.size α (H.set d (.ns (ks ++ [x]) (l ++ [v]))) h' := I₁.hr.set hdx kp (one_z F₁.zL) ⟨hup, _, _, ed', (pl _).1, by rw [(pl _).2]; exact (rf.mono0 kp hza).append (.one (rv.mono0 kp hza))⟩
  have I' : Inv K.B Z α (H.set d (.ns (ks ++ [x]) (l ++ [v]))) { s₁ with heap := h', toks := s₁.toks + 2 } := by
    refine ⟨oldK_below I₁.old (Cc.O.size ▸ below), fun b o e => below b o (Heap.lt_size e) (I₁.keep b o e), I₁.gens, I₁.os, fun q hq => ?_, hr, fun a ha => let ⟨o, e⟩ := I₁.ban a ha; th a o e⟩
    obtain ⟨ps, y⟩ := I₁.codes q hq
    exact ⟨ps, code_of y (fun _ e => below _ _ (Cc.O.cd q hq).1 e) fun _ e => below _ _ (Cc.O.cd q hq).2 e⟩
  have st : Stp K.B Z (Ow env) α s₁ α (H.set d (.ns (ks ++ [x]) (l ++ [v]))) { s₁ with heap := h', toks := s₁.toks + 2 } := ⟨⟨[], by simp, .nil⟩, I', kp.mono fun b hb => by
    rcases List.mem_cons.mp hb with rfl | hb
    · exact List.mem_append_right _ hdα
    · rw [List.mem_singleton.mp hb]; exact List.mem_append_left _ (.head _), th⟩
  have cne : ∀ y c, env.cells.lookup y = some c → c ≠ env.locals ∧ c ≠ dx := fun y c e => ⟨Cc.EI.w.ne y c e, fun q => I₁.hr.dis dx hdα (q ▸ (F₁.zC y c e).1)⟩
  have F' : FrI Z K.B.g.objs.size env α σ h' := by
    refine ⟨⟨mL, hn', fun y u e q => let ⟨u', h1, h2⟩ := hlL y u e q; ⟨u', h1, h2.mono0 kp hza⟩⟩, fun y u e q => ?_, F₁.zL, fun y c e => ⟨(F₁.zC y c e).1, ?_⟩, F₁.up⟩
    · obtain ⟨c, u', h1, h2, h3⟩ := F₁.cel y u e q
      exact ⟨c, u', h1, isCell_solid h2 fun o e' _ => hkk c o (cne y c h1).1 (cne y c h1).2 e', h3.mono0 kp hza⟩
    · obtain ⟨u', hv⟩ := (F₁.zC y c e).2
      exact ⟨u', isCell_solid hv fun o e' _ => hkk c o (cne y c e).1 (cne y c e).2 e'⟩
  exact wpAny_release (hQ _ (k₁.wide.trans st) F')
theorem st_assign_h (he : Ev K e σ H v H₁) (ht : AtH K t v σ H₁ σ' H') (hsw : ∀ env, swapsWithSole [t] e pos.line env = pure false := by intro _; rfl) (hw : ∀ env, swappedStores [t] e env = pure none := by intro _; rfl) (h1 : ∀ env, (assignEach [t] env).map (·.2) = [assign t env] := by intro _; rfl) :
    St K (.Assign [t] e pos) σ H .next σ' H' := fun _ _ _ _ _ Q E C hQ => by
  refine wpAny_Assign_stores (he _ E C.toCx fun w s₁ α₁ k₁ r₁ => ?_) (hsw _) (hw _)
  rw [h1]
  show wpAny _ _ (assign t _ w) _ _ _
  exact ht _ E (C.step k₁) r₁ fun s₂ k₂ F₂ => hQ _ _ _ (k₁.wide.trans k₂) F₂ .next
end
section
variable {B : Bs} {n : Nat} {C fI : Addr} {H H₁ : AH} {vs : List V}
theorem fn_cls (hm : makesIn B.K C = true) (hi : findIn B.K (.ref C) "__init__" = some (some (.ref fI))) (hf : typeIn B.K (.ref fI) = some (.type "function")) (h : Fc B n (.ref fI) (.ref (H.length + 1) :: vs) ((H ++ [.ns [] []]) ++ [.inst C H.length]) .none H₁) :
    Fn B (n + 1) (.ref C) vs H (.ref (H.length + 1)) H₁ := by
  intro Z A s α ws Q E R O I hsz r hQ
  have KI := I.K O
  refine wpAny_call ?_
  have e1 : s.heap.get? s.heap.objs.size = none := none_new' (Nat.le_refl _)
  have sz1 : (s.heap.push emptyDict).objs.size = s.heap.objs.size + 1 := Heap.size_push ..
  have e2 : (s.heap.push emptyDict).get? (s.heap.objs.size + 1) = none := none_new' (by rw [sz1]; exact Nat.le_refl _)
  have st1 : Stp B Z [] α s (α ++ [s.heap.objs.size]) (H ++ [.ns [] []]) { s with heap := s.heap.push emptyDict } := .push (tk := s.toks) I (fun _ _ e => Heap.get?_push_of_some _ e) e1 ⟨hsz, [], 0, Heap.get?_push_size _ rfl, trivial, .nil⟩
  have hdx : (α ++ [s.heap.objs.size] ++ [s.heap.objs.size + 1])[H.length]? = some s.heap.objs.size := by rw [← I.hr.len]; simp
  have hx : ((s.heap.push emptyDict).push (instObj C s.heap.objs.size)).get? (s.heap.objs.size + 1) = some (instObj C s.heap.objs.size) := by rw [← sz1]; exact Heap.get?_push_size _ rfl
  have st2 : Stp B Z [] (α ++ [s.heap.objs.size]) { s with heap := s.heap.push emptyDict } (α ++ [s.heap.objs.size] ++ [s.heap.objs.size + 1]) (H ++ [.ns [] []] ++ [.inst C H.length]) { s with heap := (s.heap.push emptyDict).push (instObj C s.heap.objs.size) } :=
    .push (s := { s with heap := s.heap.push emptyDict }) (tk := s.toks) st1.inv (fun _ _ e => Heap.get?_push_of_some _ e) e2 ⟨Nat.le_succ_of_le hsz, _, hdx, hx⟩
  have st := st1.trans st2
  have rx : VR Z (α ++ [s.heap.objs.size] ++ [s.heap.objs.size + 1]) ((s.heap.push emptyDict).push (instObj C s.heap.objs.size)) (.ref (H.length + 1)) (.ref (s.heap.objs.size + 1)) := .ref (by rw [← I.hr.len]; simp)
  have call := h (Z := Z) (A := A.under (.builtin "type.__call__" ⟨.ref C :: ws, []⟩)) (s := { s with heap := (s.heap.push emptyDict).push (instObj C s.heap.objs.size) }) (ws := .ref (s.heap.objs.size + 1) :: ws)
    (InitBack (s.heap.objs.size + 1) fun r s' => match r with | .ok (.ret v) => Q v s' | .ok _ => False | .error e => E e s')
    ⟨R.h, by have := R.d; show A.depth + 1 + 8 * n + 8 < _; omega, by have := R.u; show A.units + 1 + 100 * n + 100 < _; omega⟩ O st.inv (by show _ ≤ ((s.heap.push emptyDict).push (instObj C s.heap.objs.size)).objs.size; rw [Heap.size_push, sz1]; omega)
    (.cons rx (r.stp0 st)) fun w s' α' k' r' => by
      rw [r'.noneI]
      exact ⟨rfl, hQ _ _ _ (st.trans k') (.ref (k'.get (by rw [← I.hr.len]; simp)))⟩
  obtain ⟨hh, g', d, t, os⟩ := s
  exact make_core (makes_of KI hm) (looks_findIn KI hi) (fun self => bind_fn KI self hf) (.inl rfl) call
end
end Tg
namespace Tg
set_option maxHeartbeats 1000000
noncomputable def testsTree (ifs : List Expr) (env : Env) : Sem Bool := forIn ifs true fun c r => if r = true then do let ok ← isTrue c env (eval c env); pure (ForInStep.yield ok) else pure (ForInStep.yield r)
noncomputable def innerWp (M : Model) (A : Around) (elt : Expr) (gens : List Comprehension) (scope : Scope) (pos : Pos) (d : Nat) (acc : Value) (env : Env) (Q : Shared → Prop) (E : Value → Shared → Prop) (s : Shared) : Prop :=
  match gens[d + 1]? with
  | some g' => wpAny M A (eval g'.iter env) (fun x s₁ => wpAny M A (pyIter x) (fun it s₂ => wpAny M A (runOwn (.compStart (.ListComp elt gens scope pos) (d + 1) it acc env) env) (fun _ s₃ => Q s₃) E s₂) E s₁) E s
  | none => wpAny M A (eval elt env) (fun x s₁ => wpAny M A (call (.builtin "list.append") [acc, x]) (fun _ s₂ => Q s₂) E s₁) E s
section
variable {prog : Program} {w : World} {A : Around} {R : Result → Shared → Prop} {s : Shared}
theorem compLoop_rule {elt : Expr} {gens : List Comprehension} {scope : Scope} {pos : Pos} {d : Nat} {g : Comprehension} {it acc : Value} {env : Env} (hg : gens[d]? = some g) (ha : g.is_async = 0) (ha' : ∀ g', gens[d + 1]? = some g' → g'.is_async = 0 ∧ ∀ x, foldedSetIterable g'.iter env x = pure x) (I : Nat → Shared → Prop)
    (turn : ∀ n s, I n s → wpAny (model prog w) A (pyNext it) (fun r s₁ => match r with
      | none => R (.ok .next) s₁
      | some v => wpAny (model prog w) A (letOwnedTupleGo g.target it v) (fun _ s₂ => wpAny (model prog w) A (assign g.target env v) (fun _ s₃ =>
          wpAny (model prog w) A (testsTree g.ifs env) (fun ok s₄ =>
            if ok = true then innerWp (model prog w) A elt gens scope pos d acc env (fun s₅ => ∃ m, m < n ∧ I m s₅) (notedBy (model prog w) A env fun e s' => R (.error e) s') s₄
            else ∃ m, m < n ∧ I m s₄) (notedBy (model prog w) A env fun e s' => R (.error e) s') s₃) (notedBy (model prog w) A env fun e s' => R (.error e) s') s₂) (notedBy (model prog w) A env fun e s' => R (.error e) s') s₁) (notedBy (model prog w) A env fun e s' => R (.error e) s') s)
    (n : Nat) (h : I n s) : codeAny (model prog w) A (.compLoop (.ListComp elt gens scope pos) d it acc env) R s := by
  refine codeAny_loop rfl I (fun n s hI => ?_) n h
  show wpAny _ A ((compTurn (.ListComp elt gens scope pos) d it acc env).onRaise (fun x => do noteFrame x env; theTreesLotGoes x)) _ _ s
  refine wpAny_noted ?_
  unfold compTurn
  dsimp only
  rw [hg]
  dsimp only
  rw [ha]
  refine wpAny_bind (wpAny_standAt (wpAny_bind (wpAny_mono (turn n s hI) (fun r s₁ h₁ => ?_) fun _ _ h' => h')))
  cases r with
  | none => exact wpAny_pure h₁
  | some v =>
    refine wpAny_bind (wpAny_mono h₁ (fun _ s₂ h₂ => ?_) fun _ _ h' => h')
    refine wpAny_bind (wpAny_mono h₂ (fun _ s₃ h₃ => ?_) fun _ _ h' => h')
    refine wpAny_bind (m := testsTree g.ifs env) (wpAny_mono h₃ (fun ok s₄ h₄ => ?_) fun _ _ h' => h')
    cases ok with
    | false => exact wpAny_pure ⟨rfl, h₄⟩
    | true =>
      simp only [if_true] at h₄ ⊢
      unfold innerWp at h₄
      cases hg' : gens[d + 1]? with
      | none =>
        rw [hg'] at h₄
        dsimp only at h₄ ⊢
        exact wpAny_bind (wpAny_bind (wpAny_mono h₄ (fun x s₅ h₅ => wpAny_bind (wpAny_mono h₅ (fun _ s₆ h₆ => wpAny_pure (wpAny_pure ⟨rfl, h₆⟩)) fun _ _ h' => h')) fun _ _ h' => h'))
      | some g' =>
        rw [hg'] at h₄
        obtain ⟨h0, hf⟩ := ha' g' hg'
        have e0 : (g'.is_async != 0) = false := by rw [h0]; rfl
        dsimp only at h₄ ⊢
        simp only [e0, Bool.false_eq_true, if_false]
        refine wpAny_bind (wpAny_mono h₄ (fun x s₅ h₅ => wpAny_bind (wpAny_standAt (wpAny_bind (wpAny_of_eq (hf x) (wpAny_bind (wpAny_holding (wpAny_mono h₅ (fun it' s₆ h₆ => ?_) fun _ _ h' => h'))))))) fun _ _ h' => h')
        exact wpAny_bind (wpAny_mono h₆ (fun _ s₇ h₇ => wpAny_pure ⟨rfl, h₇⟩) fun _ _ h' => h')
theorem compStart_rule {elt : Expr} {gens : List Comprehension} {scope : Scope} {pos : Pos} {d : Nat} {g : Comprehension} {it acc : Value} {env : Env} (hg : gens[d]? = some g) (ha : g.is_async = 0)
    (h0 : codeAny (model prog w) A (.compLoop (.ListComp elt gens scope pos) d it acc env) R s)
    (h : wpAny (model prog w) A (pyIter it) (fun it' s' => codeAny (model prog w) A (.compLoop (.ListComp elt gens scope pos) d it' acc env) R s')
      (notedBy (model prog w) A env fun x s' => R (.error x) s') s) :
    codeAny (model prog w) A (.compStart (.ListComp elt gens scope pos) d it acc env) R s := by
  refine codeAny_of_tree ?_
  show wpAny _ _ ((compStart (.ListComp elt gens scope pos) d it acc env).onRaise (fun x => do noteFrame x env; standAt theWindowsPlace)) _ _ s
  refine wpAny_notedAt ?_
  have hcl : (clausesOf (.ListComp elt gens scope pos))[d]? = some g := hg
  unfold compStart
  have e0 : ((clausesOf (.ListComp elt gens scope pos))[d]?).elim false (·.is_async != 0) = false := by rw [hcl]; show (g.is_async != 0) = false; rw [ha]; rfl
  rw [if_neg (by rw [e0]; exact Bool.false_ne_true), hcl]
  dsimp only
  refine wpAny_bind (wpAny_askSetting (wpAny_ite ?_))
  split
  · first
      | exact wpAny_bind (wpAny_pure (wpAny_pure (And.intro rfl h0)))
      | exact wpAny_pure (And.intro rfl h0)
  · first
      | exact wpAny_bind (wpAny_rule (wpAny_bind (wpAny_standAt (wpAny_bind (wpAny_mono h (fun it' s' h' => wpAny_pure (And.intro rfl h')) fun _ _ x => x)))))
      | (refine wpAny_bind (wpAny_rule ?_); show wpAny _ _ (standAt g.iter.pos >>= _) _ _ s; exact wpAny_bind (wpAny_standAt (wpAny_bind (wpAny_mono h (fun it' s' h' => wpAny_pure (And.intro rfl h')) fun _ _ x => x))))
end
noncomputable def clGo (env : Env) : List (Str × NameKind) → List (Str × Addr) → List (Str × Addr)
  | [], acc => acc
  | (n, k) :: r, acc => clGo env r (if k == .free then (n, (env.cells.lookup n).getD 0) :: acc else acc)
theorem closureFor_eq {scope : Scope} {env : Env} (h : ∀ x ∈ scope.names, x.2 = .free → ∃ c, env.cells.lookup x.1 = some c) : closureFor scope env = pure (clGo env scope.names []) := by
  unfold closureFor
  generalize scope.names = l at h
  have key : ∀ (l : List (Str × NameKind)) (acc : List (Str × Addr)), (∀ x ∈ l, x.2 = .free → ∃ c, env.cells.lookup x.1 = some c) →
      (forIn l acc fun x (r : List (Str × Addr)) => match x with
        | (name, kind) => if (kind == .free) = true then do
            let a ← cellOf env name
            pure (ForInStep.yield ((name, a) :: r))
          else pure (ForInStep.yield r) : Sem (List (Str × Addr))) = pure (clGo env l acc) := by
    intro l
    induction l with
    | nil => intro acc _; rfl
    | cons x r ih =>
      intro acc hx
      obtain ⟨n, k⟩ := x
      rw [List.forIn_cons]
      by_cases hk : k = .free
      · subst hk
        obtain ⟨c, hc⟩ := hx (n, .free) (.head _) rfl
        have e1 : cellOf env n = pure c := by unfold cellOf; rw [hc]
        simp only [beq_self_eq_true, if_true]
        rw [e1]
        show (forIn r ((n, c) :: acc) _ : Sem (List (Str × Addr))) = _
        rw [ih _ fun y hy => hx y (.tail _ hy)]
        simp [clGo, hc]
      · have hb : (k == NameKind.free) = false := by simpa using hk
        simp only [hb, Bool.false_eq_true, if_false]
        show (forIn r acc _ : Sem (List (Str × Addr))) = _
        rw [ih _ fun y hy => hx y (.tail _ hy)]
        simp [clGo, hb]
  exact (congrArg (fun t : Sem (List (Str × Addr)) => t >>= fun s => pure s) (key l [] h)).trans rfl

theorem clGo_mem {env : Env} : ∀ {l : List (Str × NameKind)} {acc : List (Str × Addr)} {p : Str × Addr}, p ∈ clGo env l acc → p ∈ acc ∨ ((p.1, NameKind.free) ∈ l ∧ p.2 = (env.cells.lookup p.1).getD 0)
  | [], acc, p, h => .inl h
  | (n, k) :: r, acc, p, h => by
    unfold clGo at h
    rcases clGo_mem h with h | ⟨h1, h2⟩
    · split at h
      · rename_i hk
        rcases List.mem_cons.mp h with rfl | h
        · exact .inr ⟨by have : k = .free := beq_iff_eq.mp hk; subst this; exact .head _, rfl⟩
        · exact .inl h
      · exact .inl h
    · exact .inr ⟨.tail _ h1, h2⟩
theorem clGo_has {env : Env} : ∀ {l : List (Str × NameKind)} {acc : List (Str × Addr)} {x : Str}, ((x, NameKind.free) ∈ l ∨ x ∈ acc.map (·.1)) → x ∈ (clGo env l acc).map (·.1)
  | [], acc, x, h => h.elim (fun h => nomatch h) id
  | (n, k) :: r, acc, x, h => by
    unfold clGo
    refine clGo_has (h.elim (fun h => ?_) fun h => .inr ?_)
    · rcases List.mem_cons.mp h with h | h
      · cases h; exact .inr (by simp)
      · exact .inl h
    · split
      · exact List.mem_map.mpr ⟨_, .tail _ (List.mem_map.mp h).choose_spec.1, (List.mem_map.mp h).choose_spec.2⟩
      · exact h
theorem lookup_some_of_mem {x : Str} : ∀ {cs : List (Str × Addr)}, x ∈ cs.map (·.1) → ∃ c, cs.lookup x = some c
  | (y, c) :: cs, h => by
    rw [List.lookup_cons]
    by_cases hx : x = y
    · subst hx; exact ⟨c, by simp⟩
    · have : (x == y) = false := by simpa using hx
      rw [this]
      rcases List.mem_cons.mp h with h | h
      · exact absurd h hx
      · exact lookup_some_of_mem h
theorem clGo_look {env : Env} {l : List (Str × NameKind)} {x : Str} {c : Addr} (h : (clGo env l []).lookup x = some c) : (x, NameKind.free) ∈ l ∧ c = (env.cells.lookup x).getD 0 := by
  rcases clGo_mem (mem_of_lookup h) with h | h
  · cases h
  · exact h
theorem clGo_some {env : Env} {l : List (Str × NameKind)} {x : Str} (h : (x, NameKind.free) ∈ l) : ∃ c, (clGo env l []).lookup x = some c := lookup_some_of_mem (clGo_has (.inl h))

noncomputable def rel (scope sc : Scope) : Scope := { scope with names := scope.names.map fun (n, k) => if (k == .free && sc.kind == .function && sc.names.lookup n == some .cell) then (n, .cell) else (n, k) }
theorem relabel_eq {scope sc : Scope} {env : Env} (h : env.scope = sc) : relabel scope env = rel scope sc := by
  subst h; rfl
noncomputable def compOk (scope sc : Scope) : Bool := scope.names.all (fun x => x.2 != .free || sc.names.lookup x.1 == some .cell) && scope.names.all (fun x => x.2 != .cell) && scope.kind == .function
noncomputable def mask (scope : Scope) (σ : En) : En := σ.filter fun p => scope.names.lookup p.1 != some .local
theorem mask_look {scope : Scope} {x : Str} {v : V} : ∀ {σ : En}, (mask scope σ).lookup x = some v → σ.lookup x = some v ∧ scope.names.lookup x ≠ some .local
  | [], e => by cases e
  | (y, u) :: σ, e => by
    unfold mask at e
    rw [List.filter_cons] at e
    by_cases hy : x = y
    · subst hy
      split at e
      · rename_i h
        rw [List.lookup_cons, beq_self_eq_true] at e
        cases e
        exact ⟨by rw [List.lookup_cons, beq_self_eq_true], by simpa using h⟩
      · rename_i h
        exact absurd (by simpa using h) (mask_look (σ := σ) e).2
    · have hb : (x == y) = false := by simpa using hy
      split at e
      · rw [List.lookup_cons, hb] at e
        rw [List.lookup_cons, hb]
        exact mask_look (σ := σ) e
      · rw [List.lookup_cons, hb]
        exact mask_look (σ := σ) e
theorem rel_look {scope sc : Scope} {x : Str} : (rel scope sc).names.lookup x = (scope.names.lookup x).map fun k => if (k == .free && sc.kind == .function && sc.names.lookup x == some .cell) then .cell else k := by
  unfold rel
  dsimp only
  generalize scope.names = l
  induction l with
  | nil => rfl
  | cons p r ih =>
    obtain ⟨y, k⟩ := p
    simp only [List.map_cons, List.lookup_cons]
    by_cases hx : x = y
    · subst hx
      split <;> simp_all
    · have hb : (x == y) = false := by simpa using hx
      split <;> simp only [hb, List.lookup_cons] <;> exact ih
theorem clGo_at {env : Env} {l : List (Str × NameKind)} {p : Str × Addr} (h : p ∈ clGo env l []) : (clGo env l []).lookup p.1 = some p.2 := by
  obtain ⟨c, hc⟩ := lookup_some_of_mem (List.mem_map.mpr ⟨p, h, rfl⟩)
  rcases clGo_mem h with h | ⟨h1, h2⟩
  · cases h
  · rw [hc, (clGo_look hc).2, h2]
structure Inn (sc sc' scope : Scope) : Prop where
  kd : scope.kind = .function
  fr : ∀ x, (x, NameKind.free) ∈ scope.names → sc.names.lookup x = some .cell
  loc : ∀ x, sc'.names.lookup x = some .local → scope.names.lookup x = some .local
  cel : ∀ x, sc'.names.lookup x = some .cell ∨ sc'.names.lookup x = some .free → (x, NameKind.free) ∈ scope.names
theorem compOk_fr {scope sc : Scope} (h : compOk scope sc = true) : scope.kind = .function ∧ (∀ x, (x, NameKind.free) ∈ scope.names → sc.names.lookup x = some .cell) ∧ ∀ y ∈ scope.names, y.2 ≠ .cell := by
  unfold compOk at h
  simp only [Bool.and_eq_true, List.all_eq_true, Bool.or_eq_true, bne_iff_ne, ne_eq, beq_iff_eq] at h
  exact ⟨h.2, fun x hx => (h.1.1 _ hx).elim (fun q => absurd rfl q) id, fun y hy => h.1.2 y hy⟩
theorem inn_rel {scope sc : Scope} (h : compOk scope sc = true) : Inn sc (rel scope sc) scope := by
  obtain ⟨h1, h2, h3⟩ := compOk_fr h
  refine ⟨h1, h2, fun x hx => ?_, fun x hx => ?_⟩
  · rw [rel_look] at hx
    cases e : scope.names.lookup x with
    | none => rw [e] at hx; cases hx
    | some k =>
      rw [e] at hx
      simp only [Option.map_some, Option.some.injEq] at hx
      split at hx
      · cases hx
      · rw [hx]
  · rw [rel_look] at hx
    cases e : scope.names.lookup x with
    | none => rw [e] at hx; simp at hx
    | some k =>
      rw [e] at hx
      simp only [Option.map_some, Option.some.injEq] at hx
      have hm := mem_of_lookup e
      have := h3 _ hm
      cases k with
      | free => exact hm
      | cell => exact absurd rfl this
      | _ => simp at hx
theorem inn_same {scope sc : Scope} (h : compOk scope sc = true) : Inn sc scope scope := by
  obtain ⟨h1, h2, h3⟩ := compOk_fr h
  exact ⟨h1, h2, fun x hx => hx, fun x hx => hx.elim (fun e => absurd rfl (h3 _ (mem_of_lookup e))) fun e => mem_of_lookup e⟩
section
variable {B : Bs} {sc sc' scope : Scope} {Z α : List Addr} {σ : En} {h : Heap} {env cenv : Env}
theorem Inn.clo (X : Inn sc sc' scope) (EI : EnvI B sc env) : ∀ x ∈ scope.names, x.2 = .free → ∃ c, env.cells.lookup x.1 = some c := fun x hx hf =>
  EI.w.own x.1 (by unfold Env.kindOf; rw [EI.esc]; exact X.fr x.1 (by rw [← hf]; exact hx))
theorem Inn.look (X : Inn sc sc' scope) (EI : EnvI B sc env) {x : Str} {c : Addr} (hc : (clGo env scope.names []).lookup x = some c) : env.cells.lookup x = some c := by
  obtain ⟨h1, h2⟩ := clGo_look hc
  obtain ⟨c', h3⟩ := X.clo EI _ h1 rfl
  rw [h3] at h2; simp at h2; rw [h2, h3]
theorem Inn.envW (X : Inn sc sc' scope) (EI : EnvI B sc env) (hs : cenv.scope = sc') (hc : cenv.cells = clGo env scope.names []) (hC : ∀ x c, env.cells.lookup x = some c → c ≠ cenv.locals) : EnvW B.g.objs.size cenv := by
  refine ⟨fun x y c h1 h2 => ?_, fun x c h1 => ?_, fun x c h1 => ?_, fun c h1 => ?_, fun x hx => ?_⟩
  · rw [hc] at h1 h2; exact EI.w.inj x y c (X.look EI h1) (X.look EI h2)
  · rw [hc] at h1; exact hC x c (X.look EI h1)
  · rw [hc] at h1; exact EI.w.up x c (X.look EI h1)
  · rw [hc] at h1 ⊢
    obtain ⟨p, hp, rfl⟩ := List.mem_map.mp h1
    exact ⟨p.1, clGo_at hp⟩
  · rw [hc]
    exact clGo_some (X.cel x (.inl (by unfold Env.kindOf at hx; rw [hs] at hx; exact hx)))
theorem Inn.frI (X : Inn sc sc' scope) (EI : EnvI B sc env) (hs : cenv.scope = sc') (hc : cenv.cells = clGo env scope.names []) (F : FrI Z B.g.objs.size env α σ h) {m : Str → Option Value} (hn : h.Ns cenv.locals m) (hz : cenv.locals ∈ Z) (hup : B.g.objs.size ≤ cenv.locals) :
    FrI Z B.g.objs.size cenv α (mask scope σ) h := by
  refine ⟨⟨m, hn, fun x v e k => ?_⟩, fun x v e k => ?_, hz, fun x c e => ?_, hup⟩
  · exact absurd (X.loc x (by unfold Env.kindOf at k; rw [hs] at k; exact k)) (mask_look e).2
  · have hm := X.cel x (by unfold Env.kindOf at k; rw [hs] at k; exact k)
    obtain ⟨c, w, h1, h2, h3⟩ := F.cel x v (mask_look e).1 (.inl (by unfold Env.kindOf; rw [EI.esc]; exact X.fr x hm))
    obtain ⟨c', hc'⟩ := clGo_some (env := env) hm
    have := X.look EI hc'
    rw [h1] at this; cases this
    exact ⟨c, w, by rw [hc]; exact hc', h2, h3⟩
  · rw [hc] at e
    exact F.zC x c (X.look EI e)
end
noncomputable def locOk (scope : Scope) : Bool := scope.names.all fun x => x.2 != .local || scope.names.lookup x.1 == some .local
theorem locOk_ok {scope : Scope} (h : locOk scope = true) : ∀ x ∈ scope.names, x.2 = .local → scope.names.lookup x.1 = some .local := fun x hx hl => by
  unfold locOk at h
  simp only [List.all_eq_true, Bool.or_eq_true, bne_iff_ne, ne_eq, beq_iff_eq] at h
  exact (h x hx).elim (fun q => absurd hl q) id
end Tg
namespace Tg
set_option maxHeartbeats 1000000
theorem set_get {α : Type} {l : List α} {k : Nat} {x : α} (h : l[k]? = some x) : l.set k x = l := by
  obtain ⟨hk, e⟩ := List.getElem?_eq_some_iff.mp h
  rw [← e]; exact List.set_getElem_self hk
noncomputable def TtP (K : Kx) (ifs : List Expr) (σ : En) (c : Bool) : Prop := match ifs with
  | [] => c = true
  | [e] => ∀ H, Tv K e σ H c H
  | _ => False
noncomputable def Turn (K : Kx) (tgt : Expr) (ifs : List Expr) (body : En → List V → Prop) (σ : En) (v : V) (o : List V) : Prop :=
  ∃ σ₁ c, At K false tgt v σ σ₁ ∧ Sub σ σ₁ ∧ TtP K ifs σ₁ c ∧ if c = true then body σ₁ o else o = []
noncomputable def CmpL (turn : V → List V → Prop) : List V → List V → Prop
  | [], o => o = []
  | v :: vs, o => ∃ o1 o2, turn v o1 ∧ CmpL turn vs o2 ∧ o = o1 ++ o2
noncomputable def CbR (K : Kx) (elt : Expr) (gens : List Comprehension) (scope : Scope) (pos : Pos) (d : Nat) (body : En → List V → Prop) : Prop := ∀ ⦃σ : En⦄ ⦃o : List V⦄, body σ o → ∀ ⦃Z A env s α H k a acc⦄ (Q : Shared → Prop) (E : Value → Shared → Prop), Cx K Z A env s α H σ → α[k]? = some a → H[k]? = some (.list acc) → acc.length + o.length ≤ 1048576 →
  (∀ s', Stp K.B Z (Ow env) α s α (H.set k (.list (acc ++ o))) s' → FrI Z K.B.g.objs.size env α σ s'.heap → Q s') → innerWp (model K.B.prog K.B.w) A elt gens scope pos d (.ref a) env Q E s
theorem Stp.same {B : Bs} {Z W α α' : List Addr} {s s' : Shared} {H H' : AH} (x : Stp B Z W α s α' H' s') (I : Inv B Z α H s) (h : H'.length = H.length) : α' = α := by
  obtain ⟨t, rfl, _⟩ := x.ext
  have e1 := x.inv.hr.len
  have e2 := I.hr.len
  rw [List.length_append] at e1
  rw [List.eq_nil_of_length_eq_zero (l := t) (by omega), List.append_nil]
section
variable {B : Bs} {Z Z' α : List Addr} {H : AH} {s s' : Shared} (h : ∀ a ∈ Z', a ∈ Z)
include h
theorem less_k {hp : Heap} (a o) (e : hp.get? a = some o) (so : Solid o) (z : a ∉ Z ++ α) : hp.get? a = some o ∧ a ∉ Z' ++ α := ⟨e, fun hm => z ((List.mem_append.mp hm).elim (fun hm => List.mem_append_left _ (h a hm)) fun hm => List.mem_append_right _ hm)⟩
theorem Inv.less (I : Inv B Z α H s) : Inv B Z' α H s :=
  ⟨I.old, I.keep, I.gens, I.os, I.codes, ⟨I.hr.len, I.hr.nodup, fun a ha hm => I.hr.dis a ha (h a hm), fun i o a e e' => (I.hr.obj i o a e e').map (fun _ e _ => e) (fun q => q.map (less_k h) fun _ _ e => e) fun _ _ e => e⟩, fun a ha => I.ban a (h a ha)⟩
theorem Stp.less {W α' H'} (x : Stp B Z W α s α' H' s') : Stp B Z' W α s α' H' s' := ⟨x.ext, x.inv.less h, x.kp, x.th⟩
end
theorem Stp.gone {B : Bs} {Z F W α α₄ α' t : List Addr} {s₁ s₄ s' s₃ : Shared} {H' : AH} (x : Stp B (F ++ Z) (F ++ W) α₄ s₄ α' H' s') (k : ∀ b o, s₁.heap.get? b = some o → s₄.heap.get? b = some o) (e4 : α₄ = α ++ t) (ft : Fresh t s₁.heap) (fF : Fresh F s₁.heap) (up : ∀ a ∈ F, B.g.objs.size ≤ a) (O : B.Ok) (hz : ∀ a ∈ Z, a ∉ F) (ie : IE F s' s₃) :
    Stp B Z W α s₁ α' H' s₃ := by
  subst e4
  obtain ⟨t', rfl, ft'⟩ := x.ext
  refine ⟨⟨t ++ t', by rw [List.append_assoc], fun a ha => ?_⟩, x.inv.ie O ie up hz, fun b o e hb so => ie.2 b o (fF.not e) (x.kp b o (k b o e) (fun hm => ?_) so), fun b o e => ?_⟩
  · rcases List.mem_append.mp ha with ha | ha
    · exact ft a ha
    · cases e : s₁.heap.get? a with
      | none => rfl
      | some o => have := k a o e; rw [ft' a ha] at this; cases this
  · rcases List.mem_append.mp hm with hm | hm
    · rcases List.mem_append.mp hm with hm | hm
      · exact fF.not e hm
      · exact hb (List.mem_append_left _ hm)
    · rcases List.mem_append.mp hm with hm | hm
      · exact hb (List.mem_append_right _ hm)
      · exact ft.not e hm
  · obtain ⟨o', e'⟩ := x.th b o (k b o e)
    exact ⟨o', ie.2 b o' (fF.not e) e'⟩
section
variable {K : Kx} {elt tgt iter : Expr} {ifs : List Expr} {gens : List Comprehension} {scope : Scope} {pos : Pos} {d : Nat} {body : En → List V → Prop} {σ : En} {vs o acc : List V}
theorem tt_wp {c : Bool} (h : TtP K ifs σ c) {Z A env s α H} {Q : Bool → Shared → Prop} {E : Value → Shared → Prop} (C : Cx K Z A env s α H σ) (hQ : ∀ s', Stp K.B Z [] α s α H s' → Q c s') : wpAny (model K.B.prog K.B.w) A (testsTree ifs env) Q E s := by
  match ifs, h with
  | [], h => cases h; exact wpAny_tests_nil (hQ _ (.refl C.I))
  | [e], h => exact wpAny_tests_one (h H _ _ C fun s' α' k => by obtain rfl := k.same C.I rfl; exact hQ s' k)
theorem cb_emit (hd : gens[d + 1]? = none) : CbR K elt gens scope pos d (fun σ o => ∃ v, (∀ H, Ev K elt σ H v H) ∧ o = [v]) := by
  rintro σ o ⟨v, he, rfl⟩ Z A env s α H k a acc Q E C hk hl hz hQ
  unfold innerWp
  rw [hd]
  refine he H _ E C fun w s₁ α₁ k₁ r₁ => ?_
  obtain rfl := k₁.same C.I rfl
  have C₁ := C.step k₁
  exact append_wp C.O k₁.inv hk hl r₁ (by simp at hz; omega) fun s₂ k₂ => hQ s₂ (k₁.trans k₂).wide (C₁.step k₂).F
theorem comp_loop (hg : gens[d]? = some ⟨tgt, iter, ifs, 0⟩) (ha : ∀ g', gens[d + 1]? = some g' → g'.is_async = 0 ∧ ∀ env x, foldedSetIterable g'.iter env x = pure x) (hb : CbR K elt gens scope pos d body)
    {Z A env s₂ α H J wr St k a} (jo : Jo K Z env tgt J wr St) (C : Cx K Z A env s₂ α H σ) (hst : St vs α s₂.heap) (hk : α[k]? = some a) (hl : H[k]? = some (.list acc)) (hc : CmpL (Turn K tgt ifs body σ) vs o) (hz : acc.length + o.length ≤ 1048576) {RR : Result → Shared → Prop}
    (hR : ∀ s' s₃, Stp K.B Z (wr ++ Ow env) α s₂ α (H.set k (.list (acc ++ o))) s' → FrI Z K.B.g.objs.size env α σ s'.heap → IE wr s' s₃ → RR (.ok .next) s₃) :
    codeAny (model K.B.prog K.B.w) A (.compLoop (.ListComp elt gens scope pos) d (.ref J) (.ref a) env) RR s₂ := by
  have hkl : k < H.length := (List.getElem?_eq_some_iff.mp hl).1
  have h0 : H.set k (.list acc) = H := set_get hl
  refine compLoop_rule hg rfl (fun g' e => ⟨(ha g' e).1, (ha g' e).2 env⟩) (fun m s' => ∃ us acc' o', m = us.length ∧ Jv K Z A env wr St s₂ α us α (H.set k (.list acc')) σ s' ∧ CmpL (Turn K tgt ifs body σ) us o' ∧ acc' ++ o' = acc ++ o) ?_ vs.length
    ⟨vs, acc, o, rfl, ⟨hst, by rw [h0]; exact .refl C.I, by rw [h0]; exact C⟩, hc, rfl⟩
  rintro m s' ⟨us, acc', o', rfl, j, hrun, eo⟩
  cases us with
  | nil =>
    cases hrun
    rw [List.append_nil] at eo
    subst eo
    exact wpAny_mono (j.dn jo (fun s₃ => RR (.ok .next) s₃) _ fun s₃ k₃ => hR s' s₃ j.sp j.cx.F k₃) (fun r s₃ hr => by rw [hr.1]; exact hr.2) fun _ _ e => e
  | cons v us =>
    obtain ⟨o1, o2, ⟨σ₁, c, hat, hsub, ht, hbd⟩, hrun, rfl⟩ := hrun
    refine wpAny_mono (j.nx jo (fun w s₃ => wpAny (model K.B.prog K.B.w) A (assign tgt env w) _ _ s₃) _ fun w s₃ C₃ r₃ out => hat _ _ C₃ (by intro h; cases h) r₃ fun s₄ k₄ F₄ _ => ?_) (fun r s₃ hr => by obtain ⟨w, rfl, hr⟩ := hr; exact hr) fun _ _ e => e
    have C₄ := C₃.at k₄ F₄
    refine tt_wp ht C₄ fun s₅ k₅ => ?_
    have C₅ := C₄.step k₅
    have k₄₅ := k₄.trans k₅.wide
    have hlen : acc'.length + (o1 ++ o2).length = acc.length + o.length := by have := congrArg List.length eo; simpa using this
    rw [List.length_append] at hlen
    cases c with
    | false =>
      simp only [Bool.false_eq_true, if_false] at hbd ⊢
      subst hbd
      exact ⟨us.length, Nat.lt_succ_self _, us, acc', o2, rfl, out s₅ α _ σ k₄₅ (C₅.F.sub hsub), hrun, by simpa using eo⟩
    | true =>
      simp only [if_true] at hbd ⊢
      refine hb hbd _ _ C₅ hk (List.getElem?_set_self hkl) (by omega) fun s₆ k₆ F₆ => ?_
      rw [List.set_set] at k₆
      exact ⟨us.length, Nat.lt_succ_self _, us, acc' ++ o1, o2, rfl, out s₆ α _ σ (k₄₅.trans k₆) (F₆.sub hsub), hrun, by rw [List.append_assoc]; exact eo⟩
theorem cb_nest {gens : List Comprehension} (hg : gens[d + 1]? = some ⟨tgt, iter, ifs, 0⟩) (ha : ∀ g', gens[d + 1 + 1]? = some g' → g'.is_async = 0 ∧ ∀ env x, foldedSetIterable g'.iter env x = pure x) (hb : CbR K elt gens scope pos (d + 1) body) :
    CbR K elt gens scope pos d (fun σ o => ∃ vs, (∀ H, Si K tgt iter σ H vs H) ∧ CmpL (Turn K tgt ifs body σ) vs o) := by
  rintro σ o ⟨vs, hsrc, hc⟩ Z A env s α H k a acc Q E C hk hl hz hQ
  unfold innerWp
  rw [hg]
  refine hsrc H _ E C fun J wr St s₁ s₂ α₁ k₁ D => ?_
  obtain rfl := k₁.same C.I rfl
  have C₁ := C.step k₁
  have jo := D.jo C₁
  have j := D.jv C₁
  refine wpAny_runOwn ?_
  have C₂ : Cx K (wr ++ Z) (A.mark none) env s₂ α₁ H σ := ⟨⟨j.cx.R.h, j.cx.R.d, j.cx.R.u⟩, j.cx.O, j.cx.EI, j.cx.I, j.cx.F⟩
  have loop := comp_loop (pos := pos) (scope := scope) (elt := elt) hg ha hb jo C₂ j.st hk hl hc hz (RR := fun r s' => match r with | .ok f => Q s' | .error e => cameBackBy (model K.B.prog K.B.w) A env E e s') fun s' s₃ st F' k₃ => by
    have st' := st.done D C₁.I C.O k₃
    exact hQ s₃ (k₁.wide.trans st') ((F'.mono0 k₃.kp (fun a ha => List.mem_append_left _ (List.mem_append_left _ ha)) jo.oL jo.oC).freeZ C.F.zL fun x c e => (C.F.zC x c e).1)
  exact compStart_rule hg rfl loop ((D.wk _).self _ _ _ _ _ _ j.st loop)
end
end Tg
namespace Tg
set_option maxHeartbeats 1000000
noncomputable abbrev Kx.inn (K : Kx) (scope : Scope) : Kx := ⟨K.B, K.n, rel scope K.sc⟩
section
variable {K : Kx} {elt tgt iter : Expr} {ifs : List Expr} {gens gs : List Comprehension} {scope : Scope} {pos : Pos} {body : En → List V → Prop} {σ : En} {vs o : List V} {H H₁ : AH}
theorem comp_core (hg : gens[0]? = some ⟨tgt, iter, ifs, 0⟩) (ha : ∀ g', gens[0 + 1]? = some g' → g'.is_async = 0 ∧ ∀ env x, foldedSetIterable g'.iter env x = pure x) (hok : compOk scope K.sc = true) (h00 : scope.names.lookup (".0" : Str) ≠ none)
    (hb : CbR (K.inn scope) elt gens scope pos 0 body) {Z A env s₁ s₂ α J wr StZ} (C : Cx K Z A env s₁ α H σ) (D : Dr K.B Z tgt J vs wr StZ s₁ s₂ α) (hc : CmpL (Turn (K.inn scope) tgt ifs body (mask scope σ)) vs o) (hz : o.length ≤ 1048576) {RR : Value → Addr → Result → Shared → Prop} {E : Value → Shared → Prop}
    (hR : ∀ Da Cc s', Stp K.B ([Cc] ++ Z) [Cc] α s₁ (α ++ [Da]) (H ++ [.list o]) s' → s₁.heap.get? Cc = none → (∃ m, s'.heap.Ns Cc m) → K.B.g.objs.size ≤ Cc → Cc ∉ α ++ [Da] → RR (.ref Da) Cc (.ok .next) s') :
    wpAny (model K.B.prog K.B.w) A (newList []) (fun acc s₃ => wpAny (model K.B.prog K.B.w) A (newFunctionEnv scope env.globals (clGo env scope.names []) [] env.qual none .none (some env)) (fun cenv s₄ =>
      codeAny (model K.B.prog K.B.w) A (.compStart (.ListComp elt gens scope pos) 0 (.ref J) acc { cenv with scope := relabel scope env }) (RR acc cenv.locals) s₄) E s₃) E s₂ := by
  obtain ⟨hkd, hfr, hce⟩ := compOk_fr hok
  have X : Inn K.sc (rel scope K.sc) scope := inn_rel hok
  refine wpAny_newObj_type (wpAny_newFunctionEnv hce (by intro y hy; simp at hy) (fun h₁ hns₁ hsb₁ => ?_) hkd)
  dsimp only at hns₁ hsb₁ ⊢
  generalize hH2 : s₂.heap.push { cls := .type "list", dict := none, data := .seq ([] : List Value).toArray } = H2 at hns₁ hsb₁ ⊢
  have hC : H2.objs.size = s₂.heap.objs.size + 1 := by rw [← hH2, Heap.size_push]
  have hDC : s₂.heap.objs.size ≠ H2.objs.size := by rw [hC]; exact Nat.ne_of_lt (Nat.lt_succ_self _)
  have j := D.jv C
  have jo := D.jo C
  have up2 : K.B.g.objs.size ≤ s₂.heap.objs.size := j.cx.size
  have le2 : ∀ b o, s₁.heap.get? b = some o → s₂.heap.get? b = some o := by obtain ⟨h', tk, rfl, k⟩ := D.kk; exact k
  have old : ∀ b o, s₂.heap.get? b = some o → h₁.get? b = some o := fun b o e => hsb₁.extBut b o (by rw [hC]; exact Nat.ne_of_lt (Nat.lt_succ_of_lt (Heap.lt_size e))) (Heap.get?_push_of_some _ (hH2 ▸ Heap.get?_push_of_some _ e))
  have eD : h₁.get? s₂.heap.objs.size = some { cls := .type "list", dict := none, data := .seq ([] : List Value).toArray } :=
    hsb₁.extBut _ _ hDC (Heap.get?_push_of_some _ (hH2 ▸ Heap.get?_push_size _ rfl))
  have n2 : ∀ a, s₂.heap.objs.size ≤ a → s₂.heap.get? a = none := fun a ha => none_new' ha
  have n1 : ∀ a, s₂.heap.objs.size ≤ a → s₁.heap.get? a = none := fun a ha => by
    cases e : s₁.heap.get? a with
    | none => rfl
    | some o => have := le2 _ _ e; rw [n2 a ha] at this; cases this
  have upC : s₂.heap.objs.size ≤ H2.objs.size := by rw [hC]; exact Nat.le_succ _
  have k₂ : Keeps s₂ { s₂ with heap := h₁, toks := s₂.toks + ([] : List (Str × Value)).length } := ⟨h₁, _, rfl, old⟩
  have fC : Fresh [H2.objs.size] s₂.heap := fun a ha => by rw [List.mem_singleton.mp ha]; exact n2 _ upC
  have thC : ∀ a ∈ [H2.objs.size], ∃ o, h₁.get? a = some o := fun a ha => by rw [List.mem_singleton.mp ha]; obtain ⟨o, _, _, e, _⟩ := hns₁; exact ⟨o, e⟩
  -- the frame's names are banned, then the list is known
  have st0 : Stp K.B (wr ++ Z) [] α s₂ (α ++ [s₂.heap.objs.size]) (H ++ [.list []]) { s₂ with heap := h₁, toks := s₂.toks + ([] : List (Str × Value)).length } :=
    .push j.cx.I old (n2 _ (Nat.le_refl _)) ⟨up2, [], _, eD, .nil⟩
  have hCα : H2.objs.size ∉ α ++ [s₂.heap.objs.size] := fun hm => by
    rcases List.mem_append.mp hm with hm | hm
    · obtain ⟨o', e'⟩ := j.cx.I.hr.there hm
      rw [n2 _ upC] at e'; cases e'
    · exact hDC (List.mem_singleton.mp hm).symm
  have I₄ : Inv K.B ([H2.objs.size] ++ (wr ++ Z)) (α ++ [s₂.heap.objs.size]) (H ++ [.list []]) { s₂ with heap := h₁, toks := s₂.toks + ([] : List (Str × Value)).length } := by
    have Ib := (j.cx.I.banned fC k₂ thC)
    have hD0 : OR ([H2.objs.size] ++ (wr ++ Z)) K.B.g.objs.size (α ++ [s₂.heap.objs.size]) h₁ (.list []) s₂.heap.objs.size := ⟨up2, [], _, eD, .nil⟩
    have hr : HR ([H2.objs.size] ++ (wr ++ Z)) K.B.g.objs.size (α ++ [s₂.heap.objs.size]) (H ++ [.list []]) h₁ := (j.cx.I.hr.banned fC).push (.of_keeps old) (n2 _ (Nat.le_refl _)) (fun hm => by
      rcases List.mem_append.mp hm with hm | hm
      · exact hDC (List.mem_singleton.mp hm)
      · exact j.cx.I.new (List.mem_append_left _ hm)) hD0
    exact ⟨Ib.old, Ib.keep, Ib.gens, Ib.os, Ib.codes, hr, Ib.ban⟩
  have hne : ∀ x c, env.cells.lookup x = some c → c ≠ H2.objs.size := fun x c hc q => by
    obtain ⟨_, v, o, e, _⟩ := j.cx.F.zC x c hc
    rw [q, n2 _ upC] at e; cases e
  have F₂ : FrI ([H2.objs.size] ++ (wr ++ Z)) K.B.g.objs.size env (α ++ [s₂.heap.objs.size]) σ h₁ := (j.cx.F.banned fC).mono (W := []) (.of_keeps old) (fun _ h => nomatch h) (by simp) (by simp) Fresh.size
  have st₄ : Stp K.B ([H2.objs.size] ++ (wr ++ Z)) [] α s₂ (α ++ [s₂.heap.objs.size]) (H ++ [.list []]) { s₂ with heap := h₁, toks := s₂.toks + ([] : List (Str × Value)).length } := ⟨⟨_, rfl, Fresh.size⟩, I₄, .of_keeps old, .of_keeps old⟩
  have hst₄ : StZ ([H2.objs.size] ++ (wr ++ Z)) vs (α ++ [s₂.heap.objs.size]) h₁ := (D.wk _).mono vs α H _ (H ++ [.list []]) [] s₂ _ (D.ban _ _ _ _ _ fC j.st) (fun a ha hm => by
    rcases List.mem_append.mp hm with hm | hm
    · obtain ⟨o', e'⟩ := j.cx.I.hr.there ha
      exact fC.not e' hm
    · exact j.cx.I.hr.dis a ha hm) st₄ (fun _ h => nomatch h) (fun a ha => ⟨List.mem_append_right _ (List.mem_append_left _ ha), by simp⟩)
  generalize hcenv : (compEnvC scope (clGo env scope.names []) H2.objs.size env) = cenv
  have c1 : cenv.scope = rel scope K.sc := by rw [← hcenv]; exact relabel_eq C.EI.esc
  have c2 : cenv.cells = clGo env scope.names [] := by rw [← hcenv]; rfl
  have c3 : cenv.locals = H2.objs.size := by rw [← hcenv]; rfl
  have c4 : cenv.func = none := by rw [← hcenv]; rfl
  have hrel0 : (rel scope K.sc).names.lookup (".0" : Str) ≠ none := by
    rw [rel_look]
    cases e : scope.names.lookup (".0" : Str) with
    | none => exact absurd e h00
    | some k => simp
  have W' : EnvW K.B.g.objs.size cenv := X.envW C.EI c1 c2 (fun x c hc => c3 ▸ hne x c hc)
  have EI' : EnvI K.B (rel scope K.sc) cenv := ⟨c1, hkd, by rw [← hcenv]; exact C.EI.gl, by rw [← hcenv]; exact C.EI.bi, fun q => absurd q hrel0, W'⟩
  have F' : FrI ([H2.objs.size] ++ (wr ++ Z)) K.B.g.objs.size cenv (α ++ [s₂.heap.objs.size]) (mask scope σ) h₁ := X.frI C.EI c1 c2 F₂ (c3 ▸ hns₁) (c3 ▸ List.mem_append_left _ (.head _)) (c3 ▸ Nat.le_trans up2 upC)
  have hOw : Ow cenv = [H2.objs.size] := by unfold Ow; rw [c3, c4]; rfl
  have hwC : H2.objs.size ∉ wr := fun hm => by obtain ⟨_, _, o, e⟩ := D.wr _ hm; rw [n2 _ upC] at e; cases e
  have jo' : Jo (K.inn scope) ([H2.objs.size] ++ (wr ++ Z)) cenv tgt J wr (StZ ([H2.objs.size] ++ (wr ++ Z))) := ⟨D.wk _, fun a ha => ⟨(D.wr a ha).1, List.mem_append_right _ (List.mem_append_left _ ha)⟩, c3 ▸ hwC, fun x c hc => jo.oC x c (X.look C.EI (c2 ▸ hc)), fun a ha hm => by rw [hOw, List.mem_singleton] at hm; exact hwC (hm ▸ ha)⟩
  have C' : Cx (K.inn scope) ([H2.objs.size] ++ (wr ++ Z)) A cenv { s₂ with heap := h₁, toks := s₂.toks + ([] : List (Str × Value)).length } (α ++ [s₂.heap.objs.size]) (H ++ [.list []]) (mask scope σ) := ⟨C.R, C.O, EI', I₄, F'⟩
  have hk : (α ++ [s₂.heap.objs.size])[H.length]? = some s₂.heap.objs.size := by rw [← C.I.hr.len]; simp
  have loop := comp_loop (elt := elt) (pos := pos) (scope := scope) (RR := RR (.ref s₂.heap.objs.size) H2.objs.size) hg ha hb jo' C' hst₄ hk (acc := []) (by simp) hc (by simpa using hz) fun s' s₃ k₃ F₃ ie => by
    rw [hOw] at k₃
    have e1 : (H ++ [AO.list []]).set H.length (.list ([] ++ o)) = H ++ [.list o] := by simp
    rw [e1] at k₃
    obtain ⟨m, hm, _⟩ := F₃.loc
    have k₄ : Stp K.B (wr ++ ([H2.objs.size] ++ Z)) (wr ++ [H2.objs.size]) (α ++ [s₂.heap.objs.size]) { s₂ with heap := h₁, toks := s₂.toks + ([] : List (Str × Value)).length } (α ++ [s₂.heap.objs.size]) (H ++ [.list o]) s' := k₃.less fun a ha => by
      simp only [List.mem_append] at ha ⊢
      rcases ha with ha | ha | ha
      · exact .inr (.inl ha)
      · exact .inl ha
      · exact .inr (.inr ha)
    refine hR _ _ s₃ (Stp.gone (F := wr) k₄ (fun b o e => old _ _ (le2 _ _ e)) rfl (fun a ha => ?_) D.fz (fun a ha => (D.wr a ha).1) C.O (fun a ha => (List.mem_append.mp ha).elim (fun ha => by rw [List.mem_singleton.mp ha]; exact hwC) fun ha => D.off C.I ha) ie) (n1 _ upC) ⟨m, ns_solid (c3 ▸ hm) fun o e _ => ie.2 _ _ hwC e⟩ (Nat.le_trans up2 upC) hCα
    rw [List.mem_singleton.mp ha]; exact n1 _ (Nat.le_refl _)
  show codeAny _ A (.compStart (.ListComp elt gens scope pos) 0 (.ref J) (.ref s₂.heap.objs.size) (compEnvC scope (clGo env scope.names []) H2.objs.size env)) (RR (.ref s₂.heap.objs.size) H2.objs.size) _
  rw [hcenv]
  exact compStart_rule hg rfl loop ((D.wk _).self _ _ _ _ _ _ hst₄ loop)
theorem comp_fin {B : Bs} {Z α α' W : List Addr} {HF : AH} {s₁ s' : Shared} {Cc : Addr} {h' : Heap} (O : B.Ok) (I : Inv B Z α H s₁) (st : Stp B ([Cc] ++ Z) ([Cc] ++ W) α s₁ α' HF s') (hC : s₁.heap.get? Cc = none) (hup : B.g.objs.size ≤ Cc) (hs : Heap.SameBut Cc s'.heap h') : Stp B Z W α s₁ α' HF { s' with heap := h' } :=
  Stp.gone (t := []) st (fun _ _ e => e) (by simp) .nil (fun a ha => by rw [List.mem_singleton.mp ha]; exact hC) (fun a ha => by rw [List.mem_singleton.mp ha]; exact hup) O (fun a ha hm => by obtain ⟨o, e⟩ := I.ban a ha; rw [List.mem_singleton.mp hm, hC] at e; cases e) (IE.same hs)
theorem ev_listcomp (hsrc : Si K tgt iter σ H vs H₁) (hb : CbR (K.inn scope) elt (⟨tgt, iter, ifs, 0⟩ :: gs) scope pos 0 body) (hc : CmpL (Turn (K.inn scope) tgt ifs body (mask scope σ)) vs o) (hz : o.length ≤ 1048576)
    (hok : compOk scope K.sc = true) (h00 : scope.names.lookup (".0" : Str) ≠ none) (hlo : locOk scope = true) (ha : ∀ g', gs[0]? = some g' → g'.is_async = 0 ∧ ∀ env x, foldedSetIterable g'.iter env x = pure x := by simp) (hfold : ∀ env x, foldedSetIterable iter env x = pure x := by intro _ _; rfl) :
    Ev K (.ListComp elt (⟨tgt, iter, ifs, 0⟩ :: gs) scope pos) σ H (.ref H₁.length) (H₁ ++ [.list o]) := by
  intro Z A env s α Q E C hQ
  rw [eval_ListComp]
  refine wpAny_comprehension_free (use := none) (g := ⟨tgt, iter, ifs, 0⟩) (gs := gs) rfl (hfold env) (closureFor_eq ((inn_rel hok).clo C.EI)) (compOk_fr hok).1 (locOk_ok hlo) (hsrc _ E C fun J wr StZ s₁ s₂ α₁ k₁ D => ?_)
  have C₁ := C.step k₁
  refine comp_core (RR := fun acc Cc => compPost (model K.B.prog K.B.w) A E none Q acc Cc) rfl (fun g' e => ha g' (by simpa using e)) hok h00 hb C₁ D hc hz fun Da Cc s' st hC hn hup hα => ?_
  obtain ⟨m, hm⟩ := hn
  exact ⟨m, hm, fun h' hs => hQ _ _ _ (k₁.trans (comp_fin C.O k₁.inv (by simpa using st) hC hup hs)) (.ref (by rw [← C₁.I.hr.len]; simp))⟩
theorem st_assign_comp {x : Str} {xp spos : Pos} (hsrc : Si K tgt iter σ H vs H) (hb : CbR (K.inn scope) elt (⟨tgt, iter, ifs, 0⟩ :: gs) scope pos 0 body) (hc : CmpL (Turn (K.inn scope) tgt ifs body (mask scope σ)) vs o) (hz : o.length ≤ 1048576) (hp : ∀ v ∈ o, Pure v) (hx : K.sc.names.lookup x = some .local)
    (hok : compOk scope K.sc = true) (h00 : scope.names.lookup (".0" : Str) ≠ none) (hlo : locOk scope = true) (ha : ∀ g', gs[0]? = some g' → g'.is_async = 0 ∧ ∀ env x, foldedSetIterable g'.iter env x = pure x := by simp) (hfold : ∀ env x, foldedSetIterable iter env x = pure x := by intro _ _; rfl)
    (hsw : ∀ env, env.scope = K.sc → swapsWith (.ListComp elt (⟨tgt, iter, ifs, 0⟩ :: gs) scope pos) (some (.Name x xp)) spos.line env = pure true) :
    St K (.Assign [.Name x xp] (.ListComp elt (⟨tgt, iter, ifs, 0⟩ :: gs) scope pos) spos) σ H .next ((x, .lst o) :: σ) H := by
  intro Z A env s α Q E C hQ
  show wpAny _ A (exec _ env) Q E s
  rw [exec_Assign_Name_used _ _ _ _ (hsw env C.EI.esc)]
  refine wpAny_bind (wpAny_standAt (wpAny_bind ?_))
  show wpAny _ A (do let _ ← comprehension (.ListComp elt (⟨tgt, iter, ifs, 0⟩ :: gs) scope pos) scope env _ (newList []) false (eval iter env) (some (assign (.Name x xp) env))) _ _ s
  refine wpAny_bind (wpAny_mono (wpAny_comprehension_free (use := some (assign (.Name x xp) env)) (Q := fun _ s' => Q .next s') (g := ⟨tgt, iter, ifs, 0⟩) (gs := gs) rfl (hfold env) (closureFor_eq ((inn_rel hok).clo C.EI)) (compOk_fr hok).1 (locOk_ok hlo)
    (hsrc _ E C.toCx fun J wr StZ s₁ s₂ α₁ k₁ D => ?_)) (fun _ s' hq => wpAny_pure (wpAny_pure hq)) fun _ _ e => e)
  have C₁ := C.step k₁
  refine comp_core (RR := fun acc Cc => compPost (model K.B.prog K.B.w) A E (some (assign (.Name x xp) env)) (fun _ s' => Q .next s') acc Cc) rfl (fun g' e => ha g' (by simpa using e)) hok h00 hb C₁.toCx D hc hz fun Da Cc s' st hC hn hup hα => ?_
  show wpAny _ A (assign (.Name x xp) env (.ref Da)) _ _ _
  have fC : Fresh [Cc] s₁.heap := fun a ha => by rw [List.mem_singleton.mp ha]; exact hC
  have hCL : env.locals ≠ Cc := fun q => by obtain ⟨m, ⟨o, _, _, e, _⟩, _⟩ := C₁.F.loc; rw [q, hC] at e; cases e
  have hCc : ∀ y c, env.cells.lookup y = some c → c ≠ Cc := fun y c hc q => by obtain ⟨_, v, o, e, _⟩ := C₁.F.zC y c hc; rw [q, hC] at e; cases e
  have rl : VR ([Cc] ++ Z) α₁ s'.heap (.lst o) (.ref Da) := fz_lst (H := H ++ [.list o]) (Nat.le_refl _) (by simp) hp C₁.I.hr.len st.inv.hr (.ref (by rw [← C₁.I.hr.len]; simp))
  have st₁ := st.drop C₁.I
  have dis : ∀ a ∈ α₁, a ∉ [Cc] ++ Z := fun a ha hm => (List.mem_append.mp hm).elim (fun hm => by obtain ⟨o, e⟩ := C₁.I.hr.there ha; exact fC.not e hm) (C₁.I.hr.dis a ha)
  have F' : FrI ([Cc] ++ Z) K.B.g.objs.size env α₁ σ s'.heap := (C₁.F.banned fC).stp st₁ dis (fun a ha => List.mem_append_left _ ha) (by simpa using hCL) fun y c e => by simpa using hCc y c e
  refine wpAny_assign_Name (store_ok C.O C.EI C.EI.w st₁.inv F' (.inl hx) rl fun s'' k₄ F₄ _ _ => ?_)
  have hCO : Cc ∉ Ow env := fun hm => by
    rcases ow_cases hm with q | ⟨_, hm⟩
    · exact hCL q.symm
    · obtain ⟨y, hy⟩ := C.EI.w.mem Cc hm; exact hCc y Cc hy rfl
  obtain ⟨m, hm⟩ := hn
  have hm' : s''.heap.Ns Cc m := ns_solid hm fun o e so => k₄.kp _ o e (fun q => (List.mem_append.mp q).elim hCO fun q => hα (List.mem_append_left _ q)) so
  refine ⟨m, hm', fun h' hs => ?_⟩
  have st' : Stp K.B ([Cc] ++ Z) ([Cc] ++ Ow env) α₁ s₁ α₁ H s'' := (st₁.mono (by simp)).trans (k₄.mono fun a ha => List.mem_append_right _ ha)
  have st'' := comp_fin C.O k₁.inv st' hC hup hs
  have x : IE [Cc] s'' { s'' with heap := h' } := IE.same hs
  exact hQ _ _ _ (k₁.wide.trans st'') ((F₄.mono0 x.kp (fun a ha => List.mem_append_left _ (List.mem_append_left _ ha)) (fun q => hCL (List.mem_singleton.mp q)) fun y c e q => hCc y c e (List.mem_singleton.mp q)).freeZ C.F.zL fun y c e => (C.F.zC y c e).1) .next
end
end Tg
namespace Tg
set_option maxHeartbeats 1000000
noncomputable abbrev Kx.gn (K : Kx) (k : Nat) : Kx := ⟨{ K.B with gn := k }, K.n, K.sc⟩
section
variable {B : Bs} {k : Nat} {Z α : List Addr} {H : AH} {s : Shared}
theorem Inv.gn (I : Inv B Z α H s) (h : k ≤ s.gens.size) : Inv { B with gn := k } Z α H s := ⟨I.old, I.keep, ⟨I.gens.1, h⟩, I.os, I.codes, I.hr, I.ban⟩
theorem Inv.ng (I : Inv { B with gn := k } Z α H s) (h : B.gn ≤ s.gens.size) : Inv B Z α H s := ⟨I.old, I.keep, ⟨I.gens.1, h⟩, I.os, I.codes, I.hr, I.ban⟩
theorem Bs.Ok.gn (O : B.Ok) : ({ B with gn := k } : Bs).Ok := ⟨O.ns, O.nb, O.lim, O.size, O.K, O.cd, O.bm, O.tb, O.ti⟩
theorem Cx.gn {K : Kx} {A env σ} (C : Cx K Z A env s α H σ) (h : k ≤ s.gens.size) : Cx (K.gn k) Z A env s α H σ :=
  ⟨C.R, C.O.gn, ⟨C.EI.esc, C.EI.efn, C.EI.gl, C.EI.bi, C.EI.cd, C.EI.w⟩, C.I.gn h, C.F⟩
theorem Inv.regen (I : Inv B Z α H s) {gs : Array GenState} (h : AllBare gs) (hs : s.gens.size ≤ gs.size) : Inv B Z α H { s with gens := gs } := ⟨I.old, I.keep, ⟨h, Nat.le_trans I.gens.2 hs⟩, I.os, I.codes, I.hr, I.ban⟩
theorem Stp.off {W α' α'' : List Addr} {H' H'' : AH} {s₁ s' : Shared} (x : Stp B Z [] α s₁ α' H' s) (y : Stp B Z W α' s α'' H'' s') (hw : Fresh W s₁.heap) : Stp B Z [] α s₁ α'' H'' s' :=
  Stp.own (W := W) (W' := []) (Keeps.refl' s₁) (x.wide.trans (y.mono fun a h => List.mem_append_left _ h)) hw
end
noncomputable def GenT (K : Kx) (tgt elt : Expr) (σ : En) (v y : V) : Prop := ∃ σ₁, At K false tgt v σ σ₁ ∧ Sub σ σ₁ ∧ ∀ k H, Ev (K.gn k) elt σ₁ H y H
noncomputable def GenL (K : Kx) (tgt elt : Expr) (σ : En) : List V → List V → Prop
  | [], ys => ys = []
  | v :: vs, ys => ∃ y ys', GenT K tgt elt σ v y ∧ GenL K tgt elt σ vs ys' ∧ ys = y :: ys'
structure GP (K : Kx) where
  Z₀ : List Addr
  ow : List Addr
  wr : List Addr
  cenv : Env
  tgt : Expr
  elt : Expr
  J : Addr
  St : List Addr → List V → List Addr → Heap → Prop
  α : List Addr
  H : AH
  σ : En
  s₁ : Shared
  L : List V
variable {K : Kx}
noncomputable abbrev GP.Z (p : GP K) : List Addr := p.ow ++ ([p.cenv.locals] ++ (p.wr ++ p.Z₀))
noncomputable abbrev GP.wk (p : GP K) : List Addr := (p.wr ++ [p.cenv.locals]) ++ p.α
structure GI (p : GP K) (ys : List V) (s : Shared) : Prop where
  st : Stp K.B p.Z [] p.α p.s₁ p.α p.H s
  F : FrI p.Z K.B.g.objs.size p.cenv p.α p.σ s.heap
  ex : ∃ vs, p.St p.Z vs p.α s.heap ∧ GenL K p.tgt p.elt p.σ vs ys
structure GOk (p : GP K) : Prop where
  O : K.B.Ok
  EI : EnvI K.B K.sc p.cenv
  fn : p.cenv.func = none
  wk : ∀ Z, Wk K.B Z p.tgt p.J p.wr (p.St Z)
  ban : ∀ zs Z vs α h, Fresh zs h → p.St Z vs α h → p.St (zs ++ Z) vs α h
  wα : ∀ a ∈ p.wr, K.B.g.objs.size ≤ a ∧ a ≠ p.cenv.locals
  cw : ∀ x c, p.cenv.cells.lookup x = some c → c ∉ p.wr
  ow : ∀ a ∈ p.ow, a ∉ p.wr ∧ a ≠ p.cenv.locals ∧ ∀ x c, p.cenv.cells.lookup x = some c → c ≠ a
  fr : Fresh (p.ow ++ (p.wr ++ [p.cenv.locals])) p.s₁.heap
  zw : ∀ a ∈ p.Z₀, a ∉ p.wr
noncomputable def Aft (p : GP K) (s' : Shared) : Prop := Stp K.B p.Z₀ [] p.α p.s₁ p.α p.H s'
noncomputable def GEnd (p : GP K) (s' : Shared) : Prop := ∃ s, GI p [] s ∧ IE p.wr s s'
section
variable {p : GP K} (G₀ : GOk p)
include G₀
omit G₀ in
theorem GI.aft {ys s} (G : GI p ys s) : Aft p s := Stp.less (fun a ha => by simp [ha]) G.st
theorem GOk.hw (a) (ha : a ∈ p.wr) : K.B.g.objs.size ≤ a ∧ a ∈ p.Z := ⟨(G₀.wα a ha).1, by simp [ha]⟩
theorem GOk.own : Ow p.cenv = [p.cenv.locals] := by unfold Ow; rw [G₀.fn]; rfl
theorem GOk.hL : p.cenv.locals ∉ p.wr := fun h => (G₀.wα _ h).2 rfl
omit G₀ in
theorem GI.set {ys s} (G : GI p ys s) {g : Nat} {gs g0 : GenState} (hg : s.gens[g]? = some g0) (hb : gs.bare = true) : GI p ys (s.setGen g gs) :=
  ⟨⟨G.st.ext, G.st.inv.regen ((GenOnlyQ.of (GenOnly.setGen s g gs) (setGen_self hg) hb).bare G.st.inv.gens.1) (by simp [Shared.setGen]), G.st.kp, G.st.th⟩, G.F, G.ex⟩
theorem GEnd.aft {s s' : Shared} (G : GI p [] s) (x : IE p.wr s s') : Aft p s' :=
  Stp.gone (F := p.wr) (W := []) (t := []) (((Stp.less (fun a ha => by simp at ha ⊢; rcases ha with ha | ha <;> simp [ha]) G.st : Stp K.B (p.wr ++ p.Z₀) [] p.α p.s₁ p.α p.H s)).wide) (fun _ _ e => e) (by simp) .nil (fun a ha => G₀.fr a (by simp [ha])) (fun a ha => (G₀.wα a ha).1) G₀.O G₀.zw x
theorem GI.step {ys s s'} {W : List Addr} (G : GI p ys s) (k : Stp K.B p.Z W p.α s p.α p.H s') (hW : ∀ a ∈ W, a ∈ p.ow) : GI p ys s' := by
  have hZ : ∀ a ∈ W, a ∈ p.Z := fun a ha => List.mem_append_left _ (hW a ha)
  obtain ⟨vs, hs, hr⟩ := G.ex
  exact ⟨G.st.off k fun a ha => G₀.fr a (List.mem_append_left _ (hW a ha)),
    G.F.stp k G.st.inv.hr.dis hZ (fun h => (G₀.ow _ (hW _ h)).2.1 rfl) (fun x c e h => (G₀.ow _ (hW _ h)).2.2 x c e rfl),
    vs, (G₀.wk _).mono _ _ p.H _ _ _ _ _ hs G.st.inv.hr.dis k hZ (fun a ha => ⟨(G₀.hw a ha).2, fun h => (G₀.ow a (hW a h)).1 ha⟩), hr⟩
end
theorem compTurn_gen1 (elt target iter : Expr) (scope : Scope) (pos : Pos) (it acc : Value) (env : Env) :
    compTurn (.GeneratorExp elt [⟨target, iter, [], 0⟩] scope pos) 0 it acc env = (do
      standAt iter.pos
      match ← pyNext it with
      | none => pure (.done .next)
      | some v => do
        letOwnedTupleGo target it v
        assign target env v
        (do let v ← eval elt env; standAt elt.pos; let _ ← yieldOut env v)
        again (.compLoop (.GeneratorExp elt [⟨target, iter, [], 0⟩] scope pos) 0 it acc env)) := by rw [compTurn_gen]; rfl
noncomputable def GP.R (p : GP K) : GenEnd := fun n s₀ r s₁ => r = .ok .next ∧ (n = 0 ∧ GEnd p s₁ ∧ Kp p.wk s₀.heap s₁.heap)
noncomputable def GP.Y (p : GP K) : Protocol := fun m s₀ v s kap => ∃ y ys, m = ys.length ∧ (y :: ys) <:+ p.L ∧ (s₀.gens.size ≤ s.gens.size ∧ Kp p.wk s₀.heap s.heap) ∧ VR p.Z p.α s.heap y v ∧ GI p ys s ∧ ∀ s'', GI p ys s'' → kap (.send .none) s''
section
variable {p : GP K} (G₀ : GOk p)
include G₀
theorem GI.turn {A : Around} {y : V} {ys s} (R : Rm K.n A) (G : GI p (y :: ys) s) (Q : Value → Shared → Prop) (E : Value → Shared → Prop)
    (h : ∀ w s', VR p.Z p.α s'.heap y w → GI p ys s' → s.gens.size ≤ s'.gens.size → Kp p.wk s.heap s'.heap → Q w s') :
    wpAny (model K.B.prog K.B.w) A (pyNext (.ref p.J)) (fun r s₁ => ∃ w, r = some w ∧ wpAny (model K.B.prog K.B.w) A (letOwnedTupleGo p.tgt (.ref p.J) w) (fun _ s₂ =>
      wpAny (model K.B.prog K.B.w) A (assign p.tgt p.cenv w) (fun _ s₃ => wpAny (model K.B.prog K.B.w) A (eval p.elt p.cenv) Q E s₃) E s₂) E s₁) E s := by
  obtain ⟨vs, hs, hr⟩ := G.ex
  cases vs with
  | nil => cases hr
  | cons v vs =>
    obtain ⟨y', ys', ⟨σ₁, hat, hsub, hev⟩, hr, he⟩ := hr
    obtain ⟨rfl, rfl⟩ := List.cons.inj he
    refine (G₀.wk _).nx A s _ _ v vs (fun w s₂ => wpAny _ A (assign p.tgt p.cenv w) _ _ s₂) _ R.h G.st.inv G₀.hw hs fun w s₂ k₂ hs₂ r₂ => ?_
    have I₂ := G.st.inv.is G₀.O k₂ G₀.hw
    have F₂ := G.F.mono0 k₂.kp (fun a ha => List.mem_append_left _ (G₀.hw a ha).2) G₀.hL G₀.cw
    have C₂ : Cx K p.Z A p.cenv s₂ p.α p.H p.σ := ⟨R, G₀.O, G₀.EI, I₂, F₂⟩
    refine hat _ _ C₂ (by intro h; cases h) r₂ fun s₃ k₃ F₃ gn₃ => ?_
    refine hev s₃.gens.size _ _ _ ((C₂.at k₃ F₃).gn (Nat.le_refl _)) fun w₄ s₄ α₄ k₄ r₄ => ?_
    cases Stp.same k₄ (k₃.inv.gn (Nat.le_refl _)) rfl
    have k₄' : Stp K.B p.Z [] p.α s₃ p.α p.H s₄ := ⟨k₄.ext, k₄.inv.ng (Nat.le_trans k₃.inv.gens.2 k₄.inv.gens.2), k₄.kp, k₄.th⟩
    have k₃₄ := k₃.trans k₄'.wide
    rw [G₀.own] at k₃₄ k₃
    have hz : ∀ a ∈ [p.cenv.locals], a ∈ p.Z := fun a ha => by simp at ha; simp [ha]
    have hgs : s₂.gens = s.gens := by obtain ⟨⟨_, _, rfl⟩, _⟩ := k₂; rfl
    refine h w₄ s₄ r₄ ⟨Stp.off (W := p.wr ++ [p.cenv.locals]) G.st (Stp.trans ⟨⟨[], by simp, .nil⟩, I₂, k₂.kp.mono fun a h => List.mem_append_left _ (List.mem_append_left _ h), k₂.2.2⟩ (k₃₄.mono fun a h => List.mem_append_right _ h)) (fun a ha => G₀.fr a (List.mem_append_right _ ha)),
      (F₃.sub hsub).stp0 k₄' k₃.inv, vs, (G₀.wk _).mono _ _ p.H _ _ _ _ _ hs₂ I₂.hr.dis k₃₄ hz (fun a ha => ⟨(G₀.hw a ha).2, fun hm => (G₀.wα a ha).2 (List.mem_singleton.mp hm)⟩), hr⟩ (by rw [← hgs, ← gn₃]; exact k₄.inv.gens.2) ?_
    exact (k₂.kp.mono fun a h => by simp [h]).trans0 ((k₃₄.kp.mono fun a h => by simp at h ⊢; rcases h with h | h <;> simp [h]))
theorem seg_loop {iter : Expr} {scope : Scope} {pos : Pos} {A : Around} (R : Rm K.n (A.over (.compLoop (.GeneratorExp p.elt [⟨p.tgt, iter, [], 0⟩] scope pos) 0 (.ref p.J) .none p.cenv) [])) (hco : p.cenv.scope.isCoroutine = false) :
    ∀ (ys : List V) (s₀ s : Shared), GI p ys s → (s₀.gens.size ≤ s.gens.size ∧ Kp p.wk s₀.heap s.heap) → ys <:+ p.L →
      Seg (model K.B.prog K.B.w) A p.R p.Y ys.length s₀ (.compLoop (.GeneratorExp p.elt [⟨p.tgt, iter, [], 0⟩] scope pos) 0 (.ref p.J) .none p.cenv)
        ((model K.B.prog K.B.w).den (.compLoop (.GeneratorExp p.elt [⟨p.tgt, iter, [], 0⟩] scope pos) 0 (.ref p.J) .none p.cenv)) [] s := by
  intro ys
  induction ys with
  | nil =>
    intro s₀ s G gn suf
    obtain ⟨vs, hst, hr⟩ := id G.ex
    cases vs with
    | cons v vs => obtain ⟨_, _, _, _, h⟩ := hr; cases h
    | nil =>
      show Seg _ A _ _ _ s₀ _ ((compTurn (.GeneratorExp p.elt [⟨p.tgt, iter, [], 0⟩] scope pos) 0 (.ref p.J) .none p.cenv).onRaise (leaving p.cenv)) [] s
      rw [compTurn_gen1, Sem.onRaise_eq_wrap]
      refine seg_bind_wrap (wpAny_standAt ?_)
      refine seg_bind_wrap (wpAny_mono ((G₀.wk _).dn _ s _ _ (fun s₁ => Seg _ A _ _ _ s₀ _ _ [] s₁) _ R.h G.st.inv G₀.hw hst fun s₁ k₁ => ?_) (fun r s₁ hr => by obtain ⟨rfl, hr⟩ := hr; exact hr) fun _ _ e => e)
      exact seg_end (.ok .next) ⟨rfl, rfl, ⟨s, G, k₁⟩, gn.2.trans0 (k₁.kp.mono fun a h => List.mem_append_left _ (List.mem_append_left _ h))⟩
  | cons y ys ih =>
    intro s₀ s G gn suf
    show Seg _ A _ _ _ s₀ _ ((compTurn (.GeneratorExp p.elt [⟨p.tgt, iter, [], 0⟩] scope pos) 0 (.ref p.J) .none p.cenv).onRaise (leaving p.cenv)) [] s
    rw [compTurn_gen1, Sem.onRaise_eq_wrap]
    refine seg_bind_wrap (wpAny_standAt ?_)
    refine seg_bind_wrap (wpAny_mono (G.turn G₀ R _ _ fun w₄ s₄ r₄ G' gs kp => ?_) (fun r s₁ hr => by
      obtain ⟨w, rfl, hr⟩ := hr
      have hy : ∀ v, yieldOut p.cenv v = yieldValue v := fun v => by simp only [yieldOut, hco, Bool.false_eq_true, if_false]
      simp only [hy]
      refine seg_bind_wrap (wpAny_mono hr (fun _ s₂ hr => seg_bind_wrap (wpAny_mono hr (fun _ s₃ hr => ?_) fun _ _ e => e)) fun _ _ e => e)
      rw [Sem.bind_eq_wrap', Sem.bind_eq_wrap', Sem.wrap_wrap, Sem.wrap_wrap]
      exact seg_wrap hr) fun _ _ e => e)
    refine seg_at (seg_yield rfl rfl rfl ⟨y, ys, rfl, suf, ⟨Nat.le_trans gn.1 gs, gn.2.trans0 kp⟩, r₄, G', fun s'' G'' => ?_⟩)
    exact seg_again rfl (ih s'' s'' G'' ⟨Nat.le_refl _, .refl⟩ ((List.suffix_cons _ _).trans suf))
theorem seg_start {iter : Expr} {scope : Scope} {pos : Pos} {A : Around} (R : Rm K.n (A.over (.compLoop (.GeneratorExp p.elt [⟨p.tgt, iter, [], 0⟩] scope pos) 0 (.ref p.J) .none p.cenv) [])) (hco : p.cenv.scope.isCoroutine = false) (ys : List V) (s : Shared) (G : GI p ys s) (suf : ys <:+ p.L) :
      Seg (model K.B.prog K.B.w) A p.R p.Y ys.length s (.compStart (.GeneratorExp p.elt [⟨p.tgt, iter, [], 0⟩] scope pos) 0 (.ref p.J) .none p.cenv)
        ((model K.B.prog K.B.w).den (.compStart (.GeneratorExp p.elt [⟨p.tgt, iter, [], 0⟩] scope pos) 0 (.ref p.J) .none p.cenv)) [] s := by
  have loop := seg_loop G₀ (iter := iter) (scope := scope) (pos := pos) R hco ys s s G ⟨Nat.le_refl _, .refl⟩ suf
  obtain ⟨vs, hst, hr⟩ := id G.ex
  show Seg _ A _ _ _ s _ ((compStart (.GeneratorExp p.elt [⟨p.tgt, iter, [], 0⟩] scope pos) 0 (.ref p.J) .none p.cenv).onRaise (leaving p.cenv)) [] s
  unfold compStart
  rw [Sem.onRaise_eq_wrap]
  show Seg _ A _ _ _ s _ ((ask >>= _).wrap _ _ _ _) [] s
  refine seg_bind_wrap (wpAny_askSetting ?_)
  split
  · exact seg_again rfl loop
  · refine seg_bind_wrap (wpAny_rule ?_)
    show Seg _ A _ _ _ s _ ((standAt iter.pos >>= _).wrap _ _ _ _) [] s
    exact seg_bind_wrap (wpAny_standAt (seg_bind_wrap ((G₀.wk _).self _ s _ _ _ _ hst (seg_again rfl loop))))
end
end Tg
namespace Tg
set_option maxHeartbeats 1000000
section
variable {B : Bs}
theorem Stp.code {Z α : List Addr} {H : AH} {s : Shared} {c P : Addr} {ps more : Array Value} {h' : Heap} {tk : Nat} (I : Inv B Z α H s) (O : B.Ok) (hp : (c, P) ∈ B.codes) (ht : s.heap.TableAt c P ps) (hx : Heap.ExtBut P s.heap h')
    (hc' : h'.IsCode c P (ps ++ more)) (ht' : h'.TableAt c P (ps ++ more)) : Stp B Z [] α s α H { s with heap := h', toks := tk } := by
  obtain ⟨⟨ps₀, ht₀⟩, hst, hg⟩ := O.tb _ hp
  have kp : ∀ W, Kp W s.heap h' := fun W b o e _ so => by
    refine hx b o (fun q => ?_) e
    subst q
    rw [ht.2] at e; cases e
    rcases so with so | so
    · exact so _ rfl
    · exact so rfl
  have th : There s.heap h' := fun b o e => by
    by_cases q : b = P
    · exact ⟨_, q ▸ ht'.2⟩
    · exact ⟨o, hx b o q e⟩
  refine ⟨⟨[], by simp, .nil⟩, ⟨I.old.step_table ht₀ ht ht' hx hst, fun b o e => hx b o (fun q => by rw [q] at e; rw [hg] at e; cases e) (I.keep b o e), I.gens, I.os, fun q hq => ?_, I.hr.keep (kp []) (fun _ h => nomatch h), fun a ha => let ⟨o, e⟩ := I.ban a ha; th a o e⟩, by simpa using kp α, th⟩
  by_cases e : q.2 = P
  · have := O.ti _ hq _ hp e
    subst this
    exact ⟨_, hc', ht'⟩
  · obtain ⟨ps', z⟩ := I.codes q hq
    have hq1 : q.1 ≠ P := fun e1 => by
      obtain ⟨_, ⟨o, vs, e2, c2, _⟩, _⟩ := z
      rw [e1, ht.2] at e2; cases e2; cases c2
    exact ⟨ps', code_of z (fun _ => hx _ _ hq1) fun _ => hx _ _ e⟩
theorem genexprCode_wp {env : Env} {Z α : List Addr} {H : AH} {s : Shared} {A : Around} {pos : Pos} {q : Str} {scope : Scope} {Q : Value → Shared → Prop} {E : Value → Shared → Prop} (I : Inv B Z α H s) (O : B.Ok) (hc : CdOk B env.code)
    (hQ : ∀ v s', Stp B Z [] α s α H s' → Q v s') : wpAny (model B.prog B.w) A (genexprCode env pos q scope) Q E s := by
  obtain ⟨c, P, hv, hp⟩ := hc
  obtain ⟨ps, x, y⟩ := I.codes _ hp
  cases hnf : codeAmong pos ps.toList with
  | some cv => exact wpAny_genexprCode_hit hv x hnf (hQ _ _ (.refl I))
  | none => exact wpAny_genexprCodeX hv x y hnf fun c' h' tk hx _ _ hc' _ ht' _ => hQ _ _ (Stp.code I O hp y hx hc' ht')
end
variable {K : Kx}
structure Gn (p : GP K) (A : Around) (a : Addr) (gi : Nat) (ys : List V) (s : Shared) : Prop where
  ok : GOk p
  G : GI p ys s
  suf : ys <:+ p.L
  isg : s.heap.IsGen a gi
  an : a ∉ p.wk ∧ a ∉ p.ow
  go : ∃ gs, s.gens[gi]? = some gs ∧ ∀ s'', GI p ys s'' → gs.Goes (model K.B.prog K.B.w) A.in1 p.R p.Y ys.length (.send .none) s''
theorem isGen_solid {h h' : Heap} {a gi} (x : h.IsGen a gi) (k : ∀ o, h.get? a = some o → Solid o → h'.get? a = some o) : h'.IsGen a gi := by
  obtain ⟨o, nm, qn, e, c, d⟩ := x
  exact ⟨o, nm, qn, k _ e (solid_type c), c, d⟩
theorem suf_eq {x y : V} {l l' L : List V} (h1 : x :: l <:+ L) (h2 : y :: l' <:+ L) (h : l.length = l'.length) : x = y ∧ l = l' := by
  have := (List.suffix_of_suffix_length_le h1 h2 (by simp [h])).eq_of_length (by simp [h])
  cases this; exact ⟨rfl, rfl⟩
section
variable {p : GP K} {A : Around} {a : Addr} {gi : Nat} {ys : List V} {s : Shared} {Q : Option Value → Shared → Prop} {E : Value → Shared → Prop}
theorem Gn.nx {y : V} (N : Gn p A a gi (y :: ys) s) (hh : A.handled = none) (hd : A.depth < recursionLimit) (hQ : ∀ w s', VR p.Z p.α s'.heap y w → Gn p A a gi ys s' → Kp p.wk s.heap s'.heap → Q (some w) s') :
    wpAny (model K.B.prog K.B.w) A (pyNext (.ref a)) Q E s := by
  obtain ⟨gs, hgs, hgo⟩ := N.go
  refine wpAny_pyNext_genexpQ (n := (y :: ys).length) (P := fun n s₀ s₁ => n = 0 ∧ GEnd p s₁ ∧ Kp p.wk s₀.heap s₁.heap) (Y := p.Y) hh (N.G.st.inv.lim N.ok.O) hd N.isg hgs (hgo _ (N.G.set hgs rfl)) (fun v s₁ gs' hb hv => ?_) (fun s₁ hp h' hk => absurd hp.1 (Nat.succ_ne_zero _))
  obtain ⟨y', ys', hm, suf, gn, r, G', kap⟩ := hv
  obtain ⟨rfl, rfl⟩ := suf_eq N.suf suf (by simpa using hm)
  have hlt : gi < s₁.gens.size := Nat.lt_of_lt_of_le (by
    rcases Nat.lt_or_ge gi s.gens.size with h | h
    · simpa [Shared.setGen] using h
    · rw [Array.getElem?_eq_none h] at hgs; cases hgs) gn.1
  have h1 := Array.getElem?_eq_getElem hlt
  exact hQ v _ r ⟨N.ok, G'.set h1 hb, (List.suffix_cons _ _).trans N.suf, isGen_solid N.isg fun o e so => gn.2 _ _ e N.an.1 so, N.an, gs', setGen_self h1, fun s'' G'' => kap s'' G''⟩ gn.2
theorem Gn.dn (N : Gn p A a gi [] s) (hh : A.handled = none) (hd : A.depth < recursionLimit) (hQ : ∀ s', Aft p s' → Kp p.wk s.heap s'.heap → Q none s') :
    wpAny (model K.B.prog K.B.w) A (pyNext (.ref a)) Q E s := by
  obtain ⟨gs, hgs, hgo⟩ := N.go
  refine wpAny_pyNext_genexpQ (n := 0) (P := fun n s₀ s₁ => n = 0 ∧ GEnd p s₁ ∧ Kp p.wk s₀.heap s₁.heap) (Y := p.Y) hh (N.G.st.inv.lim N.ok.O) hd N.isg hgs (hgo _ (N.G.set hgs rfl)) (fun v s₁ gs' hb hv => ?_) (fun s₁ hp h' hk => ?_)
  · obtain ⟨y', ys', hm, suf, gn, r, G', kap⟩ := hv
    exact (kap _ G').elim
  · obtain ⟨_, ⟨s₂, G₂, x₂⟩, kp₂⟩ := hp
    have a1 := GEnd.aft N.ok G₂ x₂
    have bare : AllBare (s₁.setGen gi .finished).gens := fun y hy => by
      rcases Array.mem_or_eq_of_mem_setIfInBounds hy with hy | rfl
      · exact a1.inv.gens.1 y hy
      · rfl
    have a2 : Stp K.B p.Z₀ [] p.α s₁ p.α p.H { s₁ with heap := h' } := .of_keeps a1.inv ⟨h', s₁.toks, rfl, hk⟩
    have a3 : Aft p { s₁ with heap := h' } := Stp.trans a1 a2
    exact hQ _ ⟨a3.ext, a3.inv.regen bare (by simp [Shared.setGen]), a3.kp, a3.th⟩ (kp₂.trans0 (.of_keeps hk))
theorem Gn.step {s' : Shared} {W : List Addr} (N : Gn p A a gi ys s) (k : Stp K.B p.Z W p.α s p.α p.H s') (hW : ∀ a ∈ W, a ∈ p.ow) (hg : s'.gens = s.gens) : Gn p A a gi ys s' := by
  obtain ⟨gs, hgs, hgo⟩ := N.go
  exact ⟨N.ok, N.G.step N.ok k hW, N.suf, isGen_solid N.isg fun o e so => k.kp _ _ e (fun hm => (List.mem_append.mp hm).elim (fun hm => N.an.2 (hW _ hm)) fun hm => N.an.1 (List.mem_append_right _ hm)) so, N.an, gs, hg ▸ hgs, hgo⟩
noncomputable abbrev GP.by (p : GP K) (zs : List Addr) : GP K := { p with ow := zs }
theorem GOk.by {zs : List Addr} {s' : Shared} (G₀ : GOk p) (h : p.ow = []) (G : GI p ys s) (f : Fresh zs s.heap) (k : Keeps s s') (th : ∀ a ∈ zs, ∃ o, s'.heap.get? a = some o) : GOk (p.by zs) ∧ GI (p.by zs) ys s' := by
  obtain ⟨Z₀, ow, wr, cenv, tgt, elt, J, St, α, H, σ, s₁, L⟩ := p
  cases h
  have nz : ∀ a ∈ zs, a ∉ [cenv.locals] ++ (wr ++ Z₀) := fun a ha hm => by obtain ⟨o, e⟩ := G.st.inv.ban a hm; rw [f a ha] at e; cases e
  have I' := G.st.inv.banned f k th
  obtain ⟨vs, hs, hr⟩ := G.ex
  have k₁ : Stp K.B (zs ++ ([cenv.locals] ++ (wr ++ Z₀))) [] α s α H s' := ⟨⟨[], by simp, .nil⟩, I', keeps_kp k _, by obtain ⟨_, _, rfl, q⟩ := k; exact .of_keeps q⟩
  have dis : ∀ a ∈ α, a ∉ zs ++ ([cenv.locals] ++ (wr ++ Z₀)) := I'.hr.dis
  refine ⟨⟨G₀.O, G₀.EI, G₀.fn, G₀.wk, G₀.ban, G₀.wα, G₀.cw, fun a ha => ⟨fun hm => nz a ha (by simp [hm]), fun q => nz a ha (by simp [q]), fun x c e q => nz a ha (q ▸ (G.F.zC x c e).1)⟩, fun a ha => ?_, G₀.zw⟩,
    ⟨?_, (G.F.banned f).keeps k, vs, (G₀.wk _).mono _ _ H _ H _ s _ (G₀.ban _ _ _ _ _ f hs) dis k₁ (fun _ h => nomatch h) (fun a ha => ⟨by simp [ha], by simp⟩), hr⟩⟩
  · rcases List.mem_append.mp ha with ha | ha
    · cases e : s₁.heap.get? a with
      | none => rfl
      | some o => obtain ⟨o', e'⟩ := G.st.th a o e; rw [f a ha] at e'; cases e'
    · exact G₀.fr a (List.mem_append_right _ ha)
  · exact ⟨⟨[], by simp, .nil⟩, I', G.st.kp.trans0 (keeps_kp k _), G.st.th.trans k₁.th⟩
end
end Tg
namespace Tg
set_option maxHeartbeats 1000000
noncomputable abbrev up4 (A : Around) : Around := A.in1.in1.in1.in1
noncomputable def Gx (K : Kx) (e : Expr) (σ : En) (H : AH) (ys : List V) (H₁ : AH) : Prop := ∀ ⦃Z A env s α⦄ (Q : Value → Shared → Prop) (E : Value → Shared → Prop), Cx K Z A env s α H σ →
  (∀ m sc' (p : GP ⟨K.B, m, sc'⟩) a gi s₅, p.Z₀ = Z → (∀ zs s', Aft (p.by zs) s' → Stp K.B Z [] α s p.α H₁ s') →
    (∀ zs s', Fresh zs s₅.heap → Keeps s₅ s' → (∀ a ∈ zs, ∃ o, s'.heap.get? a = some o) → Gn (p.by zs) (up4 A) a gi ys s') → Q (.ref a) s₅) →
  wpAny (model K.B.prog K.B.w) A (eval e env) Q E s
theorem gx_mk {K : Kx} {m : Nat} {tgt elt iter : Expr} {scope : Scope} {pos : Pos} {σ : En} {H H₁ : AH} {vs ys : List V} (hsrc : Si K tgt iter σ H vs H₁) (hg : GenL ⟨K.B, m, scope⟩ tgt elt (mask scope σ) vs ys) (hm : m < K.n) (hok : compOk scope K.sc = true) (hco : scope.isCoroutine = false)
    (h00 : scope.names.lookup (".0" : Str) = some .local) (h0s : K.sc.names.lookup (".0" : Str) = none) (hfold : ∀ env x, genFold iter env x = pure x := by intro _ _; rfl) : Gx K (.GeneratorExp elt [⟨tgt, iter, [], 0⟩] scope pos) σ H ys H₁ := by
  intro Z A env s α Q E C h
  obtain ⟨hkd, hfr, hce⟩ := compOk_fr hok
  have X : Inn K.sc scope scope := inn_same hok
  refine wpAny_GeneratorExp_make hco (closureFor_eq (X.clo C.EI)) hce h00 hkd (by have := C.R.d; omega) (hsrc _ E C fun J wr StZ s₁ s₂ α₁ k₁ D => ?_) (hfold env)
  have C₁ := C.step k₁
  have j := D.jv C₁
  refine ⟨j.cx.I.lim C.O, genexprCode_wp j.cx.I C.O (C.EI.cd h0s) fun code s₃ k₃ => ?_⟩
  have C₃ := j.cx.step k₃
  obtain ⟨bm, ob, BM⟩ := C.O.bm
  have BM₃ := BM.keeps C₃.I.keep
  rw [C.EI.gl]
  refine wpAny_builtinsFor BM₃.ns BM₃.name BM₃.ne BM₃.obj BM₃.cls BM₃.dict BM₃.data ?_
  intro h' hns hsb
  have hsz : h'.objs.size = s₃.heap.objs.size + 1 := by rw [hsb.1, Heap.size_push]
  have keep' : ∀ b o, s₃.heap.get? b = some o → h'.get? b = some o := fun b o e => hsb.extBut b o (Nat.ne_of_lt (Heap.lt_size e)) (Heap.get?_push_of_some _ e)
  have hs₃ : StZ (wr ++ Z) vs α₁ s₃.heap := (D.wk _).mono _ _ H₁ _ _ _ _ _ D.st j.cx.I.hr.dis k₃ (fun _ h => nomatch h) (fun a ha => ⟨List.mem_append_left _ ha, by simp⟩)
  have C0 : ∀ b o, s₃.heap.get? b = some o → b ≠ s₃.heap.objs.size := fun b o e => Nat.ne_of_lt (Heap.lt_size e)
  generalize hgo : ({ cls := .type "generator", data := .fields #[.int s₃.gens.size 0, .str "<genexpr>" (s₃.toks + 1), .str (env.qual ++ "<genexpr>") (s₃.toks + 1 + 1)] } : Obj) = go
  have keep₅ : ∀ b o, s₃.heap.get? b = some o → (h'.push go).get? b = some o := fun b o e => Heap.get?_push_of_some _ (keep' b o e)
  have kk₅ : Keeps s₃ { s₃ with toks := s₃.toks + 1 + 1 + 1, heap := h'.push go } := ⟨_, _, rfl, keep₅⟩
  generalize hgs : (GenState.fresh (.compStart (.GeneratorExp elt [⟨tgt, iter, [], 0⟩] scope pos) 0 (.ref J) .none (genEnv scope (clGo env scope.names []) s₃.heap.objs.size code builtinsNs env))) = gst
  have bare₅ : AllBare (s₃.gens.push gst) := fun y hy => by
    rcases Array.mem_push.mp hy with hy | rfl
    · exact k₃.inv.gens.1 y hy
    · rw [← hgs]; rfl
  generalize hcenv : genEnv scope (clGo env scope.names []) s₃.heap.objs.size code builtinsNs env = cenv at hgs
  have c1 : cenv.scope = scope := by rw [← hcenv]; rfl
  have c2 : cenv.cells = clGo env scope.names [] := by rw [← hcenv]; rfl
  have c3 : cenv.locals = s₃.heap.objs.size := by rw [← hcenv]; rfl
  have c4 : cenv.func = none := by rw [← hcenv]; rfl
  have c5 : cenv.globals = mainGlobals := by rw [← hcenv]; exact C.EI.gl
  have c6 : cenv.builtins = builtinsNs := by rw [← hcenv]; rfl
  have hne : ∀ x c, env.cells.lookup x = some c → c ≠ cenv.locals := fun x c hc => by
    obtain ⟨_, v, o, e, _⟩ := C₃.F.zC x c hc
    rw [c3]; exact C0 _ _ e
  have W' : EnvW K.B.g.objs.size cenv := X.envW C.EI c1 c2 hne
  have EI' : EnvI K.B scope cenv := ⟨c1, hkd, c5, c6, fun q => absurd (h00.symm.trans q) (by simp), W'⟩
  have fC : Fresh [cenv.locals] s₃.heap := fun a ha => by rw [List.mem_singleton.mp ha, c3]; exact none_new' (Nat.le_refl _)
  have hnsC : (h'.push go).Ns cenv.locals _ := c3 ▸ hns.push _
  have thC : ∀ a ∈ [cenv.locals], ∃ o, (h'.push go).get? a = some o := fun a ha => by rw [List.mem_singleton.mp ha]; obtain ⟨o, _, _, e, _⟩ := hnsC; exact ⟨o, e⟩
  have I₅ : Inv K.B ([cenv.locals] ++ (wr ++ Z)) α₁ H₁ { s₃ with gens := s₃.gens.push gst, toks := s₃.toks + 1 + 1 + 1, heap := h'.push go } := (C₃.I.banned fC kk₅ thC).regen bare₅ (by simp)
  have F₅ : FrI ([cenv.locals] ++ (wr ++ Z)) K.B.g.objs.size cenv α₁ (mask scope σ) (h'.push go) := X.frI C.EI c1 c2 ((C₃.F.banned fC).keeps kk₅) hnsC (by simp) (by rw [c3]; exact C₃.size)
  have hs₅ : StZ ([cenv.locals] ++ (wr ++ Z)) vs α₁ (h'.push go) := (D.wk _).mono _ _ H₁ _ H₁ [] s₃ { s₃ with gens := s₃.gens.push gst, toks := s₃.toks + 1 + 1 + 1, heap := h'.push go } (D.ban _ _ _ _ _ fC hs₃) I₅.hr.dis ⟨⟨[], by simp, .nil⟩, I₅, keeps_kp kk₅ _, .of_keeps keep₅⟩ (fun _ h => nomatch h) (fun a ha => ⟨by simp [ha], by simp⟩)
  have wr3 : ∀ a ∈ wr, ∃ o, s₃.heap.get? a = some o := fun a ha => let ⟨o, e⟩ := (D.wr a ha).2.2; k₃.th a o e
  have kp₃ : Kp ([] ++ α₁) s₁.heap s₃.heap := (keeps_kp D.kk _).trans0 k₃.kp
  have th₃ : There s₁.heap s₃.heap := There.trans (by obtain ⟨_, _, rfl, q⟩ := D.kk; exact .of_keeps q) k₃.th
  let p : GP ⟨K.B, m, scope⟩ := ⟨Z, [], wr, cenv, tgt, elt, J, StZ, α₁, H₁, mask scope σ, s₁, ys⟩
  have G₀ : GOk p := ⟨C.O, EI', c4, D.wk, D.ban, fun a ha => ⟨(D.wr a ha).1, by rw [c3]; obtain ⟨o, e⟩ := wr3 a ha; exact C0 _ _ e⟩, fun x c hc hm => D.off C₁.I (C₁.F.zC x c (X.look C.EI (c2 ▸ hc))).1 hm, (fun _ h => nomatch h), (fun a ha => by
    rcases List.mem_append.mp ha with ha | ha
    · cases ha
    · rcases List.mem_append.mp ha with ha | ha
      · exact D.fz a ha
      · cases e : s₁.heap.get? a with
        | none => rfl
        | some o => obtain ⟨o', e'⟩ := th₃ a o e; rw [fC a ha] at e'; cases e'), fun a ha => D.off C₁.I ha⟩
  have G : GI p ys { s₃ with gens := s₃.gens.push gst, toks := s₃.toks + 1 + 1 + 1, heap := h'.push go } := ⟨⟨⟨[], by simp [p], .nil⟩, I₅, kp₃.trans0 (keeps_kp kk₅ _), th₃.trans (.of_keeps keep₅)⟩, F₅, vs, hs₅, hg⟩
  have isg5 : (h'.push go).IsGen h'.objs.size s₃.gens.size := by rw [← hgo]; exact ⟨_, _, _, Heap.get?_push_size _ rfl, rfl, rfl, rfl⟩
  have lt : ∀ b o, s₃.heap.get? b = some o → b ≠ h'.objs.size := fun b o e => Nat.ne_of_lt (by rw [hsz]; exact Nat.lt_succ_of_lt (Heap.lt_size e))
  refine h m scope p h'.objs.size s₃.gens.size _ rfl (fun _ _ af => k₁.trans af) fun zs s' fz k' th' => ?_
  obtain ⟨G₁, G'⟩ := GOk.by G₀ rfl G fz k' th'
  obtain ⟨h₆, t₆, rfl, q₆⟩ := id k'
  refine ⟨G₁, G', List.suffix_rfl, isg5.keeps q₆, ⟨fun hm => ?_, fun hm => by obtain ⟨o, _, _, e, _⟩ := isg5; exact fz.not e hm⟩, gst, Array.getElem?_push_size .., fun s'' G'' => ?_⟩
  · rcases List.mem_append.mp hm with hm | hm
    · rcases List.mem_append.mp hm with hm | hm
      · obtain ⟨o, e⟩ := wr3 _ hm; exact lt _ _ e rfl
      · have : h'.objs.size = cenv.locals := List.mem_singleton.mp hm
        rw [c3, hsz] at this; exact Nat.succ_ne_self _ this
    · obtain ⟨o, e⟩ := k₃.inv.hr.there hm; exact lt _ _ e rfl
  · rw [← hgs]
    exact ⟨rfl, seg_start G₁ (A := (up4 A).in1) ⟨C.R.h, by have := C.R.d; show A.depth + 0 + 1 + 8 * m + 8 < _; omega, by have := C.R.u; show A.units + 1 + 1 + 1 + 1 + 1 + 0 + 3 + 100 * m + 100 < _; omega⟩ (by show cenv.scope.isCoroutine = false; rw [c1]; exact hco) ys s'' G'' List.suffix_rfl⟩
end Tg
namespace Tg
set_option maxHeartbeats 1000000
noncomputable def Low (B : Bs) (A4 A : Around) (a : Addr) : Prop := ∀ (Q : Option Value → Shared → Prop) (E : Value → Shared → Prop) (s : Shared), wpAny (model B.prog B.w) A4 (pyNext (.ref a)) Q E s → wpAny (model B.prog B.w) A (pyNext (.ref a)) Q E s
theorem low1 {B : Bs} {A : Around} {a : Addr} : Low B (up4 A) A.in1 a := fun Q E s h => wpAny_of_in1 (wpAny_of_in1 (wpAny_of_in1 h))
theorem low3 {B : Bs} {A : Around} {a : Addr} : Low B (up4 A) A.in1.in1.in1 a := fun Q E s h => wpAny_of_in1 h
noncomputable def Fit (i : Int) : Prop := -(2 ^ 63) ≤ i ∧ i < 2 ^ 63
noncomputable def SumOk : Int → List Int → Prop
  | _, [] => True
  | acc, v :: l => (Fit v ∧ Fit (acc + v)) ∧ SumOk (acc + v) l
section
variable {K : Kx} {p : GP K} {A A4 : Around} {a S : Addr} {gi : Nat} {ys : List V} {s : Shared} {R : Result → Shared → Prop}
theorem Gn.off (N : Gn p A a gi ys s) (hS : S ∈ p.ow) : S ∉ p.wk := fun hm => by
  obtain ⟨h1, h2, _⟩ := N.ok.ow S hS
  rcases List.mem_append.mp hm with hm | hm
  · exact (List.mem_append.mp hm).elim h1 fun hm => h2 (List.mem_singleton.mp hm)
  · exact N.G.st.inv.hr.dis S hm (List.mem_append_left _ hS)
theorem Gn.put (N : Gn p A a gi ys s) (hS : S ∈ p.ow) (hup : K.B.g.objs.size ≤ S) {h' : Heap} {tk : Nat} {o' : Obj} (hs : Heap.SameBut S s.heap h') (e' : h'.get? S = some o') : Gn p A a gi ys { s with heap := h', toks := tk } := by
  have x : IS [S] s { s with heap := h', toks := tk } := ⟨⟨h', tk, rfl⟩, fun b o hb e => (hs.2 b fun q => hb (List.mem_singleton.mpr q)).trans e, fun b o e => by
    by_cases q : b = S
    · exact ⟨o', q ▸ e'⟩
    · exact ⟨o, (hs.2 b q).trans e⟩⟩
  have hz : ∀ a ∈ [S], a ∈ p.ow := fun a ha => by rw [List.mem_singleton.mp ha]; exact hS
  exact N.step (W := [S]) ⟨⟨[], by simp, .nil⟩, N.G.st.inv.is N.ok.O x fun a ha => ⟨by rw [List.mem_singleton.mp ha]; exact hup, List.mem_append_left _ (hz a ha)⟩, x.kp.mono fun a h => List.mem_append_left _ h, x.2.2⟩ hz rfl
theorem all_code (hl : Low K.B A4 A.in1 a) (hh : A4.handled = none) (hd : A4.depth < recursionLimit) : ∀ (bs : List Bool) (s : Shared), Gn p A4 a gi (bs.map .bool) s → (∀ s', Aft p s' → R (.ok (.ret (.bool (bs.all id)))) s') →
    codeAny (model K.B.prog K.B.w) A (.builtin "all.loop" ⟨[.ref a], []⟩) R s := by
  intro bs
  induction bs with
  | nil =>
    intro s N hR
    refine codeAny_builtin PySem.F.entry_all_loop ?_
    rw [Around.under_plainId PySem.F.plain_all_loop _]
    show wpAny _ A.in1 (pyNext (.ref a) >>= _) _ _ s
    exact wpAny_bind (hl _ _ _ (N.dn hh hd fun s' af _ => wpAny_bind (wpAny_rule (wpAny_pure (hR s' af)))))
  | cons b bs ih =>
    intro s N hR
    refine codeAny_builtin PySem.F.entry_all_loop ?_
    rw [Around.under_plainId PySem.F.plain_all_loop _]
    show wpAny _ A.in1 (pyNext (.ref a) >>= _) _ _ s
    refine wpAny_bind (hl _ _ _ (N.nx hh hd fun w s' r N' _ => ?_))
    rw [r.boolI]
    refine wpAny_bind (wpAny_holding (wpAny_truthy_bool (wpAny_bind (wpAny_letGo ?_))))
    cases b with
    | true => exact wpAny_pure ⟨plainId_quiet PySem.F.plain_all_loop _, ih _ N' hR⟩
    | false => exact wpAny_bind (wpAny_rule (wpAny_pure (hR _ N'.G.aft)))
theorem sum_code (hl : Low K.B A4 A.in1 a) (hh : A4.handled = none) (hd : A4.depth < recursionLimit) (hS : S ∈ p.ow) (hup : K.B.g.objs.size ≤ S) : ∀ (l : List Int) (s : Shared) (i : Int) (tA : Tok) (c : Nat), Gn p A4 a gi (l.map .int) s → SumOk i l →
    s.heap.get? S = some { cls := .type "list", dict := none, data := .seq #[.int i tA] c, slots := #[] } → (∀ s' t', Aft p s' → R (.ok (.ret (.int (i + l.sum) t'))) s') →
    codeAny (model K.B.prog K.B.w) A (.builtin "sum.loop" ⟨[.ref a, .ref S, rawInt 0, rawInt 0], []⟩) R s := by
  intro l
  induction l with
  | nil =>
    intro s i tA c N hb eS hR
    refine codeAny_builtin PySem.F.entry_sum_loop ?_
    rw [Around.under_plainId PySem.F.plain_sum_loop _]
    show wpAny _ A.in1 (seqItems? (.ref S) >>= _) _ _ s
    refine wpAny_bind (wpAny_seqItems eS rfl ?_)
    show wpAny _ A.in1 (tryCatch (pyNext (.ref a)) _ >>= _) _ _ s
    exact wpAny_bind (wpAny_tryCatch (hl _ _ _ (N.dn hh hd fun s' af _ => wpAny_pure (by have := hR s' tA af; rwa [show i + ([] : List Int).sum = i from Int.add_zero i] at this))))
  | cons v l ih =>
    intro s i tA c N hb eS hR
    refine codeAny_builtin PySem.F.entry_sum_loop ?_
    rw [Around.under_plainId PySem.F.plain_sum_loop _]
    show wpAny _ A.in1 (seqItems? (.ref S) >>= _) _ _ s
    refine wpAny_bind (wpAny_seqItems eS rfl ?_)
    show wpAny _ A.in1 (tryCatch (pyNext (.ref a)) _ >>= _) _ _ s
    refine wpAny_bind (wpAny_tryCatch (hl _ _ _ (N.nx hh hd fun w s' rw N' kp => ?_)))
    obtain ⟨t, rfl⟩ := rw.intI
    have eS' := kp _ _ eS (N.off hS) (solid_type rfl)
    have hc : ((decide (-(2 ^ 63) ≤ v) && decide (v < 2 ^ 63)) && (decide (-(2 ^ 63) ≤ i + v) && decide (i + v < 2 ^ 63))) = true := by
      simp only [Bool.and_eq_true, decide_eq_true_eq]; exact hb.1
    show wpAny _ A.in1 (if (_ : Bool) = true then (mkInt (i + v) >>= _) else _) _ _ _
    split
    · refine wpAny_bind (wpAny_mkInt ?_)
      show wpAny _ A.in1 (updateSeq S (fun _ => #[.int (i + v) s'.toks]) >>= _) _ _ _
      refine wpAny_bind ?_
      have e2 := Heap.get?_update_self (Obj.mapSeq fun _ => #[.int (i + v) s'.toks]) eS' rfl
      exact wpAny_updateSeq eS' rfl (wpAny_pure ⟨plainId_quiet PySem.F.plain_sum_loop _, ih _ (i + v) s'.toks _ (N'.put hS hup (Heap.SameBut.update ..) e2) hb.2 e2 fun s'' t' af => by have := hR s'' t' af; rwa [List.sum_cons, ← Int.add_assoc] at this⟩)
    · rename_i hneg
      exact absurd hc hneg
end
section
variable {K : Kx} {f e : Expr} {pos : Pos} {σ : En} {H H₁ : AH} {fv : Value}
theorem call_gx (hfv : Ev K f σ H (.raw fv) H) (hc : CalleeOk K.B fv = true) (hf : callEq f [e] pos) (hso : starOk [e] = true) {Z A env s α} {Q : Value → Shared → Prop} {E : Value → Shared → Prop} (C : Cx K Z A env s α H σ)
    (h : ∀ s₁ α₁, Stp K.B Z [] α s α₁ H s₁ → Cx K Z A env s₁ α₁ H σ → wpAny (model K.B.prog K.B.w) A (eval e env) (fun x s₂ => K.B.K.In s₂.heap ∧ wpAny (model K.B.prog K.B.w) A (call fv [x] []) Q E s₂) E s₁) : wpAny (model K.B.prog K.B.w) A (eval (.Call f [e] [] pos) env) Q E s := by
  rw [hf]
  refine wpAny_bind (hfv _ E C fun w s₁ α₁ k₁ r₁ => ?_)
  rw [r₁.rawI]
  refine callWith_pos C.O hc [] (star_ok hso env) ?_
  rw [star_ok hso env e (.head _)]
  refine spliced_cons (wpAny_mono (h s₁ α₁ k₁ (C.step k₁)) (fun x s₂ h₂ => ?_) fun _ _ e => e)
  exact spliced_none h₂
theorem ev_all {bs : List Bool} (hfv : Ev K f σ H (.raw (.builtin "all")) H) (hg : Gx K e σ H (bs.map .bool) H₁) (hf : callEq f [e] pos := by intro _; rfl) (hso : starOk [e] = true := by rfl) : Ev K (.Call f [e] [] pos) σ H (.bool (bs.all id)) H₁ := by
  intro Z A env s α Q E C hQ
  refine call_gx hfv rfl hf hso C fun s₁ α₁ k₁ C₁ => hg _ E C₁ fun m sc' p a gi s₅ hZ k₂ N => ?_
  have N₀ := N [] s₅ .nil (Keeps.refl' _) (fun _ h => nomatch h)
  refine ⟨N₀.G.st.inv.K C.O, call_function_tree PySem.F.kind_all PySem.F.plain_all PySem.F.entry_all (PySem.F.args_all1 _) ?_⟩
  unfold Builtin.«all»
  refine wpAny_bind (m := oneArg "all" _) (wpAny_pure (wpAny_bind (wpAny_pyIter_gen N₀.isg ?_)))
  exact wpAny_pure ⟨plainId_quiet PySem.F.plain_all_loop _, all_code (K := ⟨K.B, m, sc'⟩) (p := p.by []) (low1 (A := A)) C.R.h (by have := C.R.d; show A.depth < _; omega) bs _ N₀ fun s' af => hQ _ _ _ (k₁.trans (k₂ _ _ af)) (.bool _)⟩
theorem ev_sum_gen {l : List Int} (hfv : Ev K f σ H (.raw (.builtin "sum")) H) (hg : Gx K e σ H (l.map .int) H₁) (hl : SumOk 0 l) (hf : callEq f [e] pos := by intro _; rfl) (hso : starOk [e] = true := by rfl) : Ev K (.Call f [e] [] pos) σ H (.int l.sum) H₁ := by
  intro Z A env s α Q E C hQ
  refine call_gx hfv rfl hf hso C fun s₁ α₁ k₁ C₁ => hg _ E C₁ fun m sc' p a gi s₅ hZ k₂ N => ?_
  have N₀ := N [] s₅ .nil (Keeps.refl' _) (fun _ h => nomatch h)
  refine ⟨N₀.G.st.inv.K C.O, call_function_tree PySem.F.kind_sum PySem.F.plain_sum PySem.F.entry_sum (PySem.F.args_sum1 _) ?_⟩
  unfold Builtin.«sum»
  simp only [List.length_cons, List.length_nil]
  rw [if_neg (by decide)]
  refine wpAny_bind (wpAny_of_eq (show Builtin.Builtins.bindParams "sum" ["start"] 0 { } = pure [none] from rfl) ?_)
  refine wpAny_bind (wpAny_pyIter_gen N₀.isg ?_)
  refine wpAny_bind (wpAny_mkInt ?_)
  refine wpAny_bind (wpAny_pure ?_)
  simp only [List.forIn_cons, List.forIn_nil]
  refine wpAny_bind (wpAny_bind (wpAny_bind (wpAny_isInstance (T := "int") (b := false) (typeIs_int _ _ _) PySem.sub_int_str ?_)))
  simp only [Bool.false_eq_true, if_false]
  refine wpAny_pure (wpAny_bind (wpAny_bind (wpAny_isInstance (T := "int") (b := false) (typeIs_int _ _ _) PySem.sub_int_bytes ?_)))
  simp only [Bool.false_eq_true, if_false]
  refine wpAny_pure (wpAny_bind (wpAny_bind (wpAny_isInstance (T := "int") (b := false) (typeIs_int _ _ _) PySem.sub_int_bytearray ?_)))
  simp only [Bool.false_eq_true, if_false]
  refine wpAny_pure (wpAny_pure ?_)
  refine wpAny_bind (wpAny_newObj_type ?_)
  have kk : Keeps s₅ { s₅ with heap := s₅.heap.push { cls := .type "list", data := .seq #[.int 0 s₅.toks] }, toks := s₅.toks + 1 } := ⟨_, _, rfl, fun b o e => Heap.get?_push_of_some _ e⟩
  have eS : (s₅.heap.push { cls := .type "list", data := .seq #[.int 0 s₅.toks] }).get? s₅.heap.objs.size = some _ := Heap.get?_push_size _ rfl
  have N₁ := N [s₅.heap.objs.size] _ Fresh.size kk (fun a ha => by rw [List.mem_singleton.mp ha]; exact ⟨_, eS⟩)
  exact wpAny_pure ⟨plainId_quiet PySem.F.plain_sum_loop _, sum_code (K := ⟨K.B, m, sc'⟩) (p := p.by [s₅.heap.objs.size]) (low1 (A := A)) C.R.h (by have := C.R.d; show A.depth < _; omega) (.head _) N₀.G.F.size l _ 0 _ 0 N₁ hl eS
    fun s' t' af => by show Q (.int (0 + l.sum) t') s'; rw [Int.zero_add]; exact hQ _ _ _ (k₁.trans (k₂ _ _ af)) (.int _ t')⟩
end
end Tg
namespace Tg
set_option maxHeartbeats 1000000
noncomputable abbrev lstObj (xs : Array Value) (c : Nat) : Obj := { cls := .type "list", dict := none, data := .seq xs c, slots := #[] }
structure Dw (B : Bs) (A : Around) (a S : Addr) (Z α W : List Addr) (D : List V → Shared → Prop) (F : Shared → Prop) : Prop where
  nx : ∀ {y ys s} (Q : Option Value → Shared → Prop) (E : Value → Shared → Prop), D (y :: ys) s → (∀ w s', VR Z α s'.heap y w → D ys s' → Kp W s.heap s'.heap → Q (some w) s') → wpAny (model B.prog B.w) A (pyNext (.ref a)) Q E s
  dn : ∀ {s} (Q : Option Value → Shared → Prop) (E : Value → Shared → Prop), D [] s → (∀ s', F s' → Kp W s.heap s'.heap → Q none s') → wpAny (model B.prog B.w) A (pyNext (.ref a)) Q E s
  put : ∀ {ys s h' tk o'}, D ys s → Heap.SameBut S s.heap h' → h'.get? S = some o' → D ys { s with heap := h', toks := tk }
  w : ∀ b ∈ W, b ∈ Z ++ α
  nS : S ∉ W
  z : S ∈ Z
theorem ext_code {B : Bs} {A : Around} {a S : Addr} {Z α W : List Addr} {D : List V → Shared → Prop} {F : Shared → Prop} {R : Result → Shared → Prop} (X : Dw B A.in1 a S Z α W D F) (res : Value) : ∀ (ys zs : List V) (s : Shared) (acc : Array Value) (c : Nat), D ys s → zs.length + ys.length ≤ 1048576 →
    VRs Z α s.heap zs acc.toList → s.heap.get? S = some (lstObj acc c) → (∀ s' acc' c', F s' → VRs Z α s'.heap (zs ++ ys) acc'.toList → s'.heap.get? S = some (lstObj acc' c') → R (.ok (.ret res)) s') →
    codeAny (model B.prog B.w) A (.builtin "list.extend.loop" ⟨[.ref S, .ref a, res], []⟩) R s := by
  intro ys
  induction ys with
  | nil =>
    intro zs s acc c N hn ra eS hR
    refine codeAny_builtin PySem.F.entry_extend_loop ?_
    rw [Around.under_plainId PySem.F.plain_extend_loop _]
    show wpAny _ A.in1 (pyNext (.ref a) >>= _) _ _ s
    refine wpAny_bind (X.dn _ _ N fun s' af kp => wpAny_pure ?_)
    exact hR s' acc c af (by rw [List.append_nil]; exact ra.mono0 kp X.w) (kp _ _ eS X.nS (solid_type rfl))
  | cons y ys ih =>
    intro zs s acc c N hn ra eS hR
    refine codeAny_builtin PySem.F.entry_extend_loop ?_
    rw [Around.under_plainId PySem.F.plain_extend_loop _]
    show wpAny _ A.in1 (pyNext (.ref a) >>= _) _ _ s
    refine wpAny_bind (X.nx _ _ N fun w s' rw N' kp => ?_)
    have eS' := kp _ _ eS X.nS (solid_type rfl)
    have ra' := ra.mono0 kp X.w
    show wpAny _ A.in1 (updateSeq S (·.push w) >>= _) _ _ _
    have hlen := ra.length
    have e' := Heap.get?_update_self (Obj.mapSeq (·.push w)) eS' rfl
    have sb : Heap.SameBut S s'.heap (s'.heap.update S (Obj.mapSeq (·.push w))) := Heap.SameBut.update ..
    have kS : Kp [S] s'.heap (s'.heap.update S (Obj.mapSeq (·.push w))) := fun b o e hb _ => (sb.2 b fun q => hb (List.mem_singleton.mpr q)).trans e
    have wS : ∀ b ∈ [S], b ∈ Z ++ α := fun b hb => by rw [List.mem_singleton.mp hb]; exact List.mem_append_left _ X.z
    refine wpAny_bind ?_
    refine wpAny_updateSeq eS' rfl (wpAny_pure ⟨plainId_quiet PySem.F.plain_extend_loop _, ih (zs ++ [y]) _ (acc.push w) _ (X.put N' sb e') (by simp; simp at hn; omega)
      (by rw [Array.toList_push]; exact (ra'.mono0 kS wS).append (.one (rw.mono0 kS wS))) e' fun s'' acc' c' af r' e'' => hR s'' acc' c' af (by simpa using r') e''⟩) ?_ ?_
    · simp at hn hlen ⊢; have : (1048576 : Nat) ≤ sizeLine := by decide
      omega
    · simp at hn hlen ⊢; have : (1048576 : Nat) ≤ sizeLine := by decide
      omega
section
variable {K : Kx} {p : GP K} {A A4 : Around} {a S : Addr} {gi : Nat} {ys : List V} {s : Shared}
theorem Gn.dw (hl : Low K.B A4 A a) (hh : A4.handled = none) (hd : A4.depth < recursionLimit) (N : Gn p A4 a gi ys s) (hS : S ∈ p.ow) (hup : K.B.g.objs.size ≤ S) : Dw K.B A a S p.Z p.α p.wk (Gn p A4 a gi) (Aft p) where
  nx Q E N h := hl _ _ _ (N.nx hh hd h)
  dn Q E N h := hl _ _ _ (N.dn hh hd h)
  put N hs e := N.put hS hup hs e
  w b hb := by simp at hb ⊢; rcases hb with hb | hb | hb <;> simp [hb]
  nS := N.off hS
  z := List.mem_append_left _ hS
theorem collect_gen {s₅ : Shared} {Q : List Value → Shared → Prop} {E : Value → Shared → Prop} (hl : Low K.B A4 A.in1 a) (hh : A4.handled = none) (hd : A4.depth < recursionLimit) (N : ∀ zs s', Fresh zs s₅.heap → Keeps s₅ s' → (∀ a ∈ zs, ∃ o, s'.heap.get? a = some o) → Gn (p.by zs) A4 a gi ys s') (hn : ys.length ≤ 1048576) 
    (hQ : ∀ s' acc zs, Aft (p.by zs) s' → VRs p.Z₀ p.α s'.heap ys acc → Q acc s') : wpAny (model K.B.prog K.B.w) A (collect (.ref a)) Q E s₅ := by
  have N₀ := N [] s₅ .nil (Keeps.refl' _) (fun _ h => nomatch h)
  have hS : s₅.heap.get? s₅.heap.objs.size = none := none_new' (Nat.le_refl _)
  have aS : s₅.heap.objs.size ≠ a := fun q => by obtain ⟨o, _, _, e, _⟩ := N₀.isg; rw [← q, hS] at e; cases e
  unfold collect
  refine wpAny_bind (wpAny_runValue (codeAny_builtin PySem.F.entry_proto_collect ?_))
  rw [Around.under_plainId PySem.F.plain_proto_collect _]
  show wpAny _ A.in1 (newList [] >>= fun l => again (.builtin "list.__iadd__" ⟨[l, .ref a], []⟩)) _ _ s₅
  refine wpAny_bind (wpAny_newObj_type ?_)
  refine wpAny_pure ⟨plainId_quiet PySem.F.plain_list_iadd _, codeAny_builtin PySem.F.entry_list_iadd ?_⟩
  rw [Around.under_plainId PySem.F.plain_list_iadd _]
  have e₁ : (s₅.heap.push { cls := .type "list", data := .seq ([] : List Value).toArray }).get? s₅.heap.objs.size = some { cls := .type "list", data := .seq ([] : List Value).toArray } := Heap.get?_push_size _ rfl
  have N₁ := N [s₅.heap.objs.size] _ Fresh.size (keeps_push s₅ { cls := .type "list", data := .seq ([] : List Value).toArray }) (fun a ha => by rw [List.mem_singleton.mp ha]; exact ⟨_, e₁⟩)
  have hT₁ := N₁.isg.typeIs
  show wpAny _ A.in1 (Builtin.List.listExtendWith (.ref s₅.heap.objs.size) (.ref a) (.ref s₅.heap.objs.size)) _ _ _
  unfold Builtin.List.listExtendWith
  refine wpAny_bind (wpAny_typeOf hT₁ ?_)
  have h1 : Builtin.List.listSameRef (.ref s₅.heap.objs.size) (.ref a) = false := by simp [Builtin.List.listSameRef, aS]
  have h2 : (Value.type "generator" == Value.type "list") = false := by decide
  have h3 : (Value.type "generator" == Value.type "tuple") = false := by decide
  simp only [h1, h2, h3, Bool.or_false, Bool.false_eq_true, if_false]
  refine wpAny_bind (wpAny_pyIter_gen N₁.isg ?_)
  refine wpAny_bind (wpAny_holding ?_)
  unfold Builtin.List.listLengthHint
  refine wpAny_bind (wpAny_specialOf hT₁ PySem.F.gen_no_len ?_)
  show wpAny _ A.in1 (specialOf (Value.ref a) (Str.ofString "__length_hint__") >>= _) _ _ _
  refine wpAny_bind (wpAny_specialOf hT₁ PySem.F.gen_no_hint ?_)
  refine wpAny_pure ?_
  show wpAny _ A.in1 (rule "list.extend.makes-room" >>= fun _ => Builtin.List.listTouch (.ref s₅.heap.objs.size) >>= fun _ =>
    again (.builtin "list.extend.loop" ⟨[.ref s₅.heap.objs.size, .ref a, .ref s₅.heap.objs.size], []⟩)) _ _ _
  refine wpAny_bind (wpAny_rule ?_)
  refine wpAny_bind ?_
  show wpAny _ A.in1 (updateSeq s₅.heap.objs.size (·.push .none) >>= fun _ => updateSeq s₅.heap.objs.size (·.pop)) _ _ _
  refine wpAny_bind (wpAny_updateSeq e₁ rfl ?_)
  have e₂ := Heap.get?_update_self (Obj.mapSeq (·.push Value.none)) e₁ rfl
  have hup : K.B.g.objs.size ≤ s₅.heap.objs.size := N₀.G.F.size
  have N₂ := N₁.put (.head _) (tk := s₅.toks) hup (Heap.SameBut.update ..) e₂
  refine wpAny_updateSeq e₂ rfl ?_
  have e₃ := Heap.get?_update_self (Obj.mapSeq (·.pop)) e₂ rfl
  have N₃ := N₂.put (.head _) (tk := s₅.toks) hup (Heap.SameBut.update ..) e₃
  refine wpAny_pure ⟨plainId_quiet PySem.F.plain_extend_loop _, ext_code (N₃.dw (A := A.in1) (S := s₅.heap.objs.size) hl hh hd (.head _) hup) _ ys [] _ _ _ N₃ (by simpa using hn) .nil e₃ fun s' acc' c' af r e => ?_⟩
  show wpAny _ A (load s₅.heap.objs.size >>= _) _ _ s'
  refine wpAny_bind (wpAny_load e ?_)
  exact wpAny_pure (hQ s' acc'.toList [s₅.heap.objs.size] af (by simpa using r.free.free.free))
theorem tuple_new {a : Addr} {T : String} {s₅ : Shared} {B : Bs} {F : Shared → Prop} {Z α : List Addr} {Q₁ : Value → Shared → Prop} {E : Value → Shared → Prop} (hTI : s₅.TypeIs (.ref a) T) (hT : T ≠ "tuple") (hn : ys.length ≤ 1048576)
    (hcol : ∀ {Q : List Value → Shared → Prop} {E : Value → Shared → Prop}, (∀ s' acc, F s' → VRs Z α s'.heap ys acc → Q acc s') → wpAny (model B.prog B.w) A.in1 (collect (.ref a)) Q E s₅)
    (hQ : ∀ s' acc, F s' → VRs Z α s'.heap ys acc → Q₁ (.ref s'.heap.objs.size) { s' with heap := s'.heap.push { cls := .type "tuple", data := .seq acc.toArray } }) :
    codeAny (model B.prog B.w) A (.call (.builtin "tuple.__new__") ⟨[.type "tuple", .ref a], []⟩) (wants Q₁ E) s₅ := by
  refine codeAny_of_tree ?_
  show wpAny _ A.in1 (do checkBuiltinCall "tuple.__new__" ⟨[.type "tuple", .ref a], []⟩; again (.builtin "tuple.__new__" ⟨[.type "tuple", .ref a], []⟩)) _ _ s₅
  refine wpAny_bind (wpAny_of_eq (PySem.F.newCall_tuple_1 _) (wpAny_pure ⟨plainId_quiet PySem.F.plain_tuple_new _, codeAny_builtin PySem.F.entry_tuple_new ?_⟩))
  rw [Around.under_plainId PySem.F.plain_tuple_new _]
  have hsub := sub_tuple_self
  have hinit := init_tuple_lookup
  have hmh := madeHere_tuple
  have hTb : (Value.type T == Value.type "tuple") = false := by simp [hT]
  wp_walk using wpAny_typeOf hTI, hcol
  intro s' acc af r
  show wpAny _ _ (Builtin.Tuple.tupleExact acc.toArray >>= fun v => ret v) _ _ _
  unfold Builtin.Tuple.tupleExact
  refine wpAny_bind (wpAny_newObj_type ?_ (by show acc.toArray.size ≤ sizeLine; rw [List.size_toArray, r.length]; exact Nat.le_trans hn (by decide)))
  exact wpAny_pure (hQ s' acc af r)
end
end Tg
namespace Tg
set_option maxHeartbeats 1000000
section
variable {B : Bs} {A : Around} {ys : List V} {Z α : List Addr} {F : Shared → Prop} {a : Addr} {T : String} {s₅ : Shared}
theorem call_tuple_it {Q : Value → Shared → Prop} {E : Value → Shared → Prop} (hTI : s₅.TypeIs (.ref a) T) (hT : T ≠ "tuple") (hn : ys.length ≤ 1048576)
    (hcol : ∀ {Q : List Value → Shared → Prop} {E : Value → Shared → Prop}, (∀ s' acc, F s' → VRs Z α s'.heap ys acc → Q acc s') → wpAny (model B.prog B.w) A.in1.in1 (collect (.ref a)) Q E s₅)
    (hQ : ∀ s' acc, F s' → VRs Z α s'.heap ys acc → Q (.ref s'.heap.objs.size) { s' with heap := s'.heap.push { cls := .type "tuple", data := .seq acc.toArray } }) :
    wpAny (model B.prog B.w) A (call (.type "tuple") [.ref a]) Q E s₅ := by
  refine callType_codes (Q₁ := fun obj s₁ => s₁.TypeIs obj "tuple" ∧ Q obj s₁) PySem.F.called_tuple (PySem.F.typeCall_tuple_1 _) PySem.F.entry_object_init
    (tuple_new hTI hT hn hcol fun s' acc af r => ⟨⟨_, Heap.get?_push_size _ rfl, rfl⟩, hQ s' acc af r⟩) fun obj s₁ h₁ => ?_
  exact ⟨h₁.1, PySem.F.args_object_init_2 obj _, object_init_meets PySem.F.called_tuple.init.lookup PySem.F.called_tuple.made (by decide) B.prog B.w A.in1 _ s₁ ⟨h₁.1, rfl, h₁.2⟩⟩
end
section
variable {K : Kx} {f e : Expr} {pos : Pos} {σ : En} {H H₁ : AH} {ys : List V}
theorem ev_tuple_gen (hfv : Ev K f σ H (.raw (.type "tuple")) H) (hg : Gx K e σ H ys H₁) (hn : ys.length ≤ 1048576) (hf : callEq f [e] pos := by intro _; rfl) (hso : starOk [e] = true := by rfl) : Ev K (.Call f [e] [] pos) σ H (.tup ys) H₁ := by
  intro Z A env s α Q E C hQ
  refine call_gx hfv rfl hf hso C fun s₁ α₁ k₁ C₁ => hg _ E C₁ fun m sc' p a gi s₅ hZ k₂ N => ?_
  have N₀ := N [] s₅ .nil (Keeps.refl' _) (fun _ h => nomatch h)
  refine ⟨N₀.G.st.inv.K C.O, call_tuple_it (F := fun s' => Stp K.B Z [] α s p.α H₁ s') (Z := p.Z₀) (α := p.α) N₀.isg.typeIs (by decide) hn (fun h => collect_gen (K := ⟨K.B, m, sc'⟩) (A4 := up4 A) low3 C.R.h (by have := C.R.d; show A.depth < _; omega) N hn fun s' acc zs af r => h s' acc (k₁.trans (k₂ _ _ af)) r) fun s' acc st r => ?_⟩
  have k := keeps_push s' { cls := .type "tuple", data := .seq acc.toArray }
  exact hQ _ _ _ (st.trans (.of_keeps st.inv k)) (.tup ⟨0, Heap.get?_push_size _ rfl⟩ (hZ ▸ r.keeps k) st.inv.new)
end
end Tg
namespace Tg
set_option maxHeartbeats 1000000
theorem lri_no_len : typeLookup (.type "list_reverseiterator") "__len__" = pure none := by rw [typeLookup_type, builtinLookup_eq_fast]; kernel_rfl
theorem lri_hint : typeLookup (.type "list_reverseiterator") "__length_hint__" = pure (some (.builtin "list_reverseiterator.__length_hint__")) := by rw [typeLookup_type, builtinLookup_eq_fast]; kernel_rfl
theorem split_hint : splitId "list_reverseiterator.__length_hint__" = some ("list_reverseiterator", "__length_hint__") := by kernel_rfl
theorem sub_lri_self : isSubtype (.type "list_reverseiterator") (.type "list_reverseiterator") = pure true := by rw [isSubtype_type]; kernel_rfl
theorem hint_lri {M : Model} {A : Around} {s : Shared} {x : Value} {Q : Bool → Shared → Prop} {E : Value → Shared → Prop} (hT : s.TypeIs x "list_reverseiterator") (h : Q false s) : wpAny M A (Builtin.List.listLengthHint x) Q E s := by
  unfold Builtin.List.listLengthHint
  refine wpAny_bind (wpAny_specialOf hT lri_no_len ?_)
  show wpAny _ A (specialOf x (Str.ofString "__length_hint__") >>= _) _ _ _
  refine wpAny_bind (wpAny_specialOf hT lri_hint ?_)
  dsimp only
  rw [split_hint]
  dsimp only
  refine wpAny_bind (wpAny_isInstance hT sub_lri_self ?_)
  simp only [Bool.not_true, Bool.false_eq_true, if_false]
  rw [if_pos (by kernel_rfl), if_neg (by decide)]
  exact wpAny_pure h
structure Rv (B : Bs) (Z α : List Addr) (H : AH) (s₁ : Shared) (it S : Addr) (a : V) (L : List V) (l : Addr) (ys : List V) (s : Shared) : Prop where
  st : Stp B ([S] ++ ([it] ++ Z)) [] α s₁ α H s
  at' : ∃ k : Nat, k ≤ L.length ∧ ys = (L.take k).reverse ∧ s.heap.IsRevIter it l ((k : Int) - 1)
  r : VR ([S] ++ ([it] ++ Z)) α s.heap a (.ref l)
section
variable {B : Bs} {Z α : List Addr} {H : AH} {s₁ : Shared} {it S l : Addr} {a : V} {L : List V} {A : Around}
theorem rv_dw (O : B.Ok) (hh : A.handled = none) (hl : Lq a L H) (fr : Fresh [S, it] s₁.heap) (hne : it ≠ S) (hup : B.g.objs.size ≤ S ∧ B.g.objs.size ≤ it) (hz : ∀ b ∈ Z, b ≠ it) :
    Dw B A it S ([S] ++ ([it] ++ Z)) α [it] (Rv B Z α H s₁ it S a L l) (fun s' => Stp B Z [] α s₁ α H s') where
  nx {y ys s} Q E D h := by
    obtain ⟨k, hk, hy, hi⟩ := D.at'
    obtain ⟨ax, ws, e, hls, q⟩ := hl.at D.st.inv.hr D.r
    cases e
    cases k with
    | zero => simp at hy
    | succ k =>
      have hlt : k < L.length := hk
      obtain ⟨w, ew, rw₀⟩ := q.get (List.getElem?_eq_getElem hlt)
      rw [List.take_add_one, List.reverse_append, List.getElem?_eq_getElem hlt] at hy
      obtain ⟨rfl, rfl⟩ := List.cons.inj (by simpa using hy)
      rw [show ((k + 1 : Nat) : Int) - 1 = (k : Int) by omega] at hi
      refine wpAny_pyNext_rev_item hi hls (x := w) (by rw [List.getElem?_toArray]; exact ew) fun h' hi' hs => ?_
      have x : IS [it] s { s with heap := h' } := ⟨⟨h', s.toks, rfl⟩, fun b o hb e => (hs.2 b fun q => hb (List.mem_singleton.mpr q)).trans e, fun b o e => by
        by_cases q : b = it
        · obtain ⟨o', e', _⟩ := hi'; exact ⟨o', q ▸ e'⟩
        · exact ⟨o, (hs.2 b q).trans e⟩⟩
      have zi : ∀ b ∈ [it], B.g.objs.size ≤ b ∧ b ∈ [S] ++ ([it] ++ Z) := fun b hb => by rw [List.mem_singleton.mp hb]; exact ⟨hup.2, by simp⟩
      have I' := D.st.inv.is O x zi
      have k' : Stp B ([S] ++ ([it] ++ Z)) [it] α s α H { s with heap := h' } := ⟨⟨[], by simp, .nil⟩, I', x.kp.mono fun b h => List.mem_append_left _ h, x.2.2⟩
      have rw' := rw₀.is x fun b hb => (zi b hb).2
      exact h _ _ rw' ⟨D.st.off k' fun b hb => by rw [List.mem_singleton.mp hb]; exact fr it (by simp), ⟨k, Nat.le_of_lt hlt, rfl, hi'⟩, D.r.is x fun b hb => (zi b hb).2⟩ x.kp
  dn {s} Q E D h := by
    obtain ⟨k, hk, hy, hi⟩ := D.at'
    have h0 : k = 0 := by
      have := congrArg List.length hy
      simp at this; omega
    subst h0
    refine wpAny_pyNext_rev_end hh hi fun h' hx => ?_
    have x : IE [it] s { s with heap := h' } := IE.ext hx
    exact h _ (Stp.gone (F := [it]) (W := []) (t := []) ((Stp.less (fun b hb => List.mem_append_right _ hb) D.st : Stp B ([it] ++ Z) [] α s₁ α H s).wide) (fun _ _ e => e) (by simp) .nil (fun b hb => fr b (by simp at hb ⊢; simp [hb])) (fun b hb => by rw [List.mem_singleton.mp hb]; exact hup.2) O (fun b hb hm => hz b hb (List.mem_singleton.mp hm)) x) x.kp
  put {ys s h' tk o'} D hs e' := by
    have x : IS [S] s { s with heap := h', toks := tk } := ⟨⟨h', tk, rfl⟩, fun b o hb e => (hs.2 b fun q => hb (List.mem_singleton.mpr q)).trans e, fun b o e => by
      by_cases q : b = S
      · exact ⟨o', q ▸ e'⟩
      · exact ⟨o, (hs.2 b q).trans e⟩⟩
    have zi : ∀ b ∈ [S], B.g.objs.size ≤ b ∧ b ∈ [S] ++ ([it] ++ Z) := fun b hb => by rw [List.mem_singleton.mp hb]; exact ⟨hup.1, by simp⟩
    have k' : Stp B ([S] ++ ([it] ++ Z)) [S] α s α H { s with heap := h', toks := tk } := ⟨⟨[], by simp, .nil⟩, D.st.inv.is O x zi, x.kp.mono fun b h => List.mem_append_left _ h, x.2.2⟩
    obtain ⟨k, hk, hy, hi⟩ := D.at'
    exact ⟨D.st.off k' fun b hb => by rw [List.mem_singleton.mp hb]; exact fr S (by simp), ⟨k, hk, hy, hi.at fun o e => x.2.1 _ _ (by simpa using hne) e⟩, D.r.is x fun b hb => (zi b hb).2⟩
  w b hb := by rw [List.mem_singleton.mp hb]; simp
  nS := by simpa using fun h => hne h.symm
  z := by simp
end
end Tg
namespace Tg
set_option maxHeartbeats 1000000
theorem collect_rev {B : Bs} {A : Around} {Z α : List Addr} {H : AH} {s₁ : Shared} {l : Addr} {a : V} {L : List V} (O : B.Ok) (I : Inv B Z α H s₁) (hsz : B.g.objs.size ≤ s₁.heap.objs.size) (hh : A.handled = none) (hl : Lq a L H) (r : VR Z α s₁.heap a (.ref l)) (hn : L.length ≤ 1048576)
    {Q : List Value → Shared → Prop} {E : Value → Shared → Prop} (hQ : ∀ s' acc, Stp B Z [] α s₁ α H s' → VRs Z α s'.heap L.reverse acc → Q acc s') :
    wpAny (model B.prog B.w) A (collect (.ref s₁.heap.objs.size)) Q E { s₁ with heap := s₁.heap.push (revObj l ((L.length : Int) - 1)) } := by
  generalize hit : s₁.heap.objs.size = it
  have fI : Fresh [it] s₁.heap := hit ▸ Fresh.size
  have e₀ : (s₁.heap.push (revObj l ((L.length : Int) - 1))).get? it = some (revObj l ((L.length : Int) - 1)) := hit ▸ Heap.get?_push_size _ rfl
  have kk₀ : Keeps s₁ { s₁ with heap := s₁.heap.push (revObj l ((L.length : Int) - 1)) } := keeps_push _ _
  have I₀ := I.banned fI kk₀ (fun b hb => by rw [List.mem_singleton.mp hb]; exact ⟨_, e₀⟩)
  have r₀ := (r.banned fI).keeps kk₀
  have i₀ : (s₁.heap.push (revObj l ((L.length : Int) - 1))).IsRevIter it l ((L.length : Int) - 1) := ⟨_, e₀, rfl, rfl⟩
  have up : B.g.objs.size ≤ it := hit ▸ hsz
  have sz : (s₁.heap.push (revObj l ((L.length : Int) - 1))).objs.size = it + 1 := by rw [Heap.size_push, hit]
  have k₀ : Stp B Z [] α s₁ α H { s₁ with heap := s₁.heap.push (revObj l ((L.length : Int) - 1)) } := .of_keeps I kk₀
  have fS₁ : s₁.heap.get? (it + 1) = none := none_new' (by omega)
  generalize s₁.heap.push (revObj l ((L.length : Int) - 1)) = h₀ at *
  unfold collect
  refine wpAny_bind (wpAny_runValue (codeAny_builtin PySem.F.entry_proto_collect ?_))
  rw [Around.under_plainId PySem.F.plain_proto_collect _]
  show wpAny _ A.in1 (newList [] >>= fun l => again (.builtin "list.__iadd__" ⟨[l, .ref it], []⟩)) _ _ _
  refine wpAny_bind (wpAny_newObj_type ?_)
  dsimp only
  refine wpAny_pure ⟨plainId_quiet PySem.F.plain_list_iadd _, codeAny_builtin PySem.F.entry_list_iadd ?_⟩
  rw [Around.under_plainId PySem.F.plain_list_iadd _]
  have e₁ : (h₀.push { cls := .type "list", data := .seq ([] : List Value).toArray }).get? h₀.objs.size = some { cls := .type "list", data := .seq ([] : List Value).toArray } := Heap.get?_push_size _ rfl
  have kk₁ : Keeps { s₁ with heap := h₀ } { s₁ with heap := h₀.push { cls := .type "list", data := .seq ([] : List Value).toArray } } := keeps_push { s₁ with heap := h₀ } _
  have fS : Fresh [h₀.objs.size] h₀ := Fresh.size
  have I₁ := I₀.banned fS kk₁ (fun b hb => by rw [List.mem_singleton.mp hb]; exact ⟨_, e₁⟩)
  have D₁ : Rv B Z α H s₁ it h₀.objs.size a L l L.reverse { s₁ with heap := h₀.push { cls := .type "list", data := .seq ([] : List Value).toArray } } :=
    ⟨⟨⟨[], by simp, .nil⟩, I₁, k₀.kp.trans0 (keeps_kp kk₁ _), k₀.th.trans (.of_keeps fun b o e => Heap.get?_push_of_some _ e)⟩, ⟨L.length, Nat.le_refl _, by simp, i₀.at fun o e => Heap.get?_push_of_some _ e⟩, (r₀.banned fS).keeps kk₁⟩
  have hne : it ≠ h₀.objs.size := by omega
  have X := rv_dw (Z := Z) (α := α) (s₁ := s₁) (l := l) (A := A.in1) (S := h₀.objs.size) (it := it) O hh hl (fun b hb => by
    rcases List.mem_cons.mp hb with rfl | hb
    · rw [sz]; exact fS₁
    · exact fI b hb) hne ⟨by omega, up⟩ fun b hb q => by obtain ⟨o, e⟩ := I.ban b hb; rw [q, fI it (.head _)] at e; cases e
  obtain ⟨k, _, _, i₁⟩ := id D₁.at'
  have hT₁ : Shared.TypeIs { s₁ with heap := h₀.push { cls := .type "list", data := .seq ([] : List Value).toArray } } (.ref it) "list_reverseiterator" := i₁.typeIs
  show wpAny _ A.in1 (Builtin.List.listExtendWith (.ref h₀.objs.size) (.ref it) (.ref h₀.objs.size)) _ _ _
  unfold Builtin.List.listExtendWith
  refine wpAny_bind (wpAny_typeOf hT₁ ?_)
  have h1 : Builtin.List.listSameRef (.ref h₀.objs.size) (.ref it) = false := by simp [Builtin.List.listSameRef, hne.symm]
  have h2 : (Value.type "list_reverseiterator" == Value.type "list") = false := by decide
  have h3 : (Value.type "list_reverseiterator" == Value.type "tuple") = false := by decide
  simp only [h1, h2, h3, Bool.or_false, Bool.false_eq_true, if_false]
  refine wpAny_bind (wpAny_pyIter_revIter i₁ ?_)
  refine wpAny_bind (wpAny_holding (hint_lri hT₁ ?_))
  show wpAny _ A.in1 (again (.builtin "list.extend.loop" ⟨[.ref h₀.objs.size, .ref it, .ref h₀.objs.size], []⟩)) _ _ _
  refine wpAny_pure ⟨plainId_quiet PySem.F.plain_extend_loop _, ext_code X _ L.reverse [] _ _ _ D₁ (by simpa using hn) .nil e₁ fun s' acc' c' af r e => ?_⟩
  show wpAny _ A (load h₀.objs.size >>= _) _ _ s'
  refine wpAny_bind (wpAny_load e ?_)
  exact wpAny_pure (hQ s' acc'.toList af (by simpa using r.free.free))
section
variable {K : Kx} {f f2 e : Expr} {pos pos2 : Pos} {σ : En} {H : AH} {a : V} {L : List V}
theorem ev_tuple_rev (hfv : Ev K f σ H (.raw (.type "tuple")) H) (hfr : Ev K f2 σ H (.raw (.type "reversed")) H) (he : EvL K [e] σ H [a] H) (hl : Lq a L H) (hn : L.length ≤ 1048576) (hf : callEq f [.Call f2 [e] [] pos2] pos := by intro _; rfl) (hf2 : callEq f2 [e] pos2 := by intro _; rfl) (hso : starOk [e] = true := by rfl) : Ev K (.Call f [.Call f2 [e] [] pos2] [] pos) σ H (.tup L.reverse) H := by
  intro Z A env s α Q E C hQ
  refine call_gx hfv rfl hf rfl C fun s₁ α₁ k₁ C₁ => call_open hfr he rfl hf2 hso C₁ fun ws s₂ α₂ k₂ r₂ => ?_
  have C₂ := C₁.step k₂
  obtain ⟨_, _, rfl, ra, r⟩ := r₂.consI
  rw [r.nilI]
  obtain ⟨l, ws, rfl, hls, q⟩ := hl.at C₂.I.hr ra
  refine call_reversed_list hls ?_
  rw [List.size_toArray, q.length]
  have I₃ := C₂.I.keeps (keeps_push s₂ (revObj l ((L.length : Int) - 1)))
  refine ⟨I₃.K C.O, call_tuple_it (T := "list_reverseiterator") (F := fun s' => Stp K.B Z [] α₂ s₂ α₂ H s') (Z := Z) (α := α₂) ⟨_, Heap.get?_push_size _ rfl, rfl⟩ (by decide) (by simpa using hn) (fun h => collect_rev (A := A.in1.in1) C.O C₂.I C₂.size C.R.h hl ra hn fun s' acc st r => h s' acc st r) fun s' acc st r => ?_⟩
  have k := keeps_push s' { cls := .type "tuple", data := .seq acc.toArray }
  exact hQ _ _ _ ((k₁.trans k₂).trans (st.trans (.of_keeps st.inv k))) (.tup ⟨0, Heap.get?_push_size _ rfl⟩ (r.keeps k) st.inv.new)
end
end Tg
namespace Tg
set_option maxHeartbeats 1000000
noncomputable def fTgt : Stmt → Expr
  | .For t _ _ _ _ => t
  | _ => default
noncomputable def fBody : Stmt → List Stmt
  | .For _ _ b _ _ => b
  | _ => []
noncomputable def fElse : Stmt → List Stmt
  | .For _ _ _ b _ => b
  | _ => []
noncomputable def wBody : Stmt → List Stmt
  | .While _ b _ _ => b
  | _ => []
noncomputable def wTest : Stmt → Expr
  | .While t _ _ _ => t
  | _ => default
noncomputable def iBody : Stmt → List Stmt
  | .If _ b _ _ => b
  | _ => []
noncomputable def iTest : Stmt → Expr
  | .If t _ _ _ => t
  | _ => default
noncomputable def aVal : Stmt → Expr
  | .Assign _ e _ => e
  | .AugAssign _ _ e _ => e
  | .Return (some e) _ => e
  | .Expr e _ => e
  | _ => default
noncomputable def ifElse : Expr → Expr
  | .IfExp _ _ e _ => e
  | _ => default
noncomputable def P2 : List Stmt := PySem.Challenge.pw_iv0068_02.main.body
structure Row where
  nm : Str
  k : Nat
  d : Stmt
  ps : List Str
  dfl : List V
noncomputable def meth (j : Nat) : Stmt := nth (cBody (nth P2 29)) j
noncomputable def defs2 : List Row := [
  ⟨"prod", 1, nth P2 2, ["x"], []⟩,
  ⟨"all_int", 1, nth P2 3, ["t"], []⟩,
  ⟨"canonicalize_strides", 2, nth P2 24, ["shape", "strides"], []⟩,
  ⟨"strides_for_shape", 1, nth P2 25, ["shape"], []⟩,
  ⟨"_merge_dims", 3, nth P2 26, ["shape", "strides", "mask"], []⟩,
  ⟨"_reshape_mask", 3, nth P2 27, ["_mask", "old_shape", "new_shape"], []⟩,
  ⟨"__init__", 6, meth 0, ["self", "shape", "strides", "offset", "mask", "contiguous"], []⟩,
  ⟨"create", 1, meth 3, ["shape", "strides", "offset", "mask"], [.none, .int 0, .none]⟩,
  ⟨"create", 4, meth 3, ["shape", "strides", "offset", "mask"], []⟩,
  ⟨"_unsafe_resize", 2, meth 7, ["self", "arg", "mask"], [.none]⟩,
  ⟨"shrink", 2, meth 9, ["self", "arg"], []⟩,
  ⟨"expand", 2, meth 10, ["self", "new_shape"], []⟩,
  ⟨"permute", 2, meth 11, ["self", "axis"], []⟩,
  ⟨"stride", 2, meth 12, ["self", "mul"], []⟩,
  ⟨"reshape", 2, meth 13, ["self", "new_shape"], []⟩,
  ⟨"_law_starts", 0, nth P2 31, [], []⟩,
  ⟨"_law_stretch", 0, nth P2 32, [], []⟩,
  ⟨"_law_steps", 0, nth P2 33, [], []⟩,
  ⟨"_law_size", 1, nth P2 35, ["shape"], []⟩,
  ⟨"_law_spots", 1, nth P2 36, ["shape"], []⟩,
  ⟨"_law_split", 2, nth P2 37, ["shape", "rest"], []⟩,
  ⟨"_law_deed", 4, nth P2 38, ["shape", "number", "most", "bare"], []⟩,
  ⟨"_law_done", 4, nth P2 39, ["shape", "cells", "kind", "arg"], []⟩,
  ⟨"_law_do", 3, nth P2 40, ["thing", "kind", "arg"], []⟩,
  ⟨"_law_read", 2, nth P2 41, ["views", "spot"], []⟩,
  ⟨"_law_row", 2, nth P2 42, ["views", "shape"], []⟩,
  ⟨"_law_view", 5, nth P2 43, ["view", "shape", "cells", "numbers", "most"], []⟩,
  ⟨"law", 1, nth P2 44, ["script"], []⟩]
noncomputable def glN : List Str := ["prod", "all_int", "canonicalize_strides", "strides_for_shape", "_merge_dims", "_reshape_mask", "View", "Variable", "NumNode", "_law_starts", "_law_stretch", "_law_steps", "_law_size", "_law_spots", "_law_split", "_law_deed", "_law_done", "_law_do", "_law_read", "_law_row", "_law_view"]
noncomputable def btN : List (Str × Value) := [("tuple", .type "tuple"), ("zip", .type "zip"), ("reversed", .type "reversed"), ("all", .builtin "all"), ("any", .builtin "any"), ("sum", .builtin "sum"), ("enumerate", .type "enumerate"), ("len", .builtin "len"), ("range", .type "range"), ("list", .type "list"), ("isinstance", .builtin "isinstance"), ("int", .type "int"), ("abs", .builtin "abs"), ("sorted", .builtin "sorted")]
noncomputable def mtN : List Str := ["_unsafe_resize", "shrink", "expand", "permute", "stride", "reshape"]
noncomputable def fdN : List Str := ["shape", "strides", "offset", "mask", "contiguous"]
structure G2 (B : Bs) where
  O : B.Ok
  ad : Str → Addr
  gl : ∀ x ∈ glN, B.mg x = some (.ref (ad x))
  bt : ∀ p ∈ btN, B.mg p.1 = none ∧ B.mb p.1 = some p.2
  fn : ∀ (i : Nat) r, defs2[i]? = some r → keepIn B.K (.ref (ad r.nm)) = true ∧ Nonempty (DefR B (ad r.nm) r.k (dScope r.d) (dBody r.d) r.ps r.dfl)
  cls : ClsOk B (ad "View")
  kv : keepIn B.K (.ref (ad "View")) = true
  fld : ∀ x ∈ fdN, FldOk B (ad "View") x
  sm : SmOk B (ad "View") "create" (ad "create")
  mt : ∀ x ∈ mtN, Meth B (ad "View") x (ad x)
  mks : makesIn B.K (ad "View") = true
  ini : findIn B.K (.ref (ad "View")) "__init__" = some (some (.ref (ad "__init__")))
  inf : typeIn B.K (.ref (ad "__init__")) = some (.type "function")
  isi : kitOne B.K (.type "int") (.type "int") = some true
  isv : kitAny B.K (.type "int") [.type "int", .ref (ad "Variable")] = some true
  isn : kitOne B.K (.type "int") (.ref (ad "NumNode")) = some false
section
variable {B : Bs} (G : G2 B) {n : Nat} {σ : En} {H : AH} {x : Str} {pos : Pos} {sc : Scope} {v : Value}
include G
theorem G2.e (i : Nat) (h : glN[i]? = some x) (hk : sc.names.lookup x = some .globalImplicit) (hd : (x == ("__debug__" : Str)) = false) : Ev ⟨B, n, sc⟩ (.Name x pos) σ H (.raw (.ref (G.ad x))) H := ev_glob ⟨hk, hd, .inl (G.gl x (List.mem_of_getElem? h))⟩
theorem G2.b (i : Nat) (h : btN[i]? = some (x, v)) (hk : sc.names.lookup x = some .globalImplicit) (hd : (x == ("__debug__" : Str)) = false) : Ev ⟨B, n, sc⟩ (.Name x pos) σ H (.raw v) H := ev_glob ⟨hk, hd, .inr (G.bt _ (List.mem_of_getElem? h))⟩
theorem G2.c (i : Nat) {r : Row} (h : defs2[i]? = some r) : CalleeOk B (.ref (G.ad r.nm)) = true := by unfold CalleeOk; rw [(G.fn i r h).1]; rfl
theorem G2.fz (i : Nat) {r : Row} (h : defs2[i]? = some r) {vs : List V} {fl : Fl} {v v' : V} (hk : vs.length = r.k) (hv : flV fl = some v)
    (hb : ∀ H, ∃ T, Bl ⟨B, n, dScope r.d⟩ (dBody r.d) (r.ps.zip (vs ++ r.dfl)) H fl [] (H ++ T) ∧ Fz (H ++ T) H.length v v') : Fp B (n + 1) (.ref (G.ad r.nm)) vs v' :=
  let ⟨d⟩ := (G.fn i r h).2; fp_def d hk hv fun H => ⟨_, hb H⟩
theorem G2.pure (i : Nat) {r : Row} (h : defs2[i]? = some r) {vs : List V} {fl : Fl} {v : V} (hk : vs.length = r.k) (hv : flV fl = some v) (hp : Pure v)
    (hb : ∀ H, Bl ⟨B, n, dScope r.d⟩ (dBody r.d) (r.ps.zip (vs ++ r.dfl)) H fl [] H) : Fp B (n + 1) (.ref (G.ad r.nm)) vs v :=
  G.fz i h hk hv fun H => ⟨[], by rw [List.append_nil]; exact ⟨hb H, fz_pure hp⟩⟩
end
theorem sub_nil {σ : En} : Sub [] σ := fun x v h => by cases h
theorem sub_cons {σ τ : En} {x : Str} {v : V} (h : σ.lookup x = some v) (k : Sub τ σ) : Sub ((x, v) :: τ) σ := fun y u e => by
  rw [List.lookup_cons] at e
  cases q : (y == x) with
  | true => rw [q] at e; cases e; rw [beq_iff_eq.mp q]; exact h
  | false => rw [q] at e; exact k y u e
theorem sub_rfl {σ : En} : Sub σ σ := fun _ _ h => h
theorem sub_tl {σ τ : En} {x : Str} {v : V} (h : τ.lookup x = none) (k : Sub τ σ) : Sub τ ((x, v) :: σ) := fun y u e => by
  rw [List.lookup_cons]
  cases q : (y == x) with
  | true => rw [beq_iff_eq.mp q, h] at e; cases e
  | false => exact k y u e
theorem forR_fold {γ δ : Type} {K : Kx} {tgt : Expr} {bl : List Stmt} (f : δ → V) (σ : γ → En) (H : γ → AH) (next : γ → δ → γ) (good : γ → List δ → Prop)
    (step : ∀ g x l, good g (x :: l) → good (next g x) l ∧ ∃ σ₁, At K true tgt (f x) (σ g) σ₁ ∧ Bl K bl σ₁ (H g) .next (σ (next g x)) (H (next g x))) :
    ∀ (l : List δ) (g : γ), good g l → ForR K tgt bl [] .next (σ (l.foldl next g)) (H (l.foldl next g)) (l.map f) (σ g) (H g)
  | [], g, _ => bl_nil
  | x :: l, g, h => by
    obtain ⟨h1, σ₁, h2, h3⟩ := step g x l h
    exact ⟨_, .next, _, _, h2, h3, forR_fold f σ H next good step l _ h1⟩
end Tg
namespace Tg
set_option maxHeartbeats 1000000
noncomputable def prodI (l : List Int) : Int := l.foldl (· * ·) 1
noncomputable def Sides (l : List Int) : Prop := (∀ x ∈ l, 0 < x) ∧ prodI l ≤ 1000000
noncomputable def SmallP : Int → List Int → Prop
  | a, [] => True
  | a, x :: l => small a = true ∧ SmallP (a * x) l
theorem fold_one (a : Int) : ∀ l : List Int, l.foldl (· * ·) a = a * prodI l
  | [] => by simp [prodI]
  | x :: l => by
    have h1 := fold_one (a * x) l
    have h2 := fold_one x l
    show l.foldl (· * ·) (a * x) = a * (l.foldl (· * ·) (1 * x))
    rw [Int.one_mul, h1, h2, Int.mul_assoc]
theorem prodI_cons (x : Int) (l : List Int) : prodI (x :: l) = x * prodI l := by
  show l.foldl (· * ·) (1 * x) = _
  rw [Int.one_mul, fold_one]
theorem prodI_pos : ∀ {l : List Int}, (∀ x ∈ l, 0 < x) → 0 < prodI l
  | [], _ => by decide
  | x :: l, h => by rw [prodI_cons]; exact Int.mul_pos (h x (.head _)) (prodI_pos fun y hy => h y (.tail _ hy))
theorem le_mul_one {a b : Int} (h : 0 < a) (hb : 0 < b) : a ≤ a * b := by
  have := Int.mul_le_mul_of_nonneg_left (c := a) (show (1 : Int) ≤ b from hb) (Int.le_of_lt h)
  omega
theorem smallP_of : ∀ {l : List Int} {a : Int}, 0 < a → (∀ x ∈ l, 0 < x) → a * prodI l ≤ 1000000 → SmallP a l
  | [], _, _, _, _ => trivial
  | x :: l, a, ha, h, hp => by
    have hx := h x (.head _)
    have hl := prodI_pos (l := l) fun y hy => h y (.tail _ hy)
    rw [prodI_cons, ← Int.mul_assoc] at hp
    have h2 : 0 < a * x := Int.mul_pos ha hx
    have h3 : a * x ≤ a * x * prodI l := le_mul_one h2 hl
    have h4 : a ≤ a * x := le_mul_one ha hx
    refine ⟨?_, smallP_of h2 (fun y hy => h y (.tail _ hy)) hp⟩
    unfold small; simp only [Bool.and_eq_true, decide_eq_true_eq]; constructor <;> omega
theorem Sides.small {l : List Int} (h : Sides l) : SmallP 1 l := smallP_of (by decide) h.1 (by rw [Int.one_mul]; exact h.2)
section
variable {B : Bs} (G : G2 B) {n : Nat}
include G
theorem s_prod {l : List Int} {v : V} (hv : Sq v (l.map .int)) (hl : SmallP 1 l) : Fp B (n + 1) (.ref (G.ad "prod")) [v] (.int (prodI l)) := by
  refine G.pure 0 rfl (fl := .ret (.int (prodI l))) rfl rfl pure_int fun H => ?_
  refine rn_wk (bl_cons (st_assign ev_int rfl) (bl_cons (st_for (si_of (ev_name rfl rfl) hv) (forR_fold V.int (fun a => [("ret", .int a), ("x", v)]) (fun _ => H) (· * ·) SmallP (fun a x l h => ⟨h.2, _, at_name rfl, ?_⟩) l 1 hl)) (bl_ret (st_ret (ev_name rfl rfl))))) sub_nil
  exact rn_wk (bl_cons (st_assign (ev_bin (ev_name rfl rfl) (ev_name rfl rfl) (bin_mul h.1)) rfl) bl_nil) (by (repeat (first | exact sub_nil | exact sub_rfl | refine sub_cons rfl ?_)))
theorem s_size {l : List Int} {v : V} (hv : Sq v (l.map .int)) (hl : SmallP 1 l) : Fp B (n + 1) (.ref (G.ad "_law_size")) [v] (.int (prodI l)) := by
  refine G.pure 18 rfl (fl := .ret (.int (prodI l))) rfl rfl pure_int fun H => ?_
  refine rn_wk (bl_cons (st_assign ev_int rfl) (bl_cons (st_for (si_of (ev_name rfl rfl) hv) (forR_fold V.int (fun a => [("size", .int a), ("shape", v)]) (fun _ => H) (· * ·) SmallP (fun a x l h => ⟨h.2, _, at_name rfl, ?_⟩) l 1 hl)) (bl_ret (st_ret (ev_name rfl rfl))))) sub_nil
  exact rn_wk (bl_cons (st_assign (ev_bin (ev_name rfl rfl) (ev_name rfl rfl) (bin_mul h.1)) rfl) bl_nil) (by (repeat (first | exact sub_nil | exact sub_rfl | refine sub_cons rfl ?_)))
end
end Tg
namespace Tg
set_option maxHeartbeats 1000000
section
variable {K : Kx} {e : Expr} {σ σ' : En} {H H₁ H' H'' : AH} {c c' : Bool} {v v' : V} {fl : Fl} {run : Env → Sem Flow}
theorem tv_to (h : Tv K e σ H c H₁) (q : c = c') : Tv K e σ H c' H₁ := q ▸ h
theorem ev_to (h : Ev K e σ H v H₁) (q : v = v') : Ev K e σ H v' H₁ := q ▸ h
theorem ev_hp (h : Ev K e σ H v H') (q : H' = H'') : Ev K e σ H v H'' := q ▸ h
theorem rn_hp (h : Rn K run σ H fl σ' H') (q : H' = H'') : Rn K run σ H fl σ' H'' := q ▸ h
theorem genL_map {δ : Type} {tgt elt : Expr} (f g : δ → V) : ∀ (l : List δ), (∀ x ∈ l, GenT K tgt elt σ (f x) (g x)) → GenL K tgt elt σ (l.map f) (l.map g)
  | [], _ => rfl
  | x :: l, h => ⟨_, _, h x (.head _), genL_map f g l fun y hy => h y (.tail _ hy), rfl⟩
end
noncomputable def G2.gn {B : Bs} (G : G2 B) (k : Nat) : G2 { B with gn := k } where
  O := G.O.gn
  ad := G.ad
  gl := G.gl
  bt := G.bt
  fn i r h := ⟨(G.fn i r h).1, let ⟨d⟩ := (G.fn i r h).2; ⟨⟨d.name, d.qual, d.params, d.dV, d.kV, d.doc, d.pm, d.cdv, d.ct, d.oc, d.an, d.od, d.osl, d.dfw, d.ho, d.hcd, d.hbind, d.hdf, d.hlen, d.hnm, d.hkind, d.hnd, d.hcds, d.hk, d.hco, d.hgen⟩⟩⟩
  cls := ⟨G.cls.hd, G.cls.sa, G.cls.po⟩
  kv := G.kv
  fld x h := ⟨(G.fld x h).pg, (G.fld x h).fi, (G.fld x h).tk⟩
  sm := ⟨G.sm.hg, G.sm.ex⟩
  mt := G.mt
  mks := G.mks
  ini := G.ini
  inf := G.inf
  isi := G.isi
  isv := G.isv
  isn := G.isn
section
variable {B : Bs} (G : G2 B) {n : Nat}
include G
theorem s_all_int {l : List Int} : Fp B (n + 2) (.ref (G.ad "all_int")) [tI l] (.bool true) := by
  refine G.pure 1 rfl (fl := .ret (.bool true)) rfl rfl pure_bool fun H => ?_
  have e : (l.map fun _ => true).all id = true := by simp
  refine rn_wk (bl_ret (st_ret (ev_to (ev_all (bs := l.map fun _ => true) (G.b 3 rfl rfl rfl) (gx_mk (m := n) (si_tup (ev_name rfl rfl)) ?_ (Nat.lt_succ_self _) rfl rfl rfl rfl)) (by rw [e])))) sub_nil
  rw [List.map_map]
  refine genL_map V.int _ l fun x _ => ⟨_, at_local rfl, sub_tl rfl sub_rfl, fun k H => ?_⟩
  exact ev_call ((G.gn k).b 10 rfl rfl rfl) (el_cons (ev_name rfl rfl) (el_cons ((G.gn k).b 11 rfl rfl rfl) el_nil)) (fn_isi G.isi) rfl
end
end Tg
namespace Tg
set_option maxHeartbeats 1000000
noncomputable def canon (s st : Int) : Int := if s = 1 then 0 else st
noncomputable def canonL (sh st : List Int) : List Int := (sh.zip st).map fun p => canon p.1 p.2
noncomputable def rawSt : List Int → List Int
  | [] => []
  | _ :: l => prodI l :: rawSt l
noncomputable def plainSt (sh : List Int) : List Int := canonL sh (rawSt sh)
theorem rawSt_length : ∀ l, (rawSt l).length = l.length
  | [] => rfl
  | _ :: l => by simp [rawSt, rawSt_length l]
theorem rowsI2 {l m : List Int} {n : Nat} (h1 : l.length = n) (h2 : m.length = n) : rows [l.map .int, m.map .int] n = (l.zip m).map fun p => .tup [.int p.1, .int p.2] := by
  rw [rows2 (by simpa using h1) (by simpa using h2)]
  clear h1 h2
  induction l generalizing m with
  | nil => rfl
  | cons a l ih => cases m with
    | nil => rfl
    | cons b m => simp only [List.map_cons, List.zipWith_cons_cons, List.zip_cons_cons]; rw [ih]
theorem rowsI3 {l m k : List Int} {n : Nat} (h1 : l.length = n) (h2 : m.length = n) (h3 : k.length = n) : rows [l.map .int, m.map .int, k.map .int] n = (l.zip (m.zip k)).map fun p => .tup [.int p.1, .int p.2.1, .int p.2.2] := by
  rw [rows3 (by simpa using h1) (by simpa using h2) (by simpa using h3)]
  clear h1 h2 h3
  induction l generalizing m k with
  | nil => rfl
  | cons a l ih => cases m with
    | nil => rfl
    | cons b m => cases k with
      | nil => rfl
      | cons c k => simp only [List.map_cons, List.zip_cons_cons, List.map_cons]; rw [ih]
theorem pure_tI {l : List Int} : Pure (tI l) := pure_tup fun v h => by obtain ⟨i, _, rfl⟩ := List.mem_map.mp h; exact pure_int
theorem at_two {K : Kx} {σ : En} {x y : Str} {p1 p2 p : Pos} {k} {a b : V} (hx : K.sc.names.lookup x = some .local) (hy : K.sc.names.lookup y = some .local) : At K false (.Tuple [.Name x p1, .Name y p2] k p) (.tup [a, b]) σ ((y, b) :: (x, a) :: σ) :=
  at_tuple (atl_cons (at_local hx) (atl_cons (at_local hy) atl_nil))
theorem at_three {K : Kx} {σ : En} {x y z : Str} {p1 p2 p3 p : Pos} {k} {a b c : V} (hx : K.sc.names.lookup x = some .local) (hy : K.sc.names.lookup y = some .local) (hz : K.sc.names.lookup z = some .local) : At K false (.Tuple [.Name x p1, .Name y p2, .Name z p3] k p) (.tup [a, b, c]) σ ((z, c) :: (y, b) :: (x, a) :: σ) :=
  at_tuple (atl_cons (at_local hx) (atl_cons (at_local hy) (atl_cons (at_local hz) atl_nil)))
section
variable {B : Bs} (G : G2 B) {n : Nat}
include G
theorem s_canon {sh st : List Int} (h : sh.length = st.length) (hz : sh.length ≤ 1048576) : Fp B (n + 2) (.ref (G.ad "canonicalize_strides")) [tI sh, tI st] (tI (canonL sh st)) := by
  refine G.pure 2 rfl (fl := .ret _) rfl rfl pure_tI fun H => ?_
  refine rn_wk (bl_ret (st_ret (ev_tuple_gen (G.b 0 rfl rfl rfl) (gx_mk (m := n) (si_zip (ls := [sh.map .int, st.map .int]) (n := sh.length) (G.b 1 rfl rfl rfl) (el_cons (ev_name rfl rfl) (el_cons (ev_name rfl rfl) el_nil)) (by simp [h]) (.inl rfl)) ?_ (Nat.lt_succ_self _) rfl rfl rfl rfl) (by simp [canonL]; omega)))) sub_nil
  unfold canonL
  rw [rowsI2 rfl h.symm, List.map_map]
  refine genL_map _ _ _ fun p _ => ⟨_, at_two rfl rfl, sub_tl rfl (sub_tl rfl sub_rfl), fun k H => ?_⟩
  unfold canon
  by_cases q : p.1 = 1
  · exact ev_to (ev_ite_t (tv_to (tv_cmp (ev_name rfl rfl) ev_int c_eq) (by simp [q])) ev_int) (by simp [q])
  · exact ev_to (ev_ite_f (tv_to (tv_cmp (ev_name rfl rfl) ev_int c_eq) (by simp [q])) (ev_name rfl rfl)) (by simp [q])
theorem s_rmask {a : V} {l : List Int} (hz : l.length ≤ 1048576) : Fp B (n + 2) (.ref (G.ad "_reshape_mask")) [.none, a, tI l] (.tup (l.map fun s => .tup [.int 0, .int s])) := by
  refine G.pure 5 rfl (fl := .ret _) rfl rfl (pure_tup fun v h => ?_) fun H => ?_
  · obtain ⟨i, _, rfl⟩ := List.mem_map.mp h
    exact pure_tup fun v h => by simp at h; rcases h with rfl | rfl <;> exact pure_int
  refine rn_wk (bl_ret (st_if_t (tv_cmp (ev_name rfl rfl) ev_none (c_is rfl)) (bl_ret (st_ret (ev_tuple_gen (G.b 0 rfl rfl rfl) (gx_mk (m := n) (si_tup (ev_name rfl rfl)) (genL_map V.int _ l fun x _ => ⟨_, at_local rfl, sub_tl rfl sub_rfl, fun k H => ev_tuple (el_cons ev_int (el_cons (ev_name rfl rfl) el_nil)) (by simp)⟩) (Nat.lt_succ_self _) rfl rfl rfl rfl) (by simpa using hz)))))) sub_nil
end
end Tg
namespace Tg
set_option maxHeartbeats 1000000
noncomputable abbrev stNext (g : List Int × Int) (s : Int) : List Int × Int := (g.1 ++ [g.2], g.2 * s)
noncomputable abbrev stL (g : List Int × Int) : List V := g.1.map V.int ++ [V.int g.2]
theorem st_fold (s : Int) : ∀ l : List Int, (l.reverse.foldl stNext ([], 1)).2 = prodI l ∧ (l.reverse.foldl stNext ([], 1)).1 ++ [(l.reverse.foldl stNext ([], 1)).2] = (rawSt (s :: l)).reverse
  | [] => ⟨rfl, rfl⟩
  | x :: l => by
    obtain ⟨h1, h2⟩ := st_fold s l
    rw [List.reverse_cons, List.foldl_append]
    refine ⟨by show _ * x = _; rw [h1, prodI_cons, Int.mul_comm], ?_⟩
    show ((List.foldl stNext ([], 1) l.reverse).1 ++ [(List.foldl stNext ([], 1) l.reverse).2]) ++ [(List.foldl stNext ([], 1) l.reverse).2 * x] = _
    rw [h2, h1]
    simp [rawSt, prodI_cons, Int.mul_comm]
theorem prodI_append (l m : List Int) : prodI (l ++ m) = prodI l * prodI m := by
  unfold prodI; rw [List.foldl_append]; exact fold_one _ m
theorem prodI_reverse : ∀ l : List Int, prodI l.reverse = prodI l
  | [] => rfl
  | x :: l => by rw [List.reverse_cons, prodI_append, prodI_reverse l, prodI_cons, prodI_cons]; show _ * (x * 1) = _; rw [Int.mul_one, Int.mul_comm]
theorem Sides.tail {x : Int} {l : List Int} (h : Sides (x :: l)) : Sides l := by
  have hl := prodI_pos (l := l) fun y hy => h.1 y (.tail _ hy)
  have := h.2
  have hx := h.1 x (.head _)
  rw [prodI_cons, Int.mul_comm] at this
  exact ⟨fun y hy => h.1 y (.tail _ hy), Int.le_trans (le_mul_one hl hx) this⟩
theorem Sides.rev {l : List Int} (h : Sides l) : Sides l.reverse := ⟨fun x hx => h.1 x (List.mem_reverse.mp hx), by rw [prodI_reverse]; exact h.2⟩
section
variable {B : Bs} (G : G2 B) {n : Nat}
include G
theorem s_strides {sh : List Int} (hs : Sides sh) (hz : sh.length ≤ 1000) : Fp B (n + 3) (.ref (G.ad "strides_for_shape")) [tI sh] (tI (plainSt sh)) := by
  cases sh with
  | nil =>
    refine G.pure 3 rfl (fl := .ret _) rfl rfl pure_tI fun H => ?_
    exact rn_wk (bl_ret (st_if_t (tv_not (tv_plain (ev_name rfl rfl) (t_tup (l := []) (by simp)) (by intro _ _; rfl))) (bl_ret (st_ret (ev_tuple el_nil (by show 0 ≤ _; omega)))))) sub_nil
  | cons s l =>
    obtain ⟨h1, h2⟩ := st_fold s l
    generalize hg : l.reverse.foldl stNext ([], 1) = g at h1 h2
    have hlen : g.1.length = l.length := by
      have := congrArg List.length h2
      simp [rawSt, rawSt_length] at this; exact this
    have hv : (stL g).reverse = (rawSt (s :: l)).map .int := by
      have := congrArg (fun x => (x.map V.int).reverse) h2
      simpa using this
    refine G.fz 3 rfl (fl := .ret (tI (plainSt (s :: l)))) rfl rfl fun H => ⟨[.list (stL g), .list (stL g).reverse], ?_, fz_pure pure_tI⟩
    have eh : H ++ [AO.list (stL g), .list (stL g).reverse] = (H ++ [.list (stL g)]) ++ [.list (stL g).reverse] := by simp
    rw [eh]
    simp only [List.length_cons] at hz
    have hl1 : (stL g).length ≤ 1048576 := by simp [hlen]; omega
    have hq : (H ++ [AO.list (stL g)])[H.length]? = some (.list (stL g)) := by simp
    have loop := forR_fold (K := ⟨B, n + 2, dScope (nth P2 25)⟩) (tgt := fTgt (nth (dBody (nth P2 25)) 2)) (bl := fBody (nth (dBody (nth P2 25)) 2)) V.int (fun g => [("strides", .ref H.length), ("shape", tI (s :: l))]) (fun g : List Int × Int => H ++ [.list (stL g)]) stNext (fun g l => SmallP g.2 l ∧ g.1.length + l.length ≤ 1000) (fun g x l h => ⟨⟨h.1.2, by have := h.2; simp at this ⊢; omega⟩, _, at_name rfl, ?_⟩) l.reverse ([], 1) ⟨hs.tail.rev.small, by simp; omega⟩
    · rw [hg, List.map_reverse] at loop
      refine rn_wk (bl_cons (st_if_f (tv_not (tv_plain (ev_name rfl rfl) (t_tup (l := (s :: l).map .int) (by simp; omega)) (by intro _ _; rfl))) bl_nil) (bl_cons (st_assign (ev_list (el_cons ev_int el_nil) (by simp)) rfl) (bl_cons (st_for (si_rev (l := l.map .int) (G.b 2 rfl rfl rfl) (el_cons (ev_slice (ol := some 1) (oh := none) (lo := some _) (hi := none) (ev_name rfl rfl) ev_int ⟨rfl, by decide⟩ ⟨rfl, rfl⟩ rfl (slc_tup (l := (s :: l).map .int) (n := 1) (by decide) (by simp) (by simp; omega) rfl)) el_nil) (by simp; omega)) loop) (bl_ret (st_ret (ev_call (G.e 2 rfl rfl rfl) (el_cons (ev_name rfl rfl) (el_cons (ev_call (G.b 0 rfl rfl rfl) (el_cons (ev_srev (ev_name rfl rfl) (lq_ref hq) hl1) el_nil) (fn_tuple (l := (stL g).reverse) (lq_ref (by simp)) (by simpa using hl1)) rfl) el_nil)) (Fp.fn (by rw [hv]; exact s_canon G (by simp [rawSt, rawSt_length]) (by simp; omega))) (G.c 2 rfl))))))) sub_nil
    · have e1 : (H ++ [AO.list (stL g)])[H.length]? = some (.list (stL g)) := by simp
      have hsm : small g.2 = true := h.1.1
      refine rn_wk (rn_hp (bl_cons (st_expr (ev_append (ev_name rfl rfl) (ev_bin (ev_item (ev_name rfl rfl) (ev_neg ev_int) (it_last (lq_ref e1))) (ev_name rfl rfl) (bin_mul hsm)) e1 e1 (by have := h.2; simp at this ⊢; omega))) bl_nil) (by simp [stL])) (by (repeat (first | exact sub_nil | exact sub_rfl | refine sub_cons rfl ?_)))
end
end Tg
namespace Tg
set_option maxHeartbeats 1000000
theorem any_range {bs : List Bool} : ((List.range bs.length).any fun i => (bs[i]?).getD false) = bs.any id := by
  rw [Bool.eq_iff_iff, List.any_eq_true, List.any_eq_true]
  constructor
  · rintro ⟨i, hi, e⟩
    have hi' := List.mem_range.mp hi
    simp only [List.getElem?_eq_getElem hi', Option.getD_some] at e
    exact ⟨_, List.getElem_mem hi', e⟩
  · rintro ⟨b, hb, e⟩
    obtain ⟨i, hi, rfl⟩ := List.getElem_of_mem hb
    exact ⟨i, List.mem_range.mpr hi, by simp only [List.getElem?_eq_getElem hi, Option.getD_some]; exact e⟩
theorem vrs_bools {Z α h} : ∀ {l : List Bool} {ws : List Value}, VRs Z α h (l.map .bool) ws → ws = l.map .bool
  | [], ws, r => r.nilI
  | x :: l, ws, r => by obtain ⟨_, xs, rfl, r0, r⟩ := r.consI; rw [r0.boolI, vrs_bools r]; rfl
theorem fn_any {B : Bs} {n : Nat} {H : AH} {a : V} {bs : List Bool} (hl : Lq a (bs.map .bool) H) : Fn B n (.builtin "any") [a] H (.bool (bs.any id)) H := fun _ _ _ _ _ Q E R O I hsz r hQ => by
  rename_i Z A s α ws0
  obtain ⟨_, _, rfl, r0, r⟩ := r.consI
  rw [r.nilI]
  obtain ⟨ax, ws, rfl, hls, q⟩ := hl.at I.hr r0
  have hw := vrs_bools q
  subst hw
  have hlt : ax < s.heap.objs.size := by obtain ⟨_, e, _⟩ := hls; exact Heap.lt_size e
  refine call_any_walk (wpAny_pyIter_list hls ?_)
  refine ⟨s.heap.objs.size, [s.heap.objs.size, ax], [s.heap.objs.size], (bs.map Value.bool).toArray.size, _, _, fun i => (bs[i]?).getD false, rfl, Walks.list (A := A.in1) R.h _ ax (Nat.ne_of_lt hlt) (bs.map Value.bool).toArray,
    ⟨⟨_, Heap.get?_push_size _ rfl, rfl, rfl⟩, hls.push _⟩, fun i v s' Q' E' hP hQ => ?_, fun h' tk hk => ?_⟩
  · have hP' : (bs.map Value.bool).toArray[i]? = some v := hP
    simp only [List.getElem?_toArray, List.getElem?_map, Option.map_eq_some_iff] at hP'
    obtain ⟨b, e, rfl⟩ := hP'
    simp only [e, Option.getD_some] at hQ
    exact wpAny_truthy_bool hQ
  · have e : ((List.range (bs.map Value.bool).toArray.size).any fun i => (bs[i]?).getD false) = bs.any id := by
      rw [List.size_toArray, List.length_map]; exact any_range
    rw [e]
    have kk : Keeps s { s with heap := h', toks := tk } := ⟨h', tk, rfl, fun b x e => hk b x (fun hm => by rw [List.mem_singleton.mp hm] at e; exact Nat.lt_irrefl _ (Heap.lt_size e)) (Heap.get?_push_of_some _ e)⟩
    exact hQ _ _ _ (.of_keeps I kk) (.bool _)
section
variable {K : Kx} {σ : En} {H H₁ H₂ : AH} {v a : V} {l r : Expr} {rest : List Expr} {pos : Pos}
theorem ev_and3_t (ha : Ev K l σ H a H₁) (hc : TruthR H₁ a true) (hb : Ev K (.BoolOp .And (r :: rest) pos) σ H₁ v H₂) : Ev K (.BoolOp .And (l :: r :: rest) pos) σ H v H₂ := fun _ _ _ _ _ Q E C hQ =>
  BoolOp_and (ha _ E C fun w s₁ α₁ k₁ r₁ => hc _ E k₁.inv r₁ fun s₂ k₂ => hb _ E (C.step (k₁.trans (.of_keeps k₁.inv k₂))) fun w s₃ α₃ k₃ => hQ w s₃ α₃ ((k₁.trans (.of_keeps k₁.inv k₂)).trans k₃))
theorem ev_and3_f (ha : Ev K l σ H a H₁) (hc : TruthR H₁ a false) : Ev K (.BoolOp .And (l :: r :: rest) pos) σ H a H₁ := fun _ _ _ _ _ Q E C hQ =>
  BoolOp_and (ha _ E C fun w s₁ α₁ k₁ r₁ => hc _ E k₁.inv r₁ fun s₂ k₂ => hQ w s₂ α₁ (k₁.trans (.of_keeps k₁.inv k₂)) (r₁.keeps k₂))
end
noncomputable def vw (C : Addr) (sh st : List Int) (off : Int) (c : Bool) : V := .obj C fdN [tI sh, tI st, .int off, .none, .bool c]
theorem pure_vw {C sh st off c} : Pure (vw C sh st off c) := pure_obj fun v h => by
  simp at h
  rcases h with rfl | rfl | rfl | rfl | rfl
  · exact pure_tI
  · exact pure_tI
  · exact pure_int
  · exact pure_none
  · exact pure_bool
section
variable {B : Bs} (G : G2 B) {n : Nat}
include G
theorem s_init {H : AH} {a b c d e : V} : Fc B (n + 1) (.ref (G.ad "__init__")) [.ref (H.length + 1), a, b, c, d, e] ((H ++ [.ns [] []]) ++ [.inst (G.ad "View") H.length]) .none ((H ++ [.ns fdN [a, b, c, d, e]]) ++ [.inst (G.ad "View") H.length]) := by
  obtain ⟨df⟩ := (G.fn 6 _ rfl).2
  refine fc_def (fl := .next) (σ' := []) df rfl ?_ rfl
  have hi : ∀ ks l, ((H ++ [AO.ns ks l]) ++ [AO.inst (G.ad "View") H.length])[H.length + 1]? = some (.inst (G.ad "View") H.length) := by intro ks l; rw [show H.length + 1 = (H ++ [AO.ns ks l]).length by simp]; exact List.getElem?_concat_length
  have hd : ∀ ks l, ((H ++ [AO.ns ks l]) ++ [AO.inst (G.ad "View") H.length])[H.length]? = some (.ns ks l) := by intro ks l; simp
  have hs : ∀ ks l ks' l', ((H ++ [AO.ns ks l]) ++ [AO.inst (G.ad "View") H.length]).set H.length (.ns ks' l') = (H ++ [AO.ns ks' l']) ++ [AO.inst (G.ad "View") H.length] := by intro ks l ks' l'; simp
  have at' : ∀ {K : Kx} {σ : En} {t : Expr} {v : V} {ks l ks' l'}, AtH K t v σ ((H ++ [AO.ns ks l]) ++ [AO.inst (G.ad "View") H.length]) σ (((H ++ [AO.ns ks l]) ++ [AO.inst (G.ad "View") H.length]).set H.length (.ns ks' l')) → AtH K t v σ ((H ++ [AO.ns ks l]) ++ [AO.inst (G.ad "View") H.length]) σ ((H ++ [AO.ns ks' l']) ++ [AO.inst (G.ad "View") H.length]) := fun h => by rw [hs] at h; exact h
  refine rn_wk (bl_cons (st_assign_h (ev_tuple (el_cons (ev_name rfl rfl) (el_cons (ev_name rfl rfl) (el_cons (ev_name rfl rfl) (el_cons (ev_name rfl rfl) (el_cons (ev_name rfl rfl) el_nil))))) (by simp)) (ath_tuple (athl_cons (at' (ath_attr (ev_name rfl rfl) G.cls (G.fld "shape" (by simp [fdN])) (hi _ _) (hd _ _) rfl (by simp))) (athl_cons (at' (ath_attr (ev_name rfl rfl) G.cls (G.fld "strides" (by simp [fdN])) (hi _ _) (hd _ _) (by decide) (by simp))) (athl_cons (at' (ath_attr (ev_name rfl rfl) G.cls (G.fld "offset" (by simp [fdN])) (hi _ _) (hd _ _) (by decide) (by simp))) (athl_cons (at' (ath_attr (ev_name rfl rfl) G.cls (G.fld "mask" (by simp [fdN])) (hi _ _) (hd _ _) (by decide) (by simp))) (athl_cons (at' (ath_attr (ev_name rfl rfl) G.cls (G.fld "contiguous" (by simp [fdN])) (hi _ _) (hd _ _) (by decide) (by simp))) athl_nil))))))) bl_nil) sub_nil
end
end Tg
namespace Tg
set_option maxHeartbeats 1000000
theorem rows_same {δ : Type} {f g : δ → V} {l : List δ} {n : Nat} (h : l.length = n) : rows [l.map f, l.map g] n = l.map fun x => .tup [f x, g x] := by
  rw [rows2 (by simpa using h) (by simpa using h)]
  clear h
  induction l with
  | nil => rfl
  | cons a l ih => simp only [List.map_cons, List.zipWith_cons_cons]; rw [ih]
noncomputable def okB (off : Int) (st sh : List Int) : Bool := decide (off = 0) && decide (st = plainSt sh)
theorem pos_mem {l : List Int} (h : Sides l) : decide ((0 : Int) ∈ l) = false := by
  simp only [decide_eq_false_iff_not]; intro hm; have := h.1 0 hm; omega
section
variable {B : Bs} (G : G2 B) {n : Nat}
include G
theorem s_view {σ : En} {H : AH} {es : List Expr} {pos vp : Pos} {sc : Scope} {sh st off c} (he : EvL ⟨B, n + 2, sc⟩ es σ H [tI sh, tI st, .int off, .none, .bool c] H) (hk : sc.names.lookup ("View" : Str) = some .globalImplicit) (hf : callEq (.Name "View" vp) es pos := by intro _; rfl) (hso : starOk es = true := by rfl) :
    Ev ⟨B, n + 2, sc⟩ (.Call (.Name "View" vp) es [] pos) σ H (vw (G.ad "View") sh st off c) H := by
  refine ev_fz (T := [.ns fdN [tI sh, tI st, .int off, .none, .bool c], .inst (G.ad "View") H.length]) (v := .ref (H.length + 1)) ?_ ?_
  · refine ev_hp (ev_call (G.e 6 rfl hk rfl) he (fn_cls G.mks G.ini G.inf (s_init G)) (by unfold CalleeOk; rw [G.kv]; rfl) hf hso) (by simp)
  · refine fz_obj (d := H.length) (by omega) (Nat.le_refl _) ?_ (by simp) fun v h => ?_
    · rw [List.getElem?_append_right (by omega)]; simp
    · simp at h
      rcases h with rfl | rfl | rfl | rfl | rfl
      · exact pure_tI
      · exact pure_tI
      · exact pure_int
      · exact pure_none
      · exact pure_bool
theorem create_tail {H : AH} {sh st : List Int} {off : Int} (hs : Sides sh) (hz : sh.length ≤ 1000) :
    Bl ⟨B, n + 3, dScope (meth 3)⟩ ((dBody (meth 3)).drop 4) [("strides", tI st), ("shape", tI sh), ("offset", .int off), ("mask", .none)] H (.ret (vw (G.ad "View") sh st off (okB off st sh))) [] H := by
  refine rn_wk (bl_cons (st_assign (ev_ite_f (tv_plain (ev_name rfl rfl) t_none (by intro _ _; rfl)) (ev_frz (ev_list el_nil (by simp)) (by intro v h; cases h))) rfl) (bl_cons (st_if_f (tv_to (tv_plain (ev_call (G.b 4 rfl rfl rfl) (el_cons (ev_name rfl rfl) el_nil) (fn_any (bs := []) lq_lst) rfl) t_bool (by intro _ _; rfl)) rfl) bl_nil) (bl_cons (st_assign (v := .bool (okB off st sh)) ?_ rfl) (bl_ret (st_ret (s_view G (el_cons (ev_name rfl rfl) (el_cons (ev_name rfl rfl) (el_cons (ev_name rfl rfl) (el_cons (ev_name rfl rfl) (el_cons (ev_name rfl rfl) el_nil))))) rfl)))))) sub_nil
  by_cases h : off = 0
  · refine ev_to (ev_and3_t (ev_to (v' := .bool true) (ev_cmp (ev_name rfl rfl) ev_int c_eq) (by simp [h])) t_bool (ev_and_t (ev_to (v' := .bool true) (ev_cmp (ev_name rfl rfl) ev_none (c_is rfl)) rfl) t_bool (ev_cmp (ev_name rfl rfl) (ev_call (G.e 3 rfl rfl rfl) (el_cons (ev_name rfl rfl) el_nil) (Fp.fn (s_strides G hs hz)) (G.c 3 rfl)) c_eqt))) (by simp [okB, h])
  · exact ev_to (ev_and3_f (ev_to (v' := .bool false) (ev_cmp (ev_name rfl rfl) ev_int c_eq) (by simp [h])) t_bool) (by simp [okB, h])
noncomputable def Str' (sv : V) (sh st : List Int) : Prop := sv = .none ∧ st = plainSt sh ∨ ∃ st₀, sv = tI st₀ ∧ sh.length = st₀.length ∧ st = canonL sh st₀
noncomputable def Mk' (m : V) (sh : List Int) : Prop := m = .none ∨ m = .tup (sh.map fun s => .tup [.int 0, .int s])
theorem create_body {H : AH} {sh st : List Int} {off : Int} {sv m : V} (hs : Sides sh) (hz : sh.length ≤ 1000) (hv : Str' sv sh st) (hm : Mk' m sh) :
    Bl ⟨B, n + 3, dScope (meth 3)⟩ (dBody (meth 3)) [("shape", tI sh), ("strides", sv), ("offset", .int off), ("mask", m)] H (.ret (vw (G.ad "View") sh st off (okB off st sh))) [] H := by
  have e0 : (sh.map fun s => decide (s ≥ 0)).all id = true := by
    rw [List.all_map, List.all_eq_true]; intro x hx; have := hs.1 x hx; simp; omega
  refine bl_cons (st_if_f (tv_to (tv_not (tv_plain (ev_all (bs := sh.map fun s => decide (s ≥ 0)) (G.b 3 rfl rfl rfl) (gx_mk (m := n) (si_tup (ev_name rfl rfl)) (by rw [List.map_map]; exact genL_map V.int _ sh fun x _ => ⟨_, at_local rfl, sub_tl rfl sub_rfl, fun k H => ev_cmp (ev_name rfl rfl) ev_int c_ge⟩) (by show n < n + 3; omega) rfl rfl rfl rfl)) t_bool (by intro _ _; rfl))) (by rw [e0]; rfl)) bl_nil) ?_
  have h1 : Ev ⟨B, n + 3, dScope (meth 3)⟩ (aVal (nth (dBody (meth 3)) 1)) [("shape", tI sh), ("strides", sv), ("offset", .int off), ("mask", m)] H (tI st) H := by
    have hpl : Ev ⟨B, n + 3, dScope (meth 3)⟩ (ifElse (aVal (nth (dBody (meth 3)) 1))) [("shape", tI sh), ("strides", sv), ("offset", .int off), ("mask", m)] H (tI (plainSt sh)) H := ev_call (G.e 3 rfl rfl rfl) (el_cons (ev_name rfl rfl) el_nil) (Fp.fn (s_strides G hs hz)) (G.c 3 rfl)
    rcases hv with ⟨rfl, rfl⟩ | ⟨st₀, rfl, hl, rfl⟩
    · exact ev_ite_f (tv_plain (ev_name rfl rfl) t_none (by intro _ _; rfl)) hpl
    · cases st₀ with
      | nil =>
        have e : sh = [] := List.eq_nil_of_length_eq_zero hl
        subst e
        exact ev_ite_f (tv_to (tv_plain (ev_name rfl rfl) (t_tup (l := []) (by simp)) (by intro _ _; rfl)) rfl) hpl
      | cons x st₀ => exact ev_ite_t (tv_to (tv_plain (ev_name rfl rfl) (t_tup (l := (x :: st₀).map .int) (by simp at hl ⊢; omega)) (by intro _ _; rfl)) rfl) (ev_call (G.e 2 rfl rfl rfl) (el_cons (ev_name rfl rfl) (el_cons (ev_name rfl rfl) el_nil)) (Fp.fn ((s_canon G (n := n) hl (by omega)).le (show n + 2 ≤ n + 3 by omega))) (G.c 2 rfl))
  refine bl_cons (st_assign h1 rfl) (bl_cons (st_if_f (tv_to (tv_cmp ev_int (ev_name rfl rfl) c_in) (pos_mem hs)) bl_nil) ?_)
  rcases hm with rfl | rfl
  · exact bl_cons (st_if_f (tv_and_f (tv_to (tv_cmp (ev_name rfl rfl) ev_none (c_isnt rfl)) rfl)) bl_nil) (rn_sub (create_tail G hs hz) (by (repeat (first | exact sub_nil | exact sub_rfl | refine sub_cons rfl ?_))))
  · have e1 : (sh.map fun _ => true).all id = true := by simp
    refine bl_cons (st_if_t (tv_and_t (tv_to (tv_cmp (ev_name rfl rfl) ev_none (c_isnt rfl)) rfl) (tv_to (tv_plain (ev_all (bs := sh.map fun _ => true) (G.b 3 rfl rfl rfl) (gx_mk (m := n) (si_zip (ls := [sh.map fun s => .tup [.int 0, .int s], sh.map .int]) (n := sh.length) (G.b 1 rfl rfl rfl) (el_cons (ev_name rfl rfl) (el_cons (ev_name rfl rfl) el_nil)) (by simp) (.inl rfl)) ?_ (by show n < n + 3; omega) rfl rfl rfl rfl)) t_bool (by intro _ _; rfl)) e1)) (bl_cons (st_assign ev_none rfl) bl_nil)) (rn_sub (create_tail G hs hz) (by (repeat (first | exact sub_nil | exact sub_rfl | refine sub_cons rfl ?_))))
    rw [rows_same rfl, List.map_map]
    refine genL_map _ _ sh fun x _ => ⟨_, at_two rfl rfl, sub_tl rfl (sub_tl rfl sub_rfl), fun k H => ?_⟩
    exact ev_to (ev_cmp (a := tI [0, x]) (b := tI [0, x]) (ev_name rfl rfl) (ev_tuple (el_cons ev_int (el_cons (ev_name rfl rfl) el_nil)) (by simp)) c_eqt) (by simp)
theorem s_create1 {sh : List Int} (hs : Sides sh) (hz : sh.length ≤ 1000) : Fp B (n + 4) (.ref (G.ad "create")) [tI sh] (vw (G.ad "View") sh (plainSt sh) 0 true) := by
  refine G.pure 7 rfl (fl := .ret _) rfl rfl pure_vw fun H => ?_
  have e : okB 0 (plainSt sh) sh = true := by simp [okB]
  have := create_body G (n := n) (H := H) (off := 0) hs hz (.inl ⟨rfl, rfl⟩) (.inl rfl)
  rw [e] at this
  exact this
theorem s_create4 {sh st : List Int} {off : Int} {m : V} (hs : Sides sh) (hz : sh.length ≤ 1000) (hl : sh.length = st.length) (hm : Mk' m sh) : Fp B (n + 4) (.ref (G.ad "create")) [tI sh, tI st, .int off, m] (vw (G.ad "View") sh (canonL sh st) off (okB off (canonL sh st) sh)) := by
  refine G.pure 8 rfl (fl := .ret _) rfl rfl pure_vw fun H => ?_
  exact create_body G hs hz (.inr ⟨st, rfl, hl, rfl⟩) hm
end
end Tg
namespace Tg
set_option maxHeartbeats 1000000
theorem forR_foldc {γ δ : Type} {K : Kx} {tgt : Expr} {bl : List Stmt} (f : δ → V) (σ : γ → En) (H : γ → AH) (next : γ → δ → γ) (good : γ → List δ → Prop)
    (step : ∀ g x l, good g (x :: l) → good (next g x) l ∧ ∃ σ₁ fl, (fl = .next ∨ fl = .cont) ∧ At K true tgt (f x) (σ g) σ₁ ∧ Bl K bl σ₁ (H g) fl (σ (next g x)) (H (next g x))) :
    ∀ (l : List δ) (g : γ), good g l → ForR K tgt bl [] .next (σ (l.foldl next g)) (H (l.foldl next g)) (l.map f) (σ g) (H g)
  | [], g, _ => bl_nil
  | x :: l, g, h => by
    obtain ⟨h1, σ₁, fl, hf, h2, h3⟩ := step g x l h
    refine ⟨_, fl, _, _, h2, h3, ?_⟩
    have := forR_foldc f σ H next good step l _ h1
    rcases hf with rfl | rfl <;> exact this
noncomputable abbrev T3 := Int × Int × Int
noncomputable abbrev t3 (t : T3) : V := .tup [.int t.1, .int t.2.1, .int t.2.2]
structure MS where
  pre : List T3
  last : T3
  mg : Bool
noncomputable abbrev MS.l (g : MS) : List V := g.pre.map t3 ++ [t3 g.last]
noncomputable def nz (st x : Int) : Int := if st = 0 then 0 else x
noncomputable def mNext (g : MS) (p : Int × Int) : MS :=
  if p.1 = 1 then g
  else if g.mg = true ∨ g.last.2.1 = p.1 * p.2 then ⟨g.pre, (g.last.1 * p.1, p.2, nz p.2 (if g.mg = true then p.1 else g.last.2.2 * p.1)), false⟩
  else ⟨g.pre ++ [g.last], (p.1, p.2, nz p.2 p.1), false⟩
noncomputable def merge : List Int → List Int → List T3
  | s :: sh, st :: sts => let g := (sh.zip sts).foldl mNext ⟨[], (s, st, nz st s), s == 1⟩; g.pre ++ [g.last]
  | _, _ => []
noncomputable def MGood (g : MS) (l : List (Int × Int)) : Prop := 0 < g.last.1 ∧ (0 ≤ g.last.2.2 ∧ g.last.2.2 ≤ g.last.1) ∧ (∀ p ∈ l, 0 < p.1) ∧ g.last.1 * prodI (l.map (·.1)) ≤ 1000000 ∧ g.pre.length + l.length ≤ 1000
theorem MGood.next {g : MS} {p : Int × Int} {l : List (Int × Int)} (h : MGood g (p :: l)) : MGood (mNext g p) l := by
  obtain ⟨h1, h2, h3, h4, h5⟩ := h
  have hp := h3 p (.head _)
  have hl : 0 < prodI (l.map (·.1)) := prodI_pos fun x hx => by obtain ⟨q, hq, rfl⟩ := List.mem_map.mp hx; exact h3 q (.tail _ hq)
  rw [List.map_cons, prodI_cons] at h4
  rw [List.length_cons] at h5
  have h3' : ∀ q ∈ l, 0 < q.1 := fun q hq => h3 q (.tail _ hq)
  have e4 : g.last.1 * p.1 * prodI (l.map (·.1)) ≤ 1000000 := by rw [Int.mul_assoc]; exact h4
  have m1 : 0 < g.last.1 * p.1 := Int.mul_pos h1 hp
  have m2 : p.1 ≤ g.last.1 * p.1 := by have := le_mul_one hp h1; rw [Int.mul_comm] at this; exact this
  have m3 : g.last.2.2 * p.1 ≤ g.last.1 * p.1 := Int.mul_le_mul_of_nonneg_right h2.2 (Int.le_of_lt hp)
  have m4 : 0 ≤ g.last.2.2 * p.1 := Int.mul_nonneg h2.1 (Int.le_of_lt hp)
  unfold mNext
  by_cases q1 : p.1 = 1
  · rw [if_pos q1]
    rw [q1] at h4
    exact ⟨h1, h2, h3', by simpa using h4, by omega⟩
  · rw [if_neg q1]
    by_cases q2 : g.mg = true ∨ g.last.2.1 = p.1 * p.2
    · rw [if_pos q2]
      refine ⟨m1, ?_, h3', e4, by simp only; omega⟩
      dsimp only
      unfold nz
      by_cases q3 : p.2 = 0
      · rw [if_pos q3]; exact ⟨Int.le_refl _, Int.le_of_lt m1⟩
      · rw [if_neg q3]
        by_cases q4 : g.mg = true
        · rw [if_pos q4]; exact ⟨Int.le_of_lt hp, m2⟩
        · rw [if_neg q4]; exact ⟨m4, m3⟩
    · rw [if_neg q2]
      refine ⟨hp, ?_, h3', ?_, by simp; omega⟩
      · dsimp only; unfold nz; split <;> exact ⟨by omega, by omega⟩
      · have := Int.mul_le_mul_of_nonneg_right (c := prodI (l.map (·.1))) m2 (Int.le_of_lt hl)
        exact Int.le_trans this e4
theorem MGood.fold : ∀ {l : List (Int × Int)} {g : MS}, MGood g l → MGood (l.foldl mNext g) []
  | [], _, h => h
  | p :: l, g, h => MGood.fold (l := l) (g := mNext g p) h.next
theorem small_of {a : Int} (h0 : 0 ≤ a) (h : a ≤ 1000000) : small a = true := by
  unfold small; simp only [Bool.and_eq_true, decide_eq_true_eq]; constructor <;> omega
theorem MGood.le {g : MS} {l : List (Int × Int)} (h : MGood g l) : g.last.1 ≤ 1000000 := by
  obtain ⟨h1, h2, h3, h4, h5⟩ := h
  have hl : 0 < prodI (l.map (·.1)) := prodI_pos fun x hx => by obtain ⟨q, hq, rfl⟩ := List.mem_map.mp hx; exact h3 q hq
  exact Int.le_trans (le_mul_one h1 hl) h4
theorem enumI {l m : List Int} {n : Nat} (h1 : l.length = n) (h2 : m.length = n) : ∃ L : List (Int × Int × Int), enumR 1 [l.map .int, m.map .int] n = L.map (fun p => .tup [.int p.1, .tup [.int p.2.1, .int p.2.2]]) ∧ L.map (·.2) = l.zip m := by
  refine ⟨(List.range n).map fun i : Nat => (1 + i, l.getD i 0, m.getD i 0), ?_, ?_⟩
  · unfold enumR rowAt
    rw [List.map_map]
    refine List.map_congr_left fun i hi => ?_
    have hi := List.mem_range.mp hi
    simp [List.getD, h1, h2, hi, List.getElem?_eq_getElem (show i < l.length by omega), List.getElem?_eq_getElem (show i < m.length by omega)]
  · rw [List.map_map]
    refine List.ext_getElem (by simp [h1, h2]) fun i hi1 hi2 => ?_
    have hi : i < n := by simpa using hi1
    simp [List.getD, List.getElem?_eq_getElem (show i < l.length by omega), List.getElem?_eq_getElem (show i < m.length by omega)]
theorem t_nz {H : AH} {i : Int} {c : Bool} (h : (i != 0) = c) : TruthR H (.int i) c := h ▸ t_int
section
variable {K : Kx} {σ : En} {H H₁ : AH} {t l r : Expr} {pos : Pos} {st x : Int}
theorem ev_nz (ht : Ev K t σ H (.int st) H) (hp : ∀ env whole, isTrue t env whole = do let v ← whole; standAt t.pos; holding [v] (truthy v)) (hl : Ev K l σ H (.int x) H) (hr : Ev K r σ H (.int 0) H) : Ev K (.IfExp t l r pos) σ H (.int (nz st x)) H := by
  unfold nz
  by_cases h : st = 0
  · rw [if_pos h]; exact ev_ite_f (tv_plain ht (t_nz (by simp [h])) hp) hr
  · rw [if_neg h]; exact ev_ite_t (tv_plain ht (t_nz (by simp [h])) hp) hl
theorem ev_tail {p q sp : Pos} {x : Str} {a : Int} {m : List Int} {vk} (hm : m.length ≤ 1000) (h1 : σ.lookup x = some (tI (a :: m))) (h2 : nameOk K.sc x = true) : Ev K (.Subscript (.Name x p) (.Slice (some (.Constant (.int 1) vk q)) none none sp) pos) σ H (.tup (m.map .int)) H :=
  ev_slice (ol := some 1) (oh := none) (ev_name h1 h2) (show PartV _ (some _) _ _ _ _ from ev_int) ⟨rfl, by decide⟩ (show PartV _ none _ _ _ _ from ⟨rfl, rfl⟩) rfl (slc_tup (l := (a :: m).map .int) (n := 1) (by decide) (by simp) (by simp; omega) rfl)
end
section
variable {B : Bs} (G : G2 B) {n : Nat}
include G
theorem merge_body {H : AH} {sh st : List Int} (g : MS) (x : Int × Int × Int) (l : List (Int × Int × Int)) (h : MGood g ((x :: l).map (·.2))) :
    ∃ σ₁ fl, (fl = .next ∨ fl = .cont) ∧ At ⟨B, n, dScope (nth P2 26)⟩ true (fTgt (nth (dBody (nth P2 26)) 4)) (.tup [.int x.1, .tup [.int x.2.1, .int x.2.2]]) [("ret", .ref H.length), ("merging", .bool g.mg), ("shape", tI sh), ("strides", tI st), ("mask", .none)] σ₁ ∧
      Bl ⟨B, n, dScope (nth P2 26)⟩ (fBody (nth (dBody (nth P2 26)) 4)) σ₁ (H ++ [.list g.l]) fl [("ret", .ref H.length), ("merging", .bool (mNext g x.2).mg), ("shape", tI sh), ("strides", tI st), ("mask", .none)] (H ++ [.list (mNext g x.2).l]) := by
  obtain ⟨i, s, t⟩ := x
  have hle := h.le
  obtain ⟨h1, h2, h3, h4, h5⟩ := h
  have hs := h3 (s, t) (.head _)
  have e1 : (H ++ [AO.list g.l])[H.length]? = some (.list g.l) := by simp
  have hz : g.l.length ≤ 1048576 := by simp [MS.l]; simp at h5; omega
  have hsm : small s = true := by
    refine small_of (Int.le_of_lt hs) ?_
    have hl : 0 < prodI ((l.map (·.2)).map (·.1)) := prodI_pos fun x hx => by obtain ⟨q, hq, rfl⟩ := List.mem_map.mp hx; exact h3 q (.tail _ hq)
    rw [List.map_cons, List.map_cons, prodI_cons] at h4
    have a1 := le_mul_one hs hl
    have a2 : s * prodI ((l.map (·.2)).map (·.1)) ≤ g.last.1 * (s * prodI ((l.map (·.2)).map (·.1))) := by rw [Int.mul_comm g.last.1]; exact le_mul_one (Int.mul_pos hs hl) h1
    exact Int.le_trans (Int.le_trans a1 a2) h4
  have s1 : small g.last.1 = true := small_of (Int.le_of_lt h1) hle
  have s2 : small g.last.2.2 = true := small_of h2.1 (Int.le_trans h2.2 hle)
  refine ⟨_, if s = 1 then .cont else .next, by split <;> simp, at_tuple (atl_cons (at_local rfl) (atl_cons (at_tuple (atl_cons (at_local rfl) (atl_cons (at_local rfl) atl_nil))) atl_nil)), ?_⟩
  refine bl_cons (st_assign_t (ev_item (ev_name rfl rfl) (ev_neg ev_int) (it_last (v := t3 g.last) (m := g.pre.map t3) (lq_ref e1))) (at_tuple (atl_cons (at_local rfl) (atl_cons (at_local rfl) (atl_cons (at_local rfl) atl_nil))))) ?_
  by_cases q1 : s = 1
  · rw [if_pos q1]
    have e : mNext g (s, t) = g := by unfold mNext; rw [if_pos q1]
    rw [e]
    exact rn_wk (bl_cont (st_if_t (tv_to (tv_cmp (ev_name rfl rfl) ev_int c_eq) (by simp [q1])) (bl_cont st_cont))) (by (repeat (first | exact sub_nil | exact sub_rfl | refine sub_cons rfl ?_)))
  · rw [if_neg q1]
    refine bl_cons (st_if_f (tv_to (tv_cmp (ev_name rfl rfl) ev_int c_eq) (by simp [q1])) bl_nil) ?_
    have fin : ∀ {σ : En} {H' : AH}, σ.lookup ("ret" : Str) = some (.ref H.length) → σ.lookup ("shape" : Str) = some (tI sh) → σ.lookup ("strides" : Str) = some (tI st) → σ.lookup ("mask" : Str) = some .none → σ.lookup ("s" : Str) = some (.int s) → 
        Bl ⟨B, n, dScope (nth P2 26)⟩ ((fBody (nth (dBody (nth P2 26)) 4)).drop 3) σ H' .next [("ret", .ref H.length), ("merging", .bool false), ("shape", tI sh), ("strides", tI st), ("mask", .none)] H' := fun a1 a2 a3 a4 a5 =>
      rn_wk (bl_cons (st_assign (ev_to (ev_ite_f (tv_to (tv_cmp (ev_name a4 rfl) ev_none (c_isnt rfl)) rfl) (ev_cmp (ev_name a5 rfl) ev_int c_eq)) (v' := .bool false) (by simp [q1])) rfl) bl_nil)
        (sub_cons a1 (sub_cons rfl (sub_cons a2 (sub_cons a3 (sub_cons a4 sub_nil)))))
    unfold mNext
    rw [if_neg q1]
    by_cases q2 : g.mg = true ∨ g.last.2.1 = s * t
    · rw [if_pos q2]
      refine bl_cons (H₁ := H ++ [AO.list (g.pre.map t3 ++ [t3 (g.last.1 * s, t, nz t (if g.mg = true then s else g.last.2.2 * s))])]) (st_if_t ?_ (bl_cons (rn_hp (st_setitem (l := g.l) (j := g.pre.length) (ev_tuple (el_cons (ev_bin (ev_name rfl rfl) (ev_name rfl rfl) (bin_mul s1)) (el_cons (ev_name rfl rfl) (el_cons (ev_nz (ev_name rfl rfl) (by intro _ _; rfl) (x := if g.mg = true then s else g.last.2.2 * s) ?_ ev_int) el_nil))) (by simp)) (ev_name rfl rfl) (ev_neg ev_int) e1 (.inr (by simp [MS.l]; omega)) (by simp [MS.l]) hz) (by simp [MS.l])) bl_nil)) (fin rfl rfl rfl rfl rfl)
      · by_cases q3 : g.mg = true
        · exact tv_or_t (tv_to (tv_plain (ev_name rfl rfl) t_bool (by intro _ _; rfl)) q3)
        · exact tv_or_f (tv_to (tv_plain (ev_name rfl rfl) t_bool (by intro _ _; rfl)) (by simpa using q3)) (tv_to (tv_cmp (ev_name rfl rfl) (ev_bin (ev_name rfl rfl) (ev_name rfl rfl) (bin_mul hsm)) c_eq) (by rcases q2 with q | q <;> simp_all))
      · by_cases q3 : g.mg = true
        · rw [if_pos q3]; exact ev_ite_t (tv_to (tv_plain (ev_name rfl rfl) t_bool (by intro _ _; rfl)) q3) (ev_name rfl rfl)
        · rw [if_neg q3]; exact ev_ite_f (tv_to (tv_plain (ev_name rfl rfl) t_bool (by intro _ _; rfl)) (by simpa using q3)) (ev_bin (ev_name rfl rfl) (ev_name rfl rfl) (bin_mul s2))
    · rw [if_neg q2]
      have q3 : g.mg = false := by cases hg : g.mg <;> simp_all
      have q4 : g.last.2.1 ≠ s * t := fun q => q2 (.inr q)
      refine bl_cons (H₁ := H ++ [AO.list ((g.pre ++ [g.last]).map t3 ++ [t3 (s, t, nz t s)])]) (st_if_f (tv_or_f (tv_to (tv_plain (ev_name rfl rfl) t_bool (by intro _ _; rfl)) q3) (tv_to (tv_cmp (ev_name rfl rfl) (ev_bin (ev_name rfl rfl) (ev_name rfl rfl) (bin_mul hsm)) c_eq) (by simpa using q4))) (bl_cons (rn_hp (st_expr (ev_append (ev_name rfl rfl) (ev_tuple (el_cons (ev_name rfl rfl) (el_cons (ev_name rfl rfl) (el_cons (ev_nz (ev_name rfl rfl) (by intro _ _; rfl) (ev_name rfl rfl) ev_int) el_nil))) (by simp)) e1 e1 hz)) (by simp [MS.l])) bl_nil)) (fin rfl rfl rfl rfl rfl)
theorem s_merge {sh st : List Int} (hs : Sides sh) (hz : sh.length ≤ 1000) (hl : sh.length = st.length) : Fp B (n + 1) (.ref (G.ad "_merge_dims")) [tI sh, tI st, .none] (.tup ((merge sh st).map t3)) := by
  have hp : Pure (.tup ((merge sh st).map t3)) := pure_tup fun v h => by
    obtain ⟨p, _, rfl⟩ := List.mem_map.mp h
    exact pure_tup fun v h => by simp at h; rcases h with rfl | rfl | rfl <;> exact pure_int
  cases sh with
  | nil =>
    refine G.pure 4 rfl (fl := .ret _) rfl rfl hp fun H => ?_
    exact rn_wk (bl_ret (st_if_t (tv_not (tv_plain (ev_name rfl rfl) (t_tup (l := []) (by simp)) (by intro _ _; rfl))) (bl_ret (st_ret (ev_tuple el_nil (by show 0 ≤ _; omega)))))) sub_nil
  | cons s sh => cases st with
    | nil => simp at hl
    | cons t st =>
      have hl' : sh.length = st.length := by simpa using hl
      obtain ⟨L, hL, hL2⟩ := enumI (l := sh) (m := st) rfl hl'.symm
      have hg0 : MGood ⟨[], (s, t, nz t s), s == 1⟩ (sh.zip st) := by
        have hp := hs.1 s (.head _)
        have h2 := hs.2
        rw [prodI_cons] at h2
        have e : (sh.zip st).map (·.1) = sh := List.map_fst_zip (by omega)
        refine ⟨hp, ?_, fun p hp' => hs.1 _ (.tail _ (List.of_mem_zip hp').1), by rw [e]; exact h2, by simp at hz ⊢; omega⟩
        dsimp only; unfold nz; split <;> exact ⟨by omega, by omega⟩
      refine G.fz 4 rfl (fl := .ret (.tup ((merge (s :: sh) (t :: st)).map t3))) rfl rfl fun H => ⟨[.list ((merge (s :: sh) (t :: st)).map t3)], ?_, fz_pure hp⟩
      have loop := forR_foldc (K := ⟨B, n, dScope (nth P2 26)⟩) (tgt := fTgt (nth (dBody (nth P2 26)) 4)) (bl := fBody (nth (dBody (nth P2 26)) 4)) (fun p : Int × Int × Int => .tup [.int p.1, .tup [.int p.2.1, .int p.2.2]])
        (fun g : MS => [("ret", .ref H.length), ("merging", .bool g.mg), ("shape", tI (s :: sh)), ("strides", tI (t :: st)), ("mask", .none)]) (fun g : MS => H ++ [.list g.l]) (fun g x => mNext g x.2) (fun g l => MGood g (l.map (·.2))) (fun g x l h => ⟨MGood.next (p := x.2) (l := l.map (·.2)) h, merge_body G g x l h⟩) L ⟨[], (s, t, nz t s), s == 1⟩ (by rw [hL2]; exact hg0)
      have e : L.foldl (fun g x => mNext g x.2) ⟨[], (s, t, nz t s), s == 1⟩ = (sh.zip st).foldl mNext ⟨[], (s, t, nz t s), s == 1⟩ := by rw [← hL2, List.foldl_map]
      rw [e, ← hL] at loop
      have e2 : ((sh.zip st).foldl mNext ⟨[], (s, t, nz t s), s == 1⟩).l = (merge (s :: sh) (t :: st)).map t3 := by simp [merge, MS.l]
      have hlen : ((merge (s :: sh) (t :: st)).map t3).length ≤ 1048576 := by
        rw [← e2]; have := hg0.fold.2.2.2.2; simp [MS.l]; simp at this; omega
      rw [e2] at loop
      simp only [List.length_cons] at hz hl
      refine rn_wk (bl_cons (st_if_f (tv_not (tv_plain (ev_name rfl rfl) (t_tup (l := (s :: sh).map .int) (by simp; omega)) (by intro _ _; rfl))) bl_nil) (bl_cons (st_assert (tv_and_t (tv_to (tv_cmp (ev_call (G.b 7 rfl rfl rfl) (el_cons (ev_name rfl rfl) el_nil) (fn_len (len_t (l := (s :: sh).map .int) (by simp; omega))) rfl) (ev_call (G.b 7 rfl rfl rfl) (el_cons (ev_name rfl rfl) el_nil) (fn_len (len_t (l := (t :: st).map .int) (by simp; omega))) rfl) c_eq) (by simp [hl'])) (tv_or_t (tv_to (tv_cmp (ev_name rfl rfl) ev_none (c_is rfl)) rfl))))
        (bl_cons (st_assign (ev_list (el_cons (ev_tuple (el_cons (ev_item (ev_name rfl rfl) ev_int (it_tup (j := 0) rfl rfl (by decide))) (el_cons (ev_item (ev_name rfl rfl) ev_int (it_tup (j := 0) rfl rfl (by decide))) (el_cons (ev_nz (ev_item (ev_name rfl rfl) ev_int (it_tup (j := 0) rfl rfl (by decide))) (by intro _ _; rfl) (ev_item (ev_name rfl rfl) ev_int (it_tup (j := 0) rfl rfl (by decide))) ev_int) el_nil))) (by simp)) el_nil) (by simp)) rfl)
        (bl_cons (st_assign (ev_ite_f (tv_to (tv_cmp (ev_name rfl rfl) ev_none (c_isnt rfl)) rfl) (ev_cmp (ev_item (ev_name rfl rfl) ev_int (it_tup (j := 0) rfl rfl (by decide))) ev_int c_eq)) rfl)
        (bl_cons (rn_sub (st_for (si_enz (ls := [sh.map .int, st.map .int]) (n := sh.length) (G.b 6 rfl rfl rfl) (G.b 1 rfl rfl rfl) (el_cons (ev_tail (by omega) rfl rfl) (el_cons (ev_tail (by omega) rfl rfl) el_nil)) (by simp [hl']) (.inl rfl)) loop) (by (repeat (first | exact sub_nil | exact sub_rfl | refine sub_cons rfl ?_))))
        (bl_ret (st_ret (ev_call (G.b 0 rfl rfl rfl) (el_cons (ev_name rfl rfl) el_nil) (fn_tuple (lq_ref (by simp)) hlen) rfl)))))))) sub_nil
end
end Tg
namespace Tg
set_option maxHeartbeats 1000000
theorem rowsZ {δ ε : Type} {f : δ → V} {g : ε → V} {l : List δ} {m : List ε} {n : Nat} (h1 : l.length = n) (h2 : m.length = n) : rows [l.map f, m.map g] n = (l.zip m).map fun p => .tup [f p.1, g p.2] := by
  rw [rows2 (by simpa using h1) (by simpa using h2)]
  clear h1 h2
  induction l generalizing m with
  | nil => rfl
  | cons a l ih => cases m with
    | nil => rfl
    | cons b m => simp only [List.map_cons, List.zipWith_cons_cons, List.zip_cons_cons]; rw [ih]
theorem cmp_to {H : AH} {op : CmpOp} {a b : V} {c c' : Bool} (h : CmpR H op a b c) (q : c = c') : CmpR H op a b c' := q ▸ h
noncomputable abbrev One (K : Kx) (elt : Expr) : En → List V → Prop := fun σ o => ∃ v, (∀ H, Ev K elt σ H v H) ∧ o = [v]
section
variable {K : Kx} {tgt elt e : Expr} {σ : En} {δ : Type}
theorem cmpL_map (f g : δ → V) : ∀ (l : List δ), (∀ x ∈ l, ∃ σ₁, At K false tgt (f x) σ σ₁ ∧ Sub σ σ₁ ∧ ∀ H, Ev K elt σ₁ H (g x) H) → CmpL (Turn K tgt [] (One K elt) σ) (l.map f) (l.map g)
  | [], _ => rfl
  | x :: l, h => by
    obtain ⟨σ₁, h1, h2, h3⟩ := h x (.head _)
    exact ⟨[g x], _, ⟨σ₁, true, h1, h2, rfl, by rw [if_pos rfl]; exact ⟨_, h3, rfl⟩⟩, cmpL_map f g l fun y hy => h y (.tail _ hy), rfl⟩
theorem cmpL_filter (f g : δ → V) (p : δ → Bool) : ∀ (l : List δ), (∀ x ∈ l, ∃ σ₁, At K false tgt (f x) σ σ₁ ∧ Sub σ σ₁ ∧ (∀ H, Tv K e σ₁ H (p x) H) ∧ (p x = true → ∀ H, Ev K elt σ₁ H (g x) H)) → CmpL (Turn K tgt [e] (One K elt) σ) (l.map f) ((l.filter p).map g)
  | [], _ => rfl
  | x :: l, h => by
    obtain ⟨σ₁, h1, h2, h3, h4⟩ := h x (.head _)
    have ih := cmpL_filter f g p l fun y hy => h y (.tail _ hy)
    rw [List.filter_cons]
    cases hp : p x with
    | true => exact ⟨[g x], _, ⟨σ₁, true, h1, h2, fun H => hp ▸ h3 H, by rw [if_pos rfl]; exact ⟨_, h4 hp, rfl⟩⟩, ih, by simp⟩
    | false => exact ⟨[], _, ⟨σ₁, false, h1, h2, fun H => hp ▸ h3 H, by simp⟩, ih, by simp⟩
end
section
variable {K : Kx} {f tgt iter elt : Expr} {ifs : List Expr} {scope : Scope} {pos p : Pos} {σ : En} {H : AH} {vs : List V}
theorem ev_comp {o : List V} (hsrc : Si K tgt iter σ H vs H) (hc : CmpL (Turn (K.inn scope) tgt ifs (One (K.inn scope) elt) (mask scope σ)) vs o) (hz : o.length ≤ 1048576) (hok : compOk scope K.sc = true) (h00 : scope.names.lookup (".0" : Str) ≠ none) (hlo : locOk scope = true) (hfold : ∀ env x, foldedSetIterable iter env x = pure x) :
    Ev K (.ListComp elt [⟨tgt, iter, ifs, 0⟩] scope p) σ H (.ref H.length) (H ++ [.list o]) :=
  ev_listcomp hsrc (cb_emit rfl) hc hz hok h00 hlo (by intro g h; simp at h) hfold
theorem ev_tuple_comp {o : List V} (hfv : ∀ H, Ev K f σ H (.raw (.type "tuple")) H) (hsrc : Si K tgt iter σ H vs H) (hc : CmpL (Turn (K.inn scope) tgt ifs (One (K.inn scope) elt) (mask scope σ)) vs o) (hz : o.length ≤ 1048576) (hp : ∀ v ∈ o, Pure v) (hok : compOk scope K.sc = true) (h00 : scope.names.lookup (".0" : Str) ≠ none) (hlo : locOk scope = true)
    (hfold : ∀ env x, foldedSetIterable iter env x = pure x := by intro _ _; rfl) (hf : callEq f [.ListComp elt [⟨tgt, iter, ifs, 0⟩] scope p] pos := by intro _; rfl) (hso : starOk [.ListComp elt [⟨tgt, iter, ifs, 0⟩] scope p] = true := by rfl) :
    Ev K (.Call f [.ListComp elt [⟨tgt, iter, ifs, 0⟩] scope p] [] pos) σ H (.tup o) H :=
  ev_fz (T := [.list o]) (ev_call (hfv H) (el_cons (ev_comp hsrc hc hz hok h00 hlo hfold) el_nil) (fn_tuple (lq_ref (by simp)) hz) rfl hf hso) (fz_pure (pure_tup hp))
theorem ev_sum_comp {o : List Int} (hfv : ∀ H, Ev K f σ H (.raw (.builtin "sum")) H) (hsrc : Si K tgt iter σ H vs H) (hc : CmpL (Turn (K.inn scope) tgt ifs (One (K.inn scope) elt) (mask scope σ)) vs (o.map .int)) (hz : o.length ≤ 1048576) (hok : compOk scope K.sc = true) (h00 : scope.names.lookup (".0" : Str) ≠ none) (hlo : locOk scope = true)
    (hfold : ∀ env x, foldedSetIterable iter env x = pure x := by intro _ _; rfl) (hf : callEq f [.ListComp elt [⟨tgt, iter, ifs, 0⟩] scope p] pos := by intro _; rfl) (hso : starOk [.ListComp elt [⟨tgt, iter, ifs, 0⟩] scope p] = true := by rfl) :
    Ev K (.Call f [.ListComp elt [⟨tgt, iter, ifs, 0⟩] scope p] [] pos) σ H (.int o.sum) H :=
  ev_fz (T := [.list (o.map .int)]) (ev_call (hfv H) (el_cons (ev_comp hsrc hc (by simpa using hz) hok h00 hlo hfold) el_nil) (fn_sum (lq_ref (by simp))) rfl hf hso) (fz_pure pure_int)
theorem pure_ints {l : List Int} : ∀ v ∈ l.map V.int, Pure v := fun v h => by obtain ⟨i, _, rfl⟩ := List.mem_map.mp h; exact pure_int
end
noncomputable abbrev tP (l : List (Int × Int)) : V := .tup (l.map fun p => .tup [.int p.1, .int p.2])
section
variable {B : Bs} (G : G2 B) {n : Nat}
include G
theorem G2.f {σ : En} {H : AH} {sc : Scope} {xp x : Str} {pp ap : Pos} {sh st off c} {v : V} (h1 : σ.lookup xp = some (vw (G.ad "View") sh st off c)) (h2 : nameOk sc xp = true) (hx : fdN.contains x = true) (hv : (fdN.zip [tI sh, tI st, .int off, .none, .bool c]).lookup x = some v) (hr : isRaw v = false) :
    Ev ⟨B, n, sc⟩ (.Attribute (.Name xp pp) x ap) σ H v H :=
  ev_attr (ev_name h1 h2) G.cls (G.fld x (by simpa using hx)) ob_obj hv hr
theorem G2.mk4 {σ : En} {H : AH} {sc : Scope} {es : List Expr} {vp ap pos : Pos} {sh st : List Int} {off : Int} {m : V} (hv : sc.names.lookup ("View" : Str) = some .globalImplicit) (he : EvL ⟨B, n + 4, sc⟩ es σ H [tI sh, tI st, .int off, m] H) (hs : Sides sh) (hz : sh.length ≤ 1000) (hl : sh.length = st.length) (hm : Mk' m sh)
    (hev : methEq (.Name "View" vp) "create" ap es pos := by intro _; exact ⟨_, rfl⟩) (hso : starOk es = true := by rfl) :
    Ev ⟨B, n + 4, sc⟩ (.Call (.Attribute (.Name "View" vp) "create" ap) es [] pos) σ H (vw (G.ad "View") sh (canonL sh st) off (okB off (canonL sh st) sh)) H :=
  ev_static (G.e 6 rfl hv rfl) G.sm he (Fp.fn (s_create4 G hs hz hl hm)) (G.c 8 rfl) hev hso
theorem s_resize {sh st : List Int} {off : Int} {c : Bool} {l : List (Int × Int)} (hs : Sides (l.map fun p => p.2 - p.1)) (hz : l.length ≤ 1000) (hl : l.length = st.length) (hsm : ∀ x ∈ st, small x = true) :
    Fp B (n + 5) (.ref (G.ad "_unsafe_resize")) [vw (G.ad "View") sh st off c, tP l]
      (vw (G.ad "View") (l.map fun p => p.2 - p.1) (canonL (l.map fun p => p.2 - p.1) st) (off + ((st.zip l).map fun p => p.1 * p.2.1).sum) (okB (off + ((st.zip l).map fun p => p.1 * p.2.1).sum) (canonL (l.map fun p => p.2 - p.1) st) (l.map fun p => p.2 - p.1))) := by
  refine G.pure 9 rfl (fl := .ret _) rfl rfl pure_vw fun H => ?_
  have hzip : ((st.zip l).map fun p => p.1 * p.2.1).length ≤ 1048576 := by simp; omega
  have hz2 : ((l.map fun p => p.2 - p.1).map V.int).length ≤ 1048576 := by simp; omega
  refine rn_wk (bl_cons (st_assign (ev_sum_comp (o := (st.zip l).map fun p => p.1 * p.2.1) (fun H => G.b 5 rfl rfl rfl) (si_zip (ls := [st.map .int, l.map fun p => .tup [.int p.1, .int p.2]]) (n := l.length) (G.b 1 rfl rfl rfl) (el_cons (G.f rfl rfl rfl rfl rfl) (el_cons (ev_name rfl rfl) el_nil)) (by simp [hl]) (.inl rfl)) ?_ hzip rfl (by decide) rfl) rfl) (bl_cons (st_if_f (tv_plain (G.f rfl rfl rfl rfl rfl) t_none (by intro _ _; rfl)) bl_nil)
    (bl_cons (st_assign_comp (o := (l.map fun p => p.2 - p.1).map .int) (si_tup (ev_name rfl rfl)) (cb_emit rfl) ?_ hz2 pure_ints rfl rfl (by decide) rfl (by intro g h; simp at h) (by intro _ _; rfl) (by intro env h; cases env; dsimp only at h; subst h; first | rfl | kernel_rfl))
      (bl_cons (st_if_f (tv_and_f (tv_to (tv_cmp (ev_name rfl rfl) ev_none (c_isnt rfl)) rfl)) bl_nil) (bl_ret (st_ret (G.mk4 rfl (el_cons (ev_tuple_gen (ys := (l.map fun p => p.2 - p.1).map .int) (G.b 0 rfl rfl rfl) (gx_mk (m := n + 3) (si_lst (ev_name rfl rfl)) (genL_map V.int V.int _ fun x _ => ⟨_, at_local rfl, sub_tl rfl sub_rfl, fun k H => ?_⟩) (by show n + 3 < n + 4; omega) rfl rfl rfl rfl) hz2) (el_cons (G.f rfl rfl rfl rfl rfl) (el_cons (ev_bin (G.f rfl rfl rfl rfl rfl) (ev_name rfl rfl) bin_add) (el_cons (ev_name rfl rfl) el_nil)))) hs (by simpa using hz) (by simpa using hl) (.inl rfl)))))))) sub_nil
  · rw [rowsZ hl.symm rfl, List.map_map]
    refine cmpL_map _ _ _ fun p hp => ⟨_, at_two rfl rfl, sub_tl rfl (sub_tl rfl sub_rfl), fun H => ?_⟩
    exact ev_bin (ev_name rfl rfl) (ev_item (ev_name rfl rfl) ev_int (it_tup (j := 0) rfl rfl (by decide))) (bin_mul (hsm _ (List.of_mem_zip hp).1))
  · rw [List.map_map]
    exact cmpL_map _ _ _ fun p hp => ⟨_, at_two rfl rfl, sub_tl rfl (sub_tl rfl sub_rfl), fun H => ev_bin (ev_name rfl rfl) (ev_name rfl rfl) bin_sub⟩
  · exact ev_ite_f (tv_plain (ev_call ((G.gn k).b 10 rfl rfl rfl) (el_cons (ev_name rfl rfl) (el_cons ((G.gn k).e 8 rfl rfl rfl) el_nil)) (fn_isi G.isn) rfl) t_bool (by intro _ _; rfl)) (ev_name rfl rfl)
end
end Tg
namespace Tg
set_option maxHeartbeats 1000000
theorem hn3 {a b c : List V} {n : Nat} (h1 : a.length = n) (h2 : b.length = n) (h3 : c.length = n) : ∀ l ∈ [a, b, c], l.length = n := fun l h => by
  simp only [List.mem_cons, List.not_mem_nil, or_false] at h
  rcases h with rfl | rfl | rfl <;> assumption
theorem all_true {δ : Type} {l : List δ} : (l.map fun _ => true).all id = true := by simp
section
variable {B : Bs} (G : G2 B) {n : Nat}
include G
theorem G2.len2 {σ : En} {H : AH} {sc : Scope} {a b : Expr} {l m : List V} {c : Bool} {f g pos p q : Pos} (op : CmpOp) (ha : Ev ⟨B, n, sc⟩ a σ H (.tup l) H) (hb : Ev ⟨B, n, sc⟩ b σ H (.tup m) H) (hl : l.length ≤ 1048576) (hm : m.length ≤ 1048576) (hc : CmpR H op (.int l.length) (.int m.length) c) (hk : sc.names.lookup ("len" : Str) = some .globalImplicit)
    (h1 : callEq (.Name "len" f) [a] p) (h2 : callEq (.Name "len" g) [b] q) (s1 : starOk [a] = true) (s2 : starOk [b] = true) (hmm : behindInMarks op (.Call (.Name "len" g) [b] [] q) = false) : Tv ⟨B, n, sc⟩ (.Compare (.Call (.Name "len" f) [a] [] p) [op] [.Call (.Name "len" g) [b] [] q] pos) σ H c H :=
  tv_cmp (ev_call (G.b 7 rfl hk rfl) (el_cons ha el_nil fun env => star_ok s1 env a (.head _) []) (fn_len (len_t hl)) rfl h1 s1) (ev_call (G.b 7 rfl hk rfl) (el_cons hb el_nil fun env => star_ok s2 env b (.head _) []) (fn_len (len_t hm)) rfl h2 s2) hc hmm
theorem s_shrink {sh st : List Int} {off : Int} {c : Bool} {l : List (Int × Int)} (hs : Sides (l.map fun p => p.2 - p.1)) (hz : l.length ≤ 1000) (hl : l.length = st.length) (hsh : l.length = sh.length) (hsm : ∀ x ∈ st, small x = true) (hin : ∀ p ∈ sh.zip l, 0 ≤ p.2.1 ∧ p.2.1 ≤ p.2.2 ∧ p.2.2 ≤ p.1) :
    Fp B (n + 6) (.ref (G.ad "shrink")) [vw (G.ad "View") sh st off c, tP l]
      (vw (G.ad "View") (l.map fun p => p.2 - p.1) (canonL (l.map fun p => p.2 - p.1) st) (off + ((st.zip l).map fun p => p.1 * p.2.1).sum) (okB (off + ((st.zip l).map fun p => p.1 * p.2.1).sum) (canonL (l.map fun p => p.2 - p.1) st) (l.map fun p => p.2 - p.1))) := by
  refine G.pure 10 rfl (fl := .ret _) rfl rfl pure_vw fun H => ?_
  refine rn_wk (bl_cons (st_assert (tv_and_t (tv_to (tv_plain (ev_all (bs := (sh.zip l).map fun _ => true) (G.b 3 rfl rfl rfl) (gx_mk (m := n) (si_zip (ls := [sh.map .int, l.map fun p => .tup [.int p.1, .int p.2]]) (n := l.length) (G.b 1 rfl rfl rfl) (el_cons (G.f rfl rfl rfl rfl rfl) (el_cons (ev_name rfl rfl) el_nil)) (by simp [hsh]) (.inl rfl)) ?_ (by show n < n + 5; omega) rfl rfl rfl rfl)) t_bool (by intro _ _; rfl)) all_true)
    (G.len2 (l := l.map fun p => .tup [.int p.1, .int p.2]) (m := sh.map .int) .Eq (ev_name rfl rfl) (G.f rfl rfl rfl rfl rfl) (by simp; omega) (by simp; omega) (cmp_to c_eq (by simp [hsh])) rfl (by intro _; rfl) (by intro _; rfl) rfl rfl rfl)))
    (bl_ret (st_ret (ev_meth (ev_name rfl rfl) ob_obj (G.mt "_unsafe_resize" (by simp [mtN])) rfl (el_cons (ev_name rfl rfl) el_nil) (Fp.fn (s_resize G hs hz hl hsm)) (G.c 9 rfl))))) sub_nil
  rw [rowsZ hsh.symm rfl, List.map_map]
  refine genL_map _ _ _ fun p hp => ⟨_, at_tuple (atl_cons (at_local rfl) (atl_cons (at_two rfl rfl) atl_nil)), sub_tl rfl (sub_tl rfl (sub_tl rfl sub_rfl)), fun k H => ?_⟩
  obtain ⟨h1, h2, h3⟩ := hin p hp
  exact ev_cmp3 ev_int (ev_name rfl rfl) (ev_name rfl rfl) (ev_name rfl rfl) (cmp_to c_le (by simpa using h1)) (cmp_to c_le (by simpa using h2)) (cmp_to c_le (by simpa using h3))
theorem s_expand {sh st nw : List Int} {off : Int} {c : Bool} (hs : Sides sh) (hn : Sides nw) (hz : sh.length ≤ 1000) (hl : sh.length = st.length) (hsh : sh.length = nw.length) (hin : ∀ p ∈ sh.zip (nw.zip st), p.1 = p.2.1 ∨ p.1 = 1 ∧ p.2.2 = 0) :
    Fp B (n + 5) (.ref (G.ad "expand")) [vw (G.ad "View") sh st off c, tI nw] (vw (G.ad "View") nw (canonL nw st) off (okB off (canonL nw st) nw)) := by
  refine G.pure 11 rfl (fl := .ret _) rfl rfl pure_vw fun H => ?_
  refine rn_wk (bl_cons (st_if_f (G.len2 (l := nw.map .int) (m := sh.map .int) .NotEq (ev_name rfl rfl) (G.f rfl rfl rfl rfl rfl) (by simp; omega) (by simp; omega) (cmp_to c_ne (by simp [hsh])) rfl (by intro _; rfl) (by intro _; rfl) rfl rfl rfl) bl_nil)
    (bl_cons (st_if_f (tv_to (tv_cmp ev_int (G.f rfl rfl rfl rfl rfl) c_in) (pos_mem hs)) bl_nil)
    (bl_cons (st_assert (tv_to (tv_plain (ev_all (bs := (sh.zip (nw.zip st)).map fun _ => true) (G.b 3 rfl rfl rfl) (gx_mk (m := n) (si_zip (ls := [sh.map .int, nw.map .int, st.map .int]) (n := sh.length) (G.b 1 rfl rfl rfl) (el_cons (G.f rfl rfl rfl rfl rfl) (el_cons (ev_name rfl rfl) (el_cons (G.f rfl rfl rfl rfl rfl) el_nil))) (hn3 (by simp) (by simp [hsh]) (by simp [hl])) (.inr rfl)) ?_ (by show n < n + 4; omega) rfl rfl rfl rfl)) t_bool (by intro _ _; rfl)) all_true))
    (bl_cons (st_assign (ev_ite_f (tv_plain (G.f rfl rfl rfl rfl rfl) t_none (by intro _ _; rfl)) ev_none) rfl)
    (bl_ret (st_ret (G.mk4 rfl (el_cons (ev_name rfl rfl) (el_cons (G.f rfl rfl rfl rfl rfl) (el_cons (G.f rfl rfl rfl rfl rfl) (el_cons (ev_name rfl rfl) el_nil)))) hn (by omega) (by omega) (.inl rfl)))))))) sub_nil
  rw [rowsI3 rfl hsh.symm hl.symm, List.map_map]
  refine genL_map _ _ _ fun p hp => ⟨_, at_three rfl rfl rfl, sub_tl rfl (sub_tl rfl (sub_tl rfl sub_rfl)), fun k H => ?_⟩
  by_cases q : p.1 = p.2.1
  · exact ev_or_t (ev_to (ev_cmp (ev_name rfl rfl) (ev_name rfl rfl) c_eq) (by simpa using q)) t_bool
  · obtain ⟨q1, q2⟩ := (hin p hp).resolve_left q
    exact ev_or_f (ev_to (v' := .bool false) (ev_cmp (ev_name rfl rfl) (ev_name rfl rfl) c_eq) (by simpa using q)) t_bool (ev_and_t (ev_to (v' := .bool true) (ev_cmp (ev_name rfl rfl) ev_int c_eq) (by simpa using q1)) t_bool (ev_to (ev_cmp (ev_name rfl rfl) ev_int c_eq) (by simpa using q2)))
end
end Tg
namespace Tg
set_option maxHeartbeats 1000000
noncomputable abbrev pick (l : List Int) (ax : List Nat) : List Int := ax.map fun a => l.getD a 0
noncomputable abbrev nI (l : List Nat) : List Int := l.map fun a : Nat => (a : Int)
theorem rng_eq (k : Nat) : rngS 0 1 k = nI (List.range k) := by unfold rngS; exact List.map_congr_left fun i _ => by omega
theorem it_pick {H : AH} {l : List Int} {a : Nat} (h : a < l.length) (hz : l.length ≤ 1000) : ItemR H (tI l) (.int a) (.int (l.getD a 0)) :=
  it_tup (j := a) rfl (by simp [List.getElem?_eq_getElem h, List.getD]) (by omega)
theorem sides_pick {sh : List Int} {ax : List Nat} (hs : Sides sh) (hp : ax.Perm (List.range sh.length)) : Sides (pick sh ax) := by
  have e : pick sh (List.range sh.length) = sh := by
    refine List.ext_getElem (by simp) fun i h1 h2 => ?_
    simp [List.getD, List.getElem?_eq_getElem h2]
  have hp' : (pick sh ax).Perm sh := by have := hp.map fun a => sh.getD a 0; rwa [show (List.range sh.length).map (fun a => sh.getD a 0) = sh from e] at this
  refine ⟨fun x hx => hs.1 x (hp'.mem_iff.mp hx), ?_⟩
  have : prodI (pick sh ax) = prodI sh := by
    unfold prodI
    exact hp'.foldl_eq' (fun x _ y _ z => by rw [Int.mul_assoc, Int.mul_comm x y, ← Int.mul_assoc]) 1
  rw [this]; exact hs.2
section
variable {B : Bs} (G : G2 B) {n : Nat}
include G
theorem s_permute {sh st : List Int} {off : Int} {c : Bool} {ax : List Nat} (hs : Sides sh) (hz : sh.length < 64) (hl : sh.length = st.length) (hp : ax.Perm (List.range sh.length)) :
    Fp B (n + 5) (.ref (G.ad "permute")) [vw (G.ad "View") sh st off c, tI (nI ax)] (vw (G.ad "View") (pick sh ax) (canonL (pick sh ax) (pick st ax)) off (okB off (canonL (pick sh ax) (pick st ax)) (pick sh ax))) := by
  have hlen : ax.length = sh.length := by simpa using hp.length_eq
  have hlt : ∀ a ∈ ax, a < sh.length := fun a h => List.mem_range.mp (hp.mem_iff.mp h)
  have hm : (rngS 0 1 sh.length).Perm (nI ax) := by rw [rng_eq]; exact (hp.map _).symm
  have hso : (rngS 0 1 sh.length).Pairwise (· ≤ ·) := by
    rw [rng_eq, List.pairwise_map]; exact List.pairwise_lt_range.imp fun h => by omega
  have hrs : Builtin.Range.rangeSize 0 (sh.length : Int) 1 = sh.length := by rw [rangeSize_nat]; omega
  refine G.fz 12 rfl (fl := .ret (vw (G.ad "View") (pick sh ax) (canonL (pick sh ax) (pick st ax)) off (okB off (canonL (pick sh ax) (pick st ax)) (pick sh ax)))) rfl rfl fun H => ⟨[.list ((rngS 0 1 sh.length).map .int), .list ((rngS 0 1 sh.length).map .int)], ?_, fz_pure pure_vw⟩
  have eh : H ++ [AO.list ((rngS 0 1 sh.length).map .int), .list ((rngS 0 1 sh.length).map .int)] = (H ++ [AO.list ((rngS 0 1 sh.length).map .int)]) ++ [.list ((rngS 0 1 sh.length).map .int)] := by simp
  rw [eh]
  refine rn_wk (bl_cons (st_assert (tv_to (tv_cmp (ev_call (G.b 13 rfl rfl rfl) (el_cons (ev_name rfl rfl) el_nil) (fn_sorted (l := nI ax) hm hso (by simp [hlen, hz])) rfl) (ev_list_rg (n := sh.length) (G.b 9 rfl rfl rfl) (rg_1 (G.b 8 rfl rfl rfl) (el_cons (ev_call (G.b 7 rfl rfl rfl) (el_cons (G.f rfl rfl rfl rfl rfl) el_nil) (fn_len (len_t (l := sh.map .int) (by simp; omega))) rfl) el_nil)) (by rw [List.length_map]; exact small_one (by omega) (by omega) (by omega) (by omega)) (by rw [List.length_map]; exact hrs) (by omega)) (c_eql (l := rngS 0 1 sh.length) (m := rngS 0 1 sh.length) (lq_ref (by simp)) (lq_ref (by simp)))) (by simp)))
    (bl_ret (st_ret (G.mk4 rfl (el_cons (ev_tuple_gen (ys := (pick sh ax).map .int) (G.b 0 rfl rfl rfl) (gx_mk (m := n) (si_tup (ev_name rfl rfl)) ?_ (by show n < n + 4; omega) rfl rfl rfl rfl) (by simp; omega)) (el_cons (ev_tuple_gen (ys := (pick st ax).map .int) (G.b 0 rfl rfl rfl) (gx_mk (m := n) (si_tup (ev_name rfl rfl)) ?_ (by show n < n + 4; omega) rfl rfl rfl rfl) (by simp; omega)) (el_cons (G.f rfl rfl rfl rfl rfl) (el_cons (ev_ite_f (tv_to (tv_cmp (G.f rfl rfl rfl rfl rfl) ev_none (c_isnt rfl)) rfl) ev_none) el_nil)))) (sides_pick hs hp) (by simp; omega) (by simp) (.inl rfl))))) sub_nil
  · rw [List.map_map, List.map_map]
    exact genL_map _ _ ax fun a ha => ⟨_, at_local rfl, sub_tl rfl sub_rfl, fun k H => ev_item ((G.gn k).f rfl rfl rfl rfl rfl) (ev_name rfl rfl) (it_pick (hlt a ha) (by omega))⟩
  · rw [List.map_map, List.map_map]
    exact genL_map _ _ ax fun a ha => ⟨_, at_local rfl, sub_tl rfl sub_rfl, fun k H => ev_item ((G.gn k).f rfl rfl rfl rfl rfl) (ev_name rfl rfl) (it_pick (hl ▸ hlt a ha) (by omega))⟩
end
end Tg
namespace Tg
set_option maxHeartbeats 1000000
section
variable {K : Kx} {tgt elt e : Expr} {σ : En} {δ ε : Type}
theorem cmpL_map2 (f : δ → V) (h : δ → ε) (g : ε → V) (l : List δ) (q : ∀ x ∈ l, ∃ σ₁, At K false tgt (f x) σ σ₁ ∧ Sub σ σ₁ ∧ ∀ H, Ev K elt σ₁ H (g (h x)) H) : CmpL (Turn K tgt [] (One K elt) σ) (l.map f) ((l.map h).map g) := by
  rw [List.map_map]; exact cmpL_map f (g ∘ h) l q
theorem cmpL_filter2 (f : δ → V) (h : δ → ε) (g : ε → V) (p : δ → Bool) (l : List δ) (q : ∀ x ∈ l, ∃ σ₁, At K false tgt (f x) σ σ₁ ∧ Sub σ σ₁ ∧ (∀ H, Tv K e σ₁ H (p x) H) ∧ (p x = true → ∀ H, Ev K elt σ₁ H (g (h x)) H)) : CmpL (Turn K tgt [e] (One K elt) σ) (l.map f) (((l.filter p).map h).map g) := by
  rw [List.map_map]; exact cmpL_filter f (g ∘ h) p l q
end
noncomputable def ceilS (s m : Int) : Int := (s + ((m.natAbs : Int) - 1)).fdiv m.natAbs
section
variable {B : Bs} (G : G2 B) {n : Nat}
include G
theorem s_stride {sh st mul : List Int} {off : Int} {c : Bool} (hs : Sides ((sh.zip mul).map fun p => ceilS p.1 p.2)) (hz : sh.length ≤ 1000) (hl : sh.length = st.length) (hm : sh.length = mul.length) (h0 : ∀ m ∈ mul, m ≠ 0 ∧ m.natAbs < 1073741824) (hsm : ∀ x ∈ st, small x = true) (hss : ∀ x ∈ sh, small (x - 1) = true) :
    Fp B (n + 5) (.ref (G.ad "stride")) [vw (G.ad "View") sh st off c, tI mul]
      (vw (G.ad "View") ((sh.zip mul).map fun p => ceilS p.1 p.2) (canonL ((sh.zip mul).map fun p => ceilS p.1 p.2) ((st.zip mul).map fun p => p.1 * p.2))
        (off + (((sh.zip (st.zip mul)).filter fun p => decide (p.2.2 < 0)).map fun p => (p.1 - 1) * p.2.1).sum)
        (okB (off + (((sh.zip (st.zip mul)).filter fun p => decide (p.2.2 < 0)).map fun p => (p.1 - 1) * p.2.1).sum) (canonL ((sh.zip mul).map fun p => ceilS p.1 p.2) ((st.zip mul).map fun p => p.1 * p.2)) ((sh.zip mul).map fun p => ceilS p.1 p.2))) := by
  refine G.pure 13 rfl (fl := .ret _) rfl rfl pure_vw fun H => ?_
  have z1 : ((st.zip mul).map fun p => p.1 * p.2).length ≤ 1048576 := by simp; omega
  have z2 : ((sh.zip mul).map fun p => ceilS p.1 p.2).length ≤ 1048576 := by simp; omega
  have z3 : (((sh.zip (st.zip mul)).filter fun p => decide (p.2.2 < 0)).map fun p => (p.1 - 1) * p.2.1).length ≤ 1048576 := by
    rw [List.length_map]; have := List.length_filter_le (fun p => decide (p.2.2 < 0)) (sh.zip (st.zip mul)); simp at this; omega
  refine rn_wk (bl_cons (st_assert (tv_to (tv_plain (ev_all (bs := mul.map fun _ => true) (G.b 3 rfl rfl rfl) (gx_mk (m := n) (si_tup (ev_name rfl rfl)) (by rw [List.map_map]; exact genL_map V.int _ mul fun x hx => ⟨_, at_local rfl, sub_tl rfl sub_rfl, fun k H => ev_and_t (ev_call ((G.gn k).b 10 rfl rfl rfl) (el_cons (ev_name rfl rfl) (el_cons ((G.gn k).b 11 rfl rfl rfl) el_nil)) (fn_isi G.isi) rfl) t_bool (ev_to (ev_cmp (ev_name rfl rfl) ev_int c_ne) (by have := (h0 x hx).1; simp [this]))⟩) (by show n < n + 4; omega) rfl rfl rfl rfl)) t_bool (by intro _ _; rfl)) all_true))
    (bl_cons (st_assign (ev_tuple_comp (o := ((st.zip mul).map fun p => p.1 * p.2).map .int) (fun H => G.b 0 rfl rfl rfl) (si_zip (ls := [st.map .int, mul.map .int]) (n := sh.length) (G.b 1 rfl rfl rfl) (el_cons (G.f rfl rfl rfl rfl rfl) (el_cons (ev_name rfl rfl) el_nil)) (by simp [← hl, ← hm]) (.inl rfl)) ?_ (by rw [List.length_map]; exact z1) pure_ints rfl (by decide) rfl) rfl)
    (bl_cons (st_assign (ev_tuple_comp (o := ((sh.zip mul).map fun p => ceilS p.1 p.2).map .int) (fun H => G.b 0 rfl rfl rfl) (si_zip (ls := [sh.map .int, mul.map .int]) (n := sh.length) (G.b 1 rfl rfl rfl) (el_cons (G.f rfl rfl rfl rfl rfl) (el_cons (ev_name rfl rfl) el_nil)) (by simp [← hm]) (.inl rfl)) ?_ (by rw [List.length_map]; exact z2) pure_ints rfl (by decide) rfl) rfl)
    (bl_cons (st_assign (ev_sum_comp (o := ((sh.zip (st.zip mul)).filter fun p => decide (p.2.2 < 0)).map fun p => (p.1 - 1) * p.2.1) (fun H => G.b 5 rfl rfl rfl) (si_zip (ls := [sh.map .int, st.map .int, mul.map .int]) (n := sh.length) (G.b 1 rfl rfl rfl) (el_cons (G.f rfl rfl rfl rfl rfl) (el_cons (G.f rfl rfl rfl rfl rfl) (el_cons (ev_name rfl rfl) el_nil))) (hn3 (by simp) (by simp [hl]) (by simp [hm])) (.inr rfl)) ?_ z3 rfl (by decide) rfl) rfl)
    (bl_cons (st_assign (ev_ite_f (tv_to (tv_cmp (G.f rfl rfl rfl rfl rfl) ev_none (c_isnt rfl)) rfl) ev_none) rfl)
    (bl_ret (st_ret (G.mk4 rfl (el_cons (ev_name rfl rfl) (el_cons (ev_name rfl rfl) (el_cons (ev_bin (G.f rfl rfl rfl rfl rfl) (ev_name rfl rfl) bin_add) (el_cons (ev_name rfl rfl) el_nil)))) hs (by simp; omega) (by simp; omega) (.inl rfl))))))))) sub_nil
  · rw [rowsI2 hl.symm hm.symm]
    exact cmpL_map2 _ _ _ _ fun p hp => ⟨_, at_two rfl rfl, sub_tl rfl (sub_tl rfl sub_rfl), fun H => ev_bin (ev_name rfl rfl) (ev_name rfl rfl) (bin_mul (hsm _ (List.of_mem_zip hp).1))⟩
  · rw [rowsI2 rfl hm.symm]
    refine cmpL_map2 _ _ _ _ fun p hp => ?_
    refine ⟨_, at_two rfl rfl, sub_tl rfl (sub_tl rfl sub_rfl), fun H => ?_⟩
    have q := h0 _ (List.of_mem_zip hp).2
    exact ev_bin (ev_bin (ev_name rfl rfl) (ev_bin (ev_call (G.b 12 rfl rfl rfl) (el_cons (ev_name rfl rfl) el_nil) fn_abs rfl) ev_int bin_sub) bin_add) (ev_call (G.b 12 rfl rfl rfl) (el_cons (ev_name rfl rfl) el_nil) fn_abs rfl) (bin_div (by have := q.1; omega) (by have := q.2; omega))
  · rw [rowsI3 rfl hl.symm hm.symm]
    refine cmpL_filter2 _ _ _ _ _ fun p hp => ?_
    refine ⟨_, at_three rfl rfl rfl, sub_tl rfl (sub_tl rfl (sub_tl rfl sub_rfl)), fun H => ?_, fun _ H => ?_⟩
    · exact tv_cmp (ev_name rfl rfl) ev_int c_lt
    · exact ev_bin (ev_bin (ev_name rfl rfl) ev_int bin_sub) (ev_name rfl rfl) (bin_mul (hss _ (List.of_mem_zip hp).1))
end
end Tg
namespace Tg
set_option maxHeartbeats 1000000
noncomputable def cut (m real : Int) : Int → Int → List Int → List Int → Int × List Int × List Int
  | acc, ns, S, [] => (acc, S, [])
  | acc, ns, S, d :: r => if acc < m then cut m real (acc * d) (if d = 1 then ns else ns * (if acc * d < real then d else 0)) (S ++ [ns]) r else (acc, S, d :: r)
theorem cut_stop {m real acc ns : Int} {S : List Int} (h : ¬ acc < m) : ∀ r, cut m real acc ns S r = (acc, S, r)
  | [] => rfl
  | d :: r => by unfold cut; rw [if_neg h]
noncomputable def cuts : List T3 → List Int → List Int → Option (List Int)
  | [], S, _ => some S
  | t :: gs, S, r => let x := cut t.1 t.2.2 1 t.2.1 S r; if x.1 = t.1 then cuts gs x.2.1 x.2.2 else none
section
variable {H : AH} {a b c : AO}
theorem hh0 : (H ++ [a, b])[H.length]? = some a := by simp
theorem hh1 : (H ++ [a, b])[H.length + 1]? = some b := by simp [List.getElem?_append]
theorem hs0 : (H ++ [a, b]).set H.length c = H ++ [c, b] := by simp
theorem hs1 : (H ++ [a, b]).set (H.length + 1) c = H ++ [a, c] := by
  rw [List.set_append_right _ _ (by omega)]; simp
end
noncomputable abbrev HH (H : AH) (S r : List Int) : AH := H ++ [.list (S.map .int), .list (r.reverse.map .int)]
section
variable {B : Bs} {n : Nat} {H : AH} {m real : Int} {sv : V} {nw : List Int}
theorem cut_run (hm : m ≤ 1000000) : ∀ (r : List Int) (acc ns : Int) (S : List Int), (∀ d ∈ r, 0 < d) → 0 < acc → ns.natAbs ≤ 1000000 * acc → S.length + r.length ≤ 1000 →
    ∃ k, WhR ⟨B, n, dScope (meth 13)⟩ (wTest (nth (fBody (nth (dBody (meth 13)) 8)) 1)) (wBody (nth (fBody (nth (dBody (meth 13)) 8)) 1)) [] k
      [("acc", .int acc), ("new_stride", .int ns), ("merged_dim", .int m), ("real_dim", .int real), ("strides", .ref H.length), ("r_new_shape", .ref (H.length + 1)), ("self", sv), ("new_shape", tI nw)] (HH H S r) .next
      [("acc", .int (cut m real acc ns S r).1), ("merged_dim", .int m), ("strides", .ref H.length), ("r_new_shape", .ref (H.length + 1)), ("self", sv), ("new_shape", tI nw)] (HH H (cut m real acc ns S r).2.1 (cut m real acc ns S r).2.2) := by
  intro r
  induction r with
  | nil =>
    intro acc ns S hr ha hns hz
    by_cases q : acc < m
    · refine ⟨0, .brk (H₁ := HH H S []) (tv_and_t (tv_to (tv_cmp (ev_name rfl rfl) (ev_name rfl rfl) c_le) (by simp; omega)) (tv_to (tv_cmp (ev_name rfl rfl) (ev_name rfl rfl) c_ne) (by simp; omega))) ?_⟩
      exact rn_wk (bl_cons (st_assign (ev_ite_f (tv_to (tv_plain (ev_name rfl rfl) (t_ls (l := []) (lq_ref hh1) (by simp)) (by intro _ _; rfl)) rfl) ev_int) rfl) (bl_brk (st_if_t (tv_to (tv_not (tv_plain (ev_name rfl rfl) t_int (by intro _ _; rfl))) rfl) (bl_brk st_brk)))) (by (repeat (first | exact sub_nil | exact sub_rfl | refine sub_cons rfl ?_)))
    · refine ⟨0, .done (H₁ := HH H S []) ?_ (rn_wk bl_nil (by (repeat (first | exact sub_nil | exact sub_rfl | refine sub_cons rfl ?_))))⟩
      by_cases q2 : acc ≤ m
      · exact tv_and_t (tv_to (tv_cmp (ev_name rfl rfl) (ev_name rfl rfl) c_le) (by simp; omega)) (tv_to (tv_cmp (ev_name rfl rfl) (ev_name rfl rfl) c_ne) (by simp; omega))
      · exact tv_and_f (tv_to (tv_cmp (ev_name rfl rfl) (ev_name rfl rfl) c_le) (by simp; omega))
  | cons d r ih =>
    intro acc ns S hr ha hns hz
    by_cases q : acc < m
    · have hd := hr d (.head _)
      simp only [List.length_cons] at hz
      have had : 0 < acc * d := Int.mul_pos ha hd
      have hle : acc ≤ acc * d := le_mul_one ha hd
      obtain ⟨k, ih⟩ := ih (acc * d) (if d = 1 then ns else ns * (if acc * d < real then d else 0)) (S ++ [ns]) (fun x hx => hr x (.tail _ hx)) had (by
        by_cases q1 : d = 1
        · rw [if_pos q1, q1, Int.mul_one]; exact hns
        · rw [if_neg q1]
          split
          · rw [Int.natAbs_mul]
            have : ((ns.natAbs * d.natAbs : Nat) : Int) = (ns.natAbs : Int) * d := by rw [Int.natCast_mul]; congr 1; omega
            rw [this, ← Int.mul_assoc]
            exact Int.mul_le_mul_of_nonneg_right hns (Int.le_of_lt hd)
          · simp; omega) (by simp; omega)
      have e : cut m real acc ns S (d :: r) = cut m real (acc * d) (if d = 1 then ns else ns * (if acc * d < real then d else 0)) (S ++ [ns]) r := by rw [cut, if_pos q]
      rw [e]
      have hl : (List.map V.int (d :: r).reverse) = r.reverse.map V.int ++ [V.int d] := by simp
      have h1 : (HH H S (d :: r))[H.length + 1]? = some (.list (r.reverse.map V.int ++ [V.int d])) := by rw [← hl]; exact hh1
      refine ⟨k + 1, .next (H₁ := HH H S (d :: r)) (tv_and_t (tv_to (tv_cmp (ev_name rfl rfl) (ev_name rfl rfl) c_le) (by simp; omega)) (tv_to (tv_cmp (ev_name rfl rfl) (ev_name rfl rfl) c_ne) (by simp; omega))) ?_ ih⟩
      have hns' : small ns = true := by
        unfold small; simp only [Bool.and_eq_true, decide_eq_true_eq]; constructor <;> omega
      refine bl_cons (H₁ := HH H S r) (st_assign (v := .int d) (ev_ite_t (tv_to (tv_plain (ev_name rfl rfl) (t_ls (l := r.reverse.map V.int ++ [V.int d]) (lq_ref h1) (by simp; omega)) (by intro _ _; rfl)) (by simp)) (ev_hp (ev_pop (ev_name rfl rfl) h1 (by simp; omega)) hs1)) rfl) ?_
      refine bl_cons (st_if_f (tv_to (tv_not (tv_plain (ev_name rfl rfl) t_int (by intro _ _; rfl))) (by simp; omega)) bl_nil) ?_
      refine bl_cons (H₁ := HH H (S ++ [ns]) r) (rn_hp (st_expr (ev_append (ev_name rfl rfl) (ev_name rfl rfl) hh0 hh0 (by simp; omega))) (by rw [hs0]; simp)) ?_
      by_cases q1 : d = 1
      · rw [if_pos q1, q1, Int.mul_one]
        exact rn_wk (bl_cons (st_if_f (tv_to (tv_cmp (ev_name rfl rfl) ev_int c_ne) (by simp)) bl_nil) bl_nil) (by (repeat (first | exact sub_nil | exact sub_rfl | refine sub_cons rfl ?_)))
      · rw [if_neg q1]
        refine rn_wk (bl_cons (st_if_t (tv_to (tv_cmp (ev_name rfl rfl) ev_int c_ne) (by simp [q1])) (bl_cons (st_assign (ev_bin (ev_name rfl rfl) (ev_name rfl rfl) (bin_mul (small_of (Int.le_of_lt ha) (by omega)))) rfl) (bl_cons (st_aug (b := .int (if acc * d < real then d else 0)) rfl ?_ (iop_mul hns') rfl rfl) bl_nil))) bl_nil) (by (repeat (first | exact sub_nil | exact sub_rfl | refine sub_cons rfl ?_)))
        by_cases q2 : acc * d < real
        · rw [if_pos q2]; exact ev_ite_t (tv_to (tv_cmp (ev_name rfl rfl) (ev_name rfl rfl) c_lt) (by simpa using q2)) (ev_name rfl rfl)
        · rw [if_neg q2]; exact ev_ite_f (tv_to (tv_cmp (ev_name rfl rfl) (ev_name rfl rfl) c_lt) (by simpa using q2)) ev_int
    · rw [cut_stop q]
      refine ⟨0, .done (H₁ := HH H S (d :: r)) ?_ (rn_wk bl_nil (by (repeat (first | exact sub_nil | exact sub_rfl | refine sub_cons rfl ?_))))⟩
      by_cases q2 : acc ≤ m
      · exact tv_and_t (tv_to (tv_cmp (ev_name rfl rfl) (ev_name rfl rfl) c_le) (by simp; omega)) (tv_to (tv_cmp (ev_name rfl rfl) (ev_name rfl rfl) c_ne) (by simp; omega))
      · exact tv_and_f (tv_to (tv_cmp (ev_name rfl rfl) (ev_name rfl rfl) c_le) (by simp; omega))
end
end Tg
namespace Tg
set_option maxHeartbeats 1000000
section
variable {K : Kx} {l r t : Expr} {σ : En} {H H₁ H₂ : AH} {pos : Pos}
theorem tv_and3_f (ha : Tv K l σ H false H₁) : Tv K (.BoolOp .And [l, r, t] pos) σ H false H₁ := fun _ _ _ _ _ Q E C hQ => by
  show wpAny _ _ (isTrue l _ (eval l _) >>= fun t => _) Q E _
  exact wpAny_bind (ha _ E C fun s₁ α₁ k₁ => wpAny_pure (hQ _ _ k₁))
theorem tv_and3_tf (ha : Tv K l σ H true H₁) (hb : Tv K r σ H₁ false H₂) : Tv K (.BoolOp .And [l, r, t] pos) σ H false H₂ := fun _ _ _ _ _ Q E C hQ => by
  show wpAny _ _ (isTrue l _ (eval l _) >>= fun t => _) Q E _
  refine wpAny_bind (ha _ E C fun s₁ α₁ k₁ => ?_)
  show wpAny _ _ (isTrue r _ (eval r _) >>= fun t => _) Q E s₁
  exact wpAny_bind (hb _ E (C.step k₁) fun s₂ α₂ k₂ => wpAny_pure (hQ _ _ (k₁.trans k₂)))
end
theorem cut_len (m real : Int) : ∀ (r : List Int) (acc ns : Int) (S : List Int), (cut m real acc ns S r).2.1.length + (cut m real acc ns S r).2.2.length = S.length + r.length ∧ ∀ d ∈ (cut m real acc ns S r).2.2, d ∈ r
  | [], acc, ns, S => ⟨rfl, fun _ h => h⟩
  | d :: r, acc, ns, S => by
    unfold cut
    split
    · obtain ⟨h1, h2⟩ := cut_len m real r (acc * d) (if d = 1 then ns else ns * (if acc * d < real then d else 0)) (S ++ [ns])
      exact ⟨by rw [h1]; simp; omega, fun x hx => .tail _ (h2 x hx)⟩
    · exact ⟨rfl, fun _ h => h⟩
noncomputable abbrev rbase (H : AH) (sv : V) (nw : List Int) : En := [("strides", .ref H.length), ("r_new_shape", .ref (H.length + 1)), ("self", sv), ("new_shape", tI nw)]
noncomputable def CGood (gs : List T3) (S r : List Int) : Prop := (∀ t ∈ gs, t.1 ≤ 1000000 ∧ t.2.1.natAbs ≤ 1000000) ∧ (∀ d ∈ r, 0 < d) ∧ S.length + r.length ≤ 1000
theorem CGood.next {t : T3} {gs : List T3} {S r : List Int} (h : CGood (t :: gs) S r) : CGood gs (cut t.1 t.2.2 1 t.2.1 S r).2.1 (cut t.1 t.2.2 1 t.2.1 S r).2.2 := by
  obtain ⟨h1, h2⟩ := cut_len t.1 t.2.2 r 1 t.2.1 S
  exact ⟨fun x hx => h.1 x (.tail _ hx), fun d hd => h.2.1 d (h2 d hd), by rw [h1]; exact h.2.2⟩
section
variable {B : Bs} {n : Nat} {H : AH} {sv : V} {nw : List Int}
theorem cut_body {t : T3} {gs : List T3} {S r : List Int} (h : CGood (t :: gs) S r) :
    ∃ σ₁, At ⟨B, n, dScope (meth 13)⟩ true (fTgt (nth (dBody (meth 13)) 8)) (t3 t) (rbase H sv nw) σ₁ ∧ Bl ⟨B, n, dScope (meth 13)⟩ (fBody (nth (dBody (meth 13)) 8)) σ₁ (HH H S r) (if (cut t.1 t.2.2 1 t.2.1 S r).1 = t.1 then .next else .brk) (rbase H sv nw) (HH H (cut t.1 t.2.2 1 t.2.1 S r).2.1 (cut t.1 t.2.2 1 t.2.1 S r).2.2) := by
  obtain ⟨h1, h2, h3⟩ := h
  obtain ⟨k, w⟩ := cut_run (B := B) (n := n) (H := H) (real := t.2.2) (sv := sv) (nw := nw) (h1 t (.head _)).1 r 1 t.2.1 S h2 (by decide) (by have := (h1 t (.head _)).2; omega) h3
  refine ⟨_, at_tuple (atl_cons (at_local rfl) (atl_cons (at_local rfl) (atl_cons (at_local rfl) atl_nil))), ?_⟩
  generalize cut t.1 t.2.2 1 t.2.1 S r = x at w ⊢
  refine bl_cons (st_assign ev_int rfl) (bl_cons (rn_sub (st_while w) (by (repeat (first | exact sub_nil | exact sub_rfl | refine sub_cons rfl ?_)))) ?_)
  by_cases q : x.1 = t.1
  · rw [if_pos q]
    exact rn_wk (bl_cons (st_if_f (tv_to (tv_cmp (ev_name rfl rfl) (ev_name rfl rfl) c_ne) (by simp [q])) bl_nil) bl_nil) (by (repeat (first | exact sub_nil | exact sub_rfl | refine sub_cons rfl ?_)))
  · rw [if_neg q]
    exact rn_wk (bl_brk (st_if_t (tv_to (tv_cmp (ev_name rfl rfl) (ev_name rfl rfl) c_ne) (by simp [q])) (bl_brk st_brk))) (by (repeat (first | exact sub_nil | exact sub_rfl | refine sub_cons rfl ?_)))
theorem cuts_none {bo : List Stmt} : ∀ (gs : List T3) (S r : List Int), CGood gs S r → cuts gs S r = none → ∃ S' r', ForR ⟨B, n, dScope (meth 13)⟩ (fTgt (nth (dBody (meth 13)) 8)) (fBody (nth (dBody (meth 13)) 8)) bo .next (rbase H sv nw) (HH H S' r') (gs.map t3) (rbase H sv nw) (HH H S r)
  | [], S, r, _, h => by cases h
  | t :: gs, S, r, hg, h => by
    obtain ⟨σ₁, h1, h2⟩ := cut_body (B := B) (n := n) (H := H) (sv := sv) (nw := nw) hg
    have hn := hg.next
    unfold cuts at h
    dsimp only at h
    generalize cut t.1 t.2.2 1 t.2.1 S r = x at h h2 hn
    by_cases q : x.1 = t.1
    · rw [if_pos q] at h h2
      obtain ⟨S', r', h3⟩ := cuts_none gs _ _ hn h
      exact ⟨S', r', σ₁, .next, _, _, h1, h2, h3⟩
    · rw [if_neg q] at h2
      exact ⟨_, _, σ₁, .brk, _, _, h1, h2, rfl, rfl, rfl⟩
theorem cuts_some {bo : List Stmt} {fl : Fl} {σ' : En} : ∀ (gs : List T3) (S r S' : List Int), CGood gs S r → cuts gs S r = some S' → ∃ r', S'.length + r'.length = S.length + r.length ∧ ∀ H', Bl ⟨B, n, dScope (meth 13)⟩ bo (rbase H sv nw) (HH H S' r') fl σ' H' →
      ForR ⟨B, n, dScope (meth 13)⟩ (fTgt (nth (dBody (meth 13)) 8)) (fBody (nth (dBody (meth 13)) 8)) bo fl σ' H' (gs.map t3) (rbase H sv nw) (HH H S r)
  | [], S, r, S', _, h => by cases h; exact ⟨r, rfl, fun _ h => h⟩
  | t :: gs, S, r, S', hg, h => by
    obtain ⟨σ₁, h1, h2⟩ := cut_body (B := B) (n := n) (H := H) (sv := sv) (nw := nw) hg
    have hn := hg.next
    have hl := (cut_len t.1 t.2.2 r 1 t.2.1 S).1
    unfold cuts at h
    dsimp only at h
    generalize cut t.1 t.2.2 1 t.2.1 S r = x at h h2 hn hl
    by_cases q : x.1 = t.1
    · rw [if_pos q] at h h2
      obtain ⟨r', hl', h3⟩ := cuts_some gs _ _ _ hn h
      exact ⟨r', hl'.trans hl, fun H' hb => ⟨σ₁, .next, _, _, h1, h2, h3 H' hb⟩⟩
    · rw [if_neg q] at h; cases h
end
end Tg
namespace Tg
set_option maxHeartbeats 1000000
noncomputable def fillS (nw S : List Int) : List Int := (S ++ List.replicate (nw.length - S.length) 0).reverse
theorem hn2 {a b : List V} {n : Nat} (h1 : a.length = n) (h2 : b.length = n) : ∀ l ∈ [a, b], l.length = n := fun l h => by
  simp only [List.mem_cons, List.not_mem_nil, or_false] at h
  rcases h with rfl | rfl <;> assumption
theorem zeros_ok (l : List Int) : SumOk 0 (l.map fun p => 0 * p) ∧ (l.map fun p : Int => 0 * p).sum = 0 := by
  induction l with
  | nil => exact ⟨trivial, rfl⟩
  | cons x l ih =>
    simp only [List.map_cons, Int.zero_mul] at ih ⊢
    exact ⟨⟨⟨⟨by decide, by decide⟩, ⟨by decide, by decide⟩⟩, ih.1⟩, by simpa using ih.2⟩
section
variable {B : Bs} (G : G2 B) {n : Nat} {H : AH} {sh st nw S r : List Int} {off : Int} {c : Bool}
include G
theorem reshape_else (hs : Sides nw) (hz : nw.length ≤ 60) (hS : S.length ≤ nw.length) :
    ∃ T, Bl ⟨B, n + 4, dScope (meth 13)⟩ (fElse (nth (dBody (meth 13)) 8)) (rbase H (vw (G.ad "View") sh st off c) nw) (HH H S r)
      (.ret (vw (G.ad "View") nw (canonL nw (canonL nw (fillS nw S))) off (okB off (canonL nw (canonL nw (fillS nw S))) nw))) [] (H ++ T) := by
  have hZ : (List.replicate ((nw.length : Int) - S.length).toNat [V.int 0]).flatten = (List.replicate (nw.length - S.length) (0 : Int)).map V.int := by
    rw [show ((nw.length : Int) - S.length).toNat = nw.length - S.length by omega]
    generalize nw.length - S.length = k
    induction k with
    | zero => rfl
    | succ k ih => rw [List.replicate_succ, List.flatten_cons, ih, List.replicate_succ]; rfl
  generalize hzz : (List.replicate (nw.length - S.length) (0 : Int)) = zz at hZ
  have hzl : zz.length = nw.length - S.length := by rw [← hzz]; simp
  have hSl : (S ++ zz).length = nw.length := by rw [List.length_append, hzl]; omega
  have ef : fillS nw S = (S ++ zz).reverse := by unfold fillS; rw [hzz]
  rw [ef]
  let X : AH := (HH H (S ++ zz) r ++ [.list [.int 0]]) ++ [.list (zz.map .int)]
  have hX : X = H ++ ([.list ((S ++ zz).map .int), .list (r.reverse.map .int)] ++ [.list [.int 0]] ++ [.list (zz.map .int)]) := by simp [X]
  refine ⟨_, rn_hp (H' := X) ?_ hX⟩
  have x0 : X[H.length]? = some (.list ((S ++ zz).map .int)) := by rw [hX]; simp
  have cl : (canonL nw (S ++ zz).reverse).length = nw.length := by simp [canonL]; omega
  have hz1 : (nw.map fun s => V.int (s - 0)) = nw.map .int := List.map_congr_left fun s _ => by rw [Int.sub_zero]
  have hq := zeros_ok (canonL nw (S ++ zz).reverse)
  refine bl_cons (H₁ := X) (σ₁ := ("strides", .ref H.length) :: rbase H (vw (G.ad "View") sh st off c) nw) (rn_hp (st_aug rfl (ev_bin (ev_list (el_cons ev_int el_nil) (by simp)) (ev_bin (ev_call (G.b 7 rfl rfl rfl) (el_cons (ev_name rfl rfl) el_nil) (fn_len (len_t (l := nw.map .int) (by simp; omega))) rfl) (ev_call (G.b 7 rfl rfl rfl) (el_cons (ev_name rfl rfl) el_nil) (fn_len (len_l (l := S.map .int) (lq_ref (by simp)) (by simp; omega))) rfl) bin_sub) (bin_rep (l := [.int 0]) (i := (HH H S r).length) (by simp) (by simp) (by simp; omega) (by simp; omega))) (iop_cat (l := S.map .int) (m := zz.map .int) (j := (HH H S r ++ [AO.list [V.int 0]]).length) (by simp) ?_ (by simp; omega)) rfl rfl) ?_) ?_
  · rw [← hZ]; simp
  · simp only [List.length_map]
    rw [hZ]
    simp [X]
  refine bl_cons (st_assign (ev_call (G.e 5 rfl rfl rfl) (el_cons (G.f rfl rfl rfl rfl rfl) (el_cons (G.f rfl rfl rfl rfl rfl) (el_cons (ev_name rfl rfl) el_nil))) (Fp.fn ((s_rmask G (n := n) (by omega)).le (show n + 2 ≤ n + 4 by omega))) (G.c 5 rfl)) rfl) ?_
  refine rn_wk (bl_ret (st_if_t (tv_to (tv_cmp (ev_name rfl rfl) ev_none (c_isnt rfl)) rfl) (bl_cons (st_assign (ev_call (G.e 2 rfl rfl rfl) (el_cons (ev_to (v' := tI nw) (ev_tuple_gen (ys := nw.map fun s => V.int (s - 0)) (G.b 0 rfl rfl rfl) (gx_mk (m := n) (si_tup (ev_name rfl rfl)) ?_ (by show n < n + 4; omega) rfl rfl rfl rfl) (by simp; omega)) (by rw [hz1])) (el_cons (ev_to (v' := tI (S ++ zz).reverse) (ev_tuple_rev (G.b 0 rfl rfl rfl) (G.b 2 rfl rfl rfl) (el_cons (ev_name rfl rfl) el_nil) (lq_ref x0) (by simp; omega)) (by show V.tup _ = V.tup _; rw [List.map_reverse])) el_nil)) (Fp.fn ((s_canon G (n := n) (by rw [List.length_reverse]; exact hSl.symm) (by omega)).le (show n + 2 ≤ n + 4 by omega))) (G.c 2 rfl)) rfl)
    (bl_cons (st_assign (v := .int 0) (ev_to (ev_bin (ev_ite_f (tv_plain (G.f rfl rfl rfl rfl rfl) t_none (by intro _ _; rfl)) ev_int) (ev_sum_gen (l := (canonL nw (S ++ zz).reverse).map fun p => 0 * p) (G.b 5 rfl rfl rfl) (gx_mk (m := n) (si_zip (ls := [nw.map fun s => .tup [.int 0, .int s], (canonL nw (S ++ zz).reverse).map .int]) (n := nw.length) (G.b 1 rfl rfl rfl) (el_cons (ev_name rfl rfl) (el_cons (ev_name rfl rfl) el_nil)) (hn2 (by rw [List.length_map]) (by rw [List.length_map]; exact cl)) (.inl rfl)) ?_ (by show n < n + 4; omega) rfl rfl rfl rfl) hq.1) bin_sub) (by rw [hq.2]; rfl)) rfl)
      (bl_ret (st_ret (G.mk4 rfl (el_cons (ev_name rfl rfl) (el_cons (ev_name rfl rfl) (el_cons (ev_to (v' := .int off) (ev_bin (G.f rfl rfl rfl rfl rfl) (ev_name rfl rfl) bin_add) (by rw [Int.add_zero])) (el_cons (ev_name rfl rfl) el_nil)))) hs (by omega) cl.symm (.inr rfl)))))))) sub_nil
  · refine genL_map _ _ nw fun s hs => ⟨_, at_two rfl rfl, sub_tl rfl (sub_tl rfl sub_rfl), fun k H => ev_bin (ev_name rfl rfl) (ev_name rfl rfl) bin_sub⟩
  · rw [rowsZ rfl cl]
    have e : ((canonL nw (S ++ zz).reverse).map fun p => 0 * p).map V.int = (nw.zip (canonL nw (S ++ zz).reverse)).map fun p => V.int (0 * p.2) := by
      rw [List.map_map]
      conv => lhs; rw [← List.map_snd_zip (l₁ := nw) (l₂ := canonL nw (S ++ zz).reverse) (by omega)]
      rw [List.map_map]; rfl
    rw [e]
    refine genL_map _ _ _ fun p hp => ⟨_, at_two rfl rfl, sub_tl rfl (sub_tl rfl sub_rfl), fun k H => ?_⟩
    exact ev_bin (ev_item (ev_name rfl rfl) ev_int (it_tup (j := 0) rfl rfl (by decide))) (ev_name rfl rfl) (bin_mul rfl)
end
end Tg
namespace Tg
set_option maxHeartbeats 1000000
section
variable {B : Bs} (G : G2 B) {n : Nat} {H H' : AH} {sh st nw : List Int} {off : Int} {c : Bool} {fl : Fl}
include G
theorem reshape_pre (hs : Sides sh) (hn : Sides nw) (hz : sh.length ≤ 1000) (hz' : nw.length ≤ 60) (hne : sh ≠ nw) (hp : prodI sh = prodI nw)
    (h : Bl ⟨B, n + 4, dScope (meth 13)⟩ ((dBody (meth 13)).drop 6) [("self", vw (G.ad "View") sh st off c), ("new_shape", tI nw)] H fl [] H') :
    Bl ⟨B, n + 4, dScope (meth 13)⟩ (dBody (meth 13)) [("self", vw (G.ad "View") sh st off c), ("new_shape", tI nw)] H fl [] H' := by
  have e0 : (nw.map fun s => decide (s ≥ 0)).all id = true := by
    rw [List.all_map, List.all_eq_true]; intro x hx; have := hn.1 x hx; simp; omega
  have hz2 : (nw.map V.int).length ≤ 1048576 := by simp; omega
  refine bl_cons (st_if_f (tv_to (tv_cmp (G.f rfl rfl rfl rfl rfl) (ev_name rfl rfl) c_eqt) (by simp [hne])) bl_nil) ?_
  refine bl_cons (st_assert (tv_to (tv_plain (ev_all (bs := nw.map fun s => decide (s ≥ 0)) (G.b 3 rfl rfl rfl) (gx_mk (m := n) (si_tup (ev_name rfl rfl)) (by rw [List.map_map]; exact genL_map V.int _ nw fun x _ => ⟨_, at_local rfl, sub_tl rfl sub_rfl, fun k H => ev_cmp (ev_name rfl rfl) ev_int c_ge⟩) (by show n < n + 4; omega) rfl rfl rfl rfl)) t_bool (by intro _ _; rfl)) e0)) ?_
  refine bl_cons (st_if_f (tv_to (tv_cmp ev_int (G.f rfl rfl rfl rfl rfl) c_in) (pos_mem hs)) bl_nil) ?_
  refine bl_cons (st_assign (ev_call (G.e 1 rfl rfl rfl) (el_cons (G.f rfl rfl rfl rfl rfl) el_nil) (Fp.fn ((s_all_int G (n := n)).le (show n + 2 ≤ n + 4 by omega))) (G.c 1 rfl)) rfl) ?_
  refine bl_cons (H₁ := H) (st_if_t (tv_plain (ev_name rfl rfl) t_bool (by intro _ _; rfl)) (bl_cons (st_assert (tv_to (tv_plain (ev_all (bs := nw.map fun _ => true) (G.b 3 rfl rfl rfl) (gx_mk (m := n) (si_tup (ev_name rfl rfl)) ?_ (by show n < n + 4; omega) rfl rfl rfl rfl)) t_bool (by intro _ _; rfl)) all_true)) (bl_cons (st_if_f ?_ bl_nil) bl_nil))) ?_
  · rw [List.map_map]
    refine genL_map V.int _ nw fun x _ => ⟨_, at_local rfl, sub_tl rfl sub_rfl, fun k H => ?_⟩
    exact ev_call ((G.gn k).b 10 rfl rfl rfl) (el_cons (ev_name rfl rfl) (el_cons (ev_tuple (el_cons ((G.gn k).b 11 rfl rfl rfl) (el_cons ((G.gn k).e 7 rfl rfl rfl) el_nil)) (by simp)) el_nil)) (fn_isit (its := [.type "int", .ref (G.ad "Variable")]) G.isv) rfl
  · refine tv_to (tv_cmp (ev_call (G.e 0 rfl rfl rfl) (el_cons (G.f rfl rfl rfl rfl rfl) el_nil) (Fp.fn ((s_prod G (n := n) (.inl rfl) hs.small).le (show n + 1 ≤ n + 4 by omega))) (G.c 0 rfl))
        (ev_call (G.e 0 rfl rfl rfl) (el_cons (ev_frz (l := nw.map .int) (ev_comp (si_tup (ev_name rfl rfl)) ?_ hz2 rfl (by decide) rfl (by intro _ _; rfl)) pure_ints) el_nil) (Fp.fn ((s_prod G (n := n) (.inr rfl) hn.small).le (show n + 1 ≤ n + 4 by omega))) (G.c 0 rfl)) c_ne) (by simp [hp])
    refine cmpL_map V.int V.int nw fun x _ => ⟨_, at_local rfl, sub_tl rfl sub_rfl, fun H => ?_⟩
    exact ev_ite_t (tv_plain (ev_call (G.b 10 rfl rfl rfl) (el_cons (ev_name rfl rfl) (el_cons (G.b 11 rfl rfl rfl) el_nil)) (fn_isi G.isi) rfl) t_bool (by intro _ _; rfl)) (ev_name rfl rfl)
  refine bl_cons (H₁ := H) (st_if_f ?_ bl_nil) (rn_sub h (by (repeat (first | exact sub_nil | exact sub_rfl | refine sub_cons rfl ?_))))
  by_cases q : nw = []
  · exact tv_and3_tf (tv_to (tv_cmp (b := tI []) (ev_name rfl rfl) (ev_tuple el_nil (by simp)) c_eqt) (by simp [q])) (tv_plain (G.f rfl rfl rfl rfl rfl) t_none (by intro _ _; rfl))
  · exact tv_and3_f (tv_to (tv_cmp (b := tI []) (ev_name rfl rfl) (ev_tuple el_nil (by simp)) c_eqt) (by simp [q]))
theorem s_reshape_same : Fp B (n + 5) (.ref (G.ad "reshape")) [vw (G.ad "View") sh st off c, tI sh] (vw (G.ad "View") sh st off c) := by
  refine G.pure 14 rfl (fl := .ret _) rfl rfl pure_vw fun H => ?_
  exact rn_wk (bl_ret (st_if_t (tv_to (tv_cmp (G.f rfl rfl rfl rfl rfl) (ev_name rfl rfl) c_eqt) (by simp)) (bl_ret (st_ret (ev_name rfl rfl))))) sub_nil
theorem s_reshape_row (hs : Sides sh) (hn : Sides nw) (hz : sh.length ≤ 1000) (hz' : nw.length ≤ 60) (hne : sh ≠ nw) (hp : prodI sh = prodI nw) :
    Fp B (n + 5) (.ref (G.ad "reshape")) [vw (G.ad "View") sh st off true, tI nw] (vw (G.ad "View") nw (plainSt nw) 0 true) := by
  refine G.pure 14 rfl (fl := .ret _) rfl rfl pure_vw fun H => reshape_pre G hs hn hz hz' hne hp ?_
  exact rn_wk (bl_ret (st_if_t (tv_plain (G.f rfl rfl rfl rfl rfl) t_bool (by intro _ _; rfl)) (bl_ret (st_ret (ev_static (G.e 6 rfl rfl rfl) G.sm (el_cons (ev_name rfl rfl) el_nil) (Fp.fn (s_create1 G hn (by omega))) (G.c 7 rfl)))))) sub_nil
theorem reshape_cut (hs : Sides sh) (hz : sh.length ≤ 1000) (hl : sh.length = st.length) {T : AH} {σ' : En}
    (h : ForR ⟨B, n + 4, dScope (meth 13)⟩ (fTgt (nth (dBody (meth 13)) 8)) (fBody (nth (dBody (meth 13)) 8)) (fElse (nth (dBody (meth 13)) 8)) fl σ' (H ++ T) ((merge sh st).reverse.map t3) (rbase H (vw (G.ad "View") sh st off false) nw) (HH H [] nw.reverse)) (hf : fl = .next ∨ ∃ v, fl = .ret v) (hz' : nw.length ≤ 60) (hml : (merge sh st).length ≤ 1001) :
    Bl ⟨B, n + 4, dScope (meth 13)⟩ ((dBody (meth 13)).drop 6) [("self", vw (G.ad "View") sh st off false), ("new_shape", tI nw)] H (match fl with | .ret v => .ret v | _ => .ret .none) [] (H ++ T) := by
  refine bl_cons (st_if_f (tv_plain (G.f rfl rfl rfl rfl rfl) t_bool (by intro _ _; rfl)) bl_nil) ?_
  refine bl_cons (H₁ := HH H [] nw.reverse) (rn_hp (st_assign_2 (ev_list el_nil (by simp)) (ev_call (G.b 9 rfl rfl rfl) (el_cons (ev_name rfl rfl) el_nil) (fn_list_tup (l := nw.map .int) (by simp; omega)) rfl) rfl rfl (hw := by intro env h; cases env; dsimp only at h; subst h; first | rfl | kernel_rfl)) (by simp)) ?_
  have s8 : St ⟨B, n + 4, dScope (meth 13)⟩ (nth (dBody (meth 13)) 8) (rbase H (vw (G.ad "View") sh st off false) nw) (HH H [] nw.reverse) fl σ' (H ++ T) := by
    refine st_for (si_rev (l := (merge sh st).map t3) (G.b 2 rfl rfl rfl) (el_cons (ev_call (G.e 4 rfl rfl rfl) (el_cons (G.f rfl rfl rfl rfl rfl) (el_cons (G.f rfl rfl rfl rfl rfl) (el_cons (G.f rfl rfl rfl rfl rfl) el_nil))) (Fp.fn ((s_merge G (n := n) hs hz hl).le (show n + 1 ≤ n + 4 by omega))) (G.c 4 rfl)) el_nil) (by simp; omega)) ?_
    rw [← List.map_reverse]
    exact h
  rcases hf with rfl | ⟨v, rfl⟩
  · exact rn_wk (bl_cons (rn_sub s8 (by simp only [List.length_append, List.length_cons, List.length_nil]; (repeat (first | exact sub_nil | exact sub_rfl | refine sub_cons rfl ?_)))) (bl_ret (st_ret ev_none))) sub_nil
  · exact rn_wk (bl_ret (rn_sub s8 (by simp only [List.length_append, List.length_cons, List.length_nil]; (repeat (first | exact sub_nil | exact sub_rfl | refine sub_cons rfl ?_))))) sub_nil
end
noncomputable def MAll (g : MS) : Prop := ∀ t ∈ g.pre ++ [g.last], t.1 ≤ 1000000 ∧ t.2.1.natAbs ≤ 1000000
theorem MAll.fold : ∀ {l : List (Int × Int)} {g : MS}, MGood g l → (∀ p ∈ l, p.2.natAbs ≤ 1000000) → MAll g → MAll (l.foldl mNext g)
  | [], g, _, _, h => h
  | p :: l, g, hg, hl, h => by
    refine MAll.fold (l := l) hg.next (fun q hq => hl q (.tail _ hq)) ?_
    have h1 := hg.next.le
    have h2 := hl p (.head _)
    have hb : ∀ t ∈ g.pre, t.1 ≤ 1000000 ∧ t.2.1.natAbs ≤ 1000000 := fun t ht => h t (List.mem_append_left _ ht)
    have hb2 := h g.last (by simp)
    unfold mNext at h1 ⊢
    by_cases q1 : p.1 = 1
    · rw [if_pos q1]; exact h
    · rw [if_neg q1] at h1 ⊢
      by_cases q2 : g.mg = true ∨ g.last.2.1 = p.1 * p.2
      · rw [if_pos q2] at h1 ⊢
        intro t ht
        rcases List.mem_append.mp ht with ht | ht
        · exact hb t ht
        · rw [List.mem_singleton.mp ht]; exact ⟨h1, h2⟩
      · rw [if_neg q2] at h1 ⊢
        intro t ht
        rcases List.mem_append.mp ht with ht | ht
        · rcases List.mem_append.mp ht with ht | ht
          · exact hb t ht
          · rw [List.mem_singleton.mp ht]; exact hb2
        · rw [List.mem_singleton.mp ht]; exact ⟨h1, h2⟩
theorem merge_ok {sh st : List Int} (hs : Sides sh) (hz : sh.length ≤ 1000) (hl : sh.length = st.length) (hst : ∀ x ∈ st, x.natAbs ≤ 1000000) : (∀ t ∈ merge sh st, t.1 ≤ 1000000 ∧ t.2.1.natAbs ≤ 1000000) ∧ (merge sh st).length ≤ 1001 := by
  cases sh with
  | nil => exact ⟨fun t h => by simp [merge] at h, by simp [merge]⟩
  | cons s sh => cases st with
    | nil => simp at hl
    | cons t st =>
      have hl' : sh.length = st.length := by simpa using hl
      have hg0 : MGood ⟨[], (s, t, nz t s), s == 1⟩ (sh.zip st) := by
        have hp := hs.1 s (.head _)
        have h2 := hs.2
        rw [prodI_cons] at h2
        have e : (sh.zip st).map (·.1) = sh := List.map_fst_zip (by omega)
        refine ⟨hp, ?_, fun p hp' => hs.1 _ (.tail _ (List.of_mem_zip hp').1), by rw [e]; exact h2, by simp at hz ⊢; omega⟩
        dsimp only; unfold nz; split <;> exact ⟨by omega, by omega⟩
      have a := MAll.fold hg0 (fun p hp => hst _ (.tail _ (List.of_mem_zip hp).2)) (fun x hx => by
        simp at hx; subst hx; exact ⟨hg0.le, hst _ (.head _)⟩)
      have b := hg0.fold.2.2.2.2
      refine ⟨fun x hx => a x (by simpa [merge] using hx), ?_⟩
      simp [merge]; simp at b; omega
theorem cgood {sh st nw : List Int} (hs : Sides sh) (hz : sh.length ≤ 1000) (hl : sh.length = st.length) (hst : ∀ x ∈ st, x.natAbs ≤ 1000000) (hn : Sides nw) (hz' : nw.length ≤ 60) : CGood (merge sh st).reverse [] nw.reverse :=
  ⟨fun t ht => (merge_ok hs hz hl hst).1 t (List.mem_reverse.mp ht), fun d hd => hn.1 d (List.mem_reverse.mp hd), by simp; omega⟩
section
variable {B : Bs} (G : G2 B) {n : Nat} {sh st nw S : List Int} {off : Int}
include G
theorem s_reshape_none (hs : Sides sh) (hn : Sides nw) (hz : sh.length ≤ 1000) (hz' : nw.length ≤ 60) (hl : sh.length = st.length) (hst : ∀ x ∈ st, x.natAbs ≤ 1000000) (hne : sh ≠ nw) (hp : prodI sh = prodI nw) (hc : cuts (merge sh st).reverse [] nw.reverse = none) :
    Fp B (n + 5) (.ref (G.ad "reshape")) [vw (G.ad "View") sh st off false, tI nw] .none := by
  refine G.fz 14 rfl (fl := .ret .none) rfl rfl fun H => ?_
  obtain ⟨S', r', h⟩ := cuts_none (B := B) (n := n + 4) (H := H) (sv := vw (G.ad "View") sh st off false) (nw := nw) (bo := fElse (nth (dBody (meth 13)) 8)) _ _ _ (cgood hs hz hl hst hn hz') hc
  exact ⟨_, reshape_pre G hs hn hz hz' hne hp (reshape_cut G hs hz hl h (.inl rfl) hz' (merge_ok hs hz hl hst).2), fz_pure pure_none⟩
theorem s_reshape_cut (hs : Sides sh) (hn : Sides nw) (hz : sh.length ≤ 1000) (hz' : nw.length ≤ 60) (hl : sh.length = st.length) (hst : ∀ x ∈ st, x.natAbs ≤ 1000000) (hne : sh ≠ nw) (hp : prodI sh = prodI nw) (hc : cuts (merge sh st).reverse [] nw.reverse = some S) :
    Fp B (n + 5) (.ref (G.ad "reshape")) [vw (G.ad "View") sh st off false, tI nw] (vw (G.ad "View") nw (canonL nw (canonL nw (fillS nw S))) off (okB off (canonL nw (canonL nw (fillS nw S))) nw)) := by
  refine G.fz 14 rfl (fl := .ret (vw (G.ad "View") nw (canonL nw (canonL nw (fillS nw S))) off (okB off (canonL nw (canonL nw (fillS nw S))) nw))) rfl rfl fun H => ?_
  obtain ⟨r', hlen, h⟩ := cuts_some (B := B) (n := n + 4) (H := H) (sv := vw (G.ad "View") sh st off false) (nw := nw) (bo := fElse (nth (dBody (meth 13)) 8)) (fl := .ret (vw (G.ad "View") nw (canonL nw (canonL nw (fillS nw S))) off (okB off (canonL nw (canonL nw (fillS nw S))) nw))) (σ' := []) _ _ _ _ (cgood hs hz hl hst hn hz') hc
  simp at hlen
  obtain ⟨T, hb⟩ := reshape_else G (n := n) (H := H) (sh := sh) (st := st) (S := S) (r := r') (off := off) (c := false) hn hz' (by omega)
  exact ⟨T, reshape_pre G hs hn hz hz' hne hp (reshape_cut G hs hz hl (h _ hb) (.inr ⟨_, rfl⟩) hz' (merge_ok hs hz hl hst).2), fz_pure pure_vw⟩
end
end Tg
namespace Tg
set_option maxHeartbeats 1000000
noncomputable def starts : List (List Int) := [[6], [2, 3], [3, 4], [2, 2, 3], [1, 6], [4, 1, 2], [12], [2, 3, 2], [1], [], [5], [2, 2, 2]]
noncomputable def stretch : List Int := [1, 2, 3, 2, 1, 3, 0]
noncomputable def stepsL : List Int := [1, -1, 2, -2, 3, -3]
noncomputable def spotsG (sp : List (List Int)) (side : Int) : List (List Int) := sp.flatMap fun s => (rngL 0 side.toNat).map fun k => s ++ [k]
noncomputable def spotsL (sh : List Int) : List (List Int) := sh.foldl spotsG [[]]
theorem rngL_mem {k : Int} {n : Nat} : k ∈ rngL 0 n ↔ 0 ≤ k ∧ k < n := by
  have : ∀ (n : Nat) (a : Int), k ∈ rngL a n ↔ a ≤ k ∧ k < a + n := by
    intro n
    induction n with
    | zero => intro a; simp [rngL]
    | succ n ih => intro a; simp [rngL, ih]; omega
  simpa using this n 0
theorem spotsG_length (sp : List (List Int)) (side : Int) : (spotsG sp side).length = sp.length * side.toNat := by
  unfold spotsG
  induction sp with
  | nil => simp
  | cons s sp ih => rw [List.flatMap_cons, List.length_append, ih, List.length_map, rngL_length, List.length_cons, Nat.add_mul, Nat.one_mul, Nat.add_comm]
noncomputable def SpG (sp : List (List Int)) (l : List Int) : Prop := (∀ s ∈ sp, s.length + l.length ≤ 1000) ∧ (∀ x ∈ l, 0 < x) ∧ (sp.length : Int) * prodI l ≤ 1000000
theorem SpG.next {sp : List (List Int)} {x : Int} {l : List Int} (h : SpG sp (x :: l)) : SpG (spotsG sp x) l := by
  obtain ⟨h1, h2, h3⟩ := h
  have hx := h2 x (.head _)
  refine ⟨fun s hs => ?_, fun y hy => h2 y (.tail _ hy), ?_⟩
  · unfold spotsG at hs
    obtain ⟨s0, hs0, hk⟩ := List.mem_flatMap.mp hs
    obtain ⟨k, _, rfl⟩ := List.mem_map.mp hk
    have := h1 s0 hs0
    simp at this ⊢; omega
  · rw [spotsG_length, Int.natCast_mul, show ((x.toNat : Nat) : Int) = x by omega, Int.mul_assoc, ← prodI_cons]; exact h3
theorem SpG.le {sp : List (List Int)} {x : Int} {l : List Int} (h : SpG sp (x :: l)) : (sp.length : Int) * x ≤ 1000000 ∧ (sp = [] ∨ x ≤ 1000000) := by
  obtain ⟨h1, h2, h3⟩ := h
  have hx := h2 x (.head _)
  have hl : 0 < prodI l := prodI_pos fun y hy => h2 y (.tail _ hy)
  rw [prodI_cons, ← Int.mul_assoc] at h3
  have h4 : (sp.length : Int) * x ≤ 1000000 := by
    by_cases q : 0 < (sp.length : Int) * x
    · exact Int.le_trans (le_mul_one q hl) h3
    · omega
  refine ⟨h4, ?_⟩
  cases sp with
  | nil => exact .inl rfl
  | cons s sp =>
    right
    have : x ≤ x * ((s :: sp).length : Int) := le_mul_one hx (by simp)
    rw [Int.mul_comm] at this; omega
section
variable {K : Kx} {tgt t2 elt i2 : Expr} {σ : En} {δ ε : Type}
noncomputable abbrev Two (K : Kx) (t2 i2 elt : Expr) : En → List V → Prop := fun σ o => ∃ vs, (∀ H, Si K t2 i2 σ H vs H) ∧ CmpL (Turn K t2 [] (One K elt) σ) vs o
theorem cmpL_two (f : δ → V) (g : ε → V) (h : δ → List ε) (l : List δ) (q : ∀ x ∈ l, ∃ σ₁, At K false tgt (f x) σ σ₁ ∧ Sub σ σ₁ ∧ Two K t2 i2 elt σ₁ ((h x).map g)) : CmpL (Turn K tgt [] (Two K t2 i2 elt) σ) (l.map f) ((l.flatMap h).map g) := by
  induction l with
  | nil => rfl
  | cons x l ih =>
    obtain ⟨σ₁, h1, h2, h3⟩ := q x (.head _)
    exact ⟨(h x).map g, _, ⟨σ₁, true, h1, h2, rfl, by rw [if_pos rfl]; exact h3⟩, ih fun y hy => q y (.tail _ hy), by rw [List.flatMap_cons, List.map_append]⟩
end
theorem pure_tIs {l : List (List Int)} : ∀ v ∈ l.map tI, Pure v := fun v h => by obtain ⟨i, _, rfl⟩ := List.mem_map.mp h; exact pure_tI
theorem el_tc {K : Kx} {σ : En} {H H' : AH} {es rest : List Expr} {vs us : List V} {k} {p : Pos} (h : EvL K es σ H vs H) (hsz : vs.length ≤ 1048576) (hes : EvL K rest σ H us H') (hs : ∀ env, starEach (.Tuple es k p :: rest) env = (false, eval (.Tuple es k p) env) :: starEach rest env := by intro _; rfl) : EvL K (.Tuple es k p :: rest) σ H (.tup vs :: us) H' := el_cons (ev_tuple h hsz) hes hs
section
variable {B : Bs} (G : G2 B) {n : Nat}
include G
theorem s_starts : Fp B (n + 1) (.ref (G.ad "_law_starts")) [] (.lst (starts.map tI)) := by
  refine G.pure 15 rfl (fl := .ret _) rfl rfl (pure_lst pure_tIs) fun H => ?_
  exact rn_wk (bl_ret (st_ret (ev_frz (ev_list (by (repeat (first | exact el_nil | refine el_tc (by (repeat (first | exact el_nil | refine el_cons ev_int ?_ | refine el_cons (ev_neg ev_int) ?_))) (by decide) ?_))) (by decide)) pure_tIs))) sub_nil
theorem s_stretch : Fp B (n + 1) (.ref (G.ad "_law_stretch")) [] (.lst (stretch.map .int)) := by
  refine G.pure 16 rfl (fl := .ret _) rfl rfl (pure_lst pure_ints) fun H => ?_
  exact rn_wk (bl_ret (st_ret (ev_frz (ev_list (by (repeat (first | exact el_nil | refine el_cons ev_int ?_ | refine el_cons (ev_neg ev_int) ?_))) (by decide)) pure_ints))) sub_nil
theorem s_steps : Fp B (n + 1) (.ref (G.ad "_law_steps")) [] (.lst (stepsL.map .int)) := by
  refine G.pure 17 rfl (fl := .ret _) rfl rfl (pure_lst pure_ints) fun H => ?_
  exact rn_wk (bl_ret (st_ret (ev_frz (ev_list (by (repeat (first | exact el_nil | refine el_cons ev_int ?_ | refine el_cons (ev_neg ev_int) ?_))) (by decide)) pure_ints))) sub_nil
theorem s_spots {sh : List Int} (hs : Sides sh) (hz : sh.length ≤ 1000) : Fp B (n + 1) (.ref (G.ad "_law_spots")) [tI sh] (.lst ((spotsL sh).map tI)) := by
  refine G.pure 19 rfl (fl := .ret _) rfl rfl (pure_lst pure_tIs) fun H => ?_
  have loop := forR_fold (K := ⟨B, n, dScope (nth P2 36)⟩) (tgt := fTgt (nth (dBody (nth P2 36)) 1)) (bl := fBody (nth (dBody (nth P2 36)) 1)) V.int (fun sp : List (List Int) => [("spots", .lst (sp.map tI)), ("shape", tI sh)]) (fun _ => H) spotsG SpG (fun sp x l h => ⟨h.next, _, at_name rfl, ?_⟩) sh [[]] ⟨by simp; omega, hs.1, by have := hs.2; simp; omega⟩
  · exact rn_wk (bl_cons (st_assign (ev_frz (l := [tI []]) (ev_list (el_cons (ev_tuple el_nil (by simp)) el_nil) (by simp)) (by intro v h; simp at h; subst h; exact pure_tI)) rfl) (bl_cons (st_for (si_tup (ev_name rfl rfl)) loop) (bl_ret (st_ret (ev_name rfl rfl))))) sub_nil
  · have hle := h.le
    have hx := h.2.1 x (.head _)
    have hzl : ((spotsG sp x).map tI).length ≤ 1048576 := by
      rw [List.length_map, spotsG_length]
      have e : ((sp.length * x.toNat : Nat) : Int) = (sp.length : Int) * x := by rw [Int.natCast_mul]; congr 1; omega
      have := hle.1
      omega
    refine rn_wk (bl_cons (st_assign_comp (o := (spotsG sp x).map tI) (body := Two _ _ _ _) (si_lst (ev_name rfl rfl)) (cb_nest rfl (by intro g h; simp at h) (cb_emit rfl)) ?_ hzl pure_tIs rfl rfl (by decide) rfl (by intro g h; simp at h; subst h; exact ⟨rfl, fun _ _ => rfl⟩) (by intro _ _; rfl) (by intro env h; cases env; dsimp only at h; subst h; first | rfl | kernel_rfl)) bl_nil) (by (repeat (first | exact sub_nil | exact sub_rfl | refine sub_cons rfl ?_)))
    refine cmpL_two tI tI (fun s => (rngL 0 x.toNat).map fun k => s ++ [k]) sp fun s hs => ?_
    have hxl : x ≤ 1000000 := hle.2.resolve_left fun q => by rw [q] at hs; cases hs
    have hsl := h.1 s hs
    refine ⟨_, at_local rfl, sub_tl rfl sub_rfl, _, fun H => si_range (j := x) (G.b 8 rfl rfl rfl) (el_cons (ev_name rfl rfl) el_nil) (by omega), ?_⟩
    refine cmpL_map2 V.int (fun k => s ++ [k]) tI _ fun k hk => ⟨_, at_local rfl, sub_tl rfl sub_rfl, fun H => ?_⟩
    exact ev_to (ev_bin (ev_name rfl rfl) (ev_tuple (el_cons (ev_name rfl rfl) el_nil) (by simp)) (bin_cat (l := s.map .int) (m := [.int k]) (by simp at hsl ⊢; omega))) (by simp)
end
end Tg
namespace Tg
set_option maxHeartbeats 1000000
noncomputable def tell (st : List Int) (off : Int) (s : List Int) : Int := (s.zip st).foldl (fun a p => a + p.1 * p.2) off
section
variable {B : Bs} (G : G2 B) {n : Nat}
include G
theorem s_read {sh st s : List Int} {off : Int} {c : Bool} (hl : s.length = st.length) (hz : s.length ≤ 1000) (hs : ∀ x ∈ s, small x = true) :
    Fp B (n + 1) (.ref (G.ad "_law_read")) [.lst [vw (G.ad "View") sh st off c], tI s] (.int (tell st off s)) := by
  refine G.pure 24 rfl (fl := .ret _) rfl rfl pure_int fun H => ?_
  have inner := forR_fold (K := ⟨B, n, dScope (nth P2 41)⟩) (tgt := fTgt (nth (fBody (nth (dBody (nth P2 41)) 1)) 4)) (bl := fBody (nth (fBody (nth (dBody (nth P2 41)) 1)) 4)) (fun p : Int × Int => .tup [.int p.1, .int p.2]) (fun a => [("number", .int a), ("view", vw (G.ad "View") sh st off c), ("views", .lst [vw (G.ad "View") sh st off c]), ("spot", tI s)]) (fun _ => H) (fun a p => a + p.1 * p.2) (fun _ l => ∀ p ∈ l, small p.1 = true)
    (fun a p l h => ⟨fun q hq => h q (.tail _ hq), _, at_tuple (atl_cons (at_local rfl) (atl_cons (at_local rfl) atl_nil)), rn_wk (bl_cons (st_assign (ev_bin (ev_name rfl rfl) (ev_bin (ev_name rfl rfl) (ev_name rfl rfl) (bin_mul (h p (.head _)))) bin_add) rfl) bl_nil) (by (repeat (first | exact sub_nil | exact sub_rfl | refine sub_cons rfl ?_)))⟩) (s.zip st) off (fun p hp => hs _ (List.of_mem_zip hp).1)
  have outer := forR_fold (K := ⟨B, n, dScope (nth P2 41)⟩) (tgt := fTgt (nth (dBody (nth P2 41)) 1)) (bl := fBody (nth (dBody (nth P2 41)) 1)) V.int (fun a => [("number", .int a), ("views", .lst [vw (G.ad "View") sh st off c]), ("spot", tI s)]) (fun _ => H) (fun _ _ => tell st off s) (fun _ l => l = [0] ∨ l = []) (fun a x l h => ?_) [0] 0 (.inl rfl)
  · refine rn_wk (bl_cons (st_assign ev_int rfl) (bl_cons (st_for (si_range (j := 1) (G.b 8 rfl rfl rfl) (el_cons (ev_call (G.b 7 rfl rfl rfl) (el_cons (ev_name rfl rfl) el_nil) (fn_len (len_l lq_lst (by simp))) rfl) el_nil) (by decide)) outer) (bl_ret (st_ret (ev_name rfl rfl))))) sub_nil
  · obtain ⟨rfl, rfl⟩ : x = 0 ∧ l = [] := by
      rcases h with h | h
      · exact List.cons.inj h
      · cases h
    refine ⟨.inr rfl, _, at_name rfl, ?_⟩
    refine rn_wk (bl_cons (st_assign (ev_item (ev_name rfl rfl) (ev_bin (ev_bin (ev_call (G.b 7 rfl rfl rfl) (el_cons (ev_name rfl rfl) el_nil) (fn_len (len_l (l := [vw (G.ad "View") sh st off c]) lq_lst (by simp))) rfl) ev_int bin_sub) (ev_name rfl rfl) bin_sub) (it_ls (j := 0) lq_lst (by rfl) rfl (by decide))) rfl) (bl_cons (st_if_f (tv_to (tv_cmp (ev_name rfl rfl) ev_int c_gt) (by simp)) bl_nil) (bl_cons (st_if_f (tv_to (tv_cmp (G.f rfl rfl rfl rfl rfl) ev_none (c_isnt rfl)) rfl) bl_nil)
      (bl_cons (st_assign (G.f rfl rfl rfl rfl rfl) rfl) (bl_cons (rn_sub (st_for (si_zip (ls := [s.map .int, st.map .int]) (n := s.length) (G.b 1 rfl rfl rfl) (el_cons (ev_name rfl rfl) (el_cons (G.f rfl rfl rfl rfl rfl) el_nil)) (hn2 (by simp) (by simp [hl])) (.inl rfl)) (by rw [rowsI2 rfl hl.symm]; exact inner)) (by (repeat (first | exact sub_nil | exact sub_rfl | refine sub_cons rfl ?_)))) bl_nil))))) (by (repeat (first | exact sub_nil | exact sub_rfl | refine sub_cons rfl ?_)))
theorem s_row {sh st form : List Int} {off : Int} {c : Bool} (hs : Sides form) (hl : form.length = st.length) (hz : form.length ≤ 1000) (hm : ∀ s ∈ spotsL form, s.length = form.length ∧ ∀ x ∈ s, small x = true) (hc : (spotsL form).length ≤ 1048576) :
    Fp B (n + 3) (.ref (G.ad "_law_row")) [.lst [vw (G.ad "View") sh st off c], tI form] (.lst (((spotsL form).map (tell st off)).map .int)) := by
  refine G.pure 25 rfl (fl := .ret (.lst (((spotsL form).map (tell st off)).map .int))) rfl rfl (pure_lst pure_ints) fun H => ?_
  refine rn_wk (bl_ret (st_ret (ev_frz (ev_comp (si_of (ev_call (G.e 13 rfl rfl rfl) (el_cons (ev_name rfl rfl) el_nil) (Fp.fn ((s_spots G (n := n) hs hz).le (show n + 1 ≤ n + 2 by omega))) (G.c 19 rfl)) (.inr rfl)) (cmpL_map2 tI (tell st off) V.int (spotsL form) fun s hss => ⟨_, at_local rfl, sub_tl rfl sub_rfl, fun H => ?_⟩) (by simpa using hc) rfl (by decide) rfl (by intro _ _; rfl)) pure_ints))) sub_nil
  have q := hm s hss
  exact ev_call (G.e 18 rfl rfl rfl) (el_cons (ev_name rfl rfl) (el_cons (ev_name rfl rfl) el_nil)) (Fp.fn ((s_read G (n := n) (q.1.trans hl) (by omega) q.2).le (show n + 1 ≤ n + 2 by omega))) (G.c 24 rfl)
end
end Tg
namespace Tg
set_option maxHeartbeats 1000000
noncomputable def partsL (z : Int) : List Int := (rngL 1 z.toNat).filter fun k => z.fmod k == 0
noncomputable def pickM {δ : Type} (d : δ) (l : List δ) (r : Int) : δ := l.getD (r.fmod l.length).toNat d
noncomputable def formsL (z a b c : Int) : List (List Int) := [[a, b, c], [a, b * c], [z], [a, 1, b * c], [a * b, c], [c, 1, a, b], if z = 1 then [] else [b, a, c]]
noncomputable def splitS (z rest : Int) : List Int :=
  let a := pickM 0 (partsL z) rest
  let r1 := rest.fdiv (partsL z).length
  let b := pickM 0 (partsL (z.fdiv a)) r1
  let r2 := r1.fdiv (partsL (z.fdiv a)).length
  pickM [] (formsL z a b ((z.fdiv a).fdiv b)) r2
theorem rngA_mem {k : Int} : ∀ {n : Nat} {a : Int}, k ∈ rngL a n ↔ a ≤ k ∧ k < a + n
  | 0, a => by simp only [rngL, List.not_mem_nil, false_iff]; omega
  | n + 1, a => by simp [rngL, rngA_mem (n := n)]; omega
theorem parts_mem {z k : Int} (h : 0 < z) : k ∈ partsL z → 0 < k ∧ k ≤ z ∧ z.fmod k = 0 := fun hk => by
  obtain ⟨h1, h2⟩ := List.mem_filter.mp hk
  obtain ⟨h3, h4⟩ := rngA_mem.mp h1
  have h2 : z.fmod k = 0 := by simpa using h2
  omega
theorem parts_ne {z : Int} (h : 0 < z) : partsL z ≠ [] := fun e => by
  have : (1 : Int) ∈ partsL z := List.mem_filter.mpr ⟨rngA_mem.mpr (by omega), by simp [Int.fmod_one]⟩
  rw [e] at this; cases this
theorem parts_len {z : Int} : (partsL z).length ≤ z.toNat := by
  have := List.length_filter_le (fun k => z.fmod k == 0) (rngL 1 z.toNat)
  rwa [rngL_length] at this
theorem pickM_at {δ : Type} {d : δ} {l : List δ} {r : Int} (h : l ≠ []) : ∃ j : Nat, r.fmod l.length = j ∧ j < l.length ∧ l[j]? = some (pickM d l r) := by
  have hl : 0 < (l.length : Int) := by have := List.length_pos_iff.mpr h; omega
  have h1 := Int.fmod_nonneg_of_pos r hl
  have h2 := Int.fmod_lt_of_pos r hl
  refine ⟨(r.fmod l.length).toNat, by omega, by omega, ?_⟩
  unfold pickM
  rw [List.getD, List.getElem?_eq_getElem (by omega)]; rfl
theorem pickM_mem {δ : Type} {d : δ} {l : List δ} {r : Int} (h : l ≠ []) : pickM d l r ∈ l := by
  obtain ⟨j, _, _, e⟩ := pickM_at (d := d) (r := r) h
  exact List.mem_of_getElem? e
theorem fdiv_of {z k : Int} (hk : 0 < k) (h : z.fmod k = 0) : k * z.fdiv k = z := by
  have := Int.mul_fdiv_add_fmod z k; omega
theorem fdiv_pos {z k : Int} (hz : 0 < z) (hk : 0 < k) (h : z.fmod k = 0) : 0 < z.fdiv k := by
  have e := fdiv_of hk h
  by_cases q : 0 < z.fdiv k
  · exact q
  · have : k * z.fdiv k ≤ 0 := Int.mul_nonpos_of_nonneg_of_nonpos (Int.le_of_lt hk) (by omega)
    omega
theorem split_ok {z : Int} (h : 0 < z) (rest : Int) : (∀ x ∈ splitS z rest, 0 < x) ∧ prodI (splitS z rest) = z ∧ (splitS z rest).length ≤ 4 := by
  unfold splitS
  have ha := parts_mem h (pickM_mem (d := 0) (r := rest) (parts_ne h))
  generalize pickM 0 (partsL z) rest = a at ha ⊢
  have hd := fdiv_pos h ha.1 ha.2.2
  have e1 := fdiv_of ha.1 ha.2.2
  dsimp only
  generalize z.fdiv a = y at hd e1 ⊢
  generalize rest.fdiv (partsL z).length = r1
  have hb := parts_mem hd (pickM_mem (d := 0) (r := r1) (parts_ne hd))
  generalize pickM 0 (partsL y) r1 = b at hb ⊢
  have hc := fdiv_pos hd hb.1 hb.2.2
  have e2 := fdiv_of hb.1 hb.2.2
  generalize y.fdiv b = c at hc e2 ⊢
  have e3 : a * (b * c) = z := by rw [e2, e1]
  generalize r1.fdiv (partsL y).length = r2
  have hm := pickM_mem (d := []) (l := formsL z a b c) (r := r2) (by simp [formsL])
  generalize pickM [] (formsL z a b c) r2 = f at hm ⊢
  have hbc : 0 < b * c := Int.mul_pos hb.1 hc
  have hab : 0 < a * b := Int.mul_pos ha.1 hb.1
  simp only [formsL, List.mem_cons, List.not_mem_nil, or_false] at hm
  have p0 := ha.1
  have p1 := hb.1
  rcases hm with rfl | rfl | rfl | rfl | rfl | rfl | rfl
  · refine ⟨by simp; omega, ?_, by simp⟩; simp [prodI]; rw [← e3, Int.mul_assoc]
  · refine ⟨by simp; omega, ?_, by simp⟩; simp [prodI]; exact e3
  · refine ⟨by simp; omega, ?_, by simp⟩; simp [prodI]
  · refine ⟨by simp; omega, ?_, by simp⟩; simp [prodI]; exact e3
  · refine ⟨by simp; omega, ?_, by simp⟩; simp [prodI]; rw [← e3, Int.mul_assoc]
  · refine ⟨by simp; omega, ?_, by simp⟩; simp [prodI]; rw [← e3, Int.mul_assoc, Int.mul_comm c, Int.mul_assoc]
  · split
    · rename_i q; exact ⟨by simp, by rw [q]; rfl, by simp⟩
    · refine ⟨by simp; omega, ?_, by simp⟩; simp [prodI]; rw [← e3, Int.mul_comm b a, Int.mul_assoc]
theorem it_mod {H : AH} {δ : Type} {f : δ → V} {d : δ} {l : List δ} {r : Int} (h : l ≠ []) (hz : l.length ≤ 1000000) : ItemR H (.lst (l.map f)) (.int (r.fmod l.length)) (f (pickM d l r)) := by
  obtain ⟨j, e, hj, hl⟩ := pickM_at (d := d) (r := r) h
  exact it_ls (j := j) lq_lst e (by rw [List.getElem?_map, hl]; rfl) (by omega)
section
variable {B : Bs} (G : G2 B) {n : Nat}
include G
theorem s_split {sh : List Int} {rest : Int} (hs : Sides sh) : Fp B (n + 2) (.ref (G.ad "_law_split")) [tI sh, .int rest] (tI (splitS (prodI sh) rest)) := by
  refine G.pure 20 rfl (fl := .ret _) rfl rfl pure_tI fun H => ?_
  have hz := prodI_pos hs.1
  have hz2 := hs.2
  unfold splitS
  dsimp only
  refine bl_cons (st_assign (ev_call (G.e 12 rfl rfl rfl) (el_cons (ev_name rfl rfl) el_nil) (Fp.fn (s_size G (n := n) (.inl rfl) hs.small)) (G.c 18 rfl)) rfl) ?_
  generalize prodI sh = z at hz hz2 ⊢
  have ha := parts_mem hz (pickM_mem (d := 0) (r := rest) (parts_ne hz))
  have l1 := parts_len (z := z)
  have n1 : (partsL z) ≠ [] := parts_ne hz
  have n1' : 0 < (partsL z).length := List.length_pos_iff.mpr n1
  refine bl_cons (st_if_f (tv_to (tv_cmp (ev_name rfl rfl) ev_int c_eq) (by simp; omega)) bl_nil) ?_
  have part : ∀ {y : Int}, 0 < y → y ≤ 1000000 → ((partsL y).map V.int).length ≤ 1048576 := fun {y} h1 h2 => by have := parts_len (z := y); simp; omega
  refine bl_cons (st_assign_comp (o := (partsL z).map .int) (si_range2 (i := 1) (j := z + 1) (G.b 8 rfl rfl rfl) (el_cons ev_int (el_cons (ev_bin (ev_name rfl rfl) ev_int bin_add) el_nil)) (by decide) (by omega)) (cb_emit rfl) ?_ (part hz hz2) pure_ints rfl rfl (by decide) rfl (by intro g h; simp at h) (by intro _ _; rfl) (by intro env h; cases env; dsimp only at h; subst h; first | rfl | kernel_rfl)) ?_
  · rw [show z + 1 - 1 = z by omega]
    refine cmpL_filter V.int V.int _ _ fun k hk => ⟨_, at_local rfl, sub_tl rfl sub_rfl, fun H => ?_, fun _ H => (ev_name rfl rfl)⟩
    have := rngA_mem.mp hk
    exact tv_cmp (ev_bin (ev_name rfl rfl) (ev_name rfl rfl) (bin_mod (by omega))) ev_int c_eq
  refine bl_cons (st_assign (ev_item (ev_name rfl rfl) (ev_bin (ev_name rfl rfl) (ev_call (G.b 7 rfl rfl rfl) (el_cons (ev_name rfl rfl) el_nil) (fn_len (len_l (l := (partsL z).map .int) lq_lst (part hz hz2))) rfl) (bin_mod (by simp; omega))) (by rw [List.length_map]; exact it_mod (d := 0) n1 (by omega))) rfl) ?_
  generalize pickM 0 (partsL z) rest = a at ha ⊢
  refine bl_cons (st_assign (ev_bin (ev_name rfl rfl) (ev_call (G.b 7 rfl rfl rfl) (el_cons (ev_name rfl rfl) el_nil) (fn_len (len_l (l := (partsL z).map .int) lq_lst (part hz hz2))) rfl) (bin_div (by simp; omega) (by simp; omega))) rfl) ?_
  rw [List.length_map]
  generalize rest.fdiv (partsL z).length = r1
  have hd := fdiv_pos hz ha.1 ha.2.2
  have hdz : z.fdiv a ≤ 1000000 := by have := le_mul_one hd ha.1; rw [Int.mul_comm, fdiv_of ha.1 ha.2.2] at this; omega
  have an : a.natAbs < 1073741824 := by omega
  refine bl_cons (st_assign_comp (o := (partsL (z.fdiv a)).map .int) (si_range2 (i := 1) (j := z.fdiv a + 1) (G.b 8 rfl rfl rfl) (el_cons ev_int (el_cons (ev_bin (ev_bin (ev_name rfl rfl) (ev_name rfl rfl) (bin_div (by omega) an)) ev_int bin_add) el_nil)) (by decide) (by omega)) (cb_emit rfl) ?_ (part hd hdz) pure_ints rfl rfl (by decide) rfl (by intro g h; simp at h) (by intro _ _; rfl) (by intro env h; cases env; dsimp only at h; subst h; first | rfl | kernel_rfl)) ?_
  · rw [show z.fdiv a + 1 - 1 = z.fdiv a by omega]
    refine cmpL_filter V.int V.int _ _ fun k hk => ⟨_, at_local rfl, sub_tl rfl sub_rfl, fun H => ?_, fun _ H => (ev_name rfl rfl)⟩
    have := rngA_mem.mp hk
    exact tv_cmp (ev_bin (ev_bin (ev_name rfl rfl) (ev_name rfl rfl) (bin_div (by omega) an)) (ev_name rfl rfl) (bin_mod (by omega))) ev_int c_eq
  generalize hy : z.fdiv a = y at hd hdz ⊢
  have hb := parts_mem hd (pickM_mem (d := 0) (r := r1) (parts_ne hd))
  have l2 := parts_len (z := y)
  have n2 : (partsL y) ≠ [] := parts_ne hd
  have n2' : 0 < (partsL y).length := List.length_pos_iff.mpr n2
  refine bl_cons (st_assign (ev_item (ev_name rfl rfl) (ev_bin (ev_name rfl rfl) (ev_call (G.b 7 rfl rfl rfl) (el_cons (ev_name rfl rfl) el_nil) (fn_len (len_l (l := (partsL y).map .int) lq_lst (part hd hdz))) rfl) (bin_mod (by simp; omega))) (by rw [List.length_map]; exact it_mod (d := 0) n2 (by omega))) rfl) ?_
  generalize pickM 0 (partsL y) r1 = b at hb ⊢
  refine bl_cons (st_assign (ev_bin (ev_name rfl rfl) (ev_call (G.b 7 rfl rfl rfl) (el_cons (ev_name rfl rfl) el_nil) (fn_len (len_l (l := (partsL y).map .int) lq_lst (part hd hdz))) rfl) (bin_div (by simp; omega) (by simp; omega))) rfl) ?_
  rw [List.length_map]
  generalize r1.fdiv (partsL y).length = r2
  refine bl_cons (st_assign (v := .int (y.fdiv b)) (ev_bin (ev_to (v' := .int y) (ev_bin (ev_name rfl rfl) (ev_name rfl rfl) (bin_div (by omega) an)) (by rw [hy])) (ev_name rfl rfl) (bin_div (by omega) (by omega))) rfl) ?_
  have hc := fdiv_pos hd hb.1 hb.2.2
  have hcy : y.fdiv b ≤ y := by have := le_mul_one hc hb.1; rw [Int.mul_comm, fdiv_of hb.1 hb.2.2] at this; exact this
  generalize y.fdiv b = c at hc hcy ⊢
  have sa : small a = true := small_of (by omega) (by omega)
  have sb : small b = true := small_of (by omega) (by omega)
  refine rn_wk (bl_ret (st_ret (ev_item (ev_frz (l := (formsL z a b c).map tI) (ev_list (el_tc (el_cons (ev_name rfl rfl) (el_cons (ev_name rfl rfl) (el_cons (ev_name rfl rfl) el_nil))) (by simp) (el_tc (el_cons (ev_name rfl rfl) (el_cons (ev_bin (ev_name rfl rfl) (ev_name rfl rfl) (bin_mul sb)) el_nil)) (by simp) (el_tc (el_cons (ev_name rfl rfl) el_nil) (by simp) (el_tc (el_cons (ev_name rfl rfl) (el_cons ev_int (el_cons (ev_bin (ev_name rfl rfl) (ev_name rfl rfl) (bin_mul sb)) el_nil))) (by simp) (el_tc (el_cons (ev_bin (ev_name rfl rfl) (ev_name rfl rfl) (bin_mul sa)) (el_cons (ev_name rfl rfl) el_nil)) (by simp) (el_tc (el_cons (ev_name rfl rfl) (el_cons ev_int (el_cons (ev_name rfl rfl) (el_cons (ev_name rfl rfl) el_nil)))) (by simp) (el_cons (v := tI (if z = 1 then [] else [b, a, c])) ?_ el_nil))))))) (by simp [formsL])) pure_tIs) (ev_bin (ev_name rfl rfl) ev_int (bin_mod (by decide))) (it_mod (l := formsL z a b c) (d := []) (by simp [formsL]) (by simp [formsL]))))) sub_nil
  by_cases q : z = 1
  · rw [if_pos q]; exact ev_ite_t (tv_to (tv_cmp (ev_name rfl rfl) ev_int c_eq) (by simp [q])) (ev_tuple el_nil (by simp))
  · rw [if_neg q]; exact ev_ite_f (tv_to (tv_cmp (ev_name rfl rfl) ev_int c_eq) (by simp [q])) (ev_tuple (el_cons (ev_name rfl rfl) (el_cons (ev_name rfl rfl) (el_cons (ev_name rfl rfl) el_nil))) (by simp))
end
end Tg
namespace Tg
set_option maxHeartbeats 1000000
section
variable {K : Kx} {σ : En} {H : AH} {x k : Str} {a : V} {l : List V} {p q r s t u : Pos} {j : Nat}
theorem ev_to_k (hx : σ.lookup x = some a) (hn : nameOk K.sc x = true) (hk : σ.lookup k = some (.int j)) (hkn : nameOk K.sc k = true) (hl : Lq a l H) (hz : l.length ≤ 1000000) (hj : j ≤ l.length) (hp : ∀ v ∈ l, Pure v) :
    Ev K (.Subscript (.Name x p) (.Slice none (some (.Name k q)) none r) s) σ H (.lst (l.take j)) H := by
  refine ev_frz ?_ fun v h => hp v (List.mem_of_mem_take h)
  have := ev_slice (K := K) (p := r) (pos := s) (ol := none) (oh := some (j : Int)) (lo := none) (hi := some (.Name k q)) (ev_name (pos := p) hx hn) (show PartV _ none _ _ _ _ from ⟨rfl, rfl⟩) rfl (show PartV _ (some _) _ _ _ _ from ev_name hk hkn) ⟨rfl, by omega⟩ (slc_ls hl (by intro a h; cases h) (by intro a h; cases h; omega) (by omega))
  have e : (l.take (hiN l.length (some (j : Int)))).drop (loN none) = l.take j := by simp [hiN, loN]; try omega
  rwa [e] at this
theorem ev_from_k {vk} (hx : σ.lookup x = some a) (hn : nameOk K.sc x = true) (hk : σ.lookup k = some (.int j)) (hkn : nameOk K.sc k = true) (hl : Lq a l H) (hz : l.length ≤ 1000000) (hj : j < l.length) (hp : ∀ v ∈ l, Pure v) :
    Ev K (.Subscript (.Name x p) (.Slice (some (.BinOp (.Name k q) .Add (.Constant (.int 1) vk t) u)) none none r) s) σ H (.lst (l.drop (j + 1))) H := by
  refine ev_frz ?_ fun v h => hp v (List.mem_of_mem_drop h)
  have := ev_slice (K := K) (p := r) (pos := s) (ol := some ((j : Int) + 1)) (oh := none) (lo := some (.BinOp (.Name k q) .Add (.Constant (.int 1) vk t) u)) (hi := none) (ev_name (pos := p) hx hn) (show PartV _ (some _) _ _ _ _ from ev_bin (ev_name hk hkn) ev_int bin_add) ⟨rfl, by omega⟩ (show PartV _ none _ _ _ _ from ⟨rfl, rfl⟩) rfl (slc_ls hl (by intro a h; cases h; omega) (by intro a h; cases h) (by omega))
  have e : (l.take (hiN l.length none)).drop (loN (some ((j : Int) + 1))) = l.drop (j + 1) := by
    simp [hiN, loN]; try (congr 1; omega)
  rwa [e] at this
theorem ev_but_k {vk} {p2 q2 r2 s2 : Pos} {pos : Pos} (hx : σ.lookup x = some a) (hn : nameOk K.sc x = true) (hk : σ.lookup k = some (.int j)) (hkn : nameOk K.sc k = true) (hl : Lq a l H) (hz : l.length ≤ 500000) (hj : j < l.length) (hp : ∀ v ∈ l, Pure v) :
    Ev K (.BinOp (.Subscript (.Name x p) (.Slice none (some (.Name k q)) none r) s) .Add (.Subscript (.Name x p2) (.Slice (some (.BinOp (.Name k q2) .Add (.Constant (.int 1) vk t) u)) none none r2) s2) pos) σ H (.lst (l.take j ++ l.drop (j + 1))) H :=
  ev_frz (ev_bin (ev_to_k hx hn hk hkn hl (by omega) (by omega) hp) (ev_from_k hx hn hk hkn hl (by omega) hj hp) (bin_lcat lq_lst lq_lst (by simp; omega)))
    fun v h => (List.mem_append.mp h).elim (fun h => hp v (List.mem_of_mem_take h)) fun h => hp v (List.mem_of_mem_drop h)
end
end Tg
namespace Tg
set_option maxHeartbeats 1000000
noncomputable abbrev vN (l : List Nat) : List V := (nI l).map V.int
theorem pureN {l : List Nat} : ∀ v ∈ vN l, Pure v := pure_ints
section
variable {B : Bs} (G : G2 B) {n : Nat}
include G
theorem perm_run : ∀ (m : Nat) (left made : List Nat) (rest : Int), left.length = m → made.length + left.length ≤ 1000 → ∃ ax : List Nat, ax.Perm (made ++ left) ∧ ∀ H : AH, ∃ k, WhR ⟨B, n, dScope (nth P2 38)⟩ (wTest (nth (iBody (nth (dBody (nth P2 38)) 4)) 1)) (wBody (nth (iBody (nth (dBody (nth P2 38)) 4)) 1)) [] k
      [("rest", .int rest), ("left", .lst (vN left)), ("made", .ref H.length), ("kind", .int 1)] (H ++ [.list (vN made)]) .next [("made", .ref H.length), ("kind", .int 1)] (H ++ [.list (vN ax)]) := by
  intro m
  induction m with
  | zero =>
    intro left made rest hm hz
    have e := List.eq_nil_of_length_eq_zero hm
    subst e
    exact ⟨made, by simp, fun H => ⟨0, .done (tv_to (tv_plain (ev_name rfl rfl) (t_ls (l := []) lq_lst (by simp)) (by intro _ _; rfl)) rfl) (rn_wk bl_nil (by (repeat (first | exact sub_nil | exact sub_rfl | refine sub_cons rfl ?_))))⟩⟩
  | succ m ih =>
    intro left made rest hm hz
    have hne : left ≠ [] := fun e => by rw [e] at hm; cases hm
    obtain ⟨j, e, hj, hl⟩ := pickM_at (d := 0) (l := left) (r := rest) hne
    generalize pickM 0 left rest = x at hl
    have hperm : (x :: (left.take j ++ left.drop (j + 1))).Perm left := by
      have e2 : left = left.take j ++ x :: left.drop (j + 1) := by
        rw [← (List.getElem?_eq_some_iff.mp hl).2, ← List.drop_eq_getElem_cons hj, List.take_append_drop]
      exact (List.perm_middle.symm).trans (e2 ▸ .refl _)
    obtain ⟨ax, h1, h2⟩ := ih (left.take j ++ left.drop (j + 1)) (made ++ [x]) (rest.fdiv left.length) (by simp; omega) (by simp; omega)
    refine ⟨ax, h1.trans (by rw [List.append_assoc]; exact (hperm.append_left made)), fun H => ?_⟩
    obtain ⟨k, w⟩ := h2 H
    have hlen : (vN left).length = left.length := by simp [vN, nI]
    have hit : (vN left)[j]? = some (.int (x : Int)) := by simp [vN, nI, hl]
    have h0 : (H ++ [AO.list (vN made)])[H.length]? = some (.list (vN made)) := by simp
    have emap : vN (left.take j ++ left.drop (j + 1)) = (vN left).take j ++ (vN left).drop (j + 1) := by simp [vN, nI]
    refine ⟨k + 1, .next (H₁ := H ++ [.list (vN made)]) (tv_to (tv_plain (ev_name rfl rfl) (t_ls (l := vN left) lq_lst (by rw [hlen]; omega)) (by intro _ _; rfl)) ?_) ?_ w⟩
    · cases left with
      | nil => exact absurd rfl hne
      | cons a l => rfl
    refine bl_cons (st_assign (v := .int (j : Int)) (ev_to (ev_bin (ev_name rfl rfl) (ev_call (G.b 7 rfl rfl rfl) (el_cons (ev_name rfl rfl) el_nil) (fn_len (len_l (l := vN left) lq_lst (by rw [hlen]; omega))) rfl) (bin_mod (by rw [hlen]; omega))) (by rw [hlen, e])) rfl) ?_
    refine bl_cons (st_assign (v := .int (rest.fdiv left.length)) (ev_to (ev_bin (ev_name rfl rfl) (ev_call (G.b 7 rfl rfl rfl) (el_cons (ev_name rfl rfl) el_nil) (fn_len (len_l (l := vN left) lq_lst (by rw [hlen]; omega))) rfl) (bin_div (by rw [hlen]; omega) (by rw [hlen]; omega))) (by rw [hlen])) rfl) ?_
    refine bl_cons (H₁ := H ++ [.list (vN (made ++ [x]))]) (rn_hp (st_expr (ev_append (ev_name rfl rfl) (ev_item (ev_name rfl rfl) (ev_name rfl rfl) (it_ls (j := j) lq_lst rfl hit (by omega))) h0 h0 (by simp; omega))) (by simp [vN, nI])) ?_
    exact rn_wk (bl_cons (st_assign (v := .lst (vN (left.take j ++ left.drop (j + 1)))) (ev_to (ev_but_k (j := j) rfl rfl rfl rfl (lq_lst (l := vN left)) (by rw [hlen]; omega) (by rw [hlen]; exact hj) pureN) (by rw [emap])) rfl) bl_nil) (by (repeat (first | exact sub_nil | exact sub_rfl | refine sub_cons rfl ?_)))
theorem s_deed0 {sh : List Int} {number most : Int} {b : V} (hs : Sides sh) (hk : number.fmod 6 = 0) : Fp B (n + 3) (.ref (G.ad "_law_deed")) [tI sh, .int number, .int most, b] (.tup [.int 0, tI (splitS (prodI sh) (number.fdiv 6))]) := by
  refine G.pure 21 rfl (fl := .ret _) rfl rfl (pure_tup fun v h => by simp at h; rcases h with rfl | rfl; exact pure_int; exact pure_tI) fun H => ?_
  refine rn_wk (bl_cons (st_assign (v := .int 0) (ev_to (ev_bin (ev_name rfl rfl) ev_int (bin_mod (by decide))) (by rw [hk])) rfl) (bl_cons (st_assign (ev_bin (ev_name rfl rfl) ev_int (bin_div (by decide) (by decide))) rfl) (bl_ret (st_if_t (tv_to (tv_cmp (ev_name rfl rfl) ev_int c_eq) rfl) (bl_ret (st_ret (ev_tuple (el_cons (ev_name rfl rfl) (el_cons (ev_call (G.e 14 rfl rfl rfl) (el_cons (ev_name rfl rfl) (el_cons (ev_name rfl rfl) el_nil)) (Fp.fn (s_split G (n := n) hs)) (G.c 20 rfl)) el_nil)) (by simp)))))))) sub_nil
theorem s_deed1 {sh : List Int} {number most : Int} {b : V} (hz : sh.length ≤ 1000) (hk : number.fmod 6 = 1) : ∃ ax : List Nat, ax.Perm (List.range sh.length) ∧ Fp B (n + 3) (.ref (G.ad "_law_deed")) [tI sh, .int number, .int most, b] (.tup [.int 1, tI (nI ax)]) := by
  obtain ⟨ax, h1, h2⟩ := perm_run G (n := n + 2) sh.length (List.range sh.length) [] (number.fdiv 6) (by simp) (by simp; omega)
  have hax : ax.length = sh.length := by simpa using h1.length_eq
  have hp : Pure (.tup [.int 1, tI (nI ax)]) := pure_tup fun v h => by simp at h; rcases h with rfl | rfl; exact pure_int; exact pure_tI
  refine ⟨ax, by simpa using h1, G.fz 21 rfl (fl := .ret (.tup [.int 1, tI (nI ax)])) rfl rfl fun H => ⟨[.list (vN ax)], ?_, fz_pure hp⟩⟩
  obtain ⟨k, w⟩ := h2 H
  have hrs : Builtin.Range.rangeSize 0 ((sh.map V.int).length : Int) 1 = sh.length := by rw [List.length_map, rangeSize_nat]; omega
  refine bl_cons (st_assign (v := .int 1) (ev_to (ev_bin (ev_name rfl rfl) ev_int (bin_mod (by decide))) (by rw [hk])) rfl) (bl_cons (st_assign (ev_bin (ev_name rfl rfl) ev_int (bin_div (by decide) (by decide))) rfl) (bl_cons (st_if_f (tv_to (tv_cmp (ev_name rfl rfl) ev_int c_eq) rfl) bl_nil) (bl_cons (st_assign (ev_list el_nil (by simp)) rfl) ?_)))
  refine rn_wk (bl_ret (st_if_t (tv_to (tv_cmp (ev_name rfl rfl) ev_int c_eq) rfl) (bl_cons (st_assign (v := .lst (vN (List.range sh.length))) (ev_to (ev_frz (l := (rngS 0 1 sh.length).map .int) (ev_list_rg (n := sh.length) (G.b 9 rfl rfl rfl) (rg_1 (G.b 8 rfl rfl rfl) (el_cons (ev_call (G.b 7 rfl rfl rfl) (el_cons (ev_name rfl rfl) el_nil) (fn_len (len_t (l := sh.map .int) (by simp; omega))) rfl) el_nil)) ?_ hrs (by omega)) pure_ints) (by rw [rng_eq])) rfl) (bl_cons (rn_sub (st_while w) (by (repeat (first | exact sub_nil | exact sub_rfl | refine sub_cons rfl ?_)))) (bl_ret (st_ret (ev_tuple (el_cons (ev_name rfl rfl) (el_cons (ev_call (G.b 0 rfl rfl rfl) (el_cons (ev_name rfl rfl) el_nil) (fn_tuple (l := vN ax) (lq_ref (by simp)) (by simp [vN, nI, hax]; omega)) rfl) el_nil)) (by simp))))))) ) sub_nil
  rw [List.length_map]; exact small_one (by omega) (by omega) (by omega) (by omega)
end
end Tg
namespace Tg
set_option maxHeartbeats 1000000
noncomputable abbrev but (l : List Int) (i : Nat) : List Int := l.take i ++ l.drop (i + 1)
theorem but_prod {l : List Int} {i : Nat} (h : i < l.length) : prodI l = prodI (but l i) * l.getD i 0 := by
  have e : l = l.take i ++ l.getD i 0 :: l.drop (i + 1) := by
    rw [List.getD, List.getElem?_eq_getElem h, Option.getD_some, ← List.drop_eq_getElem_cons h, List.take_append_drop]
  conv => lhs; rw [e]
  rw [prodI_append, prodI_append, prodI_cons, Int.mul_assoc, Int.mul_comm (prodI (l.drop (i + 1)))]
theorem getD_mem {l : List Int} {i : Nat} (h : i < l.length) : l.getD i 0 ∈ l := by
  rw [List.getD, List.getElem?_eq_getElem h]; exact List.getElem_mem h
theorem but_sides {l : List Int} {i : Nat} (h : i < l.length) (hs : Sides l) : Sides (but l i) := by
  have hp : ∀ x ∈ but l i, 0 < x := fun x hx => (List.mem_append.mp hx).elim (fun hx => hs.1 x (List.mem_of_mem_take hx)) fun hx => hs.1 x (List.mem_of_mem_drop hx)
  have h1 := but_prod h
  have h2 := hs.2
  rw [h1] at h2
  exact ⟨hp, Int.le_trans (le_mul_one (prodI_pos hp) (hs.1 _ (getD_mem h))) h2⟩
noncomputable abbrev DS (δ : Type) := Int × List δ × List Int
noncomputable abbrev dσ {δ : Type} (kind most : Int) (sh : List Int) (H : AH) (g : DS δ) : En := [("rest", .int g.1), ("made", .ref H.length), ("sides", .ref (H.length + 1)), ("kind", .int kind), ("shape", tI sh), ("most", .int most), ("bare", .bool false)]
noncomputable abbrev dH {δ : Type} (e : δ → V) (H : AH) (g : DS δ) : AH := H ++ [.list (g.2.1.map e), .list (g.2.2.map .int)]
section
variable {B : Bs} (G : G2 B) {n : Nat}
include G
theorem deed_run {δ : Type} (e : δ → V) (he : ∀ x, Pure (e x)) {kind number most : Int} {sh : List Int} (hk : number.fmod 6 = kind) (k0 : kind ≠ 0) (k1 : kind ≠ 1) (hz : sh.length ≤ 1000) (next : DS δ → Int → DS δ) (good : DS δ → List Int → Prop) (h0 : good (number.fdiv 6, [], sh) (rngL 0 sh.length))
    (step : ∀ g x l, good g (x :: l) → good (next g x) l ∧ ∃ i : Nat, x = i ∧ i < sh.length ∧ g.2.2.length = sh.length ∧ Sides g.2.2 ∧ ∀ H, ∃ σ2, St ⟨B, n + 2, dScope (nth P2 38)⟩ (nth (fBody (nth (dBody (nth P2 38)) 6)) 2) (("others", .int (prodI (but g.2.2 i))) :: ("side", .int (sh.getD i 0)) :: ("place", .int i) :: dσ kind most sh H g) (dH e H g) .next σ2 (dH e H (next g x)) ∧ Sub (dσ kind most sh H (next g x)) σ2)
    (hfin : ((rngL 0 sh.length).foldl next (number.fdiv 6, [], sh)).2.1.length ≤ 1048576) :
    Fp B (n + 3) (.ref (G.ad "_law_deed")) [tI sh, .int number, .int most, .bool false] (.tup [.int kind, .tup (((rngL 0 sh.length).foldl next (number.fdiv 6, [], sh)).2.1.map e)]) := by
  have hp : Pure (.tup [.int kind, .tup (((rngL 0 sh.length).foldl next (number.fdiv 6, [], sh)).2.1.map e)]) := pure_tup fun v h => by
    simp only [List.mem_cons, List.not_mem_nil, or_false] at h
    rcases h with rfl | rfl
    · exact pure_int
    · exact pure_tup fun v h => by obtain ⟨x, _, rfl⟩ := List.mem_map.mp h; exact he x
  refine G.fz 21 rfl (fl := .ret _) rfl rfl fun H => ⟨[.list (((rngL 0 sh.length).foldl next (number.fdiv 6, [], sh)).2.1.map e), .list (((rngL 0 sh.length).foldl next (number.fdiv 6, [], sh)).2.2.map .int)], ?_, fz_pure hp⟩
  have loop := forR_fold (K := ⟨B, n + 2, dScope (nth P2 38)⟩) (tgt := fTgt (nth (dBody (nth P2 38)) 6)) (bl := fBody (nth (dBody (nth P2 38)) 6)) V.int (dσ kind most sh H) (dH e H) next good (fun g x l h => by
    obtain ⟨h1, i, rfl, hi, hl, hs, h2⟩ := step g x l h
    obtain ⟨σ2, h3, h4⟩ := h2 H
    refine ⟨h1, _, at_name rfl, ?_⟩
    have hlen : (g.2.2.map V.int).length = sh.length := by simp [hl]
    have e2 : (g.2.2.map V.int).take i ++ (g.2.2.map V.int).drop (i + 1) = (but g.2.2 i).map .int := by simp
    refine bl_cons (st_assign (ev_item (ev_name rfl rfl) (ev_name rfl rfl) (it_pick hi hz)) rfl) (bl_cons (st_assign (ev_call (G.e 12 rfl rfl rfl) (el_cons (ev_to (v' := .lst ((but g.2.2 i).map .int)) (ev_but_k (j := i) (l := g.2.2.map .int) rfl rfl rfl rfl (lq_ref hh1) (by omega) (by omega) pure_ints) (by rw [e2])) el_nil) (Fp.fn ((s_size G (n := n) (.inr rfl) (but_sides (by omega) hs).small).le (show n + 1 ≤ n + 2 by omega))) (G.c 18 rfl)) rfl) (rn_wk (bl_cons h3 bl_nil) h4))) (rngL 0 sh.length) (number.fdiv 6, [], sh) h0
  generalize (rngL 0 sh.length).foldl next (number.fdiv 6, [], sh) = g at loop hfin hp ⊢
  refine bl_cons (st_assign (v := .int kind) (ev_to (ev_bin (ev_name rfl rfl) ev_int (bin_mod (by decide))) (by rw [hk])) rfl) (bl_cons (st_assign (ev_bin (ev_name rfl rfl) ev_int (bin_div (by decide) (by decide))) rfl) (bl_cons (st_if_f (tv_to (tv_cmp (ev_name rfl rfl) ev_int c_eq) (by simp [k0])) bl_nil) (bl_cons (st_assign (ev_list el_nil (by simp)) rfl) (bl_cons (st_if_f (tv_to (tv_cmp (ev_name rfl rfl) ev_int c_eq) (by simp [k1])) bl_nil) (bl_cons (H₁ := dH e H (number.fdiv 6, [], sh)) (rn_hp (st_assign (v := .ref (H.length + 1)) (ev_to (ev_call (G.b 9 rfl rfl rfl) (el_cons (ev_name rfl rfl) el_nil) (fn_list_tup (l := sh.map .int) (by simp; omega)) rfl) (by simp)) rfl) (by simp)) ?_)))))
  exact rn_wk (bl_cons (rn_sub (st_for (si_range (j := (sh.length : Int)) (G.b 8 rfl rfl rfl) (el_cons (ev_to (ev_call (G.b 7 rfl rfl rfl) (el_cons (ev_name rfl rfl) el_nil) (fn_len (len_t (l := sh.map .int) (by simp; omega))) rfl) (by simp)) el_nil) (by omega)) loop) (by (repeat (first | exact sub_nil | exact sub_rfl | refine sub_cons rfl ?_)))) (bl_ret (st_ret (ev_tuple (el_cons (ev_name rfl rfl) (el_cons (ev_call (G.b 0 rfl rfl rfl) (el_cons (ev_name rfl rfl) el_nil) (fn_tuple (l := g.2.1.map e) (lq_ref hh0) (by simpa using hfin)) rfl) el_nil)) (by simp))))) sub_nil
end
end Tg
namespace Tg
set_option maxHeartbeats 1000000
theorem foldl_inv {γ δ : Type} {next : γ → δ → γ} {good : γ → List δ → Prop} (h : ∀ g x l, good g (x :: l) → good (next g x) l) : ∀ (l : List δ) (g : γ), good g l → good (l.foldl next g) []
  | [], _, q => q
  | x :: l, g, q => foldl_inv h l _ (h g x l q)
noncomputable def Left {δ : Type} (sh : List Int) (g : DS δ) (l : List Int) : Prop := l = rngL g.2.1.length l.length ∧ g.2.1.length + l.length = sh.length
theorem Left.nx {δ : Type} {sh : List Int} {g : DS δ} {x : Int} {l : List Int} (h : Left sh g (x :: l)) {r : Int} {d : δ} {s : List Int} : Left sh (r, g.2.1 ++ [d], s) l ∧ x = (g.2.1.length : Int) ∧ g.2.1.length < sh.length := by
  obtain ⟨h1, h2⟩ := h
  rw [List.length_cons] at h1 h2
  obtain ⟨rfl, h3⟩ := List.cons.inj (show x :: l = (g.2.1.length : Int) :: rngL (g.2.1.length + 1) l.length from h1)
  exact ⟨⟨by simpa using h3, by simp; omega⟩, rfl, by omega⟩
theorem Left.st {δ : Type} {sh : List Int} {r : Int} : Left sh ((r, [], sh) : DS δ) (rngL 0 sh.length) := ⟨by simp [rngL_length], by simp [rngL_length]⟩
noncomputable def next5 (g : DS Int) (_ : Int) : DS Int := (g.1.fdiv 6, g.2.1 ++ [pickM 0 stepsL g.1], g.2.2)
noncomputable def next4 (sh : List Int) (g : DS (Int × Int)) (_ : Int) : DS (Int × Int) :=
  let side := sh.getD g.2.1.length 0
  let low := g.1.fmod side
  let r1 := g.1.fdiv side
  (r1.fdiv (side - low), g.2.1 ++ [(low, low + 1 + r1.fmod (side - low))], g.2.2)
noncomputable def new2 (most : Int) (g : DS Int) : Int := let k := pickM 0 stretch g.1; if prodI (but g.2.2 g.2.1.length) * k ≤ most ∧ 0 < k then k else 1
noncomputable def next2 (most : Int) (sh : List Int) (g : DS Int) (_ : Int) : DS Int :=
  if sh.getD g.2.1.length 0 = 1 then (g.1.fdiv 7, g.2.1 ++ [new2 most g], g.2.2.set g.2.1.length (new2 most g))
  else (g.1, g.2.1 ++ [sh.getD g.2.1.length 0], g.2.2.set g.2.1.length (sh.getD g.2.1.length 0))
theorem zip_snoc {δ : Type} {y : δ} : ∀ {l : List Int} {m : List δ}, m.length < l.length → l.zip (m ++ [y]) = l.zip m ++ [(l.getD m.length 0, y)]
  | [], m, h => by simp at h
  | x :: l, [], _ => by simp
  | x :: l, z :: m, h => by
    have ih := zip_snoc (y := y) (l := l) (m := m) (by simpa using h)
    simp only [List.cons_append, List.zip_cons_cons, ih, List.length_cons]
    simp
noncomputable def Good5 (sh : List Int) (g : DS Int) (l : List Int) : Prop := Left sh g l ∧ g.2.2 = sh ∧ ∀ m ∈ g.2.1, m ∈ stepsL
noncomputable def Good4 (sh : List Int) (g : DS (Int × Int)) (l : List Int) : Prop := Left sh g l ∧ g.2.2 = sh ∧ ∀ p ∈ sh.zip g.2.1, 0 ≤ p.2.1 ∧ p.2.1 < p.2.2 ∧ p.2.2 ≤ p.1
section
variable {B : Bs} (G : G2 B) {n : Nat}
include G
theorem s_deed5 {sh : List Int} {number most : Int} (hs : Sides sh) (hz : sh.length ≤ 1000) (hk : number.fmod 6 = 5) : ∃ mul : List Int, mul.length = sh.length ∧ (∀ m ∈ mul, m ∈ stepsL) ∧ Fp B (n + 3) (.ref (G.ad "_law_deed")) [tI sh, .int number, .int most, .bool false] (.tup [.int 5, tI mul]) := by
  have nx : ∀ (g : DS Int) x l, Good5 sh g (x :: l) → Good5 sh (next5 g x) l := fun g x l h => ⟨h.1.nx.1, h.2.1, fun m hm => by
    rcases List.mem_append.mp hm with hm | hm
    · exact h.2.2 m hm
    · rw [List.mem_singleton.mp hm]; exact pickM_mem (by simp [stepsL])⟩
  have st : Good5 sh (number.fdiv 6, [], sh) (rngL 0 sh.length) := ⟨Left.st, rfl, fun _ h => nomatch h⟩
  have fin := foldl_inv (good := Good5 sh) nx _ _ st
  have hl : ((rngL 0 sh.length).foldl next5 (number.fdiv 6, [], sh)).2.1.length = sh.length := by simpa using fin.1.2
  refine ⟨_, hl, fin.2.2, deed_run G V.int (fun _ => pure_int) hk (by decide) (by decide) hz next5 (Good5 sh) st (fun g x l h => ⟨nx g x l h, g.2.1.length, (h.1.nx (r := 0) (d := 0) (s := [])).2.1, (h.1.nx (r := 0) (d := 0) (s := [])).2.2, by rw [h.2.1], by rw [h.2.1]; exact hs, fun H => ?_⟩) (by rw [hl]; omega)⟩
  refine ⟨_, st_if_f (tv_to (tv_cmp (ev_name rfl rfl) ev_int c_eq) rfl) (bl_cons (st_if_f (tv_to (tv_cmp (ev_name rfl rfl) ev_int c_eq) rfl) (bl_cons (st_if_f (tv_to (tv_cmp (ev_name rfl rfl) ev_int c_eq) rfl) (bl_cons (H₁ := dH V.int H (next5 g x)) (rn_hp (st_expr (ev_append (ev_name rfl rfl) (ev_item (ev_call (G.e 11 rfl rfl rfl) el_nil (Fp.fn ((s_steps G (n := n)).le (show n + 1 ≤ n + 2 by omega))) (G.c 17 rfl)) (ev_bin (ev_name rfl rfl) ev_int (bin_mod (by decide))) (it_mod (f := V.int) (d := 0) (l := stepsL) (by simp [stepsL]) (by simp [stepsL]))) hh0 hh0 (by have := h.1.2; simp at this ⊢; omega))) (by simp [dH, next5])) (bl_cons (st_assign (ev_bin (ev_name rfl rfl) ev_int (bin_div (by decide) (by decide))) rfl) bl_nil))) bl_nil)) bl_nil), by unfold next5; (repeat (first | exact sub_nil | exact sub_rfl | refine sub_cons rfl ?_))⟩
theorem s_deed4 {sh : List Int} {number most : Int} (hs : Sides sh) (hz : sh.length ≤ 1000) (hk : number.fmod 6 = 4) : ∃ l : List (Int × Int), l.length = sh.length ∧ (∀ p ∈ sh.zip l, 0 ≤ p.2.1 ∧ p.2.1 < p.2.2 ∧ p.2.2 ≤ p.1) ∧ Fp B (n + 3) (.ref (G.ad "_law_deed")) [tI sh, .int number, .int most, .bool false] (.tup [.int 4, tP l]) := by
  have lo : ∀ g : DS (Int × Int), g.2.1.length < sh.length → 0 < sh.getD g.2.1.length 0 ∧ sh.getD g.2.1.length 0 ≤ 1000000 := fun g h => by
    have hp := hs.1 _ (getD_mem h)
    refine ⟨hp, ?_⟩
    have h1 := but_prod h
    have h2 := hs.2
    rw [h1, Int.mul_comm] at h2
    exact Int.le_trans (le_mul_one hp (prodI_pos (but_sides h hs).1)) h2
  have nx : ∀ (g : DS (Int × Int)) x l, Good4 sh g (x :: l) → Good4 sh (next4 sh g x) l := fun g x l h => by
    have hlt := (h.1.nx (r := 0) (d := (0, 0)) (s := [])).2.2
    refine ⟨h.1.nx.1, h.2.1, fun p hp => ?_⟩
    obtain ⟨h1, h2⟩ := lo g hlt
    have e := zip_snoc (y := (g.1.fmod (sh.getD g.2.1.length 0), g.1.fmod (sh.getD g.2.1.length 0) + 1 + (g.1.fdiv (sh.getD g.2.1.length 0)).fmod (sh.getD g.2.1.length 0 - g.1.fmod (sh.getD g.2.1.length 0)))) hlt
    replace hp : p ∈ sh.zip (g.2.1 ++ [_]) := hp
    rw [e] at hp
    rcases List.mem_append.mp hp with hp | hp
    · exact h.2.2 p hp
    · rw [List.mem_singleton.mp hp]
      have a1 := Int.fmod_nonneg_of_pos g.1 h1
      have a2 := Int.fmod_lt_of_pos g.1 h1
      have a3 := Int.fmod_nonneg_of_pos (g.1.fdiv (sh.getD g.2.1.length 0)) (show 0 < sh.getD g.2.1.length 0 - g.1.fmod (sh.getD g.2.1.length 0) by omega)
      have a4 := Int.fmod_lt_of_pos (g.1.fdiv (sh.getD g.2.1.length 0)) (show 0 < sh.getD g.2.1.length 0 - g.1.fmod (sh.getD g.2.1.length 0) by omega)
      exact ⟨a1, by dsimp only; omega, by dsimp only; omega⟩
  have st : Good4 sh (number.fdiv 6, [], sh) (rngL 0 sh.length) := ⟨Left.st, rfl, fun p h => by simp at h⟩
  have fin := foldl_inv (good := Good4 sh) nx _ _ st
  have hl : ((rngL 0 sh.length).foldl (next4 sh) (number.fdiv 6, [], sh)).2.1.length = sh.length := by simpa using fin.1.2
  refine ⟨_, hl, fin.2.2, deed_run G (fun p : Int × Int => .tup [.int p.1, .int p.2]) (fun _ => pure_tup fun v h => by simp at h; rcases h with rfl | rfl <;> exact pure_int) hk (by decide) (by decide) hz (next4 sh) (Good4 sh) st (fun g x l h => ⟨nx g x l h, g.2.1.length, (h.1.nx (r := 0) (d := (0, 0)) (s := [])).2.1, (h.1.nx (r := 0) (d := (0, 0)) (s := [])).2.2, by rw [h.2.1], by rw [h.2.1]; exact hs, fun H => ?_⟩) (by rw [hl]; omega)⟩
  obtain ⟨h1, h2⟩ := lo g (h.1.nx (r := 0) (d := (0, 0)) (s := [])).2.2
  have a1 := Int.fmod_nonneg_of_pos g.1 h1
  have a2 := Int.fmod_lt_of_pos g.1 h1
  have hgl : (g.2.1.map fun p : Int × Int => V.tup [.int p.1, .int p.2]).length ≤ 1048576 := by have := h.1.2; simp at this ⊢; omega
  unfold next4
  dsimp only
  generalize sh.getD g.2.1.length 0 = side at h1 h2 a1 a2 ⊢
  refine ⟨_, st_if_f (tv_to (tv_cmp (ev_name rfl rfl) ev_int c_eq) rfl) (bl_cons (st_if_f (tv_to (tv_cmp (ev_name rfl rfl) ev_int c_eq) rfl) (bl_cons (st_if_t (tv_to (tv_cmp (ev_name rfl rfl) ev_int c_eq) rfl) (bl_cons (st_assign ev_int rfl) (bl_cons (st_assign ev_int rfl) (bl_cons (st_if_t (tv_to (tv_cmp (ev_name rfl rfl) ev_int c_gt) (by simpa using h1))
    (bl_cons (st_assign (ev_bin (ev_name rfl rfl) (ev_name rfl rfl) (bin_mod (by omega))) rfl) (bl_cons (st_assign (ev_bin (ev_name rfl rfl) (ev_name rfl rfl) (bin_div (by omega) (by omega))) rfl) (bl_cons (st_assign (ev_bin (ev_bin (ev_name rfl rfl) ev_int bin_add) (ev_bin (ev_name rfl rfl) (ev_bin (ev_name rfl rfl) (ev_name rfl rfl) bin_sub) (bin_mod (by omega))) bin_add) rfl) (bl_cons (st_assign (ev_bin (ev_name rfl rfl) (ev_bin (ev_name rfl rfl) (ev_name rfl rfl) bin_sub) (bin_div (by omega) (by omega))) rfl) (bl_cons (st_if_f (tv_and_f (tv_plain (ev_name rfl rfl) t_bool (by intro _ _; rfl))) bl_nil) bl_nil))))))
    (bl_cons (rn_hp (st_expr (ev_append (ev_name rfl rfl) (ev_tuple (el_cons (ev_name rfl rfl) (el_cons (ev_name rfl rfl) el_nil)) (by simp)) hh0 hh0 hgl)) (by rw [hs0]; simp [dH])) bl_nil))))) bl_nil)) bl_nil), by (repeat (first | exact sub_nil | exact sub_rfl | refine sub_cons rfl ?_))⟩
end
end Tg
namespace Tg
set_option maxHeartbeats 1000000
noncomputable def Good2 (sh : List Int) (most : Int) (g : DS Int) (l : List Int) : Prop := Left sh g l ∧ g.2.2 = g.2.1 ++ sh.drop g.2.1.length ∧ (∀ x ∈ g.2.2, 0 < x) ∧ prodI g.2.2 ≤ most ∧ ∀ p ∈ sh.zip g.2.1, p.1 = p.2 ∨ p.1 = 1
theorem prodI_mid (a : List Int) (v : Int) (b : List Int) : prodI (a ++ v :: b) = prodI (a ++ b) * v := by
  rw [prodI_append, prodI_append, prodI_cons, Int.mul_assoc, Int.mul_comm v]
section
variable {sh : List Int} {most : Int} {g : DS Int} {x : Int} {l : List Int}
theorem Good2.eqs (h : Good2 sh most g (x :: l)) : g.2.2 = g.2.1 ++ sh.getD g.2.1.length 0 :: sh.drop (g.2.1.length + 1) ∧ but g.2.2 g.2.1.length = g.2.1 ++ sh.drop (g.2.1.length + 1) ∧ ∀ v, g.2.2.set g.2.1.length v = g.2.1 ++ v :: sh.drop (g.2.1.length + 1) := by
  obtain ⟨h1, h2, _⟩ := h
  have hlt := (h1.nx (r := 0) (d := 0) (s := [])).2.2
  have e : sh.drop g.2.1.length = sh.getD g.2.1.length 0 :: sh.drop (g.2.1.length + 1) := by
    rw [List.getD, List.getElem?_eq_getElem hlt, Option.getD_some, ← List.drop_eq_getElem_cons hlt]
  rw [e] at h2
  generalize sh.getD g.2.1.length 0 = y at h2 e
  refine ⟨h2, ?_, fun v => ?_⟩
  · unfold but; rw [h2]; simp
  · rw [h2]; simp
theorem Good2.put (h : Good2 sh most g (x :: l)) {r v : Int} (hv : 0 < v) (hp : prodI (but g.2.2 g.2.1.length) * v ≤ most) (hq : sh.getD g.2.1.length 0 = v ∨ sh.getD g.2.1.length 0 = 1) : Good2 sh most (r, g.2.1 ++ [v], g.2.2.set g.2.1.length v) l := by
  obtain ⟨e1, e2, e3⟩ := h.eqs
  obtain ⟨h1, h2, h3, h4, h5⟩ := h
  have hlt := (h1.nx (r := 0) (d := 0) (s := [])).2.2
  refine ⟨h1.nx.1, by show g.2.2.set _ _ = _; rw [e3]; simp, fun y hy => ?_, ?_, fun p hp => ?_⟩
  · replace hy : y ∈ g.2.2.set g.2.1.length v := hy
    rcases List.mem_or_eq_of_mem_set hy with hy | rfl
    · exact h3 y hy
    · exact hv
  · show prodI (g.2.2.set _ _) ≤ most
    rw [e3, prodI_mid, ← e2]; exact hp
  · replace hp : p ∈ sh.zip (g.2.1 ++ [v]) := hp
    rw [zip_snoc hlt] at hp
    rcases List.mem_append.mp hp with hp | hp
    · exact h5 p hp
    · rw [List.mem_singleton.mp hp]; exact hq
theorem Good2.old (h : Good2 sh most g (x :: l)) : 0 < sh.getD g.2.1.length 0 ∧ prodI (but g.2.2 g.2.1.length) * sh.getD g.2.1.length 0 ≤ most ∧ 0 < prodI (but g.2.2 g.2.1.length) := by
  obtain ⟨e1, e2, e3⟩ := h.eqs
  obtain ⟨h1, h2, h3, h4, h5⟩ := h
  refine ⟨h3 _ (by rw [e1]; simp), by rw [e2, ← prodI_mid, ← e1]; exact h4, prodI_pos fun y hy => h3 y ?_⟩
  rw [e2] at hy
  rw [e1]
  exact (List.mem_append.mp hy).elim (fun q => List.mem_append_left _ q) fun q => List.mem_append_right _ (.tail _ q)
theorem Good2.next (h : Good2 sh most g (x :: l)) : Good2 sh most (next2 most sh g x) l := by
  obtain ⟨o1, o2, o3⟩ := h.old
  unfold next2
  by_cases q : sh.getD g.2.1.length 0 = 1
  · rw [if_pos q]
    rw [q, Int.mul_one] at o2
    unfold new2
    dsimp only
    by_cases c : prodI (but g.2.2 g.2.1.length) * pickM 0 stretch g.1 ≤ most ∧ 0 < pickM 0 stretch g.1
    · rw [if_pos c]; exact h.put c.2 c.1 (.inr q)
    · rw [if_neg c]; exact h.put (by decide) (by rw [Int.mul_one]; exact o2) (.inr q)
  · rw [if_neg q]; exact h.put o1 o2 (.inl rfl)
end
section
variable {B : Bs} (G : G2 B) {n : Nat}
include G
theorem s_deed2 {sh : List Int} {number most : Int} (hs : Sides sh) (hz : sh.length ≤ 1000) (hk : number.fmod 6 = 2) (hm : most ≤ 1000000) (hp : prodI sh ≤ most) : ∃ nw : List Int, nw.length = sh.length ∧ (Sides nw ∧ prodI nw ≤ most) ∧ (∀ p ∈ sh.zip nw, p.1 = p.2 ∨ p.1 = 1) ∧ Fp B (n + 3) (.ref (G.ad "_law_deed")) [tI sh, .int number, .int most, .bool false] (.tup [.int 2, tI nw]) := by
  have st : Good2 sh most (number.fdiv 6, [], sh) (rngL 0 sh.length) := ⟨Left.st, rfl, hs.1, hp, fun p h => by simp at h⟩
  have fin := foldl_inv (good := Good2 sh most) (next := next2 most sh) (fun g x l h => h.next) _ _ st
  have hl : ((rngL 0 sh.length).foldl (next2 most sh) (number.fdiv 6, [], sh)).2.1.length = sh.length := by simpa using fin.1.2
  have e2 := fin.2.1
  rw [hl, List.drop_length, List.append_nil] at e2
  have f3 := fin.2.2.1
  have f4 := fin.2.2.2.1
  rw [e2] at f3 f4
  refine ⟨_, hl, ⟨⟨f3, Int.le_trans f4 hm⟩, f4⟩, fin.2.2.2.2, deed_run G V.int (fun _ => pure_int) hk (by decide) (by decide) hz (next2 most sh) (Good2 sh most) st (fun g x l h => ⟨h.next, g.2.1.length, (h.1.nx (r := 0) (d := 0) (s := [])).2.1, (h.1.nx (r := 0) (d := 0) (s := [])).2.2, ?_, ⟨h.2.2.1, Int.le_trans h.2.2.2.1 hm⟩, fun H => ?_⟩) (by rw [hl]; omega)⟩
  · have := (h.1.nx (r := 0) (d := 0) (s := [])).2.2
    rw [h.2.1]; simp; omega
  have hlt := (h.1.nx (r := 0) (d := 0) (s := [])).2.2
  have hsl : (g.2.2.map V.int).length = sh.length := by rw [h.2.1]; simp; omega
  obtain ⟨o1, o2, o3⟩ := h.old
  have fin : ∀ {σ : En} {r v : Int} {s : Stmt}, σ.lookup ("rest" : Str) = some (.int r) → σ.lookup ("made" : Str) = some (.ref H.length) → σ.lookup ("sides" : Str) = some (.ref (H.length + 1)) → σ.lookup ("kind" : Str) = some (.int 2) → σ.lookup ("shape" : Str) = some (tI sh) → σ.lookup ("most" : Str) = some (.int most) → σ.lookup ("bare" : Str) = some (.bool false) → σ.lookup ("new" : Str) = some (.int v) → σ.lookup ("place" : Str) = some (.int g.2.1.length) →
      Bl ⟨B, n + 2, dScope (nth P2 38)⟩ ((iBody (nth (fBody (nth (dBody (nth P2 38)) 6)) 2)).drop 2) σ (dH V.int H g) .next (dσ 2 most sh H (r, g.2.1 ++ [v], g.2.2.set g.2.1.length v)) (dH V.int H (r, g.2.1 ++ [v], g.2.2.set g.2.1.length v)) := fun {σ r v s} a1 a2 a3 a4 a5 a6 a7 a8 a9 =>
    rn_wk (bl_cons (rn_hp (st_setitem (l := g.2.2.map .int) (j := g.2.1.length) (ev_name a8 rfl) (ev_name a3 rfl) (ev_name a9 rfl) hh1 (.inl rfl) (by omega) (by omega)) hs1) (bl_cons (rn_hp (st_expr (ev_append (ev_name a2 rfl) (ev_name a8 rfl) hh0 hh0 (by simp; omega))) (by rw [hs0]; simp [dH])) bl_nil))
      (sub_cons a1 (sub_cons a2 (sub_cons a3 (sub_cons a4 (sub_cons a5 (sub_cons a6 (sub_cons a7 sub_nil)))))))
  have so : small (prodI (but g.2.2 g.2.1.length)) = true := small_of (by omega) (by have := le_mul_one o3 o1; omega)
  unfold next2
  by_cases q : sh.getD g.2.1.length 0 = 1
  · rw [if_pos q, q]
    have it : ItemR (dH V.int H g) (.lst (stretch.map .int)) (.int (g.1.fmod 7)) (.int (pickM 0 stretch g.1)) := it_mod (d := 0) (by simp [stretch]) (by simp [stretch])
    unfold new2
    dsimp only
    generalize pickM 0 stretch g.1 = k at it
    by_cases c : prodI (but g.2.2 g.2.1.length) * k ≤ most ∧ 0 < k
    · rw [if_pos c]
      refine ⟨_, st_if_t (tv_to (tv_cmp (ev_name rfl rfl) ev_int c_eq) rfl) (bl_cons (st_assign (ev_name rfl rfl) rfl) (bl_cons (st_if_t (tv_to (tv_cmp (ev_name rfl rfl) ev_int c_eq) rfl) (bl_cons (st_assign (ev_item (ev_call (G.e 10 rfl rfl rfl) el_nil (Fp.fn ((s_stretch G (n := n)).le (show n + 1 ≤ n + 2 by omega))) (G.c 16 rfl)) (ev_bin (ev_name rfl rfl) ev_int (bin_mod (by decide))) it) rfl) (bl_cons (st_assign (ev_bin (ev_name rfl rfl) ev_int (bin_div (by decide) (by decide))) rfl)
        (bl_cons (st_if_t (tv_and_t (tv_to (tv_cmp (ev_bin (ev_name rfl rfl) (ev_name rfl rfl) (bin_mul so)) (ev_name rfl rfl) c_le) (by simpa using c.1)) (tv_or_f (tv_plain (ev_name rfl rfl) t_bool (by intro _ _; rfl)) (tv_to (tv_cmp (ev_name rfl rfl) ev_int c_gt) (by simpa using c.2)))) (bl_cons (st_assign (ev_name rfl rfl) rfl) bl_nil)) bl_nil)))) (fin (s := .Pass default) rfl rfl rfl rfl rfl rfl rfl rfl rfl))), sub_rfl⟩
    · rw [if_neg c]
      refine ⟨_, st_if_t (tv_to (tv_cmp (ev_name rfl rfl) ev_int c_eq) rfl) (bl_cons (st_assign (ev_name rfl rfl) rfl) (bl_cons (st_if_t (tv_to (tv_cmp (ev_name rfl rfl) ev_int c_eq) rfl) (bl_cons (st_assign (ev_item (ev_call (G.e 10 rfl rfl rfl) el_nil (Fp.fn ((s_stretch G (n := n)).le (show n + 1 ≤ n + 2 by omega))) (G.c 16 rfl)) (ev_bin (ev_name rfl rfl) ev_int (bin_mod (by decide))) it) rfl) (bl_cons (st_assign (ev_bin (ev_name rfl rfl) ev_int (bin_div (by decide) (by decide))) rfl)
        (bl_cons (st_if_f ?_ bl_nil) bl_nil)))) (fin (s := .Pass default) rfl rfl rfl rfl rfl rfl rfl rfl rfl))), sub_rfl⟩
      by_cases c1 : prodI (but g.2.2 g.2.1.length) * k ≤ most
      · exact tv_and_t (tv_to (tv_cmp (ev_bin (ev_name rfl rfl) (ev_name rfl rfl) (bin_mul so)) (ev_name rfl rfl) c_le) (by simpa using c1)) (tv_or_f (tv_plain (ev_name rfl rfl) t_bool (by intro _ _; rfl)) (tv_to (tv_cmp (ev_name rfl rfl) ev_int c_gt) (by have := fun h => c ⟨c1, h⟩; simpa using this)))
      · exact tv_and_f (tv_to (tv_cmp (ev_bin (ev_name rfl rfl) (ev_name rfl rfl) (bin_mul so)) (ev_name rfl rfl) c_le) (by simpa using c1))
  · rw [if_neg q]
    generalize sh.getD g.2.1.length 0 = y at q
    refine ⟨_, st_if_t (tv_to (tv_cmp (ev_name rfl rfl) ev_int c_eq) rfl) (bl_cons (st_assign (ev_name rfl rfl) rfl) (bl_cons (st_if_f (tv_to (tv_cmp (ev_name rfl rfl) ev_int c_eq) (by simp [q])) bl_nil) (fin (s := .Pass default) rfl rfl rfl rfl rfl rfl rfl rfl rfl))), sub_rfl⟩
end
end Tg
namespace Tg
set_option maxHeartbeats 1000000
theorem G2.fzH {B : Bs} (G : G2 B) {n : Nat} (i : Nat) {r : Row} (h : defs2[i]? = some r) {vs : List V} {v' : V} (hk : vs.length = r.k)
    (hb : ∀ H, ∃ v T, Bl ⟨B, n, dScope r.d⟩ (dBody r.d) (r.ps.zip (vs ++ r.dfl)) H (.ret v) [] (H ++ T) ∧ Fz (H ++ T) H.length v v') : Fp B (n + 1) (.ref (G.ad r.nm)) vs v' := fun H =>
  let ⟨d⟩ := (G.fn i r h).2; let ⟨_, _, h1, h2⟩ := hb H; fc_fz (fc_def d hk h1 rfl) h2
noncomputable def horn (sh : List Int) (at' : Nat → Int) : Int := (rngL 0 sh.length).foldl (fun a k => a * sh.getD k.toNat 0 + at' k.toNat) 0
noncomputable def HGood (sh : List Int) (a : Int) (l : List Int) : Prop := ∃ i : Nat, l = rngL i l.length ∧ i + l.length = sh.length ∧ 0 ≤ a ∧ (a + 1) * prodI (sh.drop i) ≤ prodI sh
theorem HGood.next {sh : List Int} {at' : Nat → Int} (hat : ∀ k < sh.length, 0 ≤ at' k ∧ at' k < sh.getD k 0) (hs : Sides sh) {a x : Int} {l : List Int} (h : HGood sh a (x :: l)) :
    HGood sh (a * sh.getD x.toNat 0 + at' x.toNat) l ∧ ∃ i : Nat, x = i ∧ i < sh.length ∧ small a = true := by
  obtain ⟨i, h1, h2, h3, h4⟩ := h
  rw [List.length_cons] at h1 h2
  obtain ⟨rfl, h5⟩ := List.cons.inj (show x :: l = (i : Int) :: rngL (i + 1) l.length from h1)
  have hi : i < sh.length := by omega
  obtain ⟨q1, q2⟩ := hat i hi
  have e : sh.drop i = sh.getD i 0 :: sh.drop (i + 1) := by
    rw [List.getD, List.getElem?_eq_getElem hi, Option.getD_some, ← List.drop_eq_getElem_cons hi]
  rw [e, prodI_cons] at h4
  have hp : 0 < prodI (sh.drop (i + 1)) := prodI_pos fun y hy => hs.1 y (List.mem_of_mem_drop hy)
  have hsd : 0 < sh.getD i 0 := hs.1 _ (getD_mem hi)
  have hmul : 0 ≤ a * sh.getD i 0 := Int.mul_nonneg h3 (Int.le_of_lt hsd)
  rw [show ((i : Int)).toNat = i by omega]
  refine ⟨⟨i + 1, by simpa using h5, by omega, by omega, ?_⟩, i, rfl, hi, small_of h3 ?_⟩
  · refine Int.le_trans (Int.mul_le_mul_of_nonneg_right (c := prodI (sh.drop (i + 1))) (show a * sh.getD i 0 + at' i + 1 ≤ (a + 1) * sh.getD i 0 by rw [Int.add_mul, Int.one_mul]; omega) (Int.le_of_lt hp)) ?_
    rw [Int.mul_assoc]; exact h4
  · have h6 : a + 1 ≤ (a + 1) * (sh.getD i 0 * prodI (sh.drop (i + 1))) := le_mul_one (by omega) (Int.mul_pos hsd hp)
    have := hs.2
    omega
theorem HGood.st {sh : List Int} : HGood sh 0 (rngL 0 sh.length) := ⟨0, by simp [rngL_length], by simp [rngL_length], by decide, by simp⟩
theorem horn_lt {sh : List Int} {at' : Nat → Int} (hat : ∀ k < sh.length, 0 ≤ at' k ∧ at' k < sh.getD k 0) (hs : Sides sh) : 0 ≤ horn sh at' ∧ horn sh at' < prodI sh := by
  have := foldl_inv (good := HGood sh) (next := fun a k => a * sh.getD k.toNat 0 + at' k.toNat) (fun g x l h => (h.next hat hs).1) _ _ (HGood.st (sh := sh))
  obtain ⟨i, h1, h2, h3, h4⟩ := this
  simp at h2
  rw [h2, List.drop_length] at h4
  have : prodI [] = 1 := rfl
  rw [this, Int.mul_one] at h4
  exact ⟨h3, by unfold horn; omega⟩
section
variable {B : Bs} (G : G2 B) {n : Nat}
include G
theorem s_done0 {sh : List Int} {cells a : V} (hc : Pure cells) (ha : Pure a) : Fp B (n + 1) (.ref (G.ad "_law_done")) [tI sh, cells, .int 0, a] (.tup [a, cells]) := by
  refine G.pure 22 rfl (fl := .ret _) rfl rfl (pure_tup fun v h => by simp at h; rcases h with rfl | rfl; exact ha; exact hc) fun H => ?_
  exact rn_wk (bl_ret (st_if_t (tv_to (tv_cmp (ev_name rfl rfl) ev_int c_eq) rfl) (bl_ret (st_ret (ev_tuple (el_cons (ev_name rfl rfl) (el_cons (ev_name rfl rfl) el_nil)) (by simp)))))) sub_nil
noncomputable abbrev doneB (sh nw cells : List Int) (kind : Int) (arg : V) : En := [("new", tI nw), ("shape", tI sh), ("cells", .lst (cells.map .int)), ("kind", .int kind), ("arg", arg)]
theorem done_run {sh nw cells : List Int} {kind : Int} {arg : V} (hs : Sides sh) (hz : sh.length ≤ 1000) (hnw : Sides nw) (hz2 : nw.length ≤ 1000) (hc : (cells.length : Int) = prodI sh) (hk0 : kind ≠ 0) (at' : List Int → Nat → Int) (hat : ∀ spot ∈ spotsL nw, ∀ k < sh.length, 0 ≤ at' spot k ∧ at' spot k < sh.getD k 0) (hsp : (spotsL nw).length ≤ 1000000)
    (hnew : ∀ H, St ⟨B, n + 2, dScope (nth P2 39)⟩ (nth (dBody (nth P2 39)) 1) [("shape", tI sh), ("cells", .lst (cells.map .int)), ("kind", .int kind), ("arg", arg)] H .next (doneB sh nw cells kind arg) H)
    (hs2 : ∀ H spot, spot ∈ spotsL nw → ∀ (k : Nat), k < sh.length → ∀ (a : Int) (m : V), St ⟨B, n + 2, dScope (nth P2 39)⟩ (nth (fBody (nth (fBody (nth (dBody (nth P2 39)) 3)) 2)) 0) (("k", .int k) :: ("number", .int a) :: ("inside", .bool true) :: ("spot", tI spot) :: ("made", m) :: doneB sh nw cells kind arg) H .next
      (("at", .int (at' spot k)) :: ("k", .int k) :: ("number", .int a) :: ("inside", .bool true) :: ("spot", tI spot) :: ("made", m) :: doneB sh nw cells kind arg) H) :
    Fp B (n + 3) (.ref (G.ad "_law_done")) [tI sh, .lst (cells.map .int), .int kind, arg] (.tup [tI nw, .lst (((spotsL nw).map fun s => cells.getD (horn sh (at' s)).toNat 0).map .int)]) := by
  have hle := hs.2
  refine G.fzH 22 rfl rfl fun H => ⟨.tup [tI nw, .ref H.length], [.list (((spotsL nw).map fun s => cells.getD (horn sh (at' s)).toNat 0).map .int)], ?_, fz_tup2 (fz_pure pure_tI) (fz_lst (Nat.le_refl _) (by simp) pure_ints)⟩
  have inner : ∀ (H : AH) (m : V) (spot : List Int), spot ∈ spotsL nw → ForR ⟨B, n + 2, dScope (nth P2 39)⟩ (fTgt (nth (fBody (nth (dBody (nth P2 39)) 3)) 2)) (fBody (nth (fBody (nth (dBody (nth P2 39)) 3)) 2)) [] .next (("number", .int (horn sh (at' spot))) :: ("inside", .bool true) :: ("spot", tI spot) :: ("made", m) :: doneB sh nw cells kind arg) H ((rngL 0 sh.length).map .int) (("number", .int 0) :: ("inside", .bool true) :: ("spot", tI spot) :: ("made", m) :: doneB sh nw cells kind arg) H := fun H m spot hsp =>
    forR_fold (K := ⟨B, n + 2, dScope (nth P2 39)⟩) V.int (fun a => ("number", .int a) :: ("inside", .bool true) :: ("spot", tI spot) :: ("made", m) :: doneB sh nw cells kind arg) (fun _ => H) (fun a k => a * sh.getD k.toNat 0 + at' spot k.toNat) (HGood sh) (fun a x l h => by
      obtain ⟨h1, i, rfl, hi, hsm⟩ := h.next (hat spot hsp) hs
      obtain ⟨q1, q2⟩ := hat spot hsp i hi
      rw [show ((i : Int)).toNat = i by omega] at h1 ⊢
      refine ⟨h1, _, at_name rfl, ?_⟩
      refine rn_wk (bl_cons (hs2 H spot hsp i hi a m) (bl_cons (st_if_f (tv_or_f (tv_to (tv_cmp (ev_name rfl rfl) ev_int c_lt) (by simpa using q1)) (tv_to (tv_cmp (ev_name rfl rfl) (ev_item (ev_name rfl rfl) (ev_name rfl rfl) (it_pick hi hz)) c_ge) (by simpa using q2))) bl_nil) (bl_cons (st_assign (ev_bin (ev_bin (ev_name rfl rfl) (ev_item (ev_name rfl rfl) (ev_name rfl rfl) (it_pick hi hz)) (bin_mul hsm)) (ev_name rfl rfl) bin_add) rfl) bl_nil))) (by (repeat (first | exact sub_nil | exact sub_rfl | refine sub_cons rfl ?_)))) _ _ HGood.st
  have outer := forR_fold (K := ⟨B, n + 2, dScope (nth P2 39)⟩) (tgt := fTgt (nth (dBody (nth P2 39)) 3)) (bl := fBody (nth (dBody (nth P2 39)) 3)) tI (fun _ : List Int => ("made", .ref H.length) :: doneB sh nw cells kind arg) (fun g => H ++ [.list (g.map .int)]) (fun g s => g ++ [cells.getD (horn sh (at' s)).toNat 0]) (fun g l => (∀ s ∈ l, s ∈ spotsL nw) ∧ g.length + l.length ≤ 1000000) (fun g x l h => by
      have hx := h.1 x (.head _)
      obtain ⟨b1, b2⟩ := horn_lt (hat x hx) hs
      refine ⟨⟨fun s hs => h.1 s (.tail _ hs), by have := h.2; simp at this ⊢; omega⟩, _, at_name rfl, ?_⟩
      have hg : (cells.map V.int)[(horn sh (at' x)).toNat]? = some (.int (cells.getD (horn sh (at' x)).toNat 0)) := by
        have : (horn sh (at' x)).toNat < cells.length := by omega
        simp [List.getD, List.getElem?_eq_getElem this]
      refine rn_wk (bl_cons (st_assign ev_int rfl) (bl_cons (st_assign ev_bool rfl) (bl_cons (rn_sub (st_for (si_range (j := (sh.length : Int)) (G.b 8 rfl rfl rfl) (el_cons (ev_to (ev_call (G.b 7 rfl rfl rfl) (el_cons (ev_name rfl rfl) el_nil) (fn_len (len_t (l := sh.map .int) (by simp; omega))) rfl) (by simp)) el_nil) (by omega)) (inner _ _ x hx)) (by (repeat (first | exact sub_nil | exact sub_rfl | refine sub_cons rfl ?_))))
        (bl_cons (rn_hp (st_expr (ev_append (ev_name rfl rfl) (ev_ite_t (tv_plain (ev_name rfl rfl) t_bool (by intro _ _; rfl)) (ev_item (ev_name rfl rfl) (ev_name rfl rfl) (it_ls (j := (horn sh (at' x)).toNat) lq_lst (by omega) hg (by omega)))) (l₁ := g.map .int) (l := g.map .int) (by simp) (by simp) (by have := h.2; simp at this ⊢; omega))) (by simp)) bl_nil)))) (by (repeat (first | exact sub_nil | exact sub_rfl | refine sub_cons rfl ?_)))) (spotsL nw) [] ⟨fun _ h => h, by simpa using hsp⟩
  have ef : ∀ (l : List (List Int)) (g : List Int), l.foldl (fun g s => g ++ [cells.getD (horn sh (at' s)).toNat 0]) g = g ++ l.map fun s => cells.getD (horn sh (at' s)).toNat 0 := by
    intro l
    induction l with
    | nil => intro g; simp
    | cons s l ih => intro g; rw [List.foldl_cons, ih]; simp
  rw [ef, List.nil_append] at outer
  exact rn_wk (bl_cons (st_if_f (tv_to (tv_cmp (ev_name rfl rfl) ev_int c_eq) (by simp [hk0])) bl_nil) (bl_cons (hnew H) (bl_cons (st_assign (ev_list el_nil (by simp)) rfl) (bl_cons (st_for (si_of (ev_call (G.e 13 rfl rfl rfl) (el_cons (ev_name rfl rfl) el_nil) (Fp.fn ((s_spots G (n := n) hnw hz2).le (show n + 1 ≤ n + 2 by omega))) (G.c 19 rfl)) (.inr rfl)) outer) (bl_ret (st_ret (ev_tuple (el_cons (ev_name rfl rfl) (el_cons (ev_name rfl rfl) el_nil)) (by simp)))))))) sub_nil
end
end Tg
namespace Tg
set_option maxHeartbeats 1000000
noncomputable def InS (sh s : List Int) : Prop := s.length = sh.length ∧ ∀ i < sh.length, 0 ≤ s.getD i 0 ∧ s.getD i 0 < sh.getD i 0
theorem getD_app_left {l m : List Int} {i : Nat} (h : i < l.length) : (l ++ m).getD i 0 = l.getD i 0 := by
  simp [List.getD, List.getElem?_append_left h]
theorem getD_app_last {l : List Int} {x : Int} : (l ++ [x]).getD l.length 0 = x := by simp [List.getD]
theorem spots_in' : ∀ (l : List Int) (pre : List Int) (sp : List (List Int)), (∀ s ∈ sp, InS pre s) → ∀ s ∈ l.foldl spotsG sp, InS (pre ++ l) s
  | [], pre, sp, h, s, hs => by rw [List.append_nil]; exact h s hs
  | x :: l, pre, sp, h, s, hs => by
    have := spots_in' l (pre ++ [x]) (spotsG sp x) (fun s hs => ?_) s hs
    · rwa [List.append_assoc] at this
    · unfold spotsG at hs
      obtain ⟨s0, h0, hk⟩ := List.mem_flatMap.mp hs
      obtain ⟨k, hk', rfl⟩ := List.mem_map.mp hk
      obtain ⟨l0, q0⟩ := h s0 h0
      have hk := rngL_mem.mp hk'
      refine ⟨by simp [l0], fun i hi => ?_⟩
      simp at hi
      by_cases q : i < pre.length
      · rw [getD_app_left (by omega), getD_app_left q]; exact q0 i q
      · have e : i = pre.length := by omega
        rw [e, getD_app_last, ← l0, getD_app_last]; omega
theorem spots_in {sh s : List Int} (h : s ∈ spotsL sh) : InS sh s := by
  have := spots_in' sh [] [[]] (fun s hs => by rw [List.mem_singleton.mp hs]; exact ⟨rfl, fun i h => by simp at h⟩) s h
  simpa using this
theorem spots_len' : ∀ (l : List Int) (sp : List (List Int)), (∀ x ∈ l, 0 < x) → ((l.foldl spotsG sp).length : Int) = sp.length * prodI l
  | [], sp, _ => by simp [prodI]
  | x :: l, sp, h => by
    have hx := h x (.head _)
    show (((l.foldl spotsG (spotsG sp x)).length : Nat) : Int) = _
    rw [spots_len' l _ fun y hy => h y (.tail _ hy), spotsG_length, Int.natCast_mul, prodI_cons, show ((x.toNat : Nat) : Int) = x by omega, Int.mul_assoc]
theorem spots_len {sh : List Int} (h : Sides sh) : ((spotsL sh).length : Int) = prodI sh := by
  have := spots_len' sh [[]] h.1
  unfold spotsL
  simpa using this
theorem spots_le {sh : List Int} (h : Sides sh) : (spotsL sh).length ≤ 1000000 := by have := spots_len h; have := h.2; omega
theorem it_get {H : AH} {l : List Int} {i : Nat} {v : Int} (h : i < l.length) (hz : l.length ≤ 1000) (hv : l.getD i 0 = v) : ItemR H (tI l) (.int i) (.int v) := hv ▸ it_pick h hz
section
variable {B : Bs} (G : G2 B) {n : Nat} {sh cells : List Int}
include G
noncomputable def at1 (ax : List Nat) (s : List Int) (k : Nat) : Int := s.getD (ax.idxOf k) 0
theorem s_done1 {ax : List Nat} (hs : Sides sh) (hz : sh.length < 64) (hc : (cells.length : Int) = prodI sh) (hp : ax.Perm (List.range sh.length)) :
    Fp B (n + 3) (.ref (G.ad "_law_done")) [tI sh, .lst (cells.map .int), .int 1, tI (nI ax)] (.tup [tI (pick sh ax), .lst (((spotsL (pick sh ax)).map fun s => cells.getD (horn sh (at1 ax s)).toNat 0).map .int)]) := by
  have hlen : ax.length = sh.length := by simpa using hp.length_eq
  have hlt : ∀ a ∈ ax, a < sh.length := fun a h => List.mem_range.mp (hp.mem_iff.mp h)
  have hix : ∀ k < sh.length, ax.idxOf k < ax.length ∧ ax[ax.idxOf k]? = some k ∧ ∀ m < ax.idxOf k, ax[m]? ≠ some k := fun k hk => by
    have hm : k ∈ ax := hp.mem_iff.mpr (List.mem_range.mpr hk)
    have h1 := List.idxOf_lt_length_of_mem hm
    refine ⟨h1, by rw [List.getElem?_eq_getElem h1, List.getElem_idxOf], fun m hm2 e => ?_⟩
    obtain ⟨h3, h4⟩ := List.getElem?_eq_some_iff.mp e
    have hnd : ax.Nodup := hp.nodup_iff.mpr List.nodup_range
    have := (List.getElem_inj (h₀ := h3) (h₁ := h1) hnd).mp (h4.trans (List.getElem_idxOf h1).symm)
    omega
  have hnw := sides_pick hs hp
  refine done_run G (n := n) hs (by omega) hnw (by simp; omega) hc (by decide) (at1 ax) (fun spot hsp k hk => ?_) (spots_le hnw) (fun H => ?_) fun H spot hsp k hk a m => ?_
  · obtain ⟨h1, h2, _⟩ := hix k hk
    have := (spots_in hsp).2 (ax.idxOf k) (by simpa using h1)
    have e : (pick sh ax).getD (ax.idxOf k) 0 = sh.getD k 0 := by
      unfold pick; rw [List.getD, List.getElem?_map, h2]; rfl
    rw [e] at this; exact this
  · refine st_if_t (tv_to (tv_cmp (ev_name rfl rfl) ev_int c_eq) rfl) (bl_cons (st_assign (ev_tuple_comp (o := (pick sh ax).map .int) (fun H => G.b 0 rfl rfl rfl) (si_tup (l := (nI ax).map .int) (ev_name rfl rfl)) ?_ (by simp; omega) pure_ints rfl (by decide) rfl) rfl) bl_nil)
    rw [List.map_map]
    exact cmpL_map2 _ _ _ ax fun a ha => ⟨_, at_local rfl, sub_tl rfl sub_rfl, fun H => ev_item (ev_name rfl rfl) (ev_name rfl rfl) (it_pick (hlt a ha) (by omega))⟩
  · obtain ⟨h1, h2, h3⟩ := hix k hk
    have hl := (spots_in hsp).1
    simp at hl
    refine st_if_t (tv_to (tv_cmp (ev_name rfl rfl) ev_int c_eq) rfl) (bl_cons (st_assign (ev_item (ev_name rfl rfl) (ev_index (n := ax.idxOf k) (l := nI ax) (x := (k : Int)) (ev_name rfl rfl) (ev_name rfl rfl) (by simp [nI, h2]) (fun m hm e => h3 m hm ?_)) (it_pick (by omega) (by omega))) rfl) bl_nil)
    simp [nI] at e
    obtain ⟨y, h5, h6⟩ := e
    rw [h5]; congr 1; omega
noncomputable def at2 (sh nw s : List Int) (k : Nat) : Int := if sh.getD k 0 = nw.getD k 0 then s.getD k 0 else 0
theorem s_done2 {nw : List Int} (hs : Sides sh) (hz : sh.length ≤ 1000) (hc : (cells.length : Int) = prodI sh) (hnw : Sides nw) (hl : nw.length = sh.length) :
    Fp B (n + 3) (.ref (G.ad "_law_done")) [tI sh, .lst (cells.map .int), .int 2, tI nw] (.tup [tI nw, .lst (((spotsL nw).map fun s => cells.getD (horn sh (at2 sh nw s)).toNat 0).map .int)]) := by
  refine done_run G (n := n) hs hz hnw (by omega) hc (by decide) (at2 sh nw) (fun spot hsp k hk => ?_) (spots_le hnw) (fun H => ?_) fun H spot hsp k hk a m => ?_
  · have := (spots_in hsp).2 k (by omega)
    unfold at2
    split
    · rename_i q; rw [q]; exact this
    · exact ⟨by decide, hs.1 _ (getD_mem hk)⟩
  · exact st_if_f (tv_to (tv_cmp (ev_name rfl rfl) ev_int c_eq) rfl) (bl_cons (st_if_t (tv_to (tv_cmp (ev_name rfl rfl) ev_int c_eq) rfl) (bl_cons (st_assign (ev_name rfl rfl) rfl) bl_nil)) bl_nil)
  · have hsl := (spots_in hsp).1
    refine st_if_f (tv_to (tv_cmp (ev_name rfl rfl) ev_int c_eq) rfl) (bl_cons (st_if_t (tv_to (tv_cmp (ev_name rfl rfl) ev_int c_eq) rfl) (bl_cons (st_assign ?_ rfl) bl_nil)) bl_nil)
    unfold at2
    by_cases q : sh.getD k 0 = nw.getD k 0
    · rw [if_pos q]; exact ev_ite_t (tv_to (tv_cmp (ev_item (ev_name rfl rfl) (ev_name rfl rfl) (it_get hk hz q)) (ev_item (ev_name rfl rfl) (ev_name rfl rfl) (it_get (by omega) (by omega) rfl)) c_eq) (by simp)) (ev_item (ev_name rfl rfl) (ev_name rfl rfl) (it_get (by omega) (by omega) rfl))
    · rw [if_neg q]; exact ev_ite_f (tv_to (tv_cmp (ev_item (ev_name rfl rfl) (ev_name rfl rfl) (it_get hk hz rfl)) (ev_item (ev_name rfl rfl) (ev_name rfl rfl) (it_get (by omega) (by omega) rfl)) c_eq) (by simpa using q)) ev_int
end
end Tg
namespace Tg
set_option maxHeartbeats 1000000
theorem size_eq {s m : Int} (hs : 0 < s) (hm : 0 < m) : Builtin.Range.rangeSize 0 s m = (s + (m - 1)).fdiv m := by
  unfold Builtin.Range.rangeSize
  rw [if_pos hm, if_pos hs, Int.fdiv_eq_ediv_of_nonneg _ (Int.le_of_lt hm), show s + (m - 1) = (s - 0 - 1) + 1 * m by omega, Int.add_mul_ediv_right _ _ (by omega)]
theorem small_any {s m : Int} (hs : 0 < s) (hs2 : s ≤ 1000000) (hm : 0 < m) (hm2 : m ≤ 1000000) : Builtin.Range.small 0 s m = true := by
  have h1 : 0 ≤ (s - 0 - 1) / m := Int.ediv_nonneg (by omega) (by omega)
  have h2 : (s - 0 - 1) / m ≤ s - 0 - 1 := Int.ediv_le_self _ (by omega)
  unfold Builtin.Range.small Builtin.Range.rangeSize
  rw [if_pos hm, if_pos hs]
  generalize (s - 0 - 1) / m = q at h1 h2
  simp only [Builtin.Range.rangeFitsLong, Bool.and_eq_true, Bool.or_eq_true, decide_eq_true_eq, beq_iff_eq, hm, if_true]
  omega
theorem ceil_pos {s m : Int} (hs : 0 < s) (hm : m ≠ 0) : 0 < ceilS s m ∧ ceilS s m ≤ s ∧ (ceilS s m - 1) * m.natAbs ≤ s - 1 := by
  have hm' : 0 < (m.natAbs : Int) := by omega
  unfold ceilS
  rw [Int.fdiv_eq_ediv_of_nonneg _ (Int.le_of_lt hm'), show s + ((m.natAbs : Int) - 1) = (s - 1) + 1 * (m.natAbs : Int) by omega, Int.add_mul_ediv_right _ _ (by omega)]
  have h1 : 0 ≤ (s - 1) / (m.natAbs : Int) := Int.ediv_nonneg (by omega) (by omega)
  have h2 : (s - 1) / (m.natAbs : Int) ≤ s - 1 := Int.ediv_le_self _ (by omega)
  have h3 : (s - 1) / (m.natAbs : Int) * m.natAbs ≤ s - 1 := Int.ediv_mul_le _ (by omega)
  refine ⟨by omega, by omega, ?_⟩
  rw [show (s - 1) / (m.natAbs : Int) + 1 - 1 = (s - 1) / (m.natAbs : Int) by omega]; exact h3
theorem zip_getD {δ : Type} {d : δ} : ∀ {l : List Int} {m : List δ} {k : Nat}, k < l.length → l.length = m.length → (l.getD k 0, m.getD k d) ∈ l.zip m
  | x :: l, y :: m, 0, _, _ => by simp
  | x :: l, y :: m, k + 1, h, e => by
    have := zip_getD (d := d) (l := l) (m := m) (k := k) (by simpa using h) (by simpa using e)
    simp only [List.zip_cons_cons, List.mem_cons]; right; simpa using this
noncomputable def at4 (l : List (Int × Int)) (s : List Int) (k : Nat) : Int := s.getD k 0 + (l.getD k (0, 0)).1
noncomputable def at5 (sh mul s : List Int) (k : Nat) : Int := if 0 < mul.getD k 0 then s.getD k 0 * mul.getD k 0 else sh.getD k 0 - 1 + s.getD k 0 * mul.getD k 0
section
variable {B : Bs} (G : G2 B) {n : Nat} {sh cells : List Int}
include G
theorem s_done4 {l : List (Int × Int)} (hs : Sides sh) (hz : sh.length ≤ 1000) (hc : (cells.length : Int) = prodI sh) (hl : l.length = sh.length) (hin : ∀ p ∈ sh.zip l, 0 ≤ p.2.1 ∧ p.2.1 < p.2.2 ∧ p.2.2 ≤ p.1) (hnw : Sides (l.map fun p => p.2 - p.1)) :
    Fp B (n + 3) (.ref (G.ad "_law_done")) [tI sh, .lst (cells.map .int), .int 4, tP l] (.tup [tI (l.map fun p => p.2 - p.1), .lst (((spotsL (l.map fun p => p.2 - p.1)).map fun s => cells.getD (horn sh (at4 l s)).toNat 0).map .int)]) := by
  refine done_run G (n := n) hs hz hnw (by simp; omega) hc (by decide) (at4 l) (fun spot hsp k hk => ?_) (spots_le hnw) (fun H => ?_) fun H spot hsp k hk a m => ?_
  · have h1 := (spots_in hsp).2 k (by simp; omega)
    have h2 := hin _ (zip_getD (d := (0, 0)) hk hl.symm)
    have e : (l.map fun p => p.2 - p.1).getD k 0 = (l.getD k (0, 0)).2 - (l.getD k (0, 0)).1 := by
      simp [List.getD, List.getElem?_eq_getElem (show k < l.length by omega)]
    rw [e] at h1
    unfold at4
    dsimp only at h2
    omega
  · refine st_if_f (tv_to (tv_cmp (ev_name rfl rfl) ev_int c_eq) rfl) (bl_cons (st_if_f (tv_to (tv_cmp (ev_name rfl rfl) ev_int c_eq) rfl) (bl_cons (st_if_f (tv_to (tv_cmp (ev_name rfl rfl) ev_int c_eq) rfl) (bl_cons (st_if_t (tv_to (tv_cmp (ev_name rfl rfl) ev_int c_eq) rfl) (bl_cons (st_assign (ev_tuple_comp (o := (l.map fun p => p.2 - p.1).map .int) (fun H => G.b 0 rfl rfl rfl) (si_tup (l := l.map fun p => .tup [.int p.1, .int p.2]) (ev_name rfl rfl)) ?_ (by simp; omega) pure_ints rfl (by decide) rfl) rfl) bl_nil)) bl_nil)) bl_nil)) bl_nil)
    exact cmpL_map2 _ _ _ l fun p hp => ⟨_, at_local rfl, sub_tl rfl sub_rfl, fun H => ev_bin (ev_item (ev_name rfl rfl) ev_int (it_tup (j := 1) rfl rfl (by decide))) (ev_item (ev_name rfl rfl) ev_int (it_tup (j := 0) rfl rfl (by decide))) bin_sub⟩
  · have hsl := (spots_in hsp).1
    simp at hsl
    have hk2 : (l.map fun p : Int × Int => V.tup [.int p.1, .int p.2])[k]? = some (.tup [.int (l.getD k (0, 0)).1, .int (l.getD k (0, 0)).2]) := by
      simp [List.getD, List.getElem?_eq_getElem (show k < l.length by omega)]
    exact st_if_f (tv_to (tv_cmp (ev_name rfl rfl) ev_int c_eq) rfl) (bl_cons (st_if_f (tv_to (tv_cmp (ev_name rfl rfl) ev_int c_eq) rfl) (bl_cons (st_if_f (tv_to (tv_cmp (ev_name rfl rfl) ev_int c_eq) rfl) (bl_cons (st_if_t (tv_to (tv_cmp (ev_name rfl rfl) ev_int c_eq) rfl) (bl_cons (st_assign (ev_bin (ev_item (ev_name rfl rfl) (ev_name rfl rfl) (it_get (by omega) (by omega) rfl)) (ev_item (ev_item (ev_name rfl rfl) (ev_name rfl rfl) (it_tup (j := k) rfl hk2 (by omega))) ev_int (it_tup (j := 0) rfl rfl (by decide))) bin_add) rfl) bl_nil)) bl_nil)) bl_nil)) bl_nil)
theorem s_done5 {mul : List Int} (hs : Sides sh) (hz : sh.length ≤ 1000) (hc : (cells.length : Int) = prodI sh) (hl : sh.length = mul.length) (hm : ∀ m ∈ mul, m ≠ 0 ∧ m.natAbs ≤ 1000000) (hnw : Sides ((sh.zip mul).map fun p => ceilS p.1 p.2)) :
    Fp B (n + 3) (.ref (G.ad "_law_done")) [tI sh, .lst (cells.map .int), .int 5, tI mul] (.tup [tI ((sh.zip mul).map fun p => ceilS p.1 p.2), .lst (((spotsL ((sh.zip mul).map fun p => ceilS p.1 p.2)).map fun s => cells.getD (horn sh (at5 sh mul s)).toNat 0).map .int)]) := by
  have hle : ∀ x ∈ sh, x ≤ 1000000 := fun x hx => by
    obtain ⟨i, hi, rfl⟩ := List.getElem_of_mem hx
    have h1 := but_prod hi
    have h2 := hs.2
    have h3 := hs.1 _ (getD_mem hi)
    rw [h1, Int.mul_comm] at h2
    have := Int.le_trans (le_mul_one h3 (prodI_pos (but_sides hi hs).1)) h2
    simpa [List.getD, List.getElem?_eq_getElem hi] using this
  refine done_run G (n := n) hs hz hnw (by simp; omega) hc (by decide) (at5 sh mul) (fun spot hsp k hk => ?_) (spots_le hnw) (fun H => ?_) fun H spot hsp k hk a m => ?_
  · have h1 := (spots_in hsp).2 k (by simp; omega)
    have hk2 : k < mul.length := by omega
    have e : ((sh.zip mul).map fun p => ceilS p.1 p.2).getD k 0 = ceilS (sh.getD k 0) (mul.getD k 0) := by
      simp [List.getD, List.getElem?_eq_getElem hk, List.getElem?_eq_getElem hk2, List.getElem?_eq_getElem (show k < (sh.zip mul).length by simp; omega)]
    rw [e] at h1
    have hm0 := (hm _ (getD_mem hk2)).1
    obtain ⟨c1, c2, c3⟩ := ceil_pos (hs.1 _ (getD_mem hk)) hm0
    have h4 : spot.getD k 0 * ((mul.getD k 0).natAbs : Int) ≤ (ceilS (sh.getD k 0) (mul.getD k 0) - 1) * ((mul.getD k 0).natAbs : Int) := Int.mul_le_mul_of_nonneg_right (by omega) (by omega)
    have h5 : 0 ≤ spot.getD k 0 * ((mul.getD k 0).natAbs : Int) := Int.mul_nonneg h1.1 (by omega)
    have h6 := Int.le_trans h4 c3
    unfold at5
    by_cases q : 0 < mul.getD k 0
    · rw [if_pos q]; rw [show ((mul.getD k 0).natAbs : Int) = mul.getD k 0 by omega] at h5 h6; omega
    · rw [if_neg q]; rw [show ((mul.getD k 0).natAbs : Int) = -mul.getD k 0 by omega, Int.mul_neg] at h5 h6; omega
  · refine st_if_f (tv_to (tv_cmp (ev_name rfl rfl) ev_int c_eq) rfl) (bl_cons (st_if_f (tv_to (tv_cmp (ev_name rfl rfl) ev_int c_eq) rfl) (bl_cons (st_if_f (tv_to (tv_cmp (ev_name rfl rfl) ev_int c_eq) rfl) (bl_cons (st_if_f (tv_to (tv_cmp (ev_name rfl rfl) ev_int c_eq) rfl) (bl_cons (st_assign (ev_tuple_comp (o := ((sh.zip mul).map fun p => ceilS p.1 p.2).map .int) (fun H => G.b 0 rfl rfl rfl) (si_zip (ls := [sh.map .int, mul.map .int]) (n := sh.length) (G.b 1 rfl rfl rfl) (el_cons (ev_name rfl rfl) (el_cons (ev_name rfl rfl) el_nil)) (hn2 (by simp) (by simp [hl])) (.inl rfl)) ?_ (by simp; omega) pure_ints rfl (by decide) rfl) rfl) bl_nil)) bl_nil)) bl_nil)) bl_nil)
    rw [rowsI2 rfl hl.symm]
    refine cmpL_map2 _ _ _ _ fun p hp => ?_
    obtain ⟨p1, p2⟩ := List.of_mem_zip hp
    have hm0 := hm _ p2
    have hs0 := hs.1 _ p1
    have hs1 := hle _ p1
    obtain ⟨c1, c2, c3⟩ := ceil_pos hs0 hm0.1
    have hn : Builtin.Range.rangeSize 0 p.1 (p.2.natAbs : Int) = ((ceilS p.1 p.2).toNat : Int) := by
      rw [size_eq hs0 (by omega)]; unfold ceilS at c1 ⊢; omega
    refine ⟨_, at_two rfl rfl, sub_tl rfl (sub_tl rfl sub_rfl), fun H => ?_⟩
    refine ev_fz (T := [.list ((rngS 0 (p.2.natAbs : Int) (ceilS p.1 p.2).toNat).map .int)]) (v := .int (ceilS p.1 p.2)) (ev_to (ev_call (G.b 7 rfl rfl rfl) (el_cons (ev_list_rg (n := (ceilS p.1 p.2).toNat) (G.b 9 rfl rfl rfl) (rg_3 (G.b 8 rfl rfl rfl) (el_cons ev_int (el_cons (ev_name rfl rfl) (el_cons (ev_call (G.b 12 rfl rfl rfl) (el_cons (ev_name rfl rfl) el_nil) fn_abs rfl) el_nil))) (by omega) (by omega)) (small_any hs0 hs1 (by omega) (by omega)) hn (by omega)) el_nil) (fn_len (len_l (l := (rngS 0 (p.2.natAbs : Int) (ceilS p.1 p.2).toNat).map .int) (lq_ref (by simp)) (by simp [rngS]; omega))) rfl) ?_) (fz_pure pure_int)
    simp [rngS]; omega
  · have hsl := (spots_in hsp).1
    simp at hsl
    have h1 := (spots_in hsp).2 k (by simp; omega)
    have hsm : small (spot.getD k 0) = true := by
      have hk2 : k < mul.length := by omega
      have e : ((sh.zip mul).map fun p => ceilS p.1 p.2).getD k 0 = ceilS (sh.getD k 0) (mul.getD k 0) := by
        simp [List.getD, List.getElem?_eq_getElem hk, List.getElem?_eq_getElem hk2, List.getElem?_eq_getElem (show k < (sh.zip mul).length by simp; omega)]
      rw [e] at h1
      have := (ceil_pos (hs.1 _ (getD_mem hk)) (hm _ (getD_mem hk2)).1).2.1
      have := hle _ (getD_mem hk)
      exact small_of h1.1 (by omega)
    refine st_if_f (tv_to (tv_cmp (ev_name rfl rfl) ev_int c_eq) rfl) (bl_cons (st_if_f (tv_to (tv_cmp (ev_name rfl rfl) ev_int c_eq) rfl) (bl_cons (st_if_f (tv_to (tv_cmp (ev_name rfl rfl) ev_int c_eq) rfl) (bl_cons (st_if_f (tv_to (tv_cmp (ev_name rfl rfl) ev_int c_eq) rfl) (bl_cons (st_assign ?_ rfl) bl_nil)) bl_nil)) bl_nil)) bl_nil)
    have i1 : ItemR H (tI spot) (.int k) (.int (spot.getD k 0)) := it_get (by omega) (by omega) rfl
    have i2 : ItemR H (tI mul) (.int k) (.int (mul.getD k 0)) := it_get (by omega) (by omega) rfl
    have i3 : ItemR H (tI sh) (.int k) (.int (sh.getD k 0)) := it_get (by omega) (by omega) rfl
    unfold at5
    by_cases q : 0 < mul.getD k 0
    · rw [if_pos q]; exact ev_ite_t (tv_to (tv_cmp (ev_item (ev_name rfl rfl) (ev_name rfl rfl) i2) ev_int c_gt) (by simpa using q)) (ev_bin (ev_item (ev_name rfl rfl) (ev_name rfl rfl) i1) (ev_item (ev_name rfl rfl) (ev_name rfl rfl) i2) (bin_mul hsm))
    · rw [if_neg q]; exact ev_ite_f (tv_to (tv_cmp (ev_item (ev_name rfl rfl) (ev_name rfl rfl) i2) ev_int c_gt) (by simpa using q)) (ev_bin (ev_bin (ev_item (ev_name rfl rfl) (ev_name rfl rfl) i3) ev_int bin_sub) (ev_bin (ev_item (ev_name rfl rfl) (ev_name rfl rfl) i1) (ev_item (ev_name rfl rfl) (ev_name rfl rfl) i2) (bin_mul hsm)) bin_add)
end
end Tg
namespace Tg
set_option maxHeartbeats 1000000
section
variable {B : Bs} (G : G2 B) {n : Nat} {sh st : List Int} {off : Int} {c : Bool} {a v : V}
include G
theorem s_do0 (hp : Pure v) (h : Fp B n (.ref (G.ad "reshape")) [vw (G.ad "View") sh st off c, a] v) : Fp B (n + 1) (.ref (G.ad "_law_do")) [vw (G.ad "View") sh st off c, .int 0, a] v := by
  refine G.pure 23 rfl (fl := .ret _) rfl rfl hp fun H => ?_
  exact rn_wk (bl_ret (st_if_t (tv_to (tv_cmp (ev_name rfl rfl) ev_int c_eq) rfl) (bl_ret (st_ret (ev_meth (ev_name rfl rfl) ob_obj (G.mt "reshape" (by simp [mtN])) rfl (el_cons (ev_name rfl rfl) el_nil) (Fp.fn h) (G.c 14 rfl)))))) sub_nil
theorem s_do1 (hp : Pure v) (h : Fp B n (.ref (G.ad "permute")) [vw (G.ad "View") sh st off c, a] v) : Fp B (n + 1) (.ref (G.ad "_law_do")) [vw (G.ad "View") sh st off c, .int 1, a] v := by
  refine G.pure 23 rfl (fl := .ret _) rfl rfl hp fun H => ?_
  exact rn_wk (bl_cons (st_if_f (tv_to (tv_cmp (ev_name rfl rfl) ev_int c_eq) rfl) bl_nil) (bl_ret (st_if_t (tv_to (tv_cmp (ev_name rfl rfl) ev_int c_eq) rfl) (bl_ret (st_ret (ev_meth (ev_name rfl rfl) ob_obj (G.mt "permute" (by simp [mtN])) rfl (el_cons (ev_name rfl rfl) el_nil) (Fp.fn h) (G.c 12 rfl))))))) sub_nil
theorem s_do2 (hp : Pure v) (h : Fp B n (.ref (G.ad "expand")) [vw (G.ad "View") sh st off c, a] v) : Fp B (n + 1) (.ref (G.ad "_law_do")) [vw (G.ad "View") sh st off c, .int 2, a] v := by
  refine G.pure 23 rfl (fl := .ret _) rfl rfl hp fun H => ?_
  exact rn_wk (bl_cons (st_if_f (tv_to (tv_cmp (ev_name rfl rfl) ev_int c_eq) rfl) bl_nil) (bl_cons (st_if_f (tv_to (tv_cmp (ev_name rfl rfl) ev_int c_eq) rfl) bl_nil) (bl_ret (st_if_t (tv_to (tv_cmp (ev_name rfl rfl) ev_int c_eq) rfl) (bl_ret (st_ret (ev_meth (ev_name rfl rfl) ob_obj (G.mt "expand" (by simp [mtN])) rfl (el_cons (ev_name rfl rfl) el_nil) (Fp.fn h) (G.c 11 rfl)))))))) sub_nil
theorem s_do4 (hp : Pure v) (h : Fp B n (.ref (G.ad "shrink")) [vw (G.ad "View") sh st off c, a] v) : Fp B (n + 1) (.ref (G.ad "_law_do")) [vw (G.ad "View") sh st off c, .int 4, a] v := by
  refine G.pure 23 rfl (fl := .ret _) rfl rfl hp fun H => ?_
  exact rn_wk (bl_cons (st_if_f (tv_to (tv_cmp (ev_name rfl rfl) ev_int c_eq) rfl) bl_nil) (bl_cons (st_if_f (tv_to (tv_cmp (ev_name rfl rfl) ev_int c_eq) rfl) bl_nil) (bl_cons (st_if_f (tv_to (tv_cmp (ev_name rfl rfl) ev_int c_eq) rfl) bl_nil) (bl_cons (st_if_f (tv_to (tv_cmp (ev_name rfl rfl) ev_int c_eq) rfl) bl_nil) (bl_ret (st_if_t (tv_to (tv_cmp (ev_name rfl rfl) ev_int c_eq) rfl) (bl_ret (st_ret (ev_meth (ev_name rfl rfl) ob_obj (G.mt "shrink" (by simp [mtN])) rfl (el_cons (ev_name rfl rfl) el_nil) (Fp.fn h) (G.c 10 rfl)))))))))) sub_nil
theorem s_do5 (hp : Pure v) (h : Fp B n (.ref (G.ad "stride")) [vw (G.ad "View") sh st off c, a] v) : Fp B (n + 1) (.ref (G.ad "_law_do")) [vw (G.ad "View") sh st off c, .int 5, a] v := by
  refine G.pure 23 rfl (fl := .ret _) rfl rfl hp fun H => ?_
  exact rn_wk (bl_cons (st_if_f (tv_to (tv_cmp (ev_name rfl rfl) ev_int c_eq) rfl) bl_nil) (bl_cons (st_if_f (tv_to (tv_cmp (ev_name rfl rfl) ev_int c_eq) rfl) bl_nil) (bl_cons (st_if_f (tv_to (tv_cmp (ev_name rfl rfl) ev_int c_eq) rfl) bl_nil) (bl_cons (st_if_f (tv_to (tv_cmp (ev_name rfl rfl) ev_int c_eq) rfl) bl_nil) (bl_cons (st_if_f (tv_to (tv_cmp (ev_name rfl rfl) ev_int c_eq) rfl) bl_nil) (bl_ret (st_ret (ev_meth (ev_name rfl rfl) ob_obj (G.mt "stride" (by simp [mtN])) rfl (el_cons (ev_name rfl rfl) el_nil) (Fp.fn h) (G.c 13 rfl))))))))) sub_nil
end
structure LS where
  sh : List Int
  st : List Int
  off : Int
  c : Bool
  cells : List Int
noncomputable abbrev LS.v (C : Addr) (g : LS) : V := vw C g.sh g.st g.off g.c
noncomputable def Deed {B : Bs} (G : G2 B) (n : Nat) (most : Int) (g : LS) (number : Int) (g' : LS) : Prop := ∃ kind : Int, ∃ arg nv : V, Fp B n (.ref (G.ad "_law_deed")) [tI g.sh, .int number, .int most, .bool false] (.tup [.int kind, arg]) ∧ Fp B n (.ref (G.ad "_law_do")) [g.v (G.ad "View"), .int kind, arg] nv ∧
  ((kind = 0 ∧ nv = .none ∧ g' = g) ∨ (nv = g'.v (G.ad "View") ∧ Fp B n (.ref (G.ad "_law_done")) [tI g.sh, .lst (g.cells.map .int), .int kind, arg] (.tup [tI g'.sh, .lst (g'.cells.map .int)])))
section
variable {B : Bs} (G : G2 B) {n : Nat}
include G
theorem view_loop {most : Int} {P : LS → Prop} {ok : Int → Prop} (hd : ∀ g number, P g → ok number → ∃ g', P g' ∧ Deed G n most g number g') : ∀ (l : List Int) (g : LS), (∀ x ∈ l, ok x) → P g → ∃ g', P g' ∧ ∀ (H : AH) (nums : V), ForR ⟨B, n, dScope (nth P2 43)⟩ (fTgt (nth (dBody (nth P2 43)) 0)) (fBody (nth (dBody (nth P2 43)) 0)) [] .next
      [("view", g'.v (G.ad "View")), ("shape", tI g'.sh), ("cells", .lst (g'.cells.map .int)), ("numbers", nums), ("most", .int most)] H (l.map .int) [("view", g.v (G.ad "View")), ("shape", tI g.sh), ("cells", .lst (g.cells.map .int)), ("numbers", nums), ("most", .int most)] H
  | [], g, _, hp => ⟨g, hp, fun H nums => bl_nil⟩
  | x :: l, g, hx, hp => by
    obtain ⟨g1, hp1, kind, arg, nv, h1, h2, h3⟩ := hd g x hp (hx x (.head _))
    obtain ⟨g2, hp2, h4⟩ := view_loop hd l g1 (fun y hy => hx y (.tail _ hy)) hp1
    refine ⟨g2, hp2, fun H nums => ⟨_, .next, _, H, at_name rfl, ?_, h4 H nums⟩⟩
    refine bl_cons (st_assign_t (ev_call (G.e 15 rfl rfl rfl) (el_cons (ev_name rfl rfl) (el_cons (ev_name rfl rfl) (el_cons (ev_name rfl rfl) (el_cons ev_bool el_nil)))) (Fp.fn h1) (G.c 21 rfl)) (at_tuple (atl_cons (at_name rfl) (atl_cons (at_name rfl) atl_nil)))) ?_
    refine bl_cons (st_assign (ev_call (G.e 17 rfl rfl rfl) (el_cons (ev_name rfl rfl) (el_cons (ev_name rfl rfl) (el_cons (ev_name rfl rfl) el_nil))) (Fp.fn h2) (G.c 23 rfl)) rfl) ?_
    rcases h3 with ⟨rfl, rfl, rfl⟩ | ⟨rfl, h3⟩
    · exact rn_wk (bl_cons (st_if_f (tv_or_f (tv_to (tv_cmp (ev_name rfl rfl) ev_int c_ne) rfl) (tv_to (tv_cmp (ev_name rfl rfl) ev_none (c_isnt rfl)) rfl)) bl_nil) bl_nil) (by (repeat (first | exact sub_nil | exact sub_rfl | refine sub_cons rfl ?_)))
    · have ht : ∀ {σ : En}, σ.lookup ("kind" : Str) = some (.int kind) → σ.lookup ("new" : Str) = some (g1.v (G.ad "View")) → Tv ⟨B, n, dScope (nth P2 43)⟩ (iTest (nth (fBody (nth (dBody (nth P2 43)) 0)) 2)) σ H true H := fun a1 a2 => by
        by_cases q : kind = 0
        · exact tv_or_f (tv_to (tv_cmp (ev_name a1 rfl) ev_int c_ne) (by simp [q])) (tv_to (tv_cmp (ev_name a2 rfl) ev_none (c_isnt rfl)) rfl)
        · exact tv_or_t (tv_to (tv_cmp (ev_name a1 rfl) ev_int c_ne) (by simp [q]))
      exact rn_wk (bl_cons (st_if_t (ht rfl rfl) (bl_cons (st_assign (ev_name rfl rfl) rfl) (bl_cons (st_assign_t (ev_call (G.e 16 rfl rfl rfl) (el_cons (ev_name rfl rfl) (el_cons (ev_name rfl rfl) (el_cons (ev_name rfl rfl) (el_cons (ev_name rfl rfl) el_nil)))) (Fp.fn h3) (G.c 22 rfl)) (at_tuple (atl_cons (at_name rfl) (atl_cons (at_name rfl) atl_nil)))) bl_nil))) bl_nil) (by (repeat (first | exact sub_nil | exact sub_rfl | refine sub_cons rfl ?_)))
theorem s_lview {most : Int} {P : LS → Prop} {ok : Int → Prop} (hd : ∀ g number, P g → ok number → ∃ g', P g' ∧ Deed G n most g number g') (l : List Int) (g : LS) (hx : ∀ x ∈ l, ok x) (hp : P g) : ∃ g', P g' ∧ Fp B (n + 1) (.ref (G.ad "_law_view")) [g.v (G.ad "View"), tI g.sh, .lst (g.cells.map .int), .lst (l.map .int), .int most] (.tup [g'.v (G.ad "View"), tI g'.sh, .lst (g'.cells.map .int)]) := by
  obtain ⟨g', h1, h2⟩ := view_loop G hd l g hx hp
  refine ⟨g', h1, G.pure 26 rfl (fl := .ret _) rfl rfl (pure_tup fun v h => ?_) fun H => ?_⟩
  · simp only [List.mem_cons, List.not_mem_nil, or_false] at h
    rcases h with rfl | rfl | rfl
    · exact pure_vw
    · exact pure_tI
    · exact pure_lst pure_ints
  · exact rn_wk (bl_cons (st_for (si_lst (ev_name rfl rfl)) (h2 H _)) (bl_ret (st_ret (ev_tuple (el_cons (ev_name rfl rfl) (el_cons (ev_name rfl rfl) (el_cons (ev_name rfl rfl) el_nil))) (by simp))))) sub_nil
end
end Tg
namespace Tg
set_option maxHeartbeats 1000000
noncomputable def FzE (H : AH) (n : Nat) (σ τ : En) : Prop := ∀ x v, τ.lookup x = some v → ∃ v', σ.lookup x = some v' ∧ Fz H n v' v
theorem fze_nil {H n σ} : FzE H n σ [] := fun x v h => by cases h
theorem fze_cons {H : AH} {n : Nat} {σ τ : En} {x : Str} {v v' : V} (h : σ.lookup x = some v') (f : Fz H n v' v) (k : FzE H n σ τ) : FzE H n σ ((x, v) :: τ) := fun y u e => by
  rw [List.lookup_cons] at e
  cases q : (y == x) with
  | true => rw [q] at e; cases e; rw [beq_iff_eq.mp q]; exact ⟨v', h, f⟩
  | false => rw [q] at e; exact k y u e
theorem bl_two {K : Kx} {a b : Stmt} {rest : List Stmt} {σ σ₁ σ₂ τ σ' : En} {H H₁ T H' : AH} {fl : Fl} (ha : St K a σ H .next σ₁ H₁) (hb : St K b σ₁ H₁ .next σ₂ (H ++ T)) (hf : FzE (H ++ T) H.length σ₂ τ) (hr : Bl K rest τ H fl σ' H') : Bl K (a :: b :: rest) σ H fl σ' H' := fun _ _ _ _ _ Q E C hQ =>
  wpAny_execs_cons (ha _ E C fun w s₁ α₁ k₁ F₁ r₁ => by
    rw [r₁.nextI]
    refine wpAny_execs_cons (hb _ E (C.go k₁ F₁) fun w s₂ α₂ k₂ F₂ r₂ => ?_)
    rw [r₂.nextI]
    have k := k₁.trans k₂
    obtain ⟨t, rfl, ft⟩ := k.ext
    have kd := k.drop C.I
    have F : FrI _ K.B.g.objs.size _ _ τ s₂.heap := ⟨let ⟨m, hn, hl⟩ := F₂.loc; ⟨m, hn, fun x v e q => by
        obtain ⟨v', h1, f⟩ := hf x v e
        obtain ⟨w, h2, h3⟩ := hl x v' h1 q
        exact ⟨w, h2, f C.I.hr.len k.inv.hr h3⟩⟩, fun x v e q => by
        obtain ⟨v', h1, f⟩ := hf x v e
        obtain ⟨c, w, h2, h3, h4⟩ := F₂.cel x v' h1 q
        exact ⟨c, w, h2, h3, f C.I.hr.len k.inv.hr h4⟩, F₂.zL, F₂.zC, F₂.up⟩
    exact hr _ E (C.go kd F) fun w s₃ α₃ k₃ F₃ r₃ => hQ _ _ _ (kd.trans k₃) F₃ r₃)
noncomputable def stepsF (cells form : List Int) (axis : Nat) : List Int :=
  ((rngL 0 (cells.length - prodI (form.drop (axis + 1))).toNat).filter fun k => decide ((k.fdiv (prodI (form.drop (axis + 1)))).fmod (form.getD axis 0) + 1 < form.getD axis 0)).map fun k => cells.getD (k + prodI (form.drop (axis + 1))).toNat 0 - cells.getD k.toNat 0
noncomputable def sameF (l : List Int) : Bool := decide (l = l.filter fun x => x == l.getD 0 0)
noncomputable def evenF (cells form : List Int) : Bool := (rngL 0 form.length).foldl (fun e k => e && sameF (stepsF cells form k.toNat)) true
noncomputable def cmpR : Expr → Expr
  | .BoolOp _ [_, r] _ => r
  | _ => default
theorem it_lI {H : AH} {l : List Int} {i : Nat} (h : i < l.length) (hz : l.length ≤ 1000000) : ItemR H (.lst (l.map .int)) (.int i) (.int (l.getD i 0)) :=
  it_ls (j := i) lq_lst rfl (by simp [List.getElem?_eq_getElem h, List.getD]) (by omega)
section
variable {B : Bs} (G : G2 B) {n : Nat} {cells form : List Int}
include G
noncomputable abbrev lawB (script view : V) (sh cells form : List Int) (e : Bool) : En := [("even", .bool e), ("form", tI form), ("view", view), ("shape", tI sh), ("cells", .lst (cells.map .int))]
theorem law_axis {view script : V} {sh : List Int} (hv : Pure view) (hs : Sides form) (hz : form.length ≤ 60) (hc : (cells.length : Int) = prodI form) {i : Nat} (hi : i < form.length) {e : Bool} {H : AH} :
    ∃ σ₁, At ⟨B, n + 1, dScope (nth P2 44)⟩ true (fTgt (nth (dBody (nth P2 44)) 5)) (.int i) (lawB script view sh cells form e) σ₁ ∧ Bl ⟨B, n + 1, dScope (nth P2 44)⟩ (fBody (nth (dBody (nth P2 44)) 5)) σ₁ H .next (lawB script view sh cells form (e && sameF (stepsF cells form i))) H := by
  have hd : Sides (form.drop (i + 1)) := by
    have h1 := but_prod hi
    have h2 := hs.2
    have hp : ∀ x ∈ form.drop (i + 1), 0 < x := fun x hx => hs.1 x (List.mem_of_mem_drop hx)
    refine ⟨hp, ?_⟩
    have hb := but_sides hi hs
    have h3 := hb.2
    unfold but at h3
    rw [prodI_append, Int.mul_comm] at h3
    exact Int.le_trans (le_mul_one (prodI_pos hp) (prodI_pos fun x hx => hs.1 x (List.mem_of_mem_take hx))) h3
  have hj := prodI_pos hd.1
  have hjl := hd.2
  have hle := hs.2
  unfold stepsF
  have hsz := s_size G (n := n) (l := form.drop (i + 1)) (.inl rfl) hd.small
  generalize hjd : prodI (form.drop (i + 1)) = j at hj hjl hsz ⊢
  have hf0 : 0 < form.getD i 0 := hs.1 _ (getD_mem hi)
  have sl : ∀ {σ : En} {H : AH} {p q r s t u : Pos} {vk}, σ.lookup ("form" : Str) = some (tI form) → σ.lookup ("axis" : Str) = some (.int i) → Ev ⟨B, n + 1, dScope (nth P2 44)⟩ (.Subscript (.Name "form" p) (.Slice (some (.BinOp (.Name "axis" q) .Add (.Constant (.int 1) vk t) u)) none none r) s) σ H (.tup ((form.drop (i + 1)).map .int)) H := fun {σ H p q r s t u vk} a1 a2 => by
    have := ev_slice (K := ⟨B, n + 1, dScope (nth P2 44)⟩) (p := r) (pos := s) (ol := some ((i : Int) + 1)) (oh := none) (lo := some (.BinOp (.Name "axis" q) .Add (.Constant (.int 1) vk t) u)) (hi := none) (ev_name (pos := p) a1 rfl) (show PartV _ (some _) _ _ _ _ from ev_bin (ev_name a2 rfl) ev_int bin_add) ⟨rfl, by omega⟩ (show PartV _ none _ _ _ _ from ⟨rfl, rfl⟩) rfl (slc_tup (H := H) (l := form.map .int) (n := i + 1) (by omega) (by simp; omega) (by simp; omega) (by omega))
    rwa [← List.map_drop] at this
  refine ⟨_, at_name rfl, bl_cons (st_assign (ev_call (G.e 12 rfl rfl rfl) (el_cons (sl rfl rfl) el_nil) (Fp.fn hsz) (G.c 18 rfl)) rfl) ?_⟩
  have inner := forR_fold (K := ⟨B, n + 1, dScope (nth P2 44)⟩) (tgt := fTgt (nth (fBody (nth (dBody (nth P2 44)) 5)) 2)) (bl := fBody (nth (fBody (nth (dBody (nth P2 44)) 5)) 2)) V.int (fun _ : List Int => ("steps", .ref H.length) :: ("jump", .int j) :: ("axis", .int i) :: lawB script view sh cells form e) (fun g => H ++ [.list (g.map .int)]) (fun g k => if (k.fdiv j).fmod (form.getD i 0) + 1 < form.getD i 0 then g ++ [cells.getD (k + j).toNat 0 - cells.getD k.toNat 0] else g) (fun g l => g.length + l.length ≤ 1000000 ∧ ∀ k ∈ l, 0 ≤ k ∧ k + j < cells.length) (fun g k l h => by
      obtain ⟨k1, k2⟩ := h.2 k (.head _)
      have hz2 := h.1
      simp only [List.length_cons] at hz2
      have hst : (if (k.fdiv j).fmod (form.getD i 0) + 1 < form.getD i 0 then g ++ [cells.getD (k + j).toNat 0 - cells.getD k.toNat 0] else g).length + l.length ≤ 1000000 := by
        split
        · rw [List.length_append, List.length_singleton]; omega
        · omega
      refine ⟨⟨hst, fun x hx => h.2 x (.tail _ hx)⟩, _, at_name rfl, ?_⟩
      have ek : ((k.toNat : Nat) : Int) = k := by omega
      have ekj : (((k + j).toNat : Nat) : Int) = k + j := by omega
      have i1 : ∀ {H : AH}, ItemR H (.lst (cells.map .int)) (.int k) (.int (cells.getD k.toNat 0)) := fun {H} => by have := it_lI (H := H) (l := cells) (i := k.toNat) (by omega) (by omega); rwa [ek] at this
      have i2 : ∀ {H : AH}, ItemR H (.lst (cells.map .int)) (.int (k + j)) (.int (cells.getD (k + j).toNat 0)) := fun {H} => by have := it_lI (H := H) (l := cells) (i := (k + j).toNat) (by omega) (by omega); rwa [ekj] at this
      have tt : ∀ {σ : En} {H : AH} {c : Bool}, σ.lookup ("number" : Str) = some (.int k) → σ.lookup ("jump" : Str) = some (.int j) → σ.lookup ("form" : Str) = some (tI form) → σ.lookup ("axis" : Str) = some (.int i) → decide ((k.fdiv j).fmod (form.getD i 0) + 1 < form.getD i 0) = c → Tv ⟨B, n + 1, dScope (nth P2 44)⟩ (iTest (nth (fBody (nth (fBody (nth (dBody (nth P2 44)) 5)) 2)) 0)) σ H c H := fun a1 a2 a3 a4 hc =>
        tv_to (tv_cmp (ev_bin (ev_bin (ev_bin (ev_name a1 rfl) (ev_name a2 rfl) (bin_div (by omega) (by omega))) (ev_item (ev_name a3 rfl) (ev_name a4 rfl) (it_pick hi (by omega))) (bin_mod (by omega))) ev_int bin_add) (ev_item (ev_name a3 rfl) (ev_name a4 rfl) (it_pick hi (by omega))) c_lt) hc
      by_cases q : (k.fdiv j).fmod (form.getD i 0) + 1 < form.getD i 0
      · rw [if_pos q]
        exact rn_wk (bl_cons (st_if_t (tt rfl rfl rfl rfl (by simpa using q)) (bl_cons (rn_hp (st_expr (ev_append (l₁ := g.map .int) (l := g.map .int) (ev_name rfl rfl) (ev_bin (ev_item (ev_name rfl rfl) (ev_bin (ev_name rfl rfl) (ev_name rfl rfl) bin_add) i2) (ev_item (ev_name rfl rfl) (ev_name rfl rfl) i1) bin_sub) (by simp) (by simp) (by simp; omega))) (by simp)) bl_nil)) bl_nil) (by (repeat (first | exact sub_nil | exact sub_rfl | refine sub_cons rfl ?_)))
      · rw [if_neg q]
        exact rn_wk (bl_cons (st_if_f (tt rfl rfl rfl rfl (by simpa using q)) bl_nil) bl_nil) (by (repeat (first | exact sub_nil | exact sub_rfl | refine sub_cons rfl ?_)))) (rngL 0 (cells.length - j).toNat) [] ⟨by simp [rngL_length]; omega, fun k hk => by have := rngL_mem.mp hk; omega⟩
  have ef : ∀ (l g : List Int), l.foldl (fun g k => if (k.fdiv j).fmod (form.getD i 0) + 1 < form.getD i 0 then g ++ [cells.getD (k + j).toNat 0 - cells.getD k.toNat 0] else g) g = g ++ ((l.filter fun k => decide ((k.fdiv j).fmod (form.getD i 0) + 1 < form.getD i 0)).map fun k => cells.getD (k + j).toNat 0 - cells.getD k.toNat 0) := by
    intro l
    induction l with
    | nil => intro g; simp
    | cons k l ih =>
      intro g
      rw [List.foldl_cons, ih, List.filter_cons]
      by_cases q : (k.fdiv j).fmod (form.getD i 0) + 1 < form.getD i 0
      · simp only [q, if_true, decide_true, List.map_cons, List.append_assoc, List.singleton_append]
      · simp only [q, if_false, decide_false, Bool.false_eq_true]
  rw [ef, List.nil_append] at inner
  have hlen : (((rngL 0 (cells.length - j).toNat).filter fun k => decide ((k.fdiv j).fmod (form.getD i 0) + 1 < form.getD i 0)).map fun k => cells.getD (k + j).toNat 0 - cells.getD k.toNat 0).length ≤ 1000000 := by
    rw [List.length_map]
    have := List.length_filter_le (fun k => decide ((k.fdiv j).fmod (form.getD i 0) + 1 < form.getD i 0)) (rngL 0 (cells.length - j).toNat)
    rw [rngL_length] at this; omega
  generalize (((rngL 0 (cells.length - j).toNat).filter fun k => decide ((k.fdiv j).fmod (form.getD i 0) + 1 < form.getD i 0)).map fun k => cells.getD (k + j).toNat 0 - cells.getD k.toNat 0) = l at inner hlen ⊢
  have h0 : (H ++ [AO.list (l.map V.int)])[H.length]? = some (.list (l.map .int)) := by simp
  refine bl_two (σ₁ := ("steps", .ref H.length) :: ("jump", .int j) :: ("axis", .int i) :: lawB script view sh cells form e) (τ := ("steps", .lst (l.map .int)) :: ("jump", .int j) :: ("axis", .int i) :: lawB script view sh cells form e) (st_assign (ev_list el_nil (by simp)) rfl) (st_for (si_range (j := (cells.length : Int) - j) (G.b 8 rfl rfl rfl) (el_cons (ev_bin (ev_to (ev_call (G.b 7 rfl rfl rfl) (el_cons (ev_name rfl rfl) el_nil) (fn_len (len_l (l := cells.map .int) lq_lst (by simp; omega))) rfl) (by simp)) (ev_name rfl rfl) bin_sub) el_nil) (by omega)) inner) ?_ ?_
  · exact fze_cons rfl (fz_lst (Nat.le_refl _) h0 pure_ints) (fze_cons rfl (fz_pure pure_int) (fze_cons rfl (fz_pure pure_int) (fze_cons rfl (fz_pure pure_bool) (fze_cons rfl (fz_pure pure_tI) (fze_cons rfl (fz_pure hv) (fze_cons rfl (fz_pure pure_tI) (fze_cons rfl (fz_pure (pure_lst pure_ints)) fze_nil)))))))
  have hcmp : Ev ⟨B, n + 1, dScope (nth P2 44)⟩ (cmpR (aVal (nth (fBody (nth (dBody (nth P2 44)) 5)) 3))) (("steps", .lst (l.map .int)) :: ("jump", .int j) :: ("axis", .int i) :: lawB script view sh cells form e) H (.bool (sameF l)) H := by
    refine ev_to (ev_cmp (ev_name rfl rfl) (ev_frz (l := (l.filter fun x => x == l.getD 0 0).map .int) (ev_comp (si_lst (ev_name rfl rfl)) ?_ (by rw [List.length_map]; have := List.length_filter_le (fun x => x == l.getD 0 0) l; omega) rfl (by decide) rfl (by intro _ _; rfl)) pure_ints) (c_eql lq_lst lq_lst)) rfl
    refine cmpL_filter V.int V.int _ l fun x hx => ⟨_, at_local rfl, sub_tl rfl sub_rfl, fun H => ?_, fun _ H => (ev_name rfl rfl)⟩
    have hp : 0 < l.length := List.length_pos_of_mem hx
    exact tv_cmp (ev_name rfl rfl) (ev_item (ev_name rfl rfl) ev_int (by have := it_lI (H := H) (l := l) (i := 0) hp hlen; simpa using this)) c_eq
  cases e with
  | true => exact rn_wk (bl_cons (st_assign (ev_and_t (ev_name rfl rfl) t_bool hcmp) rfl) bl_nil) (by (repeat (first | exact sub_nil | exact sub_rfl | refine sub_cons rfl ?_)))
  | false => exact rn_wk (bl_cons (st_assign (ev_and_f (ev_name rfl rfl) t_bool) rfl) bl_nil) (by (repeat (first | exact sub_nil | exact sub_rfl | refine sub_cons rfl ?_)))
end
end Tg
namespace Tg
set_option maxHeartbeats 1000000
structure LOk (g : LS) : Prop where
  sides : Sides g.sh
  len : g.sh.length ≤ 50
  st : g.sh.length = g.st.length
  cl : (g.cells.length : Int) = prodI g.sh
  row : (spotsL g.sh).map (tell g.st g.off) = g.cells
theorem side_le {sh : List Int} (hs : Sides sh) {x : Int} (hx : x ∈ sh) : x ≤ 1000000 := by
  obtain ⟨i, hi, rfl⟩ := List.getElem_of_mem hx
  have h1 := but_prod hi
  have h2 := hs.2
  have h3 := hs.1 _ (getD_mem hi)
  rw [h1, Int.mul_comm] at h2
  have := Int.le_trans (le_mul_one h3 (prodI_pos (but_sides hi hs).1)) h2
  simpa [List.getD, List.getElem?_eq_getElem hi] using this
theorem row_ok {form : List Int} (hs : Sides form) : ∀ s ∈ spotsL form, s.length = form.length ∧ ∀ x ∈ s, small x = true := fun s h => by
  obtain ⟨h1, h2⟩ := spots_in h
  refine ⟨h1, fun x hx => ?_⟩
  obtain ⟨i, hi, rfl⟩ := List.getElem_of_mem hx
  have h3 := h2 i (by omega)
  have h4 := side_le hs (getD_mem (show i < form.length by omega))
  simp only [List.getD, List.getElem?_eq_getElem hi, Option.getD_some] at h3
  exact small_of h3.1 (by have := h3.2; simp only [List.getD] at h4; omega)
section
variable {B : Bs} (G : G2 B) {n : Nat}
include G
theorem law_tail {g : LS} {form : List Int} {told : V} {H : AH} (hg : LOk g) (hs : Sides form) (hz : form.length ≤ 50) (hr : Fp B (n + 6) (.ref (G.ad "reshape")) [g.v (G.ad "View"), tI form] told)
    (ht : (told = .none ∧ evenF g.cells form = false) ∨ ∃ st off c, told = vw (G.ad "View") form st off c ∧ form.length = st.length ∧ evenF g.cells form = true ∧ (spotsL form).map (tell st off) = g.cells) :
    Bl ⟨B, n + 6, dScope (nth P2 44)⟩ ((dBody (nth P2 44)).drop 6) [("even", .bool (evenF g.cells form)), ("form", tI form), ("view", g.v (G.ad "View")), ("shape", tI g.sh), ("cells", .lst (g.cells.map .int))] H (.ret (.bool true)) [] H := by
  have hrow := fun (sh st : List Int) (off : Int) (c : Bool) (f : List Int) (a : Sides f) (b : f.length = st.length) (d : f.length ≤ 50) => (s_row G (n := n) (sh := sh) (st := st) (off := off) (c := c) a b (by omega) (row_ok a) (by have := spots_le a; omega)).le (show n + 3 ≤ n + 6 by omega)
  have fin : ∀ {σ : En} {H : AH}, σ.lookup ("view" : Str) = some (g.v (G.ad "View")) → σ.lookup ("shape" : Str) = some (tI g.sh) → σ.lookup ("cells" : Str) = some (.lst (g.cells.map .int)) → Bl ⟨B, n + 6, dScope (nth P2 44)⟩ ((dBody (nth P2 44)).drop 9) σ H (.ret (.bool true)) [] H := fun a1 a2 a3 => by
    refine rn_wk (bl_ret (st_ret (ev_and_t (ev_to (v' := .bool true) (ev_cmp (G.f a1 rfl rfl rfl rfl) (ev_name a2 rfl) c_eqt) (by simp)) t_bool (ev_to (ev_cmp (ev_call (G.e 19 rfl rfl rfl) (el_cons (ev_frz (l := [g.v (G.ad "View")]) (ev_list (el_cons (ev_name a1 rfl) el_nil) (by simp)) (by intro v h; rw [List.mem_singleton.mp h]; exact pure_vw)) (el_cons (ev_name a2 rfl) el_nil)) (Fp.fn (hrow g.sh g.st g.off g.c g.sh hg.sides hg.st hg.len)) (G.c 25 rfl)) (ev_name a3 rfl) (c_eql lq_lst lq_lst)) (by rw [hg.row]; simp))))) sub_nil
  refine bl_cons (st_assign (ev_meth (ev_name rfl rfl) ob_obj (G.mt "reshape" (by simp [mtN])) rfl (el_cons (ev_name rfl rfl) el_nil) (Fp.fn hr) (G.c 14 rfl)) rfl) ?_
  rcases ht with ⟨rfl, he⟩ | ⟨st, off, c, rfl, hl, he, hcells⟩
  · rw [he]
    exact bl_cons (st_if_f (tv_to (tv_cmp (ev_cmp (ev_name rfl rfl) ev_none (c_isnt rfl)) (ev_name rfl rfl) c_neb) rfl) bl_nil) (bl_cons (st_if_f (tv_and_f (tv_to (tv_cmp (ev_name rfl rfl) ev_none (c_isnt rfl)) rfl)) bl_nil) (fin rfl rfl rfl))
  · rw [he]
    refine bl_cons (st_if_f (tv_to (tv_cmp (ev_cmp (ev_name rfl rfl) ev_none (c_isnt rfl)) (ev_name rfl rfl) c_neb) rfl) bl_nil) (bl_cons (st_if_f (tv_and_t (tv_to (tv_cmp (ev_name rfl rfl) ev_none (c_isnt rfl)) rfl) (tv_or_f (tv_to (tv_cmp (G.f rfl rfl rfl rfl rfl) (ev_name rfl rfl) c_net) (by simp)) (tv_to (tv_cmp (ev_call (G.e 19 rfl rfl rfl) (el_cons (ev_frz (l := [vw (G.ad "View") form st off c]) (ev_list (el_cons (ev_name rfl rfl) el_nil) (by simp)) (by intro v h; rw [List.mem_singleton.mp h]; exact pure_vw)) (el_cons (ev_name rfl rfl) el_nil)) (Fp.fn (hrow form st off c form hs hl hz)) (G.c 25 rfl)) (ev_name rfl rfl) (c_nel lq_lst lq_lst)) (by rw [hcells]; simp)))) bl_nil) (fin rfl rfl rfl))
end
end Tg
namespace Tg
set_option maxHeartbeats 1000000
noncomputable def cArg : Expr → Nat → Expr
  | .Call _ es _ _, i => es.getD i default
  | _, _ => default
section
variable {B : Bs} (G : G2 B) {n : Nat}
include G
theorem even_loop {view : V} {sh cells form : List Int} (hv : Pure view) (hs : Sides form) (hz : form.length ≤ 50) (hc : (cells.length : Int) = prodI form) (H : AH) :
    ForR ⟨B, n + 6, dScope (nth P2 44)⟩ (fTgt (nth (dBody (nth P2 44)) 5)) (fBody (nth (dBody (nth P2 44)) 5)) [] .next (lawB view view sh cells form (evenF cells form)) H ((rngL 0 form.length).map .int) (lawB view view sh cells form true) H :=
  forR_fold V.int (fun e => lawB view view sh cells form e) (fun _ => H) (fun e k => e && sameF (stepsF cells form k.toNat)) (fun _ l => ∀ k ∈ l, 0 ≤ k ∧ k < form.length) (fun e k l h => by
    obtain ⟨k1, k2⟩ := h k (.head _)
    have ek : ((k.toNat : Nat) : Int) = k := by omega
    have := law_axis G (n := n + 5) (view := view) (script := view) (sh := sh) (cells := cells) (form := form) hv hs (by omega) hc (i := k.toNat) (by omega) (e := e) (H := H)
    rw [ek] at this
    exact ⟨fun x hx => h x (.tail _ hx), this⟩) _ _ fun k hk => by have := rngL_mem.mp hk; omega
theorem s_law {l : List Int} {P : LS → Prop} (hl : l.length ≤ 63) (hd : ∀ g number, P g → number.fmod 6 ≠ 3 → ∃ g', P g' ∧ Deed G (n + 5) 16 g number g') (hP : ∀ g, P g → LOk g) (h0 : ∀ s ∈ starts, P ⟨s, plainSt s, 0, true, rngS 0 1 (prodI s).toNat⟩)
    (hr : ∀ g rest, P g → ∃ told, Fp B (n + 6) (.ref (G.ad "reshape")) [g.v (G.ad "View"), tI (splitS (prodI g.sh) rest)] told ∧
      ((told = .none ∧ evenF g.cells (splitS (prodI g.sh) rest) = false) ∨ ∃ st off c, told = vw (G.ad "View") (splitS (prodI g.sh) rest) st off c ∧ (splitS (prodI g.sh) rest).length = st.length ∧ evenF g.cells (splitS (prodI g.sh) rest) = true ∧ (spotsL (splitS (prodI g.sh) rest)).map (tell st off) = g.cells)) :
    Fp B (n + 7) (.ref (G.ad "law")) [.lst (l.map .int)] (.bool true) := by
  refine G.pure 27 rfl (fl := .ret _) rfl rfl pure_bool fun H => ?_
  have hlt : (l.map V.int).length ≤ 1048576 := by simp; omega
  -- the start
  have hst : ∃ s ∈ starts, Ev ⟨B, n + 6, dScope (nth P2 44)⟩ (aVal (nth (dBody (nth P2 44)) 0)) [("script", .lst (l.map .int))] H (tI s) H := by
    cases l with
    | nil => exact ⟨[2, 3], by simp [starts], ev_ite_f (tv_to (tv_plain (ev_name rfl rfl) (t_ls (l := []) lq_lst (by simp)) (by intro _ _; rfl)) rfl) (ev_tuple (el_cons ev_int (el_cons ev_int el_nil)) (by simp))⟩
    | cons x l => exact ⟨pickM [] starts x, pickM_mem (by simp [starts]), ev_ite_t (tv_to (tv_plain (ev_name rfl rfl) (t_ls (l := (x :: l).map .int) lq_lst hlt) (by intro _ _; rfl)) rfl) (ev_item (ev_call (G.e 9 rfl rfl rfl) el_nil (Fp.fn ((s_starts G (n := n)).le (show n + 1 ≤ n + 6 by omega))) (G.c 15 rfl)) (ev_bin (ev_item (ev_name rfl rfl) ev_int (it_ls (j := 0) lq_lst rfl rfl (by decide))) ev_int (bin_mod (by decide))) (it_mod (f := tI) (d := []) (l := starts) (by simp [starts]) (by simp [starts])))⟩
  obtain ⟨s, hs, e0⟩ := hst
  have hp0 := h0 s hs
  have hg0 := hP _ hp0
  have hss : Sides s := hg0.sides
  have hsl : s.length ≤ 50 := hg0.len
  have hle := hss.2
  have hpos := prodI_pos hss.1
  obtain ⟨g, hg, hview⟩ := s_lview G (n := n + 5) (most := 16) (P := P) (ok := fun x => x.fmod 6 ≠ 3) hd (((l.take 5).drop 1).filter fun x => !(x.fmod 6 == 3)) ⟨s, plainSt s, 0, true, rngS 0 1 (prodI s).toNat⟩ (fun x hx => by have := (List.mem_filter.mp hx).2; simpa using this) hp0
  have hgo := hP _ hg
  have hrest : ∃ r, Ev ⟨B, n + 6, dScope (nth P2 44)⟩ (cArg (aVal (nth (dBody (nth P2 44)) 3)) 1) [("view", g.v (G.ad "View")), ("shape", tI g.sh), ("cells", .lst (g.cells.map .int)), ("script", .lst (l.map .int))] H (.int r) H := by
    by_cases q : (5 : Int) < l.length
    · have : 5 < l.length := by omega
      exact ⟨_, ev_ite_t (tv_to (tv_cmp (ev_call (G.b 7 rfl rfl rfl) (el_cons (ev_name rfl rfl) el_nil) (fn_len (len_l (l := l.map .int) lq_lst hlt)) rfl) ev_int c_gt) (by simpa using q)) (ev_bin (ev_item (ev_name rfl rfl) ev_int (by have := it_lI (H := H) (l := l) (i := 5) this (by omega); exact this)) ev_int (bin_div (by decide) (by decide)))⟩
    · exact ⟨2, ev_ite_f (tv_to (tv_cmp (ev_call (G.b 7 rfl rfl rfl) (el_cons (ev_name rfl rfl) el_nil) (fn_len (len_l (l := l.map .int) lq_lst hlt)) rfl) ev_int c_gt) (by simpa using q)) ev_int⟩
  obtain ⟨r, e3⟩ := hrest
  obtain ⟨told, hr1, hr2⟩ := hr g r hg
  have hf := split_ok (prodI_pos hgo.sides.1) r
  have hsplit := s_split G (n := n) (rest := r) hgo.sides
  generalize splitS (prodI g.sh) r = form at hr1 hr2 hf hsplit
  have hfs : Sides form := ⟨hf.1, by rw [hf.2.1]; exact hgo.sides.2⟩
  have hcl : (g.cells.length : Int) = prodI form := by rw [hf.2.1]; exact hgo.cl
  refine bl_cons (st_assign e0 rfl) (bl_cons (st_assign_comp (o := (((l.take 5).drop 1).filter fun x => !(x.fmod 6 == 3)).map .int) (si_lst (l := ((l.take 5).drop 1).map .int) ?_) (cb_emit rfl) ?_ ?_ pure_ints rfl rfl (by decide) rfl (by intro g h; simp at h) (by intro _ _; rfl) (by intro env h; cases env; dsimp only at h; subst h; first | rfl | kernel_rfl)) ?_)
  · refine ev_frz ?_ pure_ints
    have e : ((l.map V.int).take (hiN (l.map V.int).length (some 5))).drop (loN (some 1)) = ((l.take 5).drop 1).map V.int := by simp [hiN, loN]
    rw [← e]
    exact ev_slice (ol := some 1) (oh := some 5) (lo := some _) (hi := some _) (ev_name rfl rfl) ev_int ⟨rfl, by decide⟩ ev_int ⟨rfl, by decide⟩ (slc_ls (l := l.map .int) lq_lst (by intro a h; cases h; decide) (by intro a h; cases h; decide) hlt)
  · refine cmpL_filter V.int V.int _ _ fun x hx => ⟨_, at_local rfl, sub_tl rfl sub_rfl, fun H => ?_, fun _ H => (ev_name rfl rfl)⟩
    exact tv_cmp (ev_bin (ev_name rfl rfl) ev_int (bin_mod (by decide))) ev_int c_ne
  · rw [List.length_map]
    have := List.length_filter_le (fun x : Int => !(x.fmod 6 == 3)) ((l.take 5).drop 1)
    simp at this ⊢; omega
  refine bl_cons (st_assign_t (ev_call (G.e 20 rfl rfl rfl) (el_cons (ev_static (G.e 6 rfl rfl rfl) G.sm (el_cons (ev_name rfl rfl) el_nil) (Fp.fn ((s_create1 G (n := n) hss (by omega)).le (show n + 4 ≤ n + 6 by omega))) (G.c 7 rfl)) (el_cons (ev_name rfl rfl) (el_cons (ev_frz (l := (rngS 0 1 (prodI s).toNat).map .int) (ev_list_rg (n := (prodI s).toNat) (G.b 9 rfl rfl rfl) (rg_1 (j := prodI s) (G.b 8 rfl rfl rfl) (el_cons (ev_call (G.e 12 rfl rfl rfl) (el_cons (ev_name rfl rfl) el_nil) (Fp.fn ((s_size G (n := n) (.inl rfl) hss.small).le (show n + 1 ≤ n + 6 by omega))) (G.c 18 rfl)) el_nil)) (small_one (by omega) (by omega) (by omega) (by omega)) (by rw [rangeSize_nat, Int.sub_zero]) (by omega)) pure_ints) (el_cons (ev_name rfl rfl) (el_cons ev_int el_nil))))) (Fp.fn hview) (G.c 26 rfl)) (at_tuple (atl_cons (at_name rfl) (atl_cons (at_name rfl) (atl_cons (at_name rfl) atl_nil))))) ?_
  refine bl_cons (st_assign (ev_call (G.e 14 rfl rfl rfl) (el_cons (ev_name rfl rfl) (el_cons (ev_sub e3 (by (repeat (first | exact sub_nil | exact sub_rfl | refine sub_cons rfl ?_)))) el_nil)) (Fp.fn (hsplit.le (show n + 2 ≤ n + 6 by omega))) (G.c 20 rfl)) rfl) ?_
  refine bl_cons (st_assign ev_bool rfl) (bl_cons (rn_sub (st_for (si_range (j := (form.length : Int)) (G.b 8 rfl rfl rfl) (el_cons (ev_to (ev_call (G.b 7 rfl rfl rfl) (el_cons (ev_name rfl rfl) el_nil) (fn_len (len_t (l := form.map .int) (by simp; omega))) rfl) (by simp)) el_nil) (by omega)) (even_loop G (view := g.v (G.ad "View")) (sh := g.sh) pure_vw hfs (by omega) hcl H)) (by (repeat (first | exact sub_nil | exact sub_rfl | refine sub_cons rfl ?_)))) (rn_sub (law_tail G hgo hfs (by omega) hr1 hr2) (by (repeat (first | exact sub_nil | exact sub_rfl | refine sub_cons rfl ?_)))))
end
end Tg
namespace Tg
set_option maxHeartbeats 1000000
noncomputable def spotsR : List Int → List (List Int)
  | [] => [[]]
  | x :: l => (rngL 0 x.toNat).flatMap fun k => (spotsR l).map (k :: ·)
theorem fold_flat : ∀ (l : List Int) (sp : List (List Int)), l.foldl spotsG sp = sp.flatMap fun s => (spotsR l).map (s ++ ·)
  | [], sp => by simp [spotsR]
  | x :: l, sp => by
    rw [List.foldl_cons, fold_flat l]
    rw [show spotsR (x :: l) = (rngL 0 x.toNat).flatMap fun k => (spotsR l).map (k :: ·) from rfl]
    unfold spotsG
    rw [List.flatMap_assoc]
    congr 1
    funext s
    rw [List.flatMap_map, List.map_flatMap]
    congr 1
    funext k
    rw [List.map_map]
    congr 1
    funext r
    simp
theorem spots_eq (sh : List Int) : spotsL sh = spotsR sh := by
  unfold spotsL; rw [fold_flat]; simp
noncomputable def hornR : List Int → List Int → Int
  | x :: l, k :: s => k * prodI l + hornR l s
  | _, _ => 0
noncomputable def cellsR : List Int → List Int → Int → List Int
  | x :: l, t :: ts, off => (rngL 0 x.toNat).flatMap fun k => cellsR l ts (off + k * t)
  | _, _, off => [off]
theorem tell_cons {t k : Int} {ts s : List Int} {off : Int} : tell (t :: ts) off (k :: s) = tell ts (off + k * t) s := rfl
theorem cells_eq : ∀ (sh st : List Int) (off : Int), sh.length = st.length → (spotsR sh).map (tell st off) = cellsR sh st off
  | [], [], off, _ => rfl
  | x :: l, t :: ts, off, h => by
    rw [show spotsR (x :: l) = (rngL 0 x.toNat).flatMap fun k => (spotsR l).map (k :: ·) from rfl, show cellsR (x :: l) (t :: ts) off = (rngL 0 x.toNat).flatMap fun k => cellsR l ts (off + k * t) from rfl, List.map_flatMap]
    congr 1
    funext k
    rw [List.map_map, ← cells_eq l ts (off + k * t) (by simpa using h)]
    rfl
  | [], _ :: _, _, h => by simp at h
  | _ :: _, [], _, h => by simp at h
theorem flat_get {δ : Type} {n : Nat} : ∀ (m : Nat) (a : Int) (f : Int → List δ), (∀ k, (f k).length = n) → ∀ (i j : Nat), i < m → j < n → ((rngL a m).flatMap f)[i * n + j]? = (f (a + i))[j]?
  | 0, _, _, _, _, _, h, _ => by omega
  | m + 1, a, f, hf, 0, j, _, hj => by
    show ((f a ++ (rngL (a + 1) m).flatMap f)[0 * n + j]?) = _
    rw [Nat.zero_mul, Nat.zero_add, List.getElem?_append_left (by rw [hf]; exact hj)]; simp
  | m + 1, a, f, hf, i + 1, j, hi, hj => by
    show ((f a ++ (rngL (a + 1) m).flatMap f)[(i + 1) * n + j]?) = _
    rw [List.getElem?_append_right (by rw [hf, Nat.add_mul]; omega), hf, show (i + 1) * n + j - n = i * n + j by rw [Nat.add_mul]; omega, flat_get m (a + 1) f hf i j (by omega) hj]
    congr 2; omega
end Tg
namespace Tg
set_option maxHeartbeats 1000000
noncomputable def InR : List Int → List Int → Prop
  | [], [] => True
  | x :: l, k :: s => (0 ≤ k ∧ k < x) ∧ InR l s
  | _, _ => False
theorem inR_of : ∀ {sh s : List Int}, InS sh s → InR sh s
  | [], [], _ => trivial
  | [], _ :: _, h => by have := h.1; simp at this
  | _ :: _, [], h => by have := h.1; simp at this
  | x :: l, k :: s, h => ⟨by have := h.2 0 (by simp); simpa using this, inR_of ⟨by simpa using h.1, fun i hi => by have := h.2 (i + 1) (by simpa using hi); simpa using this⟩⟩
theorem cellsR_length : ∀ (sh st : List Int) (off : Int), sh.length = st.length → (∀ x ∈ sh, 0 < x) → (cellsR sh st off).length = (prodI sh).toNat
  | [], [], _, _, _ => rfl
  | [], _ :: _, _, h, _ => by simp at h
  | _ :: _, [], _, h, _ => by simp at h
  | x :: l, t :: ts, off, h, hp => by
    have ih := fun o => cellsR_length l ts o (by simpa using h) fun y hy => hp y (.tail _ hy)
    have hx := hp x (.head _)
    have hl := prodI_pos (l := l) fun y hy => hp y (.tail _ hy)
    show ((rngL 0 x.toNat).flatMap fun k => cellsR l ts (off + k * t)).length = _
    have : ∀ (m : Nat) (a : Int), ((rngL a m).flatMap fun k => cellsR l ts (off + k * t)).length = m * (prodI l).toNat := by
      intro m
      induction m with
      | zero => intro a; simp [rngL]
      | succ m ihm => intro a; rw [rngL, List.flatMap_cons, List.length_append, ih, ihm, Nat.add_mul]; omega
    rw [this, prodI_cons, Int.toNat_mul (by omega) (by omega)]
theorem hornR_lt : ∀ {sh s : List Int}, InR sh s → (∀ x ∈ sh, 0 < x) → 0 ≤ hornR sh s ∧ hornR sh s < prodI sh
  | [], [], _, _ => ⟨by decide, by decide⟩
  | [], _ :: _, h, _ => h.elim
  | _ :: _, [], h, _ => h.elim
  | x :: l, k :: s, h, hp => by
    obtain ⟨⟨q1, q2⟩, q3⟩ := id h
    obtain ⟨h1, h2⟩ := hornR_lt h.2 fun y hy => hp y (.tail _ hy)
    have hl := prodI_pos (l := l) fun y hy => hp y (.tail _ hy)
    show 0 ≤ k * prodI l + hornR l s ∧ k * prodI l + hornR l s < _
    rw [prodI_cons]
    have a := Int.mul_nonneg h.1.1 (Int.le_of_lt hl)
    have b : (k + 1) * prodI l ≤ x * prodI l := Int.mul_le_mul_of_nonneg_right (by omega) (Int.le_of_lt hl)
    rw [Int.add_mul, Int.one_mul] at b
    omega
theorem cells_at : ∀ {sh st s : List Int} {off : Int}, sh.length = st.length → (∀ x ∈ sh, 0 < x) → InR sh s → (cellsR sh st off)[(hornR sh s).toNat]? = some (tell st off s)
  | [], [], [], _, _, _, _ => rfl
  | [], _ :: _, _, _, h, _, _ => by simp at h
  | _ :: _, [], _, _, h, _, _ => by simp at h
  | [], [], _ :: _, _, _, _, h => h.elim
  | _ :: _, _ :: _, [], _, _, _, h => h.elim
  | x :: l, t :: ts, k :: s, off, h, hp, hi => by
    have hl := prodI_pos (l := l) fun y hy => hp y (.tail _ hy)
    have hp' : ∀ y ∈ l, 0 < y := fun y hy => hp y (.tail _ hy)
    obtain ⟨⟨q1, q2⟩, q3⟩ := id hi
    obtain ⟨h1, h2⟩ := hornR_lt hi.2 hp'
    have h' : l.length = ts.length := by simpa using h
    have e : (hornR (x :: l) (k :: s)).toNat = k.toNat * (prodI l).toNat + (hornR l s).toNat := by
      show (k * prodI l + hornR l s).toNat = _
      rw [Int.toNat_add (Int.mul_nonneg hi.1.1 (Int.le_of_lt hl)) h1, Int.toNat_mul hi.1.1 (Int.le_of_lt hl)]
    rw [e]
    show ((rngL 0 x.toNat).flatMap fun k => cellsR l ts (off + k * t))[_]? = _
    rw [flat_get x.toNat 0 (fun k => cellsR l ts (off + k * t)) (fun k => cellsR_length l ts _ h' hp') k.toNat (hornR l s).toNat (by omega) (by omega), show (0 : Int) + k.toNat = k by omega, cells_at h' hp' hi.2]
    rfl
end Tg
namespace Tg
set_option maxHeartbeats 1000000
theorem horn_go {sh : List Int} {at' : Nat → Int} : ∀ (l : List Int) (i : Nat) (a : Int), sh.drop i = l → (rngL i l.length).foldl (fun a k => a * sh.getD k.toNat 0 + at' k.toNat) a = a * prodI l + hornR l ((List.range' i l.length).map at')
  | [], i, a, _ => by simp [rngL, prodI, hornR]
  | x :: l, i, a, h => by
    have hi : i < sh.length := by
      rcases Nat.lt_or_ge i sh.length with q | q
      · exact q
      · rw [List.drop_of_length_le q] at h; cases h
    rw [List.drop_eq_getElem_cons hi] at h
    obtain ⟨h1, h2⟩ := List.cons.inj h
    have e : sh.getD i 0 = x := by rw [List.getD, List.getElem?_eq_getElem hi]; exact h1
    show (rngL ((i : Int) + 1) l.length).foldl _ (a * sh.getD ((i : Int)).toNat 0 + at' ((i : Int)).toNat) = _
    rw [show ((i : Int)).toNat = i by omega, e]
    have ih := horn_go (sh := sh) (at' := at') l (i + 1) (a * x + at' i) h2
    rw [show (((i + 1 : Nat)) : Int) = (i : Int) + 1 by omega] at ih
    rw [ih, prodI_cons]
    show _ = _ + (at' i * prodI l + hornR l ((List.range' (i + 1) l.length).map at'))
    rw [Int.add_mul, Int.mul_assoc, Int.add_assoc]
theorem horn_eq (sh : List Int) (at' : Nat → Int) : horn sh at' = hornR sh ((List.range sh.length).map at') := by
  unfold horn
  have := horn_go (sh := sh) (at' := at') sh 0 0 rfl
  rw [Int.zero_mul, Int.zero_add, ← List.range_eq_range'] at this
  exact this
theorem in_range {sh : List Int} {at' : Nat → Int} (h : ∀ k < sh.length, 0 ≤ at' k ∧ at' k < sh.getD k 0) : InR sh ((List.range sh.length).map at') :=
  inR_of ⟨by simp, fun i hi => by simpa [List.getD, hi] using h i hi⟩
theorem cell_of {sh st cells : List Int} {off : Int} {at' : Nat → Int} (hs : ∀ x ∈ sh, 0 < x) (hl : sh.length = st.length) (hc : (spotsL sh).map (tell st off) = cells) (h : ∀ k < sh.length, 0 ≤ at' k ∧ at' k < sh.getD k 0) :
    cells.getD (horn sh at').toNat 0 = tell st off ((List.range sh.length).map at') := by
  rw [← hc, spots_eq, cells_eq sh st off hl, horn_eq, List.getD, cells_at hl hs (in_range h)]; rfl
noncomputable def dot : List Int → List Int → Int
  | t :: ts, k :: s => k * t + dot ts s
  | _, _ => 0
theorem tell_dot : ∀ (st s : List Int) (off : Int), tell st off s = off + dot st s
  | [], [], off => by simp [tell, dot]
  | [], _ :: _, off => by simp [tell, dot]
  | _ :: _, [], off => by simp [tell, dot]
  | t :: ts, k :: s, off => by rw [tell_cons, tell_dot ts s]; show _ = off + (k * t + dot ts s); omega
end Tg
namespace Tg
set_option maxHeartbeats 1000000
theorem canonL_cons {x t : Int} {l ts : List Int} : canonL (x :: l) (t :: ts) = canon x t :: canonL l ts := rfl
theorem canonL_length {sh st : List Int} (h : sh.length = st.length) : (canonL sh st).length = sh.length := by simp [canonL]; omega
theorem canonL_idem : ∀ (sh st : List Int), canonL sh (canonL sh st) = canonL sh st
  | [], _ => by simp [canonL]
  | _ :: _, [] => by simp [canonL]
  | x :: l, t :: ts => by rw [canonL_cons, canonL_cons, canonL_idem l ts]; unfold canon; split <;> rfl
theorem dot_canon : ∀ {sh st s : List Int}, InR sh s → dot (canonL sh st) s = dot st s
  | [], [], [], _ => rfl
  | [], _ :: _, [], _ => by simp [canonL, dot]
  | [], _, _ :: _, h => h.elim
  | _ :: _, _, [], h => h.elim
  | _ :: _, [], _ :: _, _ => by simp [canonL, dot]
  | x :: l, t :: ts, k :: s, h => by
    obtain ⟨⟨q1, q2⟩, q3⟩ := id h
    rw [canonL_cons]
    show k * canon x t + dot (canonL l ts) s = k * t + dot ts s
    rw [dot_canon q3]
    unfold canon
    by_cases q : x = 1
    · rw [if_pos q, show k = 0 by omega, Int.zero_mul, Int.zero_mul]
    · rw [if_neg q]
noncomputable def Can (sh st : List Int) : Prop := canonL sh st = st
theorem can_canon {sh st : List Int} : Can sh (canonL sh st) := canonL_idem sh st
theorem Can.cons {x t : Int} {l ts : List Int} (h : Can (x :: l) (t :: ts)) : (x = 1 → t = 0) ∧ Can l ts := by
  unfold Can at h
  rw [canonL_cons] at h
  obtain ⟨h1, h2⟩ := List.cons.inj h
  exact ⟨fun q => by unfold canon at h1; rw [if_pos q] at h1; exact h1.symm, h2⟩
theorem dot_congr {st s s' : List Int} (h : s.length = st.length) (h' : s'.length = st.length) (q : ∀ i < st.length, s.getD i 0 * st.getD i 0 = s'.getD i 0 * st.getD i 0) : dot st s = dot st s' := by
  induction st generalizing s s' with
  | nil => cases s <;> cases s' <;> simp_all [dot]
  | cons t ts ih => cases s with
    | nil => simp at h
    | cons k s => cases s' with
      | nil => simp at h'
      | cons k' s' =>
        show k * t + dot ts s = k' * t + dot ts s'
        have q0 : k * t = k' * t := q 0 (by simp)
        rw [ih (by simpa using h) (by simpa using h') fun i hi => by have := q (i + 1) (by simpa using hi); simpa using this]
        rw [q0]
end Tg
namespace Tg
set_option maxHeartbeats 1000000
theorem Can.at : ∀ {sh st : List Int} {i : Nat}, Can sh st → sh.length = st.length → i < sh.length → sh.getD i 0 = 1 → st.getD i 0 = 0
  | x :: l, t :: ts, 0, h, _, _, q => by have := h.cons.1 (by simpa using q); simpa using this
  | x :: l, t :: ts, i + 1, h, hl, hi, q => by
    have := Can.at (i := i) h.cons.2 (by simpa using hl) (by simpa using hi) (by simpa using q)
    simpa using this
theorem map_range_getD {n : Nat} {f : Nat → Int} {i : Nat} (h : i < n) : ((List.range n).map f).getD i 0 = f i := by simp [List.getD, h]
theorem tell_expand {sh st nw s : List Int} {off : Int} (hc : Can sh st) (hl : sh.length = st.length) (hn : nw.length = sh.length) (hq : ∀ p ∈ sh.zip nw, p.1 = p.2 ∨ p.1 = 1) (hs : InS nw s) :
    tell st off ((List.range sh.length).map (at2 sh nw s)) = tell (canonL nw st) off s := by
  rw [tell_dot, tell_dot, dot_canon (inR_of hs)]
  congr 1
  refine dot_congr (by simp [hl]) (by have := hs.1; omega) fun i hi => ?_
  rw [map_range_getD (by omega)]
  unfold at2
  split
  · rfl
  · rename_i q
    have h1 := hq _ (zip_getD (d := 0) (l := sh) (m := nw) (k := i) (by omega) hn.symm)
    have h2 : sh.getD i 0 = 1 := h1.resolve_left q
    rw [hc.at hl (by omega) h2, Int.mul_zero, Int.mul_zero]
theorem tell_shrink : ∀ {st s : List Int} {l : List (Int × Int)} {off : Int}, st.length = l.length → s.length = l.length → tell st off ((List.range l.length).map (at4 l s)) = tell st (off + ((st.zip l).map fun p => p.1 * p.2.1).sum) s := by
  intro st s l off h1 h2
  rw [tell_dot, tell_dot]
  have : ∀ (st s : List Int) (l : List (Int × Int)), st.length = l.length → s.length = l.length → dot st ((List.range l.length).map (at4 l s)) = ((st.zip l).map fun p => p.1 * p.2.1).sum + dot st s := by
    intro st
    induction st with
    | nil => intro s l h1 h2; cases l with
      | nil => cases s with
        | nil => rfl
        | cons k s => simp at h2
      | cons p l => simp at h1
    | cons t ts ih => intro s l h1 h2; cases l with
      | nil => simp at h1
      | cons p l => cases s with
        | nil => simp at h2
        | cons k s =>
          have := ih s l (by simpa using h1) (by simpa using h2)
          rw [List.length_cons, List.range_succ_eq_map, List.map_cons, List.map_map]
          have e : (at4 (p :: l) (k :: s) ∘ Nat.succ) = at4 l s := by funext i; simp [at4]
          rw [e]
          show at4 (p :: l) (k :: s) 0 * t + dot ts ((List.range l.length).map (at4 l s)) = _
          rw [this, List.zip_cons_cons, List.map_cons, List.sum_cons]
          show (k + p.1) * t + _ = t * p.1 + _ + (k * t + dot ts s)
          rw [Int.add_mul, Int.mul_comm t]; omega
  rw [this st s l h1 h2]; omega
end Tg
namespace Tg
set_option maxHeartbeats 1000000
theorem dot_stride : ∀ {sh st mul s : List Int}, sh.length = st.length → sh.length = mul.length → s.length = sh.length → (∀ m ∈ mul, m ≠ 0) →
    dot st ((List.range sh.length).map (at5 sh mul s)) = (((sh.zip (st.zip mul)).filter fun p => decide (p.2.2 < 0)).map fun p => (p.1 - 1) * p.2.1).sum + dot ((st.zip mul).map fun p => p.1 * p.2) s
  | [], [], [], [], _, _, _, _ => rfl
  | x :: sh, t :: st, m :: mul, k :: s, h1, h2, h3, h4 => by
    have ih := dot_stride (sh := sh) (st := st) (mul := mul) (s := s) (by simpa using h1) (by simpa using h2) (by simpa using h3) fun y hy => h4 y (.tail _ hy)
    have hm := h4 m (.head _)
    rw [List.length_cons, List.range_succ_eq_map, List.map_cons, List.map_map]
    have e : (at5 (x :: sh) (m :: mul) (k :: s) ∘ Nat.succ) = at5 sh mul s := by funext i; simp [at5]
    rw [e]
    show at5 (x :: sh) (m :: mul) (k :: s) 0 * t + dot st ((List.range sh.length).map (at5 sh mul s)) = _
    rw [ih, List.zip_cons_cons, List.zip_cons_cons, List.filter_cons, List.map_cons]
    have e0 : at5 (x :: sh) (m :: mul) (k :: s) 0 = if 0 < m then k * m else x - 1 + k * m := by simp [at5]
    rw [e0]
    by_cases q : 0 < m
    · rw [if_pos q, if_neg (by simp; omega)]
      show _ = _ + (k * (t * m) + dot _ s)
      rw [show k * m * t = k * (t * m) by rw [Int.mul_assoc, Int.mul_comm m t]]; omega
    · rw [if_neg q, if_pos (by simp; omega), List.map_cons, List.sum_cons]
      show _ = (x - 1) * t + _ + (k * (t * m) + dot _ s)
      rw [Int.add_mul (x - 1), show k * m * t = k * (t * m) by rw [Int.mul_assoc, Int.mul_comm m t]]; omega
theorem dot_sum : ∀ {st s : List Int}, s.length = st.length → dot st s = ((List.range st.length).map fun i => s.getD i 0 * st.getD i 0).sum
  | [], [], _ => rfl
  | t :: st, k :: s, h => by
    rw [List.length_cons, List.range_succ_eq_map, List.map_cons, List.map_map, List.sum_cons]
    show k * t + dot st s = _
    rw [dot_sum (by simpa using h)]
    simp [Function.comp_def]
  | [], _ :: _, h => by simp at h
  | _ :: _, [], h => by simp at h
theorem perm_sum {l m : List Int} (h : l.Perm m) : l.sum = m.sum := by
  induction h with
  | nil => rfl
  | cons x _ ih => rw [List.sum_cons, List.sum_cons, ih]
  | swap x y l => simp only [List.sum_cons]; omega
  | trans _ _ a b => exact a.trans b
theorem dot_permute {st s : List Int} {ax : List Nat} (hp : ax.Perm (List.range st.length)) (hs : s.length = st.length) : dot st ((List.range st.length).map (at1 ax s)) = dot (pick st ax) s := by
  have hlen : ax.length = st.length := by simpa using hp.length_eq
  have hnd : ax.Nodup := hp.nodup_iff.mpr List.nodup_range
  rw [dot_sum (by simp), dot_sum (by simp [hs, hlen])]
  have e1 : ((List.range st.length).map fun i => ((List.range st.length).map (at1 ax s)).getD i 0 * st.getD i 0) = (List.range st.length).map fun i => at1 ax s i * st.getD i 0 :=
    List.map_congr_left fun i hi => by rw [map_range_getD (List.mem_range.mp hi)]
  have e2 : ((List.range (pick st ax).length).map fun i => s.getD i 0 * (pick st ax).getD i 0) = ax.map fun a => at1 ax s a * st.getD a 0 := by
    refine List.ext_getElem (by simp) fun i h1 h2 => ?_
    have hi : i < ax.length := by simpa using h2
    simp only [List.getElem_map, List.getElem_range]
    unfold at1
    rw [hnd.idxOf_getElem i hi]
    congr 1
    simp [List.getD, hi]
  rw [e1, e2]
  exact (perm_sum (hp.map fun a => at1 ax s a * st.getD a 0)).symm
end Tg
namespace Tg
set_option maxHeartbeats 1000000
structure Pg (g : LS) : Prop where
  sides : ∀ x ∈ g.sh, 0 < x
  small : prodI g.sh ≤ 16
  len : g.sh.length ≤ 4
  st : g.sh.length = g.st.length
  row : (spotsL g.sh).map (tell g.st g.off) = g.cells
  cc : g.c = okB g.off g.st g.sh
  can : Can g.sh g.st
  bd : ∀ x ∈ g.cells, 0 ≤ x ∧ x < 12
variable {g : LS}
theorem Pg.sd (h : Pg g) : Sides g.sh := ⟨h.sides, by have := h.small; omega⟩
theorem Pg.cl (h : Pg g) : (g.cells.length : Int) = prodI g.sh := by rw [← h.row, List.length_map]; exact spots_len h.sd
theorem Pg.ok (h : Pg g) : LOk g := ⟨h.sd, by have := h.len; omega, h.st, h.cl, h.row⟩
theorem Pg.put (h : Pg g) {sh' st' : List Int} {off' : Int} (at' : List Int → Nat → Int) (hs : ∀ x ∈ sh', 0 < x) (hsm : prodI sh' ≤ 16) (hlen : sh'.length ≤ 4) (hst : sh'.length = st'.length)
    (hat : ∀ s ∈ spotsL sh', ∀ k < g.sh.length, 0 ≤ at' s k ∧ at' s k < g.sh.getD k 0) (htell : ∀ s ∈ spotsL sh', tell g.st g.off ((List.range g.sh.length).map (at' s)) = tell st' off' s) :
    Pg ⟨sh', canonL sh' st', off', okB off' (canonL sh' st') sh', (spotsL sh').map fun s => g.cells.getD (horn g.sh (at' s)).toNat 0⟩ := by
  have hc := h.cl
  have e : ∀ s ∈ spotsL sh', g.cells.getD (horn g.sh (at' s)).toNat 0 = tell (canonL sh' st') off' s := fun s hs' => by
    rw [cell_of h.sides h.st h.row (hat s hs'), htell s hs', tell_dot, tell_dot, dot_canon (inR_of (spots_in hs'))]
  refine ⟨hs, hsm, hlen, by rw [canonL_length hst], ?_, rfl, can_canon, fun x hx => ?_⟩
  · exact (List.map_congr_left e).symm
  · obtain ⟨s, hs', rfl⟩ := List.mem_map.mp hx
    obtain ⟨b1, b2⟩ := horn_lt (hat s hs') h.sd
    have hi : (horn g.sh (at' s)).toNat < g.cells.length := by omega
    exact h.bd _ (by rw [List.getD, List.getElem?_eq_getElem hi]; exact List.getElem_mem hi)
end Tg
namespace Tg
set_option maxHeartbeats 1000000
theorem zero_at : ∀ {sh st : List Int}, sh.length = st.length → (∀ x ∈ sh, 0 < x) → ∃ s, InR sh s ∧ dot st s = 0
  | [], [], _, _ => ⟨[], trivial, rfl⟩
  | x :: l, t :: ts, h, hp => by
    obtain ⟨s, h1, h2⟩ := zero_at (sh := l) (st := ts) (by simpa using h) fun y hy => hp y (.tail _ hy)
    exact ⟨0 :: s, ⟨⟨by omega, hp x (.head _)⟩, h1⟩, by show 0 * t + dot ts s = 0; rw [h2]; simp⟩
  | [], _ :: _, h, _ => by simp at h
  | _ :: _, [], h, _ => by simp at h
theorem unit_at : ∀ {sh st : List Int} {t : Int}, sh.length = st.length → (∀ x ∈ sh, 0 < x) → Can sh st → t ∈ st → t = 0 ∨ ∃ s, InR sh s ∧ dot st s = t
  | x :: l, u :: ts, t, h, hp, hc, hm => by
    have hp' : ∀ y ∈ l, 0 < y := fun y hy => hp y (.tail _ hy)
    rcases List.mem_cons.mp hm with rfl | hm
    · by_cases q : x = 1
      · exact .inl (hc.cons.1 q)
      · obtain ⟨s, h1, h2⟩ := zero_at (sh := l) (st := ts) (by simpa using h) hp'
        have := hp x (.head _)
        exact .inr ⟨1 :: s, ⟨⟨by omega, by omega⟩, h1⟩, by show 1 * t + dot ts s = t; rw [h2]; omega⟩
    · rcases unit_at (sh := l) (st := ts) (by simpa using h) hp' hc.cons.2 hm with q | ⟨s, h1, h2⟩
      · exact .inl q
      · exact .inr ⟨0 :: s, ⟨⟨by omega, hp x (.head _)⟩, h1⟩, by show 0 * u + dot ts s = t; rw [h2]; omega⟩
  | [], [], _, _, _, _, hm => by cases hm
  | [], _ :: _, _, h, _, _, _ => by simp at h
  | _ :: _, [], _, h, _, _, _ => by simp at h
variable {g : LS}
theorem Pg.mem (h : Pg g) {s : List Int} (hs : InR g.sh s) : 0 ≤ g.off + dot g.st s ∧ g.off + dot g.st s < 12 := by
  have := cells_at (off := g.off) h.st h.sides hs
  rw [← cells_eq _ _ _ h.st, ← spots_eq, h.row, tell_dot] at this
  exact h.bd _ (List.mem_of_getElem? this)
theorem Pg.steps (h : Pg g) : ∀ t ∈ g.st, t.natAbs ≤ 11 := fun t ht => by
  rcases unit_at h.st h.sides h.can ht with rfl | ⟨s, h1, h2⟩
  · decide
  · obtain ⟨z, h3, h4⟩ := zero_at h.st h.sides
    have a := h.mem h1
    have b := h.mem h3
    rw [h2] at a
    rw [h4] at b
    omega
theorem small_abs {t : Int} (h : t.natAbs ≤ 1000) : small t = true := by
  unfold small; simp only [Bool.and_eq_true, decide_eq_true_eq]; constructor <;> omega
end Tg
namespace Tg
set_option maxHeartbeats 1000000
variable {B : Bs} (G : G2 B) {n : Nat} {g : LS} {number : Int}
theorem deed2 (h : Pg g) (hk : number.fmod 6 = 2) : ∃ g', Pg g' ∧ Deed G (n + 7) 16 g number g' := by
  have hl4 := h.len
  obtain ⟨nw, hn, ⟨hs, hsm⟩, hq, hd⟩ := s_deed2 G (n := n) (most := 16) h.sd (by omega) hk (by decide) h.small
  have hat : ∀ s ∈ spotsL nw, ∀ k < g.sh.length, 0 ≤ at2 g.sh nw s k ∧ at2 g.sh nw s k < g.sh.getD k 0 := fun s hs' k hk' => by
    have := (spots_in hs').2 k (by omega)
    unfold at2
    split
    · rename_i q; rw [q]; exact this
    · exact ⟨by decide, h.sides _ (getD_mem hk')⟩
  refine ⟨_, h.put (sh' := nw) (st' := g.st) (off' := g.off) (at2 g.sh nw) hs.1 hsm (by omega) (by rw [hn, h.st]) hat (fun s hs' => ?_), 2, tI nw, _, hd.le (by omega), s_do2 G pure_vw ((s_expand G (n := n + 1) h.sd hs (by omega) h.st hn.symm fun p hp => ?_)), .inr ⟨rfl, (s_done2 G (n := n) h.sd (by omega) h.cl hs hn).le (by omega)⟩⟩
  · rw [tell_expand h.can h.st hn hq (spots_in hs'), tell_dot, tell_dot, dot_canon (inR_of (spots_in hs'))]
  · obtain ⟨i, hi, he⟩ := List.getElem_of_mem hp
    rw [List.getElem_zip, List.getElem_zip] at he
    simp at hi
    have h1 := hq _ (zip_getD (d := 0) (l := g.sh) (m := nw) (k := i) (by omega) hn.symm)
    subst he
    dsimp only at h1 ⊢
    have hst := h.st
    simp only [List.getD, List.getElem?_eq_getElem (show i < g.sh.length by omega), List.getElem?_eq_getElem (show i < nw.length by omega), Option.getD_some] at h1
    rcases h1 with q | q
    · exact .inl q
    · right
      refine ⟨q, ?_⟩
      have := h.can.at hst (show i < g.sh.length by omega) (by simp only [List.getD, List.getElem?_eq_getElem (show i < g.sh.length by omega), Option.getD_some]; exact q)
      simpa only [List.getD, List.getElem?_eq_getElem (show i < g.st.length by omega), Option.getD_some] using this
end Tg
namespace Tg
set_option maxHeartbeats 1000000
theorem prod_le : ∀ {a b : List Int}, b.length = a.length → (∀ p ∈ a.zip b, 0 < p.2 ∧ p.2 ≤ p.1) → (prodI b ≤ prodI a ∧ 0 < prodI b) ∧ ∀ x ∈ b, 0 < x
  | [], [], _, _ => ⟨⟨Int.le_refl _, by decide⟩, fun _ h => nomatch h⟩
  | x :: a, y :: b, h, hp => by
    obtain ⟨⟨h1, h2⟩, h3⟩ := prod_le (a := a) (b := b) (by simpa using h) fun p hp' => hp p (by rw [List.zip_cons_cons]; exact .tail _ hp')
    have h4 := hp (x, y) (by rw [List.zip_cons_cons]; exact .head _)
    dsimp only at h4
    rw [prodI_cons, prodI_cons]
    refine ⟨⟨Int.le_trans (Int.mul_le_mul_of_nonneg_right h4.2 (Int.le_of_lt h2)) (Int.mul_le_mul_of_nonneg_left h1 (by omega)), Int.mul_pos h4.1 h2⟩, fun z hz => ?_⟩
    rcases List.mem_cons.mp hz with rfl | hz
    · exact h4.1
    · exact h3 z hz
  | [], _ :: _, h, _ => by simp at h
  | _ :: _, [], h, _ => by simp at h
theorem zip_map_mem {δ : Type} {f : δ → Int} {a : List Int} {l : List δ} {p : Int × Int} (h : p ∈ a.zip (l.map f)) : ∃ q ∈ a.zip l, p = (q.1, f q.2) := by
  rw [List.zip_map_right] at h
  obtain ⟨q, hq, rfl⟩ := List.mem_map.mp h
  exact ⟨q, hq, rfl⟩
variable {B : Bs} (G : G2 B) {n : Nat} {g : LS} {number : Int}
theorem deed4 (h : Pg g) (hk : number.fmod 6 = 4) : ∃ g', Pg g' ∧ Deed G (n + 7) 16 g number g' := by
  have hl4 := h.len
  have hst := h.st
  obtain ⟨l, hn, hin, hd⟩ := s_deed4 G (n := n) (most := 16) h.sd (by omega) hk
  obtain ⟨⟨p1, p2⟩, p3⟩ := prod_le (a := g.sh) (b := l.map fun p => p.2 - p.1) (by simp [hn]) fun p hp => by
    obtain ⟨q, hq, rfl⟩ := zip_map_mem hp
    have := hin q hq
    exact ⟨by dsimp only; omega, by dsimp only; omega⟩
  have hsm := h.small
  have hsd : Sides (l.map fun p => p.2 - p.1) := ⟨p3, by omega⟩
  have hat : ∀ s ∈ spotsL (l.map fun p => p.2 - p.1), ∀ k < g.sh.length, 0 ≤ at4 l s k ∧ at4 l s k < g.sh.getD k 0 := fun s hs' k hk' => by
    have h1 := (spots_in hs').2 k (by simp; omega)
    have h2 := hin _ (zip_getD (d := (0, 0)) hk' hn.symm)
    have e : (l.map fun p => p.2 - p.1).getD k 0 = (l.getD k (0, 0)).2 - (l.getD k (0, 0)).1 := by
      simp [List.getD, List.getElem?_eq_getElem (show k < l.length by omega)]
    rw [e] at h1
    unfold at4
    dsimp only at h2
    omega
  refine ⟨_, h.put (sh' := l.map fun p => p.2 - p.1) (st' := g.st) (off' := g.off + ((g.st.zip l).map fun p => p.1 * p.2.1).sum) (at4 l) p3 (by omega) (by simp; omega) (by simp; omega) hat (fun s hs' => ?_), 4, tP l, _, hd.le (by omega), s_do4 G pure_vw (s_shrink G (n := n) hsd (by omega) (by omega) hn (fun x hx => small_abs (by have := h.steps x hx; omega)) fun p hp => ⟨(hin p hp).1, Int.le_of_lt (hin p hp).2.1, (hin p hp).2.2⟩), .inr ⟨rfl, (s_done4 G (n := n) h.sd (by omega) h.cl hn hin hsd).le (by omega)⟩⟩
  have hsl := (spots_in hs').1
  simp at hsl
  rw [← hn]
  exact tell_shrink (by omega) (by omega)
end Tg
namespace Tg
set_option maxHeartbeats 1000000
variable {B : Bs} (G : G2 B) {n : Nat} {g : LS} {number : Int}
theorem deed1 (h : Pg g) (hk : number.fmod 6 = 1) : ∃ g', Pg g' ∧ Deed G (n + 7) 16 g number g' := by
  have hl4 := h.len
  have hst := h.st
  obtain ⟨ax, hp, hd⟩ := s_deed1 G (n := n) (sh := g.sh) (number := number) (most := 16) (b := .bool false) (by omega) hk
  have hlen : ax.length = g.sh.length := by simpa using hp.length_eq
  have hs := sides_pick h.sd hp
  have hprod : prodI (pick g.sh ax) = prodI g.sh := by
    have e : pick g.sh (List.range g.sh.length) = g.sh := by
      refine List.ext_getElem (by simp) fun i h1 h2 => ?_
      simp [List.getD, List.getElem?_eq_getElem h2]
    have hp' := hp.map fun a => g.sh.getD a 0
    rw [show (List.range g.sh.length).map (fun a => g.sh.getD a 0) = g.sh from e] at hp'
    exact hp'.foldl_eq' (fun x _ y _ z => by rw [Int.mul_assoc, Int.mul_comm x y, ← Int.mul_assoc]) 1
  have hsm := h.small
  have hat : ∀ s ∈ spotsL (pick g.sh ax), ∀ k < g.sh.length, 0 ≤ at1 ax s k ∧ at1 ax s k < g.sh.getD k 0 := fun s hs' k hk' => by
    have hm : k ∈ ax := hp.mem_iff.mpr (List.mem_range.mpr hk')
    have h1 := List.idxOf_lt_length_of_mem hm
    have := (spots_in hs').2 (ax.idxOf k) (by simpa using h1)
    have e : (pick g.sh ax).getD (ax.idxOf k) 0 = g.sh.getD k 0 := by
      unfold pick; rw [List.getD, List.getElem?_map, List.getElem?_eq_getElem h1, List.getElem_idxOf]; rfl
    rw [e] at this; exact this
  refine ⟨_, h.put (sh' := pick g.sh ax) (st' := pick g.st ax) (off' := g.off) (at1 ax) hs.1 (by omega) (by simp; omega) (by simp) hat (fun s hs' => ?_), 1, tI (nI ax), _, hd.le (by omega), s_do1 G pure_vw (s_permute G (n := n + 1) h.sd (by omega) hst hp), .inr ⟨rfl, (s_done1 G (n := n) h.sd (by omega) h.cl hp).le (by omega)⟩⟩
  have hsl := (spots_in hs').1
  simp at hsl
  rw [tell_dot, tell_dot]
  rw [hst] at hp ⊢
  rw [dot_permute hp (by omega)]
theorem deed5 (h : Pg g) (hk : number.fmod 6 = 5) : ∃ g', Pg g' ∧ Deed G (n + 7) 16 g number g' := by
  have hl4 := h.len
  have hst := h.st
  obtain ⟨mul, hn, hin, hd⟩ := s_deed5 G (n := n) (most := 16) h.sd (by omega) hk
  have hm : ∀ m ∈ mul, m ≠ 0 ∧ m.natAbs ≤ 3 := fun m hm => by
    have := hin m hm
    simp [stepsL] at this
    rcases this with rfl | rfl | rfl | rfl | rfl | rfl <;> decide
  have hnl : ((g.sh.zip mul).map fun p => ceilS p.1 p.2).length = g.sh.length := by simp; omega
  obtain ⟨⟨p1, p2⟩, p3⟩ := prod_le (a := g.sh) (b := (g.sh.zip mul).map fun p => ceilS p.1 p.2) hnl fun p hp => by
    obtain ⟨q, hq, rfl⟩ := zip_map_mem hp
    obtain ⟨i, hi, he⟩ := List.getElem_of_mem hq
    rw [List.getElem_zip, List.getElem_zip] at he
    subst he
    simp at hi
    obtain ⟨c1, c2, _⟩ := ceil_pos (h.sides g.sh[i] (List.getElem_mem _)) (hm mul[i] (List.getElem_mem _)).1
    exact ⟨c1, c2⟩
  have hsm := h.small
  have hsd : Sides ((g.sh.zip mul).map fun p => ceilS p.1 p.2) := ⟨p3, by omega⟩
  have hat : ∀ s ∈ spotsL ((g.sh.zip mul).map fun p => ceilS p.1 p.2), ∀ k < g.sh.length, 0 ≤ at5 g.sh mul s k ∧ at5 g.sh mul s k < g.sh.getD k 0 := fun spot hsp k hk => by
    have h1 := (spots_in hsp).2 k (by omega)
    have hk2 : k < mul.length := by omega
    have e : ((g.sh.zip mul).map fun p => ceilS p.1 p.2).getD k 0 = ceilS (g.sh.getD k 0) (mul.getD k 0) := by
      simp [List.getD, List.getElem?_eq_getElem hk, List.getElem?_eq_getElem hk2, List.getElem?_eq_getElem (show k < (g.sh.zip mul).length by simp; omega)]
    rw [e] at h1
    have hm0 := (hm _ (getD_mem hk2)).1
    obtain ⟨c1, c2, c3⟩ := ceil_pos (h.sides _ (getD_mem hk)) hm0
    have h4 : spot.getD k 0 * ((mul.getD k 0).natAbs : Int) ≤ (ceilS (g.sh.getD k 0) (mul.getD k 0) - 1) * ((mul.getD k 0).natAbs : Int) := Int.mul_le_mul_of_nonneg_right (by omega) (by omega)
    have h5 : 0 ≤ spot.getD k 0 * ((mul.getD k 0).natAbs : Int) := Int.mul_nonneg h1.1 (by omega)
    have h6 := Int.le_trans h4 c3
    unfold at5
    by_cases q : 0 < mul.getD k 0
    · rw [if_pos q]; rw [show ((mul.getD k 0).natAbs : Int) = mul.getD k 0 by omega] at h5 h6; omega
    · rw [if_neg q]; rw [show ((mul.getD k 0).natAbs : Int) = -mul.getD k 0 by omega, Int.mul_neg] at h5 h6; omega
  refine ⟨_, h.put (sh' := (g.sh.zip mul).map fun p => ceilS p.1 p.2) (st' := (g.st.zip mul).map fun p => p.1 * p.2) (off' := g.off + (((g.sh.zip (g.st.zip mul)).filter fun p => decide (p.2.2 < 0)).map fun p => (p.1 - 1) * p.2.1).sum) (at5 g.sh mul) p3 (by omega) (by omega) (by simp; omega) hat (fun s hs' => ?_), 5, tI mul, _, hd.le (by omega),
    s_do5 G pure_vw (s_stride G (n := n + 1) hsd (by omega) hst hn.symm (fun m hm' => ⟨(hm m hm').1, by have := (hm m hm').2; omega⟩) (fun x hx => small_abs (by have := h.steps x hx; omega)) fun x hx => small_of (by have := h.sides x hx; omega) (by have := side_le h.sd hx; omega)), .inr ⟨rfl, (s_done5 G (n := n) h.sd (by omega) h.cl hn.symm (fun m hm' => ⟨(hm m hm').1, by have := (hm m hm').2; omega⟩) hsd).le (by omega)⟩⟩
  have hsl := (spots_in hs').1
  rw [tell_dot, tell_dot, dot_stride hst hn.symm (by omega) fun m hm' => (hm m hm').1]; omega
end Tg
namespace Tg
set_option maxHeartbeats 1000000
noncomputable def pgB (g : LS) : Bool := (g.sh.all fun x => decide (0 < x)) && decide (prodI g.sh ≤ 16) && decide (g.sh.length ≤ 4) && decide (g.sh.length = g.st.length) && decide ((spotsL g.sh).map (tell g.st g.off) = g.cells) && (g.c == okB g.off g.st g.sh) && decide (canonL g.sh g.st = g.st) && (g.cells.all fun x => decide (0 ≤ x) && decide (x < 12))
theorem pg_of {g : LS} (h : pgB g = true) : Pg g := by
  unfold pgB at h
  simp only [Bool.and_eq_true, List.all_eq_true, decide_eq_true_eq, beq_iff_eq] at h
  obtain ⟨⟨⟨⟨⟨⟨⟨h1, h2⟩, h3⟩, h4⟩, h5⟩, h6⟩, h7⟩, h8⟩ := h
  exact ⟨h1, h2, h3, h4, h5, h6, h7, h8⟩
theorem starts_ok : ∀ s ∈ starts, Pg ⟨s, plainSt s, 0, true, rngS 0 1 (prodI s).toNat⟩ := fun s hs =>
  pg_of (List.all_eq_true.mp (show (starts.all fun s => pgB ⟨s, plainSt s, 0, true, rngS 0 1 (prodI s).toNat⟩) = true by decide +kernel) s hs)
end Tg
namespace Tg
set_option maxHeartbeats 1000000
theorem unhorn : ∀ {sh : List Int} {n : Int}, (∀ x ∈ sh, 0 < x) → 0 ≤ n → n < prodI sh → ∃ s, InR sh s ∧ hornR sh s = n
  | [], n, _, h1, h2 => ⟨[], trivial, by have : prodI [] = 1 := rfl; rw [this] at h2; show 0 = n; omega⟩
  | x :: l, n, hp, h1, h2 => by
    have hl := prodI_pos (l := l) fun y hy => hp y (.tail _ hy)
    rw [prodI_cons] at h2
    obtain ⟨s, q1, q2⟩ := unhorn (sh := l) (n := n % prodI l) (fun y hy => hp y (.tail _ hy)) (Int.emod_nonneg _ (by omega)) (Int.emod_lt_of_pos _ hl)
    refine ⟨n / prodI l :: s, ⟨⟨Int.ediv_nonneg h1 (Int.le_of_lt hl), Int.ediv_lt_of_lt_mul hl h2⟩, q1⟩, ?_⟩
    show n / prodI l * prodI l + hornR l s = n
    rw [q2, Int.mul_comm]; exact Int.mul_ediv_add_emod n (prodI l)
theorem cell_at {form st cells : List Int} {off : Int} {s : List Int} (hp : ∀ x ∈ form, 0 < x) (hl : form.length = st.length) (hc : (spotsL form).map (tell st off) = cells) (hs : InR form s) : cells.getD (hornR form s).toNat 0 = off + dot st s := by
  rw [← hc, spots_eq, cells_eq _ _ _ hl, List.getD, cells_at hl hp hs, tell_dot]; rfl
noncomputable def bump : Nat → List Int → List Int
  | 0, k :: s => (k + 1) :: s
  | i + 1, k :: s => k :: bump i s
  | _, [] => []
theorem bump_dot : ∀ {i : Nat} {st s : List Int}, s.length = st.length → i < st.length → dot st (bump i s) = dot st s + st.getD i 0
  | 0, t :: ts, k :: s, _, _ => by show (k + 1) * t + dot ts s = k * t + dot ts s + _; rw [Int.add_mul]; simp; omega
  | i + 1, t :: ts, k :: s, h, hi => by
    have := bump_dot (i := i) (st := ts) (s := s) (by simpa using h) (by simpa using hi)
    show k * t + dot ts (bump i s) = k * t + dot ts s + _
    rw [this]; simp; omega
theorem bump_in : ∀ {i : Nat} {sh s : List Int}, InR sh s → i < sh.length → s.getD i 0 + 1 < sh.getD i 0 → InR sh (bump i s) ∧ hornR sh (bump i s) = hornR sh s + prodI (sh.drop (i + 1))
  | 0, x :: l, k :: s, h, _, hk => by
    obtain ⟨⟨q1, q2⟩, q3⟩ := id h
    simp at hk
    exact ⟨⟨⟨by omega, hk⟩, q3⟩, by show (k + 1) * prodI l + hornR l s = k * prodI l + hornR l s + prodI l; rw [Int.add_mul]; omega⟩
  | i + 1, x :: l, k :: s, h, hi, hk => by
    obtain ⟨h1, h2⟩ := bump_in (i := i) h.2 (by simpa using hi) (by simpa using hk)
    exact ⟨⟨h.1, h1⟩, by show k * prodI l + hornR l (bump i s) = k * prodI l + hornR l s + prodI (l.drop (i + 1)); rw [h2]; omega⟩
theorem digit : ∀ {i : Nat} {sh s : List Int}, (∀ x ∈ sh, 0 < x) → InR sh s → i < sh.length → ((hornR sh s).fdiv (prodI (sh.drop (i + 1)))).fmod (sh.getD i 0) = s.getD i 0
  | 0, x :: l, k :: s, hp, h, _ => by
    obtain ⟨⟨q1, q2⟩, q3⟩ := id h
    have hl := prodI_pos (l := l) fun y hy => hp y (.tail _ hy)
    obtain ⟨h1, h2⟩ := hornR_lt q3 fun y hy => hp y (.tail _ hy)
    show ((k * prodI l + hornR l s).fdiv (prodI l)).fmod x = k
    rw [Int.fdiv_eq_ediv_of_nonneg _ (Int.le_of_lt hl), Int.add_comm, Int.add_mul_ediv_right _ _ (by omega), Int.ediv_eq_zero_of_lt h1 h2, Int.zero_add, Int.fmod_eq_emod_of_nonneg _ (by omega), Int.emod_eq_of_lt q1 q2]
  | i + 1, x :: l, k :: s, hp, h, hi => by
    have hp' : ∀ y ∈ l, 0 < y := fun y hy => hp y (.tail _ hy)
    have ih := digit (i := i) hp' h.2 (by simpa using hi)
    have hi' : i < l.length := by simpa using hi
    have hP : 0 < prodI (l.drop (i + 1)) := prodI_pos fun y hy => hp' y (List.mem_of_mem_drop hy)
    have hx : 0 < l.getD i 0 := hp' _ (getD_mem hi')
    have e : prodI l = (prodI (l.take i) * l.getD i 0) * prodI (l.drop (i + 1)) := by
      rw [but_prod hi', prodI_append, Int.mul_assoc, Int.mul_assoc, Int.mul_comm (l.getD i 0)]
    show ((k * prodI l + hornR l s).fdiv (prodI (l.drop (i + 1)))).fmod ((x :: l).getD (i + 1) 0) = (k :: s).getD (i + 1) 0
    simp only [List.getD_cons_succ]
    rw [← ih, Int.fdiv_eq_ediv_of_nonneg _ (Int.le_of_lt hP), Int.fdiv_eq_ediv_of_nonneg _ (Int.le_of_lt hP), e, ← Int.mul_assoc, Int.add_comm, Int.add_mul_ediv_right _ _ (by omega), ← Int.mul_assoc, Int.fmod_eq_emod_of_nonneg _ (by omega), Int.fmod_eq_emod_of_nonneg _ (by omega), Int.add_mul_emod_self_right]
end Tg
namespace Tg
set_option maxHeartbeats 1000000
theorem same_of {l : List Int} {c : Int} (h : ∀ x ∈ l, x = c) : sameF l = true := by
  unfold sameF
  rw [decide_eq_true_eq]
  refine (List.filter_eq_self.mpr fun x hx => ?_).symm
  cases l with
  | nil => cases hx
  | cons y l =>
    have h1 := h y (.head _)
    have h2 := h x hx
    simp [h1, h2]
theorem same_inv {l : List Int} (h : sameF l = true) : ∀ x ∈ l, ∀ y ∈ l, x = y := by
  unfold sameF at h
  rw [decide_eq_true_eq] at h
  have : ∀ x ∈ l, x = l.getD 0 0 := fun x hx => by
    rw [h] at hx
    have := (List.mem_filter.mp hx).2
    simpa using this
  exact fun x hx y hy => (this x hx).trans (this y hy).symm
theorem fold_and {f : Int → Bool} : ∀ (l : List Int) (e : Bool), l.foldl (fun e k => e && f k) e = (e && l.all f)
  | [], e => by simp
  | k :: l, e => by rw [List.foldl_cons, fold_and l]; simp [Bool.and_assoc]
theorem even_eq (cells form : List Int) : evenF cells form = (rngL 0 form.length).all fun k => sameF (stepsF cells form k.toNat) := by
  unfold evenF; rw [fold_and]; simp
theorem inR_len : ∀ {sh s : List Int}, InR sh s → s.length = sh.length
  | [], [], _ => rfl
  | _ :: _, _ :: _, h => by simp [inR_len h.2]
theorem step_mem {form st cells : List Int} {off : Int} {i : Nat} (hp : ∀ x ∈ form, 0 < x) (hl : form.length = st.length) (hc : (spotsL form).map (tell st off) = cells) (hlen : (cells.length : Int) = prodI form) (hi : i < form.length) : ∀ x ∈ stepsF cells form i, x = st.getD i 0 := fun x hx => by
  unfold stepsF at hx
  obtain ⟨k, hk, rfl⟩ := List.mem_map.mp hx
  obtain ⟨h1, h2⟩ := List.mem_filter.mp hk
  have h1 := rngL_mem.mp h1
  have hP : 0 < prodI (form.drop (i + 1)) := prodI_pos fun y hy => hp y (List.mem_of_mem_drop hy)
  obtain ⟨s, q1, q2⟩ := unhorn (sh := form) (n := k) hp h1.1 (by omega)
  have h2 := of_decide_eq_true h2
  rw [← q2, digit hp q1 hi] at h2
  obtain ⟨b1, b2⟩ := bump_in q1 hi h2
  have hsl : s.length = form.length := inR_len q1
  rw [← q2, ← b2, cell_at hp hl hc b1, cell_at hp hl hc q1, bump_dot (by omega) (by omega)]
  omega
theorem even_told {form st cells : List Int} {off : Int} (hp : ∀ x ∈ form, 0 < x) (hl : form.length = st.length) (hc : (spotsL form).map (tell st off) = cells) (hlen : (cells.length : Int) = prodI form) : evenF cells form = true := by
  rw [even_eq, List.all_eq_true]
  intro k hk
  have := rngL_mem.mp hk
  exact same_of (c := st.getD k.toNat 0) (step_mem hp hl hc hlen (by omega))
end Tg
namespace Tg
set_option maxHeartbeats 1000000
theorem raw_dot : ∀ {sh s : List Int}, InR sh s → dot (rawSt sh) s = hornR sh s
  | [], [], _ => rfl
  | x :: l, k :: s, h => by
    show k * prodI l + dot (rawSt l) s = k * prodI l + hornR l s
    rw [raw_dot h.2]
theorem plain_length (sh : List Int) : sh.length = (plainSt sh).length := by unfold plainSt; rw [canonL_length (rawSt_length sh).symm]
theorem rngL_get : ∀ {n i : Nat} {a : Int}, i < n → (rngL a n)[i]? = some (a + i)
  | n + 1, 0, a, _ => by simp [rngL]
  | n + 1, i + 1, a, h => by
    show (rngL (a + 1) n)[i]? = _
    rw [rngL_get (by omega)]; congr 1; omega
theorem plain_row {sh : List Int} (hp : ∀ x ∈ sh, 0 < x) : (spotsL sh).map (tell (plainSt sh) 0) = rngL 0 (prodI sh).toNat := by
  have hpos := prodI_pos hp
  have hl : ((spotsL sh).map (tell (plainSt sh) 0)).length = (prodI sh).toNat := by
    rw [spots_eq, cells_eq _ _ _ (plain_length sh), cellsR_length _ _ _ (plain_length sh) hp]
  refine List.ext_getElem? fun i => ?_
  rcases Nat.lt_or_ge i (prodI sh).toNat with q | q
  · obtain ⟨s, h1, h2⟩ := unhorn (sh := sh) (n := (i : Int)) hp (by omega) (by omega)
    have := cells_at (off := 0) (plain_length sh) hp h1
    rw [← cells_eq _ _ _ (plain_length sh), ← spots_eq, h2, tell_dot, show ((i : Int)).toNat = i by omega] at this
    rw [this, rngL_get q]
    congr 1
    unfold plainSt
    rw [dot_canon h1, raw_dot h1, h2]
  · rw [List.getElem?_eq_none (by omega), List.getElem?_eq_none (by rw [rngL_length]; exact q)]
end Tg
namespace Tg
set_option maxHeartbeats 1000000
variable {B : Bs} (G : G2 B) {n : Nat} {g : LS} {form : List Int}
noncomputable def RsOk (n : Nat) (g : LS) (form : List Int) : Prop := ∃ told, Fp B (n + 5) (.ref (G.ad "reshape")) [g.v (G.ad "View"), tI form] told ∧
  ((told = .none ∧ evenF g.cells form = false) ∨ ∃ st off c, told = vw (G.ad "View") form st off c ∧ Pg ⟨form, st, off, c, g.cells⟩)
theorem rs_same (h : Pg g) : RsOk G n g g.sh := ⟨_, s_reshape_same G, .inr ⟨g.st, g.off, g.c, rfl, h⟩⟩
theorem rs_row (h : Pg g) (hc : g.c = true) (hf : ∀ x ∈ form, 0 < x) (hp : prodI form = prodI g.sh) (hl : form.length ≤ 4) (hne : g.sh ≠ form) : RsOk G n g form := by
  have hcc := h.cc
  rw [hc] at hcc
  unfold okB at hcc
  have hcc := hcc.symm
  rw [Bool.and_eq_true, decide_eq_true_eq, decide_eq_true_eq] at hcc
  obtain ⟨h1, h2⟩ := hcc
  have hsm := h.small
  have hl4 := h.len
  have hfs : Sides form := ⟨hf, by omega⟩
  have hrow := h.row
  rw [h1, h2, plain_row h.sides, ← hp, ← plain_row hf] at hrow
  refine ⟨vw (G.ad "View") form (plainSt form) 0 true, ?_, .inr ⟨plainSt form, 0, true, rfl, ⟨hf, by show prodI form ≤ 16; omega, hl, plain_length form, hrow, ?_, can_canon, h.bd⟩⟩⟩
  · have := s_reshape_row G (n := n) (sh := g.sh) (st := g.st) (nw := form) (off := g.off) h.sd hfs (by omega) (by omega) hne hp.symm
    show Fp B (n + 5) _ [vw (G.ad "View") g.sh g.st g.off g.c, tI form] _
    rw [hc]; exact this
  · simp [okB]
end Tg
namespace Tg
set_option maxHeartbeats 1000000
variable {B : Bs} (G : G2 B) {n : Nat} {g : LS} {number : Int}
noncomputable def RsAll (n : Nat) (g : LS) : Prop := ∀ form : List Int, (∀ x ∈ form, 0 < x) → prodI form = prodI g.sh → form.length ≤ 4 → RsOk G n g form
theorem deed0 (h : Pg g) (hr : RsAll G (n + 1) g) (hk : number.fmod 6 = 0) : ∃ g', Pg g' ∧ Deed G (n + 7) 16 g number g' := by
  obtain ⟨f1, f2, f3⟩ := split_ok (prodI_pos h.sides) (number.fdiv 6)
  have hd := s_deed0 G (n := n) (most := 16) (b := .bool false) h.sd hk
  obtain ⟨told, h1, h2⟩ := hr _ f1 f2 f3
  generalize splitS (prodI g.sh) (number.fdiv 6) = form at hd h1 h2 f1
  rcases h2 with ⟨rfl, _⟩ | ⟨st, off, c, rfl, h3⟩
  · exact ⟨g, h, 0, tI form, .none, hd.le (by omega), s_do0 G pure_none h1, .inl ⟨rfl, rfl, rfl⟩⟩
  · exact ⟨_, h3, 0, tI form, _, hd.le (by omega), s_do0 G pure_vw h1, .inr ⟨rfl, (s_done0 G (n := n) (pure_lst pure_ints) pure_tI).le (by omega)⟩⟩
theorem deeds (h : Pg g) (hr : RsAll G (n + 1) g) (hk : number.fmod 6 ≠ 3) : ∃ g', Pg g' ∧ Deed G (n + 7) 16 g number g' := by
  have h1 := Int.fmod_nonneg_of_pos number (show (0 : Int) < 6 by decide)
  have h2 := Int.fmod_lt_of_pos number (show (0 : Int) < 6 by decide)
  rcases (by omega : number.fmod 6 = 0 ∨ number.fmod 6 = 1 ∨ number.fmod 6 = 2 ∨ number.fmod 6 = 4 ∨ number.fmod 6 = 5) with q | q | q | q | q
  · exact deed0 G h hr q
  · exact deed1 G h q
  · exact deed2 G h q
  · exact deed4 G h q
  · exact deed5 G h q
theorem law_of {l : List Int} (hl : l.length ≤ 63) (hr : ∀ n g, Pg g → RsAll G n g) : Fp B (n + 9) (.ref (G.ad "law")) [.lst (l.map .int)] (.bool true) :=
  s_law G (n := n + 2) (P := Pg) hl (fun g number h hk => deeds G h (hr _ g h) hk) (fun g h => h.ok) starts_ok fun g rest h => by
    obtain ⟨f1, f2, f3⟩ := split_ok (prodI_pos h.sides) rest
    obtain ⟨told, h1, h2⟩ := hr (n + 3) g h _ f1 f2 f3
    refine ⟨told, h1, h2.imp id fun ⟨st, off, c, e, h3⟩ => ⟨st, off, c, e, h3.st, even_told h3.sides h3.st h3.row h3.cl, h3.row⟩⟩
end Tg
namespace Tg
set_option maxHeartbeats 1000000
noncomputable def cellsP : List (Int × Int) → Int → List Int
  | [], off => [off]
  | p :: l, off => (rngL 0 p.1.toNat).flatMap fun k => cellsP l (off + k * p.2)
theorem cellsP_zip : ∀ (sh st : List Int) (off : Int), sh.length = st.length → cellsP (sh.zip st) off = cellsR sh st off
  | [], [], off, _ => rfl
  | x :: l, t :: ts, off, h => by
    rw [List.zip_cons_cons]
    show ((rngL 0 x.toNat).flatMap fun k => cellsP (l.zip ts) (off + k * t)) = (rngL 0 x.toNat).flatMap fun k => cellsR l ts (off + k * t)
    congr 1; funext k; exact cellsP_zip l ts _ (by simpa using h)
  | [], _ :: _, _, h => by simp at h
  | _ :: _, [], _, h => by simp at h
theorem cellsP_pre {l l' : List (Int × Int)} (h : ∀ off, cellsP l off = cellsP l' off) : ∀ (a : List (Int × Int)) (off : Int), cellsP (a ++ l) off = cellsP (a ++ l') off
  | [], off => h off
  | p :: a, off => by
    show ((rngL 0 p.1.toNat).flatMap fun k => cellsP (a ++ l) (off + k * p.2)) = (rngL 0 p.1.toNat).flatMap fun k => cellsP (a ++ l') (off + k * p.2)
    congr 1; funext k; exact cellsP_pre h a _
theorem cellsP_one {t : Int} {l : List (Int × Int)} {off : Int} : cellsP ((1, t) :: l) off = cellsP l off := by
  show ((rngL 0 1).flatMap fun k => cellsP l (off + k * t)) = _
  simp [rngL]
theorem rngL_app : ∀ (n m : Nat) (a : Int), rngL a (n + m) = rngL a n ++ rngL (a + n) m
  | 0, m, a => by simp [rngL]
  | n + 1, m, a => by
    rw [show n + 1 + m = (n + m) + 1 by omega]
    show a :: rngL (a + 1) (n + m) = a :: (rngL (a + 1) n ++ rngL (a + ((n + 1 : Nat) : Int)) m)
    rw [rngL_app n m (a + 1)]; congr 3; omega
theorem rngL_shift : ∀ (n : Nat) (a b : Int), rngL (b + a) n = (rngL a n).map (b + ·)
  | 0, _, _ => rfl
  | n + 1, a, b => by
    show (b + a) :: rngL (b + a + 1) n = (b + a) :: (rngL (a + 1) n).map (b + ·)
    rw [← rngL_shift n (a + 1) b]; congr 2; omega
theorem rngL_mul (s : Nat) : ∀ (m : Nat) (a : Int), rngL (a * s) (m * s) = (rngL a m).flatMap fun k => (rngL 0 s).map fun j : Int => k * (s : Int) + j
  | 0, a => by simp [rngL]
  | m + 1, a => by
    rw [show (m + 1) * s = s + m * s by rw [Nat.add_mul]; omega, rngL_app]
    show _ = ((rngL 0 s).map fun j : Int => a * (s : Int) + j) ++ (rngL (a + 1) m).flatMap fun k => (rngL 0 s).map fun j : Int => k * (s : Int) + j
    rw [← rngL_mul s m (a + 1), show (a + 1) * (s : Int) = a * s + s by rw [Int.add_mul, Int.one_mul], ← rngL_shift s 0 (a * s), Int.add_zero]
theorem cellsP_two {m s t : Int} {l : List (Int × Int)} (hm : 0 < m) (hs : 0 < s) (off : Int) : cellsP ((m, s * t) :: (s, t) :: l) off = cellsP ((m * s, t) :: l) off := by
  show ((rngL 0 m.toNat).flatMap fun k => (rngL 0 s.toNat).flatMap fun j => cellsP l (off + k * (s * t) + j * t)) = (rngL 0 (m * s).toNat).flatMap fun k => cellsP l (off + k * t)
  have h := rngL_mul s.toNat m.toNat 0
  rw [Int.zero_mul, ← Int.toNat_mul (by omega) (by omega)] at h
  rw [h, List.flatMap_assoc]
  congr 1; funext k
  rw [List.flatMap_map]
  congr 1; funext j
  congr 1
  rw [show ((s.toNat : Nat) : Int) = s by omega, Int.add_mul, Int.mul_assoc]; omega
end Tg
namespace Tg
set_option maxHeartbeats 1000000
noncomputable abbrev two (t : T3) : Int × Int := (t.1, t.2.1)
noncomputable abbrev MS.all (g : MS) : List T3 := g.pre ++ [g.last]
theorem mnext_cells {g : MS} {p : Int × Int} {rest : List (Int × Int)} (hp : 0 < p.1) (hl : 0 < g.last.1) (hm : g.mg = true → g.last.1 = 1) :
    (∀ off, cellsP ((mNext g p).all.map two ++ rest) off = cellsP (g.all.map two ++ p :: rest) off) ∧ 0 < (mNext g p).last.1 ∧ ((mNext g p).mg = true → (mNext g p).last.1 = 1) := by
  obtain ⟨s, t⟩ := p
  unfold mNext
  by_cases q1 : s = 1
  · rw [if_pos q1]
    subst q1
    exact ⟨fun off => cellsP_pre (fun off => cellsP_one.symm) _ off, hl, hm⟩
  · rw [if_neg q1]
    by_cases q2 : g.mg = true ∨ g.last.2.1 = s * t
    · rw [if_pos q2]
      refine ⟨fun off => ?_, Int.mul_pos hl hp, fun h => by cases h⟩
      simp only [MS.all, List.map_append, List.map_cons, List.map_nil, List.append_assoc, List.singleton_append]
      refine cellsP_pre (fun off => ?_) _ off
      by_cases q3 : g.mg = true
      · have e := hm q3
        show cellsP ((g.last.1 * s, t) :: rest) off = cellsP ((g.last.1, g.last.2.1) :: (s, t) :: rest) off
        rw [e, Int.one_mul, cellsP_one]
      · have e := q2.resolve_left q3
        show cellsP ((g.last.1 * s, t) :: rest) off = cellsP ((g.last.1, g.last.2.1) :: (s, t) :: rest) off
        rw [e, cellsP_two hl hp]
    · rw [if_neg q2]
      exact ⟨fun off => by simp [MS.all], hp, fun h => by cases h⟩
theorem fold_cells : ∀ (l : List (Int × Int)) (g : MS), (∀ p ∈ l, 0 < p.1) → 0 < g.last.1 → (g.mg = true → g.last.1 = 1) → ∀ off, cellsP ((l.foldl mNext g).all.map two) off = cellsP (g.all.map two ++ l) off
  | [], g, _, _, _, off => by simp
  | p :: l, g, hp, hl, hm, off => by
    obtain ⟨h1, h2, h3⟩ := mnext_cells (g := g) (p := p) (rest := l) (hp p (.head _)) hl hm
    rw [List.foldl_cons, fold_cells l _ (fun q hq => hp q (.tail _ hq)) h2 h3, h1]
theorem merge_cells {sh st : List Int} (hp : ∀ x ∈ sh, 0 < x) (hl : sh.length = st.length) (off : Int) : cellsP ((merge sh st).map two) off = cellsR sh st off := by
  cases sh with
  | nil => cases st with
    | nil => rfl
    | cons _ _ => simp at hl
  | cons s sh => cases st with
    | nil => simp at hl
    | cons t st =>
      rw [← cellsP_zip _ _ _ hl]
      show cellsP (((sh.zip st).foldl mNext ⟨[], (s, t, nz t s), s == 1⟩).all.map two) off = _
      rw [fold_cells _ _ (fun p hp' => hp _ (.tail _ (List.of_mem_zip hp').1)) (hp s (.head _)) (fun h => by simpa using h)]
      rfl
end Tg
namespace Tg
set_option maxHeartbeats 1000000
noncomputable def AdjR : List T3 → Prop
  | v :: u :: l => u.2.1 ≠ v.1 * v.2.1 ∧ AdjR (u :: l)
  | _ => True
structure MInv (g : MS) : Prop where
  adj : AdjR (g.last :: g.pre.reverse)
  big : ∀ t ∈ g.pre, 1 < t.1
  pos : 0 < g.last.1
  mg : g.mg = true → g.last.1 = 1 ∧ g.pre = []
  nb : g.mg = false → 1 < g.last.1
  real : ∀ t ∈ g.all, t.2.2 = nz t.2.1 t.1
theorem mnext_inv {g : MS} {p : Int × Int} (hp : 0 < p.1) (h : MInv g) : MInv (mNext g p) := by
  obtain ⟨s, t⟩ := p
  unfold mNext
  by_cases q1 : s = 1
  · rw [if_pos q1]; exact h
  · rw [if_neg q1]
    have hs : 1 < s := by dsimp only at hp; omega
    have hb : ∀ x ∈ g.pre, x.2.2 = nz x.2.1 x.1 := fun x hx => h.real x (List.mem_append_left _ hx)
    have hlr := h.real g.last (by simp [MS.all])
    by_cases q2 : g.mg = true ∨ g.last.2.1 = s * t
    · rw [if_pos q2]
      have hms : 1 < g.last.1 * s := by
        have := Int.mul_le_mul_of_nonneg_right (c := s) (show 1 ≤ g.last.1 from h.pos) (by omega)
        omega
      refine ⟨?_, h.big, by dsimp only; omega, fun q => (by cases q), fun _ => hms, fun x hx => ?_⟩
      · dsimp only
        cases hpre : g.pre.reverse with
        | nil => trivial
        | cons u l =>
          have ha := h.adj
          rw [hpre] at ha
          refine ⟨?_, ha.2⟩
          by_cases q3 : g.mg = true
          · rw [(h.mg q3).2] at hpre; cases hpre
          · have e := q2.resolve_left q3
            have := ha.1
            rw [e, ← Int.mul_assoc] at this
            exact this
      · rcases List.mem_append.mp hx with hx | hx
        · exact hb x hx
        · rw [List.mem_singleton.mp hx]
          dsimp only
          unfold nz
          by_cases q4 : t = 0
          · rw [if_pos q4, if_pos q4]
          · rw [if_neg q4, if_neg q4]
            by_cases q3 : g.mg = true
            · rw [if_pos q3, (h.mg q3).1, Int.one_mul]
            · rw [if_neg q3, hlr]
              have e := q2.resolve_left q3
              unfold nz
              rw [if_neg (by rw [e]; exact Int.mul_ne_zero (by omega) q4)]
    · rw [if_neg q2]
      have q3 : g.mg = false := by cases hg : g.mg <;> simp_all
      refine ⟨?_, fun x hx => ?_, by dsimp only; omega, fun q => (by cases q), fun _ => hs, fun x hx => ?_⟩
      · simp only [List.reverse_append, List.reverse_cons, List.reverse_nil, List.nil_append, List.singleton_append]
        exact ⟨fun q => q2 (.inr q), h.adj⟩
      · rcases List.mem_append.mp hx with hx | hx
        · exact h.big x hx
        · rw [List.mem_singleton.mp hx]; exact h.nb q3
      · rcases List.mem_append.mp hx with hx | hx
        · rcases List.mem_append.mp hx with hx | hx
          · exact hb x hx
          · rw [List.mem_singleton.mp hx]; exact hlr
        · rw [List.mem_singleton.mp hx]
end Tg
namespace Tg
set_option maxHeartbeats 1000000
theorem cellsP_app : ∀ (a b : List (Int × Int)) (off : Int), cellsP (a ++ b) off = (cellsP a off).flatMap (cellsP b)
  | [], b, off => by simp [cellsP]
  | p :: a, b, off => by
    show ((rngL 0 p.1.toNat).flatMap fun k => cellsP (a ++ b) (off + k * p.2)) = ((rngL 0 p.1.toNat).flatMap fun k => cellsP a (off + k * p.2)).flatMap (cellsP b)
    rw [List.flatMap_assoc]
    congr 1; funext k; exact cellsP_app a b _
noncomputable def rs (t : Int) : Int → List Int → List Int
  | _, [] => []
  | acc, d :: r => acc * t :: rs t (acc * d) r
theorem rs_length {t : Int} : ∀ (r : List Int) (acc : Int), (rs t acc r).length = r.length
  | [], _ => rfl
  | d :: r, acc => by simp [rs, rs_length r]
theorem rs_cells {t : Int} : ∀ (r : List Int) (acc : Int) (off : Int), (∀ x ∈ r, 0 < x) → cellsP (r.zip (rs t acc r)).reverse off = cellsP [(prodI r, acc * t)] off
  | [], acc, off, _ => (cellsP_one (l := [])).symm
  | d :: r, acc, off, h => by
    have hr : ∀ x ∈ r, 0 < x := fun x hx => h x (.tail _ hx)
    show cellsP ((d, acc * t) :: r.zip (rs t (acc * d) r)).reverse off = _
    rw [List.reverse_cons, cellsP_app, rs_cells r (acc * d) off hr, ← cellsP_app]
    show cellsP ((prodI r, acc * d * t) :: (d, acc * t) :: []) off = _
    rw [show acc * d * t = d * (acc * t) by rw [Int.mul_comm acc d, Int.mul_assoc], cellsP_two (prodI_pos hr) (h d (.head _)), prodI_cons, Int.mul_comm]
theorem cut_split {m t : Int} : ∀ (r : List Int) (acc ns : Int) (S : List Int), 0 < acc → (∀ x ∈ r, 0 < x) → (acc < m → ns = acc * t) →
    ∃ r1 r2, r = r1 ++ r2 ∧ cut m (nz t m) acc ns S r = (acc * prodI r1, S ++ rs t acc r1, r2) ∧ (acc * prodI r1 < m → r2 = []) ∧ (acc ≤ m → m < acc * prodI r1 → ∃ r0 d, r1 = r0 ++ [d] ∧ acc * prodI r0 < m)
  | [], acc, ns, S, ha, _, hn => ⟨[], [], rfl, by simp [cut, rs, prodI], fun _ => rfl, fun h1 h2 => by have : prodI [] = 1 := rfl; rw [this] at h2; omega⟩
  | d :: r, acc, ns, S, ha, hr, hn => by
    unfold cut
    by_cases q : acc < m
    · rw [if_pos q]
      have hd := hr d (.head _)
      have hm : 0 < m := by omega
      have hn' : acc * d < m → (if d = 1 then ns else ns * (if acc * d < nz t m then d else 0)) = acc * d * t := fun q' => by
        rw [hn q]
        by_cases q1 : d = 1
        · rw [if_pos q1, q1, Int.mul_one]
        · rw [if_neg q1]
          unfold nz
          by_cases q2 : t = 0
          · rw [q2]; simp
          · rw [if_neg q2, if_pos q', Int.mul_assoc, Int.mul_comm t d, Int.mul_assoc]
      obtain ⟨r1, r2, e, h1, h2, h3⟩ := cut_split (m := m) (t := t) r (acc * d) _ (S ++ [ns]) (Int.mul_pos ha hd) (fun x hx => hr x (.tail _ hx)) hn'
      refine ⟨d :: r1, r2, by rw [e]; rfl, ?_, ?_, fun _ h => ?_⟩
      · rw [h1, prodI_cons, Int.mul_assoc]
        show _ = (_, S ++ (acc * t :: rs t (acc * d) r1), r2)
        rw [hn q]; simp
      · rw [prodI_cons, ← Int.mul_assoc]; exact h2
      · rw [prodI_cons, ← Int.mul_assoc] at h
        by_cases q3 : acc * d ≤ m
        · obtain ⟨r0, x, e1, h4⟩ := h3 q3 h
          exact ⟨d :: r0, x, by rw [e1]; rfl, by rw [prodI_cons, ← Int.mul_assoc]; exact h4⟩
        · cases r1 with
          | nil => exact ⟨[], d, rfl, by show acc * 1 < m; omega⟩
          | cons y r1 =>
            exfalso
            have : ∀ r, (cut m (nz t m) (acc * d) (if d = 1 then ns else ns * (if acc * d < nz t m then d else 0)) (S ++ [ns]) r) = (acc * d, S ++ [ns], r) := cut_stop (by omega)
            rw [this] at h1
            have := congrArg (fun x => x.2.1.length) h1
            simp [rs] at this
    · rw [if_neg q]
      exact ⟨[], d :: r, rfl, by simp [rs, prodI], fun h => by have : prodI [] = 1 := rfl; rw [this] at h; omega, fun _ h2 => by have : prodI [] = 1 := rfl; rw [this] at h2; omega⟩
end Tg
namespace Tg
set_option maxHeartbeats 1000000
theorem zip_rev {r z : List Int} (h : r.length = z.length) : (r.zip z).reverse = r.reverse.zip z.reverse := by
  rw [List.zip_eq_zipWith, List.zip_eq_zipWith]; exact List.reverse_zipWith h
theorem ones_cells : ∀ {r z : List Int} {off : Int}, r.length = z.length → (∀ x ∈ r, x = 1) → cellsP (r.zip z) off = [off]
  | [], _, _, _, _ => rfl
  | _ :: _, [], _, h, _ => by simp at h
  | x :: r, y :: z, off, h, hr => by
    rw [List.zip_cons_cons, hr x (.head _), cellsP_one]
    exact ones_cells (by simpa using h) fun y hy => hr y (.tail _ hy)
theorem ones_of : ∀ {r : List Int}, (∀ x ∈ r, 0 < x) → prodI r = 1 → ∀ x ∈ r, x = 1
  | [], _, _, _, hx => by cases hx
  | d :: r, h, hp, x, hx => by
    have hr : ∀ x ∈ r, 0 < x := fun x hx => h x (.tail _ hx)
    have h1 := h d (.head _)
    have h2 := prodI_pos hr
    rw [prodI_cons] at hp
    have a := le_mul_one h1 h2
    have b := le_mul_one h2 h1
    rw [Int.mul_comm] at b
    rcases List.mem_cons.mp hx with rfl | hx
    · omega
    · exact ones_of hr (by omega) x hx
theorem cuts_cells : ∀ (gs : List T3) (S0 r S : List Int), (∀ t ∈ gs, 0 < t.1 ∧ t.2.2 = nz t.2.1 t.1) → (∀ x ∈ r, 0 < x) → prodI r = prodI (gs.map (·.1)) → cuts gs S0 r = some S →
    ∃ S', S = S0 ++ S' ∧ S'.length ≤ r.length ∧ ∀ z : List Int, S'.length + z.length = r.length → ∀ off, cellsP (r.zip (S' ++ z)).reverse off = cellsP (gs.map two).reverse off
  | [], S0, r, S, _, hr, hp, h => by
    cases h
    refine ⟨[], by simp, by simp, fun z hz off => ?_⟩
    have h1 := ones_of hr hp
    have hz' : r.length = z.length := by simpa using hz.symm
    rw [List.nil_append]
    rw [zip_rev hz']
    exact ones_cells (by simpa using hz') fun x hx => h1 x (List.mem_reverse.mp hx)
  | t :: gs, S0, r, S, hg, hr, hp, h => by
    obtain ⟨t1, t2⟩ := hg t (.head _)
    obtain ⟨r1, r2, e, h1, h2, h3⟩ := cut_split (m := t.1) (t := t.2.1) r 1 t.2.1 S0 (by decide) hr (fun _ => (Int.one_mul _).symm)
    unfold cuts at h
    dsimp only at h
    rw [t2, h1] at h
    simp only [Int.one_mul] at h
    by_cases q : prodI r1 = t.1
    · rw [if_pos q] at h
      subst e
      have hr1 : ∀ x ∈ r1, 0 < x := fun x hx => hr x (List.mem_append_left _ hx)
      have hr2 : ∀ x ∈ r2, 0 < x := fun x hx => hr x (List.mem_append_right _ hx)
      have hp2 : prodI r2 = prodI (gs.map (·.1)) := by
        rw [prodI_append, List.map_cons, prodI_cons, q] at hp
        exact Int.eq_of_mul_eq_mul_left (by omega) hp
      obtain ⟨S', e1, h4, h5⟩ := cuts_cells gs _ r2 S (fun x hx => hg x (.tail _ hx)) hr2 hp2 h
      have hl := rs_length (t := t.2.1) r1 1
      refine ⟨rs t.2.1 1 r1 ++ S', by rw [e1, List.append_assoc], by simp; omega, fun z hz off => ?_⟩
      rw [List.append_assoc, List.zip_append hl.symm, List.reverse_append, cellsP_app, h5 z (by simp at hz; omega) off, List.map_cons, List.reverse_cons, cellsP_app]
      congr 1; funext o
      rw [rs_cells r1 1 o hr1, q, Int.one_mul]
    · rw [if_neg q] at h; cases h
theorem cuts_strad : ∀ (gs : List T3) (S0 r : List Int), (∀ t ∈ gs, 0 < t.1 ∧ t.2.2 = nz t.2.1 t.1) → (∀ x ∈ r, 0 < x) → prodI r = prodI (gs.map (·.1)) → cuts gs S0 r = none →
    ∃ g0 t g1 r0 d r' a, gs = g0 ++ t :: g1 ∧ r = r0 ++ d :: r' ∧ prodI r0 = prodI (g0.map (·.1)) * a ∧ 0 < a ∧ a < t.1 ∧ t.1 < a * d
  | [], S0, r, _, _, _, h => by cases h
  | t :: gs, S0, r, hg, hr, hp, h => by
    obtain ⟨t1, t2⟩ := hg t (.head _)
    obtain ⟨r1, r2, e, h1, h2, h3⟩ := cut_split (m := t.1) (t := t.2.1) r 1 t.2.1 S0 (by decide) hr (fun _ => (Int.one_mul _).symm)
    unfold cuts at h
    dsimp only at h
    rw [t2, h1] at h
    simp only [Int.one_mul] at h h2 h3
    subst e
    have hr1 : ∀ x ∈ r1, 0 < x := fun x hx => hr x (List.mem_append_left _ hx)
    have hr2 : ∀ x ∈ r2, 0 < x := fun x hx => hr x (List.mem_append_right _ hx)
    have hgp : 0 < prodI (gs.map (·.1)) := prodI_pos fun x hx => by obtain ⟨u, hu, rfl⟩ := List.mem_map.mp hx; exact (hg u (.tail _ hu)).1
    rw [prodI_append, List.map_cons, prodI_cons] at hp
    by_cases q : prodI r1 = t.1
    · rw [if_pos q] at h
      have hp2 : prodI r2 = prodI (gs.map (·.1)) := by
        rw [q] at hp
        exact Int.eq_of_mul_eq_mul_left (by omega) hp
      obtain ⟨g0, u, g1, r0, d, r', a, e1, e2, e3, h4⟩ := cuts_strad gs _ r2 (fun x hx => hg x (.tail _ hx)) hr2 hp2 h
      refine ⟨t :: g0, u, g1, r1 ++ r0, d, r', a, by rw [e1]; rfl, by rw [e2, List.append_assoc], ?_, h4⟩
      rw [prodI_append, e3, q, List.map_cons, prodI_cons, Int.mul_assoc]
    · have q1 : t.1 < prodI r1 := by
        rcases Int.lt_trichotomy (prodI r1) t.1 with q' | q' | q'
        · have e2 := h2 q'
          subst e2
          have : prodI ([] : List Int) = 1 := rfl
          rw [this, Int.mul_one] at hp
          have := le_mul_one t1 hgp
          omega
        · exact absurd q' q
        · exact q'
      obtain ⟨r0, d, e1, h4⟩ := h3 (by omega) q1
      refine ⟨[], t, gs, r0, d, r2, prodI r0, rfl, by rw [e1]; simp, by simp [prodI], prodI_pos fun x hx => hr1 x (by rw [e1]; exact List.mem_append_left _ hx), h4, ?_⟩
      rw [e1, prodI_append] at q1
      simpa [prodI] using q1
end Tg
namespace Tg
set_option maxHeartbeats 1000000
noncomputable abbrev sidesP (l : List (Int × Int)) : List Int := l.map (·.1)
theorem cellsP_length : ∀ (l : List (Int × Int)) (off : Int), (∀ p ∈ l, 0 < p.1) → (cellsP l off).length = (prodI (sidesP l)).toNat := fun l off h => by
  have e := cellsP_zip (l.map (·.1)) (l.map (·.2)) off (by simp)
  have z : (l.map (·.1)).zip (l.map (·.2)) = l := by
    clear h e
    induction l with
    | nil => rfl
    | cons p l ih => simp [ih]
  rw [z] at e
  rw [e, cellsR_length _ _ _ (by simp)]
  intro x hx
  obtain ⟨p, hp, rfl⟩ := List.mem_map.mp hx
  exact h p hp
theorem cellsP_at {p : Int × Int} {l : List (Int × Int)} {off x : Int} {j : Nat} (hp : ∀ q ∈ l, 0 < q.1) (h0 : 0 ≤ x) (h1 : x < p.1) (hj : j < (prodI (sidesP l)).toNat) : (cellsP (p :: l) off)[x.toNat * (prodI (sidesP l)).toNat + j]? = (cellsP l (off + x * p.2))[j]? := by
  show ((rngL 0 p.1.toNat).flatMap fun k => cellsP l (off + k * p.2))[_]? = _
  rw [flat_get p.1.toNat 0 (fun k => cellsP l (off + k * p.2)) (fun k => cellsP_length l _ hp) x.toNat j (by omega) hj, show (0 : Int) + x.toNat = x by omega]
theorem cellsP_deep {l : List (Int × Int)} {j : Nat} (hl : ∀ q ∈ l, 0 < q.1) (hj : j < (prodI (sidesP l)).toNat) : ∀ (a : List (Int × Int)) (off : Int), (∀ q ∈ a, 0 < q.1) → (cellsP (a ++ l) off)[j]? = (cellsP l off)[j]?
  | [], off, _ => rfl
  | p :: a, off, h => by
    have ha : ∀ q ∈ a, 0 < q.1 := fun q hq => h q (.tail _ hq)
    have hal : ∀ q ∈ a ++ l, 0 < q.1 := fun q hq => (List.mem_append.mp hq).elim (ha q) (hl q)
    have e : prodI (sidesP (a ++ l)) = prodI (sidesP a) * prodI (sidesP l) := by rw [sidesP, List.map_append, prodI_append]
    have pa : 0 < prodI (sidesP a) := prodI_pos fun x hx => by obtain ⟨q, hq, rfl⟩ := List.mem_map.mp hx; exact ha q hq
    have pl : 0 < prodI (sidesP l) := prodI_pos fun x hx => by obtain ⟨q, hq, rfl⟩ := List.mem_map.mp hx; exact hl q hq
    have le : prodI (sidesP l) ≤ prodI (sidesP a) * prodI (sidesP l) := by rw [Int.mul_comm]; exact le_mul_one pl pa
    have := cellsP_at (p := p) (l := a ++ l) (off := off) (x := 0) (j := j) hal (by decide) (h p (.head _)) (by rw [e]; omega)
    rw [Int.zero_mul, Int.add_zero, show (0 : Int).toNat = 0 from rfl, Nat.zero_mul, Nat.zero_add] at this
    show (cellsP (p :: (a ++ l)) off)[j]? = _
    rw [this]
    exact cellsP_deep hl hj a off ha
theorem grp_at {A C : List (Int × Int)} {u m U T x y off : Int} (hA : ∀ q ∈ A, 0 < q.1) (hC : ∀ q ∈ C, 0 < q.1) (hx : 0 ≤ x ∧ x < u) (hy : 0 ≤ y ∧ y < m) :
    (cellsP (A ++ (u, U) :: (m, T) :: C) off)[(x * (m * prodI (sidesP C)) + y * prodI (sidesP C)).toNat]? = some (off + x * U + y * T) := by
  have pC : 0 < prodI (sidesP C) := prodI_pos fun z hz => by obtain ⟨q, hq, rfl⟩ := List.mem_map.mp hz; exact hC q hq
  have hm : ∀ q ∈ (m, T) :: C, 0 < q.1 := fun q hq => by
    rcases List.mem_cons.mp hq with rfl | hq
    · dsimp only; omega
    · exact hC q hq
  have hu : ∀ q ∈ (u, U) :: (m, T) :: C, 0 < q.1 := fun q hq => by
    rcases List.mem_cons.mp hq with rfl | hq
    · dsimp only; omega
    · exact hm q hq
  have e1 : prodI (sidesP ((m, T) :: C)) = m * prodI (sidesP C) := prodI_cons _ _
  have e2 : prodI (sidesP ((u, U) :: (m, T) :: C)) = u * (m * prodI (sidesP C)) := by rw [← e1]; exact prodI_cons _ _
  have b1 : (y + 1) * prodI (sidesP C) ≤ m * prodI (sidesP C) := Int.mul_le_mul_of_nonneg_right (by omega) (by omega)
  have b2 : 0 ≤ y * prodI (sidesP C) := Int.mul_nonneg hy.1 (by omega)
  rw [Int.add_mul, Int.one_mul] at b1
  have pm : 0 < m * prodI (sidesP C) := by omega
  have b3 : (x + 1) * (m * prodI (sidesP C)) ≤ u * (m * prodI (sidesP C)) := Int.mul_le_mul_of_nonneg_right (by omega) (by omega)
  have b4 : 0 ≤ x * (m * prodI (sidesP C)) := Int.mul_nonneg hx.1 (by omega)
  rw [Int.add_mul, Int.one_mul] at b3
  rw [cellsP_deep hu (by rw [e2]; omega) A off hA]
  rw [Int.toNat_add b4 b2, Int.toNat_mul hx.1 (by omega), ← e1, cellsP_at hm hx.1 hx.2 (by rw [e1]; omega)]
  have z0 : ∀ o, (cellsP C o)[0]? = some o := fun o => by
    have := cellsP_deep (l := []) (j := 0) (fun q h => by cases h) (by decide) C o hC
    rw [List.append_nil] at this
    rw [this]; rfl
  have := cellsP_at (p := (m, T)) (l := C) (off := off + x * U) (x := y) (j := 0) hC hy.1 hy.2 (by omega)
  rw [Nat.add_zero, z0] at this
  rw [Int.toNat_mul hy.1 (by omega)]
  exact this
theorem adj_drop : ∀ (a l : List T3), AdjR (a ++ l) → AdjR l
  | [], _, h => h
  | x :: a, l, h => adj_drop a l (by
    cases a with
    | nil => cases l with
      | nil => trivial
      | cons y l => exact h.2
    | cons y a => exact h.2)
theorem fold_inv : ∀ (l : List (Int × Int)) (g : MS), (∀ p ∈ l, 0 < p.1) → MInv g → MInv (l.foldl mNext g)
  | [], _, _, h => h
  | p :: l, g, hl, h => fold_inv l _ (fun q hq => hl q (.tail _ hq)) (mnext_inv (hl p (.head _)) h)
theorem merge_inv {s t : Int} {sh st : List Int} (hp : ∀ x ∈ s :: sh, 0 < x) : ∃ g, MInv g ∧ merge (s :: sh) (t :: st) = g.all :=
  ⟨(sh.zip st).foldl mNext ⟨[], (s, t, nz t s), s == 1⟩, fold_inv _ _ (fun p h => hp _ (.tail _ (List.of_mem_zip h).1)) ⟨trivial, fun _ h => (by cases h), hp s (.head _), fun h => ⟨by simpa using h, rfl⟩, fun h => by
    have := hp s (.head _)
    have : s ≠ 1 := by simpa using h
    dsimp only; omega, fun x hx => by
    simp only [MS.all, List.nil_append, List.mem_singleton] at hx
    rw [hx]⟩, rfl⟩
end Tg
namespace Tg
set_option maxHeartbeats 1000000
structure GInv (gs : List T3) : Prop where
  adj : AdjR gs
  pos : ∀ t ∈ gs, 0 < t.1 ∧ t.2.2 = nz t.2.1 t.1
  big : ∀ t ∈ gs.tail, 1 < t.1
theorem merge_g {sh st : List Int} (hp : ∀ x ∈ sh, 0 < x) (hl : sh.length = st.length) : GInv (merge sh st).reverse := by
  cases sh with
  | nil => cases st with
    | nil => exact ⟨trivial, fun _ h => (by cases h), fun _ h => (by cases h)⟩
    | cons _ _ => simp at hl
  | cons s sh => cases st with
    | nil => simp at hl
    | cons t st =>
      obtain ⟨g, hg, e⟩ := merge_inv (s := s) (t := t) (sh := sh) (st := st) hp
      have er : (merge (s :: sh) (t :: st)).reverse = g.last :: g.pre.reverse := by rw [e]; simp [MS.all]
      rw [er]
      refine ⟨hg.adj, fun x hx => ⟨?_, hg.real x ?_⟩, fun x hx => hg.big x (by simpa using hx)⟩
      · rcases List.mem_cons.mp hx with rfl | hx
        · exact hg.pos
        · have := hg.big x (by simpa using hx); omega
      · rcases List.mem_cons.mp hx with rfl | hx
        · simp [MS.all]
        · exact List.mem_append_left _ (by simpa using hx)
theorem strad_odd {g0 g1 : List T3} {t : T3} {r0 r' : List Int} {d a off : Int} {cells form : List Int} (hg : GInv (g0 ++ t :: g1)) (hf : ∀ x ∈ form, 0 < x) (ef : form.reverse = r0 ++ d :: r') (hp : prodI form = prodI ((g0 ++ t :: g1).map (·.1)))
    (h0 : prodI r0 = prodI (g0.map (·.1)) * a) (ha : 0 < a) (ham : a < t.1) (hd : t.1 < a * d) (hc : cellsP ((g0 ++ t :: g1).map two).reverse off = cells) : evenF cells form = false := by
  have ef' : form = r'.reverse ++ d :: r0.reverse := by
    rw [← List.reverse_reverse form, ef]; simp
  have hfr : ∀ x ∈ r0 ++ d :: r', 0 < x := fun x hx => hf x (by rw [← List.mem_reverse, ef]; exact hx)
  have hd0 : 0 < d := hfr d (by simp)
  have pr' : 0 < prodI r' := prodI_pos fun x hx => hfr x (by simp [hx])
  have pg0 : 0 < prodI (g0.map (·.1)) := prodI_pos fun x hx => by obtain ⟨q, hq, rfl⟩ := List.mem_map.mp hx; exact (hg.pos q (by simp [hq])).1
  -- there is a group in front
  have hP := hp
  rw [← prodI_reverse, ef, prodI_append, prodI_cons, h0, List.map_append, prodI_append, List.map_cons, prodI_cons, Int.mul_assoc] at hP
  have hP := Int.eq_of_mul_eq_mul_left (by omega) hP
  cases g1 with
  | nil =>
    exfalso
    have e1 : prodI (([] : List T3).map (·.1)) = 1 := rfl
    rw [e1, Int.mul_one, ← Int.mul_assoc] at hP
    have := le_mul_one (a := a * d) (by omega) pr'
    omega
  | cons u g1 =>
    have hadj := (adj_drop g0 _ hg.adj).1
    have hu : 1 < u.1 := hg.big u (by cases g0 <;> simp)
    let A := (g1.map two).reverse
    let C := (g0.map two).reverse
    have hA : ∀ q ∈ A, 0 < q.1 := fun q hq => by
      obtain ⟨x, hx, rfl⟩ := List.mem_map.mp (List.mem_reverse.mp hq); exact (hg.pos x (by simp [hx])).1
    have hC : ∀ q ∈ C, 0 < q.1 := fun q hq => by
      obtain ⟨x, hx, rfl⟩ := List.mem_map.mp (List.mem_reverse.mp hq); exact (hg.pos x (by simp [hx])).1
    have eC : prodI (sidesP C) = prodI (g0.map (·.1)) := by
      show prodI ((g0.map two).reverse.map (·.1)) = _
      rw [List.map_reverse, prodI_reverse, List.map_map]; rfl
    have ec : ((g0 ++ t :: u :: g1).map two).reverse = A ++ (u.1, u.2.1) :: (t.1, t.2.1) :: C := by simp [A, C]
    rw [ec] at hc
    generalize hPg : prodI (g0.map (·.1)) = P at *
    have at' : ∀ {x y : Int}, (0 ≤ x ∧ x < u.1) → (0 ≤ y ∧ y < t.1) → cells.getD (x * (t.1 * P) + y * P).toNat 0 = off + x * u.2.1 + y * t.2.1 := fun {x y} hx hy => by
      have := grp_at (A := A) (C := C) (U := u.2.1) (T := t.2.1) (off := off) hA hC hx hy
      rw [eC, hc] at this
      rw [List.getD, this]; rfl
    have hlen : (cells.length : Int) = prodI form := by
      rw [← hc, cellsP_length, ← ec, hp]
      · rw [sidesP, List.map_reverse, prodI_reverse, List.map_map]
        have : (((g0 ++ t :: u :: g1).map ((·.1) ∘ two))) = (g0 ++ t :: u :: g1).map (·.1) := rfl
        rw [this]
        have : 0 < prodI ((g0 ++ t :: u :: g1).map (·.1)) := prodI_pos fun x hx => by obtain ⟨q, hq, rfl⟩ := List.mem_map.mp hx; exact (hg.pos q hq).1
        omega
      · rw [← ec]
        intro q hq
        obtain ⟨x, hx, rfl⟩ := List.mem_map.mp (List.mem_reverse.mp hq); exact (hg.pos x hx).1
    -- the axis
    have hi : r'.length < form.length := by rw [ef']; simp
    have e1 : form.getD r'.length 0 = d := by rw [ef']; simp [List.getD]
    have e2 : prodI (form.drop (r'.length + 1)) = P * a := by
      rw [ef', List.drop_append, List.drop_of_length_le (by simp)]
      simp only [List.length_reverse, List.nil_append, show r'.length + 1 - r'.length = 1 by omega, List.drop_succ_cons, List.drop_zero]
      rw [prodI_reverse, h0]
    have hJ : 0 < P * a := Int.mul_pos pg0 ha
    have hF : prodI form = P * a * (d * prodI r') := by rw [← prodI_reverse, ef, prodI_append, prodI_cons, h0]
    have hd1 : 1 < d := by
      rcases Int.lt_or_le 1 d with q | q
      · exact q
      · have : d = 1 := by omega
        rw [this, Int.mul_one] at hd; omega
    cases hev : evenF cells form with
    | false => rfl
    | true =>
      exfalso
      rw [even_eq, List.all_eq_true] at hev
      have hs := hev (r'.length : Int) (rngL_mem.mpr (by omega))
      rw [show ((r'.length : Nat) : Int).toNat = r'.length by omega] at hs
      have same := same_inv hs
      have mem : ∀ k : Int, 0 ≤ k → k + P * a < prodI form → (k.fdiv (P * a)).fmod d + 1 < d → cells.getD (k + P * a).toNat 0 - cells.getD k.toNat 0 ∈ stepsF cells form r'.length := fun k h1 h2 h3 => by
        unfold stepsF
        rw [e1, e2]
        refine List.mem_map.mpr ⟨k, List.mem_filter.mpr ⟨rngL_mem.mpr (by omega), decide_eq_true h3⟩, rfl⟩
      have dp : d ≤ d * prodI r' := le_mul_one hd0 pr'
      have F1 : P * a * d ≤ prodI form := by rw [hF]; exact Int.mul_le_mul_of_nonneg_left dp (by omega)
      have F2 : P * t.1 < P * a * d := by rw [Int.mul_assoc]; exact Int.mul_lt_mul_of_pos_left hd pg0
      have F3 : P * a < P * t.1 := Int.mul_lt_mul_of_pos_left ham pg0
      have m1 := mem 0 (by decide) (by omega) (by rw [Int.zero_fdiv, Int.zero_fmod]; omega)
      have k2 : P * (t.1 - a) = P * t.1 - P * a := Int.mul_sub _ _ _
      have m2 := mem (P * (t.1 - a)) (by omega) (by omega) (by
        rw [Int.fdiv_eq_ediv_of_nonneg _ (by omega), Int.mul_ediv_mul_of_pos _ _ pg0]
        have q1 : 0 ≤ (t.1 - a) / a := Int.ediv_nonneg (by omega) (by omega)
        have q2 : (t.1 - a) / a < d - 1 := Int.ediv_lt_of_lt_mul ha (by rw [Int.sub_mul, Int.one_mul, Int.mul_comm]; omega)
        rw [Int.fmod_eq_emod_of_nonneg _ (by omega), Int.emod_eq_of_lt q1 (by omega)]
        omega)
      have eq := same _ m1 _ m2
      have c0 := at' (x := 0) (y := 0) ⟨by decide, by omega⟩ ⟨by decide, by omega⟩
      have c1 := at' (x := 0) (y := a) ⟨by decide, by omega⟩ ⟨by omega, ham⟩
      have c2 := at' (x := 0) (y := t.1 - a) ⟨by decide, by omega⟩ ⟨by omega, by omega⟩
      have c3 := at' (x := 1) (y := 0) ⟨by decide, hu⟩ ⟨by decide, by omega⟩
      rw [show (0 : Int) * (t.1 * P) + 0 * P = 0 by simp] at c0
      rw [show (0 : Int) * (t.1 * P) + a * P = 0 + P * a by rw [Int.zero_mul, Int.mul_comm]] at c1
      rw [show (0 : Int) * (t.1 * P) + (t.1 - a) * P = P * (t.1 - a) by rw [Int.zero_mul, Int.zero_add, Int.mul_comm]] at c2
      rw [show (1 : Int) * (t.1 * P) + 0 * P = P * (t.1 - a) + P * a by rw [Int.zero_mul, Int.one_mul, Int.add_zero, Int.mul_comm, k2]; omega] at c3
      rw [c0, c1, c2, c3] at eq
      apply hadj
      have : (t.1 - a) * t.2.1 = t.1 * t.2.1 - a * t.2.1 := Int.sub_mul _ _ _
      rw [this] at eq
      omega
end Tg
namespace Tg
set_option maxHeartbeats 1000000
variable {B : Bs} (G : G2 B) {n : Nat} {g : LS} {form : List Int}
theorem merge_prod {sh st : List Int} (hp : ∀ x ∈ sh, 0 < x) (hl : sh.length = st.length) : prodI ((merge sh st).reverse.map (·.1)) = prodI sh := by
  have h1 := congrArg List.length (merge_cells hp hl 0)
  have hg := merge_g hp hl
  have hpos : ∀ p ∈ (merge sh st).map two, 0 < p.1 := fun p h => by
    obtain ⟨x, hx, rfl⟩ := List.mem_map.mp h; exact (hg.pos x (List.mem_reverse.mpr hx)).1
  rw [cellsP_length _ _ hpos, cellsR_length _ _ _ hl hp] at h1
  have e : sidesP ((merge sh st).map two) = (merge sh st).map (·.1) := by rw [sidesP, List.map_map]; rfl
  rw [e] at h1
  rw [List.map_reverse, prodI_reverse]
  have a := prodI_pos hp
  have b := prodI_pos (l := (merge sh st).map (·.1)) fun x hx => by
    obtain ⟨q, hq, rfl⟩ := List.mem_map.mp hx; exact (hg.pos q (List.mem_reverse.mpr hq)).1
  omega
theorem rs_cut (h : Pg g) (hc : g.c = false) (hf : ∀ x ∈ form, 0 < x) (hp : prodI form = prodI g.sh) (hl : form.length ≤ 4) (hne : g.sh ≠ form) : RsOk G n g form := by
  have hsm := h.small
  have hl4 := h.len
  have hfs : Sides form := ⟨hf, by omega⟩
  have hst : ∀ x ∈ g.st, x.natAbs ≤ 1000000 := fun x hx => by have := h.steps x hx; omega
  have hg := merge_g h.sides h.st
  have hgp := merge_prod h.sides h.st
  have hrow := h.row
  rw [spots_eq, cells_eq _ _ _ h.st, ← merge_cells h.sides h.st] at hrow
  have hrev : (merge g.sh g.st).map two = ((merge g.sh g.st).reverse.map two).reverse := by rw [List.map_reverse, List.reverse_reverse]
  rw [hrev] at hrow
  have hfr : ∀ x ∈ form.reverse, 0 < x := fun x hx => hf x (List.mem_reverse.mp hx)
  have hpr : prodI form.reverse = prodI ((merge g.sh g.st).reverse.map (·.1)) := by rw [prodI_reverse, hgp, hp]
  cases q : cuts (merge g.sh g.st).reverse [] form.reverse with
  | none =>
    refine ⟨.none, ?_, .inl ⟨rfl, ?_⟩⟩
    · have := s_reshape_none G (n := n) (off := g.off) h.sd hfs (by omega) (by omega) h.st hst hne hp.symm q
      show Fp B (n + 5) _ [vw (G.ad "View") g.sh g.st g.off g.c, tI form] _
      rw [hc]; exact this
    · obtain ⟨g0, t, g1, r0, d, r', a, e1, e2, e3, h4, h5, h6⟩ := cuts_strad _ _ _ hg.pos hfr hpr q
      rw [e1] at hg hrow hgp
      exact strad_odd hg hf e2 (by rw [hgp, hp]) e3 h4 h5 h6 hrow
  | some S =>
    obtain ⟨S', e, h4, h5⟩ := cuts_cells _ _ _ _ hg.pos hfr hpr q
    rw [List.nil_append] at e
    subst e
    rw [List.length_reverse] at h4 h5
    have hfl : form.length = (fillS form S).length := by simp [fillS]; omega
    have hcl := canonL_length hfl
    have hcl2 := canonL_length hcl.symm
    refine ⟨_, ?_, .inr ⟨canonL form (canonL form (fillS form S)), g.off, okB g.off (canonL form (canonL form (fillS form S))) form, rfl, ⟨hf, by show prodI form ≤ 16; omega, hl, hcl2.symm, ?_, rfl, can_canon, h.bd⟩⟩⟩
    · have := s_reshape_cut G (n := n) (off := g.off) h.sd hfs (by omega) (by omega) h.st hst hne hp.symm q
      show Fp B (n + 5) _ [vw (G.ad "View") g.sh g.st g.off g.c, tI form] _
      rw [hc]; exact this
    · show (spotsL form).map (tell (canonL form (canonL form (fillS form S))) g.off) = g.cells
      have e1 : (spotsL form).map (tell (canonL form (canonL form (fillS form S))) g.off) = (spotsL form).map (tell (fillS form S) g.off) := List.map_congr_left fun s hs => by
        have := inR_of (spots_in hs)
        rw [tell_dot, tell_dot, dot_canon this, dot_canon this]
      have hz := h5 (List.replicate (form.length - S.length) 0) (by simp; omega) g.off
      rw [e1, spots_eq, cells_eq _ _ _ hfl, ← cellsP_zip _ _ _ hfl, ← hrow, ← hz]
      congr 1
      unfold fillS
      rw [zip_rev (by simp; omega), List.reverse_reverse]
theorem rs_all (h : Pg g) : RsAll G n g := fun form hf hp hl => by
  by_cases q : g.sh = form
  · subst q; exact rs_same G h
  · cases hc : g.c with
    | true => exact rs_row G h hc hf hp hl q
    | false => exact rs_cut G h hc hf hp hl q
theorem law_ok {l : List Int} (hl : l.length ≤ 63) : Fp B (n + 9) (.ref (G.ad "law")) [.lst (l.map .int)] (.bool true) := law_of G hl fun n g h => rs_all G h
end Tg
namespace Tg
set_option maxHeartbeats 1000000
noncomputable def tabs2 : List (Addr × Addr) := [(27, 23), (34, 30), (710, 706), (717, 713), (725, 721), (732, 728), (753, 749), (771, 769), (799, 797), (811, 807), (816, 814), (823, 819), (828, 826), (833, 831), (855, 851), (862, 858), (869, 865), (883, 879), (888, 886), (893, 891), (900, 896), (905, 903), (912, 908), (919, 915), (924, 922), (931, 927), (936, 934)]
theorem tabs_of {w : World} {h : Heap} (X : (K2 pw w.params).In h) (t : ∀ P ∈ tsK, h.get? P = some (tabObj #[])) : TabsAt tabs2 h := by
  have e : (tabs2.all fun q => tsK.contains q.2 && codeHdIn (K2 pw w.params) q.1 q.2) = true := by kernel_rfl
  intro q hq
  have := List.all_eq_true.mp e q hq
  rw [Bool.and_eq_true] at this
  exact ⟨codeHd_of_K X this.2, t _ (List.contains_iff_mem.mp this.1)⟩
noncomputable def bs2 (w : World) (s : Shared) (mg mb : Str → Option Value) : Bs := ⟨pw, w, s.heap, ghostOf s.heap tabs2, s.os, tabs2, mg, mb, K2 pw w.params, 0⟩
noncomputable def ads : List (Str × Addr) := [("prod", 28), ("all_int", 35), ("Variable", 289), ("NumNode", 343), ("canonicalize_strides", 711), ("strides_for_shape", 718), ("_merge_dims", 726), ("_reshape_mask", 733), ("__init__", 754), ("create", 772), ("_unsafe_resize", 800), ("shrink", 812), ("expand", 817), ("permute", 824), ("stride", 829), ("reshape", 834), ("View", 845), ("_law_starts", 856), ("_law_stretch", 863), ("_law_steps", 870), ("_law_size", 884), ("_law_spots", 889), ("_law_split", 894), ("_law_deed", 901), ("_law_done", 906), ("_law_do", 913), ("_law_read", 920), ("_law_row", 925), ("_law_view", 932), ("law", 937)]
noncomputable def adf (x : Str) : Addr := (ads.lookup x).getD 0
section
variable {w : World} {s : Shared} {mg mb : Str → Option Value} {p : Program} {loose : List Str} {mean : ExcName → Option Value}
theorem bs_ok (X : (K2 pw w.params).In s.heap) (t : ∀ P ∈ tsK, s.heap.get? P = some (tabObj #[])) (T : Top p loose mean mg mb s.heap) : (bs2 w s mg mb).Ok := by
  have hT := tabs_of X t
  have T' := ghost_top hT T
  have hX := ghost_K hT X (by kernel_rfl)
  refine ⟨T'.g, T'.b, T'.nolimit, (hideAll_size _ _).symm, hX, fun q hq => ?_, bmod_of_top T', fun q hq => ⟨⟨#[], (hT q hq).1.tab (hT q hq).2⟩, ?_, hideAll_none _ (List.mem_map_of_mem hq)⟩, ?_⟩
  · show q.1 < (ghostOf s.heap tabs2).objs.size ∧ q.2 < (ghostOf s.heap tabs2).objs.size
    rw [show (ghostOf s.heap tabs2).objs.size = s.heap.objs.size from hideAll_size _ _]
    obtain ⟨o, _, _, _, _, _, _, _, _, e, _⟩ := (hT q hq).1
    exact ⟨Heap.lt_size e, Heap.lt_size (hT q hq).2⟩
  · have : ∀ q ∈ tabs2, q.2 ≠ cStatics := by decide
    exact this q hq
  · show ∀ p ∈ tabs2, ∀ q ∈ tabs2, p.2 = q.2 → p = q
    decide
theorem inv2 (X : (K2 pw w.params).In s.heap) (t : ∀ P ∈ tsK, s.heap.get? P = some (tabObj #[])) (hg : s.gens = #[]) : Inv (bs2 w s mg mb) [] [] [] s := by
  have hT := tabs_of X t
  exact ⟨.refl _, fun b o e => of_hideAll _ e, ⟨.of_eq hg, Nat.zero_le _⟩, rfl, fun q hq => ⟨#[], (hT q hq).1.code (hT q hq).2 trivial, (hT q hq).1.tab (hT q hq).2⟩, ⟨rfl, .nil, (fun a h => nomatch h), (fun i o a e => by simp at e)⟩, fun a h => nomatch h⟩
noncomputable def rowB (r : Row) (a : Nat) : Bool := r.ps.length == r.k + r.dfl.length && decide r.ps.Nodup && (r.ps.all fun x => canStore (dScope r.d) x) && decide ((cellsFrom 0 (dScope r.d).names []).map (·.1)).Nodup && decide ((dScope r.d).kind = .function) && !(dScope r.d).isCoroutine && !(dScope r.d).isGenerator && adf r.nm == a
noncomputable def RowOk (w : World) (s : Shared) (mg mb : Str → Option Value) (i : Nat) : Prop := ∀ r, defs2[i]? = some r → keepIn (bs2 w s mg mb).K (.ref (adf r.nm)) = true ∧ Nonempty (DefR (bs2 w s mg mb) (adf r.nm) r.k (dScope r.d) (dBody r.d) r.ps r.dfl)
theorem row_of {i : Nat} {r : Row} {dfw : List Value} (hi : defs2[i]? = some r) (name qual : Str) (dV pm : Value) (an : Option Addr) (c P : Addr)
    (h1 : (K2 pw w.params).lookup (adf r.nm) = some ⟨.type "function", none, .func (fnX name qual (dArgs r.d) (dBody r.d) (dScope r.d) [] dV .none .none pm an (.ref c) .none), #[]⟩) (h2 : codeIn (K2 pw w.params) (.ref c) qual = true) (h3 : (c, P) ∈ (bs2 w s mg mb).codes)
    (h4 : ∀ (s' : Shared) (ws : List Value), (K2 pw w.params).In s'.heap → ws.length = r.k → BindsTo s' (fnX name qual (dArgs r.d) (dBody r.d) (dScope r.d) [] dV .none .none pm an (.ref c) .none) ⟨ws, []⟩ (r.ps.zip (ws ++ dfw)))
    (h5 : ∀ Z α h, VRs Z α h r.dfl dfw) (h6 : rowB r (adf r.nm) = true) : RowOk w s mg mb i := fun r' hr' => by
  rw [hi] at hr'
  cases hr'
  unfold rowB at h6
  simp only [Bool.and_eq_true, decide_eq_true_eq, beq_iff_eq, Bool.not_eq_true'] at h6
  obtain ⟨⟨⟨⟨⟨⟨⟨b1, b2⟩, b3⟩, b4⟩, b5⟩, b6⟩, b7⟩, _⟩ := h6
  refine ⟨?_, ⟨⟨name, qual, _, dV, _, _, pm, _, _, _, an, _, _, dfw, h1, h2, h4, h5, b1, b2, b3, b4, ⟨c, P, rfl, h3⟩, b5, b6, b7⟩⟩⟩
  show keepIn (K2 pw w.params) (.ref (adf r.nm)) = true
  unfold keepIn
  dsimp only
  rw [h1]
theorem row_0 : RowOk w s mg mb 0 :=
  row_of (dfw := []) rfl "prod" "prod" .none (.str "tinygrad.helpers" 194) none 27 23 (by kernel_rfl) (by kernel_rfl) (by show _ ∈ tabs2; decide) (fun s ws K h0 => by obtain ⟨x0, ws, rfl, h1⟩ := len1 (n := 0) h0; cases len0 h1; exact BindsTo.of_eq (by kernel_rfl)) (fun _ _ _ => .nil) (by kernel_rfl)
theorem row_1 : RowOk w s mg mb 1 :=
  row_of (dfw := []) rfl "all_int" "all_int" .none (.str "tinygrad.helpers" 194) none 34 30 (by kernel_rfl) (by kernel_rfl) (by show _ ∈ tabs2; decide) (fun s ws K h0 => by obtain ⟨x0, ws, rfl, h1⟩ := len1 (n := 0) h0; cases len0 h1; exact BindsTo.of_eq (by kernel_rfl)) (fun _ _ _ => .nil) (by kernel_rfl)
theorem row_2 : RowOk w s mg mb 2 :=
  row_of (dfw := []) rfl "canonicalize_strides" "canonicalize_strides" .none (.str "tinygrad.shape.view" 1040) none 710 706 (by kernel_rfl) (by kernel_rfl) (by show _ ∈ tabs2; decide) (fun s ws K h0 => by obtain ⟨x0, ws, rfl, h1⟩ := len1 (n := 1) h0; obtain ⟨x1, ws, rfl, h2⟩ := len1 (n := 0) h1; cases len0 h2; exact BindsTo.of_eq (by kernel_rfl)) (fun _ _ _ => .nil) (by kernel_rfl)
theorem row_3 : RowOk w s mg mb 3 :=
  row_of (dfw := []) rfl "strides_for_shape" "strides_for_shape" .none (.str "tinygrad.shape.view" 1040) none 717 713 (by kernel_rfl) (by kernel_rfl) (by show _ ∈ tabs2; decide) (fun s ws K h0 => by obtain ⟨x0, ws, rfl, h1⟩ := len1 (n := 0) h0; cases len0 h1; exact BindsTo.of_eq (by kernel_rfl)) (fun _ _ _ => .nil) (by kernel_rfl)
theorem row_4 : RowOk w s mg mb 4 :=
  row_of (dfw := []) rfl "_merge_dims" "_merge_dims" (.ref 719) (.str "tinygrad.shape.view" 1040) none 725 721 (by kernel_rfl) (by kernel_rfl) (by show _ ∈ tabs2; decide) (fun s ws K h0 => by obtain ⟨x0, ws, rfl, h1⟩ := len1 (n := 2) h0; obtain ⟨x1, ws, rfl, h2⟩ := len1 (n := 1) h1; obtain ⟨x2, ws, rfl, h3⟩ := len1 (n := 0) h2; cases len0 h3; exact BindsTo.of_defaults (T := 719) (o := { cls := .type "tuple", data := .seq #[.none] }) (items := #[.none]) rfl (K _ _ (by kernel_rfl)) rfl rfl (by kernel_rfl)) (fun _ _ _ => .nil) (by kernel_rfl)
theorem row_5 : RowOk w s mg mb 5 :=
  row_of (dfw := []) rfl "_reshape_mask" "_reshape_mask" .none (.str "tinygrad.shape.view" 1040) none 732 728 (by kernel_rfl) (by kernel_rfl) (by show _ ∈ tabs2; decide) (fun s ws K h0 => by obtain ⟨x0, ws, rfl, h1⟩ := len1 (n := 2) h0; obtain ⟨x1, ws, rfl, h2⟩ := len1 (n := 1) h1; obtain ⟨x2, ws, rfl, h3⟩ := len1 (n := 0) h2; cases len0 h3; exact BindsTo.of_eq (by kernel_rfl)) (fun _ _ _ => .nil) (by kernel_rfl)
theorem row_6 : RowOk w s mg mb 6 :=
  row_of (dfw := []) rfl "__init__" "View.__init__" .none (.str "tinygrad.shape.view" 1040) none 753 749 (by kernel_rfl) (by kernel_rfl) (by show _ ∈ tabs2; decide) (fun s ws K h0 => by obtain ⟨x0, ws, rfl, h1⟩ := len1 (n := 5) h0; obtain ⟨x1, ws, rfl, h2⟩ := len1 (n := 4) h1; obtain ⟨x2, ws, rfl, h3⟩ := len1 (n := 3) h2; obtain ⟨x3, ws, rfl, h4⟩ := len1 (n := 2) h3; obtain ⟨x4, ws, rfl, h5⟩ := len1 (n := 1) h4; obtain ⟨x5, ws, rfl, h6⟩ := len1 (n := 0) h5; cases len0 h6; exact BindsTo.of_eq (by kernel_rfl)) (fun _ _ _ => .nil) (by kernel_rfl)
theorem row_7 : RowOk w s mg mb 7 :=
  row_of (dfw := [.none, .int 0 1147, .none]) rfl "create" "View.create" (.ref 767) (.str "tinygrad.shape.view" 1040) (some 775) 771 769 (by kernel_rfl) (by kernel_rfl) (by show _ ∈ tabs2; decide) (fun s ws K h0 => by obtain ⟨x0, ws, rfl, h1⟩ := len1 (n := 0) h0; cases len0 h1; exact BindsTo.of_defaults (T := 767) (o := { cls := .type "tuple", data := .seq #[.none, .int 0 1147, .none] }) (items := #[.none, .int 0 1147, .none]) rfl (K _ _ (by kernel_rfl)) rfl rfl (by kernel_rfl)) (fun _ _ _ => .cons .none (.cons (.int _ _) (.cons .none .nil))) (by kernel_rfl)
theorem row_8 : RowOk w s mg mb 8 :=
  row_of (dfw := []) rfl "create" "View.create" (.ref 767) (.str "tinygrad.shape.view" 1040) (some 775) 771 769 (by kernel_rfl) (by kernel_rfl) (by show _ ∈ tabs2; decide) (fun s ws K h0 => by obtain ⟨x0, ws, rfl, h1⟩ := len1 (n := 3) h0; obtain ⟨x1, ws, rfl, h2⟩ := len1 (n := 2) h1; obtain ⟨x2, ws, rfl, h3⟩ := len1 (n := 1) h2; obtain ⟨x3, ws, rfl, h4⟩ := len1 (n := 0) h3; cases len0 h4; exact BindsTo.of_defaults (T := 767) (o := { cls := .type "tuple", data := .seq #[.none, .int 0 1147, .none] }) (items := #[.none, .int 0 1147, .none]) rfl (K _ _ (by kernel_rfl)) rfl rfl (by kernel_rfl)) (fun _ _ _ => .nil) (by kernel_rfl)
theorem row_9 : RowOk w s mg mb 9 :=
  row_of (dfw := [.none]) rfl "_unsafe_resize" "View._unsafe_resize" (.ref 795) (.str "tinygrad.shape.view" 1040) none 799 797 (by kernel_rfl) (by kernel_rfl) (by show _ ∈ tabs2; decide) (fun s ws K h0 => by obtain ⟨x0, ws, rfl, h1⟩ := len1 (n := 1) h0; obtain ⟨x1, ws, rfl, h2⟩ := len1 (n := 0) h1; cases len0 h2; exact BindsTo.of_defaults (T := 795) (o := { cls := .type "tuple", data := .seq #[.none] }) (items := #[.none]) rfl (K _ _ (by kernel_rfl)) rfl rfl (by kernel_rfl)) (fun _ _ _ => .cons .none .nil) (by kernel_rfl)
theorem row_10 : RowOk w s mg mb 10 :=
  row_of (dfw := []) rfl "shrink" "View.shrink" .none (.str "tinygrad.shape.view" 1040) none 811 807 (by kernel_rfl) (by kernel_rfl) (by show _ ∈ tabs2; decide) (fun s ws K h0 => by obtain ⟨x0, ws, rfl, h1⟩ := len1 (n := 1) h0; obtain ⟨x1, ws, rfl, h2⟩ := len1 (n := 0) h1; cases len0 h2; exact BindsTo.of_eq (by kernel_rfl)) (fun _ _ _ => .nil) (by kernel_rfl)
theorem row_11 : RowOk w s mg mb 11 :=
  row_of (dfw := []) rfl "expand" "View.expand" .none (.str "tinygrad.shape.view" 1040) none 816 814 (by kernel_rfl) (by kernel_rfl) (by show _ ∈ tabs2; decide) (fun s ws K h0 => by obtain ⟨x0, ws, rfl, h1⟩ := len1 (n := 1) h0; obtain ⟨x1, ws, rfl, h2⟩ := len1 (n := 0) h1; cases len0 h2; exact BindsTo.of_eq (by kernel_rfl)) (fun _ _ _ => .nil) (by kernel_rfl)
theorem row_12 : RowOk w s mg mb 12 :=
  row_of (dfw := []) rfl "permute" "View.permute" .none (.str "tinygrad.shape.view" 1040) none 823 819 (by kernel_rfl) (by kernel_rfl) (by show _ ∈ tabs2; decide) (fun s ws K h0 => by obtain ⟨x0, ws, rfl, h1⟩ := len1 (n := 1) h0; obtain ⟨x1, ws, rfl, h2⟩ := len1 (n := 0) h1; cases len0 h2; exact BindsTo.of_eq (by kernel_rfl)) (fun _ _ _ => .nil) (by kernel_rfl)
theorem row_13 : RowOk w s mg mb 13 :=
  row_of (dfw := []) rfl "stride" "View.stride" .none (.str "tinygrad.shape.view" 1040) none 828 826 (by kernel_rfl) (by kernel_rfl) (by show _ ∈ tabs2; decide) (fun s ws K h0 => by obtain ⟨x0, ws, rfl, h1⟩ := len1 (n := 1) h0; obtain ⟨x1, ws, rfl, h2⟩ := len1 (n := 0) h1; cases len0 h2; exact BindsTo.of_eq (by kernel_rfl)) (fun _ _ _ => .nil) (by kernel_rfl)
theorem row_14 : RowOk w s mg mb 14 :=
  row_of (dfw := []) rfl "reshape" "View.reshape" .none (.str "tinygrad.shape.view" 1040) none 833 831 (by kernel_rfl) (by kernel_rfl) (by show _ ∈ tabs2; decide) (fun s ws K h0 => by obtain ⟨x0, ws, rfl, h1⟩ := len1 (n := 1) h0; obtain ⟨x1, ws, rfl, h2⟩ := len1 (n := 0) h1; cases len0 h2; exact BindsTo.of_eq (by kernel_rfl)) (fun _ _ _ => .nil) (by kernel_rfl)
theorem row_15 : RowOk w s mg mb 15 :=
  row_of (dfw := []) rfl "_law_starts" "_law_starts" .none (.str "law_iv0068_02" 1263) none 855 851 (by kernel_rfl) (by kernel_rfl) (by show _ ∈ tabs2; decide) (fun s ws K h0 => by cases len0 h0; exact BindsTo.of_eq (by kernel_rfl)) (fun _ _ _ => .nil) (by kernel_rfl)
theorem row_16 : RowOk w s mg mb 16 :=
  row_of (dfw := []) rfl "_law_stretch" "_law_stretch" .none (.str "law_iv0068_02" 1263) none 862 858 (by kernel_rfl) (by kernel_rfl) (by show _ ∈ tabs2; decide) (fun s ws K h0 => by cases len0 h0; exact BindsTo.of_eq (by kernel_rfl)) (fun _ _ _ => .nil) (by kernel_rfl)
theorem row_17 : RowOk w s mg mb 17 :=
  row_of (dfw := []) rfl "_law_steps" "_law_steps" .none (.str "law_iv0068_02" 1263) none 869 865 (by kernel_rfl) (by kernel_rfl) (by show _ ∈ tabs2; decide) (fun s ws K h0 => by cases len0 h0; exact BindsTo.of_eq (by kernel_rfl)) (fun _ _ _ => .nil) (by kernel_rfl)
theorem row_18 : RowOk w s mg mb 18 :=
  row_of (dfw := []) rfl "_law_size" "_law_size" .none (.str "law_iv0068_02" 1263) none 883 879 (by kernel_rfl) (by kernel_rfl) (by show _ ∈ tabs2; decide) (fun s ws K h0 => by obtain ⟨x0, ws, rfl, h1⟩ := len1 (n := 0) h0; cases len0 h1; exact BindsTo.of_eq (by kernel_rfl)) (fun _ _ _ => .nil) (by kernel_rfl)
theorem row_19 : RowOk w s mg mb 19 :=
  row_of (dfw := []) rfl "_law_spots" "_law_spots" .none (.str "law_iv0068_02" 1263) none 888 886 (by kernel_rfl) (by kernel_rfl) (by show _ ∈ tabs2; decide) (fun s ws K h0 => by obtain ⟨x0, ws, rfl, h1⟩ := len1 (n := 0) h0; cases len0 h1; exact BindsTo.of_eq (by kernel_rfl)) (fun _ _ _ => .nil) (by kernel_rfl)
theorem row_20 : RowOk w s mg mb 20 :=
  row_of (dfw := []) rfl "_law_split" "_law_split" .none (.str "law_iv0068_02" 1263) none 893 891 (by kernel_rfl) (by kernel_rfl) (by show _ ∈ tabs2; decide) (fun s ws K h0 => by obtain ⟨x0, ws, rfl, h1⟩ := len1 (n := 1) h0; obtain ⟨x1, ws, rfl, h2⟩ := len1 (n := 0) h1; cases len0 h2; exact BindsTo.of_eq (by kernel_rfl)) (fun _ _ _ => .nil) (by kernel_rfl)
theorem row_21 : RowOk w s mg mb 21 :=
  row_of (dfw := []) rfl "_law_deed" "_law_deed" .none (.str "law_iv0068_02" 1263) none 900 896 (by kernel_rfl) (by kernel_rfl) (by show _ ∈ tabs2; decide) (fun s ws K h0 => by obtain ⟨x0, ws, rfl, h1⟩ := len1 (n := 3) h0; obtain ⟨x1, ws, rfl, h2⟩ := len1 (n := 2) h1; obtain ⟨x2, ws, rfl, h3⟩ := len1 (n := 1) h2; obtain ⟨x3, ws, rfl, h4⟩ := len1 (n := 0) h3; cases len0 h4; exact BindsTo.of_eq (by kernel_rfl)) (fun _ _ _ => .nil) (by kernel_rfl)
theorem row_22 : RowOk w s mg mb 22 :=
  row_of (dfw := []) rfl "_law_done" "_law_done" .none (.str "law_iv0068_02" 1263) none 905 903 (by kernel_rfl) (by kernel_rfl) (by show _ ∈ tabs2; decide) (fun s ws K h0 => by obtain ⟨x0, ws, rfl, h1⟩ := len1 (n := 3) h0; obtain ⟨x1, ws, rfl, h2⟩ := len1 (n := 2) h1; obtain ⟨x2, ws, rfl, h3⟩ := len1 (n := 1) h2; obtain ⟨x3, ws, rfl, h4⟩ := len1 (n := 0) h3; cases len0 h4; exact BindsTo.of_eq (by kernel_rfl)) (fun _ _ _ => .nil) (by kernel_rfl)
theorem row_23 : RowOk w s mg mb 23 :=
  row_of (dfw := []) rfl "_law_do" "_law_do" .none (.str "law_iv0068_02" 1263) none 912 908 (by kernel_rfl) (by kernel_rfl) (by show _ ∈ tabs2; decide) (fun s ws K h0 => by obtain ⟨x0, ws, rfl, h1⟩ := len1 (n := 2) h0; obtain ⟨x1, ws, rfl, h2⟩ := len1 (n := 1) h1; obtain ⟨x2, ws, rfl, h3⟩ := len1 (n := 0) h2; cases len0 h3; exact BindsTo.of_eq (by kernel_rfl)) (fun _ _ _ => .nil) (by kernel_rfl)
theorem row_24 : RowOk w s mg mb 24 :=
  row_of (dfw := []) rfl "_law_read" "_law_read" .none (.str "law_iv0068_02" 1263) none 919 915 (by kernel_rfl) (by kernel_rfl) (by show _ ∈ tabs2; decide) (fun s ws K h0 => by obtain ⟨x0, ws, rfl, h1⟩ := len1 (n := 1) h0; obtain ⟨x1, ws, rfl, h2⟩ := len1 (n := 0) h1; cases len0 h2; exact BindsTo.of_eq (by kernel_rfl)) (fun _ _ _ => .nil) (by kernel_rfl)
theorem row_25 : RowOk w s mg mb 25 :=
  row_of (dfw := []) rfl "_law_row" "_law_row" .none (.str "law_iv0068_02" 1263) none 924 922 (by kernel_rfl) (by kernel_rfl) (by show _ ∈ tabs2; decide) (fun s ws K h0 => by obtain ⟨x0, ws, rfl, h1⟩ := len1 (n := 1) h0; obtain ⟨x1, ws, rfl, h2⟩ := len1 (n := 0) h1; cases len0 h2; exact BindsTo.of_eq (by kernel_rfl)) (fun _ _ _ => .nil) (by kernel_rfl)
theorem row_26 : RowOk w s mg mb 26 :=
  row_of (dfw := []) rfl "_law_view" "_law_view" .none (.str "law_iv0068_02" 1263) none 931 927 (by kernel_rfl) (by kernel_rfl) (by show _ ∈ tabs2; decide) (fun s ws K h0 => by obtain ⟨x0, ws, rfl, h1⟩ := len1 (n := 4) h0; obtain ⟨x1, ws, rfl, h2⟩ := len1 (n := 3) h1; obtain ⟨x2, ws, rfl, h3⟩ := len1 (n := 2) h2; obtain ⟨x3, ws, rfl, h4⟩ := len1 (n := 1) h3; obtain ⟨x4, ws, rfl, h5⟩ := len1 (n := 0) h4; cases len0 h5; exact BindsTo.of_eq (by kernel_rfl)) (fun _ _ _ => .nil) (by kernel_rfl)
theorem row_27 : RowOk w s mg mb 27 :=
  row_of (dfw := []) rfl "law" "law" .none (.str "law_iv0068_02" 1263) none 936 934 (by kernel_rfl) (by kernel_rfl) (by show _ ∈ tabs2; decide) (fun s ws K h0 => by obtain ⟨x0, ws, rfl, h1⟩ := len1 (n := 0) h0; cases len0 h1; exact BindsTo.of_eq (by kernel_rfl)) (fun _ _ _ => .nil) (by kernel_rfl)
theorem rows_ok : ∀ (i : Nat) r, defs2[i]? = some r → keepIn (bs2 w s mg mb).K (.ref (adf r.nm)) = true ∧ Nonempty (DefR (bs2 w s mg mb) (adf r.nm) r.k (dScope r.d) (dBody r.d) r.ps r.dfl)
  | 0, r, h => row_0 r h
  | 1, r, h => row_1 r h
  | 2, r, h => row_2 r h
  | 3, r, h => row_3 r h
  | 4, r, h => row_4 r h
  | 5, r, h => row_5 r h
  | 6, r, h => row_6 r h
  | 7, r, h => row_7 r h
  | 8, r, h => row_8 r h
  | 9, r, h => row_9 r h
  | 10, r, h => row_10 r h
  | 11, r, h => row_11 r h
  | 12, r, h => row_12 r h
  | 13, r, h => row_13 r h
  | 14, r, h => row_14 r h
  | 15, r, h => row_15 r h
  | 16, r, h => row_16 r h
  | 17, r, h => row_17 r h
  | 18, r, h => row_18 r h
  | 19, r, h => row_19 r h
  | 20, r, h => row_20 r h
  | 21, r, h => row_21 r h
  | 22, r, h => row_22 r h
  | 23, r, h => row_23 r h
  | 24, r, h => row_24 r h
  | 25, r, h => row_25 r h
  | 26, r, h => row_26 r h
  | 27, r, h => row_27 r h
  | i + 28, r, h => by rw [List.getElem?_eq_none (show defs2.length ≤ i + 28 from Nat.le_add_left 28 i)] at h; cases h
noncomputable def g2 (X : (K2 pw w.params).In s.heap) (t : ∀ P ∈ tsK, s.heap.get? P = some (tabObj #[])) (T : Top p loose mean mg mb s.heap) : G2 (bs2 w s mg mb) where
  O := bs_ok X t T
  ad := adf
  gl := fun x hx => by
    have e : (glN.all fun x => nsIn (K2 pw w.params) mainGlobals x == some (some (.ref (adf x)))) = true := by kernel_rfl
    exact mg_of X T.g (beq_iff_eq.mp (List.all_eq_true.mp e x hx))
  bt := fun q hq => by
    have e : (btN.all fun q => nsIn (K2 pw w.params) mainGlobals q.1 == some none && (bootBuiltins q.1 == some q.2 && !(q.1 == ("__name__" : Str)))) = true := by kernel_rfl
    have := List.all_eq_true.mp e q hq
    simp only [Bool.and_eq_true, beq_iff_eq, Bool.not_eq_true', beq_eq_false_iff_ne] at this
    exact ⟨mg_none_of X T.g this.1, (T.builtins _ this.2.2).trans this.2.1⟩
  fn := rows_ok
  cls := ⟨by kernel_rfl, by kernel_rfl, by kernel_rfl⟩
  kv := by kernel_rfl
  fld := fun x hx => by
    simp only [fdN, List.mem_cons, List.not_mem_nil, or_false] at hx
    rcases hx with rfl | rfl | rfl | rfl | rfl <;> exact ⟨by kernel_rfl, ⟨none, by kernel_rfl, by kernel_rfl⟩, by kernel_rfl⟩
  sm := ⟨by kernel_rfl, ⟨.type "type", 774, [.bool false], by kernel_rfl, by kernel_rfl, by kernel_rfl⟩⟩
  mt := fun x hx => by
    simp only [mtN, List.mem_cons, List.not_mem_nil, or_false] at hx
    rcases hx with rfl | rfl | rfl | rfl | rfl | rfl <;> exact ⟨by kernel_rfl, by kernel_rfl, by kernel_rfl⟩
  mks := by kernel_rfl
  ini := by kernel_rfl
  inf := by kernel_rfl
  isi := by kernel_rfl
  isv := by kernel_rfl
  isn := by kernel_rfl
end
end Tg
namespace Tg
set_option maxHeartbeats 1000000
theorem ints_vr {Z α : List Addr} {h : Heap} : ∀ {vs : List Value} {ns : List Int}, IntsAre vs ns → VRs Z α h (ns.map .int) vs := fun hI => by
  induction hI with
  | nil => exact .nil
  | cons _ _ _ ih => exact .cons (.int _ _) ih
theorem law_go {B : Bs} (G : G2 B) {a : Addr} (ha : G.ad "law" = a) {ns : List Int} (hn : ns.length ≤ 63) {A : Around} {s : Shared} {ws : List Value} (R : Rm 9 A) (I : Inv B [] [] [] s) (hsz : B.g.objs.size ≤ s.heap.objs.size) (r : VRs [] [] s.heap [.lst (ns.map .int)] ws)
    {RR : Result → Shared → Prop} (hQ : ∀ s' α', Stp B [] [] [] s α' [] s' → RR (.ok (.ret (.bool true))) s') : codeAny (model B.prog B.w) A (.call (.ref a) ⟨ws, []⟩) RR s := by
  subst ha
  exact law_ok (n := 0) G hn [] RR R G.O I hsz r fun w s' α' J r => by cases r; exact hQ s' α' J
theorem walk2 : WalkO (qv pw) looseL (fun _ _ => True) (hk pw).says PySem.Challenge.rw_iv0068_02.row.toRowW dLaw [] (fun f vs => PySem.call f vs) := by
  intro w s₀ s₁ mg mb G Y fa o pm cd doc dV kV ho hd hcd hD hmg hg args vals as hpre hlay hrd hwl hlo
  have Y := (show InK (K2 pw) w s₁.heap ∧ ∀ P ∈ tsK, s₁.heap.get? P = some (tabObj #[]) from Y)
  obtain ⟨KX, hT8⟩ := Y
  have T := G.T
  have e937 : mg dLaw.name = some (.ref 937) := mg_of KX T.g (by kernel_rfl)
  obtain rfl : fa = 937 := by rw [hmg] at e937; cases e937; rfl
  wrow_args hpre hlay hrd hwl hlo
  all_goals (refine enter_call ?_)
  rename_i ns _ _ _ _ _ _ _ l vs _ hL _ _ _ hI _ hcnd _
  have hn : ns.length ≤ 63 := by omega
  refine law_go (B := bs2 w s₁ mg mb) (g2 (mb := mb) KX hT8 T) (show adf "law" = 937 by decide +kernel) hn ⟨rfl, by decide, by decide⟩ (inv2 KX hT8 hg) (Nat.le_of_eq (hideAll_size _ _)) (.cons (.lst hL (ints_vr hI) (by simp)) .nil) fun s' α' J => ?_
  exact ⟨.inl ⟨.bool true, .bool true, [], rfl, fun cls => rfl, .bool true, by kernel_rfl, fun _ => ⟨.nil, fun a h => nomatch h⟩⟩, J.inv.old, J.inv.os, J.inv.gens.1⟩
end Tg
set_option maxRecDepth 100000 in
set_option maxHeartbeats 8000000 in
theorem PySem.Challenge.cw_iv0068_02_holds : PySem.Challenge.rw_iv0068_02.Holds :=
  Tg.top2 Tg.walk2
#print axioms PySem.Challenge.cw_iv0068_02_holds
