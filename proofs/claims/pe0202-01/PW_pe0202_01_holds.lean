import PyProof.Rows.All
import Wide.All
import OpenK.AllK
import Wide.FinOn
import PyProof.AutoFloatOps
import PyProof.CodeObjX
import PyProof.Cells
import PyProof.CompFree
import PyProof.Conv_int_float
import PyProof.DictCompW
import PyProof.DictIter
import PyProof.DictItemsLoops
import PyProof.DictWalks
import PyProof.EqAt
import PyProof.NeKinds
import PyProof.WalksMore
import PyProof.RangeFor
import PyProof.WalksU
import PyProof.GenCompD
import PyProof.ListRange
import PyProof.MaxThree
import PyProof.ZipIter
import PyProof.Rows.ZipGen
import PyProof.SliceMore
import PyProof.TupleOfGen
import PyProof.StrReplace2
import OpenK.KEqL
import KE.KLam
import KE.KEqDict
import KE.KRevSl
import KE.KSortTup
import PySem.Challenge.RW_pe0202_01
set_option Elab.async false
set_option maxRecDepth 100000
set_option maxHeartbeats 8000000
section
open PySem PySem.W PyProof.Rows
namespace Mine
-- the head by hand: the library's own head lays a twin of every object (27 MB of compiled file); here the kernel runs the top as it stands
def nth : List Stmt → Nat → Stmt
  | [], _ => .Pass default
  | x :: _, 0 => x
  | _ :: l, n + 1 => nth l n
def stm (n : Nat) : Stmt := nth PySem.Challenge.pw_pe0202_01.main.body n
def sub : Stmt → Nat → Stmt
  | .ClassDef _ _ _ b _ _ _ _ _ _ _, n => nth b n
  | s, _ => s
def fA : Stmt → Arguments
  | .FunctionDef _ a _ _ _ _ _ _ _ _ => a
  | _ => default
def fB : Stmt → List Stmt
  | .FunctionDef _ _ b _ _ _ _ _ _ _ => b
  | _ => []
def fS : Stmt → Scope
  | .FunctionDef _ _ _ _ _ _ s _ _ _ => s
  | _ => default
noncomputable def hd.heap_39 : Params → Frag := fun P => [
(nat_lit 0, boot_o_0 P),
(nat_lit 1, boot_o_1 P),
(nat_lit 2, boot_o_2 P),
(nat_lit 3, ⟨(.type "dict"), none, (.dict #[⟨(PyData.keyHash P "__name__"), (.str "__name__" 165), (.str "law_pe0202_01" 360)⟩, ⟨(PyData.keyHash P "__doc__"), (.str "__doc__" 166), .none⟩, ⟨(PyData.keyHash P "__package__"), (.str "__package__" 167), .none⟩, ⟨(PyData.keyHash P "__loader__"), (.str "__loader__" 168), (.builtin "__main__.__loader__#opaque")⟩, ⟨(PyData.keyHash P "__spec__"), (.str "__spec__" 169), .none⟩, ⟨(PyData.keyHash P "__annotations__"), (.str "__annotations__" 170), (.ref 6)⟩, ⟨(PyData.keyHash P "__builtins__"), (.str "__builtins__" 171), (.ref 4)⟩, ⟨(PyData.keyHash P "__file__"), (.str "__file__" 173), (.str "/claim/cut.py" 172)⟩, ⟨(PyData.keyHash P "__cached__"), (.str "__cached__" 174), .none⟩, ⟨(PyData.keyHash P "insort_right"), (.str "insort_right" 201), (.ref 23)⟩, ⟨(PyData.keyHash P "bisect_right"), (.str "bisect_right" 215), (.ref 32)⟩, ⟨(PyData.keyHash P "insort_left"), (.str "insort_left" 228), (.ref 41)⟩, ⟨(PyData.keyHash P "bisect_left"), (.str "bisect_left" 242), (.ref 50)⟩, ⟨(PyData.keyHash P "rgb_to_hls"), (.str "rgb_to_hls" 263), (.ref 57)⟩, ⟨(PyData.keyHash P "rgb_to_hsv"), (.str "rgb_to_hsv" 281), (.ref 64)⟩, ⟨(PyData.keyHash P "hsv_to_rgb"), (.str "hsv_to_rgb" 295), (.ref 71)⟩, ⟨(PyData.keyHash P "TupleComp"), (.str "TupleComp" 339), (.ref 95)⟩, ⟨(PyData.keyHash P "add_callers"), (.str "add_callers" 350), (.ref 106)⟩, ⟨(PyData.keyHash P "count_calls"), (.str "count_calls" 359), (.ref 113)⟩, ⟨(PyData.keyHash P "_law_row"), (.str "_law_row" 380), (.ref 120)⟩, ⟨(PyData.keyHash P "_law_whole"), (.str "_law_whole" 391), (.ref 127)⟩, ⟨(PyData.keyHash P "_law_due"), (.str "_law_due" 400), (.ref 134)⟩, ⟨(PyData.keyHash P "_law_key"), (.str "_law_key" 410), (.ref 141)⟩, ⟨(PyData.keyHash P "_law_code"), (.str "_law_code" 416), (.ref 146)⟩, ⟨(PyData.keyHash P "_law_against"), (.str "_law_against" 422), (.ref 151)⟩, ⟨(PyData.keyHash P "_law_along"), (.str "_law_along" 428), (.ref 156)⟩, ⟨(PyData.keyHash P "_law_turned"), (.str "_law_turned" 434), (.ref 161)⟩, ⟨(PyData.keyHash P "_law_pairs"), (.str "_law_pairs" 440), (.ref 166)⟩, ⟨(PyData.keyHash P "law"), (.str "law" 446), (.ref 171)⟩] 29), #[]⟩),
(nat_lit 4, boot_o_4 P),
(nat_lit 5, boot_o_5 P),
(nat_lit 6, boot_o_6 P),
(nat_lit 7, boot_o_7 P),
(nat_lit 8, boot_o_8 P),
(nat_lit 9, boot_o_9 P),
(nat_lit 10, boot_o_10 P),
(nat_lit 11, ⟨(.type "tuple"), none, (.seq #[] 0), #[]⟩),
(nat_lit 12, ⟨.none, none, (.fields #[(.int 2 0), (.int 0 0), (.ref 22), (.int 8 0), (.int 0 0), (.ref 31), (.int 28 0), (.int 0 0), (.ref 40), (.int 34 0), (.int 0 0), (.ref 49), (.int 55 0), (.int 0 0), (.ref 56), (.int 78 0), (.int 0 0), (.ref 63), (.int 97 0), (.int 0 0), (.ref 70), (.int 119 0), (.int 0 0), (.ref 77), (.int 133 0), (.int 0 0), (.ref 105), (.int 146 0), (.int 0 0), (.ref 112), (.int 152 0), (.int 0 0), (.ref 119), (.int 157 0), (.int 0 0), (.ref 126), (.int 163 0), (.int 0 0), (.ref 133), (.int 166 0), (.int 0 0), (.ref 140), (.int 168 0), (.int 0 0), (.ref 145), (.int 170 0), (.int 0 0), (.ref 150), (.int 183 0), (.int 0 0), (.ref 155), (.int 196 0), (.int 0 0), (.ref 160), (.int 198 0), (.int 0 0), (.ref 165), (.int 210 0), (.int 0 0), (.ref 170)]), #[]⟩),
(nat_lit 13, ⟨(.type "code"), none, (.fields #[(.str "<module>" 182), (.str "<module>" 183), (.str "/claim/cut.py" 184), (.int 1 0), (.int 0 0), (.int 0 0), (.int 0 0), (.int 0 0), (.ref 11), (.bool .false), (.int 181 0), (.ref 12), .none, .none, .none, .none, (.int 185 0), (.int 1 0), (.str "/claim/cut.py" 186)]), #[]⟩),
(nat_lit 14, ⟨(.type "frame"), none, .plain, #[(some (.ref 13)), (some (.ref 3)), (some (.ref 3)), none, (some (.str "__main__" 164)), none, (some (.ref 0))]⟩),
(nat_lit 15, ⟨(.type "tuple"), none, (.seq #[(.int 0 189), .none] 0), #[]⟩),
(nat_lit 16, ⟨(.type "dict"), none, (.dict #[⟨(PyData.keyHash P "key"), (.str "key" 190), .none⟩] 1), #[]⟩),
(nat_lit 17, ⟨(.type "tuple"), none, (.seq #[] 0), #[]⟩),
(nat_lit 18, ⟨.none, none, (.fields #[]), #[]⟩),
(nat_lit 19, ⟨(.type "tuple"), none, (.seq #[(.str "a" 194), (.str "x" 195), (.str "lo" 196), (.str "hi" 197), (.str "key" 198)] 0), #[]⟩),
(nat_lit 20, ⟨(.type "tuple"), none, (.seq #[] 0), #[]⟩),
(nat_lit 21, ⟨.none, none, (.func ⟨"insort_right", "insort_right", fA (stm 1), .stmts (fB (stm 1)), fS (stm 1), 0, [], .none, .none, .none, .none, none, .none, .none, 0⟩), #[]⟩),
(nat_lit 22, ⟨(.type "code"), none, (.fields #[(.str "insort_right" 191), (.str "insort_right" 192), (.str "/claim/cut.py" 193), (.int 2 0), (.int 4 0), (.int 0 0), (.int 1 0), (.int 3 0), (.ref 17), (.bool .true), (.int 181 0), (.ref 18), .none, (.ref 19), (.ref 20), (.ref 21), (.int 199 0), (.int 2 0), (.str "/claim/cut.py" 200)]), #[]⟩),
(nat_lit 23, ⟨(.type "function"), none, (.func ⟨"insort_right", "insort_right", fA (stm 1), .stmts (fB (stm 1)), fS (stm 1), 3, [], (.ref 15), (.ref 16), .none, (.str "cpy313.bisect" 187), none, (.ref 22), .none, 0⟩), #[]⟩),
(nat_lit 24, ⟨(.type "tuple"), none, (.seq #[(.int 0 202), .none] 0), #[]⟩),
(nat_lit 25, ⟨(.type "dict"), none, (.dict #[⟨(PyData.keyHash P "key"), (.str "key" 203), .none⟩] 1), #[]⟩),
(nat_lit 26, ⟨(.type "tuple"), none, (.seq #[] 0), #[]⟩),
(nat_lit 27, ⟨.none, none, (.fields #[]), #[]⟩),
(nat_lit 28, ⟨(.type "tuple"), none, (.seq #[(.str "a" 207), (.str "x" 208), (.str "lo" 209), (.str "hi" 210), (.str "key" 211), (.str "mid" 212)] 0), #[]⟩),
(nat_lit 29, ⟨(.type "tuple"), none, (.seq #[] 0), #[]⟩),
(nat_lit 30, ⟨.none, none, (.func ⟨"bisect_right", "bisect_right", fA (stm 2), .stmts (fB (stm 2)), fS (stm 2), 0, [], .none, .none, .none, .none, none, .none, .none, 0⟩), #[]⟩),
(nat_lit 31, ⟨(.type "code"), none, (.fields #[(.str "bisect_right" 204), (.str "bisect_right" 205), (.str "/claim/cut.py" 206), (.int 8 0), (.int 4 0), (.int 0 0), (.int 1 0), (.int 3 0), (.ref 26), (.bool .true), (.int 181 0), (.ref 27), .none, (.ref 28), (.ref 29), (.ref 30), (.int 213 0), (.int 8 0), (.str "/claim/cut.py" 214)]), #[]⟩),
(nat_lit 32, ⟨(.type "function"), none, (.func ⟨"bisect_right", "bisect_right", fA (stm 2), .stmts (fB (stm 2)), fS (stm 2), 3, [], (.ref 24), (.ref 25), .none, (.str "cpy313.bisect" 187), none, (.ref 31), .none, 0⟩), #[]⟩),
(nat_lit 33, ⟨(.type "tuple"), none, (.seq #[(.int 0 216), .none] 0), #[]⟩),
(nat_lit 34, ⟨(.type "dict"), none, (.dict #[⟨(PyData.keyHash P "key"), (.str "key" 217), .none⟩] 1), #[]⟩),
(nat_lit 35, ⟨(.type "tuple"), none, (.seq #[] 0), #[]⟩),
(nat_lit 36, ⟨.none, none, (.fields #[]), #[]⟩),
(nat_lit 37, ⟨(.type "tuple"), none, (.seq #[(.str "a" 221), (.str "x" 222), (.str "lo" 223), (.str "hi" 224), (.str "key" 225)] 0), #[]⟩),
(nat_lit 38, ⟨(.type "tuple"), none, (.seq #[] 0), #[]⟩),
(nat_lit 39, ⟨.none, none, (.func ⟨"insort_left", "insort_left", fA (stm 3), .stmts (fB (stm 3)), fS (stm 3), 0, [], .none, .none, .none, .none, none, .none, .none, 0⟩), #[]⟩),
(nat_lit 40, ⟨(.type "code"), none, (.fields #[(.str "insort_left" 218), (.str "insort_left" 219), (.str "/claim/cut.py" 220), (.int 28 0), (.int 4 0), (.int 0 0), (.int 1 0), (.int 3 0), (.ref 35), (.bool .true), (.int 181 0), (.ref 36), .none, (.ref 37), (.ref 38), (.ref 39), (.int 226 0), (.int 28 0), (.str "/claim/cut.py" 227)]), #[]⟩),
(nat_lit 41, ⟨(.type "function"), none, (.func ⟨"insort_left", "insort_left", fA (stm 3), .stmts (fB (stm 3)), fS (stm 3), 3, [], (.ref 33), (.ref 34), .none, (.str "cpy313.bisect" 187), none, (.ref 40), .none, 0⟩), #[]⟩),
(nat_lit 42, ⟨(.type "tuple"), none, (.seq #[(.int 0 229), .none] 0), #[]⟩),
(nat_lit 43, ⟨(.type "dict"), none, (.dict #[⟨(PyData.keyHash P "key"), (.str "key" 230), .none⟩] 1), #[]⟩),
(nat_lit 44, ⟨(.type "tuple"), none, (.seq #[] 0), #[]⟩),
(nat_lit 45, ⟨.none, none, (.fields #[]), #[]⟩),
(nat_lit 46, ⟨(.type "tuple"), none, (.seq #[(.str "a" 234), (.str "x" 235), (.str "lo" 236), (.str "hi" 237), (.str "key" 238), (.str "mid" 239)] 0), #[]⟩),
(nat_lit 47, ⟨(.type "tuple"), none, (.seq #[] 0), #[]⟩),
(nat_lit 48, ⟨.none, none, (.func ⟨"bisect_left", "bisect_left", fA (stm 4), .stmts (fB (stm 4)), fS (stm 4), 0, [], .none, .none, .none, .none, none, .none, .none, 0⟩), #[]⟩),
(nat_lit 49, ⟨(.type "code"), none, (.fields #[(.str "bisect_left" 231), (.str "bisect_left" 232), (.str "/claim/cut.py" 233), (.int 34 0), (.int 4 0), (.int 0 0), (.int 1 0), (.int 3 0), (.ref 44), (.bool .true), (.int 181 0), (.ref 45), .none, (.ref 46), (.ref 47), (.ref 48), (.int 240 0), (.int 34 0), (.str "/claim/cut.py" 241)]), #[]⟩),
(nat_lit 50, ⟨(.type "function"), none, (.func ⟨"bisect_left", "bisect_left", fA (stm 4), .stmts (fB (stm 4)), fS (stm 4), 3, [], (.ref 42), (.ref 43), .none, (.str "cpy313.bisect" 187), none, (.ref 49), .none, 0⟩), #[]⟩),
(nat_lit 51, ⟨(.type "tuple"), none, (.seq #[] 0), #[]⟩),
(nat_lit 52, ⟨.none, none, (.fields #[]), #[]⟩),
(nat_lit 53, ⟨(.type "tuple"), none, (.seq #[(.str "r" 248), (.str "g" 249), (.str "b" 250), (.str "maxc" 251), (.str "minc" 252), (.str "sumc" 253), (.str "rangec" 254), (.str "l" 255), (.str "s" 256), (.str "rc" 257), (.str "gc" 258), (.str "bc" 259), (.str "h" 260)] 0), #[]⟩),
(nat_lit 54, ⟨(.type "tuple"), none, (.seq #[] 0), #[]⟩),
(nat_lit 55, ⟨.none, none, (.func ⟨"rgb_to_hls", "rgb_to_hls", fA (stm 6), .stmts (fB (stm 6)), fS (stm 6), 0, [], .none, .none, .none, .none, none, .none, .none, 0⟩), #[]⟩),
(nat_lit 56, ⟨(.type "code"), none, (.fields #[(.str "rgb_to_hls" 245), (.str "rgb_to_hls" 246), (.str "/claim/cut.py" 247), (.int 55 0), (.int 3 0), (.int 0 0), (.int 0 0), (.int 3 0), (.ref 51), (.bool .true), (.int 181 0), (.ref 52), .none, (.ref 53), (.ref 54), (.ref 55), (.int 261 0), (.int 55 0), (.str "/claim/cut.py" 262)]), #[]⟩),
(nat_lit 57, ⟨(.type "function"), none, (.func ⟨"rgb_to_hls", "rgb_to_hls", fA (stm 6), .stmts (fB (stm 6)), fS (stm 6), 3, [], .none, .none, .none, (.str "cpy313.colorsys" 243), none, (.ref 56), .none, 0⟩), #[]⟩),
(nat_lit 58, ⟨(.type "tuple"), none, (.seq #[] 0), #[]⟩),
(nat_lit 59, ⟨.none, none, (.fields #[]), #[]⟩),
(nat_lit 60, ⟨(.type "tuple"), none, (.seq #[(.str "r" 267), (.str "g" 268), (.str "b" 269), (.str "maxc" 270), (.str "minc" 271), (.str "rangec" 272), (.str "v" 273), (.str "s" 274), (.str "rc" 275), (.str "gc" 276), (.str "bc" 277), (.str "h" 278)] 0), #[]⟩),
(nat_lit 61, ⟨(.type "tuple"), none, (.seq #[] 0), #[]⟩),
(nat_lit 62, ⟨.none, none, (.func ⟨"rgb_to_hsv", "rgb_to_hsv", fA (stm 7), .stmts (fB (stm 7)), fS (stm 7), 0, [], .none, .none, .none, .none, none, .none, .none, 0⟩), #[]⟩),
(nat_lit 63, ⟨(.type "code"), none, (.fields #[(.str "rgb_to_hsv" 264), (.str "rgb_to_hsv" 265), (.str "/claim/cut.py" 266), (.int 78 0), (.int 3 0), (.int 0 0), (.int 0 0), (.int 3 0), (.ref 58), (.bool .true), (.int 181 0), (.ref 59), .none, (.ref 60), (.ref 61), (.ref 62), (.int 279 0), (.int 78 0), (.str "/claim/cut.py" 280)]), #[]⟩),
(nat_lit 64, ⟨(.type "function"), none, (.func ⟨"rgb_to_hsv", "rgb_to_hsv", fA (stm 7), .stmts (fB (stm 7)), fS (stm 7), 3, [], .none, .none, .none, (.str "cpy313.colorsys" 243), none, (.ref 63), .none, 0⟩), #[]⟩),
(nat_lit 65, ⟨(.type "tuple"), none, (.seq #[] 0), #[]⟩),
(nat_lit 66, ⟨.none, none, (.fields #[]), #[]⟩),
(nat_lit 67, ⟨(.type "tuple"), none, (.seq #[(.str "h" 285), (.str "s" 286), (.str "v" 287), (.str "i" 288), (.str "f" 289), (.str "p" 290), (.str "q" 291), (.str "t" 292)] 0), #[]⟩),
(nat_lit 68, ⟨(.type "tuple"), none, (.seq #[] 0), #[]⟩),
(nat_lit 69, ⟨.none, none, (.func ⟨"hsv_to_rgb", "hsv_to_rgb", fA (stm 8), .stmts (fB (stm 8)), fS (stm 8), 0, [], .none, .none, .none, .none, none, .none, .none, 0⟩), #[]⟩),
(nat_lit 70, ⟨(.type "code"), none, (.fields #[(.str "hsv_to_rgb" 282), (.str "hsv_to_rgb" 283), (.str "/claim/cut.py" 284), (.int 97 0), (.int 3 0), (.int 0 0), (.int 0 0), (.int 3 0), (.ref 65), (.bool .true), (.int 181 0), (.ref 66), .none, (.ref 67), (.ref 68), (.ref 69), (.int 293 0), (.int 97 0), (.str "/claim/cut.py" 294)]), #[]⟩),
(nat_lit 71, ⟨(.type "function"), none, (.func ⟨"hsv_to_rgb", "hsv_to_rgb", fA (stm 8), .stmts (fB (stm 8)), fS (stm 8), 3, [], .none, .none, .none, (.str "cpy313.colorsys" 243), none, (.ref 70), .none, 0⟩), #[]⟩),
(nat_lit 79, ⟨(.type "tuple"), none, (.seq #[] 0), #[]⟩),
(nat_lit 80, ⟨.none, none, (.fields #[]), #[]⟩),
(nat_lit 81, ⟨(.type "tuple"), none, (.seq #[(.str "self" 313), (.str "comp_select_list" 314)] 0), #[]⟩),
(nat_lit 82, ⟨(.type "tuple"), none, (.seq #[] 0), #[]⟩),
(nat_lit 83, ⟨.none, none, (.func ⟨"__init__", "TupleComp.__init__", fA (sub (stm 10) 0), .stmts (fB (sub (stm 10) 0)), fS (sub (stm 10) 0), 0, [], .none, .none, .none, .none, none, .none, .none, 0⟩), #[]⟩),
(nat_lit 84, ⟨(.type "code"), none, (.fields #[(.str "__init__" 310), (.str "TupleComp.__init__" 311), (.str "/claim/cut.py" 312), (.int 121 0), (.int 2 0), (.int 0 0), (.int 0 0), (.int 3 0), (.ref 79), (.bool .true), (.int 181 0), (.ref 80), .none, (.ref 81), (.ref 82), (.ref 83), (.int 315 0), (.int 121 0), (.str "/claim/cut.py" 316)]), #[]⟩),
(nat_lit 85, ⟨(.type "function"), none, (.func ⟨"__init__", "TupleComp.__init__", fA (sub (stm 10) 0), .stmts (fB (sub (stm 10) 0)), fS (sub (stm 10) 0), 3, [], .none, .none, .none, (.str "cpy313.pstats" 296), none, (.ref 84), .none, 0⟩), #[]⟩),
(nat_lit 86, ⟨(.type "tuple"), none, (.seq #[] 0), #[]⟩),
(nat_lit 87, ⟨.none, none, (.fields #[]), #[]⟩),
(nat_lit 88, ⟨(.type "tuple"), none, (.seq #[(.str "self" 321), (.str "left" 322), (.str "right" 323), (.str "index" 324), (.str "direction" 325), (.str "l" 326), (.str "r" 327)] 0), #[]⟩),
(nat_lit 89, ⟨(.type "tuple"), none, (.seq #[] 0), #[]⟩),
(nat_lit 90, ⟨.none, none, (.func ⟨"compare", "TupleComp.compare", fA (sub (stm 10) 1), .stmts (fB (sub (stm 10) 1)), fS (sub (stm 10) 1), 0, [], .none, .none, .none, .none, none, .none, .none, 0⟩), #[]⟩),
(nat_lit 91, ⟨(.type "code"), none, (.fields #[(.str "compare" 318), (.str "TupleComp.compare" 319), (.str "/claim/cut.py" 320), (.int 124 0), (.int 3 0), (.int 0 0), (.int 0 0), (.int 3 0), (.ref 86), (.bool .true), (.int 181 0), (.ref 87), .none, (.ref 88), (.ref 89), (.ref 90), (.int 328 0), (.int 124 0), (.str "/claim/cut.py" 329)]), #[]⟩),
(nat_lit 92, ⟨(.type "function"), none, (.func ⟨"compare", "TupleComp.compare", fA (sub (stm 10) 1), .stmts (fB (sub (stm 10) 1)), fS (sub (stm 10) 1), 3, [], .none, .none, .none, (.str "cpy313.pstats" 296), none, (.ref 91), .none, 0⟩), #[]⟩),
(nat_lit 93, ⟨(.type "tuple"), none, (.seq #[(.str "comp_select_list" 331)] 0), #[]⟩),
(nat_lit 94, ⟨(.type "dict"), none, (.dict #[⟨(PyData.keyHash P "__module__"), (.str "__module__" 305), (.str "cpy313.pstats" 296)⟩, ⟨(PyData.keyHash P "__firstlineno__"), (.str "__firstlineno__" 309), (.int 119 308)⟩, ⟨(PyData.keyHash P "__init__"), (.str "__init__" 317), (.ref 85)⟩, ⟨(PyData.keyHash P "compare"), (.str "compare" 330), (.ref 92)⟩, ⟨(PyData.keyHash P "__static_attributes__"), (.str "__static_attributes__" 332), (.ref 93)⟩, ⟨(PyData.keyHash P "__dict__"), (.str "__dict__" 334), (.ref 96)⟩, ⟨(PyData.keyHash P "__weakref__"), (.str "__weakref__" 336), (.ref 97)⟩, ⟨(PyData.keyHash P "__doc__"), (.str "__doc__" 337), .none⟩] 4), #[]⟩),
(nat_lit 95, ⟨(.type "type"), none, (.cls ⟨"TupleComp", [(.type "object")], [(.ref 95), (.type "object")], 94, "TupleComp", .true, [], [], .false, none, .false⟩), #[none, none, (some (.str "TupleComp" 298)), (some (.str "TupleComp" 306)), (some (.builtin "object.__new__")), (some (.bool .true))]⟩),
(nat_lit 96, ⟨(.type "getset_descriptor"), none, (.fields #[(.str "__dict__" 333), (.ref 95), (.builtin "function.__dict__"), (.builtin "function.__dict__#set")]), #[]⟩),
(nat_lit 97, ⟨(.type "getset_descriptor"), none, (.fields #[(.str "__weakref__" 335), (.ref 95), (.builtin "ExceptionGroup.__weakref__"), .none]), #[]⟩),
(nat_lit 100, ⟨(.type "tuple"), none, (.seq #[] 0), #[]⟩),
(nat_lit 101, ⟨.none, none, (.fields #[]), #[]⟩),
(nat_lit 102, ⟨(.type "tuple"), none, (.seq #[(.str "target" 343), (.str "source" 344), (.str "new_callers" 345), (.str "func" 346), (.str "caller" 347)] 0), #[]⟩),
(nat_lit 103, ⟨(.type "tuple"), none, (.seq #[] 0), #[]⟩),
(nat_lit 104, ⟨.none, none, (.func ⟨"add_callers", "add_callers", fA (stm 11), .stmts (fB (stm 11)), fS (stm 11), 0, [], .none, .none, .none, .none, none, .none, .none, 0⟩), #[]⟩),
(nat_lit 105, ⟨(.type "code"), none, (.fields #[(.str "add_callers" 340), (.str "add_callers" 341), (.str "/claim/cut.py" 342), (.int 133 0), (.int 2 0), (.int 0 0), (.int 0 0), (.int 3 0), (.ref 100), (.bool .true), (.int 181 0), (.ref 101), .none, (.ref 102), (.ref 103), (.ref 104), (.int 348 0), (.int 133 0), (.str "/claim/cut.py" 349)]), #[]⟩),
(nat_lit 106, ⟨(.type "function"), none, (.func ⟨"add_callers", "add_callers", fA (stm 11), .stmts (fB (stm 11)), fS (stm 11), 3, [], .none, .none, .none, (.str "cpy313.pstats" 296), none, (.ref 105), .none, 0⟩), #[]⟩),
(nat_lit 107, ⟨(.type "tuple"), none, (.seq #[] 0), #[]⟩),
(nat_lit 108, ⟨.none, none, (.fields #[]), #[]⟩),
(nat_lit 109, ⟨(.type "tuple"), none, (.seq #[(.str "callers" 354), (.str "nc" 355), (.str "calls" 356)] 0), #[]⟩),
(nat_lit 110, ⟨(.type "tuple"), none, (.seq #[] 0), #[]⟩),
(nat_lit 111, ⟨.none, none, (.func ⟨"count_calls", "count_calls", fA (stm 12), .stmts (fB (stm 12)), fS (stm 12), 0, [], .none, .none, .none, .none, none, .none, .none, 0⟩), #[]⟩),
(nat_lit 112, ⟨(.type "code"), none, (.fields #[(.str "count_calls" 351), (.str "count_calls" 352), (.str "/claim/cut.py" 353), (.int 146 0), (.int 1 0), (.int 0 0), (.int 0 0), (.int 3 0), (.ref 107), (.bool .true), (.int 181 0), (.ref 108), .none, (.ref 109), (.ref 110), (.ref 111), (.int 357 0), (.int 146 0), (.str "/claim/cut.py" 358)]), #[]⟩),
(nat_lit 113, ⟨(.type "function"), none, (.func ⟨"count_calls", "count_calls", fA (stm 12), .stmts (fB (stm 12)), fS (stm 12), 3, [], .none, .none, .none, (.str "cpy313.pstats" 296), none, (.ref 112), .none, 0⟩), #[]⟩),
(nat_lit 114, ⟨(.type "tuple"), none, (.seq #[] 0), #[]⟩),
(nat_lit 115, ⟨.none, none, (.fields #[]), #[]⟩),
(nat_lit 116, ⟨(.type "tuple"), none, (.seq #[(.str "place" 365), (.str "turn" 366), (.str "part" 367), (.str "level" 368), (.str "red" 369), (.str "green" 370), (.str "blue" 371), (.str "hue" 372), (.str "share" 373), (.str "value" 374), (.str "again" 375), (.str "light" 376), (.str "strong" 377)] 0), #[]⟩),
(nat_lit 117, ⟨(.type "tuple"), none, (.seq #[] 0), #[]⟩),
(nat_lit 118, ⟨.none, none, (.func ⟨"_law_row", "_law_row", fA (stm 14), .stmts (fB (stm 14)), fS (stm 14), 0, [], .none, .none, .none, .none, none, .none, .none, 0⟩), #[]⟩),
(nat_lit 119, ⟨(.type "code"), none, (.fields #[(.str "_law_row" 362), (.str "_law_row" 363), (.str "/claim/cut.py" 364), (.int 152 0), (.int 4 0), (.int 0 0), (.int 0 0), (.int 3 0), (.ref 114), (.bool .true), (.int 181 0), (.ref 115), .none, (.ref 116), (.ref 117), (.ref 118), (.int 378 0), (.int 152 0), (.str "/claim/cut.py" 379)]), #[]⟩),
(nat_lit 120, ⟨(.type "function"), none, (.func ⟨"_law_row", "_law_row", fA (stm 14), .stmts (fB (stm 14)), fS (stm 14), 3, [], .none, .none, .none, (.str "law_pe0202_01" 360), none, (.ref 119), .none, 0⟩), #[]⟩),
(nat_lit 121, ⟨(.type "tuple"), none, (.seq #[] 0), #[]⟩),
(nat_lit 122, ⟨.none, none, (.fields #[]), #[]⟩),
(nat_lit 123, ⟨(.type "tuple"), none, (.seq #[(.str "turn" 384), (.str "part" 385), (.str "level" 386), (.str "deep" 387), (.str "room" 388)] 0), #[]⟩),
(nat_lit 124, ⟨(.type "tuple"), none, (.seq #[] 0), #[]⟩),
(nat_lit 125, ⟨.none, none, (.func ⟨"_law_whole", "_law_whole", fA (stm 15), .stmts (fB (stm 15)), fS (stm 15), 0, [], .none, .none, .none, .none, none, .none, .none, 0⟩), #[]⟩),
(nat_lit 126, ⟨(.type "code"), none, (.fields #[(.str "_law_whole" 381), (.str "_law_whole" 382), (.str "/claim/cut.py" 383), (.int 157 0), (.int 3 0), (.int 0 0), (.int 0 0), (.int 3 0), (.ref 121), (.bool .true), (.int 181 0), (.ref 122), .none, (.ref 123), (.ref 124), (.ref 125), (.int 389 0), (.int 157 0), (.str "/claim/cut.py" 390)]), #[]⟩),
(nat_lit 127, ⟨(.type "function"), none, (.func ⟨"_law_whole", "_law_whole", fA (stm 15), .stmts (fB (stm 15)), fS (stm 15), 3, [], .none, .none, .none, (.str "law_pe0202_01" 360), none, (.ref 126), .none, 0⟩), #[]⟩),
(nat_lit 128, ⟨(.type "tuple"), none, (.seq #[] 0), #[]⟩),
(nat_lit 129, ⟨.none, none, (.fields #[]), #[]⟩),
(nat_lit 130, ⟨(.type "tuple"), none, (.seq #[(.str "place" 395), (.str "whole" 396), (.str "hue" 397)] 0), #[]⟩),
(nat_lit 131, ⟨(.type "tuple"), none, (.seq #[] 0), #[]⟩),
(nat_lit 132, ⟨.none, none, (.func ⟨"_law_due", "_law_due", fA (stm 16), .stmts (fB (stm 16)), fS (stm 16), 0, [], .none, .none, .none, .none, none, .none, .none, 0⟩), #[]⟩),
(nat_lit 133, ⟨(.type "code"), none, (.fields #[(.str "_law_due" 392), (.str "_law_due" 393), (.str "/claim/cut.py" 394), (.int 163 0), (.int 2 0), (.int 0 0), (.int 0 0), (.int 3 0), (.ref 128), (.bool .true), (.int 181 0), (.ref 129), .none, (.ref 130), (.ref 131), (.ref 132), (.int 398 0), (.int 163 0), (.str "/claim/cut.py" 399)]), #[]⟩),
(nat_lit 134, ⟨(.type "function"), none, (.func ⟨"_law_due", "_law_due", fA (stm 16), .stmts (fB (stm 16)), fS (stm 16), 3, [], .none, .none, .none, (.str "law_pe0202_01" 360), none, (.ref 133), .none, 0⟩), #[]⟩),
(nat_lit 135, ⟨(.type "tuple"), none, (.seq #[] 0), #[]⟩),
(nat_lit 136, ⟨.none, none, (.fields #[]), #[]⟩),
(nat_lit 137, ⟨(.type "tuple"), none, (.seq #[(.str "rule" 404), (.str "new" 405)] 0), #[]⟩),
(nat_lit 138, ⟨(.type "tuple"), none, (.seq #[(.str "rule" 406), (.str "new" 407)] 0), #[]⟩),
(nat_lit 139, ⟨.none, none, (.func ⟨"_law_key", "_law_key", fA (stm 17), .stmts (fB (stm 17)), fS (stm 17), 0, [], .none, .none, .none, .none, none, .none, .none, 0⟩), #[]⟩),
(nat_lit 140, ⟨(.type "code"), none, (.fields #[(.str "_law_key" 401), (.str "_law_key" 402), (.str "/claim/cut.py" 403), (.int 166 0), (.int 2 0), (.int 0 0), (.int 0 0), (.int 3 0), (.ref 135), (.bool .true), (.int 181 0), (.ref 136), .none, (.ref 137), (.ref 138), (.ref 139), (.int 408 0), (.int 166 0), (.str "/claim/cut.py" 409)]), #[]⟩),
(nat_lit 141, ⟨(.type "function"), none, (.func ⟨"_law_key", "_law_key", fA (stm 17), .stmts (fB (stm 17)), fS (stm 17), 3, [], .none, .none, .none, (.str "law_pe0202_01" 360), none, (.ref 140), .none, 0⟩), #[]⟩),
(nat_lit 142, ⟨(.type "tuple"), none, (.seq #[] 0), #[]⟩),
(nat_lit 143, ⟨.none, none, (.fields #[]), #[]⟩),
(nat_lit 144, ⟨.none, none, (.func ⟨"_law_code", "_law_code", fA (stm 18), .stmts (fB (stm 18)), fS (stm 18), 0, [], .none, .none, .none, .none, none, .none, .none, 0⟩), #[]⟩),
(nat_lit 145, ⟨(.type "code"), none, (.fields #[(.str "_law_code" 411), (.str "_law_code" 412), (.str "/claim/cut.py" 413), (.int 168 0), (.int 2 0), (.int 0 0), (.int 0 0), (.int 3 0), (.ref 142), (.bool .true), (.int 181 0), (.ref 143), .none, .none, .none, (.ref 144), (.int 414 0), (.int 168 0), (.str "/claim/cut.py" 415)]), #[]⟩),
(nat_lit 146, ⟨(.type "function"), none, (.func ⟨"_law_code", "_law_code", fA (stm 18), .stmts (fB (stm 18)), fS (stm 18), 3, [], .none, .none, .none, (.str "law_pe0202_01" 360), none, (.ref 145), .none, 0⟩), #[]⟩),
(nat_lit 147, ⟨(.type "tuple"), none, (.seq #[] 0), #[]⟩),
(nat_lit 148, ⟨.none, none, (.fields #[]), #[]⟩),
(nat_lit 149, ⟨.none, none, (.func ⟨"_law_against", "_law_against", fA (stm 19), .stmts (fB (stm 19)), fS (stm 19), 0, [], .none, .none, .none, .none, none, .none, .none, 0⟩), #[]⟩),
(nat_lit 150, ⟨(.type "code"), none, (.fields #[(.str "_law_against" 417), (.str "_law_against" 418), (.str "/claim/cut.py" 419), (.int 170 0), (.int 3 0), (.int 0 0), (.int 0 0), (.int 3 0), (.ref 147), (.bool .true), (.int 181 0), (.ref 148), .none, .none, .none, (.ref 149), (.int 420 0), (.int 170 0), (.str "/claim/cut.py" 421)]), #[]⟩),
(nat_lit 151, ⟨(.type "function"), none, (.func ⟨"_law_against", "_law_against", fA (stm 19), .stmts (fB (stm 19)), fS (stm 19), 3, [], .none, .none, .none, (.str "law_pe0202_01" 360), none, (.ref 150), .none, 0⟩), #[]⟩),
(nat_lit 152, ⟨(.type "tuple"), none, (.seq #[] 0), #[]⟩),
(nat_lit 153, ⟨.none, none, (.fields #[]), #[]⟩),
(nat_lit 154, ⟨.none, none, (.func ⟨"_law_along", "_law_along", fA (stm 20), .stmts (fB (stm 20)), fS (stm 20), 0, [], .none, .none, .none, .none, none, .none, .none, 0⟩), #[]⟩),
(nat_lit 155, ⟨(.type "code"), none, (.fields #[(.str "_law_along" 423), (.str "_law_along" 424), (.str "/claim/cut.py" 425), (.int 183 0), (.int 3 0), (.int 0 0), (.int 0 0), (.int 3 0), (.ref 152), (.bool .true), (.int 181 0), (.ref 153), .none, .none, .none, (.ref 154), (.int 426 0), (.int 183 0), (.str "/claim/cut.py" 427)]), #[]⟩),
(nat_lit 156, ⟨(.type "function"), none, (.func ⟨"_law_along", "_law_along", fA (stm 20), .stmts (fB (stm 20)), fS (stm 20), 3, [], .none, .none, .none, (.str "law_pe0202_01" 360), none, (.ref 155), .none, 0⟩), #[]⟩),
(nat_lit 157, ⟨(.type "tuple"), none, (.seq #[] 0), #[]⟩),
(nat_lit 158, ⟨.none, none, (.fields #[]), #[]⟩),
(nat_lit 159, ⟨.none, none, (.func ⟨"_law_turned", "_law_turned", fA (stm 21), .stmts (fB (stm 21)), fS (stm 21), 0, [], .none, .none, .none, .none, none, .none, .none, 0⟩), #[]⟩),
(nat_lit 160, ⟨(.type "code"), none, (.fields #[(.str "_law_turned" 429), (.str "_law_turned" 430), (.str "/claim/cut.py" 431), (.int 196 0), (.int 1 0), (.int 0 0), (.int 0 0), (.int 3 0), (.ref 157), (.bool .true), (.int 181 0), (.ref 158), .none, .none, .none, (.ref 159), (.int 432 0), (.int 196 0), (.str "/claim/cut.py" 433)]), #[]⟩),
(nat_lit 161, ⟨(.type "function"), none, (.func ⟨"_law_turned", "_law_turned", fA (stm 21), .stmts (fB (stm 21)), fS (stm 21), 3, [], .none, .none, .none, (.str "law_pe0202_01" 360), none, (.ref 160), .none, 0⟩), #[]⟩),
(nat_lit 162, ⟨(.type "tuple"), none, (.seq #[] 0), #[]⟩),
(nat_lit 163, ⟨.none, none, (.fields #[]), #[]⟩),
(nat_lit 164, ⟨.none, none, (.func ⟨"_law_pairs", "_law_pairs", fA (stm 22), .stmts (fB (stm 22)), fS (stm 22), 0, [], .none, .none, .none, .none, none, .none, .none, 0⟩), #[]⟩),
(nat_lit 165, ⟨(.type "code"), none, (.fields #[(.str "_law_pairs" 435), (.str "_law_pairs" 436), (.str "/claim/cut.py" 437), (.int 198 0), (.int 3 0), (.int 0 0), (.int 0 0), (.int 3 0), (.ref 162), (.bool .true), (.int 181 0), (.ref 163), .none, .none, .none, (.ref 164), (.int 438 0), (.int 198 0), (.str "/claim/cut.py" 439)]), #[]⟩),
(nat_lit 166, ⟨(.type "function"), none, (.func ⟨"_law_pairs", "_law_pairs", fA (stm 22), .stmts (fB (stm 22)), fS (stm 22), 3, [], .none, .none, .none, (.str "law_pe0202_01" 360), none, (.ref 165), .none, 0⟩), #[]⟩),
(nat_lit 167, ⟨(.type "tuple"), none, (.seq #[] 0), #[]⟩),
(nat_lit 168, ⟨.none, none, (.fields #[]), #[]⟩),
(nat_lit 169, ⟨.none, none, (.func ⟨"law", "law", fA (stm 23), .stmts (fB (stm 23)), fS (stm 23), 0, [], .none, .none, .none, .none, none, .none, .none, 0⟩), #[]⟩),
(nat_lit 170, ⟨(.type "code"), none, (.fields #[(.str "law" 441), (.str "law" 442), (.str "/claim/cut.py" 443), (.int 210 0), (.int 1 0), (.int 0 0), (.int 0 0), (.int 3 0), (.ref 167), (.bool .true), (.int 181 0), (.ref 168), .none, .none, .none, (.ref 169), (.int 444 0), (.int 210 0), (.str "/claim/cut.py" 445)]), #[]⟩),
(nat_lit 171, ⟨(.type "function"), none, (.func ⟨"law", "law", fA (stm 23), .stmts (fB (stm 23)), fS (stm 23), 3, [], .none, .none, .none, (.str "law_pe0202_01" 360), none, (.ref 170), .none, 0⟩), #[]⟩)]

def vw : Program := { PySem.Challenge.pw_pe0202_01 with main := { PySem.Challenge.pw_pe0202_01.main with body := [6, 7, 8, 10, 11, 12, 14, 15, 16, 17, 18, 19, 20, 21, 22, 23].map stm } }
def lo : List Str := ["insort_right", "bisect_right", "insort_left", "bisect_left"]
noncomputable def hk : Hook := kHook hd.heap_39 [0, 1, 2, 3, 4, 5, 6, 7, 8, 9, 10, 11, 12, 13, 14, 15, 16, 17, 18, 19, 20, 21, 22, 23, 24, 25, 26, 27, 28, 29, 30, 31, 32, 33, 34, 35, 36, 37, 38, 39, 40, 41, 42, 43, 44, 45, 46, 47, 48, 49, 50, 51, 52, 53, 54, 55, 56, 57, 58, 59, 60, 61, 62, 63, 64, 65, 66, 67, 68, 69, 70, 71, 79, 80, 81, 82, 83, 84, 85, 86, 87, 88, 89, 90, 91, 92, 93, 94, 95, 96, 97, 100, 101, 102, 103, 104, 105, 106, 107, 108, 109, 110, 111, 112, 113, 114, 115, 116, 117, 118, 119, 120, 121, 122, 123, 124, 125, 126, 127, 128, 129, 130, 131, 132, 133, 134, 135, 136, 137, 138, 139, 140, 141, 142, 143, 144, 145, 146, 147, 148, 149, 150, 151, 152, 153, 154, 155, 156, 157, 158, 159, 160, 161, 162, 163, 164, 165, 166, 167, 168, 169, 170, 171] (fun _ => by kernel_rfl)
def ms (P : Params) : List Obj := [
⟨(.type "tuple"), none, (.seq #[] 0), #[]⟩,
⟨(.type "builtin_function_or_method"), none, (.fields #[(.builtin "type.__prepare__"), (.type "type")]), #[]⟩,
⟨(.type "dict"), none, (.dict #[⟨(PyData.keyHash P "__module__"), (.str "__module__" 305), (.str "cpy313.pstats" 296)⟩, ⟨(PyData.keyHash P "__qualname__"), (.str "__qualname__" 307), (.str "TupleComp" 306)⟩, ⟨(PyData.keyHash P "__firstlineno__"), (.str "__firstlineno__" 309), (.int 119 308)⟩, ⟨(PyData.keyHash P "__init__"), (.str "__init__" 317), (.ref 85)⟩, ⟨(PyData.keyHash P "compare"), (.str "compare" 330), (.ref 92)⟩, ⟨(PyData.keyHash P "__static_attributes__"), (.str "__static_attributes__" 332), (.ref 93)⟩] 6), #[]⟩,
⟨(.type "tuple"), none, (.seq #[] 0), #[]⟩,
⟨.none, none, (.fields #[(.int 121 0), (.int 4 0), (.ref 84), (.int 124 0), (.int 4 0), (.ref 91)]), #[]⟩,
⟨(.type "code"), none, (.fields #[(.str "TupleComp" 300), (.str "TupleComp" 301), (.str "/claim/cut.py" 302), (.int 119 0), (.int 0 0), (.int 0 0), (.int 0 0), (.int 0 0), (.ref 75), (.bool .false), (.int 181 0), (.ref 76), .none, .none, .none, .none, (.int 303 0), (.int 119 0), (.str "/claim/cut.py" 304)]), #[]⟩,
⟨(.type "frame"), none, .plain, #[(some (.ref 77)), (some (.ref 3)), (some (.ref 74)), none, (some (.str "cpy313.pstats" 296)), none, (some (.ref 0))]⟩]
def mt : List Obj := [
⟨(.type "super"), none, (.fields #[(.ref 95), (.ref 95), (.ref 95)]), #[]⟩,
⟨(.type "builtin_function_or_method"), none, (.fields #[(.builtin "object.__init_subclass__"), (.ref 95)]), #[]⟩]
noncomputable def hl (P : Params) : List Obj := ((hd.heap_39 P).take 72).map (·.2) ++ (ms P ++ ((((hd.heap_39 P).drop 72).take 19).map (·.2) ++ (mt ++ ((hd.heap_39 P).drop 91).map (·.2))))
noncomputable def hh (P : Params) : Heap := { objs := ⟨hl P⟩ }
noncomputable def md (n : Nat) (o p : Obj) (P : Params) : Heap := { objs := ⟨(((hl P).take n).set 3 o).set 12 p⟩ }
noncomputable def m1 (P : Params) : Heap := md 15 (boot_o_3 P) ⟨.none, none, .fields #[], #[]⟩ P
noncomputable def m2 (P : Params) : Heap := md 72 ⟨(.type "dict"), none, (.dict #[⟨(PyData.keyHash P "__name__"), (.str "__name__" 165), (.str "cpy313.pstats" 296)⟩, ⟨(PyData.keyHash P "__doc__"), (.str "__doc__" 166), .none⟩, ⟨(PyData.keyHash P "__package__"), (.str "__package__" 167), .none⟩, ⟨(PyData.keyHash P "__loader__"), (.str "__loader__" 168), (.builtin "__main__.__loader__#opaque")⟩, ⟨(PyData.keyHash P "__spec__"), (.str "__spec__" 169), .none⟩, ⟨(PyData.keyHash P "__annotations__"), (.str "__annotations__" 170), (.ref 6)⟩, ⟨(PyData.keyHash P "__builtins__"), (.str "__builtins__" 171), (.ref 4)⟩, ⟨(PyData.keyHash P "__file__"), (.str "__file__" 173), (.str "/claim/cut.py" 172)⟩, ⟨(PyData.keyHash P "__cached__"), (.str "__cached__" 174), .none⟩, ⟨(PyData.keyHash P "insort_right"), (.str "insort_right" 201), (.ref 23)⟩, ⟨(PyData.keyHash P "bisect_right"), (.str "bisect_right" 215), (.ref 32)⟩, ⟨(PyData.keyHash P "insort_left"), (.str "insort_left" 228), (.ref 41)⟩, ⟨(PyData.keyHash P "bisect_left"), (.str "bisect_left" 242), (.ref 50)⟩, ⟨(PyData.keyHash P "rgb_to_hls"), (.str "rgb_to_hls" 263), (.ref 57)⟩, ⟨(PyData.keyHash P "rgb_to_hsv"), (.str "rgb_to_hsv" 281), (.ref 64)⟩, ⟨(PyData.keyHash P "hsv_to_rgb"), (.str "hsv_to_rgb" 295), (.ref 71)⟩] 16), #[]⟩
  ⟨.none, none, (.fields #[(.int 2 0), (.int 0 0), (.ref 22), (.int 8 0), (.int 0 0), (.ref 31), (.int 28 0), (.int 0 0), (.ref 40), (.int 34 0), (.int 0 0), (.ref 49), (.int 55 0), (.int 0 0), (.ref 56), (.int 78 0), (.int 0 0), (.ref 63), (.int 97 0), (.int 0 0), (.ref 70)]), #[]⟩ P
noncomputable def m3 (P : Params) : Heap := md 121 ⟨(.type "dict"), none, (.dict #[⟨(PyData.keyHash P "__name__"), (.str "__name__" 165), (.str "law_pe0202_01" 360)⟩, ⟨(PyData.keyHash P "__doc__"), (.str "__doc__" 166), .none⟩, ⟨(PyData.keyHash P "__package__"), (.str "__package__" 167), .none⟩, ⟨(PyData.keyHash P "__loader__"), (.str "__loader__" 168), (.builtin "__main__.__loader__#opaque")⟩, ⟨(PyData.keyHash P "__spec__"), (.str "__spec__" 169), .none⟩, ⟨(PyData.keyHash P "__annotations__"), (.str "__annotations__" 170), (.ref 6)⟩, ⟨(PyData.keyHash P "__builtins__"), (.str "__builtins__" 171), (.ref 4)⟩, ⟨(PyData.keyHash P "__file__"), (.str "__file__" 173), (.str "/claim/cut.py" 172)⟩, ⟨(PyData.keyHash P "__cached__"), (.str "__cached__" 174), .none⟩, ⟨(PyData.keyHash P "insort_right"), (.str "insort_right" 201), (.ref 23)⟩, ⟨(PyData.keyHash P "bisect_right"), (.str "bisect_right" 215), (.ref 32)⟩, ⟨(PyData.keyHash P "insort_left"), (.str "insort_left" 228), (.ref 41)⟩, ⟨(PyData.keyHash P "bisect_left"), (.str "bisect_left" 242), (.ref 50)⟩, ⟨(PyData.keyHash P "rgb_to_hls"), (.str "rgb_to_hls" 263), (.ref 57)⟩, ⟨(PyData.keyHash P "rgb_to_hsv"), (.str "rgb_to_hsv" 281), (.ref 64)⟩, ⟨(PyData.keyHash P "hsv_to_rgb"), (.str "hsv_to_rgb" 295), (.ref 71)⟩, ⟨(PyData.keyHash P "TupleComp"), (.str "TupleComp" 339), (.ref 95)⟩, ⟨(PyData.keyHash P "add_callers"), (.str "add_callers" 350), (.ref 106)⟩, ⟨(PyData.keyHash P "count_calls"), (.str "count_calls" 359), (.ref 113)⟩, ⟨(PyData.keyHash P "_law_row"), (.str "_law_row" 380), (.ref 120)⟩] 20), #[]⟩
  ⟨.none, none, (.fields #[(.int 2 0), (.int 0 0), (.ref 22), (.int 8 0), (.int 0 0), (.ref 31), (.int 28 0), (.int 0 0), (.ref 40), (.int 34 0), (.int 0 0), (.ref 49), (.int 55 0), (.int 0 0), (.ref 56), (.int 78 0), (.int 0 0), (.ref 63), (.int 97 0), (.int 0 0), (.ref 70), (.int 119 0), (.int 0 0), (.ref 77), (.int 133 0), (.int 0 0), (.ref 105), (.int 146 0), (.int 0 0), (.ref 112), (.int 152 0), (.int 0 0), (.ref 119)]), #[]⟩ P
abbrev pg : Program := PySem.Challenge.rw_pe0202_01.row.toRowW.prog
def en : Env := { scope := PySem.Challenge.pw_pe0202_01.main.scope, locals := mainNs, globals := mainNs, cells := [], code := .ref 13, frame := some 14 }
def cE : Code := .body (behindTheImports pg) en
def q0 : Pos := ⟨0, 0, 0, 0⟩
def an : Option Value := some (.ref 6)
def l1 : List Stmt := (behindTheImports pg).take 10
def l2 : List Stmt := ((behindTheImports pg).drop 10).take 5
def l3 : List Stmt := (behindTheImports pg).drop 15
theorem r1 (w : World) (os : OsState) : topGo treeTable pg w 11 an 12 ⟨boot_heap w.params, #[], boot_drawn, boot_toks, os⟩ (topStub pg) = some (⟨m1 w.params, #[], {}, 187, os⟩, ⟨denote treeTable (.body (behindTheImports pg) en), cE, q0, [topFrame q0]⟩) := by kernel_rfl
theorem r2 (w : World) (os : OsState) : segRun treeTable pg w 11 an 1 1 ⟨m1 w.params, #[], {}, 187, os⟩ (blockOf (behindTheImports pg) en cE q0 [topFrame q0]) = some (.next, ⟨m1 w.params, #[], {}, 187, os⟩, cE, q0) := by kernel_rfl
theorem r3 (w : World) (os : OsState) : segRun treeTable pg w 11 an 1 307 ⟨m1 w.params, #[], {}, 187, os⟩ (piecesOf l1 en cE q0 [topFrame q0]) = some (.next, ⟨m2 w.params, #[], {}, 298, os⟩, cE, ⟨118, 0, 118, 8⟩) := by kernel_rfl
theorem r4 (w : World) (os : OsState) : segRun treeTable pg w 11 an 1 374 ⟨m2 w.params, #[], {}, 298, os⟩ (piecesOf l2 en cE ⟨118, 0, 118, 8⟩ [topFrame q0]) = some (.next, ⟨m3 w.params, #[], {}, 381, os⟩, cE, ⟨152, 0, 156, 59⟩) := by
  rw [Fast.te14374325043358763698, Fast.te14364793385576792824]
  kernel_rfl
theorem r5 (w : World) (os : OsState) : segRun treeTable pg w 11 an 1 253 ⟨m3 w.params, #[], {}, 381, os⟩ (piecesOf l3 en cE ⟨152, 0, 156, 59⟩ [topFrame q0]) = some (.next, ⟨hh w.params, #[], {}, 447, os⟩, cE, ⟨210, 0, 237, 25⟩) := by kernel_rfl
theorem r6 (w : World) (os : OsState) : topRun treeTable pg w 11 an 2 ⟨hh w.params, #[], {}, 447, os⟩ (restOf [] en cE ⟨210, 0, 237, 25⟩ [topFrame q0]) = some ⟨hh w.params, #[], {}, 447, os⟩ := by kernel_rfl
theorem r0 : restOf (behindTheImports pg) en cE q0 [topFrame q0] = restOf (l1 ++ (l2 ++ (l3 ++ []))) en cE q0 [topFrame q0] := by kernel_rfl
theorem l_run (w : World) (os : OsState) : topRun treeTable pg w 11 an (12 + (1 + (307 + (374 + (253 + 2))))) ⟨boot_heap w.params, #[], boot_drawn, boot_toks, os⟩ (topStub pg) = some ⟨hh w.params, #[], {}, 447, os⟩ :=
  go_top (r1 w os) (piece_block (r2 w os) (by rw [r0]; exact piece_app (r3 w os) (piece_app (r4 w os) (piece_app (r5 w os) (r6 w os)))))
theorem l_size (w : World) : ((boot_heap w.params).isNs mainGlobals && (#[] : Array GenState).size == 0, (boot_heap w.params).objs.size, (boot_heap w.params).nsMap mainGlobals "__annotations__") = (true, 11, an) := by kernel_rfl
theorem l_looks (w : World) : (fun os => ((staticsOk (importedModules pg.main.body) (boot_heap w.params) (hh w.params) && namesBound pg (hh w.params) && gensDone ⟨hh w.params, #[], {}, 447, os⟩ && laidKept (boot_heap w.params) (hh w.params)),
    openSeen vw lo (importedModules pg.main.body) (fun s => xlAt vw [] s && recOk PySem.Challenge.rw_pe0202_01.row.toRowW.records s) true ⟨hh w.params, #[], {}, 447, os⟩, hk.obs ⟨hh w.params, #[], {}, 447, os⟩)) = fun _ => (true, openGood vw lo, hk.val w) := by kernel_rfl
theorem left : LeftO pg vw lo (fun s => xlAt vw [] s && recOk PySem.Challenge.rw_pe0202_01.row.toRowW.records s) hk.obs hk.val 1988 :=
  LeftO.of_pieces (boot_open (by kernel_rfl) (by decide) (fun _ => by kernel_rfl)) l_size l_run (by decide) l_looks
theorem said3 : looksOpen PySem.Challenge.rw_pe0202_01.row.prog = true := by
  unfold looksOpen
  refine look_both (look_both (look_both (look_both (look_both ?_ ?_) ?_) ?_) ?_) ?_ <;> decide +kernel
theorem said2 : PySem.Challenge.rw_pe0202_01.row.wellSaid = true := by
  unfold OpenRow.wellSaid
  refine look_both (look_both ?_ (by decide +kernel)) (by decide +kernel)
  unfold OpenRow.partSaid
  refine look_both (look_both (look_both (look_both (look_both (look_both (look_both (look_both (look_both (look_both (look_both (look_both (look_both said3 ?_) ?_) ?_) ?_) ?_) ?_) ?_) ?_) ?_) ?_) ?_) ?_) ?_ <;> decide +kernel
theorem said : PySem.Challenge.rw_pe0202_01.wellSaid = true := by
  unfold OpenLaw.wellSaid
  refine look_both (look_both (look_both (look_both (look_both (look_both (look_both (look_both (look_both (look_both (look_both (look_both (look_both (look_both (look_both (look_both (look_both (look_both said2 ?_) ?_) ?_) ?_) ?_) ?_) ?_) ?_) ?_) ?_) ?_) ?_) ?_) ?_) ?_) ?_) ?_) ?_ <;> decide +kernel
noncomputable def dl : DefRec := ⟨"law", fA (stm 23), fB (stm 23), fS (stm 23), ⟨210, 0, 237, 25⟩⟩
theorem hd (walk : WalkO vw lo (XL vw []) hk.says PySem.Challenge.rw_pe0202_01.row.toRowW dl [] fun f vs => PySem.call f vs) : PySem.Challenge.rw_pe0202_01.Holds :=
  holds_law said fun sd => holds_open left hk.of hk.keeps (fun s e => xl_of s (Bool.and_eq_true_iff.mp e).1) XL.keeps (by kernel_rfl) (by kernel_rfl) (by kernel_rfl) (fun s e => recFacts_of (Bool.and_eq_true_iff.mp e).2) (by kernel_rfl) sd (by decide +kernel) ⟨rfl, rfl, rfl, rfl, rfl, by decide +kernel⟩ ⟨[.list []], by decide +kernel, by decide +kernel⟩ walk
end Mine
end
section
open PySem PySem.W PyProof.Rows PySem.Spec PySem.Calls
namespace Mine

abbrev Le (h h' : Heap) : Prop := ∀ b o, h.get? b = some o → h'.get? b = some o
theorem Le.refl (h : Heap) : Le h h := fun _ _ e => e
theorem Le.trans {a b c : Heap} (x : Le a b) (y : Le b c) : Le a c := fun p o e => y p o (x p o e)

theorem isl {h h' : Heap} {l : Addr} {items : Array Value} (hl : h.IsList l items) (le : Le h h') : h'.IsList l items := let ⟨o, a, r⟩ := hl; ⟨o, le _ _ a, r⟩
noncomputable abbrev KK (w : World) : Frag := Mine.hd.heap_39 w.params
def tabs : List Nat := [101, 136, 168]
def Gd (w : World) (h : Heap) : Prop := ∀ a o, (KK w).lookup a = some o → a ∉ tabs → h.get? a = some o
theorem Gd.mono {w : World} {h h' : Heap} (G : Gd w h) (l : Le h h') : Gd w h' := fun a o e n => l a o (G a o e n)

abbrev Loc := List (Str × Value)
structure Sx (h₀ : Heap) (L : Addr) (m : List (Str × Value)) (ns : List (Addr × Obj)) (h : Heap) : Prop where
  loc : ∃ f, h.Ns L f ∧ ∀ x v, m.lookup x = some v → f x = some v
  keep : Le h₀ h
  off : h₀.get? L = none
  new : ∀ p ∈ ns, h.get? p.1 = some p.2 ∧ p.1 ≠ L ∧ h₀.get? p.1 = none
  nod : (ns.map (·.1)).Nodup

section
variable {h₀ h h' : Heap} {L : Addr} {m m' : List (Str × Value)} {ns : List (Addr × Obj)}
theorem Sx.keeps (S : Sx h₀ L m ns h) (l : Le h h') : Sx h₀ L m ns h' :=
  let ⟨f, hn, hf⟩ := S.loc
  ⟨⟨f, hn.keeps l, hf⟩, S.keep.trans l, S.off, fun p hp => ⟨l _ _ (S.new p hp).1, (S.new p hp).2⟩, S.nod⟩
theorem Sx.forget (S : Sx h₀ L m ns h) (hm : ∀ p ∈ m', m.lookup p.1 = some p.2) : Sx h₀ L m' ns h := by
  obtain ⟨f, hn, hf⟩ := S.loc
  refine ⟨⟨f, hn, fun x v e => hf x v ?_⟩, S.keep, S.off, S.new, S.nod⟩
  have : (x, v) ∈ m' := by
    clear hm
    induction m' with
    | nil => cases e
    | cons p r ih =>
      obtain ⟨y, u⟩ := p
      rw [List.lookup_cons] at e
      cases q : x == y with
      | true => rw [q] at e; cases e; rw [beq_iff_eq.mp q]; exact .head _
      | false => rw [q] at e; exact .tail _ (ih e)
  exact hm _ this
theorem Sx.get (S : Sx h₀ L m ns h) {a : Addr} {o : Obj} (e : h₀.get? a = some o) : h.get? a = some o := S.keep a o e
theorem Sx.drop (S : Sx h₀ L m ns h) {ns' : List (Addr × Obj)} (hs : ns'.Sublist ns) : Sx h₀ L m ns' h :=
  ⟨S.loc, S.keep, S.off, fun p hp => S.new p (hs.subset hp), S.nod.sublist (hs.map _)⟩
theorem Sx.reorder (S : Sx h₀ L m ns h) {ns' : List (Addr × Obj)} (hs : ns'.Perm ns) : Sx h₀ L m ns' h :=
  ⟨S.loc, S.keep, S.off, fun p hp => S.new p (hs.mem_iff.mp hp), (hs.map _).nodup_iff.mpr S.nod⟩
theorem Sx.upd {a : Addr} {o o' : Obj} (S : Sx h₀ L m ((a, o) :: ns) h) (hs : Heap.SameBut a h h') (he : h'.get? a = some o') : Sx h₀ L m ((a, o') :: ns) h' := by
  obtain ⟨f, hn, hf⟩ := S.loc
  have A := S.new (a, o) (.head _)
  have nd := List.nodup_cons.mp S.nod
  refine ⟨⟨f, hn.sameBut hs (Ne.symm A.2.1), hf⟩, fun b ob e => (hs.2 b fun q => ?_).trans (S.keep b ob e), S.off, fun p hp => ?_, S.nod⟩
  · subst q; rw [A.2.2] at e; cases e
  · rcases List.mem_cons.mp hp with rfl | hp
    · exact ⟨he, A.2⟩
    · have P := S.new p (.tail _ hp)
      exact ⟨(hs.2 p.1 fun q => nd.1 (List.mem_map.mpr ⟨p, hp, q⟩)).trans P.1, P.2⟩
/-- a new thing -/
theorem Sx.alloc (S : Sx h₀ L m ns h) (o : Obj) (hf : o.isFreed = false := by rfl) : Sx h₀ L m ((h.objs.size, o) :: ns) (h.push o) := by
  obtain ⟨f, hn, hf'⟩ := S.loc
  refine ⟨⟨f, hn.push o, hf'⟩, fun b ob e => Heap.get?_push_of_some _ (S.keep b ob e), S.off, fun p hp => ?_, List.nodup_cons.mpr ⟨fun q => ?_, S.nod⟩⟩
  · rcases List.mem_cons.mp hp with rfl | hp
    · refine ⟨Heap.get?_push_size _ hf, Nat.ne_of_gt hn.lt, ?_⟩
      cases q : h₀.get? h.objs.size with
      | none => rfl
      | some o' => exact absurd (Heap.lt_size (S.keep _ _ q)) (Nat.lt_irrefl _)
    · have P := S.new p hp
      exact ⟨Heap.get?_push_of_some _ P.1, P.2⟩
  · obtain ⟨p, hp, e⟩ := List.mem_map.mp q
    have := Heap.lt_size (S.new p hp).1
    exact absurd e (Nat.ne_of_lt this)
end

section
variable {M : Model} {A : Around} {E : Value → Shared → Prop} {s : Shared} {env : Env} {h₀ : Heap} {L : Addr} {m : List (Str × Value)} {ns : List (Addr × Obj)} {x : Str} {v : Value}
theorem n_loc {pos : Pos} {Q : Value → Shared → Prop} (S : Sx h₀ env.locals m ns s.heap) (hv : m.lookup x = some v) (h : Q v s)
    (hk : env.scope.kind = .function := by rfl) (hl : env.kindOf x = some .local := by rfl) (hd : (x == ("__debug__" : Str)) = false := by rfl) :
    wpAny M A (eval (.Name x pos) env) Q E s := by
  obtain ⟨f, hn, hf⟩ := S.loc
  exact wpAny_Name (wpAny_loadName_local hk hl hn (hf _ _ hv) h) hd
theorem l_loc {Q : Value → Shared → Prop} (S : Sx h₀ env.locals m ns s.heap) (hv : m.lookup x = some v) (h : Q v s)
    (hk : env.scope.kind = .function := by rfl) (hl : env.kindOf x = some .local := by rfl) :
    wpAny M A (loadName env x) Q E s := by
  obtain ⟨f, hn, hf⟩ := S.loc
  exact wpAny_loadName_local hk hl hn (hf _ _ hv) h
theorem st_loc {h : Heap} {g : Array GenState} {d : Drawn} {t : Nat} {os : OsState} {Q : Unit → Shared → Prop} (S : Sx h₀ env.locals m ns h)
    (H : ∀ h' tk, Sx h₀ env.locals ((x, v) :: m) ns h' → Q () ⟨h', g, d, tk + 1, os⟩)
    (hk : env.scope.kind = .function := by rfl) (hl : env.kindOf x = some .local := by rfl) :
    wpAny M A (storeName env x v) Q E ⟨h, g, d, t, os⟩ := by
  obtain ⟨f, hn, hf⟩ := S.loc
  refine wpAny_storeName_local hl hn (fun h' hn' hs => H h' _ ⟨⟨_, hn', fun y u e => ?_⟩, fun b o e => ?_, S.off, fun p hp => ?_, S.nod⟩)
    (by rw [hk]; rfl)
  · rw [List.lookup_cons] at e
    by_cases q : y = x
    · subst q; simpa using e
    · rw [beq_eq_false_iff_ne.mpr q] at e; rw [if_neg q]; exact hf _ _ e
  · refine (hs.2 b fun q => ?_).trans (S.keep b o e)
    rw [q, S.off] at e; cases e
  · have P := S.new p hp
    exact ⟨(hs.2 p.1 P.2.1).trans P.1, P.2⟩
end


def strKeysB (es : Array DictEntry) : Bool := es.toList.all fun e => match e.key with | .str .. => true | _ => false
theorem strKeys_of {es : Array DictEntry} (h : strKeysB es = true) : StrKeys es := fun e he => by
  have := List.all_eq_true.mp h e (by simpa using he)
  revert this
  cases e.key <;> first | (intro h; cases h; done) | exact fun _ => ⟨_, _, rfl⟩
/-- a dict of the top's, as a table -/
noncomputable def tbl (w : World) (a : Nat) : Array DictEntry := match (KK w).lookup a with
  | some ⟨_, _, .dict es _, _⟩ => es
  | _ => #[]
theorem Gd.ns {w : World} {h : Heap} (G : Gd w h) (a : Nat) {o : Obj} {n : Nat} (e : (KK w).lookup a = some o) (d : o.data = .dict (tbl w a) n) (na : a ∉ tabs) (k : strKeysB (tbl w a) = true) :
    h.Ns a (nsFind (tbl w a)) := ⟨o, tbl w a, n, G a o e na, d, strKeys_of k, fun _ => rfl⟩
theorem Gd.g {w : World} {h : Heap} (G : Gd w h) : h.Ns mainGlobals (nsFind (tbl w mainGlobals)) := G.ns mainGlobals rfl rfl (by decide) rfl
theorem Gd.b {w : World} {h : Heap} (G : Gd w h) : h.Ns builtinsNs (nsFind (tbl w builtinsNs)) := G.ns builtinsNs rfl rfl (by decide) rfl
theorem Gd.c {w : World} {h : Heap} (G : Gd w h) : h.NoLimit := ⟨_, G.ns cStatics rfl rfl (by decide) rfl, rfl⟩
noncomputable def glb (w : World) (x : Str) : Option Value := nsFind (tbl w mainGlobals) x
noncomputable def bit (w : World) (x : Str) : Option Value := nsFind (tbl w builtinsNs) x
section
variable {w : World} {M : Model} {A : Around} {E : Value → Shared → Prop} {s : Shared} {env : Env} {x : Str} {v : Value} {Q : Value → Shared → Prop}
theorem n_glb {pos : Pos} (G : Gd w s.heap) (hv : glb w x = some v) (h : Q v s) (hk : env.scope.kind = .function := by rfl) (hx : env.kindOf x = some .globalImplicit := by rfl)
    (hg : env.globals = mainGlobals := by rfl) (hd : (x == ("__debug__" : Str)) = false := by rfl) : wpAny M A (eval (.Name x pos) env) Q E s :=
  Name_function_global hk hx (loadGlobal_global (hg ▸ G.g) hv h) hd
theorem n_bit {pos : Pos} (G : Gd w s.heap) (hn : glb w x = none) (hv : bit w x = some v) (h : Q v s) (hk : env.scope.kind = .function := by rfl) (hx : env.kindOf x = some .globalImplicit := by rfl)
    (hg : env.globals = mainGlobals := by rfl) (hb : env.builtins = builtinsNs := by rfl) (hd : (x == ("__debug__" : Str)) = false := by rfl) : wpAny M A (eval (.Name x pos) env) Q E s :=
  Name_function_global hk hx (loadGlobal_builtin (hg ▸ G.g) hn (hb ▸ G.b) hv h) hd
end
/-- a def of the top's -/
noncomputable def fdAt (w : World) (a : Nat) : FuncData := match (KK w).lookup a with
  | some ⟨_, _, .func fd, _⟩ => fd
  | _ => default
theorem gl_bisect_right (w : World) : glb w "bisect_right" = some (.ref 32) := rfl
theorem gl_bisect_left (w : World) : glb w "bisect_left" = some (.ref 50) := rfl
theorem gn_len (w : World) : glb w "len" = none := rfl
theorem bi_len (w : World) : bit w "len" = some (.builtin "len") := rfl

theorem Gd.code {w : World} {h : Heap} (G : Gd w h) {cd : Value} {q : Str} {c : Nat} {o : Obj} {vs : Array Value} {t : Tok} (hc : cd = .ref c) (ho : (KK w).lookup c = some o) (hd : o.data = .fields vs) (hq : vs[1]? = some (.str q t)) (na : c ∉ tabs) :
    h.CodeRec cd q := ⟨c, o, vs, t, hc, G c o ho na, hd, hq⟩
abbrev Ar (d u : Nat) : Around := { handled := none, depth := 300 + d, frames := none, guards := none, units := u }
section
variable {prog : Program} {w : World} {n u : Nat} {h : Heap} {g : Array GenState} {d : Drawn} {t : Nat} {os : OsState} {Q E : Value → Shared → Prop} {a : Addr} {o : Obj} {fd : FuncData} {body : List Stmt} {args : List Value} {kw : List (Str × Value)} {binds : List (Str × Value)}
/-- a call of a def: base h₀, the mutable things ns -/
theorem enterN {h₀ : Heap} {ns : List (Addr × Obj)} (hle : Le h₀ h) (hns : ∀ p ∈ ns, h.get? p.1 = some p.2 ∧ h₀.get? p.1 = none) (hnd : (ns.map (·.1)).Nodup)
    (ho : h.get? a = some o) (hdata : o.data = .func fd) (hlim : h.NoLimit) (hcd : h.CodeRec fd.code fd.qualname) (hroom : 300 + n < recursionLimit)
    (hbody : fd.body = .stmts body) (hbind : BindsTo ⟨h, g, d, t, os⟩ fd ⟨args, kw⟩ binds)
    (hcell : ∀ x ∈ fd.scope.names, x.2 ≠ .cell) (hloc : ∀ x ∈ binds, fd.scope.names.lookup x.1 = some .local)
    (H : ∀ L h' t', Sx h₀ L binds.reverse ns h' → wpAny (model prog w) (Ar (n + 1) (u + 3)) (execs body (callEnv fd L a)) (fun f s' => Q (match f with | .ret v => v | _ => .none) s') (fun _ _ => False) ⟨h', g, d, t', os⟩)
    (hco : fd.scope.isCoroutine = false) (hgen : fd.scope.isGenerator = false) (hk : fd.scope.kind = .function) : wpAny (model prog w) (Ar n u) (call (.ref a) args kw) Q E ⟨h, g, d, t, os⟩ := by
  refine wpAny_call (codeAny_call_def hroom ho hdata hlim hcd hbody hbind hcell hloc (fun h₁ hn hk₁ => ?_) hco hgen hk)
  refine wpAny_mono (H h.objs.size h₁ _ ⟨⟨_, hn, fun x v e => e⟩, hle.trans hk₁, ?_, fun p hp => ⟨hk₁ _ _ (hns p hp).1, ?_, (hns p hp).2⟩, hnd⟩) (fun f s' q => q) (fun _ _ q => q.elim)
  · cases q : h₀.get? h.objs.size with
    | none => rfl
    | some o => exact absurd (Heap.lt_size (hle _ _ q)) (Nat.lt_irrefl _)
  · exact Nat.ne_of_lt (Heap.lt_size (hns p hp).1)
theorem enter (G : Gd w h) (ho : (KK w).lookup a = some o) (na : a ∉ tabs) (hdata : o.data = .func fd) {c : Nat} {oc : Obj} {vs : Array Value} {tq : Tok} (hc : fd.code = .ref c) (hco : (KK w).lookup c = some oc) (hcd : oc.data = .fields vs) (hq : vs[1]? = some (.str fd.qualname tq)) (nc : c ∉ tabs) (hroom : 300 + n < recursionLimit)
    (hbody : fd.body = .stmts body) (hbind : BindsTo ⟨h, g, d, t, os⟩ fd ⟨args, kw⟩ binds)
    (hcell : ∀ x ∈ fd.scope.names, x.2 ≠ .cell) (hloc : ∀ x ∈ binds, fd.scope.names.lookup x.1 = some .local)
    (H : ∀ L h' t', Sx h L binds.reverse [] h' → wpAny (model prog w) (Ar (n + 1) (u + 3)) (execs body (callEnv fd L a)) (fun f s' => Q (match f with | .ret v => v | _ => .none) s') (fun _ _ => False) ⟨h', g, d, t', os⟩)
    (hco : fd.scope.isCoroutine = false) (hgen : fd.scope.isGenerator = false) (hk : fd.scope.kind = .function) : wpAny (model prog w) (Ar n u) (call (.ref a) args kw) Q E ⟨h, g, d, t, os⟩ :=
  enterN (h₀ := h) (ns := []) (Le.refl _) (fun _ hp => nomatch hp) List.nodup_nil (G a o ho na) hdata G.c (G.code hc ‹_› hcd hq nc) hroom hbody hbind hcell hloc H hco hgen hk
end
end Mine
end
section
open PySem PySem.W PyProof.Rows PySem.Spec PySem.Calls
namespace Mine
/-! named continuations: they keep the proofs' terms small -/
section
variable (M : Model) (A : Around)
abbrev kNext (env : Env) (rest : List Stmt) (Q : Flow → Shared → Prop) (E : Value → Shared → Prop) (_ : Unit) (s : Shared) : Prop := wpAny M A (execs rest env) Q E s
abbrev kSet (env : Env) (x : Str) (rest : List Stmt) (Q : Flow → Shared → Prop) (E : Value → Shared → Prop) (v : Value) (s : Shared) : Prop := wpAny M A (storeName env x v) (kNext M A env rest Q E) E s
abbrev kRet (Q : Flow → Shared → Prop) (v : Value) (s : Shared) : Prop := Q (.ret v) s
abbrev kIf (env : Env) (a b : List Stmt) (Q : Flow → Shared → Prop) (E : Value → Shared → Prop) (c : Bool) (s : Shared) : Prop := (c = true → wpAny M A (execs a env) Q E s) ∧ (c = false → wpAny M A (execs b env) Q E s)
abbrev kBoo (Q : Bool → Shared → Prop) (c : Value) (s : Shared) : Prop := ∃ b, c = .bool b ∧ Q b s
abbrev kCmpR (op : CmpOp) (a : Value) (Q : Value → Shared → Prop) (E : Value → Shared → Prop) (b : Value) (s : Shared) : Prop := wpAny M A (compareOp op a b) Q E s
abbrev kCmpL (env : Env) (r : Expr) (op : CmpOp) (Q : Value → Shared → Prop) (E : Value → Shared → Prop) (a : Value) (s : Shared) : Prop := wpAny M A (eval r env) (kCmpR M A op a Q E) E s
abbrev kBinR (op : Operator) (a : Value) (Q : Value → Shared → Prop) (E : Value → Shared → Prop) (b : Value) (s : Shared) : Prop := wpAny M A (binaryOp op a b) Q E s
abbrev kBinL (env : Env) (r : Expr) (op : Operator) (Q : Value → Shared → Prop) (E : Value → Shared → Prop) (a : Value) (s : Shared) : Prop := wpAny M A (eval r env) (kBinR M A op a Q E) E s
abbrev kCons (Q : List Value → Shared → Prop) (v : Value) (vs : List Value) (s : Shared) : Prop := Q (v :: vs) s
abbrev kArg (env : Env) (pos : Pos) (rest : List Expr) (Q : List Value → Shared → Prop) (E : Value → Shared → Prop) (v : Value) (s : Shared) : Prop := wpAny M A (spliced (backTo pos (starEach rest env))) (kCons Q v) E s
abbrev kCallF (a : Addr) (Q : Value → Shared → Prop) (E : Value → Shared → Prop) (vs : List Value) (s : Shared) : Prop := (∃ o fd, s.heap.get? a = some o ∧ o.data = .func fd) ∧ wpAny M A (call (.ref a) vs) Q E s
abbrev kFunF (env : Env) (pos : Pos) (args : List Expr) (Q : Value → Shared → Prop) (E : Value → Shared → Prop) (fv : Value) (s : Shared) : Prop := ∃ a, fv = .ref a ∧ wpAny M A (spliced (backTo pos (starEach args env))) (kCallF M A a Q E) E s
abbrev kCallV (f : Value) (Q : Value → Shared → Prop) (E : Value → Shared → Prop) (vs : List Value) (s : Shared) : Prop := wpAny M A (call f vs) Q E s
abbrev kFunV (env : Env) (pos : Pos) (args : List Expr) (f : Value) (Q : Value → Shared → Prop) (E : Value → Shared → Prop) (fv : Value) (s : Shared) : Prop := fv = f ∧ wpAny M A (spliced (backTo pos (starEach args env))) (kCallV M A f Q E) E s
abbrev kSubR (value slice : Expr) (o : Value) (Q : Value → Shared → Prop) (E : Value → Shared → Prop) (i : Value) (s : Shared) : Prop := wpAny M A (subscriptTail value slice o i) Q E s
abbrev kSubL (env : Env) (value slice : Expr) (Q : Value → Shared → Prop) (E : Value → Shared → Prop) (o : Value) (s : Shared) : Prop := wpAny M A (eval slice env) (kSubR M A value slice o Q E) E s
abbrev kNeg (Q : Value → Shared → Prop) (E : Value → Shared → Prop) (v : Value) (s : Shared) : Prop := wpAny M A (unaryOp .USub v) Q E s
abbrev kAss (l : List (Value → Sem Unit)) (vs : List Value) (Q : Unit → Shared → Prop) (E : Value → Shared → Prop) (_ : Unit) (s : Shared) : Prop := wpAny M A (assignInOrder l vs) Q E s
end
theorem ar_le {α : Type} {M : Model} {A : Around} {d u : Nat} {t : Sem α} {Q : α → Shared → Prop} {E : Value → Shared → Prop} {s : Shared} (h : wpAny M (Ar d u) t Q E s) (hh : A.handled = none) (hd : A.depth ≤ 300 + d) (hu : A.units ≤ u) : wpAny M A t Q E s := by
  intro Γ p hΓ
  refine h Γ p ⟨hΓ.1.trans hh, Nat.le_trans hΓ.2.1 hd, ?_, ?_, Nat.le_trans hΓ.2.2.2.2 hu⟩
  · intro _ e; cases e
  · intro _ e; cases e
theorem wp_e {α : Type} {M : Model} {A : Around} {t : Sem α} {Q : α → Shared → Prop} {E : Value → Shared → Prop} {s : Shared} (h : wpAny M A t Q (fun _ _ => False) s) : wpAny M A t Q E s :=
  wpAny_mono h (fun _ _ q => q) fun _ _ q => q.elim
section
variable {M : Model} {A : Around} {E : Value → Shared → Prop} {s : Shared} {env : Env} {rest body orelse : List Stmt} {Q : Flow → Shared → Prop} {pos pos' : Pos}
def andThen (rest : List Stmt) (env : Env) : Flow → Sem Flow
  | .next => execs rest env
  | f => pure f
theorem execs_app : ∀ (l : List Stmt), execs (l ++ rest) env = (execs l env >>= andThen rest env)
  | [] => rfl
  | st :: l => by
    rw [List.cons_append, execs_cons, execs_cons, bind_assoc]
    refine bind_congr fun f => ?_
    cases f with
    | next => exact execs_app l
    | brk => rfl
    | cont => rfl
    | ret v => rfl
theorem execs_If {test : Expr} : execs (.If test body orelse pos :: rest) env = (do standAt pos; if ← isTrue test env (eval test env) then execs (body ++ rest) env else execs (orelse ++ rest) env) := by
  rw [execs_cons, exec_If, bind_assoc]
  refine bind_congr fun _ => ?_
  rw [bind_assoc]
  refine bind_congr fun b => ?_
  cases b with
  | true => simp only [if_true]; rw [execs_app]; refine bind_congr fun f => ?_; cases f <;> rfl
  | false => simp only [Bool.false_eq_true, if_false]; rw [execs_app]; refine bind_congr fun f => ?_; cases f <;> rfl
theorem x_if {test : Expr} (h : wpAny M A (isTrue test env (eval test env)) (kIf M A env (body ++ rest) (orelse ++ rest) Q E) E s) :
    wpAny M A (execs (.If test body orelse pos :: rest) env) Q E s := by
  rw [execs_If]
  refine wpAny_bind (wpAny_standAt (wpAny_bind (wpAny_mono h (fun b s₂ q => ?_) fun _ _ e => e)))
  cases b with
  | true => exact q.1 rfl
  | false => exact q.2 rfl
theorem x_ret {e : Expr} (h : wpAny M A (eval e env) (kRet Q) E s) : wpAny M A (execs (.Return (some e) pos :: rest) env) Q E s :=
  wpAny_execs_cons (wpAny_Return_some h)
theorem x_set {x : Str} {value : Expr} (h : wpAny M A (eval value env) (kSet M A env x rest Q E) E s)
    (hs : swapsWith value (some (.Name x pos')) pos.line env = pure false := by rfl) : wpAny M A (execs (.Assign [.Name x pos'] value pos :: rest) env) Q E s :=
  wpAny_execs_cons (wpAny_Assign_Name h hs)
theorem x_aug {x : Str} {op : Operator} {value : Expr} (h : wpAny M A (loadName env x) (fun old s₁ => wpAny M A (eval value env) (fun v s₂ => wpAny M A (inplaceOp op old v)
      (fun r s₃ => wpAny M A (storeName env x r) (fun _ s₄ => wpAny M A (execs rest env) Q E s₄) E s₃) E s₂) E s₁) E s) : wpAny M A (execs (.AugAssign (.Name x pos') op value pos :: rest) env) Q E s :=
  wpAny_execs_cons (wpAny_AugAssign_Name h)
theorem x_nil (h : Q .next s) : wpAny M A (execs [] env) Q E s := wpAny_execs_nil h
theorem t_cmp {l r : Expr} {op : CmpOp} {whole : Sem Value} {Q : Bool → Shared → Prop}
    (h : wpAny M A (eval l env) (kCmpL M A env r op (kBoo Q) E) E s)
    (hm : behindInMarks op r = false := by rfl) : wpAny M A (isTrue (.Compare l [op] [r] pos) env whole) Q E s :=
  wpAny_isTrue_Compare1 (wpAny_mono h (fun _ _ h₁ => wpAny_mono h₁ (fun _ _ h₂ => wpAny_mono h₂ (fun _ _ h₃ => by obtain ⟨b, rfl, q⟩ := h₃; exact wpAny_truthy_bool q) fun _ _ e => e) fun _ _ e => e) fun _ _ e => e) hm
theorem e_cmp {l r : Expr} {op : CmpOp} {Q : Value → Shared → Prop}
    (h : wpAny M A (eval l env) (kCmpL M A env r op Q E) E s)
    (hm : behindInMarks op r = false := by rfl) : wpAny M A (eval (.Compare l [op] [r] pos) env) Q E s := wpAny_Compare1 h hm
theorem e_bin {l r : Expr} {op : Operator} {Q : Value → Shared → Prop}
    (h : wpAny M A (eval l env) (kBinL M A env r op Q E) E s) : wpAny M A (eval (.BinOp l op r pos) env) Q E s := wpAny_BinOp h
end
section
variable {M : Model} {prog : Program} {w : World} {A : Around} {E : Value → Shared → Prop} {h : Heap} {g : Array GenState} {d : Drawn} {t : Nat} {os : OsState} {env : Env} {Q : Value → Shared → Prop} {pos : Pos} {k : Nat} {a b : Int} {u v : Tok}
theorem c_int {i : Int} (H : ∀ u t', Q (.int i u) ⟨h, g, d, t' + 1, os⟩) : wpAny M A (eval (.Constant (.int i) k pos) env) Q E ⟨h, g, d, t, os⟩ := wpAny_Constant_int (H _ t)
theorem c_float {x : UInt64} (H : ∀ u t', Q (.float x u) ⟨h, g, d, t' + 1, os⟩) : wpAny M A (eval (.Constant (.float x) k pos) env) Q E ⟨h, g, d, t, os⟩ := fun _ _ _ => H _ t
theorem c_floatP {x : UInt64} (H : ∀ u t', Q (.float x (u + 1)) ⟨h, g, d, t' + 1, os⟩) : wpAny M A (eval (.Constant (.float x) k pos) env) Q E ⟨h, g, d, t + 1, os⟩ := fun _ _ _ => H t (t + 1)
theorem c_none (H : Q .none ⟨h, g, d, t, os⟩) : wpAny M A (eval (.Constant .none k pos) env) Q E ⟨h, g, d, t, os⟩ := fun _ _ _ => H
theorem c_bool {x : Bool} (H : Q (.bool x) ⟨h, g, d, t, os⟩) : wpAny M A (eval (.Constant (.bool x) k pos) env) Q E ⟨h, g, d, t, os⟩ := fun _ _ _ => H
theorem o_add (H : ∀ u t', Q (.int (a + b) u) ⟨h, g, d, t', os⟩) : wpAny (model prog w) A (binaryOp .Add (.int a u) (.int b v)) Q E ⟨h, g, d, t, os⟩ := PyProof.Rows.add_int (H _ _)
theorem o_sub (H : ∀ u t', Q (.int (a - b) u) ⟨h, g, d, t', os⟩) : wpAny (model prog w) A (binaryOp .Sub (.int a u) (.int b v)) Q E ⟨h, g, d, t, os⟩ := PyProof.Rows.sub_int (H _ _)
theorem o_fdiv (hb : b ≠ 0) (hs : b.natAbs < 1073741824) (H : ∀ u t', Q (.int (a.fdiv b) u) ⟨h, g, d, t', os⟩) : wpAny (model prog w) A (binaryOp .FloorDiv (.int a u) (.int b v)) Q E ⟨h, g, d, t, os⟩ := PyProof.Rows.floordiv_int hb (H _ _) (Or.inl (PyProof.noPylong_small hs))
theorem o_mod (hb : b ≠ 0) (H : ∀ u t', Q (.int (a.fmod b) u) ⟨h, g, d, t', os⟩) : wpAny (model prog w) A (binaryOp .Mod (.int a u) (.int b v)) Q E ⟨h, g, d, t, os⟩ := PyProof.Rows.mod_int' hb (H _ _)
theorem o_lt (H : Q (.bool (decide (a < b))) ⟨h, g, d, t, os⟩) : wpAny (model prog w) A (compareOp .Lt (.int a u) (.int b v)) Q E ⟨h, g, d, t, os⟩ := wpAny_lt_int H
theorem o_is_none {v : Value} (H : Q (.bool (v == .none)) ⟨h, g, d, t, os⟩) : wpAny M A (compareOp .Is v .none) Q E ⟨h, g, d, t, os⟩ := is_none H
end
section
variable {prog : Program} {w : World} {A : Around} {E : Value → Shared → Prop} {s : Shared} {env : Env} {rest body : List Stmt} {test : Expr} {Q : Flow → Shared → Prop} {pos pos' : Pos}
theorem x_while (I : Nat → Shared → Prop) (n : Nat) (h0 : I n s)
    (turn : ∀ n s, I n s → wpAny (model prog w) A (isTrue test env (eval test env)) (fun b s₂ => (b = true → wpAny (model prog w) A (execs body env) (fun f s₃ => f = .next ∧ ∃ m, m < n ∧ I m s₃) (fun _ _ => False) s₂) ∧ (b = false → wpAny (model prog w) A (execs rest env) Q E s₂)) (fun _ _ => False) s) :
    wpAny (model prog w) A (execs (.While test body [] pos :: rest) env) Q E s := by
  refine wpAny_execs_cons (wpAny_While (codeAny_whileLoop I (fun n s hI => wpAny_mono (turn n s hI) (fun b s₂ hb => ?_) fun _ _ x => x.elim) n h0))
  cases b with
  | true =>
    simp only [if_true]
    refine wpAny_mono (hb.1 rfl) (fun f s₃ hf => ?_) fun _ _ x => x.elim
    obtain ⟨rfl, m, hm, hI⟩ := hf
    exact ⟨m, hm, hI⟩
  | false =>
    simp only [Bool.false_eq_true, if_false]
    exact wpAny_execs_nil (hb.2 rfl)
end
section
variable {M : Model} {A : Around} {E : Value → Shared → Prop} {s : Shared} {env : Env} {pos p : Pos} {args : List Expr} {e : Expr} {rest : List Expr} {f : Str}
theorem a_nil {Q : List Value → Shared → Prop} (h : Q [] s) : wpAny M A (spliced (backTo pos (starEach [] env))) Q E s := spliced_nil h
theorem a_cons {Q : List Value → Shared → Prop} (h : wpAny M A (eval e env) (kArg M A env pos rest Q E) E s)
    (he : starEach (e :: rest) env = (false, eval e env) :: starEach rest env := by rfl) : wpAny M A (spliced (backTo pos (starEach (e :: rest) env))) Q E s := by
  rw [he]
  exact spliced_cons h
theorem callWith_function_kw' {pos : Pos} {a : Addr} {first : List Value} {args : List (Bool × Sem Value)} {keywords : List (Option Str × Sem Value)} {Q : Value → Shared → Prop}
    (h : wpAny M A (evalArgs (.ref a) true args keywords) (fun x s₁ => (∃ o fd, s₁.heap.get? a = some o ∧ o.data = .func fd) ∧ wpAny M A (call (.ref a) (first ++ x.pos) x.kw) Q E s₁) E s) :
    wpAny M A (callWith pos (.ref a) first args keywords) Q E s := by
  unfold callWith
  refine wpAny_bind (wpAny_holding (wpAny_mono h (fun x s₁ h₁ => wpAny_bind (wpAny_standAt ?_)) fun _ _ x => x))
  have tail : ∀ {t : Sem Value}, wpAny M A t Q E s₁ → wpAny M A (t >>= fun r => holding [r] point >>= fun _ => pure r) Q E s₁ :=
    fun ht => wpAny_bind (wpAny_mono ht (fun r s₂ hr => wpAny_bind (wpAny_holding (wpAny_point (wpAny_pure hr)))) fun _ _ x => x)
  obtain ⟨⟨o, fd, ho, hd⟩, h₁⟩ := h₁
  cases hs : (args.any (·.1) || keywords.any (·.1.isNone)) <;>
    refine wpAny_bind (m := keeperOf (.ref a)) ?_ <;> unfold keeperOf <;>
    refine wpAny_bind (wpAny_load ho ?_) <;> rw [hd] <;> refine wpAny_pure ?_
  · first
      | refine wpAny_ite ?_
      | skip
    split <;> first
      | exact tail h₁
      | exact tail (by unfold callMarked; exact Calls.wpAny_keep h₁)
  · first
      | exact tail (by unfold callMarked; exact Calls.wpAny_keep h₁)
      | exact tail h₁
theorem e_callF {Q : Value → Shared → Prop} (h : wpAny M A (eval (.Name f p) env) (kFunF M A env pos (e :: rest) Q E) E s)
    (he : starEach (e :: rest) env = (false, eval e env) :: starEach rest env := by rfl) : wpAny M A (eval (.Call (.Name f p) (e :: rest) [] pos) env) Q E s := by
  refine wpAny_Call_Name_kw (wpAny_mono h (fun fv s₁ h₁ => ?_) fun _ _ x => x)
  obtain ⟨a, rfl, h₁⟩ := h₁
  refine callWith_function_kw' (wpAny_mono ?_ (fun x s₂ q => q) fun _ _ x => x)
  rw [he] at h₁ ⊢
  exact evalArgs_plain (wpAny_mono h₁ (fun vs s₂ h₂ => by rw [List.nil_append]; exact h₂) fun _ _ x => x)
theorem e_callK {Q : Value → Shared → Prop} {kn : Str} {ke : Expr} {kp : Pos} (h : wpAny M A (eval (.Name f p) env) (fun fv s₁ => ∃ a, fv = .ref a ∧ wpAny M A (spliced (backTo pos (starEach (e :: rest) env))) (fun vs s₂ => wpAny M A (eval ke env) (fun kv s₃ => (∃ o fd, s₃.heap.get? a = some o ∧ o.data = .func fd) ∧ wpAny M A (call (.ref a) vs [(kn, kv)]) Q E s₃) E s₂) E s₁) E s)
    (he : starEach (e :: rest) env = (false, eval e env) :: starEach rest env := by rfl) : wpAny M A (eval (.Call (.Name f p) (e :: rest) [⟨some kn, ke, kp⟩] pos) env) Q E s := by
  refine wpAny_Call_Name_kw (wpAny_mono h (fun fv s₁ h₁ => ?_) fun _ _ x => x)
  obtain ⟨a, rfl, h₁⟩ := h₁
  refine callWith_function_kw' ?_
  rw [he] at h₁ ⊢
  refine evalArgs_kw rfl (wpAny_mono h₁ (fun vs s₂ h₂ => wpAny_evalAll_cons ?_) fun _ _ x => x)
  show wpAny M A (do let v ← eval ke env; standAt pos; pure v) _ _ _
  refine wpAny_bind (wpAny_mono h₂ (fun kv s₃ h₃ => wpAny_bind (wpAny_standAt (wpAny_pure (wpAny_evalAll_nil ?_)))) fun _ _ x => x)
  exact h₃
theorem e_callB {Q : Value → Shared → Prop} {id : String} (h : wpAny M A (eval (.Name f p) env) (kFunV M A env pos (e :: rest) (.builtin id) Q E) E s)
    (he : starEach (e :: rest) env = (false, eval e env) :: starEach rest env := by rfl) (hp : ((backTo pos (starEach rest env)).any fun x => x.1) = false := by rfl) : wpAny M A (eval (.Call (.Name f p) (e :: rest) [] pos) env) Q E s := by
  refine wpAny_Call_Name_kw (wpAny_mono h (fun fv s₁ h₁ => ?_) fun _ _ x => x)
  obtain ⟨rfl, h₁⟩ := h₁
  exact PyProof.Rows.callWith_builtin1 h₁ he hp
theorem e_callT {Q : Value → Shared → Prop} {id : String} (h : wpAny M A (eval (.Name f p) env) (kFunV M A env pos (e :: rest) (.type id) Q E) E s)
    (he : starEach (e :: rest) env = (false, eval e env) :: starEach rest env := by rfl) (hp : ((backTo pos (starEach rest env)).any fun x => x.1) = false := by rfl) : wpAny M A (eval (.Call (.Name f p) (e :: rest) [] pos) env) Q E s := by
  refine wpAny_Call_Name_kw (wpAny_mono h (fun fv s₁ h₁ => ?_) fun _ _ x => x)
  obtain ⟨rfl, h₁⟩ := h₁
  exact PyProof.Rows.callWith_type1 h₁ he hp
end
section
variable {prog : Program} {w : World} {A : Around} {E : Value → Shared → Prop} {h : Heap} {g : Array GenState} {d : Drawn} {t : Nat} {os : OsState} {env : Env} {Q : Value → Shared → Prop} {pos : Pos}
theorem b_len {l : Addr} {items : Array Value} (hl : h.IsList l items) (hz : items.size < 1000) (H : ∀ u t', Q (.int items.size u) ⟨h, g, d, t', os⟩) : wpAny (model prog w) A (call (.builtin "len") [.ref l]) Q E ⟨h, g, d, t, os⟩ :=
  Calls.call_len_list hl (by omega) (H _ _)
theorem e_sub {value slice : Expr} (H : wpAny (model prog w) A (eval value env) (kSubL (model prog w) A env value slice Q E) E ⟨h, g, d, t, os⟩) : wpAny (model prog w) A (eval (.Subscript value slice pos) env) Q E ⟨h, g, d, t, os⟩ := Subscript_ H
theorem i_list {value slice : Expr} {l : Addr} {items : Array Value} {k : Int} {u : Tok} {x : Value} (hl : h.IsList l items) (h0 : 0 ≤ k) (hz : k < 2 ^ 63) (hx : items[k.toNat]? = some x) (H : Q x ⟨h, g, d, t, os⟩)
    (hs : subscripted slice false (.ref l) (.int k u) = operate [.ref l, .int k u] (getItem (.ref l) (.int k u)) := by rfl) : wpAny (model prog w) A (subscriptTail value slice (.ref l) (.int k u)) Q E ⟨h, g, d, t, os⟩ :=
  tail_any (s := ⟨h, g, d, t, os⟩) (Heap.IsList.typeIs hl) slot_list_getitem.lookup (wpAny_getItem_list hl h0 hz hx H) hs
end
section
variable {M : Model} {prog : Program} {w : World} {A : Around} {E : Value → Shared → Prop} {s : Shared} {h : Heap} {g : Array GenState} {d : Drawn} {t : Nat} {os : OsState} {env : Env} {pos apos : Pos}
theorem x_expr {e : Expr} {rest : List Stmt} {Q : Flow → Shared → Prop} (h : wpAny M A (eval e env) (fun v s₁ => (∀ a, v ≠ .ref a) ∧ wpAny M A (execs rest env) Q E s₁) E s)
    (hi : interactive env = false := by rfl) (hs : swapsWith e none pos.line env = pure false := by rfl) : wpAny M A (execs (.Expr e pos :: rest) env) Q E s := by
  refine wpAny_execs_cons (wpAny_Expr (wpAny_mono h (fun v s₁ q => ?_) fun _ _ x => x) hi hs)
  cases v <;> first | exact q.2 | exact (q.1 _ rfl).elim
theorem e_methB {T id : String} {o e : Expr} {name : Str} {rest : List Expr} {Q : Value → Shared → Prop} (pa : PlainAttrs T) (slot : Slot T name id) (ty : typeOf (.builtin id) = pure (.type "method_descriptor"))
    (H : wpAny (model prog w) A (eval o env) (fun ov s₁ => ∃ l ob, ov = .ref l ∧ s₁.heap.get? l = some ob ∧ ob.cls = .type T ∧ ob.dict = none ∧ wpAny (model prog w) A (spliced (backTo pos (starEach (e :: rest) env))) (fun vs s₂ => wpAny (model prog w) A (call (.builtin id) (.ref l :: vs)) Q E s₂) E s₁) E s)
    (hbase : attributeBase o name env (eval o env) = eval o env := by rfl)
    (hfew : ((backTo pos (starEach (e :: rest) env)).all (fun x => !x.1) && (backToKw pos (keywordEach [] env)).all (fun x => x.1.isSome)
      && decide ((e :: rest).length + ([] : List Keyword).length + (if ([] : List Keyword).isEmpty then 0 else 1) < 30)) = true := by rfl)
    (hline : (apos.endLine == pos.line) = true := by rfl)
    (he : starEach (e :: rest) env = (false, eval e env) :: starEach rest env := by rfl) (hp : ((backTo pos (starEach rest env)).any fun x => x.1) = false := by rfl) :
    wpAny (model prog w) A (eval (.Call (.Attribute o name apos) (e :: rest) [] pos) env) Q E s := by
  refine wpAny_Call_method_lateS hbase hfew hline (wpAny_mono H (fun ov s₁ q => ?_) fun _ _ x => x)
  obtain ⟨l, ob, rfl, ho, hc, hd, q⟩ := q
  exact ⟨T, id, pa, slot, ty, ⟨ob, ho, hc⟩, fun a e => by cases e; exact ⟨ob, ho, hd⟩, PyProof.Rows.callWith_method1 q he hp⟩
theorem e_meth0 {T id : String} {o : Expr} {name : Str} {Q : Value → Shared → Prop} (pa : PlainAttrs T) (slot : Slot T name id) (ty : typeOf (.builtin id) = pure (.type "method_descriptor"))
    (H : wpAny (model prog w) A (eval o env) (fun ov s₁ => ∃ l ob, ov = .ref l ∧ s₁.heap.get? l = some ob ∧ ob.cls = .type T ∧ ob.dict = none ∧ wpAny (model prog w) A (call (.builtin id) [.ref l]) Q E s₁) E s)
    (hbase : attributeBase o name env (eval o env) = eval o env := by rfl)
    (hline : (apos.endLine == pos.line) = true := by rfl) :
    wpAny (model prog w) A (eval (.Call (.Attribute o name apos) [] [] pos) env) Q E s := by
  refine Call_method0 hbase hline (wpAny_mono H (fun ov s₁ q => ?_) fun _ _ x => x)
  obtain ⟨l, ob, rfl, ho, hc, hd, q⟩ := q
  exact ⟨T, id, pa, slot, ty, ⟨ob, ho, hc⟩, fun a e => by cases e; exact ⟨ob, ho, hd⟩, PyProof.Rows.callWith_method0 (env := env) q⟩
abbrev lsO (xs : List Value) (n : Nat) : Obj := { cls := .type "list", dict := none, data := .seq xs.toArray n, slots := #[] }
theorem b_insert {h₀ : Heap} {L l : Addr} {m : List (Str × Value)} {ns : List (Addr × Obj)} {xs : List Value} {n k : Nat} {u : Tok} {y : Value} {Q : Value → Shared → Prop}
    (S : Sx h₀ L m ((l, lsO xs n) :: ns) h) (hk : k ≤ xs.length) (hz : xs.length < 1000) (H : ∀ h', Sx h₀ L m ((l, lsO (xs.take k ++ y :: xs.drop k) (n + 1)) :: ns) h' → Q .none ⟨h', g, d, t, os⟩) :
    wpAny (model prog w) A (call (.builtin "list.insert") [.ref l, .int k u, y]) Q E ⟨h, g, d, t, os⟩ := by
  have z : h.get? l = some (lsO xs n) := (S.new (l, lsO xs n) (.head _)).1
  have fits : Builtin.List.listFitsIndex (k : Int) = true := by
    have h2 : (2 : Int) ^ 63 = 9223372036854775808 := by decide
    unfold Builtin.List.listFitsIndex
    rw [h2]
    simp only [Bool.and_eq_true, decide_eq_true_eq]
    omega
  generalize hx : (k : Int) = x at fits ⊢
  let f : Array Value → Array Value := fun xs => have k := if x < 0 then (x + (xs.size : Int)).toNat else min x.toNat xs.size; (xs.extract 0 k).push y ++ xs.extract k
  have e : f xs.toArray = (xs.take k ++ y :: xs.drop k).toArray := by
    have hneg : ¬ x < 0 := by omega
    have hm : min x.toNat xs.length = k := by omega
    simp only [f, hneg, if_false, List.size_toArray, hm]
    exact kl_ins_eq xs k y
  have q : (h.update l (Obj.mapSeq f)).get? l = some (lsO (xs.take k ++ y :: xs.drop k) (n + 1)) := by
    have q := PySem.IsL.update (n := n) (items := xs.toArray) z f
    unfold PySem.IsL at q
    rw [e, if_neg (by simp; omega)] at q
    exact q
  have S' := S.upd (o' := lsO (xs.take k ++ y :: xs.drop k) (n + 1)) (Heap.SameBut.update h l (Obj.mapSeq f)) q
  have hz' : xs.toArray.size ≤ sizeLine := by rw [List.size_toArray, sizeLine_eq]; omega
  have mt := PySem.AutoSeq1.list_insert_list_int_val_1 l xs.toArray n x u y (by rw [fits]; decide) hz'
  have ti : (⟨h, g, d, t, os⟩ : Shared).TypeIs (.ref l) "list" := ⟨_, z, rfl⟩
  refine call_meets (s := ⟨h, g, d, t, os⟩) PySem.F.slot_list_insert ti PySem.F.entry_list_insert (PySem.F.args_list_insert_3 (.ref l) (.int x u) y) mt ?_
  exact ⟨z, H _ S'⟩
theorem i_tup {value slice : Expr} {a : Addr} {l : List Value} {k : Nat} {u : Tok} {x : Value} {Q : Value → Shared → Prop} (ht : IsTup h a l.toArray) (hz : l.length < 1000) (hx : l[k]? = some x) (H : Q x ⟨h, g, d, t, os⟩)
    (hs : subscripted slice false (.ref a) (.int k u) = operate [.ref a, .int k u] (getItem (.ref a) (.int k u)) := by rfl) : wpAny (model prog w) A (subscriptTail value slice (.ref a) (.int k u)) Q E ⟨h, g, d, t, os⟩ := by
  have hk : k < l.length := by
    rcases Nat.lt_or_ge k l.length with q | q
    · exact q
    · rw [List.getElem?_eq_none q] at hx; cases hx
  refine item_tupleT (s := ⟨h, g, d, t, os⟩) (j := k) ht (by omega) (by omega) ?_ hx H hs
  unfold seqIndex?
  have e1 : ¬ ((k : Int) < 0) := by omega
  simp [e1, hk]
theorem i_list' {value slice : Expr} {a : Addr} {l : List Value} {k : Nat} {u : Tok} {x : Value} {Q : Value → Shared → Prop} (ht : h.IsList a l.toArray) (hz : l.length < 1000) (hx : l[k]? = some x) (H : Q x ⟨h, g, d, t, os⟩)
    (hs : subscripted slice false (.ref a) (.int k u) = operate [.ref a, .int k u] (getItem (.ref a) (.int k u)) := by rfl) : wpAny (model prog w) A (subscriptTail value slice (.ref a) (.int k u)) Q E ⟨h, g, d, t, os⟩ := by
  have hk : k < l.length := by
    rcases Nat.lt_or_ge k l.length with q | q
    · exact q
    · rw [List.getElem?_eq_none q] at hx; cases hx
  exact i_list ht (by omega) (by omega) (by simpa using hx) H hs
theorem e_neg {e : Expr} {s : Shared} {Q : Value → Shared → Prop} (H : wpAny M A (eval e env) (kNeg M A Q E) E s) : wpAny M A (eval (.UnaryOp .USub e pos) env) Q E s := by
  show wpAny M A (do let v ← eval e env; standAt pos; holding [v] (unaryOp .USub v)) Q E s
  exact wpAny_bind (wpAny_mono H (fun v s₁ q => wpAny_bind (wpAny_standAt (wpAny_holding q))) fun _ _ x => x)
theorem o_neg {a : Int} {u : Tok} {Q : Value → Shared → Prop} (H : ∀ u t', Q (.int (-a) u) ⟨h, g, d, t', os⟩) : wpAny (model prog w) A (unaryOp .USub (.int a u)) Q E ⟨h, g, d, t, os⟩ := PyProof.Rows.neg_int (H _ _)
theorem o_flt {a b : UInt64} {u v : Tok} {Q : Value → Shared → Prop} (H : Q (.bool (Float64.cmp a b == some Ordering.lt)) ⟨h, g, d, t, os⟩) : wpAny (model prog w) A (compareOp .Lt (.float a u) (.float b v)) Q E ⟨h, g, d, t, os⟩ := AutoFloatOps.lt_0 H
theorem o_fgt {a b : UInt64} {u v : Tok} {Q : Value → Shared → Prop} (H : Q (.bool (Float64.cmp a b == some Ordering.gt)) ⟨h, g, d, t, os⟩) : wpAny (model prog w) A (compareOp .Gt (.float a u) (.float b v)) Q E ⟨h, g, d, t, os⟩ := AutoFloatOps.gt_0 H
theorem o_fle {a b : UInt64} {u v : Tok} {Q : Value → Shared → Prop} (H : Q (.bool (Float64.cmp a b == some Ordering.lt || Float64.cmp a b == some Ordering.eq)) ⟨h, g, d, t, os⟩) : wpAny (model prog w) A (compareOp .LtE (.float a u) (.float b v)) Q E ⟨h, g, d, t, os⟩ := AutoFloatOps.le_0 H
theorem o_feq {a b : UInt64} {u v : Tok} {Q : Value → Shared → Prop} (H : Q (.bool (Float64.cmp a b == some Ordering.eq)) ⟨h, g, d, t, os⟩) : wpAny (model prog w) A (compareOp .Eq (.float a u) (.float b v)) Q E ⟨h, g, d, t, os⟩ := AutoFloatOps.eq_0 H
/-- a name bound by a target -/
theorem as1 {h₀ : Heap} {m : List (Str × Value)} {ns : List (Addr × Obj)} {x : Str} {v : Value} {Q : Unit → Shared → Prop} (S : Sx h₀ env.locals m ns h) (H : ∀ h' t', Sx h₀ env.locals ((x, v) :: m) ns h' → Q () ⟨h', g, d, t' + 1, os⟩)
    (hk : env.scope.kind = .function := by rfl) (hl : env.kindOf x = some .local := by rfl) : wpAny M A (assign (.Name x pos) env v) Q E ⟨h, g, d, t, os⟩ := wpAny_assign_Name (st_loc S H hk hl)
theorem ast {h₀ : Heap} {m : List (Str × Value)} {ns : List (Addr × Obj)} {elts : List Expr} {k : Nat} {a : Addr} {l : List Value} {Q : Unit → Shared → Prop} (hh : A.handled = none) (ht : IsTup h a l.toArray) (S : Sx h₀ env.locals m ns h)
    (H : ∀ h' , Sx h₀ env.locals m ns h' → Le h h' → wpAny (model prog w) A (assignInOrder ((assignEach elts env).map (·.2)) l) Q E ⟨h', g, d, t, os⟩)
    (hn : (assignEach elts env).length = l.length := by rfl) (hstar : (assignEach elts env).findIdx? (·.1) = none := by rfl) : wpAny (model prog w) A (assign (.Tuple elts k pos) env (.ref a)) Q E ⟨h, g, d, t, os⟩ := by
  refine assign_Tuple_tuple (s := ⟨h, g, d, t, os⟩) hh ht (by rw [hn, List.size_toArray]) hstar fun h' he => ?_
  have le : Le h h' := fun b o e => he b o (Nat.ne_of_lt (Heap.lt_size e)) e
  exact H h' (S.keeps le) le
theorem ao_nil {Q : Unit → Shared → Prop} {l : List (Value → Sem Unit)} {s : Shared} (H : Q () s) : wpAny M A (assignInOrder l []) Q E s := by
  cases l <;> exact wpAny_pure H
theorem ao_cons {Q : Unit → Shared → Prop} {x : Value → Sem Unit} {l : List (Value → Sem Unit)} {v : Value} {vs : List Value} {s : Shared} (H : wpAny M A (x v) (kAss M A l vs Q E) E s) : wpAny M A (assignInOrder (x :: l) (v :: vs)) Q E s := by
  show wpAny M A (do holding vs (x v); assignInOrder l vs) Q E s
  exact wpAny_bind (wpAny_holding (wpAny_mono H (fun _ _ q => q) fun _ _ q => q))
end
end Mine
end
section
open PySem PySem.W PyProof.Rows PySem.Spec PySem.Calls
namespace Mine
/-- all but a stays -/
abbrev LeBut (a : Addr) (h h' : Heap) : Prop := ∀ b o, b ≠ a → h.get? b = some o → h'.get? b = some o
/-- an iterator, by its object alone; b₀: what it reads -/
structure ItOK (prog : Program) (w : World) (A : Around) (target : Expr) (b₀ : Heap) (n : Nat) (P : Nat → Heap → Value → Prop) (Itr : Nat → Obj → Prop) : Prop where
  step : ∀ i o it h g d t os (R : Option Value → Shared → Prop) (Q : Value → Shared → Prop) E E', (∀ v s, wpAny (model prog w) A (letOwnedTupleGo target (.ref it) v) (fun _ s' => Q v s') E' s → R (some v) s) → i < n → Itr i o → Le b₀ h → b₀.get? it = none → h.get? it = some o →
    (∀ v o' h' t', P i h' v → Itr (i + 1) o' → h'.get? it = some o' → LeBut it h h' → Q v ⟨h', g, d, t', os⟩) →
    wpAny (model prog w) A (pyNext (.ref it)) R E ⟨h, g, d, t, os⟩
  done : ∀ o it h g d t os (Q : Option Value → Shared → Prop) E, Itr n o → Le b₀ h → b₀.get? it = none → h.get? it = some o →
    (∀ h' t', LeBut it h h' → Q none ⟨h', g, d, t', os⟩) → wpAny (model prog w) A (pyNext (.ref it)) Q E ⟨h, g, d, t, os⟩
theorem ItOK.of {prog : Program} {w : World} {A : Around} {target : Expr} {b₀ : Heap} {n : Nat} {P : Nat → Heap → Value → Prop} {Itr : Nat → Obj → Prop}
  (item : ∀ i o it h g d t os (Q : Option Value → Shared → Prop) E, i < n → Itr i o → Le b₀ h → b₀.get? it = none → h.get? it = some o →
    (∀ v o' h' t', P i h' v → Itr (i + 1) o' → h'.get? it = some o' → LeBut it h h' → Q (some v) ⟨h', g, d, t', os⟩) → wpAny (model prog w) A (pyNext (.ref it)) Q E ⟨h, g, d, t, os⟩)
  (done : ∀ o it h g d t os (Q : Option Value → Shared → Prop) E, Itr n o → Le b₀ h → b₀.get? it = none → h.get? it = some o →
    (∀ h' t', LeBut it h h' → Q none ⟨h', g, d, t', os⟩) → wpAny (model prog w) A (pyNext (.ref it)) Q E ⟨h, g, d, t, os⟩)
  (own : ∀ i v o it h g d t os (Q : Unit → Shared → Prop) E, Itr (i + 1) o → h.get? it = some o → P i h v →
    (∀ o' h', Itr (i + 1) o' → h'.get? it = some o' → LeBut it h h' → P i h' v → Q () ⟨h', g, d, t, os⟩) → wpAny (model prog w) A (letOwnedTupleGo target (.ref it) v) Q E ⟨h, g, d, t, os⟩) : ItOK prog w A target b₀ n P Itr where
  step := fun i o it h g d t os R Q E E' hR hi hit hb h0 hg H => item i o it h g d t os _ _ hi hit hb h0 hg fun v o' h' t' hP hI' he hs => hR _ _ <| own i v o' it h' g d t' os _ _ hI' he hP fun o'' h'' hI'' he' hs' hP' => H v o'' h'' t' hP' hI'' he' fun b o hb e => hs' b o hb (hs b o hb e)
  done := done
structure ItSelf (prog : Program) (w : World) (A : Around) (Itr : Nat → Obj → Prop) : Prop where
  self : ∀ i o it h g d t os (Q : Value → Shared → Prop) E, Itr i o → h.get? it = some o → Q (.ref it) ⟨h, g, d, t, os⟩ → wpAny (model prog w) A (pyIter (.ref it)) Q E ⟨h, g, d, t, os⟩
/-- another object at a, all else kept -/
theorem Sx.turn {h₀ h h' : Heap} {L a : Addr} {m : List (Str × Value)} {ns : List (Addr × Obj)} {o o' : Obj} (S : Sx h₀ L m ((a, o) :: ns) h) (hs : LeBut a h h') (he : h'.get? a = some o') : Sx h₀ L m ((a, o') :: ns) h' := by
  obtain ⟨f, hn, hf⟩ := S.loc
  have A := S.new (a, o) (.head _)
  have nd := List.nodup_cons.mp S.nod
  refine ⟨⟨f, hn.at' fun o e => hs _ o (Ne.symm A.2.1) e, hf⟩, fun b ob e => hs b ob (fun q => ?_) (S.keep b ob e), S.off, fun p hp => ?_, S.nod⟩
  · subst q; rw [A.2.2] at e; cases e
  · rcases List.mem_cons.mp hp with rfl | hp
    · exact ⟨he, A.2⟩
    · have P := S.new p (.tail _ hp)
      exact ⟨hs p.1 _ (fun q => nd.1 (List.mem_map.mpr ⟨p, hp, q⟩)) P.1, P.2⟩
theorem Sx.gone {h₀ h h' : Heap} {L a : Addr} {m : List (Str × Value)} {ns : List (Addr × Obj)} {o : Obj} (S : Sx h₀ L m ((a, o) :: ns) h) (hs : LeBut a h h') : Sx h₀ L m ns h' := by
  obtain ⟨f, hn, hf⟩ := S.loc
  have A := S.new (a, o) (.head _)
  have nd := List.nodup_cons.mp S.nod
  refine ⟨⟨f, hn.at' fun o e => hs _ o (Ne.symm A.2.1) e, hf⟩, fun b ob e => hs b ob (fun q => ?_) (S.keep b ob e), S.off, fun p hp => ?_, nd.2⟩
  · subst q; rw [A.2.2] at e; cases e
  · have P := S.new p (.tail _ hp)
    exact ⟨hs p.1 _ (fun q => nd.1 (List.mem_map.mpr ⟨p, hp, q⟩)) P.1, P.2⟩
section
variable {prog : Program} {w : World} {A : Around} {E : Value → Shared → Prop} {h : Heap} {g : Array GenState} {d : Drawn} {t : Nat} {os : OsState} {env : Env} {rest body : List Stmt} {target : Expr} {Q : Flow → Shared → Prop} {pos : Pos}
  {b₀ : Heap} {n : Nat} {P : Nat → Heap → Value → Prop} {Itr : Nat → Obj → Prop} {it : Addr} {o : Obj} {m : List (Str × Value)} {ns : List (Addr × Obj)}
theorem codeAny_forLoopT {s : Shared} {R : Result → Shared → Prop} {target it body orelse env} (I : Nat → Shared → Prop)
    (turn : ∀ n s, I n s → wpAny (model prog w) A (pyNext it) (fun r s₁ => match r with
      | none => wpAny (model prog w) A (execs orelse env) (fun f s₃ => R (.ok f) s₃) (fun _ _ => False) s₁
      | some v => wpAny (model prog w) A (letOwnedTupleGo target it v) (fun _ s₁' => wpAny (model prog w) A (assign target env v) (fun _ s₂ => wpAny (model prog w) A (execs body env) (fun f s₃ => match f with
          | .next | .cont => ∃ m, m < n ∧ I m s₃
          | .brk => R (.ok .next) s₃
          | .ret v => R (.ok (.ret v)) s₃) (fun _ _ => False) s₂) (fun _ _ => False) s₁') (fun _ _ => False) s₁) (fun _ _ => False) s)
    (n : Nat) (h : I n s) : codeAny (model prog w) A (.forLoop target it body orelse env) R s := by
  refine codeAny_loop' rfl I (fun n s hI => ?_) n h
  show wpAny _ _ ((forTurn target it body orelse env).onRaise (fun x => do noteFrame x env; theTreesLotGoes x)) _ _ s
  refine wpAny_noted ?_
  simp only [forTurn]
  refine wpAny_bind (wpAny_standAt (wpAny_bind (wpAny_onRaise (wpAny_mono (turn n s hI) (fun r s₁ h₁ => ?_) fun _ _ h' => h'.elim))))
  cases r with
  | none => exact wpAny_pure (.inr ⟨rfl, codeAny_block (wpAny_mono h₁ (fun _ _ q => q) fun _ _ q => q.elim)⟩)
  | some v =>
    refine wpAny_bind (wpAny_mono h₁ (fun _ s₁' h₁' => ?_) fun _ _ q => q.elim)
    refine wpAny_bind (wpAny_mono h₁' (fun _ s₂ h₂ => wpAny_bind (wpAny_mono h₂ (fun f s₃ h₃ => ?_) fun _ _ h' => h'.elim)) fun _ _ h' => h'.elim)
    cases f with
    | next => exact wpAny_pure (.inl ⟨rfl, h₃⟩)
    | cont => exact wpAny_pure (.inl ⟨rfl, h₃⟩)
    | brk => exact wpAny_pure h₃
    | ret v => exact wpAny_pure h₃
def ForR (prog : Program) (w : World) (A : Around) (env : Env) (rest : List Stmt) (Q : Flow → Shared → Prop) (E : Value → Shared → Prop) : Result → Shared → Prop :=
  fun r s' => match r with | .ok f => (match f with | .next => wpAny (model prog w) A (execs rest env) Q E s' | f => Q f s') | .error e => cameBackBy (model prog w) A env E e s'
abbrev Inv := Nat → Heap → Array GenState → List (Str × Value) → List (Addr × Obj) → Prop
theorem loop_for (T : ItOK prog w A target b₀ n P Itr) (I : Inv) (S : Sx b₀ env.locals m ((it, o) :: ns) h) (h0 : Itr 0 o) (hI : I 0 b₀ g m ns)
    (turn : ∀ i v b g m ns h t it o, i < n → P i h v → Le b₀ b → I i b g m ns → Sx b env.locals m ((it, o) :: ns) h → wpAny (model prog w) A (assign target env v) (fun _ s₂ => wpAny (model prog w) A (execs body env) (fun f s₃ =>
      (f = .next ∧ ∃ b' g' m' ns' h' t', s₃ = ⟨h', g', d, t', os⟩ ∧ Le b b' ∧ I (i + 1) b' g' m' ns' ∧ Sx b' env.locals m' ((it, o) :: ns') h') ∨ (∃ v, f = .ret v ∧ Q (.ret v) s₃)) (fun _ _ => False) s₂) (fun _ _ => False) ⟨h, g, d, t, os⟩)
    (fin : ∀ b g m ns h t, Le b₀ b → I n b g m ns → Sx b env.locals m ns h → wpAny (model prog w) A (execs rest env) Q E ⟨h, g, d, t, os⟩) :
    codeAny (model prog w) A (.forLoop target (.ref it) body [] env) (ForR prog w A env rest Q E) ⟨h, g, d, t, os⟩ := by
  refine codeAny_forLoopT (fun k s => ∃ i b g m ns h t o, s = ⟨h, g, d, t, os⟩ ∧ k = n + 1 - i ∧ i ≤ n ∧ Le b₀ b ∧ Itr i o ∧ I i b g m ns ∧ Sx b env.locals m ((it, o) :: ns) h) ?_ (n + 1) ⟨0, b₀, g, m, ns, h, t, o, rfl, rfl, Nat.zero_le _, Le.refl _, h0, hI, S⟩
  rintro k s ⟨i, b, g, m, ns, h, t, o, rfl, rfl, hi, hb, hit, hI, S⟩
  have Z := S.new (it, o) (.head _)
  have Z0 : b₀.get? it = none := by
    cases q : b₀.get? it with
    | none => rfl
    | some o' => have := hb _ _ q; rw [Z.2.2] at this; cases this
  by_cases hlt : i < n
  · refine T.step i o it h g d t os _ _ _ _ (fun v s q => q) hlt hit (hb.trans S.keep) Z0 Z.1 fun v o'' h'' t' hv' hit'' he hs => ?_
    have S' := S.turn hs he
    refine wpAny_mono (turn i v b g m ns h'' t' it o'' hlt hv' hb hI S') (fun _ s₂ q => wpAny_mono q (fun f s₃ q => ?_) fun _ _ q => q) fun _ _ q => q
    rcases q with ⟨rfl, b', g', m', ns', h3, t3, rfl, hb', hI', S3⟩ | ⟨v, rfl, q⟩
    · exact ⟨n + 1 - (i + 1), by omega, i + 1, b', g', m', ns', h3, t3, o'', rfl, rfl, hlt, hb.trans hb', hit'', hI', S3⟩
    · exact q
  · have e : i = n := by omega
    subst e
    refine T.done o it h g d t os _ _ hit (hb.trans S.keep) Z0 Z.1 fun h' t' hs => ?_
    exact wpAny_execs_nil (fin b g m ns h' t' hb hI (S.gone hs))
theorem it_list {l : Addr} {items : Array Value} (hh : A.handled = none) (hl : b₀.IsList l items) :
    ItOK prog w A target b₀ items.size (fun i _ v => items[i]? = some v) (fun i o => o.cls = .type "list_iterator" ∧ o.data = .fields #[.ref l, .int i 0]) := ItOK.of
  (item := fun i o it h g d t os Q E hi hit hb h0 hg H => by
    have hne : l ≠ it := by rintro rfl; obtain ⟨o, e, _⟩ := hl; rw [h0] at e; cases e
    refine wpAny_pyNext_list_item (s := ⟨h, g, d, t, os⟩) ⟨o, hg, hit⟩ (isl hl hb) (x := items[i]) (by simp [hi]) fun h' hit' hs => ?_
    obtain ⟨o', hg', hit'⟩ := hit'
    exact H _ o' h' t (by simp [hi]) hit' hg' fun b ob hne e => hs.extBut b ob hne e)
  (done := fun o it h g d t os Q E hit hb h0 hg H => wpAny_pyNext_list_end (s := ⟨h, g, d, t, os⟩) hh ⟨o, hg, hit⟩ (isl hl hb) (by simp) fun h' he => H h' t fun b ob hne e => he b ob hne e)
  (own := fun i v o it h g d t os Q E hit hg hv H => by
    have H' := H o h hit hg (fun _ _ _ e => e) hv
    have pl : ∀ (tg : Sem Unit), tg = (do
        let o ← load it
        match o.cls, o.data with
        | .type n, .fields vs =>
          if ["enumerate", "zip", "dict_itemiterator", "dict_reverseitemiterator", "odict_iterator", "itertools.zip_longest", "itertools.pairwise"].contains n && vs[0]? == some (rawInt (match v with | .ref a => a | _ => 0)) then
            rule "for.unpacks-the-owned-tuple"
            updateField it 0 .none
        | _, _ => pure ()) → wpAny (model prog w) A tg Q E ⟨h, g, d, t, os⟩ := by
      rintro _ rfl
      refine wpAny_bind (wpAny_load (s := ⟨h, g, d, t, os⟩) hg ?_)
      rw [hit.1, hit.2]
      exact wpAny_pure H'
    unfold letOwnedTupleGo
    split
    · cases v <;> first | exact wpAny_pure H' | exact pl _ rfl
    · cases v <;> first | exact wpAny_pure H' | exact pl _ rfl
    · exact wpAny_pure H')
theorem x_for {iter : Expr} {s : Shared} (H : wpAny (model prog w) A (eval iter env) (fun x s₁ => wpAny (model prog w) A (pyIter x) (fun it s₂ => codeAny (model prog w) A (.forLoop target it body [] env) (ForR prog w A env rest Q E) s₂) E s₁) E s)
    (hs : ∀ x, foldedSetIterable iter env x = pure x := by intro _; rfl) : wpAny (model prog w) A (execs (.For target iter body [] pos :: rest) env) Q E s := by
  refine wpAny_execs_cons (wpAny_For (wpAny_mono H (fun x s₁ q => wpAny_mono q (fun it s₂ q => codeAny_mono q fun r s' q => ?_) fun _ _ q => q) fun _ _ q => q) hs)
  cases r with
  | ok f => cases f <;> exact q
  | error e => exact q
/-- a for over a list that is not changed meanwhile -/
theorem forL {l : Addr} {items : Array Value} (I : Inv) (hl : b₀.IsList l items) (hI : I 0 b₀ g m ns) (S : Sx b₀ env.locals m ns h)
    (turn : ∀ i v b g m ns h t it o, i < items.size → items[i]? = some v → Le b₀ b → I i b g m ns → Sx b env.locals m ((it, o) :: ns) h → wpAny (model prog w) A (assign target env v) (fun _ s₂ => wpAny (model prog w) A (execs body env) (fun f s₃ =>
      (f = .next ∧ ∃ b' g' m' ns' h' t', s₃ = ⟨h', g', d, t', os⟩ ∧ Le b b' ∧ I (i + 1) b' g' m' ns' ∧ Sx b' env.locals m' ((it, o) :: ns') h') ∨ (∃ v, f = .ret v ∧ Q (.ret v) s₃)) (fun _ _ => False) s₂) (fun _ _ => False) ⟨h, g, d, t, os⟩)
    (fin : ∀ b g m ns h t, Le b₀ b → I items.size b g m ns → Sx b env.locals m ns h → wpAny (model prog w) A (execs rest env) Q E ⟨h, g, d, t, os⟩) (hh : A.handled = none := by rfl) :
    wpAny (model prog w) A (pyIter (.ref l)) (fun it s₂ => codeAny (model prog w) A (.forLoop target it body [] env) (ForR prog w A env rest Q E) s₂) E ⟨h, g, d, t, os⟩ := by
  refine wpAny_pyIter_list (isl hl S.keep) ?_
  exact loop_for (it_list hh hl) I (S.alloc _) ⟨rfl, rfl⟩ hI turn fin
theorem its_list {l : Addr} : ItSelf prog w A (fun i o => o.cls = .type "list_iterator" ∧ o.data = .fields #[.ref l, .int i 0]) :=
  ⟨fun i o it h g d t os Q E hit hg H => wpAny_pyIter_listiter (s := ⟨h, g, d, t, os⟩) ⟨o, hg, hit⟩ H⟩
end
end Mine
end
section
open PySem PySem.W PyProof.Rows PySem.Spec PySem.Calls
namespace Mine
theorem none_of_size (h : Heap) {a : Addr} (ha : h.objs.size ≤ a) : h.get? a = none := by
  cases q : h.get? a with
  | none => rfl
  | some o => exact absurd (Heap.lt_size q) (Nat.not_lt.mpr ha)
theorem Le.none {h h' : Heap} (l : Le h h') {a : Addr} (e : h'.get? a = none) : h.get? a = none := by
  cases q : h.get? a with
  | none => rfl
  | some o => rw [l _ _ q] at e; cases e
/-- the base grows from h₀ to b; what else stood in h stands still, outside b -/
def Ex (h₀ h b h' : Heap) : Prop := Le h₀ b ∧ Le b h' ∧ ∀ a o, h.get? a = some o → h₀.get? a = none → h'.get? a = some o ∧ b.get? a = none
theorem Sx.ex {h₀ h b h' : Heap} {L : Addr} {m : Loc} {ns : List (Addr × Obj)} (S : Sx h₀ L m ns h) (x : Ex h₀ h b h') : Sx b L m ns h' := by
  obtain ⟨f, hn, hf⟩ := S.loc
  have hn' := hn
  obtain ⟨o, es, n, e, r⟩ := hn
  have eL := x.2.2 L o e S.off
  refine ⟨⟨f, hn'.at' fun o' e' => (x.2.2 L o' e' S.off).1, hf⟩, x.2.1, eL.2, fun p hp => ?_, S.nod⟩
  have P := S.new p hp
  have Z := x.2.2 _ _ P.1 P.2.2
  exact ⟨Z.1, P.2.1, Z.2⟩
/-- all that stands outside the base -/
def exl (h₀ h : Heap) : List (Addr × Obj) := (List.range h.objs.size).filterMap fun a => match h₀.get? a with
  | some _ => none
  | none => (h.get? a).map (a, ·)
theorem mem_exl {h₀ h : Heap} {a : Addr} {o : Obj} : (a, o) ∈ exl h₀ h ↔ h.get? a = some o ∧ h₀.get? a = none := by
  unfold exl
  rw [List.mem_filterMap]
  constructor
  · rintro ⟨x, hx, e⟩
    cases q : h₀.get? x with
    | some o => rw [q] at e; cases e
    | none =>
      rw [q] at e
      obtain ⟨o', e1, e2⟩ := Option.map_eq_some_iff.mp e
      cases e2
      exact ⟨e1, q⟩
  · rintro ⟨e1, e2⟩
    exact ⟨a, List.mem_range.mpr (Heap.lt_size e1), by rw [e2, e1]; rfl⟩
theorem nodup_exl (h₀ h : Heap) : ((exl h₀ h).map (·.1)).Nodup := by
  unfold exl
  rw [List.map_filterMap]
  refine (List.Pairwise.filterMap (R := (· ≠ ·)) _ ?_ List.nodup_range)
  intro a a' hne b hb b' hb'
  have go : ∀ x y, (Option.map (fun p : Addr × Obj => p.1) (match h₀.get? x with | some _ => none | none => (h.get? x).map (x, ·))) = some y → y = x := by
    intro x y e
    cases q : h₀.get? x with
    | some o => rw [q] at e; cases e
    | none =>
      rw [q] at e
      cases q2 : h.get? x with
      | none => rw [q2] at e; cases e
      | some o => rw [q2] at e; cases e; rfl
  rw [go _ _ hb, go _ _ hb']
  exact hne
theorem Sx.toEx {h₀ h b h' : Heap} {L : Addr} {m : Loc} {ns : List (Addr × Obj)} (S : Sx b L m ns h') (le : Le h₀ b) (sub : ∀ p ∈ exl h₀ h, p ∈ ns) : Ex h₀ h b h' :=
  ⟨le, S.keep, fun a o e1 e2 => let P := S.new (a, o) (sub _ (mem_exl.mpr ⟨e1, e2⟩)); ⟨P.1, P.2.2⟩⟩
theorem pick_perm {α : Type} : ∀ (l : List α) (i : Nat) (hi : i < l.length), (l[i] :: l.eraseIdx i).Perm l
  | x :: l, 0, _ => List.Perm.refl _
  | x :: l, i + 1, hi => by
    have := pick_perm l i (Nat.lt_of_succ_lt_succ hi)
    exact (List.Perm.swap _ _ _).trans (this.cons x)
theorem cells_keys : ∀ (names : List (Str × NameKind)) (n : Nat) (acc : List (Str × Addr)), (cellsFrom n names acc).map (·.1) = ((names.filter (·.2 == .cell)).map (·.1)).reverse ++ acc.map (·.1)
  | [], _, _ => rfl
  | (x, k) :: r, n, acc => by
    unfold cellsFrom
    cases q : k == NameKind.cell with
    | true => simp [q, cells_keys r]
    | false => simp [q, cells_keys r]
theorem lookup_of_nodup : ∀ {l : List (Str × Addr)} {p : Str × Addr}, (l.map (·.1)).Nodup → p ∈ l → l.lookup p.1 = some p.2
  | q :: r, p, hn, hp => by
    obtain ⟨h1, h2⟩ := List.nodup_cons.mp hn
    rw [List.lookup_cons]
    rcases List.mem_cons.mp hp with rfl | hp
    · simp
    · have : p.1 ≠ q.1 := fun e => h1 (List.mem_map.mpr ⟨p, hp, e⟩)
      rw [beq_eq_false_iff_ne.mpr this]
      exact lookup_of_nodup h2 hp
theorem Sx.pick {h₀ h : Heap} {L : Addr} {m : Loc} {ns : List (Addr × Obj)} (S : Sx h₀ L m ns h) (i : Nat) (hi : i < ns.length := by decide) : Sx h₀ L m (ns[i] :: ns.eraseIdx i) h := by
  exact S.reorder (pick_perm ns i hi)
/-- the frame's own object joins the mutable things -/
theorem Sx.asNs {h₀ h : Heap} {L : Addr} {m : Loc} {ns : List (Addr × Obj)} (S : Sx h₀ L m ns h) : ∃ oL, h.get? L = some oL ∧ (∀ p ∈ (L, oL) :: ns, h.get? p.1 = some p.2 ∧ h₀.get? p.1 = none) ∧ (((L, oL) :: ns).map (·.1)).Nodup := by
  obtain ⟨f, ⟨o, es, n, e, r⟩, hf⟩ := S.loc
  refine ⟨o, e, fun p hp => ?_, ?_⟩
  · rcases List.mem_cons.mp hp with rfl | hp
    · exact ⟨e, S.off⟩
    · exact ⟨(S.new p hp).1, (S.new p hp).2.2⟩
  · refine List.nodup_cons.mpr ⟨fun q => ?_, S.nod⟩
    obtain ⟨p, hp, e⟩ := List.mem_map.mp q
    exact (S.new p hp).2.1 e
section
variable {prog : Program} {w : World} {n u : Nat} {h h₀ : Heap} {g : Array GenState} {d : Drawn} {t : Nat} {os : OsState} {Q E : Value → Shared → Prop} {a : Addr} {o : Obj} {fd : FuncData} {body : List Stmt} {args : List Value} {kw : List (Str × Value)} {binds : List (Str × Value)}
theorem enterC (m : Loc) (G : Gd w h₀) (hle : Le h₀ h) (ho : (KK w).lookup a = some o) (na : a ∉ tabs) (hdata : o.data = .func fd) {c : Nat} {oc : Obj} {vs : Array Value} {tq : Tok} (hc : fd.code = .ref c) (hco : (KK w).lookup c = some oc) (hcd : oc.data = .fields vs) (hq : vs[1]? = some (.str fd.qualname tq)) (nc : c ∉ tabs) (hroom : 300 + n < recursionLimit)
    (hbody : fd.body = .stmts body) (hbind : bindArgs fd ⟨args, []⟩ = pure binds) (hclo : fd.closure = [])
    (hkind : ∀ x ∈ binds, fd.scope.names.lookup x.1 = some .local ∨ (fd.scope.names.lookup x.1 = some .cell ∧ ((cellsFrom (h.objs.size + 1) fd.scope.names []).lookup x.1).isSome = true))
    (hm : ∀ p ∈ m, bindL (callEnvC fd h.objs.size a).kindOf binds (fun _ => none) p.1 = some p.2)
    (H : ∀ h' t' (O : Addr → Obj), (∀ x c, (cellsFrom (h.objs.size + 1) fd.scope.names []).lookup x = some c → (O c).data = .cell (bindC (callEnvC fd h.objs.size a).kindOf binds (fun _ => none) x)) →
      Sx h₀ h.objs.size m (((cellsFrom (h.objs.size + 1) fd.scope.names []).map fun p => (p.2, O p.2)) ++ exl h₀ h) h' → wpAny (model prog w) (Ar (n + 1) (u + 3)) (execs body (callEnvC fd h.objs.size a)) (fun f s' => Q (match f with | .ret v => v | _ => .none) s') (fun _ _ => False) ⟨h', g, d, t', os⟩)
    (hnd : ((fd.scope.names.filter (·.2 == .cell)).map (·.1)).Nodup)
    (hco : fd.scope.isCoroutine = false) (hgen : fd.scope.isGenerator = false) (hk : fd.scope.kind = .function) : wpAny (model prog w) (Ar n u) (call (.ref a) args) Q E ⟨h, g, d, t, os⟩ := by
  have G' := G.mono hle
  refine wpAny_call (codeAny_call_cells (s := ⟨h, g, d, t, os⟩) hroom (G' a o ho na) hdata G'.c (G'.code hc ‹_› hcd hq nc) hbody hbind hclo hkind ?_ hco hgen hk)
  intro s₁ x
  obtain ⟨h₁, tk, rfl, keep⟩ := x.done
  have keep : Le h h₁ := keep
  refine wpAny_mono (Q := fun f s' => Q (match f with | .ret v => v | _ => .none) s') (E := fun _ _ => False) ?_ (fun _ _ q => q) (fun _ _ q => q.elim)
  have cl : ∀ p ∈ cellsFrom (h.objs.size + 1) fd.scope.names [], h₁.IsCell p.2 (bindC (callEnvC fd h.objs.size a).kindOf binds (fun _ => none) p.1) := fun p hp =>
    x.cell p.1 p.2 (lookup_of_nodup (by rw [show (callEnvC fd h.objs.size a).cells = cellsFrom (h.objs.size + 1) fd.scope.names [] from rfl, cells_keys]; simpa using (List.reverse_perm _).nodup_iff.mpr hnd) hp)
  have ab : ∀ p ∈ cellsFrom (h.objs.size + 1) fd.scope.names [], h.objs.size < p.2 := fun p hp => x.above p.1 p.2 hp
  refine H h₁ tk (fun c => (h₁.get? c).getD default) (fun y c e => ?_) ⟨⟨_, x.toInCall.ns, fun y v e => ?_⟩, hle.trans keep, hle.none (none_of_size h (Nat.le_refl _)), fun p hp => ?_, ?_⟩
  · obtain ⟨o', e1, e2⟩ := x.cell y c e
    have e1 : h₁.get? c = some o' := e1
    show ((h₁.get? c).getD default).data = _
    rw [e1]; exact e2
  · refine hm (y, v) ?_
    clear hm H
    induction m with
    | nil => cases e
    | cons p r ih =>
      obtain ⟨y', u⟩ := p
      rw [List.lookup_cons] at e
      cases q : y == y' with
      | true => rw [q] at e; cases e; rw [beq_iff_eq.mp q]; exact .head _
      | false => rw [q] at e; exact .tail _ (ih e)
  · rcases List.mem_append.mp hp with hp | hp
    · obtain ⟨q, hq, rfl⟩ := List.mem_map.mp hp
      obtain ⟨o', e1, e2⟩ := cl q hq
      refine ⟨?_, Nat.ne_of_gt (ab q hq), hle.none (none_of_size h (Nat.le_of_lt (ab q hq)))⟩
      show h₁.get? q.2 = some ((h₁.get? q.2).getD default)
      rw [e1]; rfl
    · obtain ⟨e1, e2⟩ := mem_exl.mp hp
      exact ⟨keep _ _ e1, Nat.ne_of_lt (Heap.lt_size e1), e2⟩
  · rw [List.map_append, List.map_map]
    refine List.nodup_append.mpr ⟨?_, nodup_exl _ _, fun y hy z hz => ?_⟩
    · have ap : (cellsFrom (h.objs.size + 1) fd.scope.names []).Pairwise fun x y => x.2 ≠ y.2 := x.apart
      exact List.pairwise_map.mpr ap
    · obtain ⟨q, hq, rfl⟩ := List.mem_map.mp hy
      obtain ⟨p, hp, rfl⟩ := List.mem_map.mp hz
      have := Heap.lt_size (mem_exl.mp hp).1
      have := ab q hq
      intro e
      have e : q.2 = p.1 := e
      rw [e] at this
      exact Nat.lt_irrefl _ (Nat.lt_trans this ‹_›)
end
section
variable {M : Model} {A : Around} {E : Value → Shared → Prop} {s : Shared} {env : Env} {x : Str} {v : Value} {c : Addr} {o : Obj} {pos : Pos} {h₀ h : Heap} {m : Loc} {ns : List (Addr × Obj)} {g : Array GenState} {d : Drawn} {t : Nat} {os : OsState}
theorem n_cell {Q : Value → Shared → Prop} (hc : env.cells.lookup x = some c) (ho : s.heap.get? c = some o) (hd : o.data = .cell (some v)) (h : Q v s)
    (hk : env.scope.kind = .function := by rfl) (hx : env.kindOf x = some .cell := by rfl) (hb : (x == ("__debug__" : Str)) = false := by rfl) :
    wpAny M A (eval (.Name x pos) env) Q E s := wpAny_Name (wpAny_loadName_cell hk hx hc ⟨o, ho, hd⟩ h) hb
theorem st_cell {v₀ : Option Value} {Q : Unit → Shared → Prop} (S : Sx h₀ env.locals m ((c, o) :: ns) h) (hc : env.cells.lookup x = some c) (hd : o.data = .cell v₀)
    (H : ∀ h' o', o'.data = .cell (some v) → Sx h₀ env.locals m ((c, o') :: ns) h' → Q () ⟨h', g, d, t, os⟩)
    (hk : env.scope.kind = .function := by rfl) (hl : env.kindOf x = some .cell := by rfl) : wpAny M A (storeName env x v) Q E ⟨h, g, d, t, os⟩ := by
  refine wpAny_storeName_cell (s := ⟨h, g, d, t, os⟩) hk hl hc ⟨o, (S.new _ (.head _)).1, hd⟩ fun h' hc' hs' => ?_
  obtain ⟨o', e1, e2⟩ := hc'
  exact H h' o' e2 (S.upd hs' e1)
end
end Mine
end
section
open PySem PySem.W PyProof.Rows PySem.Spec PySem.Calls
namespace Mine
section
variable {h₀ h h' : Heap} {L : Addr} {m : List (Str × Value)} {ns : List (Addr × Obj)}
/-- all that stands now, but for the frame and the mutable things, is base -/
theorem Sx.absorb (S : Sx h₀ L m ns h) (le : Le h h') : ∃ b, Le h₀ b ∧ Sx b L m ns h' ∧ Le b h' ∧ ∀ a o, h.get? a = none → h'.get? a = some o → b.get? a = some o := by
  have S' := S.keeps le
  have off : ∀ a o, h₀.get? a = some o → a ∉ L :: ns.map (·.1) := fun a o e q => by
    rcases List.mem_cons.mp q with q | q
    · rw [q, S.off] at e; cases e
    · obtain ⟨p, hp, rfl⟩ := List.mem_map.mp q
      rw [(S.new p hp).2.2] at e; cases e
  refine ⟨hideAll h' (L :: ns.map (·.1)), fun a o e => hideAll_get _ (S'.keep a o e) (off a o e), ⟨S'.loc, fun b o e => of_hideAll _ e, hideAll_none _ (.head _), fun p hp => ⟨(S'.new p hp).1, (S'.new p hp).2.1, hideAll_none _ (.tail _ (List.mem_map_of_mem hp))⟩, S'.nod⟩, fun _ _ e => of_hideAll _ e, fun a o e1 e2 => hideAll_get _ e2 fun q => ?_⟩
  rcases List.mem_cons.mp q with q | q
  · subst q
    obtain ⟨f, hn, _⟩ := S.loc
    obtain ⟨o, _, _, e, _⟩ := hn
    rw [e1] at e; cases e
  · obtain ⟨p, hp, rfl⟩ := List.mem_map.mp q
    rw [(S.new p hp).1] at e1; cases e1
theorem Sx.settle {a : Addr} {o : Obj} (S : Sx h₀ L m ((a, o) :: ns) h) : ∃ b, Le h₀ b ∧ Le b h ∧ b.get? a = some o ∧ Sx b L m ns h := by
  have A := S.new (a, o) (.head _)
  have nd := List.nodup_cons.mp S.nod
  have off : ∀ a o, h₀.get? a = some o → a ∉ L :: ns.map (·.1) := fun a o e q => by
    rcases List.mem_cons.mp q with q | q
    · rw [q, S.off] at e; cases e
    · obtain ⟨p, hp, rfl⟩ := List.mem_map.mp q
      rw [(S.new p (.tail _ hp)).2.2] at e; cases e
  refine ⟨hideAll h (L :: ns.map (·.1)), fun a o e => hideAll_get _ (S.keep a o e) (off a o e), fun _ _ e => of_hideAll _ e, hideAll_get _ A.1 fun q => ?_, ⟨S.loc, fun b o e => of_hideAll _ e, hideAll_none _ (.head _), fun p hp => ⟨(S.new p (.tail _ hp)).1, (S.new p (.tail _ hp)).2.1, hideAll_none _ (.tail _ (List.mem_map_of_mem hp))⟩, nd.2⟩⟩
  rcases List.mem_cons.mp q with q | q
  · exact A.2.1 q
  · exact nd.1 q
end
section
variable {prog : Program} {w : World} {A : Around} {E : Value → Shared → Prop} {h : Heap} {g : Array GenState} {d : Drawn} {t : Nat} {os : OsState}
theorem codeAny_compLoopT {s : Shared} {R : Result → Shared → Prop} {elt target iter : Expr} {ifs : List Expr} {scope : Scope} {pos : Pos} {it acc : Value} {env : Env} (I : Nat → Shared → Prop)
    (turn : ∀ n s, I n s → wpAny (model prog w) A (pyNext it) (fun r s₁ => match r with
      | none => R (.ok .next) s₁
      | some v => wpAny (model prog w) A (letOwnedTupleGo target it v) (fun _ s₁' => wpAny (model prog w) A (assign target env v) (fun _ s₂ =>
          wpAny (model prog w) A (forIn ifs true fun c r => if r = true then do let ok ← isTrue c env (eval c env); pure (ForInStep.yield ok) else pure (ForInStep.yield r)) (fun ok s₃ =>
            (ok = true → wpAny (model prog w) A (eval elt env) (fun x s₄ => wpAny (model prog w) A (call (.builtin "list.append") [acc, x]) (fun _ s₅ => ∃ m, m < n ∧ I m s₅) (fun _ _ => False) s₄) (fun _ _ => False) s₃)
            ∧ (ok = false → ∃ m, m < n ∧ I m s₃)) (fun _ _ => False) s₂) (fun _ _ => False) s₁') (fun _ _ => False) s₁) (fun _ _ => False) s)
    (n : Nat) (h : I n s) : codeAny (model prog w) A (.compLoop (.ListComp elt [⟨target, iter, ifs, 0⟩] scope pos) 0 it acc env) R s := by
  refine codeAny_loop rfl I (fun n s hI => ?_) n h
  show wpAny _ A ((compTurn (.ListComp elt [⟨target, iter, ifs, 0⟩] scope pos) 0 it acc env).onRaise (fun x => do noteFrame x env; theTreesLotGoes x)) _ _ s
  refine wpAny_noted ?_
  rw [compTurn_list]
  refine wpAny_bind (wpAny_standAt (wpAny_bind (wpAny_mono (turn n s hI) (fun r s₁ h₁ => ?_) fun _ _ h' => h'.elim)))
  cases r with
  | none => exact wpAny_pure h₁
  | some v =>
    refine wpAny_bind (wpAny_mono h₁ (fun _ s₁' h₁' => ?_) fun _ _ h' => h'.elim)
    refine wpAny_bind (wpAny_mono h₁' (fun _ s₂ h₂ => wpAny_bind (wpAny_mono h₂ (fun ok s₃ h₃ => ?_) fun _ _ h' => h'.elim)) fun _ _ h' => h'.elim)
    cases ok with
    | false => exact wpAny_pure ⟨rfl, h₃.2 rfl⟩
    | true => exact wpAny_bind (wpAny_bind (wpAny_mono (h₃.1 rfl) (fun x s₄ h₄ => wpAny_bind (wpAny_mono h₄ (fun _ s₅ h₅ => wpAny_pure (wpAny_pure ⟨rfl, h₅⟩)) fun _ _ h' => h'.elim)) fun _ _ h' => h'.elim))
theorem b_append {h₀ : Heap} {L l : Addr} {m : List (Str × Value)} {ns : List (Addr × Obj)} {xs : List Value} {n : Nat} {y : Value} {Q : Value → Shared → Prop}
    (S : Sx h₀ L m ((l, lsO xs n) :: ns) h) (hz : xs.length < 1000) (H : ∀ h', Sx h₀ L m ((l, lsO (xs ++ [y]) (n + 1)) :: ns) h' → Q .none ⟨h', g, d, t, os⟩) :
    wpAny (model prog w) A (call (.builtin "list.append") [.ref l, y]) Q E ⟨h, g, d, t, os⟩ := by
  have z : h.get? l = some (lsO xs n) := (S.new (l, lsO xs n) (.head _)).1
  have ti : (⟨h, g, d, t, os⟩ : Shared).TypeIs (.ref l) "list" := ⟨_, z, rfl⟩
  refine wpAny_call_entry slot_list_append ti entry_list_append ?_ (args_list_append _ _)
  show wpAny _ _ (updateSeq l (·.push y) >>= fun _ => ret .none) _ _ _
  refine wpAny_bind (wpAny_updateSeq z rfl (wpAny_pure ⟨.none, rfl, H _ (S.upd (Heap.SameBut.update ..) ?_)⟩) (by rw [List.size_toArray, sizeLine_eq]; omega))
  have q := PySem.IsL.update (n := n) (items := xs.toArray) z (·.push y)
  unfold PySem.IsL at q
  rw [if_neg (by simp)] at q
  rw [q]
  simp [lsO]
abbrev compE (scope : Scope) (cl : List (Str × Addr)) (C : Addr) (env : Env) : Env := compEnvC scope cl C env
abbrev Acc := Nat → Heap → Array GenState → List Value → Prop
theorem loop_comp {elt target iter : Expr} {ifs : List Expr} {scope : Scope} {pos : Pos} {env : Env} {b₀ : Heap} {n : Nat} {P : Nat → Heap → Value → Prop} {Itr : Nat → Obj → Prop} {it D : Addr} {o : Obj} {m : List (Str × Value)} {ex : List (Addr × Obj)} {R : Result → Shared → Prop}
    (T : ItOK prog w A target b₀ n P Itr) (J : Acc) (hz : n < 900) (S : Sx b₀ env.locals m ((it, o) :: (D, lsO [] 0) :: ex) h) (h0 : Itr 0 o) (hJ : J 0 b₀ g [])
    (turn : ∀ i v b g ys m ns h t, i < n → P i h v → Le b₀ b → J i b g ys → (∀ p ∈ ex, p ∈ ns) → Sx b env.locals m ns h → wpAny (model prog w) A (assign target env v) (fun _ s₂ =>
        wpAny (model prog w) A (forIn ifs true fun c r => if r = true then do let ok ← isTrue c env (eval c env); pure (ForInStep.yield ok) else pure (ForInStep.yield r)) (fun ok s₃ =>
          (ok = true → wpAny (model prog w) A (eval elt env) (fun y s₄ => ∃ b' g' m' h' t', s₄ = ⟨h', g', d, t', os⟩ ∧ Le b b' ∧ J (i + 1) b' g' (ys ++ [y]) ∧ Sx b' env.locals m' ns h') (fun _ _ => False) s₃)
          ∧ (ok = false → ∃ b' g' m' h' t', s₃ = ⟨h', g', d, t', os⟩ ∧ Le b b' ∧ J (i + 1) b' g' ys ∧ Sx b' env.locals m' ns h')) (fun _ _ => False) s₂) (fun _ _ => False) ⟨h, g, d, t, os⟩)
    (fin : ∀ b g ys k m h t, Le b₀ b → J n b g ys → Sx b env.locals m ((D, lsO ys k) :: ex) h → R (.ok .next) ⟨h, g, d, t, os⟩) :
    codeAny (model prog w) A (.compLoop (.ListComp elt [⟨target, iter, ifs, 0⟩] scope pos) 0 (.ref it) (.ref D) env) R ⟨h, g, d, t, os⟩ := by
  refine codeAny_compLoopT (fun k s => ∃ i b g m h t o ys c, s = ⟨h, g, d, t, os⟩ ∧ k = n + 1 - i ∧ i ≤ n ∧ ys.length ≤ i ∧ Le b₀ b ∧ Itr i o ∧ J i b g ys ∧ Sx b env.locals m ((it, o) :: (D, lsO ys c) :: ex) h) ?_ (n + 1) ⟨0, b₀, g, m, h, t, o, [], 0, rfl, rfl, Nat.zero_le _, Nat.le_refl _, Le.refl _, h0, hJ, S⟩
  rintro k s ⟨i, b, g, m, h, t, o, ys, c, rfl, rfl, hi, hy, hb, hit, hJ, S⟩
  have Z := S.new (it, o) (.head _)
  have Z0 : b₀.get? it = none := by
    cases q : b₀.get? it with
    | none => rfl
    | some o' => have := hb _ _ q; rw [Z.2.2] at this; cases this
  by_cases hlt : i < n
  · refine T.step i o it h g d t os _ _ _ _ (fun v s q => q) hlt hit (hb.trans S.keep) Z0 Z.1 fun v o'' h'' t' hv' hit'' he hs => ?_
    have S' := S.turn hs he
    refine wpAny_mono (turn i v b g ys m _ h'' t' hlt hv' hb hJ (fun p hp => .tail _ (.tail _ hp)) S') (fun _ s₂ q => wpAny_mono q (fun ok s₃ q => ⟨fun ho => ?_, fun ho => ?_⟩) fun _ _ q => q) fun _ _ q => q
    · refine wpAny_mono (q.1 ho) (fun y s₄ q => ?_) fun _ _ q => q
      obtain ⟨b', g', m', h3, t3, rfl, hb', hJ', S3⟩ := q
      refine b_append (S3.reorder (List.Perm.swap _ _ _)) (by omega) fun h4 S4 => ?_
      exact ⟨n + 1 - (i + 1), by omega, i + 1, b', g', m', h4, t3, o'', ys ++ [y], c + 1, rfl, rfl, hlt, by rw [List.length_append, List.length_singleton]; omega, hb.trans hb', hit'', hJ', S4.reorder (List.Perm.swap _ _ _)⟩
    · obtain ⟨b', g', m', h3, t3, rfl, hb', hJ', S3⟩ := q.2 ho
      exact ⟨n + 1 - (i + 1), by omega, i + 1, b', g', m', h3, t3, o'', ys, c, rfl, rfl, hlt, by omega, hb.trans hb', hit'', hJ', S3⟩
  · have e : i = n := by omega
    subst e
    refine T.done o it h g d t os _ _ hit (hb.trans S.keep) Z0 Z.1 fun h' t' hs => ?_
    exact fin b g ys c m h' t' hb hJ (S.gone hs)
/-- what is left behind a comprehension's first iterator -/
def LcB (prog : Program) (w : World) (A : Around) (env : Env) (scope : Scope) (e : Expr) (cl : List (Str × Addr)) (use : Option (Value → Sem Unit)) (Q : Value → Shared → Prop) (E : Value → Shared → Prop) (it : Value) (s₂ : Shared) : Prop :=
  wpAny (model prog w) A (newList []) (fun acc s₃ => wpAny (model prog w) A (newFunctionEnv scope env.globals cl [] env.qual none .none (some env)) (fun cenv s₄ =>
    codeAny (model prog w) A (.compStart e 0 it acc { cenv with scope := relabel scope env }) (compPost (model prog w) A E use Q acc cenv.locals) s₄) E s₃) E s₂
theorem lc_run {elt target iter : Expr} {ifs : List Expr} {scope : Scope} {pos : Pos} {env : Env} {cl : List (Str × Addr)} {use : Option (Value → Sem Unit)} {Q : Value → Shared → Prop} {b₀ : Heap} {n : Nat} {P : Nat → Heap → Value → Prop} {Itr : Nat → Obj → Prop} {it L : Addr} {o : Obj} {mo : Loc} {ns : List (Addr × Obj)}
    (S₀ : Sx b₀ L mo ((it, o) :: ns) h) (T : ItOK prog w A target b₀ n P Itr) (T' : ItSelf prog w A Itr) (J : Acc) (hz : n < 900) (h0 : Itr 0 o) (hJ : J 0 b₀ g [])
    (hcell : ∀ y ∈ scope.names, y.2 ≠ .cell) (hkind : scope.kind = .function)
    (turn : ∀ C i v b g ys m ns' h t, i < n → P i h v → Le b₀ b → J i b g ys → (∀ p ∈ ns, p ∈ ns') → Sx b C m ns' h → wpAny (model prog w) A (assign target (compEnvC scope cl C env) v) (fun _ s₂ =>
        wpAny (model prog w) A (forIn ifs true fun c r => if r = true then do let ok ← isTrue c (compEnvC scope cl C env) (eval c (compEnvC scope cl C env)); pure (ForInStep.yield ok) else pure (ForInStep.yield r)) (fun ok s₃ =>
          (ok = true → wpAny (model prog w) A (eval elt (compEnvC scope cl C env)) (fun y s₄ => ∃ b' g' m' h' t', s₄ = ⟨h', g', d, t', os⟩ ∧ Le b b' ∧ J (i + 1) b' g' (ys ++ [y]) ∧ Sx b' C m' ns' h') (fun _ _ => False) s₃)
          ∧ (ok = false → ∃ b' g' m' h' t', s₃ = ⟨h', g', d, t', os⟩ ∧ Le b b' ∧ J (i + 1) b' g' ys ∧ Sx b' C m' ns' h')) (fun _ _ => False) s₂) (fun _ _ => False) ⟨h, g, d, t, os⟩)
    (fin : ∀ D C b g ys k h' t, C ≠ L → C ∉ ((D, lsO ys k) :: ns).map (·.1) → b.get? C = none → (∃ f, h'.Ns C f) → Le b₀ b → J n b g ys → Sx b L mo ((D, lsO ys k) :: ns) h' → compPost (model prog w) A E use Q (.ref D) C (.ok .next) ⟨h', g, d, t, os⟩) :
    LcB prog w A env scope (.ListComp elt [⟨target, iter, ifs, 0⟩] scope pos) cl use Q E (.ref it) ⟨h, g, d, t, os⟩ := by
  unfold LcB
  have hi : h.get? it = some o := (S₀.new (it, o) (.head _)).1
  refine wpAny_newObj_type ?_ (by size_fits)
  refine wpAny_newFunctionEnv hcell (by intro y hy; cases hy) (fun h1 hns hsb => ?_) hkind
  have S₁ := S₀.alloc (lsO [] 0)
  generalize hH : (h.push { cls := .type "list", dict := none, data := .seq ([] : List Value).toArray } : Heap) = h2 at hns hsb ⊢
  have hH' : h.push (lsO [] 0) = h2 := hH
  rw [hH'] at S₁
  have up1 : Le h2 h1 := fun b o e => hsb.extBut b o (Nat.ne_of_lt (Heap.lt_size e)) (Heap.get?_push_of_some _ e)
  have up2 : Le h h2 := by subst hH; exact fun b o e => Heap.get?_push_of_some _ e
  have S₂ := S₁.reorder (List.Perm.swap _ _ _)
  obtain ⟨oL, eL, an, nd⟩ := S₂.asNs
  have S : Sx b₀ h2.objs.size [] ((it, o) :: (h.objs.size, lsO [] 0) :: (L, oL) :: ns) h1 := by
    have pm : ((it, o) :: (h.objs.size, lsO [] 0) :: (L, oL) :: ns).Perm ((L, oL) :: (it, o) :: (h.objs.size, lsO [] 0) :: ns) :=
      ((List.Perm.swap (L, oL) (h.objs.size, lsO [] 0) ns).cons (it, o)).trans (List.Perm.swap (L, oL) (it, o) _)
    refine ⟨⟨_, hns, fun x v e => by cases e⟩, (S₁.keep).trans up1, (S₁.keep).none (none_of_size h2 (Nat.le_refl _)), fun p hp => ?_, (pm.map _).nodup_iff.mpr nd⟩
    have A := an p (pm.mem_iff.mp hp)
    exact ⟨up1 _ _ A.1, Nat.ne_of_lt (Heap.lt_size A.1), A.2⟩
  have loop : ∀ t, codeAny (model prog w) A (.compLoop (.ListComp elt [⟨target, iter, ifs, 0⟩] scope pos) 0 (.ref it) (.ref h.objs.size) (compEnvC scope cl h2.objs.size env)) (compPost (model prog w) A E use Q (.ref h.objs.size) h2.objs.size) ⟨h1, g, d, t, os⟩ := fun t => by
    refine loop_comp (env := compEnvC scope cl h2.objs.size env) T J hz S h0 hJ (fun i v b g ys m ns h t a1 a2 a3 a4 a5 a6 => turn _ i v b g ys m ns h t a1 a2 a3 a4 (fun p hp => a5 p (.tail _ hp)) a6) fun b g ys k m h' t hb' hJ' S' => ?_
    have S' : Sx b h2.objs.size m ((h.objs.size, lsO ys k) :: (L, oL) :: ns) h' := S'
    have ZL := S'.new (L, oL) (.tail _ (.head _))
    have nd' := List.nodup_cons.mp S'.nod
    have nd2 := List.nodup_cons.mp nd'.2
    refine fin _ _ b g ys k h' t (Ne.symm ZL.2.1) (fun q => ?_) S'.off (let ⟨f, e, _⟩ := S'.loc; ⟨f, e⟩) hb' hJ' ⟨?_, S'.keep, ZL.2.2, fun p hp => ?_, ?_⟩
    · obtain ⟨p, hp, e⟩ := List.mem_map.mp q
      refine (S'.new p ?_).2.1 e
      rcases List.mem_cons.mp hp with rfl | hp
      · exact .head _
      · exact .tail _ (.tail _ hp)
    · obtain ⟨f, hn, hf⟩ := S₂.loc
      exact ⟨f, hn.at' fun o' e' => by rw [eL] at e'; cases e'; exact ZL.1, hf⟩
    · rcases List.mem_cons.mp hp with rfl | hp
      · have Z := S'.new _ (.head _)
        exact ⟨Z.1, fun e => nd'.1 (by show h.objs.size ∈ _; rw [show h.objs.size = L from e]; exact .head _), Z.2.2⟩
      · have Z := S'.new p (.tail _ (.tail _ hp))
        exact ⟨Z.1, fun e => nd2.1 (List.mem_map.mpr ⟨p, hp, e⟩), Z.2.2⟩
    · exact List.nodup_cons.mpr ⟨fun q => nd'.1 (.tail _ q), nd2.2⟩
  exact codeAny_compStart_list (loop _) (T'.self 0 o it h1 g d _ os _ _ h0 (up1 _ _ (up2 _ _ hi)) (loop _))
/-- the scratch frame is let go -/
theorem Sx.butC {h₀ h h' : Heap} {L C : Addr} {m : Loc} {ns : List (Addr × Obj)} (S : Sx h₀ L m ns h) (c1 : C ≠ L) (c2 : C ∉ ns.map (·.1)) (c3 : h₀.get? C = none) (hs : Heap.SameBut C h h') : Sx h₀ L m ns h' := by
  obtain ⟨f, hn, hf⟩ := S.loc
  refine ⟨⟨f, hn.sameBut hs (Ne.symm c1), hf⟩, fun a o e => (hs.2 a fun q => by rw [q, c3] at e; cases e).trans (S.keep a o e), S.off, fun p hp => ?_, S.nod⟩
  have P := S.new p hp
  exact ⟨(hs.2 p.1 fun q => c2 (List.mem_map.mpr ⟨p, hp, q⟩)).trans P.1, P.2⟩
/-- the plain end -/
theorem lcI {elt target iter : Expr} {ifs : List Expr} {scope : Scope} {pos : Pos} {env : Env} {cl : List (Str × Addr)} {Q : Value → Shared → Prop} {b₀ : Heap} {n : Nat} {P : Nat → Heap → Value → Prop} {Itr : Nat → Obj → Prop} {L : Addr} {o : Obj} {mo : Loc} {ns : List (Addr × Obj)}
    (S : Sx b₀ L mo ns h) (T : ItOK prog w A target b₀ n P Itr) (T' : ItSelf prog w A Itr) (J : Acc) (hz : n < 900) (h0 : Itr 0 o) (hJ : J 0 b₀ g [])
    (turn : ∀ C i v b g ys m ns' h t, i < n → P i h v → Le b₀ b → J i b g ys → (∀ p ∈ ns, p ∈ ns') → Sx b C m ns' h → wpAny (model prog w) A (assign target (compEnvC scope cl C env) v) (fun _ s₂ =>
        wpAny (model prog w) A (forIn ifs true fun c r => if r = true then do let ok ← isTrue c (compEnvC scope cl C env) (eval c (compEnvC scope cl C env)); pure (ForInStep.yield ok) else pure (ForInStep.yield r)) (fun ok s₃ =>
          (ok = true → wpAny (model prog w) A (eval elt (compEnvC scope cl C env)) (fun y s₄ => ∃ b' g' m' h' t', s₄ = ⟨h', g', d, t', os⟩ ∧ Le b b' ∧ J (i + 1) b' g' (ys ++ [y]) ∧ Sx b' C m' ns' h') (fun _ _ => False) s₃)
          ∧ (ok = false → ∃ b' g' m' h' t', s₃ = ⟨h', g', d, t', os⟩ ∧ Le b b' ∧ J (i + 1) b' g' ys ∧ Sx b' C m' ns' h')) (fun _ _ => False) s₂) (fun _ _ => False) ⟨h, g, d, t, os⟩)
    (fin : ∀ D b g ys k h' t, Le b₀ b → J n b g ys → Sx b L mo ((D, lsO ys k) :: ns) h' → Q (.ref D) ⟨h', g, d, t, os⟩)
    (hf : o.isFreed = false := by rfl) (hcell : (scope.names.all fun x => x.2 != .cell) = true := by rfl) (hkind : scope.kind = .function := by rfl) :
    LcB prog w A env scope (.ListComp elt [⟨target, iter, ifs, 0⟩] scope pos) cl none Q E (.ref h.objs.size) ⟨h.push o, g, d, t, os⟩ := by
  refine lc_run (S.alloc o hf) T T' J hz h0 hJ (fun y hy => by simpa using List.all_eq_true.mp hcell y hy) hkind turn ?_
  intro D C b g ys k h' t c1 c2 c3 ⟨f, c4⟩ hb hJ' S'
  exact ⟨f, c4, fun h'' hs => fin D b g ys k h'' t hb hJ' (S'.butC c1 c2 c3 hs)⟩
/-- the swapped end, into a local -/
theorem lcS {elt target iter : Expr} {ifs : List Expr} {scope : Scope} {pos py : Pos} {env : Env} {y : Str} {cl : List (Str × Addr)} {Q : Value → Shared → Prop} {b₀ : Heap} {n : Nat} {P : Nat → Heap → Value → Prop} {Itr : Nat → Obj → Prop} {o : Obj} {mo : Loc} {ns : List (Addr × Obj)}
    (S : Sx b₀ env.locals mo ns h) (T : ItOK prog w A target b₀ n P Itr) (T' : ItSelf prog w A Itr) (J : Acc) (hz : n < 900) (h0 : Itr 0 o) (hJ : J 0 b₀ g [])
    (turn : ∀ C i v b g ys m ns' h t, i < n → P i h v → Le b₀ b → J i b g ys → (∀ p ∈ ns, p ∈ ns') → Sx b C m ns' h → wpAny (model prog w) A (assign target (compEnvC scope cl C env) v) (fun _ s₂ =>
        wpAny (model prog w) A (forIn ifs true fun c r => if r = true then do let ok ← isTrue c (compEnvC scope cl C env) (eval c (compEnvC scope cl C env)); pure (ForInStep.yield ok) else pure (ForInStep.yield r)) (fun ok s₃ =>
          (ok = true → wpAny (model prog w) A (eval elt (compEnvC scope cl C env)) (fun y s₄ => ∃ b' g' m' h' t', s₄ = ⟨h', g', d, t', os⟩ ∧ Le b b' ∧ J (i + 1) b' g' (ys ++ [y]) ∧ Sx b' C m' ns' h') (fun _ _ => False) s₃)
          ∧ (ok = false → ∃ b' g' m' h' t', s₃ = ⟨h', g', d, t', os⟩ ∧ Le b b' ∧ J (i + 1) b' g' ys ∧ Sx b' C m' ns' h')) (fun _ _ => False) s₂) (fun _ _ => False) ⟨h, g, d, t, os⟩)
    (fin : ∀ D b g ys k h' t, Le b₀ b → J n b g ys → Sx b env.locals ((y, .ref D) :: mo) ((D, lsO ys k) :: ns) h' → Q .none ⟨h', g, d, t, os⟩)
    (hf : o.isFreed = false := by rfl) (hcell : (scope.names.all fun x => x.2 != .cell) = true := by rfl) (hkind : scope.kind = .function := by rfl)
    (hk : env.scope.kind = .function := by rfl) (hl : env.kindOf y = some .local := by rfl) :
    LcB prog w A env scope (.ListComp elt [⟨target, iter, ifs, 0⟩] scope pos) cl (some (assign (.Name y py) env)) Q E (.ref h.objs.size) ⟨h.push o, g, d, t, os⟩ := by
  refine lc_run (S.alloc o hf) T T' J hz h0 hJ (fun y hy => by simpa using List.all_eq_true.mp hcell y hy) hkind turn ?_
  intro D C b g ys k h' t c1 c2 c3 ⟨f, c4⟩ hb hJ' S'
  obtain ⟨f0, hn0, hf0⟩ := S'.loc
  refine wpAny_assign_Name (wpAny_storeName_local (s := ⟨h', g, d, t, os⟩) hl hn0 (fun h2 hn2 hs2 => ?_) (by rw [hk]; rfl))
  have S2 : Sx b env.locals ((y, .ref D) :: mo) ((D, lsO ys k) :: ns) h2 := by
    refine ⟨⟨_, hn2, fun z u e => ?_⟩, fun a o e => (hs2.2 a fun q => by rw [q, S'.off] at e; cases e).trans (S'.keep a o e), S'.off, fun p hp => ?_, S'.nod⟩
    · rw [List.lookup_cons] at e
      by_cases q : z = y
      · subst q; simpa using e
      · rw [beq_eq_false_iff_ne.mpr q] at e; rw [if_neg q]; exact hf0 _ _ e
    · have P := S'.new p hp
      exact ⟨(hs2.2 p.1 P.2.1).trans P.1, P.2⟩
  exact ⟨f, c4.sameBut hs2 c1, fun h'' hs => fin D b g ys k h'' _ hb hJ' (S2.butC c1 c2 c3 hs)⟩
theorem e_lc0 {elt target iter : Expr} {ifs : List Expr} {scope : Scope} {pos : Pos} {env : Env} {Q : Value → Shared → Prop} {s : Shared} (cl : List (Str × Addr))
    (H : wpAny (model prog w) A (eval iter env) (fun x s₁ => wpAny (model prog w) A (pyIter x) (fun it s₂ => LcB prog w A env scope (.ListComp elt [⟨target, iter, ifs, 0⟩] scope pos) cl none Q E it s₂) E s₁) E s)
    (hclos : closureFor scope env = pure cl := by rfl) (hkind : scope.kind = .function := by rfl) (hnames : ∀ x ∈ scope.names, x.2 = .local → scope.names.lookup x.1 = some .local := by decide) (hs : ∀ x, foldedSetIterable iter env x = pure x := by intro _; rfl) :
    wpAny (model prog w) A (eval (.ListComp elt [⟨target, iter, ifs, 0⟩] scope pos) env) Q E s := by
  rw [eval_ListComp]
  exact wpAny_comprehension_free rfl hs hclos hkind hnames H
/-- x = [..] whose store is exchanged with the letting go -/
theorem x_lc0 {elt target iter : Expr} {ifs : List Expr} {scope : Scope} {pos py spos : Pos} {y : Str} {env : Env} {rest : List Stmt} {Q : Flow → Shared → Prop} {s : Shared} (cl : List (Str × Addr))
    (H : wpAny (model prog w) A (eval iter env) (fun x s₁ => wpAny (model prog w) A (pyIter x) (fun it s₂ => LcB prog w A env scope (.ListComp elt [⟨target, iter, ifs, 0⟩] scope pos) cl (some (assign (.Name y py) env)) (fun _ s' => wpAny (model prog w) A (execs rest env) Q E s') E it s₂) E s₁) E s)
    (hsw : swapsWith (.ListComp elt [⟨target, iter, ifs, 0⟩] scope pos) (some (.Name y py)) spos.line env = pure true := by rfl)
    (hclos : closureFor scope env = pure cl := by rfl) (hkind : scope.kind = .function := by rfl) (hnames : ∀ x ∈ scope.names, x.2 = .local → scope.names.lookup x.1 = some .local := by decide) (hs : ∀ x, foldedSetIterable iter env x = pure x := by intro _; rfl) :
    wpAny (model prog w) A (execs (.Assign [.Name y py] (.ListComp elt [⟨target, iter, ifs, 0⟩] scope pos) spos :: rest) env) Q E s := by
  refine wpAny_execs_cons ?_
  rw [exec_Assign_Name_used _ _ _ _ hsw]
  refine wpAny_bind (wpAny_standAt (wpAny_bind ?_))
  show wpAny _ A (do let _ ← comprehension (.ListComp elt [⟨target, iter, ifs, 0⟩] scope pos) scope env _ (newList []) false (eval iter env) (some (assign (.Name y py) env))) _ _ s
  exact wpAny_bind (wpAny_mono (wpAny_comprehension_free rfl hs hclos hkind hnames H) (fun _ s' q => wpAny_pure (wpAny_pure q)) fun _ _ q => q)
end
end Mine
end
section
open PySem PySem.W PyProof.Rows PySem.Spec PySem.Calls
namespace Mine
section
variable {prog : Program} {w : World} {A : Around} {E : Value → Shared → Prop} {h b₀ : Heap} {target : Expr} {g : Array GenState} {d : Drawn} {t : Nat} {os : OsState}
theorem own_plain {v : Value} {it : Addr} {o : Obj} {T : String} {vs : Array Value} {Q : Unit → Shared → Prop} (hg : h.get? it = some o) (hc : o.cls = .type T) (hd : o.data = .fields vs)
    (hT : ["enumerate", "zip", "dict_itemiterator", "dict_reverseitemiterator", "odict_iterator", "itertools.zip_longest", "itertools.pairwise"].contains T = false) (H : Q () ⟨h, g, d, t, os⟩) :
    wpAny (model prog w) A (letOwnedTupleGo target (.ref it) v) Q E ⟨h, g, d, t, os⟩ := by
  have pl : ∀ (tg : Sem Unit), tg = (do
      let o ← load it
      match o.cls, o.data with
      | .type n, .fields vs =>
        if ["enumerate", "zip", "dict_itemiterator", "dict_reverseitemiterator", "odict_iterator", "itertools.zip_longest", "itertools.pairwise"].contains n && vs[0]? == some (rawInt (match v with | .ref a => a | _ => 0)) then
          rule "for.unpacks-the-owned-tuple"
          updateField it 0 .none
      | _, _ => pure ()) → wpAny (model prog w) A tg Q E ⟨h, g, d, t, os⟩ := by
    rintro _ rfl
    refine wpAny_bind (wpAny_load (s := ⟨h, g, d, t, os⟩) hg ?_)
    rw [hc, hd]
    dsimp only
    rw [hT]
    exact wpAny_pure H
  unfold letOwnedTupleGo
  split
  · cases v <;> first | exact wpAny_pure H | exact pl _ rfl
  · cases v <;> first | exact wpAny_pure H | exact pl _ rfl
  · exact wpAny_pure H
abbrev rgI (n i : Nat) : Obj := { cls := .type "range_iterator", dict := none, data := .fields #[rawInt (i : Int), rawInt ((n : Int) - i), rawInt 1], slots := #[] }
theorem it_range {n : Nat} (hh : A.handled = none) : ItOK prog w A target b₀ n (fun i _ v => ∃ u, v = .int i u) (fun i o => i ≤ n ∧ o = rgI n i) := ItOK.of
  (item := fun i o it h g d t os Q E hi hit hb h0 hg H => by
    obtain ⟨_, rfl⟩ := hit
    refine wpAny_pyNext_range_item (s := ⟨h, g, d, t, os⟩) hg (by omega) fun h' hit' hs => ?_
    have e : h'.get? it = some (rgI n (i + 1)) := by
      rw [hit', show ((i : Int) + 1) = ((i + 1 : Nat) : Int) by omega, show ((n : Int) - i - 1) = ((n : Int) - ((i + 1 : Nat) : Int)) by omega]
    exact H _ _ h' _ ⟨_, rfl⟩ ⟨hi, rfl⟩ e fun b ob hne e => hs.extBut b ob hne e)
  (done := fun o it h g d t os Q E hit hb h0 hg H => by
    obtain ⟨_, rfl⟩ := hit
    exact wpAny_pyNext_range_end (s := ⟨h, g, d, t, os⟩) hh hg (by omega) fun h' he => H h' t fun b ob hne e => he b ob hne e)
  (own := fun i v o it h g d t os Q E hit hg hv H => by
    obtain ⟨q, rfl⟩ := hit
    exact own_plain hg rfl rfl rfl (H _ h ⟨q, rfl⟩ hg (fun _ _ _ e => e) hv))
theorem its_range {n : Nat} : ItSelf prog w A (fun i o => i ≤ n ∧ o = rgI n i) :=
  ⟨fun i o it h g d t os Q E hit hg H => wpAny_pyIter_rangeiter (s := ⟨h, g, d, t, os⟩) (by rw [hit.2] at hg; exact hg) H⟩
abbrev tpI (t : Addr) (i : Nat) (o : Obj) : Prop := o.cls = .type "tuple_iterator" ∧ o.data = .fields #[.ref t, .int i 0]
theorem it_tup {l : Addr} {items : Array Value} (hh : A.handled = none) (hl : b₀.IsTuple l items) : ItOK prog w A target b₀ items.size (fun i _ v => items[i]? = some v) (tpI l) := ItOK.of
  (item := fun i o it h g d t os Q E hi hit hb h0 hg H => by
    have hl' : h.IsTuple l items := let ⟨o, a, r⟩ := hl; ⟨o, hb _ _ a, r⟩
    refine wpAny_pyNext_tuple_item (s := ⟨h, g, d, t, os⟩) ⟨o, hg, hit⟩ hl' (x := items[i]) (by simp [hi]) fun h' hit' hs => ?_
    obtain ⟨o', hg', hit'⟩ := hit'
    exact H _ o' h' t (by simp [hi]) hit' hg' fun b ob hne e => hs.extBut b ob hne e)
  (done := fun o it h g d t os Q E hit hb h0 hg H => by
    have hl' : h.IsTuple l items := let ⟨o, a, r⟩ := hl; ⟨o, hb _ _ a, r⟩
    exact wpAny_pyNext_tuple_end (s := ⟨h, g, d, t, os⟩) hh ⟨o, hg, hit⟩ hl' (by simp) fun h' he => H h' t fun b ob hne e => he b ob hne e)
  (own := fun i v o it h g d t os Q E hit hg hv H => own_plain hg hit.1 hit.2 rfl (H _ h hit hg (fun _ _ _ e => e) hv))
theorem its_tup {l : Addr} : ItSelf prog w A (tpI l) :=
  ⟨fun i o it h g d t os Q E hit hg H => wpAny_pyIter_tupleiter (s := ⟨h, g, d, t, os⟩) ⟨o, hg, hit⟩ H⟩
theorem b_range {n : Nat} {u : Tok} {Q : Value → Shared → Prop} (H : ∀ t1 t2 t', Q (.ref h.objs.size) ⟨h.push { cls := .type "range", data := .fields #[.int 0 t1, .int n u, .int 1 t2] }, g, d, t', os⟩) :
    wpAny (model prog w) A (call (.type "range") [.int n u]) Q E ⟨h, g, d, t, os⟩ := call_range_1 (H _ _ _)
theorem p_range {n : Nat} {u t1 t2 : Tok} {r : Addr} {Q : Value → Shared → Prop} (hr : h.get? r = some { cls := .type "range", data := .fields #[.int 0 t1, .int n u, .int 1 t2] }) (hn : n < 1000)
    (H : Q (.ref h.objs.size) ⟨h.push (rgI n 0), g, d, t, os⟩) : wpAny (model prog w) A (pyIter (.ref r)) Q E ⟨h, g, d, t, os⟩ := by
  refine wpAny_pyIter_range (s := ⟨h, g, d, t, os⟩) hr (small_one (by omega) (by omega) (by omega) (by omega)) ?_
  have e : Builtin.Range.rangeSize 0 (n : Int) 1 = n - ((0 : Nat) : Int) := by rw [rangeSize_one]; split <;> omega
  rw [e]
  exact H
end
end Mine
end
section
open PySem PySem.W PyProof.Rows PySem.Spec PySem.Calls
namespace Mine
section
variable {prog : Program} {w : World} {A : Around} {E : Value → Shared → Prop} {h b₀ : Heap} {target : Expr} {g : Array GenState} {d : Drawn} {t : Nat} {os : OsState}
/-- a dict by ints, as its object -/
abbrev DO (prog : Program) (w : World) (o : Obj) (kvs : List (Int × Value)) : Prop := o.IsDictOf (intKind prog w) kvs
theorem do_empty : DO prog w { cls := .type "dict", data := .dict #[] } [] := by
  obtain ⟨o, ho, r⟩ := Heap.dictOf_iff.mp (Heap.DictOf.new (knd := intKind prog w) default)
  rw [Heap.get?_push_size _ rfl] at ho
  cases ho
  exact r
theorem dof {a : Addr} {o : Obj} {kvs : List (Int × Value)} (e : h.get? a = some o) (D : DO prog w o kvs) : h.DictOf (intKind prog w) a kvs := Heap.dictOf_iff.mpr ⟨o, e, D⟩
theorem isI (k : Int) (u : Tok) : (intKind prog w).is k (.int k u) = true := by simp [intKind, Value.isInt]
theorem isI_inv {k : Int} {v : Value} (h : (intKind prog w).is k v = true) : ∃ u, v = .int k u := Value.isInt_shape h
/-- no address of ours is the modules' table -/
theorem nosys {w : World} (G : Gd w b₀) {a : Addr} (e : b₀.get? a = none) : (a == sysModules) = false := by
  have : ∃ o, b₀.get? sysModules = some o := ⟨_, G sysModules _ rfl (by decide)⟩
  obtain ⟨o, e'⟩ := this
  exact beq_eq_false_iff_ne.mpr fun q => by rw [q, e'] at e; cases e
/-- d[k] = v on a mutable dict -/
theorem s_dict {L a : Addr} {m : Loc} {ns : List (Addr × Obj)} {o : Obj} {kvs : List (Int × Value)} {k : Int} {u : Tok} {v : Value} {Q : Unit → Shared → Prop} (S : Sx b₀ L m ((a, o) :: ns) h) (D : DO prog w o kvs) (hz : kvs.length < 1000)
    (H : ∀ h' t' o', DO prog w o' (stored kvs k v) → Sx b₀ L m ((a, o') :: ns) h' → Q () ⟨h', g, d, t', os⟩) : wpAny (model prog w) A (setItem (.ref a) (.int k u) v) Q E ⟨h, g, d, t, os⟩ := by
  refine wpAny_setItem_pairs (s := ⟨h, g, d, t, os⟩) (isI k u) (dof (S.new _ (.head _)).1 D) (fun h' D' hs => ?_) (by rw [sizeLine_eq]; omega)
  obtain ⟨o', e, D'⟩ := Heap.dictOf_iff.mp D'
  exact H _ _ o' D' (S.upd hs e)
theorem o_in {a : Addr} {o : Obj} {kvs : List (Int × Value)} {k : Int} {u : Tok} {Q : Value → Shared → Prop} (e : h.get? a = some o) (D : DO prog w o kvs) (hs : (a == sysModules) = false) (H : ∀ t', Q (.bool (valueAt kvs k).isSome) ⟨h, g, d, t', os⟩) :
    wpAny (model prog w) A (compareOp .In (.int k u) (.ref a)) Q E ⟨h, g, d, t, os⟩ := wpAny_in_of (isI k u) hs (dof e D).mapOf (H _)
theorem i_dict {value slice : Expr} {a : Addr} {o : Obj} {kvs : List (Int × Value)} {k : Int} {u : Tok} {v : Value} {Q : Value → Shared → Prop} (e : h.get? a = some o) (D : DO prog w o kvs) (hv : valueAt kvs k = some v) (H : ∀ t', Q v ⟨h, g, d, t', os⟩)
    (hs : subscripted slice false (.ref a) (.int k u) = operate [.ref a, .int k u] (getItem (.ref a) (.int k u)) := by rfl) : wpAny (model prog w) A (subscriptTail value slice (.ref a) (.int k u)) Q E ⟨h, g, d, t, os⟩ :=
  tail_any (s := ⟨h, g, d, t, os⟩) (dof e D).typeIs slot_dict_getitem.lookup (wpAny_getItem_of (isI k u) (dof e D).mapOf hv (H _)) hs
abbrev itI (a : Addr) (n ep i : Nat) (o : Obj) : Prop := ∃ ok ov, o = { cls := .type "dict_itemiterator", dict := none, data := .fields #[.none, .bool false, .ref a, .int i 0, .int n 0, .int ep 0, ok, ov], slots := #[] }
theorem dat {a : Addr} {o : Obj} {kvs : List (Int × Value)} (e : h.get? a = some o) (D : DO prog w o kvs) {es : Array DictEntry} {ep : Nat} (hd : o.data = .dict es ep) : h.DictAt (intKind prog w) a kvs ep := by
  obtain ⟨es', ep', h1, h2, h3⟩ := D
  rw [hd] at h2; cases h2
  exact ⟨o, es, e, h1, hd, h3⟩
theorem it_items {a : Addr} {o : Obj} {kvs : List (Int × Value)} {elts : List Expr} {x1 : Nat} {tp : Pos} {es : Array DictEntry} {ep : Nat} (hh : A.handled = none) (e : b₀.get? a = some o) (D : DO prog w o kvs) (hd : o.data = .dict es ep) :
    ItOK prog w A (.Tuple elts x1 tp) b₀ kvs.length (fun i h v => ∃ k x u c, kvs[i]? = some (k, x) ∧ v = .ref c ∧ IsTup h c (List.toArray [.int k u, x])) (itI a kvs.length ep) where
  step := fun i o' it h g d t os R Q E E' hR hi hit hb h0 hg H => by
    obtain ⟨ok, ov, rfl⟩ := hit
    obtain ⟨⟨k, x⟩, hkx⟩ : ∃ p, kvs[i]? = some p := ⟨kvs[i], by simp [hi]⟩
    refine wpAny_pyNext_items_item (s := ⟨h, g, d, t, os⟩) hg (dat (hb _ _ e) D hd) hkx fun key h' hk hit' ht hsz hk' => hR _ _ ?_
    obtain ⟨u, rfl⟩ := isI_inv hk
    refine wpAny_letOwnedTupleGo_items (s := ⟨h', g, d, t, os⟩) hit' fun h'' hit'' hs => ?_
    have ne : h.objs.size ≠ it := Nat.ne_of_gt (Heap.lt_size hg)
    refine H _ _ h'' t ⟨k, x, u, _, hkx, rfl, ⟨_, (hs.2 _ ne).trans ht, rfl, _, rfl⟩⟩ ⟨_, _, rfl⟩ hit'' fun b ob hne e => (hs.2 _ hne).trans (hk' b ob hne e)
  done := fun o' it h g d t os Q E hit hb h0 hg H => by
    obtain ⟨ok, ov, rfl⟩ := hit
    exact wpAny_pyNext_items_end (s := ⟨h, g, d, t, os⟩) hh hg (dat (hb _ _ e) D hd) (by simp) fun h' he => H h' t fun b ob hne e => he b ob hne e
theorem b_items {a : Addr} {o : Obj} {kvs : List (Int × Value)} {Q : Value → Shared → Prop} (e : h.get? a = some o) (D : DO prog w o kvs) (hs : (a == sysModules) = false) (H : Q (.ref h.objs.size) ⟨h.push { cls := .type "dict_items", data := .fields #[.ref a] }, g, d, t, os⟩) :
    wpAny (model prog w) A (call (.builtin "dict.items") [.ref a]) Q E ⟨h, g, d, t, os⟩ :=
  call_meetsIn (s := ⟨h, g, d, t, os⟩) F.slot_dict_items (dof e D).typeIs F.entry_dict_items (F.args_dict_items_1 _) (meets_dict_items (intKind prog w) a hs) ⟨⟨kvs, dof e D⟩, H⟩
theorem b_values {a : Addr} {o : Obj} {kvs : List (Int × Value)} {Q : Value → Shared → Prop} (e : h.get? a = some o) (D : DO prog w o kvs) (hs : (a == sysModules) = false) (H : Q (.ref h.objs.size) ⟨h.push { cls := .type "dict_values", data := .fields #[.ref a] }, g, d, t, os⟩) :
    wpAny (model prog w) A (call (.builtin "dict.values") [.ref a]) Q E ⟨h, g, d, t, os⟩ :=
  call_meetsIn (s := ⟨h, g, d, t, os⟩) F.slot_dict_values (dof e D).typeIs F.entry_dict_values (F.args_dict_values_1 _) (meets_dict_values (intKind prog w) a hs) ⟨⟨kvs, dof e D⟩, H⟩
abbrev vlI (a : Addr) (n ep i : Nat) (o : Obj) : Prop := o.cls = .type "dict_valueiterator" ∧ o.data = .fields #[.ref a, .int i 0, .int n 0, .int ep 0]
theorem it_values {a : Addr} {o : Obj} {kvs : List (Int × Value)} {es : Array DictEntry} {ep : Nat} (hh : A.handled = none) (e : b₀.get? a = some o) (D : DO prog w o kvs) (hd : o.data = .dict es ep) :
    ItOK prog w A target b₀ kvs.length (fun i _ v => ∃ k, kvs[i]? = some (k, v)) (vlI a kvs.length ep) := ItOK.of
  (item := fun i o' it h g d t os Q E hi hit hb h0 hg H => by
    obtain ⟨⟨k, x⟩, hkx⟩ : ∃ p, kvs[i]? = some p := ⟨kvs[i], by simp [hi]⟩
    refine wpAny_pyNext_values_item (s := ⟨h, g, d, t, os⟩) ⟨o', hg, hit⟩ (dat (hb _ _ e) D hd) hkx fun h' hit' hs => ?_
    obtain ⟨o'', hg', hit'⟩ := hit'
    exact H _ o'' h' t ⟨k, hkx⟩ hit' hg' fun b ob hne e => hs.extBut b ob hne e)
  (done := fun o' it h g d t os Q E hit hb h0 hg H => wpAny_pyNext_values_end (s := ⟨h, g, d, t, os⟩) hh ⟨o', hg, hit⟩ (dat (hb _ _ e) D hd) (by simp) fun h' he => H h' t fun b ob hne e => he b ob hne e)
  (own := fun i v o it h g d t os Q E hit hg hv H => own_plain hg hit.1 hit.2 rfl (H _ h hit hg (fun _ _ _ e => e) hv))
abbrev kyI (a : Addr) (n ep i : Nat) (o : Obj) : Prop := o.cls = .type "dict_keyiterator" ∧ o.data = .fields #[.ref a, .int i 0, .int n 0, .int ep 0]
theorem it_keys {a : Addr} {o : Obj} {kvs : List (Int × Value)} {es : Array DictEntry} {ep : Nat} (hh : A.handled = none) (e : b₀.get? a = some o) (D : DO prog w o kvs) (hd : o.data = .dict es ep) :
    ItOK prog w A target b₀ kvs.length (fun i _ v => ∃ k x u, kvs[i]? = some (k, x) ∧ v = .int k u) (kyI a kvs.length ep) := ItOK.of
  (item := fun i o' it h g d t os Q E hi hit hb h0 hg H => by
    obtain ⟨⟨k, x⟩, hkx⟩ : ∃ p, kvs[i]? = some p := ⟨kvs[i], by simp [hi]⟩
    refine wpAny_pyNext_dict_item (s := ⟨h, g, d, t, os⟩) ⟨o', hg, hit⟩ (dat (hb _ _ e) D hd) hkx fun key h' hk hit' hs => ?_
    obtain ⟨o'', hg', hit'⟩ := hit'
    obtain ⟨u, rfl⟩ := isI_inv hk
    exact H _ o'' h' t ⟨k, x, u, hkx, rfl⟩ hit' hg' fun b ob hne e => hs.extBut b ob hne e)
  (done := fun o' it h g d t os Q E hit hb h0 hg H => wpAny_pyNext_dict_end (s := ⟨h, g, d, t, os⟩) hh ⟨o', hg, hit⟩ (dat (hb _ _ e) D hd) (by simp) fun h' he => H h' t fun b ob hne e => he b ob hne e)
  (own := fun i v o it h g d t os Q E hit hg hv H => own_plain hg hit.1 hit.2 rfl (H _ h hit hg (fun _ _ _ e => e) hv))
theorem its_keys {a : Addr} {n ep : Nat} : ItSelf prog w A (kyI a n ep) :=
  ⟨fun _ o _ h g d t os _ _ hit hg H => wpAny_pyIter_keyiter (s := ⟨h, g, d, t, os⟩) ⟨o, hg, hit⟩ H⟩
end
end Mine
end
section
open PySem PySem.W PyProof.Rows PySem.Spec PySem.Calls
namespace Mine
abbrev dtO : Obj := { cls := .type "dict", data := .dict #[] }
abbrev AccD := Nat → Heap → Array GenState → List (Int × Value) → Prop
section
variable {prog : Program} {w : World} {A : Around} {E : Value → Shared → Prop} {h : Heap} {g : Array GenState} {d : Drawn} {t : Nat} {os : OsState}
theorem codeAny_compLoopTD {s : Shared} {R : Result → Shared → Prop} {kx vx target iter : Expr} {ifs : List Expr} {scope : Scope} {pos : Pos} {it : Value} {D : Addr} {env : Env} (I : Nat → Shared → Prop)
    (turn : ∀ n s, I n s → wpAny (model prog w) A (pyNext it) (fun r s₁ => match r with
      | none => R (.ok .next) s₁
      | some v => wpAny (model prog w) A (letOwnedTupleGo target it v) (fun _ s₁' => wpAny (model prog w) A (assign target env v) (fun _ s₂ =>
          wpAny (model prog w) A (forIn ifs true fun c r => if r = true then do let ok ← isTrue c env (eval c env); pure (ForInStep.yield ok) else pure (ForInStep.yield r)) (fun ok s₃ =>
            (ok = true → wpAny (model prog w) A (eval kx env) (fun kv s₄ => wpAny (model prog w) A (eval vx env) (fun vv s₅ => wpAny (model prog w) A (dictSet D kv vv) (fun _ s₆ => ∃ m, m < n ∧ I m s₆) (fun _ _ => False) s₅) (fun _ _ => False) s₄) (fun _ _ => False) s₃)
            ∧ (ok = false → ∃ m, m < n ∧ I m s₃)) (fun _ _ => False) s₂) (fun _ _ => False) s₁') (fun _ _ => False) s₁) (fun _ _ => False) s)
    (n : Nat) (h : I n s) : codeAny (model prog w) A (.compLoop (.DictComp kx vx [⟨target, iter, ifs, 0⟩] scope pos) 0 it (.ref D) env) R s := by
  refine codeAny_loop rfl I (fun n s hI => ?_) n h
  show wpAny _ A ((compTurn (.DictComp kx vx [⟨target, iter, ifs, 0⟩] scope pos) 0 it (.ref D) env).onRaise (fun x => do noteFrame x env; theTreesLotGoes x)) _ _ s
  refine wpAny_noted ?_
  rw [compTurn_dict]
  refine wpAny_bind (wpAny_standAt (wpAny_bind (wpAny_mono (turn n s hI) (fun r s₁ h₁ => ?_) fun _ _ h' => h'.elim)))
  cases r with
  | none => exact wpAny_pure h₁
  | some v =>
    refine wpAny_bind (wpAny_mono h₁ (fun _ s₁' h₁' => ?_) fun _ _ h' => h'.elim)
    refine wpAny_bind (wpAny_mono h₁' (fun _ s₂ h₂ => wpAny_bind (wpAny_mono h₂ (fun ok s₃ h₃ => ?_) fun _ _ h' => h'.elim)) fun _ _ h' => h'.elim)
    cases ok with
    | false => exact wpAny_pure ⟨rfl, h₃.2 rfl⟩
    | true => exact wpAny_bind (wpAny_bind (wpAny_mono (h₃.1 rfl) (fun kv s₄ h₄ => wpAny_bind (wpAny_holding (wpAny_mono h₄ (fun vv s₅ h₅ => wpAny_bind (wpAny_standAt (wpAny_holding (wpAny_mono h₅ (fun _ s₆ h₆ => wpAny_pure ⟨rfl, h₆⟩) fun _ _ h' => h'.elim)))) fun _ _ h' => h'.elim))) fun _ _ h' => h'.elim))
theorem loop_compD {kx vx target iter : Expr} {ifs : List Expr} {scope : Scope} {pos : Pos} {env : Env} {b₀ : Heap} {n : Nat} {P : Nat → Heap → Value → Prop} {Itr : Nat → Obj → Prop} {it D : Addr} {o oD : Obj} {m : List (Str × Value)} {ex : List (Addr × Obj)} {R : Result → Shared → Prop}
    (T : ItOK prog w A target b₀ n P Itr) (J : AccD) (hz : n < 900) (S : Sx b₀ env.locals m ((it, o) :: (D, oD) :: ex) h) (hD : DO prog w oD []) (h0 : Itr 0 o) (hJ : J 0 b₀ g [])
    (turn : ∀ i v b g kvs m ns h t, i < n → P i h v → Le b₀ b → J i b g kvs → (∀ p ∈ ex, p ∈ ns) → Sx b env.locals m ns h → wpAny (model prog w) A (assign target env v) (fun _ s₂ =>
        wpAny (model prog w) A (forIn ifs true fun c r => if r = true then do let ok ← isTrue c env (eval c env); pure (ForInStep.yield ok) else pure (ForInStep.yield r)) (fun ok s₃ =>
          (ok = true → wpAny (model prog w) A (eval kx env) (fun kv s₄ => wpAny (model prog w) A (eval vx env) (fun vv s₅ => ∃ b' g' m' h' t' k u, kv = .int k u ∧ s₅ = ⟨h', g', d, t', os⟩ ∧ Le b b' ∧ J (i + 1) b' g' (stored kvs k vv) ∧ Sx b' env.locals m' ns h') (fun _ _ => False) s₄) (fun _ _ => False) s₃)
          ∧ (ok = false → ∃ b' g' m' h' t', s₃ = ⟨h', g', d, t', os⟩ ∧ Le b b' ∧ J (i + 1) b' g' kvs ∧ Sx b' env.locals m' ns h')) (fun _ _ => False) s₂) (fun _ _ => False) ⟨h, g, d, t, os⟩)
    (fin : ∀ b g kvs oD m h t, Le b₀ b → J n b g kvs → DO prog w oD kvs → Sx b env.locals m ((D, oD) :: ex) h → R (.ok .next) ⟨h, g, d, t, os⟩) :
    codeAny (model prog w) A (.compLoop (.DictComp kx vx [⟨target, iter, ifs, 0⟩] scope pos) 0 (.ref it) (.ref D) env) R ⟨h, g, d, t, os⟩ := by
  refine codeAny_compLoopTD (fun k s => ∃ i b g m h t o kvs oD, s = ⟨h, g, d, t, os⟩ ∧ k = n + 1 - i ∧ i ≤ n ∧ kvs.length ≤ i ∧ Le b₀ b ∧ Itr i o ∧ J i b g kvs ∧ DO prog w oD kvs ∧ Sx b env.locals m ((it, o) :: (D, oD) :: ex) h) ?_ (n + 1) ⟨0, b₀, g, m, h, t, o, [], oD, rfl, rfl, Nat.zero_le _, Nat.le_refl _, Le.refl _, h0, hJ, hD, S⟩
  rintro k s ⟨i, b, g, m, h, t, o, kvs, oD, rfl, rfl, hi, hy, hb, hit, hJ, hD, S⟩
  have Z := S.new (it, o) (.head _)
  have Z0 : b₀.get? it = none := hb.none Z.2.2
  by_cases hlt : i < n
  · refine T.step i o it h g d t os _ _ _ _ (fun v s q => q) hlt hit (hb.trans S.keep) Z0 Z.1 fun v o'' h'' t' hv' hit'' he hs => ?_
    have S' := S.turn hs he
    refine wpAny_mono (turn i v b g kvs m _ h'' t' hlt hv' hb hJ (fun p hp => .tail _ (.tail _ hp)) S') (fun _ s₂ q => wpAny_mono q (fun ok s₃ q => ⟨fun ho => ?_, fun ho => ?_⟩) fun _ _ q => q) fun _ _ q => q
    · refine wpAny_mono (q.1 ho) (fun kv s₄ q => wpAny_mono q (fun vv s₅ q => ?_) fun _ _ q => q) fun _ _ q => q
      obtain ⟨b', g', m', h3, t3, k, u, rfl, rfl, hb', hJ', S3⟩ := q
      have S3' := S3.reorder (List.Perm.swap _ _ _)
      refine wpAny_dictSet_pairs (s := ⟨h3, g', d, t3, os⟩) (isI k u) (dof (S3'.new _ (.head _)).1 hD) (fun h4 D4 hs => ?_) (by rw [sizeLine_eq]; omega)
      obtain ⟨o4, e4, D4⟩ := Heap.dictOf_iff.mp D4
      have S4 := S3'.upd hs e4
      have hl := stored_length_le kvs k vv
      exact ⟨n + 1 - (i + 1), by omega, i + 1, b', g', m', h4, _, o'', _, o4, rfl, rfl, hlt, by omega, hb.trans hb', hit'', hJ', D4, S4.reorder (List.Perm.swap _ _ _)⟩
    · obtain ⟨b', g', m', h3, t3, rfl, hb', hJ', S3⟩ := q.2 ho
      exact ⟨n + 1 - (i + 1), by omega, i + 1, b', g', m', h3, t3, o'', kvs, oD, rfl, rfl, hlt, by omega, hb.trans hb', hit'', hJ', hD, S3⟩
  · have e : i = n := by omega
    subst e
    refine T.done o it h g d t os _ _ hit (hb.trans S.keep) Z0 Z.1 fun h' t' hs => ?_
    exact fin b g kvs oD m h' t' hb hJ hD (S.gone hs)
def DcB (prog : Program) (w : World) (A : Around) (env : Env) (scope : Scope) (e : Expr) (cl : List (Str × Addr)) (Q : Value → Shared → Prop) (E : Value → Shared → Prop) (it : Value) (s₂ : Shared) : Prop :=
  wpAny (model prog w) A newDict (fun acc s₃ => wpAny (model prog w) A (newFunctionEnv scope env.globals cl [] env.qual none .none (some env)) (fun cenv s₄ =>
    codeAny (model prog w) A (.compStart e 0 it acc { cenv with scope := relabel scope env }) (compPost (model prog w) A E none Q acc cenv.locals) s₄) E s₃) E s₂
theorem dcI {kx vx target iter : Expr} {ifs : List Expr} {scope : Scope} {pos : Pos} {env : Env} {cl : List (Str × Addr)} {Q : Value → Shared → Prop} {b₀ : Heap} {n : Nat} {P : Nat → Heap → Value → Prop} {Itr : Nat → Obj → Prop} {L : Addr} {o : Obj} {mo : Loc} {ns : List (Addr × Obj)}
    (S : Sx b₀ L mo ns h) (T : ItOK prog w A target b₀ n P Itr) (T' : ItSelf prog w A Itr) (J : AccD) (hz : n < 900) (h0 : Itr 0 o) (hJ : J 0 b₀ g [])
    (turn : ∀ C i v b g kvs m ns' h t, i < n → P i h v → Le b₀ b → J i b g kvs → (∀ p ∈ ns, p ∈ ns') → Sx b C m ns' h → wpAny (model prog w) A (assign target (compEnvC scope cl C env) v) (fun _ s₂ =>
        wpAny (model prog w) A (forIn ifs true fun c r => if r = true then do let ok ← isTrue c (compEnvC scope cl C env) (eval c (compEnvC scope cl C env)); pure (ForInStep.yield ok) else pure (ForInStep.yield r)) (fun ok s₃ =>
          (ok = true → wpAny (model prog w) A (eval kx (compEnvC scope cl C env)) (fun kv s₄ => wpAny (model prog w) A (eval vx (compEnvC scope cl C env)) (fun vv s₅ => ∃ b' g' m' h' t' k u, kv = .int k u ∧ s₅ = ⟨h', g', d, t', os⟩ ∧ Le b b' ∧ J (i + 1) b' g' (stored kvs k vv) ∧ Sx b' C m' ns' h') (fun _ _ => False) s₄) (fun _ _ => False) s₃)
          ∧ (ok = false → ∃ b' g' m' h' t', s₃ = ⟨h', g', d, t', os⟩ ∧ Le b b' ∧ J (i + 1) b' g' kvs ∧ Sx b' C m' ns' h')) (fun _ _ => False) s₂) (fun _ _ => False) ⟨h, g, d, t, os⟩)
    (fin : ∀ D b g kvs oD h' t, Le b₀ b → J n b g kvs → DO prog w oD kvs → Sx b L mo ((D, oD) :: ns) h' → Q (.ref D) ⟨h', g, d, t, os⟩)
    (hf : o.isFreed = false := by rfl) (hcell : (scope.names.all fun x => x.2 != .cell) = true := by rfl) (hkind : scope.kind = .function := by rfl) :
    DcB prog w A env scope (.DictComp kx vx [⟨target, iter, ifs, 0⟩] scope pos) cl Q E (.ref h.objs.size) ⟨h.push o, g, d, t, os⟩ := by
  have hcell : ∀ y ∈ scope.names, y.2 ≠ .cell := fun y hy => by simpa using List.all_eq_true.mp hcell y hy
  have S₀ := S.alloc o hf
  generalize hit : h.objs.size = it at S₀ ⊢
  generalize hhp : h.push o = hp at S₀ ⊢
  unfold DcB
  have hi : hp.get? it = some o := (S₀.new (it, o) (.head _)).1
  refine wpAny_newObj_type ?_ (by size_fits)
  refine wpAny_newFunctionEnv hcell (by intro y hy; cases hy) (fun h1 hns hsb => ?_) hkind
  have S₁ := S₀.alloc dtO
  generalize hH : (hp.push { cls := .type "dict", dict := none, data := .dict #[] } : Heap) = h2 at hns hsb ⊢
  have hH' : hp.push dtO = h2 := hH
  rw [hH'] at S₁
  have up1 : Le h2 h1 := fun b o e => hsb.extBut b o (Nat.ne_of_lt (Heap.lt_size e)) (Heap.get?_push_of_some _ e)
  have up2 : Le hp h2 := by subst hH; exact fun b o e => Heap.get?_push_of_some _ e
  have S₂ := S₁.reorder (List.Perm.swap _ _ _)
  obtain ⟨oL, eL, an, nd⟩ := S₂.asNs
  have S : Sx b₀ h2.objs.size [] ((it, o) :: (hp.objs.size, dtO) :: (L, oL) :: ns) h1 := by
    have pm : ((it, o) :: (hp.objs.size, dtO) :: (L, oL) :: ns).Perm ((L, oL) :: (it, o) :: (hp.objs.size, dtO) :: ns) :=
      ((List.Perm.swap (L, oL) (hp.objs.size, dtO) ns).cons (it, o)).trans (List.Perm.swap (L, oL) (it, o) _)
    refine ⟨⟨_, hns, fun x v e => by cases e⟩, (S₁.keep).trans up1, (S₁.keep).none (none_of_size h2 (Nat.le_refl _)), fun p hp => ?_, (pm.map _).nodup_iff.mpr nd⟩
    have A := an p (pm.mem_iff.mp hp)
    exact ⟨up1 _ _ A.1, Nat.ne_of_lt (Heap.lt_size A.1), A.2⟩
  have loop : ∀ t, codeAny (model prog w) A (.compLoop (.DictComp kx vx [⟨target, iter, ifs, 0⟩] scope pos) 0 (.ref it) (.ref hp.objs.size) (compEnvC scope cl h2.objs.size env)) (compPost (model prog w) A E none Q (.ref hp.objs.size) h2.objs.size) ⟨h1, g, d, t, os⟩ := fun t => by
    refine loop_compD (env := compEnvC scope cl h2.objs.size env) T J hz S do_empty h0 hJ (fun i v b g ys m ns h t a1 a2 a3 a4 a5 a6 => turn _ i v b g ys m ns h t a1 a2 a3 a4 (fun p hp => a5 p (.tail _ hp)) a6) fun b g kvs oD m h' t hb' hJ' hD' S' => ?_
    have S' : Sx b h2.objs.size m ((hp.objs.size, oD) :: (L, oL) :: ns) h' := S'
    have ZL := S'.new (L, oL) (.tail _ (.head _))
    have nd' := List.nodup_cons.mp S'.nod
    have nd2 := List.nodup_cons.mp nd'.2
    have Sout : Sx b L mo ((hp.objs.size, oD) :: ns) h' := by
      refine ⟨?_, S'.keep, ZL.2.2, fun p hp' => ?_, ?_⟩
      · obtain ⟨f, hn, hf⟩ := S₂.loc
        exact ⟨f, hn.at' fun o' e' => by rw [eL] at e'; cases e'; exact ZL.1, hf⟩
      · rcases List.mem_cons.mp hp' with rfl | hp'
        · have Z := S'.new _ (.head _)
          exact ⟨Z.1, fun e => nd'.1 (by show hp.objs.size ∈ _; rw [show hp.objs.size = L from e]; exact .head _), Z.2.2⟩
        · have Z := S'.new p (.tail _ (.tail _ hp'))
          exact ⟨Z.1, fun e => nd2.1 (List.mem_map.mpr ⟨p, hp', e⟩), Z.2.2⟩
      · exact List.nodup_cons.mpr ⟨fun q => nd'.1 (.tail _ q), nd2.2⟩
    obtain ⟨f, hnC, _⟩ := S'.loc
    refine ⟨f, hnC, fun h'' hs => fin _ b g kvs oD h'' t hb' hJ' hD' (Sout.butC (Ne.symm ZL.2.1) (fun q => ?_) S'.off hs)⟩
    obtain ⟨p, hp', e⟩ := List.mem_map.mp q
    refine (S'.new p ?_).2.1 e
    rcases List.mem_cons.mp hp' with rfl | hp'
    · exact .head _
    · exact .tail _ (.tail _ hp')
  exact codeAny_compStart_dict (loop _) (T'.self 0 o it h1 g d _ os _ _ h0 (up1 _ _ (up2 _ _ hi)) (loop _))
theorem e_dc0 {kx vx target iter : Expr} {ifs : List Expr} {scope : Scope} {pos : Pos} {env : Env} {Q : Value → Shared → Prop} {s : Shared} (cl : List (Str × Addr))
    (H : wpAny (model prog w) A (eval iter env) (fun x s₁ => wpAny (model prog w) A (pyIter x) (fun it s₂ => DcB prog w A env scope (.DictComp kx vx [⟨target, iter, ifs, 0⟩] scope pos) cl Q E it s₂) E s₁) E s)
    (hclos : closureFor scope env = pure cl := by rfl) (hkind : scope.kind = .function := by rfl) (hnames : ∀ x ∈ scope.names, x.2 = .local → scope.names.lookup x.1 = some .local := by decide) (hs : ∀ x, foldedSetIterable iter env x = pure x := by intro _; rfl) :
    wpAny (model prog w) A (eval (.DictComp kx vx [⟨target, iter, ifs, 0⟩] scope pos) env) Q E s := by
  rw [arm_eval_DictComp]
  exact wpAny_comprehension_free (use := none) rfl hs hclos hkind hnames H
end
end Mine
end
section
open PySem PySem.W PyProof.Rows PySem.Spec PySem.Calls
namespace Mine
noncomputable def KN (w : World) : Frag := (KK w).filter fun p => !tabs.contains p.1
theorem lookup_filter {α : Type} (p : Nat → Bool) (a : Nat) (o : α) : ∀ l : List (Nat × α), (l.filter fun x => p x.1).lookup a = some o → l.lookup a = some o ∧ p a = true
  | [], h => by cases h
  | (b, x) :: l, h => by
    rw [List.lookup_cons]
    rw [List.filter_cons] at h
    cases q : a == b with
    | true =>
      have e := beq_iff_eq.mp q
      subst e
      cases r : p a with
      | true => rw [r, if_pos rfl, List.lookup_cons, q] at h; exact ⟨h, rfl⟩
      | false =>
        rw [r, if_neg Bool.false_ne_true] at h
        have := (lookup_filter p a o l h).2
        rw [r] at this; cases this
    | false =>
      split at h
      · rw [List.lookup_cons, q] at h; exact lookup_filter p a o l h
      · exact lookup_filter p a o l h
theorem Gd.kn {w : World} {h : Heap} (G : Gd w h) : (KN w).In h := fun a o e => by
  have := lookup_filter (fun a => !tabs.contains a) a o (KK w) e
  exact G a o this.1 (by simpa using this.2)
/-- an object of the class TupleComp -/
structure IsRule (h : Heap) (r l : Addr) : Prop where
  ex : ∃ dx v t, h.get? r = some { cls := .ref 95, dict := some dx, data := .plain } ∧ h.get? dx = some { cls := .type "dict", data := .dict #[⟨v, .str (Str.ofString "comp_select_list") t, .ref l⟩] 1 }
theorem IsRule.mono {h h' : Heap} {r l : Addr} (R : IsRule h r l) (le : Le h h') : IsRule h' r l := let ⟨dx, v, t, a, b⟩ := R.ex; ⟨dx, v, t, le _ _ a, le _ _ b⟩
section
variable {prog : Program} {w : World} {A : Around} {E : Value → Shared → Prop} {h : Heap} {g : Array GenState} {d : Drawn} {t : Nat} {os : OsState} {env : Env} {Q : Value → Shared → Prop} {pos : Pos}
theorem f1 (w : World) : findIn (KN w) (.ref 95) "__getattribute__" = some (some (.builtin "object.__getattribute__")) := rfl
theorem f2 (w : World) : findIn (KN w) (.ref 95) "__getattr__" = some none := rfl
theorem f3 (w : World) : findIn (KN w) (.ref 95) "compare" = some (some (.ref 92)) := rfl
theorem f4 (w : World) : typeIn (KN w) (.ref 92) = some (.type "function") := rfl
theorem f5 (w : World) : findIn (KN w) (.ref 95) "comp_select_list" = some none := rfl
theorem f6 (w : World) : hasDictIn (KN w) 95 = true := rfl
theorem r_inst {r l : Addr} (R : IsRule h r l) : ∃ ox od v t, InstAt h r ox 95 (some od) ∧ od = { cls := .type "dict", data := .dict #[⟨v, .str (Str.ofString "comp_select_list") t, .ref l⟩] 1 } := by
  obtain ⟨dx, v, t, a, b⟩ := R.ex
  exact ⟨_, _, v, t, ⟨a, rfl, rfl, b⟩, rfl⟩
theorem r_attr {r l : Addr} {x : Bool} (G : Gd w h) (R : IsRule h r l) (H : ∀ t', Q (.ref l) ⟨h, g, d, t', os⟩) : wpAny (model prog w) A (getAttr (.ref r) "comp_select_list" x) Q E ⟨h, g, d, t, os⟩ := by
  obtain ⟨ox, od, v, tk, I, rfl⟩ := r_inst R
  exact get_value (s := ⟨h, g, d, t, os⟩) G.kn I (f1 w) (findObj_own (f6 w) (f5 w) rfl rfl) rfl (H _)
theorem r_meth {r l : Addr} {pl : Sem Bool} {Q : Value × List Value → Shared → Prop} (G : Gd w h) (R : IsRule h r l) (H : Q (.ref 92, [.ref r]) ⟨h, g, d, t, os⟩) : wpAny (model prog w) A (getMethod (.ref r) "compare" pl) Q E ⟨h, g, d, t, os⟩ := by
  obtain ⟨ox, od, v, tk, I, rfl⟩ := r_inst R
  exact method_fn (s := ⟨h, g, d, t, os⟩) G.kn I (f1 w) (f2 w) (f3 w) (f4 w) rfl H
theorem e_attr {x attr : Str} {xp : Pos} {s : Shared} (H : wpAny (model prog w) A (eval (.Name x xp) env) (fun o s₁ => wpAny (model prog w) A (getAttr o attr true) Q E s₁) E s) : wpAny (model prog w) A (eval (.Attribute (.Name x xp) attr pos) env) Q E s := Attribute_name H
theorem e_methF {o e : Expr} {name : Str} {rest : List Expr} {s : Shared} {apos : Pos}
    (H : wpAny (model prog w) A (eval o env) (fun ov s₁ => ∀ pl, wpAny (model prog w) A (getMethod ov name pl) (fun fp s₂ => ∃ a, fp.1 = .ref a ∧ wpAny (model prog w) A (spliced (backTo pos (starEach (e :: rest) env))) (fun vs s₃ => (∃ o fd, s₃.heap.get? a = some o ∧ o.data = .func fd) ∧ wpAny (model prog w) A (call (.ref a) (fp.2 ++ vs)) Q E s₃) E s₂) E s₁) E s)
    (hbase : attributeBase o name env (eval o env) = eval o env := by rfl)
    (hfew : ((backTo pos (starEach (e :: rest) env)).all (fun x => !x.1) && (backToKw pos (keywordEach [] env)).all (fun x => x.1.isSome)
      && decide ((e :: rest).length + ([] : List Keyword).length + (if ([] : List Keyword).isEmpty then 0 else 1) < 30)) = true := by rfl)
    (hline : (apos.endLine == pos.line) = true := by rfl)
    (he : starEach (e :: rest) env = (false, eval e env) :: starEach rest env := by rfl) :
    wpAny (model prog w) A (eval (.Call (.Attribute o name apos) (e :: rest) [] pos) env) Q E s := by
  rw [arm_eval_Call, hbase]
  refine wpAny_bind (wpAny_mono H (fun ov s₁ h₁ => ?_) fun _ _ e => e)
  refine wpAny_bind (wpAny_standAt ?_)
  have hform : methodCallForm ((e :: rest).length + ([] : List Keyword).length) (backTo pos (starEach (e :: rest) env)) (backToKw pos (keywordEach [] env)) = true := hfew
  have hpos : methodCallPos true o env apos pos = pure pos := by unfold methodCallPos; simp [hline]
  unfold methodCall
  rw [hform]
  unfold calleeOf
  simp only [if_true]
  refine wpAny_bind (wpAny_holding (wpAny_mono (h₁ _) (fun fp s₂ h₂ => ?_) fun _ _ e => e))
  obtain ⟨a, ha, h₂⟩ := h₂
  obtain ⟨f, first⟩ := fp
  subst ha
  refine wpAny_bind (wpAny_of_eq hpos ?_)
  refine callWith_function_kw' ?_
  rw [he] at h₂ ⊢
  exact evalArgs_plain h₂
end
end Mine
end
section
open PySem PySem.W PyProof.Rows PySem.Spec PySem.Calls
namespace Mine
/-- the search, as a plain function: p i says «the new one goes ahead of item i» -/
def bs (p : Nat → Bool) : Nat → Nat → Nat → Nat
  | 0, lo, _ => lo
  | n + 1, lo, hi => if lo < hi then (if p ((lo + hi) / 2) then bs p n lo ((lo + hi) / 2) else bs p n ((lo + hi) / 2 + 1) hi) else lo
theorem bs_fuel (p : Nat → Bool) : ∀ n m lo hi, hi - lo ≤ n → hi - lo ≤ m → bs p n lo hi = bs p m lo hi := by
  intro n
  induction n with
  | zero => intro m lo hi h1 h2; cases m with
    | zero => rfl
    | succ m => unfold bs; rw [if_neg (by omega)]
  | succ n ih => intro m lo hi h1 h2; cases m with
    | zero => unfold bs; rw [if_neg (by omega)]
    | succ m =>
      unfold bs
      by_cases hlt : lo < hi
      · rw [if_pos hlt, if_pos hlt]
        split
        · exact ih m _ _ (by omega) (by omega)
        · exact ih m _ _ (by omega) (by omega)
      · rw [if_neg hlt, if_neg hlt]
/-- what a key gives: an int, with nothing changed but for new things -/
def KeyIs (prog : Program) (w : World) (A : Around) (h₀ : Heap) (q : Addr) (v : Value) (k : Int) : Prop :=
  ∀ (h : Heap) (g : Array GenState) (d : Drawn) (t : Nat) (os : OsState) (Q E : Value → Shared → Prop), Le h₀ h → (∀ h' t' u, Le h h' → Q (.int k u) ⟨h', g, d, t', os⟩) → wpAny (model prog w) A (call (.ref q) [v]) Q E ⟨h, g, d, t, os⟩
section
variable {w : World} {h : Heap} {g : Array GenState} {d : Drawn} {t : Nat} {os : OsState} {a x lo hi k : Value}
theorem br_bind2 (G : Gd w h) : BindsTo ⟨h, g, d, t, os⟩ (fdAt w 32) ⟨[a, x], [("key", k)]⟩ [("a", a), ("x", x), ("lo", .int 0 202), ("hi", .none), ("key", k)] := by
  conv => arg 2; whnf
  exact BindsTo.of_defaults rfl (G 24 _ rfl (by decide)) rfl rfl rfl
theorem br_bind4 (G : Gd w h) : BindsTo ⟨h, g, d, t, os⟩ (fdAt w 32) ⟨[a, x, lo, hi], [("key", k)]⟩ [("a", a), ("x", x), ("lo", lo), ("hi", hi), ("key", k)] := by
  conv => arg 2; whnf
  exact BindsTo.of_defaults rfl (G 24 _ rfl (by decide)) rfl rfl rfl
theorem bl_bind2 (G : Gd w h) : BindsTo ⟨h, g, d, t, os⟩ (fdAt w 50) ⟨[a, x], [("key", k)]⟩ [("a", a), ("x", x), ("lo", .int 0 229), ("hi", .none), ("key", k)] := by
  conv => arg 2; whnf
  exact BindsTo.of_defaults rfl (G 42 _ rfl (by decide)) rfl rfl rfl
theorem bl_bind4 (G : Gd w h) : BindsTo ⟨h, g, d, t, os⟩ (fdAt w 50) ⟨[a, x, lo, hi], [("key", k)]⟩ [("a", a), ("x", x), ("lo", lo), ("hi", hi), ("key", k)] := by
  conv => arg 2; whnf
  exact BindsTo.of_defaults rfl (G 42 _ rfl (by decide)) rfl rfl rfl
end
theorem br_any {prog : Program} {w : World} {h : Heap} {g : Array GenState} {d : Drawn} {t : Nat} {os : OsState} {l q : Addr} {items : Array Value} {x : Int} {tx u0 : Tok} {args : List Value} {kw : List (Str × Value)} (kf : Nat → Int) {Q E : Value → Shared → Prop}
   (G : Gd w h) (hl : h.IsList l items) (hz : items.size < 1000) {oq : Obj} {fq : FuncData} (hq : h.get? q = some oq) (hqd : oq.data = .func fq)
   (hkey : ∀ i v, items[i]? = some v → KeyIs prog w (Ar 21 63) h q v (kf i))
   (hbind : BindsTo ⟨h, g, d, t, os⟩ (fdAt w 32) ⟨args, kw⟩ [("a", .ref l), ("x", .int x tx), ("lo", .int 0 u0), ("hi", .none), ("key", .ref q)])
   (H : ∀ h' t' u, Le h h' → Q (.int (bs (fun i => decide (x < kf i)) items.size 0 items.size : Nat) u) ⟨h', g, d, t', os⟩) :
  wpAny (model prog w) (Ar 20 60) (call (.ref 32) args kw) Q E ⟨h, g, d, t, os⟩ := by
  refine enter (binds := [("a", .ref l), ("x", .int x tx), ("lo", .int 0 u0), ("hi", .none), ("key", .ref q)]) G rfl (by decide) rfl rfl rfl rfl rfl (by decide) (by decide) rfl hbind (by decide) (locs rfl) ?_ rfl rfl rfl
  intro L h' tk S
  refine x_if (t_cmp (n_loc S rfl (c_int fun u t1 => o_lt ⟨_, rfl, fun hb => ?_, fun _ => ?_⟩)))
  · cases hb
  refine x_if (t_cmp (n_loc S rfl (c_none (o_is_none ⟨_, rfl, fun _ => ?_, fun hb => ?_⟩))))
  rotate_left
  · cases hb
  refine x_set (e_callB (n_bit (G.mono S.keep) (gn_len w) (bi_len w) ⟨rfl, a_cons (n_loc S rfl (a_nil (b_len (isl hl S.keep) hz fun u t2 => st_loc S fun h2 t3 S => ?_)))⟩))
  refine x_if (t_cmp (n_loc S rfl (c_none (o_is_none ⟨_, rfl, fun hb => ?_, fun _ => ?_⟩))))
  · cases hb
  have S := S.forget (m' := [("a", .ref l), ("x", .int x tx), ("lo", .int (0 : Nat) u0), ("hi", .int items.size u), ("key", .ref q)]) (by simp only [List.forall_mem_cons]; exact ⟨rfl, rfl, rfl, rfl, rfl, fun _ hp => nomatch hp⟩)
  refine x_while (fun n s => ∃ lo hi : Nat, ∃ h t u1 u2, s = ⟨h, g, d, t, os⟩ ∧ n = hi - lo ∧ hi ≤ items.size ∧ bs (fun i => decide (x < kf i)) items.size lo hi = bs (fun i => decide (x < kf i)) items.size 0 items.size ∧
     Sx _ L [("a", .ref l), ("x", .int x tx), ("lo", .int lo u1), ("hi", .int hi u2), ("key", .ref q)] [] h) _ ⟨0, items.size, h2, _, _, _, rfl, rfl, Nat.le_refl _, rfl, S⟩ ?_
  rintro n s ⟨lo, hi, h3, t4, u1, u2, rfl, rfl, hhi, hbs, S⟩
  refine t_cmp (n_loc S rfl (n_loc S rfl (o_lt ⟨_, rfl, fun hb => ?_, fun hb => ?_⟩)))
  · have hlt : lo < hi := by have := of_decide_eq_true hb; omega
    refine x_set (e_bin (e_bin (n_loc S rfl (n_loc S rfl (o_add fun u3 t5 => c_int fun u4 t6 => o_fdiv (by decide) (by decide) fun u5 t7 => st_loc S fun h4 t8 S => ?_)))))
    have em : ((lo : Int) + (hi : Int)).fdiv 2 = (((lo + hi) / 2 : Nat) : Int) := by rw [Int.fdiv_eq_ediv_of_nonneg _ (by decide)]; omega
    have hmid : (lo + hi) / 2 < items.size := by omega
    obtain ⟨v, hv⟩ : ∃ v, items[(lo + hi) / 2]? = some v := ⟨items[(lo + hi) / 2], by simp [hmid]⟩
    refine x_if (t_cmp (n_loc S rfl (e_callF (n_loc S rfl ⟨q, rfl, a_cons (e_sub (n_loc S rfl (n_loc S rfl (i_list (isl hl S.keep) (by omega) (by omega) (by rw [em]; exact hv) (a_nil ⟨⟨oq, fq, S.keep _ _ hq, hqd⟩, hkey _ v hv _ _ _ _ _ _ _ S.keep fun h5 t9 u6 le => ?_⟩)))))⟩))))
    have S := S.keeps le
    refine o_lt ⟨_, rfl, fun hb => ?_, fun hb => ?_⟩
    · refine x_set (n_loc S rfl (st_loc S fun h6 t10 S => x_nil ⟨rfl, _, ?_, lo, (lo + hi) / 2, h6, _, u1, u5, rfl, rfl, by omega, ?_, S.forget ?_⟩))
      · omega
      · rw [← hbs]
        conv => rhs; rw [bs_fuel _ items.size (items.size + 1) lo hi (by omega) (by omega)]; unfold bs
        rw [if_pos hlt, if_pos hb]
      · simp only [List.forall_mem_cons]; refine ⟨rfl, rfl, rfl, ?_, rfl, fun _ hp => nomatch hp⟩; rw [← em]; rfl
    · refine x_set (e_bin (n_loc S rfl (c_int fun u7 t11 => o_add fun u8 t12 => st_loc S fun h6 t10 S => x_nil ⟨rfl, _, ?_, (lo + hi) / 2 + 1, hi, h6, _, u8, u2, rfl, rfl, by omega, ?_, S.forget ?_⟩)))
      · omega
      · rw [← hbs]
        conv => rhs; rw [bs_fuel _ items.size (items.size + 1) lo hi (by omega) (by omega)]; unfold bs
        rw [if_pos hlt, if_neg (by rw [hb]; exact Bool.false_ne_true)]
      · simp only [List.forall_mem_cons]; refine ⟨rfl, rfl, ?_, rfl, rfl, fun _ hp => nomatch hp⟩; rw [em]; rfl
  · have hge : ¬ lo < hi := by have := of_decide_eq_false hb; omega
    refine x_ret (n_loc S rfl ?_)
    have : bs (fun i => decide (x < kf i)) items.size lo hi = lo := by
      cases items.size with
      | zero => rfl
      | succ n => unfold bs; rw [if_neg hge]
    rw [← this, hbs]
    exact H _ _ _ S.keep
theorem bl_any {prog : Program} {w : World} {h : Heap} {g : Array GenState} {d : Drawn} {t : Nat} {os : OsState} {l q : Addr} {items : Array Value} {x : Int} {tx u0 : Tok} {args : List Value} {kw : List (Str × Value)} (kf : Nat → Int) {Q E : Value → Shared → Prop}
   (G : Gd w h) (hl : h.IsList l items) (hz : items.size < 1000) {oq : Obj} {fq : FuncData} (hq : h.get? q = some oq) (hqd : oq.data = .func fq)
   (hkey : ∀ i v, items[i]? = some v → KeyIs prog w (Ar 21 63) h q v (kf i))
   (hbind : BindsTo ⟨h, g, d, t, os⟩ (fdAt w 50) ⟨args, kw⟩ [("a", .ref l), ("x", .int x tx), ("lo", .int 0 u0), ("hi", .none), ("key", .ref q)])
   (H : ∀ h' t' u, Le h h' → Q (.int (bs (fun i => !decide (kf i < x)) items.size 0 items.size : Nat) u) ⟨h', g, d, t', os⟩) :
  wpAny (model prog w) (Ar 20 60) (call (.ref 50) args kw) Q E ⟨h, g, d, t, os⟩ := by
  refine enter (binds := [("a", .ref l), ("x", .int x tx), ("lo", .int 0 u0), ("hi", .none), ("key", .ref q)]) G rfl (by decide) rfl rfl rfl rfl rfl (by decide) (by decide) rfl hbind (by decide) (locs rfl) ?_ rfl rfl rfl
  intro L h' tk S
  refine x_if (t_cmp (n_loc S rfl (c_int fun u t1 => o_lt ⟨_, rfl, fun hb => ?_, fun _ => ?_⟩)))
  · cases hb
  refine x_if (t_cmp (n_loc S rfl (c_none (o_is_none ⟨_, rfl, fun _ => ?_, fun hb => ?_⟩))))
  rotate_left
  · cases hb
  refine x_set (e_callB (n_bit (G.mono S.keep) (gn_len w) (bi_len w) ⟨rfl, a_cons (n_loc S rfl (a_nil (b_len (isl hl S.keep) hz fun u t2 => st_loc S fun h2 t3 S => ?_)))⟩))
  refine x_if (t_cmp (n_loc S rfl (c_none (o_is_none ⟨_, rfl, fun hb => ?_, fun _ => ?_⟩))))
  · cases hb
  have S := S.forget (m' := [("a", .ref l), ("x", .int x tx), ("lo", .int (0 : Nat) u0), ("hi", .int items.size u), ("key", .ref q)]) (by simp only [List.forall_mem_cons]; exact ⟨rfl, rfl, rfl, rfl, rfl, fun _ hp => nomatch hp⟩)
  refine x_while (fun n s => ∃ lo hi : Nat, ∃ h t u1 u2, s = ⟨h, g, d, t, os⟩ ∧ n = hi - lo ∧ hi ≤ items.size ∧ bs (fun i => !decide (kf i < x)) items.size lo hi = bs (fun i => !decide (kf i < x)) items.size 0 items.size ∧
     Sx _ L [("a", .ref l), ("x", .int x tx), ("lo", .int lo u1), ("hi", .int hi u2), ("key", .ref q)] [] h) _ ⟨0, items.size, h2, _, _, _, rfl, rfl, Nat.le_refl _, rfl, S⟩ ?_
  rintro n s ⟨lo, hi, h3, t4, u1, u2, rfl, rfl, hhi, hbs, S⟩
  refine t_cmp (n_loc S rfl (n_loc S rfl (o_lt ⟨_, rfl, fun hb => ?_, fun hb => ?_⟩)))
  · have hlt : lo < hi := by have := of_decide_eq_true hb; omega
    refine x_set (e_bin (e_bin (n_loc S rfl (n_loc S rfl (o_add fun u3 t5 => c_int fun u4 t6 => o_fdiv (by decide) (by decide) fun u5 t7 => st_loc S fun h4 t8 S => ?_)))))
    have em : ((lo : Int) + (hi : Int)).fdiv 2 = (((lo + hi) / 2 : Nat) : Int) := by rw [Int.fdiv_eq_ediv_of_nonneg _ (by decide)]; omega
    have hmid : (lo + hi) / 2 < items.size := by omega
    obtain ⟨v, hv⟩ : ∃ v, items[(lo + hi) / 2]? = some v := ⟨items[(lo + hi) / 2], by simp [hmid]⟩
    refine x_if (t_cmp (e_callF (n_loc S rfl ⟨q, rfl, a_cons (e_sub (n_loc S rfl (n_loc S rfl (i_list (isl hl S.keep) (by omega) (by omega) (by rw [em]; exact hv) (a_nil ⟨⟨oq, fq, S.keep _ _ hq, hqd⟩, hkey _ v hv _ _ _ _ _ _ _ S.keep fun h5 t9 u6 le => ?_⟩)))))⟩)))
    have S := S.keeps le
    refine n_loc S rfl (o_lt ⟨_, rfl, fun hb => ?_, fun hb => ?_⟩)
    · refine x_set (e_bin (n_loc S rfl (c_int fun u7 t11 => o_add fun u8 t12 => st_loc S fun h6 t10 S => x_nil ⟨rfl, _, ?_, (lo + hi) / 2 + 1, hi, h6, _, u8, u2, rfl, rfl, by omega, ?_, S.forget ?_⟩)))
      · omega
      · rw [← hbs]
        conv => rhs; rw [bs_fuel _ items.size (items.size + 1) lo hi (by omega) (by omega)]; unfold bs
        rw [if_pos hlt, if_neg (by rw [hb]; exact Bool.false_ne_true)]
      · simp only [List.forall_mem_cons]; refine ⟨rfl, rfl, ?_, rfl, rfl, fun _ hp => nomatch hp⟩; rw [em]; rfl
    · refine x_set (n_loc S rfl (st_loc S fun h6 t10 S => x_nil ⟨rfl, _, ?_, lo, (lo + hi) / 2, h6, _, u1, u5, rfl, rfl, by omega, ?_, S.forget ?_⟩))
      · omega
      · rw [← hbs]
        conv => rhs; rw [bs_fuel _ items.size (items.size + 1) lo hi (by omega) (by omega)]; unfold bs
        rw [if_pos hlt, if_pos (by rw [hb]; rfl)]
      · simp only [List.forall_mem_cons]; refine ⟨rfl, rfl, rfl, ?_, rfl, fun _ hp => nomatch hp⟩; rw [← em]; rfl
  · have hge : ¬ lo < hi := by have := of_decide_eq_false hb; omega
    refine x_ret (n_loc S rfl ?_)
    have : bs (fun i => !decide (kf i < x)) items.size lo hi = lo := by
      cases items.size with
      | zero => rfl
      | succ n => unfold bs; rw [if_neg hge]
    rw [← this, hbs]
    exact H _ _ _ S.keep

end Mine
end
section
open PySem PySem.W PyProof.Rows PySem.Spec PySem.Calls
namespace Mine
theorem KeyIs.le {prog : Program} {w : World} {n u n' u' : Nat} {h₀ h₁ : Heap} {q : Addr} {v : Value} {k : Int} (K : KeyIs prog w (Ar n u) h₀ q v k) (hn : n' ≤ n) (hu : u' ≤ u) (hl : Le h₀ h₁) : KeyIs prog w (Ar n' u') h₁ q v k :=
  fun h g d t os Q E l H => ar_le (K h g d t os Q E (hl.trans l) H) rfl (Nat.add_le_add_left hn 300) hu
theorem bs_le (p : Nat → Bool) : ∀ n lo hi, lo ≤ hi → bs p n lo hi ≤ hi := by
  intro n
  induction n with
  | zero => intro lo hi h; exact h
  | succ n ih =>
    intro lo hi h
    unfold bs
    split
    · split
      · exact Nat.le_trans (ih _ _ (by omega)) (by omega)
      · exact ih _ _ (by omega)
    · exact h
theorem ir_spec {prog : Program} {w : World} {h : Heap} {g : Array GenState} {d : Drawn} {t : Nat} {os : OsState} {l q : Addr} {xs : List Value} {n : Nat} {x : Value} {k0 : Int} (kf : Nat → Int) {Q E : Value → Shared → Prop}
   (G : Gd w (h.hide l)) (hl : h.get? l = some (lsO xs n)) (hz : xs.length < 900) {oq : Obj} {fq : FuncData} (hq : (h.hide l).get? q = some oq) (hqd : oq.data = .func fq)
   (hkey : ∀ i v, xs[i]? = some v → KeyIs prog w (Ar 21 63) (h.hide l) q v (kf i)) (hx : KeyIs prog w (Ar 21 63) (h.hide l) q x k0)
   (H : ∀ h' t', Le (h.hide l) h' → h'.get? l = some (lsO (xs.take (bs (fun i => decide (k0 < kf i)) xs.length 0 xs.length) ++ x :: xs.drop (bs (fun i => decide (k0 < kf i)) xs.length 0 xs.length)) (n + 1)) → Q .none ⟨h', g, d, t', os⟩) :
  wpAny (model prog w) (Ar 18 50) (call (.ref 23) [.ref l, x] [("key", .ref q)]) Q E ⟨h, g, d, t, os⟩ := by
  have le0 : Le (h.hide l) h := fun _ _ e => Heap.of_hide e
  refine enterN (h₀ := h.hide l) (ns := [(l, lsO xs n)]) (binds := [("a", .ref l), ("x", x), ("lo", .int 0 189), ("hi", .none), ("key", .ref q)]) le0 ?_ (by simp) (le0 _ _ (G 23 _ rfl (by decide))) rfl (G.c.keeps le0) ((G.code rfl rfl rfl rfl (by decide)).keeps le0) (by decide) rfl
    (BindsTo.of_defaults rfl (le0 _ _ (G 15 _ rfl (by decide))) rfl rfl rfl) (by decide) (locs rfl) ?_ rfl rfl rfl
  · intro p hp
    rcases List.mem_singleton.mp hp with rfl
    exact ⟨hl, Heap.hide_self ..⟩
  intro L h1 t1 S
  refine x_if (t_cmp (n_loc S rfl (c_none (o_is_none ⟨_, rfl, fun hb => ?_, fun _ => ?_⟩))))
  · cases hb
  refine x_set (e_callK (n_glb (G.mono S.keep) (gl_bisect_right w) ⟨32, rfl, a_cons (n_loc S rfl (a_cons (e_callF (n_loc S rfl ⟨q, rfl, a_cons (n_loc S rfl (a_nil ⟨⟨oq, fq, S.keep _ _ hq, hqd⟩, ar_le (hx _ _ _ _ _ _ _ S.keep fun h2 t2 u2 le => ?_) rfl (by decide) (by decide)⟩))⟩))))⟩))
  have S := S.keeps le
  have ls : h2.IsList l xs.toArray := ⟨_, (S.new _ (.head _)).1, rfl, _, rfl⟩
  refine a_cons (n_loc S rfl (a_cons (n_loc S rfl (a_nil (n_loc S rfl ⟨⟨_, _, (G.mono S.keep) 32 _ rfl (by decide), rfl⟩, ar_le (br_any kf (G.mono S.keep) ls (by simp; omega) (S.keep _ _ hq) hqd (fun i v hv => (hkey i v (by simpa using hv)).le (by decide) (by decide) S.keep)
    (br_bind4 (G.mono S.keep)) fun h3 t3 u3 le => ?_) rfl (by decide) (by decide)⟩)))))
  have S := S.keeps le
  rw [List.size_toArray]
  refine st_loc S fun h4 t4 S => ?_
  have S := S.forget (m' := [("a", .ref l), ("x", x), ("lo", .int (bs (fun i => decide (k0 < kf i)) xs.length 0 xs.length : Nat) u3)]) (by simp only [List.forall_mem_cons]; exact ⟨rfl, rfl, rfl, fun _ hp => nomatch hp⟩)
  refine x_expr (e_methB F.plainAttrs_list F.slot_list_insert F.type_list_insert (n_loc S rfl ⟨l, _, rfl, (S.new _ (.head _)).1, rfl, rfl, a_cons (n_loc S rfl (a_cons (n_loc S rfl (a_nil (b_insert S (bs_le _ _ _ _ (Nat.zero_le _)) (by omega) fun h5 S => ⟨(fun _ e => by cases e), x_nil ?_⟩)))))⟩))
  exact H _ _ S.keep (S.new _ (.head _)).1
theorem il_spec {prog : Program} {w : World} {h : Heap} {g : Array GenState} {d : Drawn} {t : Nat} {os : OsState} {l q : Addr} {xs : List Value} {n : Nat} {x : Value} {k0 : Int} (kf : Nat → Int) {Q E : Value → Shared → Prop}
   (G : Gd w (h.hide l)) (hl : h.get? l = some (lsO xs n)) (hz : xs.length < 900) {oq : Obj} {fq : FuncData} (hq : (h.hide l).get? q = some oq) (hqd : oq.data = .func fq)
   (hkey : ∀ i v, xs[i]? = some v → KeyIs prog w (Ar 21 63) (h.hide l) q v (kf i)) (hx : KeyIs prog w (Ar 21 63) (h.hide l) q x k0)
   (H : ∀ h' t', Le (h.hide l) h' → h'.get? l = some (lsO (xs.take (bs (fun i => !decide (kf i < k0)) xs.length 0 xs.length) ++ x :: xs.drop (bs (fun i => !decide (kf i < k0)) xs.length 0 xs.length)) (n + 1)) → Q .none ⟨h', g, d, t', os⟩) :
  wpAny (model prog w) (Ar 18 50) (call (.ref 41) [.ref l, x] [("key", .ref q)]) Q E ⟨h, g, d, t, os⟩ := by
  have le0 : Le (h.hide l) h := fun _ _ e => Heap.of_hide e
  refine enterN (h₀ := h.hide l) (ns := [(l, lsO xs n)]) (binds := [("a", .ref l), ("x", x), ("lo", .int 0 216), ("hi", .none), ("key", .ref q)]) le0 ?_ (by simp) (le0 _ _ (G 41 _ rfl (by decide))) rfl (G.c.keeps le0) ((G.code rfl rfl rfl rfl (by decide)).keeps le0) (by decide) rfl
    (BindsTo.of_defaults rfl (le0 _ _ (G 33 _ rfl (by decide))) rfl rfl rfl) (by decide) (locs rfl) ?_ rfl rfl rfl
  · intro p hp
    rcases List.mem_singleton.mp hp with rfl
    exact ⟨hl, Heap.hide_self ..⟩
  intro L h1 t1 S
  refine x_if (t_cmp (n_loc S rfl (c_none (o_is_none ⟨_, rfl, fun hb => ?_, fun _ => ?_⟩))))
  · cases hb
  refine x_set (e_callK (n_glb (G.mono S.keep) (gl_bisect_left w) ⟨50, rfl, a_cons (n_loc S rfl (a_cons (e_callF (n_loc S rfl ⟨q, rfl, a_cons (n_loc S rfl (a_nil ⟨⟨oq, fq, S.keep _ _ hq, hqd⟩, ar_le (hx _ _ _ _ _ _ _ S.keep fun h2 t2 u2 le => ?_) rfl (by decide) (by decide)⟩))⟩))))⟩))
  have S := S.keeps le
  have ls : h2.IsList l xs.toArray := ⟨_, (S.new _ (.head _)).1, rfl, _, rfl⟩
  refine a_cons (n_loc S rfl (a_cons (n_loc S rfl (a_nil (n_loc S rfl ⟨⟨_, _, (G.mono S.keep) 50 _ rfl (by decide), rfl⟩, ar_le (bl_any kf (G.mono S.keep) ls (by simp; omega) (S.keep _ _ hq) hqd (fun i v hv => (hkey i v (by simpa using hv)).le (by decide) (by decide) S.keep)
    (bl_bind4 (G.mono S.keep)) fun h3 t3 u3 le => ?_) rfl (by decide) (by decide)⟩)))))
  have S := S.keeps le
  rw [List.size_toArray]
  refine st_loc S fun h4 t4 S => ?_
  have S := S.forget (m' := [("a", .ref l), ("x", x), ("lo", .int (bs (fun i => !decide (kf i < k0)) xs.length 0 xs.length : Nat) u3)]) (by simp only [List.forall_mem_cons]; exact ⟨rfl, rfl, rfl, fun _ hp => nomatch hp⟩)
  refine x_expr (e_methB F.plainAttrs_list F.slot_list_insert F.type_list_insert (n_loc S rfl ⟨l, _, rfl, (S.new _ (.head _)).1, rfl, rfl, a_cons (n_loc S rfl (a_cons (n_loc S rfl (a_nil (b_insert S (bs_le _ _ _ _ (Nat.zero_le _)) (by omega) fun h5 S => ⟨(fun _ e => by cases e), x_nil ?_⟩)))))⟩))
  exact H _ _ S.keep (S.new _ (.head _)).1
end Mine
end
section
open PySem PySem.W PyProof.Rows PySem.Spec PySem.Calls
namespace Mine
/-- compare, as a plain function of two rows' columns -/
def cmpF : List (Nat × Int) → (Nat → UInt64) → (Nat → UInt64) → Int
  | [], _, _ => 0
  | (c, d) :: r, f, g => if Float64.cmp (f c) (g c) == some Ordering.lt then -d else if Float64.cmp (f c) (g c) == some Ordering.gt then d else cmpF r f g
/-- a row: a tuple whose first five places are floats -/
def RowAt (h : Heap) (a : Addr) (f : Nat → UInt64) : Prop := ∃ l : List Value, IsTup h a l.toArray ∧ l.length < 1000 ∧ ∀ c, c < 5 → ∃ t, l[c]? = some (.float (f c) t)
theorem RowAt.mono {h h' : Heap} {a : Addr} {f : Nat → UInt64} (R : RowAt h a f) (le : Le h h') : RowAt h' a f := let ⟨l, ⟨o, e, r⟩, q⟩ := R; ⟨l, ⟨o, le _ _ e, r⟩, q⟩
/-- a list of pairs of ints -/
def SelAt (h : Heap) (l : Addr) (sel : List (Nat × Int)) : Prop := ∃ vs : List Value, h.IsList l vs.toArray ∧ vs.length = sel.length ∧ ∀ (i c : Nat) (d : Int), sel[i]? = some (c, d) → ∃ (a : Addr) (t u : Tok), vs[i]? = some (Value.ref a) ∧ IsTup h a (List.toArray [Value.int (c : Nat) t, Value.int d u])
theorem istup {h h' : Heap} {a : Addr} {l : Array Value} (T : IsTup h a l) (le : Le h h') : IsTup h' a l := let ⟨o, e, r⟩ := T; ⟨o, le _ _ e, r⟩
theorem SelAt.mono {h h' : Heap} {l : Addr} {sel : List (Nat × Int)} (R : SelAt h l sel) (le : Le h h') : SelAt h' l sel := by
  obtain ⟨vs, a, b, c⟩ := R
  refine ⟨vs, isl a le, b, fun i c' d q => ?_⟩
  obtain ⟨a, t, u, e, T⟩ := c i c' d q
  exact ⟨a, t, u, e, istup T le⟩
theorem compare_spec {prog : Program} {w : World} {h : Heap} {g : Array GenState} {d : Drawn} {t : Nat} {os : OsState} {r l a b : Addr} {sel : List (Nat × Int)} {f f' : Nat → UInt64} {Q E : Value → Shared → Prop}
   (G : Gd w h) (R : IsRule h r l) (Sl : SelAt h l sel) (hc : ∀ p ∈ sel, p.1 < 5) (ra : RowAt h a f) (rb : RowAt h b f')
   (H : ∀ h' t' u, Le h h' → Q (.int (cmpF sel f f') u) ⟨h', g, d, t', os⟩) :
  wpAny (model prog w) (Ar 40 120) (call (.ref 92) [.ref r, .ref a, .ref b]) Q E ⟨h, g, d, t, os⟩ := by
  refine enter (binds := [("self", .ref r), ("left", .ref a), ("right", .ref b)]) G rfl (by decide) rfl rfl rfl rfl rfl (by decide) (by decide) rfl (BindsTo.of_eq rfl) (by decide) (locs rfl) ?_ rfl rfl rfl
  intro L h1 t1 S
  obtain ⟨vs, hvs, hlen, hsel⟩ := Sl
  have hsz : vs.toArray.size = sel.length := by rw [List.size_toArray, hlen]
  have S := S.forget (m' := [("self", .ref r), ("left", .ref a), ("right", .ref b)]) (by simp only [List.forall_mem_cons]; exact ⟨rfl, rfl, rfl, fun _ hp => nomatch hp⟩)
  refine x_for (e_attr (n_loc S rfl (r_attr (G.mono S.keep) (R.mono S.keep) fun t2 => forL (l := l) (items := vs.toArray) (fun i b' g' m ns => g' = g ∧ b' = h ∧ ns = [] ∧ m = ([("self", .ref r), ("left", .ref a), ("right", .ref b)] : Loc) ∧ cmpF (sel.drop i) f f' = cmpF sel f f') hvs ⟨rfl, rfl, rfl, rfl, rfl⟩ S ?_ ?_)))
  · rintro i v b' g' m ns h2 t2 it o hi hv - ⟨rfl, rfl, rfl, rfl, hI⟩ S
    rw [hsz] at hi
    obtain ⟨⟨c, dr⟩, hcd⟩ : ∃ p, sel[i]? = some p := ⟨sel[i], by simp [hi]⟩
    obtain ⟨ta, u1, u2, hva, T⟩ := hsel i c dr hcd
    have e : v = .ref ta := by
      have : vs[i]? = some v := by simpa using hv
      rw [hva] at this; exact (Option.some.inj this).symm
    subst e
    have hc5 := hc (c, dr) (List.mem_of_getElem? hcd)
    obtain ⟨la, Ta, za, fa⟩ := ra
    obtain ⟨lb, Tb, zb, fb⟩ := rb
    obtain ⟨wa, ea⟩ := fa c hc5
    obtain ⟨wb, eb⟩ := fb c hc5
    have ed : sel.drop i = (c, dr) :: sel.drop (i + 1) := by rw [List.drop_eq_getElem_cons hi]; congr 1; rw [List.getElem?_eq_getElem hi] at hcd; exact Option.some.inj hcd
    rw [ed, cmpF] at hI
    refine ast rfl (istup T S.keep) S fun h3 S le => ?_
    refine ao_cons (as1 S fun h4 t4 S => ao_cons (as1 S fun h5 t5 S => ao_nil ?_))
    refine x_set (e_sub (n_loc S rfl (n_loc S rfl (i_tup (istup Ta S.keep) za ea (st_loc S fun h6 t6 S => ?_)))))
    refine x_set (e_sub (n_loc S rfl (n_loc S rfl (i_tup (istup Tb S.keep) zb eb (st_loc S fun h6 t6 S => ?_)))))
    refine x_if (t_cmp (n_loc S rfl (n_loc S rfl (o_flt ⟨_, rfl, fun hb => ?_, fun hb => ?_⟩))))
    · rw [if_pos hb] at hI
      refine x_ret (e_neg (n_loc S rfl (o_neg fun u3 t7 => .inr ⟨_, rfl, ?_⟩)))
      rw [hI]; exact H _ _ _ S.keep
    rw [if_neg (by rw [hb]; exact Bool.false_ne_true)] at hI
    refine x_if (t_cmp (n_loc S rfl (n_loc S rfl (o_fgt ⟨_, rfl, fun hb => ?_, fun hb => ?_⟩))))
    · rw [if_pos hb] at hI
      refine x_ret (n_loc S rfl (.inr ⟨_, rfl, ?_⟩))
      rw [hI]; exact H _ _ _ S.keep
    rw [if_neg (by rw [hb]; exact Bool.false_ne_true)] at hI
    refine x_nil (.inl ⟨rfl, _, _, _, [], _, _, rfl, Le.refl _, ⟨rfl, rfl, rfl, rfl, hI⟩, S.forget ?_⟩)
    simp only [List.forall_mem_cons]; exact ⟨rfl, rfl, rfl, fun _ hp => nomatch hp⟩
  · rintro b' g' m ns h2 t2 - ⟨rfl, rfl, rfl, rfl, hI⟩ S
    refine x_ret (c_int fun u t3 => ?_)
    rw [hsz, List.drop_length] at hI
    have e : (0 : Int) = cmpF sel f f' := hI
    rw [e]
    exact H _ _ _ S.keep
end Mine
end
section
open PySem PySem.W PyProof.Rows PySem.Spec PySem.Calls
namespace Mine
theorem gd_hide {w : World} {h : Heap} {a : Addr} (G : Gd w h) (ha : a ∈ tabs) : Gd w (h.hide a) := fun b o e n => by
  rw [Heap.hide_ne h (fun q : b = a => n (by rw [q]; exact ha))]; exact G b o e n
theorem nocell {l : List (Str × NameKind)} (h : (l.all fun x => x.2 != .cell) = true) : ∀ x ∈ l, x.2 ≠ .cell := fun x hx => by simpa using List.all_eq_true.mp h x hx
theorem le_hide (h : Heap) (a : Addr) : Le (h.hide a) h := fun _ _ e => Heap.of_hide e
theorem Le.hide {h h' : Heap} {a : Addr} (l : Le h h') : Le (h.hide a) (h'.hide a) := fun b o e => by
  by_cases q : b = a
  · subst q; rw [Heap.hide_self] at e; cases e
  · rw [Heap.hide_ne h q] at e; rw [Heap.hide_ne h' q]; exact l b o e
theorem bat {w : World} {h : Heap} (G : Gd w h) (P : Addr) (hP : P ∈ tabs) : h.BuiltinsAt (nsFind (tbl w mainGlobals)) P := by
  have e : ∃ bm o, nsFind (tbl w mainGlobals) "__builtins__" = some (.ref bm) ∧ bm ≠ builtinsNs ∧ bm ≠ mainGlobals ∧ bm ∉ tabs ∧ (KK w).lookup bm = some o ∧ o.cls = .type "module" ∧ o.dict = some builtinsNs ∧ o.data = .plain :=
    ⟨_, _, rfl, by decide, by decide, by decide, rfl, rfl, rfl, rfl⟩
  obtain ⟨bm, o, e1, e2, e3, e4, e5, e6⟩ := e
  exact ⟨bm, o, e1, e2, e3, fun q => e4 (q ▸ hP), G bm o e5 e4, e6⟩
theorem chd136 {w : World} {h : Heap} (G : Gd w h) : CodeHd h 140 136 := ⟨_, _, _, _, _, _, _, _, _, G 140 _ rfl (by decide), rfl, rfl, rfl, rfl, rfl, rfl, rfl, rfl, by decide⟩
section
variable {prog : Program} {w : World} {n u : Nat} {h : Heap} {g : Array GenState} {d : Drawn} {t : Nat} {os : OsState} {Q E : Value → Shared → Prop} {a : Addr} {o : Obj} {fd : FuncData} {body : Expr} {args : List Value} {kw : List (Str × Value)} {binds : List (Str × Value)}
/-- a call of a lambda -/
theorem enterE (ho : h.get? a = some o) (hdata : o.data = .func fd) (hlim : h.NoLimit) (hcd : h.CodeRec fd.code fd.qualname) (hroom : 300 + n < recursionLimit)
    (hbody : fd.body = .expr body) (hbind : BindsTo ⟨h, g, d, t, os⟩ fd ⟨args, kw⟩ binds)
    (hcell : ∀ x ∈ fd.scope.names, x.2 ≠ .cell) (hloc : ∀ x ∈ binds, fd.scope.names.lookup x.1 = some .local)
    (H : ∀ L h' t', Sx h L binds.reverse [] h' → wpAny (model prog w) (Ar (n + 1) (u + 3)) (eval body (callEnv fd L a)) Q (fun _ _ => False) ⟨h', g, d, t', os⟩)
    (hco : fd.scope.isCoroutine = false) (hgen : fd.scope.isGenerator = false) (hk : fd.scope.kind = .function) : wpAny (model prog w) (Ar n u) (call (.ref a) args kw) Q E ⟨h, g, d, t, os⟩ := by
  refine wpAny_call (kla_callFunE hroom ho hdata hco hgen hbody hcd (hbind _ _ _ _ ?_))
  refine wpAny_newFunctionEnv hcell hloc (fun h₁ hn hsb => ⟨hlim.fresh _ hsb, kla_codeExpr ?_⟩) hk
  have hk₁ : Le h h₁ := fun b o e => hsb.extBut b o (Nat.ne_of_lt (Heap.lt_size e)) (Heap.get?_push_of_some _ e)
  refine wpAny_mono (H h.objs.size h₁ _ ⟨⟨_, hn, fun x v e => e⟩, hk₁, ?_, (fun _ hp => nomatch hp), List.nodup_nil⟩) (fun f s' q => q) (fun _ _ q => q.elim)
  cases q : h.get? h.objs.size with
  | none => rfl
  | some o => exact absurd (Heap.lt_size q) (Nat.lt_irrefl _)
end
section
variable {M : Model} {A : Around} {E : Value → Shared → Prop} {s : Shared} {env : Env} {x : Str} {v : Value} {c : Addr} {o : Obj} {Q : Value → Shared → Prop} {pos : Pos}
theorem n_free (hc : env.cells.lookup x = some c) (ho : s.heap.get? c = some o) (hd : o.data = .cell (some v)) (h : Q v s)
    (hk : env.scope.kind = .function := by rfl) (hx : env.kindOf x = some .free := by rfl) (hb : (x == ("__debug__" : Str)) = false := by rfl) (hn : (x == ("__classdict__" : Str)) = false := by rfl) :
    wpAny M A (eval (.Name x pos) env) Q E s := wpAny_Name (wpAny_loadName_free hk hx hc ⟨o, ho, hd⟩ h hn) hb
end
/-- the lambda that _law_key makes: its qualified name -/
abbrev lamQ : Str := "_law_key.<locals>.<lambda>"
def cellO (v : Value) (o : Obj) : Prop := o.data = .cell (some v)
/-- a lambda of _law_key's over the rule r and the row a -/
def LamAt (w : World) (h : Heap) (q r a : Addr) : Prop := ∃ (params : Arguments) (body : Expr) (scope : Scope) (c c1 c2 : Addr) (o1 o2 : Obj) (pm ct : Value),
  h.get? q = some { cls := .type "function", data := .func (kla_fn "<lambda>" lamQ params body scope [("rule", c1), ("new", c2)] pm (.ref c) ct) } ∧ h.CodeRec (.ref c) lamQ ∧ h.get? c1 = some o1 ∧ cellO (.ref r) o1 ∧ h.get? c2 = some o2 ∧ cellO (.ref a) o2 ∧
  (∃ pos, (match (fdAt w 141).body with | .stmts [.Return (some e) _] => some e | _ => none) = some (Expr.Lambda params body scope pos))
theorem key_spec {prog : Program} {w : World} {b : Heap} {q r l a v : Addr} {sel : List (Nat × Int)} {f f' : Nat → UInt64} (G : Gd w b) (X : LamAt w b q r a) (R : IsRule b r l) (Sl : SelAt b l sel) (hc : ∀ p ∈ sel, p.1 < 5) (rv : RowAt b v f) (ra : RowAt b a f') :
    KeyIs prog w (Ar 21 63) b q (.ref v) (cmpF sel f f') := by
  intro h g d t os Q E le H
  obtain ⟨p, bd, sc, c, c1, c2, o1, o2, pm, ct, e1, e2, e3, e4, e5, e6, ps, e7⟩ := X
  have e8 : (match (fdAt w 141).body with | .stmts [.Return (some e) _] => some e | _ => none) = some _ := rfl
  rw [e8] at e7
  cases e7
  have G := G.mono le
  refine enterE (binds := [("old", .ref v)]) (le _ _ e1) rfl G.c (e2.keeps le) (by decide) rfl (BindsTo.of_eq rfl) (nocell rfl) (locs rfl) ?_ rfl rfl rfl
  intro L h1 t1 S
  have G1 := G.mono S.keep
  refine e_methF (n_free (c := c1) rfl (S.keep _ _ (le _ _ e3)) e4 fun pl => r_meth G1 (R.mono (le.trans S.keep)) ⟨92, rfl, a_cons (n_loc S rfl (a_cons (n_free (c := c2) rfl (S.keep _ _ (le _ _ e5)) e6 (a_nil ⟨⟨_, _, G1 92 _ rfl (by decide), rfl⟩, ar_le (compare_spec G1 (R.mono (le.trans S.keep)) (Sl.mono (le.trans S.keep)) hc (rv.mono (le.trans S.keep)) (ra.mono (le.trans S.keep)) fun h2 t2 u2 le2 => ?_) rfl (by decide) (by decide)⟩))))⟩)
  exact H _ _ _ (S.keep.trans le2)
/-- the code table of _law_key -/
def TabK (h : Heap) : Prop := ∃ ps, h.get? 136 = some (tabObj ps) ∧ (ps = #[] ∨ ∃ c, ps = #[rawInt 167, rawInt 11, .ref c] ∧ (h.hide 136).CodeRec (.ref c) lamQ)
end Mine
end
section
open PySem PySem.W PyProof.Rows PySem.Spec PySem.Calls
namespace Mine
def fgt (a b : UInt64) : Bool := Float64.cmp a b == some Ordering.gt
def flt (a b : UInt64) : Bool := Float64.cmp a b == some Ordering.lt
def feq (a b : UInt64) : Bool := Float64.cmp a b == some Ordering.eq
def mx3 (a b c : UInt64) : UInt64 := let m := if fgt b a then b else a; if fgt c m then c else m
def mn3 (a b c : UInt64) : UInt64 := let m := if flt b a then b else a; if flt c m then c else m
abbrev tpO (xs : List Value) : Obj := { cls := .type "tuple", data := .seq xs.toArray }
theorem sz {n : Nat} (h : Nat.ble n 1000 = true) : n ≤ sizeLine := by rw [sizeLine_eq]; have := Nat.le_of_ble_eq_true h; omega
section
variable {prog : Program} {w : World} {A : Around} {E : Value → Shared → Prop} {h : Heap} {g : Array GenState} {d : Drawn} {t : Nat} {os : OsState} {Q : Value → Shared → Prop} {a b : UInt64} {u v : Tok} {env : Env} {pos : Pos}
theorem o_fadd (H : ∀ u t', Q (.float (Float64.add a b) (u + 1)) ⟨h, g, d, t' + 1, os⟩) : wpAny (model prog w) A (binaryOp .Add (.float a u) (.float b v)) Q E ⟨h, g, d, t + 1, os⟩ := AutoFloatOps.add_0 (H t (t + 1))
theorem o_fsub (H : ∀ u t', Q (.float (Float64.sub a b) (u + 1)) ⟨h, g, d, t' + 1, os⟩) : wpAny (model prog w) A (binaryOp .Sub (.float a u) (.float b v)) Q E ⟨h, g, d, t + 1, os⟩ := AutoFloatOps.sub_0 (H t (t + 1))
theorem o_fmul (H : ∀ u t', Q (.float (Float64.mul a b) (u + 1)) ⟨h, g, d, t' + 1, os⟩) : wpAny (model prog w) A (binaryOp .Mult (.float a u) (.float b v)) Q E ⟨h, g, d, t + 1, os⟩ := AutoFloatOps.mul_0 (H t (t + 1))
theorem o_ffdiv (hb : Float64.isZero b = false) (H : ∀ u t', Q (.float (Float64.div a b) (u + 1)) ⟨h, g, d, t' + 1, os⟩) : wpAny (model prog w) A (binaryOp .Div (.float a u) (.float b v)) Q E ⟨h, g, d, t + 1, os⟩ := AutoFloatOps.truediv_1 (by rw [hb]; exact Bool.false_ne_true) (H t (t + 1))
theorem o_ffmod (hb : Float64.isZero b = false) (H : ∀ u t', Q (.float (Float64.divmod a b).snd (u + 1)) ⟨h, g, d, t' + 1, os⟩) : wpAny (model prog w) A (binaryOp .Mod (.float a u) (.float b v)) Q E ⟨h, g, d, t + 1, os⟩ := AutoFloatOps.mod_1 (by rw [hb]; exact Bool.false_ne_true) (H t (t + 1))
theorem o_ifdiv {k : Int} (hb : Float64.isInf (Float64.ofInt k) = false) (ha : Float64.isZero a = false) (H : ∀ u t', Q (.float (Float64.div (Float64.ofInt k) a) (u + 1)) ⟨h, g, d, t' + 1, os⟩) : wpAny (model prog w) A (binaryOp .Div (.int k u) (.float a v)) Q E ⟨h, g, d, t + 1, os⟩ := AutoFloatOps.truediv_if_2 (by rw [hb]; exact Bool.false_ne_true) (by rw [ha]; exact Bool.false_ne_true) (H t (t + 1))
theorem o_fisub {k : Int} (hb : Float64.isInf (Float64.ofInt k) = false) (H : ∀ u t', Q (.float (Float64.sub a (Float64.ofInt k)) (u + 1)) ⟨h, g, d, t' + 1, os⟩) : wpAny (model prog w) A (binaryOp .Sub (.float a u) (.int k v)) Q E ⟨h, g, d, t + 1, os⟩ := AutoFloatOps.sub_fi_1 (by rw [hb]; exact Bool.false_ne_true) (H t (t + 1))
theorem o_eq {i j : Int} (H : Q (.bool (decide (i = j))) ⟨h, g, d, t, os⟩) : wpAny (model prog w) A (compareOp .Eq (.int i u) (.int j v)) Q E ⟨h, g, d, t, os⟩ := wpAny_eq_int H
theorem e_tup {elts : List Expr} {k : Nat} (H : wpAny (model prog w) A (spliced (backTo pos (starEach elts env))) (fun vs s₁ => vs.length ≤ sizeLine ∧ Q (.ref s₁.heap.objs.size) ⟨s₁.heap.push (tpO vs), s₁.gens, s₁.drawn, s₁.toks, s₁.os⟩) E ⟨h, g, d, t, os⟩) : wpAny (model prog w) A (eval (.Tuple elts k pos) env) Q E ⟨h, g, d, t, os⟩ := wpAny_Tuple H
theorem e_list {elts : List Expr} (H : wpAny (model prog w) A (spliced (backTo pos (starEach elts env))) (fun vs s₁ => vs.length ≤ sizeLine ∧ Q (.ref s₁.heap.objs.size) ⟨s₁.heap.push (lsO vs 0), s₁.gens, s₁.drawn, s₁.toks, s₁.os⟩) E ⟨h, g, d, t, os⟩) : wpAny (model prog w) A (eval (.List elts pos) env) Q E ⟨h, g, d, t, os⟩ := wpAny_List H
theorem e_if {test body orelse : Expr} {s : Shared} (H : wpAny (model prog w) A (isTrue test env (eval test env)) (fun b s₂ => (b = true → wpAny (model prog w) A (eval body env) Q E s₂) ∧ (b = false → wpAny (model prog w) A (eval orelse env) Q E s₂)) E s) : wpAny (model prog w) A (eval (.IfExp test body orelse pos) env) Q E s := by
  refine wpAny_IfExp (wpAny_mono H (fun b s₁ q => ?_) fun _ _ e => e)
  cases b with
  | true => exact q.1 rfl
  | false => exact q.2 rfl
/-- the three, as the walk sees them -/
theorem three {x y z : Value} {X : Heap → Nat → Prop} (hh : A.handled = none) (bt : Nat → Nat → Bool) (op : CmpOp) (cmp : CmpOf prog w A.in1 op (fun i v => (#[x, y, z] : Array Value)[i]? = some v) bt)
    (H : ∀ h' tk v, Le h h' → (#[x, y, z] : Array Value)[argBest bt 2]? = some v → Q v ⟨h', g, d, tk, os⟩) :
    wpAny (model prog w) A.in1 (pyIter (.ref h.objs.size)) (fun it s₂ => ∃ I fp wr n P St bt, it = .ref I ∧ Walks prog w A.in1 I fp wr n P St ∧ St 0 s₂.heap ∧ (∀ b ∈ fp, b < s₂.heap.objs.size) ∧ 0 < n ∧ CmpOf prog w A.in1 op P bt ∧
      ∀ v h' tk, P (argBest bt (n - 1)) v → (∀ b o, b ∉ wr → s₂.heap.get? b = some o → h'.get? b = some o) → Q v { s₂ with heap := h', toks := tk }) E
      ⟨h.push { cls := .type "tuple", data := .seq #[x, y, z] }, g, d, t, os⟩ := by
  have hT : (h.push { cls := .type "tuple", data := .seq #[x, y, z] }).IsTuple h.objs.size #[x, y, z] := ⟨_, Heap.get?_push_size _ rfl, rfl, 0, rfl⟩
  refine wpAny_pyIter_tuple (s := ⟨h.push _, g, d, t, os⟩) hT ?_
  have hsz : (h.push { cls := .type "tuple", data := .seq #[x, y, z] }).objs.size = h.objs.size + 1 := Heap.size_push ..
  refine ⟨_, [_, h.objs.size], [_], _, _, _, bt, rfl, Walks.tuple (A := A.in1) hh _ h.objs.size (by rw [hsz]; exact Nat.ne_of_lt (Nat.lt_succ_self _)) #[x, y, z],
    ⟨⟨_, Heap.get?_push_size _ rfl, rfl, rfl⟩, hT.push _⟩, fun d hd => ?_, by simp, cmp, fun v h' tk hP hk => ?_⟩
  · show d < ((h.push _).push _).objs.size
    rw [Heap.size_push, hsz]
    rcases List.mem_cons.mp hd with rfl | hd
    · rw [hsz]; exact Nat.lt_succ_self _
    · rcases List.mem_cons.mp hd with rfl | hd
      · exact Nat.lt_succ_of_lt (Nat.lt_succ_self _)
      · cases hd
  · refine H h' tk v (fun d o e => ?_) hP
    refine hk d o (fun hm => ?_) (Heap.get?_push_of_some _ (Heap.get?_push_of_some _ e))
    rcases List.mem_cons.mp hm with e1 | hm
    · have := Heap.lt_size e; rw [e1, hsz] at this; exact Nat.lt_irrefl _ (Nat.lt_of_succ_lt this)
    · cases hm
theorem at3 {x y z : UInt64} {u1 u2 u3 : Tok} {i : Nat} {v : Value} (hv : (#[Value.float x (u1 + 1), .float y (u2 + 1), .float z (u3 + 1)] : Array Value)[i]? = some v) : ∃ t : Tok, v = .float (([x, y, z] : List UInt64)[i]?.getD 0) (t + 1) := by
  rcases i with _ | _ | _ | i
  · exact ⟨u1, by simpa using hv.symm⟩
  · exact ⟨u2, by simpa using hv.symm⟩
  · exact ⟨u3, by simpa using hv.symm⟩
  · simp at hv
theorem b_max {x y z : UInt64} {u1 u2 u3 : Tok} (hh : A.handled = none) (H : ∀ h' t' u, Le h h' → Q (.float (mx3 x y z) (u + 1)) ⟨h', g, d, t', os⟩) : wpAny (model prog w) A (call (.builtin "max") [.float x (u1 + 1), .float y (u2 + 1), .float z (u3 + 1)]) Q E ⟨h, g, d, t, os⟩ := by
  refine call_max_three (s := ⟨h, g, d, t, os⟩) (three (X := fun _ _ => True) hh (fun i j => fgt (([x, y, z] : List UInt64)[i]?.getD 0) (([x, y, z] : List UInt64)[j]?.getD 0)) .Gt ?_ ?_)
  · intro i j vi vj s Q E hi hj h
    obtain ⟨t1, rfl⟩ := at3 hi
    obtain ⟨t2, rfl⟩ := at3 hj
    exact AutoFloatOps.gt_0 h
  · intro h' tk v le hv
    obtain ⟨t1, rfl⟩ := at3 hv
    have e : (([x, y, z] : List UInt64)[argBest (fun i j => fgt (([x, y, z] : List UInt64)[i]?.getD 0) (([x, y, z] : List UInt64)[j]?.getD 0)) 2]?.getD 0) = mx3 x y z := by
      by_cases h1 : fgt y x <;> by_cases h2 : fgt z y <;> by_cases h3 : fgt z x <;> simp [argBest, mx3, h1, h2, h3]
    rw [e]
    exact H h' tk t1 le
theorem b_min {x y z : UInt64} {u1 u2 u3 : Tok} (hh : A.handled = none) (H : ∀ h' t' u, Le h h' → Q (.float (mn3 x y z) (u + 1)) ⟨h', g, d, t', os⟩) : wpAny (model prog w) A (call (.builtin "min") [.float x (u1 + 1), .float y (u2 + 1), .float z (u3 + 1)]) Q E ⟨h, g, d, t, os⟩ := by
  refine call_min_three (s := ⟨h, g, d, t, os⟩) (three (X := fun _ _ => True) hh (fun i j => flt (([x, y, z] : List UInt64)[i]?.getD 0) (([x, y, z] : List UInt64)[j]?.getD 0)) .Lt ?_ ?_)
  · intro i j vi vj s Q E hi hj h
    obtain ⟨t1, rfl⟩ := at3 hi
    obtain ⟨t2, rfl⟩ := at3 hj
    exact AutoFloatOps.lt_0 h
  · intro h' tk v le hv
    obtain ⟨t1, rfl⟩ := at3 hv
    have e : (([x, y, z] : List UInt64)[argBest (fun i j => flt (([x, y, z] : List UInt64)[i]?.getD 0) (([x, y, z] : List UInt64)[j]?.getD 0)) 2]?.getD 0) = mn3 x y z := by
      by_cases h1 : flt y x <;> by_cases h2 : flt z y <;> by_cases h3 : flt z x <;> simp [argBest, mn3, h1, h2, h3]
    rw [e]
    exact H h' tk t1 le
end
theorem gn_max (w : World) : glb w "max" = none := rfl
theorem bi_max (w : World) : bit w "max" = some (.builtin "max") := rfl
theorem gn_min (w : World) : glb w "min" = none := rfl
theorem bi_min (w : World) : bit w "min" = some (.builtin "min") := rfl
end Mine
end
section
open PySem PySem.W PyProof.Rows PySem.Spec PySem.Calls
namespace Mine
abbrev fl1 : UInt64 := 0x3FF0000000000000
abbrev fl2 : UInt64 := 0x4000000000000000
abbrev fl4 : UInt64 := 0x4010000000000000
abbrev fl6 : UInt64 := 0x4018000000000000
abbrev fh : UInt64 := 0x3FE0000000000000
def fle (a b : UInt64) : Bool := Float64.cmp a b == some Ordering.lt || Float64.cmp a b == some Ordering.eq
def hueF (r g mx rc gc bc : UInt64) : UInt64 := (Float64.divmod (Float64.div (if feq r mx then Float64.sub bc gc else if feq g mx then Float64.sub (Float64.add fl2 rc) bc else Float64.sub (Float64.add fl4 gc) rc) fl6) fl1).2
def hsvP (r g b : UInt64) : UInt64 × UInt64 × UInt64 :=
  let mx := mx3 r g b; let mn := mn3 r g b; let rng := Float64.sub mx mn
  if feq mn mx then (0, 0, mx) else (hueF r g mx (Float64.div (Float64.sub mx r) rng) (Float64.div (Float64.sub mx g) rng) (Float64.div (Float64.sub mx b) rng), Float64.div rng mx, mx)
def hsvOK (r g b : UInt64) : Bool := feq (mn3 r g b) (mx3 r g b) || (!Float64.isZero (mx3 r g b) && !Float64.isZero (Float64.sub (mx3 r g b) (mn3 r g b)))
section
variable {prog : Program} {w : World} {h : Heap} {g : Array GenState} {d : Drawn} {t : Nat} {os : OsState} {Q E : Value → Shared → Prop} {r gr b : UInt64} {u1 u2 u3 : Tok}
theorem hsv_spec (G : Gd w h) (ok : hsvOK r gr b = true)
    (H : ∀ (h' : Heap) (t' : Nat) (a : Addr) (u v x : Tok), Le h h' → h.get? a = none → h'.get? a = some (tpO [.float (hsvP r gr b).1 (u + 1), .float (hsvP r gr b).2.1 (v + 1), .float (hsvP r gr b).2.2 (x + 1)]) → Q (.ref a) ⟨h', g, d, t', os⟩) :
    wpAny (model prog w) (Ar 30 90) (call (.ref 64) [.float r (u1 + 1), .float gr (u2 + 1), .float b (u3 + 1)]) Q E ⟨h, g, d, t, os⟩ := by
  refine enter (binds := [("r", .float r (u1 + 1)), ("g", .float gr (u2 + 1)), ("b", .float b (u3 + 1))]) G rfl (by decide) rfl rfl rfl rfl rfl (by decide) (by decide) rfl (BindsTo.of_eq rfl) (nocell rfl) (locs rfl) ?_ rfl rfl rfl
  intro L h1 t1 S
  refine x_set (e_callB (n_bit (G.mono S.keep) (gn_max w) (bi_max w) ⟨rfl, a_cons (n_loc S rfl (a_cons (n_loc S rfl (a_cons (n_loc S rfl (a_nil (b_max rfl fun h2 t2 u4 le => ?_)))))))⟩))
  refine st_loc (S.keeps le) fun h3 t3 S => ?_
  refine x_set (e_callB (n_bit (G.mono S.keep) (gn_min w) (bi_min w) ⟨rfl, a_cons (n_loc S rfl (a_cons (n_loc S rfl (a_cons (n_loc S rfl (a_nil (b_min rfl fun h2 t2 u5 le => ?_)))))))⟩))
  refine st_loc (S.keeps le) fun h3 t3 S => ?_
  refine x_set (e_bin (n_loc S rfl (n_loc S rfl (o_fsub fun u6 t4 => st_loc S fun h4 t5 S => ?_))))
  refine x_set (n_loc S rfl (st_loc S fun h5 t6 S => ?_))
  refine x_if (t_cmp (n_loc S rfl (n_loc S rfl (o_feq ⟨_, rfl, fun hb => ?_, fun hb => ?_⟩))))
  · have hb : feq (mn3 r gr b) (mx3 r gr b) = true := hb
    refine x_ret (e_tup (a_cons (c_floatP fun u7 t7 => a_cons (c_floatP fun u8 t8 => a_cons (n_loc S rfl (a_nil ⟨sz rfl, ?_⟩))))))
    have e : hsvP r gr b = (0, 0, mx3 r gr b) := by unfold hsvP; rw [if_pos hb]
    rw [e] at H
    exact H _ _ _ _ _ _ (S.keep.trans fun _ _ e => Heap.get?_push_of_some _ e) (S.keep.none (none_of_size _ (Nat.le_refl _))) (Heap.get?_push_size _ rfl)
  have hb : feq (mn3 r gr b) (mx3 r gr b) = false := hb
  unfold hsvOK at ok
  rw [hb, Bool.false_or, Bool.and_eq_true, Bool.not_eq_true', Bool.not_eq_true'] at ok
  have e : hsvP r gr b = (hueF r gr (mx3 r gr b) (Float64.div (Float64.sub (mx3 r gr b) r) (Float64.sub (mx3 r gr b) (mn3 r gr b))) (Float64.div (Float64.sub (mx3 r gr b) gr) (Float64.sub (mx3 r gr b) (mn3 r gr b))) (Float64.div (Float64.sub (mx3 r gr b) b) (Float64.sub (mx3 r gr b) (mn3 r gr b))), Float64.div (Float64.sub (mx3 r gr b) (mn3 r gr b)) (mx3 r gr b), mx3 r gr b) := by unfold hsvP; rw [if_neg (by rw [hb]; exact Bool.false_ne_true)]
  rw [e] at H
  refine x_set (e_bin (n_loc S rfl (n_loc S rfl (o_ffdiv ok.1 fun u7 t7 => st_loc S fun h6 t8 S => ?_))))
  refine x_set (e_bin (e_bin (n_loc S rfl (n_loc S rfl (o_fsub fun u8 t9 => n_loc S rfl (o_ffdiv ok.2 fun u9 t10 => st_loc S fun h7 t11 S => ?_))))))
  refine x_set (e_bin (e_bin (n_loc S rfl (n_loc S rfl (o_fsub fun u8 t9 => n_loc S rfl (o_ffdiv ok.2 fun u10 t10 => st_loc S fun h7 t11 S => ?_))))))
  refine x_set (e_bin (e_bin (n_loc S rfl (n_loc S rfl (o_fsub fun u8 t9 => n_loc S rfl (o_ffdiv ok.2 fun u11 t10 => st_loc S fun h7 t11 S => ?_))))))
  refine x_if (t_cmp (n_loc S rfl (n_loc S rfl (o_feq ⟨_, rfl, fun hb2 => ?_, fun hb2 => ?_⟩))))
  · have hb2 : feq r (mx3 r gr b) = true := hb2
    unfold hueF at H
    rw [if_pos hb2] at H
    refine x_set (e_bin (n_loc S rfl (n_loc S rfl (o_fsub fun u12 t12 => st_loc S fun h8 t13 S => ?_))))
    refine x_set (e_bin (e_bin (n_loc S rfl (c_float fun u13 t14 => o_ffdiv (by decide +kernel) fun u14 t15 => c_float fun u15 t16 => o_ffmod (by decide +kernel) fun u16 t17 => st_loc S fun h9 t18 S => ?_))))
    refine x_ret (e_tup (a_cons (n_loc S rfl (a_cons (n_loc S rfl (a_cons (n_loc S rfl (a_nil ⟨sz rfl, ?_⟩))))))))
    exact H _ _ _ _ _ _ (S.keep.trans fun _ _ e => Heap.get?_push_of_some _ e) (S.keep.none (none_of_size _ (Nat.le_refl _))) (Heap.get?_push_size _ rfl)
  have hb2 : feq r (mx3 r gr b) = false := hb2
  unfold hueF at H
  rw [if_neg (by rw [hb2]; exact Bool.false_ne_true)] at H
  refine x_if (t_cmp (n_loc S rfl (n_loc S rfl (o_feq ⟨_, rfl, fun hb3 => ?_, fun hb3 => ?_⟩))))
  · have hb3 : feq gr (mx3 r gr b) = true := hb3
    rw [if_pos hb3] at H
    refine x_set (e_bin (e_bin (c_float fun u12 t12 => n_loc S rfl (o_fadd fun u12 t12 => n_loc S rfl (o_fsub fun u12 t12 => st_loc S fun h8 t13 S => ?_)))))
    refine x_set (e_bin (e_bin (n_loc S rfl (c_float fun u13 t14 => o_ffdiv (by decide +kernel) fun u14 t15 => c_float fun u15 t16 => o_ffmod (by decide +kernel) fun u16 t17 => st_loc S fun h9 t18 S => ?_))))
    refine x_ret (e_tup (a_cons (n_loc S rfl (a_cons (n_loc S rfl (a_cons (n_loc S rfl (a_nil ⟨sz rfl, ?_⟩))))))))
    exact H _ _ _ _ _ _ (S.keep.trans fun _ _ e => Heap.get?_push_of_some _ e) (S.keep.none (none_of_size _ (Nat.le_refl _))) (Heap.get?_push_size _ rfl)
  · have hb3 : feq gr (mx3 r gr b) = false := hb3
    rw [if_neg (by rw [hb3]; exact Bool.false_ne_true)] at H
    refine x_set (e_bin (e_bin (c_float fun u12 t12 => n_loc S rfl (o_fadd fun u12 t12 => n_loc S rfl (o_fsub fun u12 t12 => st_loc S fun h8 t13 S => ?_)))))
    refine x_set (e_bin (e_bin (n_loc S rfl (c_float fun u13 t14 => o_ffdiv (by decide +kernel) fun u14 t15 => c_float fun u15 t16 => o_ffmod (by decide +kernel) fun u16 t17 => st_loc S fun h9 t18 S => ?_))))
    refine x_ret (e_tup (a_cons (n_loc S rfl (a_cons (n_loc S rfl (a_cons (n_loc S rfl (a_nil ⟨sz rfl, ?_⟩))))))))
    exact H _ _ _ _ _ _ (S.keep.trans fun _ _ e => Heap.get?_push_of_some _ e) (S.keep.none (none_of_size _ (Nat.le_refl _))) (Heap.get?_push_size _ rfl)
end
end Mine
end
section
open PySem PySem.W PyProof.Rows PySem.Spec PySem.Calls
namespace Mine
def hlsP (r g b : UInt64) : UInt64 × UInt64 × UInt64 :=
  let mx := mx3 r g b; let mn := mn3 r g b; let rng := Float64.sub mx mn; let sm := Float64.add mx mn; let l := Float64.div sm fl2
  if feq mn mx then (0, l, 0) else (hueF r g mx (Float64.div (Float64.sub mx r) rng) (Float64.div (Float64.sub mx g) rng) (Float64.div (Float64.sub mx b) rng), l, if fle l fh then Float64.div rng sm else Float64.div rng (Float64.sub (Float64.sub fl2 mx) mn))
def hlsOK (r g b : UInt64) : Bool := feq (mn3 r g b) (mx3 r g b) || (!Float64.isZero (Float64.sub (mx3 r g b) (mn3 r g b)) && if fle (Float64.div (Float64.add (mx3 r g b) (mn3 r g b)) fl2) fh then !Float64.isZero (Float64.add (mx3 r g b) (mn3 r g b)) else !Float64.isZero (Float64.sub (Float64.sub fl2 (mx3 r g b)) (mn3 r g b)))
/-- an if whose arms both bind x to the same value -/
theorem x_ifs {M : Model} {A : Around} {E : Value → Shared → Prop} {h₀ h : Heap} {g : Array GenState} {d : Drawn} {t : Nat} {os : OsState} {env : Env} {L : Addr} {m : Loc} {ns : List (Addr × Obj)} {test : Expr} {body orelse rest : List Stmt} {pos : Pos} {Q : Flow → Shared → Prop} (x : Str) (T : Tok → Value) (S : Sx h₀ L m ns h)
    (H : wpAny M A (isTrue test env (eval test env)) (fun b s₂ => (b = true → wpAny M A (execs body env) (fun f s₃ => f = .next ∧ ∃ h6 t6 us, s₃ = ⟨h6, g, d, t6 + 1, os⟩ ∧ Sx h₀ L ((x, T us) :: m) ns h6) (fun _ _ => False) s₂) ∧ (b = false → wpAny M A (execs orelse env) (fun f s₃ => f = .next ∧ ∃ h6 t6 us, s₃ = ⟨h6, g, d, t6 + 1, os⟩ ∧ Sx h₀ L ((x, T us) :: m) ns h6) (fun _ _ => False) s₂)) E ⟨h, g, d, t, os⟩)
    (R : ∀ h6 t6 us, Sx h₀ L ((x, T us) :: m) ns h6 → wpAny M A (execs rest env) Q E ⟨h6, g, d, t6 + 1, os⟩) : wpAny M A (execs (.If test body orelse pos :: rest) env) Q E ⟨h, g, d, t, os⟩ := by
  refine x_if (wpAny_mono H (fun b s₂ q => ⟨fun hb => ?_, fun hb => ?_⟩) fun _ _ e => e)
  · rw [execs_app]
    refine wpAny_bind (wpAny_mono (q.1 hb) (fun f s₃ q => ?_) fun _ _ e => e.elim)
    obtain ⟨rfl, h6, t6, us, rfl, S'⟩ := q
    exact R _ _ _ S'
  · rw [execs_app]
    refine wpAny_bind (wpAny_mono (q.2 hb) (fun f s₃ q => ?_) fun _ _ e => e.elim)
    obtain ⟨rfl, h6, t6, us, rfl, S'⟩ := q
    exact R _ _ _ S'
section
variable {prog : Program} {w : World} {h : Heap} {g : Array GenState} {d : Drawn} {t : Nat} {os : OsState} {Q E : Value → Shared → Prop} {r gr b : UInt64} {u1 u2 u3 : Tok}
theorem hls_spec (G : Gd w h) (ok : hlsOK r gr b = true)
    (H : ∀ (h' : Heap) (t' : Nat) (a : Addr) (u v x : Tok), Le h h' → h.get? a = none → h'.get? a = some (tpO [.float (hlsP r gr b).1 (u + 1), .float (hlsP r gr b).2.1 (v + 1), .float (hlsP r gr b).2.2 (x + 1)]) → Q (.ref a) ⟨h', g, d, t', os⟩) :
    wpAny (model prog w) (Ar 30 90) (call (.ref 57) [.float r (u1 + 1), .float gr (u2 + 1), .float b (u3 + 1)]) Q E ⟨h, g, d, t, os⟩ := by
  refine enter (binds := [("r", .float r (u1 + 1)), ("g", .float gr (u2 + 1)), ("b", .float b (u3 + 1))]) G rfl (by decide) rfl rfl rfl rfl rfl (by decide) (by decide) rfl (BindsTo.of_eq rfl) (nocell rfl) (locs rfl) ?_ rfl rfl rfl
  intro L h1 t1 S
  refine x_set (e_callB (n_bit (G.mono S.keep) (gn_max w) (bi_max w) ⟨rfl, a_cons (n_loc S rfl (a_cons (n_loc S rfl (a_cons (n_loc S rfl (a_nil (b_max rfl fun h2 t2 u4 le => ?_)))))))⟩))
  refine st_loc (S.keeps le) fun h3 t3 S => ?_
  refine x_set (e_callB (n_bit (G.mono S.keep) (gn_min w) (bi_min w) ⟨rfl, a_cons (n_loc S rfl (a_cons (n_loc S rfl (a_cons (n_loc S rfl (a_nil (b_min rfl fun h2 t2 u5 le => ?_)))))))⟩))
  refine st_loc (S.keeps le) fun h3 t3 S => ?_
  refine x_set (e_bin (n_loc S rfl (n_loc S rfl (o_fadd fun u6 t4 => st_loc S fun h4 t5 S => ?_))))
  refine x_set (e_bin (n_loc S rfl (n_loc S rfl (o_fsub fun u6 t4 => st_loc S fun h4 t5 S => ?_))))
  refine x_set (e_bin (n_loc S rfl (c_float fun _ _ => o_ffdiv (by decide +kernel) fun _ _ => st_loc S fun h5 t6 S => ?_)))
  refine x_if (t_cmp (n_loc S rfl (n_loc S rfl (o_feq ⟨_, rfl, fun hb => ?_, fun hb => ?_⟩))))
  · have hb : feq (mn3 r gr b) (mx3 r gr b) = true := hb
    refine x_ret (e_tup (a_cons (c_floatP fun u7 t7 => a_cons (n_loc S rfl (a_cons (c_floatP fun u8 t8 => a_nil ⟨sz rfl, ?_⟩))))))
    have e : hlsP r gr b = (0, Float64.div (Float64.add (mx3 r gr b) (mn3 r gr b)) fl2, 0) := by unfold hlsP; rw [if_pos hb]
    rw [e] at H
    exact H _ _ _ _ _ _ (S.keep.trans fun _ _ e => Heap.get?_push_of_some _ e) (S.keep.none (none_of_size _ (Nat.le_refl _))) (Heap.get?_push_size _ rfl)
  have hb : feq (mn3 r gr b) (mx3 r gr b) = false := hb
  unfold hlsOK at ok
  rw [hb, Bool.false_or, Bool.and_eq_true, Bool.not_eq_true'] at ok
  have e : hlsP r gr b = (hueF r gr (mx3 r gr b) (Float64.div (Float64.sub (mx3 r gr b) r) (Float64.sub (mx3 r gr b) (mn3 r gr b))) (Float64.div (Float64.sub (mx3 r gr b) gr) (Float64.sub (mx3 r gr b) (mn3 r gr b))) (Float64.div (Float64.sub (mx3 r gr b) b) (Float64.sub (mx3 r gr b) (mn3 r gr b))), Float64.div (Float64.add (mx3 r gr b) (mn3 r gr b)) fl2, if fle (Float64.div (Float64.add (mx3 r gr b) (mn3 r gr b)) fl2) fh then Float64.div (Float64.sub (mx3 r gr b) (mn3 r gr b)) (Float64.add (mx3 r gr b) (mn3 r gr b)) else Float64.div (Float64.sub (mx3 r gr b) (mn3 r gr b)) (Float64.sub (Float64.sub fl2 (mx3 r gr b)) (mn3 r gr b))) := by unfold hlsP; rw [if_neg (by rw [hb]; exact Bool.false_ne_true)]
  rw [e] at H
  generalize hsx : (if fle (Float64.div (Float64.add (mx3 r gr b) (mn3 r gr b)) fl2) fh then Float64.div (Float64.sub (mx3 r gr b) (mn3 r gr b)) (Float64.add (mx3 r gr b) (mn3 r gr b)) else Float64.div (Float64.sub (mx3 r gr b) (mn3 r gr b)) (Float64.sub (Float64.sub fl2 (mx3 r gr b)) (mn3 r gr b))) = sx at H
  refine x_ifs "s" (fun us => .float sx (us + 1)) S (t_cmp (n_loc S rfl (c_float fun _ _ => o_fle ⟨_, rfl, fun hb4 => ?_, fun hb4 => ?_⟩))) ?_
  · have hb4 : fle (Float64.div (Float64.add (mx3 r gr b) (mn3 r gr b)) fl2) fh = true := hb4
    rw [if_pos hb4] at hsx ok
    subst hsx
    exact x_set (e_bin (n_loc S rfl (n_loc S rfl (o_ffdiv (by simpa using ok.2) fun u7 t7 => st_loc S fun h6 t8 S => x_nil ⟨rfl, _, _, _, rfl, S⟩))))
  · have hb4 : fle (Float64.div (Float64.add (mx3 r gr b) (mn3 r gr b)) fl2) fh = false := hb4
    rw [if_neg (by rw [hb4]; exact Bool.false_ne_true)] at hsx ok
    subst hsx
    exact x_set (e_bin (n_loc S rfl (e_bin (e_bin (c_float fun _ _ => n_loc S rfl (o_fsub fun _ _ => n_loc S rfl (o_fsub fun _ _ => o_ffdiv (by simpa using ok.2) fun u7 t7 => st_loc S fun h6 t8 S => x_nil ⟨rfl, _, _, _, rfl, S⟩)))))))
  · intro h6 t6 us S
    refine x_set (e_bin (e_bin (n_loc S rfl (n_loc S rfl (o_fsub fun u8 t9 => n_loc S rfl (o_ffdiv ok.1 fun u9 t10 => st_loc S fun h7 t11 S => ?_))))))
    refine x_set (e_bin (e_bin (n_loc S rfl (n_loc S rfl (o_fsub fun u8 t9 => n_loc S rfl (o_ffdiv ok.1 fun u10 t10 => st_loc S fun h7 t11 S => ?_))))))
    refine x_set (e_bin (e_bin (n_loc S rfl (n_loc S rfl (o_fsub fun u8 t9 => n_loc S rfl (o_ffdiv ok.1 fun u11 t10 => st_loc S fun h7 t11 S => ?_))))))
    refine x_if (t_cmp (n_loc S rfl (n_loc S rfl (o_feq ⟨_, rfl, fun hb2 => ?_, fun hb2 => ?_⟩))))
    · have hb2 : feq r (mx3 r gr b) = true := hb2
      unfold hueF at H
      rw [if_pos hb2] at H
      refine x_set (e_bin (n_loc S rfl (n_loc S rfl (o_fsub fun u12 t12 => st_loc S fun h8 t13 S => ?_))))
      refine x_set (e_bin (e_bin (n_loc S rfl (c_float fun u13 t14 => o_ffdiv (by decide +kernel) fun u14 t15 => c_float fun u15 t16 => o_ffmod (by decide +kernel) fun u16 t17 => st_loc S fun h9 t18 S => ?_))))
      refine x_ret (e_tup (a_cons (n_loc S rfl (a_cons (n_loc S rfl (a_cons (n_loc S rfl (a_nil ⟨sz rfl, ?_⟩))))))))
      exact H _ _ _ _ _ _ (S.keep.trans fun _ _ e => Heap.get?_push_of_some _ e) (S.keep.none (none_of_size _ (Nat.le_refl _))) (Heap.get?_push_size _ rfl)
    have hb2 : feq r (mx3 r gr b) = false := hb2
    unfold hueF at H
    rw [if_neg (by rw [hb2]; exact Bool.false_ne_true)] at H
    refine x_if (t_cmp (n_loc S rfl (n_loc S rfl (o_feq ⟨_, rfl, fun hb3 => ?_, fun hb3 => ?_⟩))))
    · have hb3 : feq gr (mx3 r gr b) = true := hb3
      rw [if_pos hb3] at H
      refine x_set (e_bin (e_bin (c_float fun u12 t12 => n_loc S rfl (o_fadd fun u12 t12 => n_loc S rfl (o_fsub fun u12 t12 => st_loc S fun h8 t13 S => ?_)))))
      refine x_set (e_bin (e_bin (n_loc S rfl (c_float fun u13 t14 => o_ffdiv (by decide +kernel) fun u14 t15 => c_float fun u15 t16 => o_ffmod (by decide +kernel) fun u16 t17 => st_loc S fun h9 t18 S => ?_))))
      refine x_ret (e_tup (a_cons (n_loc S rfl (a_cons (n_loc S rfl (a_cons (n_loc S rfl (a_nil ⟨sz rfl, ?_⟩))))))))
      exact H _ _ _ _ _ _ (S.keep.trans fun _ _ e => Heap.get?_push_of_some _ e) (S.keep.none (none_of_size _ (Nat.le_refl _))) (Heap.get?_push_size _ rfl)
    · have hb3 : feq gr (mx3 r gr b) = false := hb3
      rw [if_neg (by rw [hb3]; exact Bool.false_ne_true)] at H
      refine x_set (e_bin (e_bin (c_float fun u12 t12 => n_loc S rfl (o_fadd fun u12 t12 => n_loc S rfl (o_fsub fun u12 t12 => st_loc S fun h8 t13 S => ?_)))))
      refine x_set (e_bin (e_bin (n_loc S rfl (c_float fun u13 t14 => o_ffdiv (by decide +kernel) fun u14 t15 => c_float fun u15 t16 => o_ffmod (by decide +kernel) fun u16 t17 => st_loc S fun h9 t18 S => ?_))))
      refine x_ret (e_tup (a_cons (n_loc S rfl (a_cons (n_loc S rfl (a_cons (n_loc S rfl (a_nil ⟨sz rfl, ?_⟩))))))))
      exact H _ _ _ _ _ _ (S.keep.trans fun _ _ e => Heap.get?_push_of_some _ e) (S.keep.none (none_of_size _ (Nat.le_refl _))) (Heap.get?_push_size _ rfl)
end
end Mine
end
section
open PySem PySem.W PyProof.Rows PySem.Spec PySem.Calls
namespace Mine
def trunc (x : UInt64) : Int := match Float64.decode x with | .fin sg m e => Float64.truncOf sg m e | _ => 0
def finite (x : UInt64) : Bool := match Float64.decode x with | .fin .. => true | _ => false
theorem b_int {prog : Program} {w : World} {A : Around} {E : Value → Shared → Prop} {h : Heap} {g : Array GenState} {d : Drawn} {t : Nat} {os : OsState} {Q : Value → Shared → Prop} {x : UInt64} {u : Tok} (hf : finite x = true) (H : ∀ u t', Q (.int (trunc x) u) ⟨h, g, d, t', os⟩) :
    wpAny (model prog w) A (call (.type "int") [.float x u]) Q E ⟨h, g, d, t, os⟩ := by
  unfold finite at hf
  unfold trunc at H
  cases e : Float64.decode x with
  | fin sg m k => rw [e] at H; exact call_int_float e (H _ _)
  | _ => rw [e] at hf; cases hf
def rgbP (h s v : UInt64) : UInt64 × UInt64 × UInt64 :=
  if feq s 0 then (v, v, v) else
  let i := trunc (Float64.mul h fl6); let f := Float64.sub (Float64.mul h fl6) (Float64.ofInt i)
  let p := Float64.mul v (Float64.sub fl1 s); let q := Float64.mul v (Float64.sub fl1 (Float64.mul s f)); let t := Float64.mul v (Float64.sub fl1 (Float64.mul s (Float64.sub fl1 f)))
  let j := i.fmod 6
  if j = 0 then (v, t, p) else if j = 1 then (q, v, p) else if j = 2 then (p, v, t) else if j = 3 then (p, q, v) else if j = 4 then (t, p, v) else (v, p, q)
def rgbOK (h s : UInt64) : Bool := feq s 0 || (finite (Float64.mul h fl6) && !Float64.isInf (Float64.ofInt (trunc (Float64.mul h fl6))))
theorem gn_int (w : World) : glb w "int" = none := rfl
theorem bi_int (w : World) : bit w "int" = some (.type "int") := rfl
section
variable {prog : Program} {w : World} {h : Heap} {g : Array GenState} {d : Drawn} {t : Nat} {os : OsState} {Q E : Value → Shared → Prop} {hh sh vh : UInt64} {u1 u2 u3 : Tok}
theorem rgb_spec (G : Gd w h) (ok : rgbOK hh sh = true)
    (H : ∀ (h' : Heap) (t' : Nat) (a : Addr) (u v x : Tok), Le h h' → h.get? a = none → h'.get? a = some (tpO [.float (rgbP hh sh vh).1 (u + 1), .float (rgbP hh sh vh).2.1 (v + 1), .float (rgbP hh sh vh).2.2 (x + 1)]) → Q (.ref a) ⟨h', g, d, t', os⟩) :
    wpAny (model prog w) (Ar 30 90) (call (.ref 71) [.float hh (u1 + 1), .float sh (u2 + 1), .float vh (u3 + 1)]) Q E ⟨h, g, d, t, os⟩ := by
  refine enter (binds := [("h", .float hh (u1 + 1)), ("s", .float sh (u2 + 1)), ("v", .float vh (u3 + 1))]) G rfl (by decide) rfl rfl rfl rfl rfl (by decide) (by decide) rfl (BindsTo.of_eq rfl) (nocell rfl) (locs rfl) ?_ rfl rfl rfl
  intro L h1 t1 S
  refine x_if (t_cmp (n_loc S rfl (c_float fun _ _ => o_feq ⟨_, rfl, fun hb => ?_, fun hb => ?_⟩)))
  · have hb : feq sh 0 = true := hb
    refine x_ret (e_tup (a_cons (n_loc S rfl (a_cons (n_loc S rfl (a_cons (n_loc S rfl (a_nil ⟨sz rfl, ?_⟩))))))))
    have e : rgbP hh sh vh = (vh, vh, vh) := by unfold rgbP; rw [if_pos hb]
    rw [e] at H
    exact H _ _ _ _ _ _ (S.keep.trans fun _ _ e => Heap.get?_push_of_some _ e) (S.keep.none (none_of_size _ (Nat.le_refl _))) (Heap.get?_push_size _ rfl)
  have hb : feq sh 0 = false := hb
  unfold rgbOK at ok
  rw [hb, Bool.false_or, Bool.and_eq_true, Bool.not_eq_true'] at ok
  unfold rgbP at H
  rw [if_neg (by rw [hb]; exact Bool.false_ne_true)] at H
  refine x_set (e_callT (n_bit (G.mono S.keep) (gn_int w) (bi_int w) ⟨rfl, a_cons (e_bin (n_loc S rfl (c_float fun _ _ => o_fmul fun _ _ => a_nil (b_int ok.1 fun _ _ => st_loc S fun _ _ S => ?_))))⟩))
  refine x_set (e_bin (e_bin (n_loc S rfl (c_float fun _ _ => o_fmul fun _ _ => n_loc S rfl (o_fisub ok.2 fun _ _ => st_loc S fun _ _ S => ?_)))))
  refine x_set (e_bin (n_loc S rfl (e_bin (c_float fun _ _ => n_loc S rfl (o_fsub fun _ _ => o_fmul fun _ _ => st_loc S fun _ _ S => ?_)))))
  refine x_set (e_bin (n_loc S rfl (e_bin (c_float fun _ _ => e_bin (n_loc S rfl (n_loc S rfl (o_fmul fun _ _ => o_fsub fun _ _ => o_fmul fun _ _ => st_loc S fun _ _ S => ?_)))))))
  refine x_set (e_bin (n_loc S rfl (e_bin (c_float fun _ _ => e_bin (n_loc S rfl (e_bin (c_float fun _ _ => n_loc S rfl (o_fsub fun _ _ => o_fmul fun _ _ => o_fsub fun _ _ => o_fmul fun _ _ => st_loc S fun _ _ S => ?_))))))))
  refine x_set (e_bin (n_loc S rfl (c_int fun _ _ => o_mod (by decide) fun _ _ => st_loc S fun _ _ S => ?_)))
  have fin : ∀ {h2 : Heap} (t' : Nat) (x y z : UInt64) (m : Loc) (u v x' : Tok), (Sx h L m [] h2) → (∀ (h' : Heap) (t' : Nat) (a : Addr) (u v x' : Tok), Le h h' → h.get? a = none → h'.get? a = some (tpO [.float x (u + 1), .float y (v + 1), .float z (x' + 1)]) → Q (.ref a) ⟨h', g, d, t', os⟩) → Q (.ref h2.objs.size) ⟨h2.push (tpO [.float x (u + 1), .float y (v + 1), .float z (x' + 1)]), g, d, t', os⟩ := fun t' x y z m u v x' S H =>
    H _ _ _ _ _ _ (S.keep.trans fun _ _ e => Heap.get?_push_of_some _ e) (S.keep.none (none_of_size _ (Nat.le_refl _))) (Heap.get?_push_size _ rfl)
  refine x_if (t_cmp (n_loc S rfl (c_int fun _ _ => o_eq ⟨_, rfl, fun hb => ?_, fun hb => ?_⟩)))
  · refine x_ret (e_tup (a_cons (n_loc S rfl (a_cons (n_loc S rfl (a_cons (n_loc S rfl (a_nil ⟨sz rfl, fin _ _ _ _ _ _ _ _ S ?_⟩))))))))
    rw [if_pos (of_decide_eq_true hb)] at H; exact H
  have b0 := of_decide_eq_false hb
  rw [if_neg b0] at H
  refine x_if (t_cmp (n_loc S rfl (c_int fun _ _ => o_eq ⟨_, rfl, fun hb => ?_, fun hb => ?_⟩)))
  · refine x_ret (e_tup (a_cons (n_loc S rfl (a_cons (n_loc S rfl (a_cons (n_loc S rfl (a_nil ⟨sz rfl, fin _ _ _ _ _ _ _ _ S ?_⟩))))))))
    rw [if_pos (of_decide_eq_true hb)] at H; exact H
  have b1 := of_decide_eq_false hb
  rw [if_neg b1] at H
  refine x_if (t_cmp (n_loc S rfl (c_int fun _ _ => o_eq ⟨_, rfl, fun hb => ?_, fun hb => ?_⟩)))
  · refine x_ret (e_tup (a_cons (n_loc S rfl (a_cons (n_loc S rfl (a_cons (n_loc S rfl (a_nil ⟨sz rfl, fin _ _ _ _ _ _ _ _ S ?_⟩))))))))
    rw [if_pos (of_decide_eq_true hb)] at H; exact H
  have b2 := of_decide_eq_false hb
  rw [if_neg b2] at H
  refine x_if (t_cmp (n_loc S rfl (c_int fun _ _ => o_eq ⟨_, rfl, fun hb => ?_, fun hb => ?_⟩)))
  · refine x_ret (e_tup (a_cons (n_loc S rfl (a_cons (n_loc S rfl (a_cons (n_loc S rfl (a_nil ⟨sz rfl, fin _ _ _ _ _ _ _ _ S ?_⟩))))))))
    rw [if_pos (of_decide_eq_true hb)] at H; exact H
  have b3 := of_decide_eq_false hb
  rw [if_neg b3] at H
  refine x_if (t_cmp (n_loc S rfl (c_int fun _ _ => o_eq ⟨_, rfl, fun hb => ?_, fun hb => ?_⟩)))
  · refine x_ret (e_tup (a_cons (n_loc S rfl (a_cons (n_loc S rfl (a_cons (n_loc S rfl (a_nil ⟨sz rfl, fin _ _ _ _ _ _ _ _ S ?_⟩))))))))
    rw [if_pos (of_decide_eq_true hb)] at H; exact H
  have b4 := of_decide_eq_false hb
  rw [if_neg b4] at H
  refine x_if (t_cmp (n_loc S rfl (c_int fun _ _ => o_eq ⟨_, rfl, fun hb => ?_, fun hb => ?_⟩)))
  · refine x_ret (e_tup (a_cons (n_loc S rfl (a_cons (n_loc S rfl (a_cons (n_loc S rfl (a_nil ⟨sz rfl, fin _ _ _ _ _ _ _ _ S ?_⟩))))))))
    exact H
  have b5 := of_decide_eq_false hb
  exfalso
  generalize trunc (Float64.mul hh fl6) = k at b0 b1 b2 b3 b4 b5
  have e := Int.fmod_eq_emod_of_nonneg k (b := 6) (by decide)
  rw [e] at b0 b1 b2 b3 b4 b5
  omega
end
end Mine
end
section
open PySem PySem.W PyProof.Rows PySem.Spec PySem.Calls
namespace Mine
abbrev fl8 : UInt64 := 0x4020000000000000
abbrev fl16 : UInt64 := 0x4030000000000000
abbrev fl840 : UInt64 := 0x408A400000000000
/-- a colour, by eighths, halves, quarters -/
structure Co where
  (tu pa le : Nat)
def rgbC (x : Co) : UInt64 × UInt64 × UInt64 := rgbP (Float64.div (Float64.ofInt x.tu) fl8) (Float64.div (Float64.ofInt x.pa) fl2) (Float64.div (Float64.ofInt x.le) fl4)
def hsvC (x : Co) : UInt64 × UInt64 × UInt64 := hsvP (rgbC x).1 (rgbC x).2.1 (rgbC x).2.2
def hlsC (x : Co) : UInt64 × UInt64 × UInt64 := hlsP (rgbC x).1 (rgbC x).2.1 (rgbC x).2.2
/-- whole numbers -/
def wh (x : Co) : List Int := if x.pa = 0 then [0, 0, x.le, 4 * x.le, 0] else
  let deep : Int := x.le * (4 - x.pa); let room : Int := if deep ≤ 8 then deep else 16 - deep
  [x.tu, x.pa, x.le, deep, (840 * x.le * x.pa : Int).fdiv room]
def whC (x : Co) (c : Nat) : Int := (wh x)[c]?.getD 0
def den (c : Nat) : UInt64 := ([fl8, fl2, fl4, fl16, fl840] : List UInt64)[c]?.getD fl1
def col (x : Co) (c : Nat) : UInt64 := ([(hsvC x).1, (hsvC x).2.1, (hsvC x).2.2, (hlsC x).2.1, (hlsC x).2.2] : List UInt64)[c]?.getD 0
def due (k : Int) (c : Nat) : UInt64 := Float64.div (Float64.ofInt k) (den c)
def okC (x : Co) : Bool := rgbOK (Float64.div (Float64.ofInt x.tu) fl8) (Float64.div (Float64.ofInt x.pa) fl2) && hsvOK (rgbC x).1 (rgbC x).2.1 (rgbC x).2.2 && hlsOK (rgbC x).1 (rgbC x).2.1 (rgbC x).2.2
  && (List.range 5).all (fun c => col x c == due (whC x c) c) && (hlsC x).1 == due (whC x 0) 0
def Co.In (x : Co) : Prop := x.tu < 8 ∧ x.pa < 3 ∧ 1 ≤ x.le ∧ x.le ≤ 4
def colT (t : Nat) : List Co := (List.range 3).flatMap fun p => [1, 2, 3, 4].map fun l => ⟨t, p, l⟩
def allC : List Co := (List.range 8).flatMap colT
theorem Co.mem {x : Co} (h : x.In) : x ∈ allC := by
  obtain ⟨t, p, l⟩ := x
  obtain ⟨h1, h2, h3, h4⟩ := h
  simp only at h1 h2 h3 h4
  have : l = 1 ∨ l = 2 ∨ l = 3 ∨ l = 4 := by omega
  simp only [allC, colT, List.mem_flatMap, List.mem_range]
  exact ⟨t, h1, p, h2, by rcases this with rfl | rfl | rfl | rfl <;> simp⟩
theorem ok0 : (colT 0).all okC = true := by decide +kernel
theorem ok1 : (colT 1).all okC = true := by decide +kernel
theorem ok2 : (colT 2).all okC = true := by decide +kernel
theorem ok3 : (colT 3).all okC = true := by decide +kernel
theorem ok4 : (colT 4).all okC = true := by decide +kernel
theorem ok5 : (colT 5).all okC = true := by decide +kernel
theorem ok6 : (colT 6).all okC = true := by decide +kernel
theorem ok7 : (colT 7).all okC = true := by decide +kernel
theorem all_ok : allC.all okC = true := by
  unfold allC
  rw [List.all_flatMap]
  refine List.all_eq_true.mpr fun t ht => ?_
  have h := List.mem_range.mp ht
  have : t = 0 ∨ t = 1 ∨ t = 2 ∨ t = 3 ∨ t = 4 ∨ t = 5 ∨ t = 6 ∨ t = 7 := by omega
  rcases this with rfl | rfl | rfl | rfl | rfl | rfl | rfl | rfl
  · exact ok0
  · exact ok1
  · exact ok2
  · exact ok3
  · exact ok4
  · exact ok5
  · exact ok6
  · exact ok7
theorem okC_of {x : Co} (h : x.In) : okC x = true := List.all_eq_true.mp all_ok x (Co.mem h)
theorem rgb_ok {x : Co} (h : x.In) : rgbOK (Float64.div (Float64.ofInt x.tu) fl8) (Float64.div (Float64.ofInt x.pa) fl2) = true := by have := okC_of h; unfold okC at this; simp only [Bool.and_eq_true] at this; exact this.1.1.1.1
theorem hsv_ok {x : Co} (h : x.In) : hsvOK (rgbC x).1 (rgbC x).2.1 (rgbC x).2.2 = true := by have := okC_of h; unfold okC at this; simp only [Bool.and_eq_true] at this; exact this.1.1.1.2
theorem hls_ok {x : Co} (h : x.In) : hlsOK (rgbC x).1 (rgbC x).2.1 (rgbC x).2.2 = true := by have := okC_of h; unfold okC at this; simp only [Bool.and_eq_true] at this; exact this.1.1.2
theorem col_due {x : Co} (h : x.In) {c : Nat} (hc : c < 5) : col x c = due (whC x c) c := by
  have := okC_of h; unfold okC at this; simp only [Bool.and_eq_true] at this
  exact eq_of_beq (List.all_eq_true.mp this.1.2 c (List.mem_range.mpr hc))
theorem again_due {x : Co} (h : x.In) : (hlsC x).1 = due (whC x 0) 0 := by
  have := okC_of h; unfold okC at this; simp only [Bool.and_eq_true] at this
  exact eq_of_beq this.2
/-- the values of a column -/
def vals : Nat → List Int
  | 0 => [0, 1, 2, 3, 4, 5, 6, 7]
  | 1 => [0, 1, 2]
  | 2 => [1, 2, 3, 4]
  | 3 => [2, 3, 4, 6, 8, 9, 12, 16]
  | _ => [0, 280, 360, 840]
theorem vals_ok : (allC.all fun x => (List.range 5).all fun c => decide (whC x c ∈ vals c)) = true := by decide +kernel
theorem whC_vals {x : Co} (h : x.In) {c : Nat} (hc : c < 5) : whC x c ∈ vals c := of_decide_eq_true (List.all_eq_true.mp (List.all_eq_true.mp vals_ok x (Co.mem h)) c (List.mem_range.mpr hc))
theorem cmp_ok : ((List.range 5).all fun c => (vals c).all fun a => (vals c).all fun b => flt (due a c) (due b c) == decide (a < b) && fgt (due a c) (due b c) == decide (b < a) && (feq (due a c) (due b c) == decide (a = b))) = true := by decide +kernel
theorem due_cmp {c : Nat} (hc : c < 5) {a b : Int} (ha : a ∈ vals c) (hb : b ∈ vals c) : flt (due a c) (due b c) = decide (a < b) ∧ fgt (due a c) (due b c) = decide (b < a) ∧ feq (due a c) (due b c) = decide (a = b) := by
  have := List.all_eq_true.mp (List.all_eq_true.mp (List.all_eq_true.mp cmp_ok c (List.mem_range.mpr hc)) a ha) b hb
  simp only [Bool.and_eq_true, beq_iff_eq] at this
  exact ⟨this.1.1, this.1.2, this.2⟩
theorem col_cmp {x y : Co} (hx : x.In) (hy : y.In) {c : Nat} (hc : c < 5) : flt (col x c) (col y c) = decide (whC x c < whC y c) ∧ fgt (col x c) (col y c) = decide (whC y c < whC x c) := by
  rw [col_due hx hc, col_due hy hc]
  have := due_cmp hc (whC_vals hx hc) (whC_vals hy hc)
  exact ⟨this.1, this.2.1⟩
theorem inf_ok : ((List.range 1000).all fun k => !Float64.isInf (Float64.ofInt k)) = true := by decide +kernel
theorem no_inf {k : Nat} (hk : k < 1000) : Float64.isInf (Float64.ofInt k) = false := by simpa using List.all_eq_true.mp inf_ok k (List.mem_range.mpr hk)
/-- the sums of values -/
theorem add_ok : ((List.range 41).all fun a => (List.range 5).all fun b => Float64.add (due b 2) (due a 2) == due ((a + b : Nat) : Int) 2) = true := by decide +kernel
theorem due_add {a b : Nat} (ha : a < 41) (hb : b < 5) : Float64.add (due b 2) (due a 2) = due ((a + b : Nat) : Int) 2 := eq_of_beq (List.all_eq_true.mp (List.all_eq_true.mp add_ok a (List.mem_range.mpr ha)) b (List.mem_range.mpr hb))
end Mine
end
section
open PySem PySem.W PyProof.Rows PySem.Spec PySem.Calls
namespace Mine
section
variable {M : Model} {A : Around} {E : Value → Shared → Prop} {s : Shared} {env : Env} {rest : List Stmt} {Q : Flow → Shared → Prop} {pos tpos : Pos} {elts : List Expr} {k : Nat} {value : Expr}
theorem x_setT (h : wpAny M A (eval value env) (fun v s₁ => wpAny M A (assign (.Tuple elts k tpos) env v) (fun _ s₂ => wpAny M A (execs rest env) Q E s₂) E s₁) E s)
    (hs : swapsWithSole [.Tuple elts k tpos] value pos.line env = pure false := by rfl) (hw : swappedStores [.Tuple elts k tpos] value env = pure none := by rfl) : wpAny M A (execs (.Assign [.Tuple elts k tpos] value pos :: rest) env) Q E s :=
  wpAny_execs_cons (Assign_Tuple h hs hw)
end
def RowV (x : Co) (n : Int) (vs : List Value) : Prop := ∃ u0 u1 u2 u3 u4 u5 u6 : Tok, vs = [.float (col x 0) (u0 + 1), .float (col x 1) (u1 + 1), .float (col x 2) (u2 + 1), .float (col x 3) (u3 + 1), .float (col x 4) (u4 + 1), .int n u5, .float (hlsC x).1 (u6 + 1)]
theorem gl_rgb (w : World) : glb w "hsv_to_rgb" = some (.ref 71) := rfl
theorem gl_hsv (w : World) : glb w "rgb_to_hsv" = some (.ref 64) := rfl
theorem gl_hls (w : World) : glb w "rgb_to_hls" = some (.ref 57) := rfl
theorem tpT {h : Heap} {a : Addr} {l : List Value} (e : h.get? a = some (tpO l)) : IsTup h a l.toArray := ⟨_, e, rfl, _, rfl⟩
section
variable {prog : Program} {w : World} {h : Heap} {g : Array GenState} {d : Drawn} {t : Nat} {os : OsState} {Q E : Value → Shared → Prop} {u1 u2 u3 u4 : Tok}
theorem row_spec {x : Co} {n : Int} (hx : x.In) (G : Gd w h)
    (H : ∀ h' t' a vs, Le h h' → h.get? a = none → h'.get? a = some (tpO vs) → RowV x n vs → Q (.ref a) ⟨h', g, d, t', os⟩) :
    wpAny (model prog w) (Ar 25 70) (call (.ref 120) [.int n u1, .int x.tu u2, .int x.pa u3, .int x.le u4]) Q E ⟨h, g, d, t, os⟩ := by
  refine enter (binds := [("place", .int n u1), ("turn", .int x.tu u2), ("part", .int x.pa u3), ("level", .int x.le u4)]) G rfl (by decide) rfl rfl rfl rfl rfl (by decide) (by decide) rfl (BindsTo.of_eq rfl) (nocell rfl) (locs rfl) ?_ rfl rfl rfl
  intro L h1 t1 S
  obtain ⟨i1, i2, i3, i4⟩ := id hx
  refine x_setT (e_callF (n_glb (G.mono S.keep) (gl_rgb w) ⟨71, rfl, a_cons (e_bin (n_loc S rfl (c_float fun _ _ => o_ifdiv (no_inf (by omega)) (by decide +kernel) fun _ _ => a_cons (e_bin (n_loc S rfl (c_float fun _ _ => o_ifdiv (no_inf (by omega)) (by decide +kernel) fun _ _ => a_cons (e_bin (n_loc S rfl (c_float fun _ _ => o_ifdiv (no_inf (by omega)) (by decide +kernel) fun _ _ => a_nil ⟨⟨_, _, (G.mono S.keep) 71 _ rfl (by decide), rfl⟩, ar_le (rgb_spec (G.mono S.keep) (rgb_ok hx) fun h2 t2 a v1 v2 v3 le fr ea => ?_) rfl (by decide) (by decide)⟩)))))))))⟩))
  have S := S.keeps le
  refine ast rfl (tpT ea) S fun h3 S le => ao_cons (as1 S fun _ _ S => ao_cons (as1 S fun _ _ S => ao_cons (as1 S fun _ _ S => ao_nil ?_)))
  refine x_setT (e_callF (n_glb (G.mono S.keep) (gl_hsv w) ⟨64, rfl, a_cons (n_loc S rfl (a_cons (n_loc S rfl (a_cons (n_loc S rfl (a_nil ⟨⟨_, _, (G.mono S.keep) 64 _ rfl (by decide), rfl⟩, ar_le (hsv_spec (G.mono S.keep) (hsv_ok hx) fun h2 t2 a v4 v5 v6 le fr ea => ?_) rfl (by decide) (by decide)⟩))))))⟩))
  have S := S.keeps le
  refine ast rfl (tpT ea) S fun h3 S le => ao_cons (as1 S fun _ _ S => ao_cons (as1 S fun _ _ S => ao_cons (as1 S fun _ _ S => ao_nil ?_)))
  refine x_setT (e_callF (n_glb (G.mono S.keep) (gl_hls w) ⟨57, rfl, a_cons (n_loc S rfl (a_cons (n_loc S rfl (a_cons (n_loc S rfl (a_nil ⟨⟨_, _, (G.mono S.keep) 57 _ rfl (by decide), rfl⟩, ar_le (hls_spec (G.mono S.keep) (hls_ok hx) fun h2 t2 a v7 v8 v9 le fr ea => ?_) rfl (by decide) (by decide)⟩))))))⟩))
  have S := S.keeps le
  refine ast rfl (tpT ea) S fun h3 S le => ao_cons (as1 S fun _ _ S => ao_cons (as1 S fun _ _ S => ao_cons (as1 S fun _ _ S => ao_nil ?_)))
  refine x_ret (e_tup (a_cons (n_loc S rfl (a_cons (n_loc S rfl (a_cons (n_loc S rfl (a_cons (n_loc S rfl (a_cons (n_loc S rfl (a_cons (n_loc S rfl (a_cons (n_loc S rfl (a_nil ⟨sz rfl, ?_⟩))))))))))))))))
  exact H _ _ _ _ (S.keep.trans fun _ _ e => Heap.get?_push_of_some _ e) (S.keep.none (none_of_size _ (Nat.le_refl _))) (Heap.get?_push_size _ rfl) ⟨_, _, _, _, _, _, _, rfl⟩
end
end Mine
end
section
open PySem PySem.W PyProof.Rows PySem.Spec PySem.Calls
namespace Mine
theorem bits64 {a : Int} (ha : a.natAbs < 1000000) : Builtin.Int.intBits a ≤ 64 := by
  unfold Builtin.Int.intBits
  split
  · omega
  · rename_i h
    have h0 : a.natAbs ≠ 0 := by intro e; apply h; simpa using e
    have := (Nat.log2_lt h0 (k := 20)).mpr (by omega)
    omega
section
variable {prog : Program} {w : World} {A : Around} {E : Value → Shared → Prop} {h : Heap} {g : Array GenState} {d : Drawn} {t : Nat} {os : OsState} {Q : Value → Shared → Prop} {a b : Int} {u v : Tok}
theorem o_mul (ha : a.natAbs < 1000000) (H : ∀ u t', Q (.int (a * b) u) ⟨h, g, d, t', os⟩) : wpAny (model prog w) A (binaryOp .Mult (.int a u) (.int b v)) Q E ⟨h, g, d, t, os⟩ := AutoIntOps.mul_0 (H _ _) (IntMulOk.of_left (bits64 ha))
theorem o_le (H : Q (.bool (decide (a ≤ b))) ⟨h, g, d, t, os⟩) : wpAny (model prog w) A (compareOp .LtE (.int a u) (.int b v)) Q E ⟨h, g, d, t, os⟩ := le_int H
theorem o_gt (H : Q (.bool (decide (a > b))) ⟨h, g, d, t, os⟩) : wpAny (model prog w) A (compareOp .Gt (.int a u) (.int b v)) Q E ⟨h, g, d, t, os⟩ := gt_int H
end
section
variable {prog : Program} {w : World} {h : Heap} {g : Array GenState} {d : Drawn} {t : Nat} {os : OsState} {Q E : Value → Shared → Prop} {u1 u2 u3 u4 : Tok}
theorem whole_spec {x : Co} (hx : x.In) (G : Gd w h)
    (H : ∀ h' t' a vs, Le h h' → h.get? a = none → h'.get? a = some (lsO vs 0) → IntsAre vs (wh x) → Q (.ref a) ⟨h', g, d, t', os⟩) :
    wpAny (model prog w) (Ar 25 70) (call (.ref 127) [.int x.tu u2, .int x.pa u3, .int x.le u4]) Q E ⟨h, g, d, t, os⟩ := by
  refine enter (binds := [("turn", .int x.tu u2), ("part", .int x.pa u3), ("level", .int x.le u4)]) G rfl (by decide) rfl rfl rfl rfl rfl (by decide) (by decide) rfl (BindsTo.of_eq rfl) (nocell rfl) (locs rfl) ?_ rfl rfl rfl
  intro L h1 t1 S
  obtain ⟨i1, i2, i3, i4⟩ := id hx
  unfold wh at H
  refine x_if (t_cmp (n_loc S rfl (c_int fun _ _ => o_eq ⟨_, rfl, fun hb => ?_, fun hb => ?_⟩)))
  · have e : x.pa = 0 := by have := of_decide_eq_true hb; omega
    rw [if_pos e] at H
    refine x_ret (e_list (a_cons (c_int fun _ _ => a_cons (c_int fun _ _ => a_cons (n_loc S rfl (a_cons (e_bin (c_int fun _ _ => n_loc S rfl (o_mul (by decide) fun _ _ => a_cons (c_int fun _ _ => a_nil ⟨sz rfl, ?_⟩))))))))))
    exact H _ _ _ _ (S.keep.trans fun _ _ e => Heap.get?_push_of_some _ e) (S.keep.none (none_of_size _ (Nat.le_refl _))) (Heap.get?_push_size _ rfl) (.cons _ _ (.cons _ _ (.cons _ _ (.cons _ _ (.cons _ _ .nil)))))
  have e : ¬ x.pa = 0 := by have := of_decide_eq_false hb; omega
  rw [if_neg e] at H
  refine x_set (e_bin (n_loc S rfl (e_bin (c_int fun _ _ => n_loc S rfl (o_sub fun _ _ => o_mul (by omega) fun _ _ => st_loc S fun _ _ S => ?_)))))
  generalize hd : (x.le : Int) * (4 - (x.pa : Int)) = deep at H S
  have hdp : 0 < deep ∧ deep < 16 := by
    subst hd
    have h1 : x.pa = 1 ∨ x.pa = 2 := by omega
    have h2 : x.le = 1 ∨ x.le = 2 ∨ x.le = 3 ∨ x.le = 4 := by omega
    rcases h1 with h1 | h1 <;> rcases h2 with h2 | h2 | h2 | h2 <;> rw [h1, h2] <;> decide
  have fin : ∀ {h2 : Heap} {m : Loc} (t' : Nat) (room : Int) (v1 v2 v3 v4 v5 : Tok), room = (if deep ≤ 8 then deep else 16 - deep) → Sx h L m [] h2 → Q (.ref h2.objs.size) ⟨h2.push (lsO [.int x.tu v1, .int x.pa v2, .int x.le v3, .int deep v4, .int ((840 * x.le * x.pa : Int).fdiv room) v5] 0), g, d, t', os⟩ := fun t' room v1 v2 v3 v4 v5 e S => by
    subst e
    exact H _ _ _ _ (S.keep.trans fun _ _ e => Heap.get?_push_of_some _ e) (S.keep.none (none_of_size _ (Nat.le_refl _))) (Heap.get?_push_size _ rfl) (.cons _ _ (.cons _ _ (.cons _ _ (.cons _ _ (.cons _ _ .nil)))))
  refine x_set (e_if (t_cmp (n_loc S rfl (c_int fun _ _ => o_le ⟨_, rfl, fun hb => ?_, fun hb => ?_⟩))))
  · have hb := of_decide_eq_true hb
    refine n_loc S rfl (st_loc S fun _ _ S => ?_)
    exact x_ret <| e_list <| a_cons <| n_loc S rfl <| a_cons <| n_loc S rfl <| a_cons <| n_loc S rfl <| a_cons <| n_loc S rfl <| a_cons <| e_bin <| e_bin <| e_bin <| c_int fun _ _ => n_loc S rfl <| o_mul (by decide) fun _ _ => n_loc S rfl <| o_mul (by omega) fun _ _ => n_loc S rfl <| o_fdiv (by omega) (by omega) fun _ _ => a_nil ⟨sz rfl, fin _ _ _ _ _ _ _ (by rw [if_pos hb]) S⟩
  · have hb := of_decide_eq_false hb
    refine e_bin (c_int fun _ _ => n_loc S rfl (o_sub fun _ _ => st_loc S fun _ _ S => ?_))
    exact x_ret <| e_list <| a_cons <| n_loc S rfl <| a_cons <| n_loc S rfl <| a_cons <| n_loc S rfl <| a_cons <| n_loc S rfl <| a_cons <| e_bin <| e_bin <| e_bin <| c_int fun _ _ => n_loc S rfl <| o_mul (by decide) fun _ _ => n_loc S rfl <| o_mul (by omega) fun _ _ => n_loc S rfl <| o_fdiv (by omega) (by omega) fun _ _ => a_nil ⟨sz rfl, fin _ _ _ _ _ _ _ (by rw [if_neg hb]) S⟩
end
end Mine
end
section
open PySem PySem.W PyProof.Rows PySem.Spec PySem.Calls
namespace Mine
theorem ints_get : ∀ {vs : List Value} {ns : List Int}, IntsAre vs ns → ∀ {k : Nat} {n : Int}, ns[k]? = some n → ∃ t, vs[k]? = some (.int n t)
  | _, _, .nil, _, _, h => by simp at h
  | _, _, .cons m t r, 0, n, h => by simp at h; exact ⟨t, by simp [h]⟩
  | _, _, .cons m t r, k + 1, n, h => by simpa using ints_get r (k := k) (n := n) (by simpa using h)
theorem ints_at {vs : List Value} {ns : List Int} (hi : IntsAre vs ns) {k : Nat} {v : Value} (h : vs[k]? = some v) : ∃ n t, v = .int n t ∧ ns[k]? = some n := hi.at k v h
theorem ints_len {vs : List Value} {ns : List Int} (hi : IntsAre vs ns) : vs.length = ns.length := IntsAre.length hi
theorem ints_snoc : ∀ {vs : List Value} {ns : List Int}, IntsAre vs ns → ∀ (n : Int) (t : Tok), IntsAre (vs ++ [.int n t]) (ns ++ [n])
  | _, _, .nil, n, t => .cons n t .nil
  | _, _, .cons m u r, n, t => .cons m u (ints_snoc r n t)
theorem wh_get {x : Co} {c : Nat} (hc : c < 5) : (wh x)[c]? = some (whC x c) := by
  have hl : (wh x).length = 5 := by unfold wh; split <;> rfl
  unfold whC
  rw [List.getElem?_eq_getElem (by omega)]
  rfl
theorem wh_nat {x : Co} (hx : x.In) {c : Nat} (hc : c < 5) : ∃ k : Nat, whC x c = k ∧ k < 1000 := by
  have h : ((List.range 5).all fun c => (vals c).all fun a => decide (0 ≤ a ∧ a < 1000)) = true := by decide
  have := of_decide_eq_true (List.all_eq_true.mp (List.all_eq_true.mp h c (List.mem_range.mpr hc)) _ (whC_vals hx hc))
  exact ⟨(whC x c).toNat, by omega, by omega⟩
theorem wh_noinf {x : Co} (hx : x.In) {c : Nat} (hc : c < 5) : Float64.isInf (Float64.ofInt (whC x c)) = false := by
  obtain ⟨k, e, hk⟩ := wh_nat hx hc
  rw [e]; exact no_inf hk
def DueV (x : Co) (n : Int) (vs : List Value) : Prop := ∃ u0 u1 u2 u3 u4 u5 u6 : Tok, vs = [.float (due (whC x 0) 0) (u0 + 1), .float (due (whC x 1) 1) (u1 + 1), .float (due (whC x 2) 2) (u2 + 1), .float (due (whC x 3) 3) (u3 + 1), .float (due (whC x 4) 4) (u4 + 1), .int n u5, .float (due (whC x 0) 0) (u6 + 1)]
section
variable {prog : Program} {w : World} {h : Heap} {g : Array GenState} {d : Drawn} {t : Nat} {os : OsState} {Q E : Value → Shared → Prop} {u1 u2 u3 u4 : Tok}
theorem due_spec {x : Co} {n : Int} {l : Addr} {vs : List Value} (hx : x.In) (G : Gd w h) (hl : h.IsList l vs.toArray) (hv : IntsAre vs (wh x))
    (H : ∀ h' t' a vs, Le h h' → h.get? a = none → h'.get? a = some (tpO vs) → DueV x n vs → Q (.ref a) ⟨h', g, d, t', os⟩) :
    wpAny (model prog w) (Ar 25 70) (call (.ref 134) [.int n u1, .ref l]) Q E ⟨h, g, d, t, os⟩ := by
  refine enter (binds := [("place", .int n u1), ("whole", .ref l)]) G rfl (by decide) rfl rfl rfl rfl rfl (by decide) (by decide) rfl (BindsTo.of_eq rfl) (nocell rfl) (locs rfl) ?_ rfl rfl rfl
  intro L h1 t1 S
  obtain ⟨w0, e0⟩ := ints_get hv (wh_get (x := x) (c := 0) (by decide))
  obtain ⟨w1, e1⟩ := ints_get hv (wh_get (x := x) (c := 1) (by decide))
  obtain ⟨w2, e2⟩ := ints_get hv (wh_get (x := x) (c := 2) (by decide))
  obtain ⟨w3, e3⟩ := ints_get hv (wh_get (x := x) (c := 3) (by decide))
  obtain ⟨w4, e4⟩ := ints_get hv (wh_get (x := x) (c := 4) (by decide))
  refine x_set <| e_bin <| e_sub <| n_loc S rfl <| c_int fun _ _ => i_list (isl hl S.keep) (by decide) (by decide) (by simpa using e0) <| c_float fun _ _ => o_ifdiv (wh_noinf hx (by decide)) (by decide +kernel) fun _ _ => st_loc S fun _ _ S => ?_
  refine x_ret <| e_tup <| a_cons <| n_loc S rfl <|
    a_cons <| e_bin <| e_sub <| n_loc S rfl <| c_int fun _ _ => i_list (isl hl S.keep) (by decide) (by decide) (by simpa using e1) <| c_float fun _ _ => o_ifdiv (wh_noinf hx (by decide)) (by decide +kernel) fun _ _ =>
    a_cons <| e_bin <| e_sub <| n_loc S rfl <| c_int fun _ _ => i_list (isl hl S.keep) (by decide) (by decide) (by simpa using e2) <| c_float fun _ _ => o_ifdiv (wh_noinf hx (by decide)) (by decide +kernel) fun _ _ =>
    a_cons <| e_bin <| e_sub <| n_loc S rfl <| c_int fun _ _ => i_list (isl hl S.keep) (by decide) (by decide) (by simpa using e3) <| c_float fun _ _ => o_ifdiv (wh_noinf hx (by decide)) (by decide +kernel) fun _ _ =>
    a_cons <| e_bin <| e_sub <| n_loc S rfl <| c_int fun _ _ => i_list (isl hl S.keep) (by decide) (by decide) (by simpa using e4) <| c_float fun _ _ => o_ifdiv (wh_noinf hx (by decide)) (by decide +kernel) fun _ _ =>
    a_cons <| n_loc S rfl <| a_cons <| n_loc S rfl <| a_nil ⟨sz rfl, ?_⟩
  exact H _ _ _ _ (S.keep.trans fun _ _ e => Heap.get?_push_of_some _ e) (S.keep.none (none_of_size _ (Nat.le_refl _))) (Heap.get?_push_size _ rfl) ⟨_, _, _, _, _, _, _, rfl⟩
theorem turned_spec {l : Addr} {vs : List Value} {ns : List Int} (G : Gd w h) (hl : h.IsList l vs.toArray) (hv : IntsAre vs ns) (hz : ns.length < 100)
    (H : ∀ h' t' a vs' k, Le h h' → h.get? a = none → h'.get? a = some (lsO vs' k) → IntsAre vs' (ns.map (- ·)) → Q (.ref a) ⟨h', g, d, t', os⟩) :
    wpAny (model prog w) (Ar 25 70) (call (.ref 161) [.ref l]) Q E ⟨h, g, d, t, os⟩ := by
  refine enter (binds := [("code", .ref l)]) G rfl (by decide) rfl rfl rfl rfl rfl (by decide) (by decide) rfl (BindsTo.of_eq rfl) (nocell rfl) (locs rfl) ?_ rfl rfl rfl
  intro L h1 t1 S
  refine x_ret <| e_lc0 [] <| n_loc S rfl <| wpAny_pyIter_list (isl hl S.keep) <| lcI S (it_list rfl hl) its_list (fun i b g' ys => g' = g ∧ b = h ∧ IntsAre ys ((ns.take i).map (- ·))) (by rw [List.size_toArray, ints_len hv]; omega) ⟨rfl, rfl⟩ ⟨rfl, rfl, .nil⟩ ?_ ?_
  · rintro C i v b g' ys m ns' h2 t2 hi hvi - ⟨rfl, rfl, hJ⟩ - S
    obtain ⟨n, u, rfl, en⟩ := ints_at hv (k := i) (by simpa using hvi)
    refine as1 S fun h3 t3 S => ?_
    rw [List.forIn_nil]
    refine wpAny_pure ⟨fun _ => e_neg <| n_loc S rfl <| o_neg fun u2 t4 => ⟨_, _, _, _, _, rfl, Le.refl _, ⟨rfl, rfl, ?_⟩, S⟩, fun h => by cases h⟩
    have e : ns.take (i + 1) = ns.take i ++ [n] := by rw [List.take_succ, en]; rfl
    rw [e, List.map_append]
    exact ints_snoc hJ _ _
  · rintro D b g' ys k h2 t2 - ⟨rfl, rfl, hJ⟩ S
    have Z := S.new _ (.head _)
    rw [List.size_toArray, ints_len hv, List.take_length] at hJ
    exact H _ _ _ _ _ S.keep Z.2.2 Z.1 hJ
def codeOf (ns : List Int) (sel : List (Nat × Int)) : List Int := sel.map fun p => if p.2 > 0 then ns[p.1]?.getD 0 else - ns[p.1]?.getD 0
theorem code_spec {l o : Addr} {vs : List Value} {ns : List Int} {sel : List (Nat × Int)} (G : Gd w h) (hl : h.IsList l vs.toArray) (hv : IntsAre vs ns) (hn : ns.length < 100) (Sl : SelAt h o sel) (hz : sel.length < 100) (hc : ∀ p ∈ sel, p.1 < ns.length)
    (H : ∀ h' t' a vs' k, Le h h' → h.get? a = none → h'.get? a = some (lsO vs' k) → IntsAre vs' (codeOf ns sel) → Q (.ref a) ⟨h', g, d, t', os⟩) :
    wpAny (model prog w) (Ar 25 70) (call (.ref 146) [.ref l, .ref o]) Q E ⟨h, g, d, t, os⟩ := by
  refine enterC (binds := [("whole", .ref l), ("order", .ref o)]) [("order", .ref o)] G (Le.refl h) rfl (by decide) rfl rfl rfl rfl rfl (by decide) (by decide) rfl rfl rfl ?_ ?_ ?_ (by decide) rfl rfl rfl
  · intro x hx
    simp only [List.mem_cons, List.not_mem_nil, or_false] at hx
    rcases hx with rfl | rfl
    · exact .inr ⟨rfl, rfl⟩
    · exact .inl rfl
  · simp only [List.forall_mem_cons]; exact ⟨rfl, fun _ hp => nomatch hp⟩
  intro h1 t1 O hO S
  have hO1 : (O (h.objs.size + 1)).data = .cell (some (.ref l)) := hO "whole" (h.objs.size + 1) rfl
  have S : Sx h h.objs.size [("order", .ref o)] ((h.objs.size + 1, O (h.objs.size + 1)) :: exl h h) h1 := S
  obtain ⟨b, le, _, eb, S⟩ := S.settle
  obtain ⟨ps, hps, hlen, hsel⟩ := Sl.mono le
  refine x_ret <| e_lc0 [("whole", h.objs.size + 1)] <| n_loc S rfl <| wpAny_pyIter_list (isl hps S.keep) <| lcI S (it_list rfl hps) its_list (fun i b' g' ys => g' = g ∧ b' = b ∧ IntsAre ys (codeOf ns (sel.take i))) (by rw [List.size_toArray]; omega) ⟨rfl, rfl⟩ ⟨rfl, rfl, .nil⟩ ?_ ?_
  · rintro C i v b g' ys m ns' h2 t2 hi hvi - ⟨rfl, rfl, hJ⟩ - S
    rw [List.size_toArray, hlen] at hi
    obtain ⟨⟨c, dr⟩, hcd⟩ : ∃ p, sel[i]? = some p := ⟨sel[i], by simp [hi]⟩
    obtain ⟨ta, v1, v2, hva, T⟩ := hsel i c dr hcd
    have e : v = .ref ta := by
      have : ps[i]? = some v := by simpa using hvi
      rw [hva] at this; exact (Option.some.inj this).symm
    subst e
    have hc5 := hc (c, dr) (List.mem_of_getElem? hcd)
    obtain ⟨wt, ew⟩ := ints_get hv (k := c) (n := ns[c]?.getD 0) (by rw [List.getElem?_eq_getElem hc5]; rfl)
    have et : codeOf ns (sel.take (i + 1)) = codeOf ns (sel.take i) ++ [if dr > 0 then ns[c]?.getD 0 else - ns[c]?.getD 0] := by unfold codeOf; rw [List.take_succ, hcd, List.map_append]; rfl
    refine ast rfl (istup T S.keep) S fun h3 S _ => ao_cons <| as1 S fun h4 t4 S => ao_cons <| as1 S fun h5 t5 S => ao_nil ?_
    rw [List.forIn_nil]
    refine wpAny_pure ⟨fun _ => e_if <| t_cmp <| n_loc S rfl <| c_int fun _ _ => o_gt ⟨_, rfl, fun hb => ?_, fun hb => ?_⟩, fun h => by cases h⟩
    · have hb : dr > 0 := of_decide_eq_true hb
      rw [if_pos hb] at et
      refine e_sub <| n_cell rfl (S.keep _ _ eb) hO1 <| n_loc S rfl <| i_list' (isl (isl hl le) S.keep) (by rw [ints_len hv]; omega) ew ⟨_, _, _, _, _, rfl, Le.refl _, ⟨rfl, rfl, ?_⟩, S⟩
      rw [et]; exact ints_snoc hJ _ _
    · have hb : ¬ dr > 0 := of_decide_eq_false hb
      rw [if_neg hb] at et
      refine e_neg <| e_sub <| n_cell rfl (S.keep _ _ eb) hO1 <| n_loc S rfl <| i_list' (isl (isl hl le) S.keep) (by rw [ints_len hv]; omega) ew <| o_neg fun _ _ => ⟨_, _, _, _, _, rfl, Le.refl _, ⟨rfl, rfl, ?_⟩, S⟩
      rw [et]; exact ints_snoc hJ _ _
  · rintro D b g' ys k h2 t2 - ⟨rfl, rfl, hJ⟩ S
    have Z := S.new _ (.head _)
    rw [List.size_toArray, hlen, List.take_length] at hJ
    exact H _ _ _ _ _ (le.trans S.keep) (le.none Z.2.2) Z.1 hJ
end
end Mine
end
section
open PySem PySem.W PyProof.Rows PySem.Spec PySem.Calls
namespace Mine
section
variable {K : Type} [DecidableEq K]
theorem valueAt_nil (k : K) : valueAt ([] : List (K × Value)) k = none := rfl
theorem valueAt_cons (p : K × Value) (l : List (K × Value)) (k : K) : valueAt (p :: l) k = if p.1 = k then some p.2 else valueAt l k := by
  unfold valueAt
  rw [List.find?_cons]
  by_cases q : p.1 = k
  · simp [q]
  · simp [q]
theorem valueAt_app (l r : List (K × Value)) (k : K) : valueAt (l ++ r) k = match valueAt l k with | some v => some v | none => valueAt r k := by
  induction l with
  | nil => rfl
  | cons p l ih =>
    rw [List.cons_append, valueAt_cons, valueAt_cons]
    by_cases q : p.1 = k
    · simp [q]
    · simp [q, ih]
theorem valueAt_none {l : List (K × Value)} {k : K} : valueAt l k = none ↔ k ∉ l.map (·.1) := by
  induction l with
  | nil => simp [valueAt_nil]
  | cons p l ih =>
    rw [valueAt_cons]
    by_cases q : p.1 = k
    · simp [q]
    · simp only [q, if_false, ih, List.map_cons, List.mem_cons, not_or]
      exact ⟨fun h => ⟨fun e => q e.symm, h⟩, fun h => h.2⟩
theorem valueAt_stored (l : List (K × Value)) (k : K) (v : Value) (k' : K) : valueAt (stored l k v) k' = if k' = k then some v else valueAt l k' := by
  unfold stored
  by_cases hk : l.any (fun kv => kv.1 = k) = true
  · rw [if_pos hk]
    induction l with
    | nil => simp at hk
    | cons p l ih =>
      rw [List.map_cons, valueAt_cons, valueAt_cons]
      by_cases q : p.1 = k
      · rw [if_pos q]
        by_cases r : k' = k
        · subst r; simp [q]
        · simp only [r, if_false, q]
          have : ¬ k = k' := fun e => r e.symm
          simp only [this, if_false]
          by_cases hk2 : l.any (fun kv => kv.1 = k) = true
          · rw [ih hk2, if_neg r]
          · have e : l.map (fun kv => if kv.1 = k then (kv.1, v) else kv) = l := by
              refine (List.map_congr_left (g := id) fun kv hkv => ?_).trans (List.map_id _)
              have : ¬ kv.1 = k := fun e => hk2 (List.any_eq_true.mpr ⟨kv, hkv, by simpa using e⟩)
              simp [this]
            rw [e]
      · have hk2 : l.any (fun kv => kv.1 = k) = true := by simpa [q] using hk
        rw [if_neg q, ih hk2]
        by_cases r : p.1 = k'
        · subst r; simp [q]
        · simp [r]
  · rw [if_neg hk, valueAt_app, valueAt_cons, valueAt_nil]
    have hn : valueAt l k = none := valueAt_none.mpr fun hm => hk (by
      obtain ⟨p, hp, e⟩ := List.mem_map.mp hm
      exact List.any_eq_true.mpr ⟨p, hp, by simpa using e⟩)
    by_cases r : k' = k
    · subst r; simp [hn]
    · have : ¬ k = k' := fun e => r e.symm
      simp only [this, r, if_false]
      cases valueAt l k' <;> rfl
theorem valueAt_take {l : List (K × Value)} (hn : (l.map (·.1)).Nodup) {i : Nat} {k : K} {v : Value} (hx : l[i]? = some (k, v)) : valueAt (l.take i) k = none := by
  refine valueAt_none.mpr fun hm => ?_
  obtain ⟨p, hp, e⟩ := List.mem_map.mp hm
  have hi : i < l.length := by
    rcases Nat.lt_or_ge i l.length with q | q
    · exact q
    · rw [List.getElem?_eq_none q] at hx; cases hx
  obtain ⟨j, hj, ej⟩ := List.getElem_of_mem hp
  have hj' : j < i := by rw [List.length_take] at hj; omega
  have ej' : l[j] = p := by rw [← ej]; simp
  have := List.pairwise_iff_getElem.mp hn j i (by simpa using (by omega : j < l.length)) (by simpa using hi) hj'
  apply this
  rw [List.getElem?_eq_getElem hi] at hx
  simp only [List.getElem_map]
  rw [ej', Option.some.inj hx]
  exact e
theorem valueAt_takeS {l : List (K × Value)} {i : Nat} {k : K} {v : Value} (hx : l[i]? = some (k, v)) (k' : K) (hn : valueAt (l.take i) k = none) : valueAt (l.take (i + 1)) k' = if k' = k then some v else valueAt (l.take i) k' := by
  rw [List.take_succ, hx, valueAt_app]
  show (match valueAt (l.take i) k' with | some v => some v | none => valueAt [(k, v)] k') = _
  rw [valueAt_cons, valueAt_nil]
  by_cases r : k' = k
  · subst r; simp [hn]
  · have : ¬ k = k' := fun e => r e.symm
    simp only [this, r, if_false]
    cases valueAt (l.take i) k' <;> rfl
end
section
variable {M : Model} {prog : Program} {w : World} {A : Around} {E : Value → Shared → Prop} {s : Shared} {h : Heap} {g : Array GenState} {d : Drawn} {t : Nat} {os : OsState} {env : Env} {pos tpos : Pos} {rest : List Stmt} {Q : Flow → Shared → Prop} {o i value : Expr} {op : Operator}
theorem x_setI (H : wpAny M A (eval value env) (fun v s₁ => wpAny M A (eval o env) (fun ov s₂ => wpAny M A (eval i env) (fun iv s₃ => wpAny M A (setItem ov iv v) (fun _ s₄ => wpAny M A (execs rest env) Q E s₄) E s₃) E s₂) E s₁) E s)
    (hs : swapsWith value (some (.Subscript o i tpos)) pos.line env = pure false := by rfl) : wpAny M A (execs (.Assign [.Subscript o i tpos] value pos :: rest) env) Q E s := wpAny_execs_cons (wpAny_Assign_Subscript H hs)
theorem x_augI (H : wpAny M A (eval o env) (fun ov s₁ => wpAny M A (eval i env) (fun iv s₂ => wpAny M A (getItem ov iv) (fun old s₃ => wpAny M A (eval value env) (fun v s₄ => wpAny M A (inplaceOp op old v) (fun new s₅ => wpAny M A (setItem ov iv new) (fun _ s₆ => wpAny M A (execs rest env) Q E s₆) E s₅) E s₄) E s₃) E s₂) E s₁) E s)
    (hi : ∀ ov iv new, augStore i ov iv new = (do holding [new, ov, iv] (setItem ov iv new); release [new, ov, iv] []; pure .next) := by intros; rfl) : wpAny M A (execs (.AugAssign (.Subscript o i tpos) op value pos :: rest) env) Q E s := wpAny_execs_cons (wpAny_AugAssign_SubscriptAny H hi)
theorem g_dict {a : Addr} {o : Obj} {kvs : List (Int × Value)} {k : Int} {u : Tok} {v : Value} {Q : Value → Shared → Prop} (e : h.get? a = some o) (D : DO prog w o kvs) (hv : valueAt kvs k = some v) (H : ∀ t', Q v ⟨h, g, d, t', os⟩) : wpAny (model prog w) A (getItem (.ref a) (.int k u)) Q E ⟨h, g, d, t, os⟩ := wpAny_getItem_of (isI k u) (dof e D).mapOf hv (H _)
theorem sub_int_tuple : isSubtype (.type "int") (.type "tuple") = pure false := by kernel_rfl
theorem sub_tuple_tuple : isSubtype (.type "tuple") (.type "tuple") = pure true := by kernel_rfl
theorem ty_tuple : typeOf (.type "tuple") = pure (.type "type") := by kernel_rfl
theorem b_isin_int {k : Int} {u : Tok} {Q : Value → Shared → Prop} (H : ∀ t', Q (.bool false) ⟨h, g, d, t', os⟩) : wpAny (model prog w) A (call (.builtin "isinstance") [.int k u, .type "tuple"]) Q E ⟨h, g, d, t, os⟩ := by
  refine call_isinstance (isinstance_false_int (by decide) ty_tuple sub_int_tuple) ?_
  exact H _
theorem b_isin_tup {a : Addr} {o : Obj} {Q : Value → Shared → Prop} (e : h.get? a = some o) (hc : o.cls = .type "tuple") (H : Q (.bool true) ⟨h, g, d, t, os⟩) : wpAny (model prog w) A (call (.builtin "isinstance") [.ref a, .type "tuple"]) Q E ⟨h, g, d, t, os⟩ :=
  call_isinstance_yes ⟨o, e, hc⟩ ty_tuple sub_tuple_tuple H
theorem o_iadd {a b : Int} {u v : Tok} {Q : Value → Shared → Prop} (H : ∀ u t', Q (.int (a + b) u) ⟨h, g, d, t', os⟩) : wpAny (model prog w) A (inplaceOp .Add (.int a u) (.int b v)) Q E ⟨h, g, d, t, os⟩ := AutoIntOps.iadd_0 (H _ _)
theorem t_val {e : Expr} {whole : Sem Value} {Q : Bool → Shared → Prop} (H : wpAny M A whole (fun v s₁ => ∃ b, v = .bool b ∧ Q b s₁) E s) (he : isTrue e env whole = (do let v ← whole; standAt e.pos; holding [v] (truthy v)) := by rfl) : wpAny M A (isTrue e env whole) Q E s :=
  wpAny_isTrue_value (wpAny_mono H (fun v s₁ q => by obtain ⟨b, rfl, q⟩ := q; exact wpAny_truthy_bool q) fun _ _ e => e) he
end
end Mine
end
section
open PySem PySem.W PyProof.Rows PySem.Spec PySem.Calls
namespace Mine
/-- a state whose next token is not 0 keeps that -/
theorem posT {α : Type} {M : Model} {A : Around} {tr : Sem α} {Q : α → Shared → Prop} {E : Value → Shared → Prop} {h : Heap} {g : Array GenState} {d : Drawn} {t : Nat} {os : OsState} (H : wpAny M A tr (fun a s' => 0 < s'.toks → Q a s') (fun e s' => 0 < s'.toks → E e s') ⟨h, g, d, t + 1, os⟩) : wpAny M A tr Q E ⟨h, g, d, t + 1, os⟩ :=
  wpAny_with_toks (n := 1) (Nat.succ_le_succ (Nat.zero_le t)) H
theorem o_inP {prog : Program} {w : World} {A : Around} {E : Value → Shared → Prop} {h : Heap} {g : Array GenState} {d : Drawn} {t : Nat} {os : OsState} {a : Addr} {o : Obj} {kvs : List (Int × Value)} {k : Int} {u : Tok} {Q : Value → Shared → Prop} (e : h.get? a = some o) (D : DO prog w o kvs) (hs : (a == sysModules) = false) (H : ∀ t', Q (.bool (valueAt kvs k).isSome) ⟨h, g, d, t' + 1, os⟩) :
    wpAny (model prog w) A (compareOp .In (.int k u) (.ref a)) Q E ⟨h, g, d, t + 1, os⟩ := posT <| o_in e D hs fun t' hp => by
  obtain ⟨n, rfl⟩ : ∃ n, t' = n + 1 := ⟨t' - 1, by have hp : 0 < t' := hp; omega⟩
  exact H n
/-- a book's entry: an int, or a pair of an int and quarters -/
def VB (tup : Bool) (b : Heap) (x : Int × Nat) (v : Value) : Prop := match tup with
  | false => ∃ u, v = .int x.1 u
  | true => ∃ (a : Addr) (u1 u2 : Tok), v = .ref a ∧ b.get? a = some (tpO [.int x.1 u1, .float (due x.2 2) (u2 + 1)])
theorem VB.mono {tup : Bool} {b b' : Heap} {x : Int × Nat} {v : Value} (h : VB tup b x v) (le : Le b b') : VB tup b' x v := by
  cases tup with
  | false => exact h
  | true => obtain ⟨a, u1, u2, e, q⟩ := h; exact ⟨a, u1, u2, e, le _ _ q⟩
def BkAt (tup : Bool) (b : Heap) (kvs : List (Int × Value)) (f : Int → Option (Int × Nat)) : Prop := ∀ k, match f k with
  | none => valueAt kvs k = none
  | some x => ∃ v, valueAt kvs k = some v ∧ VB tup b x v
theorem BkAt.mono {tup : Bool} {b b' : Heap} {kvs : List (Int × Value)} {f : Int → Option (Int × Nat)} (h : BkAt tup b kvs f) (le : Le b b') : BkAt tup b' kvs f := fun k => by
  have := h k
  cases q : f k with
  | none => rw [q] at this; exact this
  | some x => rw [q] at this; obtain ⟨v, e, r⟩ := this; exact ⟨v, e, r.mono le⟩
theorem BkAt.none {tup : Bool} {b : Heap} {kvs : List (Int × Value)} {f : Int → Option (Int × Nat)} (h : BkAt tup b kvs f) {k : Int} (e : f k = none) : valueAt kvs k = none := by have := h k; rw [e] at this; exact this
theorem BkAt.some {tup : Bool} {b : Heap} {kvs : List (Int × Value)} {f : Int → Option (Int × Nat)} (h : BkAt tup b kvs f) {k : Int} {x : Int × Nat} (e : f k = some x) : ∃ v, valueAt kvs k = some v ∧ VB tup b x v := by have := h k; rw [e] at this; exact this
theorem BkAt.of {tup : Bool} {b : Heap} {kvs : List (Int × Value)} {f : Int → Option (Int × Nat)} (h : BkAt tup b kvs f) {k : Int} {v : Value} (e : valueAt kvs k = .some v) : ∃ x, f k = .some x ∧ VB tup b x v := by
  cases q : f k with
  | none => rw [h.none q] at e; cases e
  | some x =>
    obtain ⟨v', e', r⟩ := h.some q
    rw [e] at e'; cases e'
    exact ⟨x, rfl, r⟩
/-- two books put together -/
def addB (ft fs : Int → Option (Int × Nat)) (k : Int) : Option (Int × Nat) := match fs k, ft k with
  | none, o => o
  | some y, none => some y
  | some y, some x => some (y.1 + x.1, x.2 + y.2)
/-- the expression of add_callers' genexpr, in its tuple(..) -/
noncomputable def genX (w : World) : Option Expr := match (fdAt w 106).body with
  | .stmts [_, _, .For _ _ [.If _ [.If _ [.Assign _ e _] _ _] _ _] _ _, _] => some e
  | _ => none
/-- the table of add_callers' genexpr -/
def TabG (b : Heap) (o : Obj) : Prop := ∃ ps, o = tabObj ps ∧ (ps = #[] ∨ ∃ c, ps = #[rawInt 140, rawInt 42, .ref c] ∧ b.CodeRec (.ref c) "add_callers.<locals>.<genexpr>")
def GenOK (prog : Program) (w : World) : Prop := ∀ (e : Expr) L (b : Heap) (m : Loc) ns h g d t os tab a oN kvs k u ca y x v, genX w = some e → Gd w b →
  Sx b L m ((101, tab) :: (a, oN) :: ns) h → TabG b tab → DO prog w oN kvs → List.lookup ("new_callers" : Str) m = some (Value.ref a) → List.lookup ("func" : Str) m = some (Value.int k u) → List.lookup ("caller" : Str) m = some (Value.ref ca) →
  VB true b y (.ref ca) → valueAt kvs k = some v → VB true b x v → y.2 < 5 → x.2 < 41 → AllBare g → ∀ Q E,
  (∀ (b' : Heap) (g' : Array GenState) (h' : Heap) (t' : Nat) (tab' : Obj) (r : Addr) (u1 u2 : Tok), AllBare g' → Le b b' → TabG b' tab' → Sx b' L m ((101, tab') :: (a, oN) :: ns) h' → b'.get? r = some (tpO [.int (y.1 + x.1) u1, .float (due ((x.2 + y.2 : Nat) : Int) 2) (u2 + 1)]) → Q (.ref r) ⟨h', g', d, t', os⟩) →
  wpAny (model prog w) (Ar 18 43) (eval e (callEnv (fdAt w 106) L 106)) Q E ⟨h, g, d, t + 1, os⟩
theorem gn_isin (w : World) : glb w "isinstance" = none := rfl
theorem bi_isin (w : World) : bit w "isinstance" = some (.builtin "isinstance") := rfl
theorem gn_tuple (w : World) : glb w "tuple" = none := rfl
theorem bi_tuple (w : World) : bit w "tuple" = some (.type "tuple") := rfl
section
variable {prog : Program} {w : World} {h h₀ : Heap} {g : Array GenState} {d : Drawn} {t : Nat} {os : OsState} {Q E : Value → Shared → Prop}
theorem count_spec {a : Addr} {o : Obj} {kvs : List (Int × Value)} (G : Gd w h) (e : h.get? a = some o) (D : DO prog w o kvs) (ns : (a == sysModules) = false) (ps : List Int) (hp : kvs.length = ps.length ∧ ∀ (i : Nat) (k : Int) (v : Value), kvs[i]? = some (k, v) → ∃ n u, ps[i]? = some n ∧ v = Value.int n u)
    (H : ∀ h' t' u, Le h h' → Q (.int ps.sum u) ⟨h', g, d, t', os⟩) : wpAny (model prog w) (Ar 17 40) (call (.ref 113) [.ref a]) Q E ⟨h, g, d, t, os⟩ := by
  refine enter (binds := [("callers", .ref a)]) G rfl (by decide) rfl rfl rfl rfl rfl (by decide) (by decide) rfl (BindsTo.of_eq rfl) (nocell rfl) (locs rfl) ?_ rfl rfl rfl
  intro L h1 t1 S
  refine x_set <| c_int fun u0 t2 => st_loc S fun h2 t3 S => ?_
  obtain ⟨es, ep, hex, hd, hrest⟩ := id D
  refine x_for <| e_meth0 F.plainAttrs_dict F.slot_dict_values F.type_dict_values <| n_loc S rfl ⟨a, o, rfl, S.keep _ _ e, hex.1, hex.2.1, b_values (S.keep _ _ e) D ns ?_⟩
  refine wpAny_pyIter_values (s := ⟨_, g, d, _, os⟩) (knd := intKind prog w) (d := a) (kvs := kvs) (ep := ep) ⟨_, Heap.get?_push_size _ rfl, rfl, rfl⟩ (dat (Heap.get?_push_of_some _ (S.keep _ _ e)) D hd) ?_
  have S := (S.alloc { cls := .type "dict_values", data := .fields #[.ref a] }).drop (ns' := []) (List.nil_sublist _)
  have S := S.forget (m' := [("callers", .ref a), ("nc", .int (ps.take 0).sum u0)]) (by simp only [List.forall_mem_cons]; exact ⟨rfl, rfl, fun _ hp => nomatch hp⟩)
  refine loop_for (it_values rfl e D hd) (fun i b g' m ns => g' = g ∧ b = h ∧ ns = [] ∧ ∃ u, m = ([("callers", .ref a), ("nc", .int (ps.take i).sum u)] : Loc)) (S.alloc _) ⟨rfl, rfl⟩ ⟨rfl, rfl, rfl, _, rfl⟩ ?_ ?_
  · rintro i v b g' m ns' h3 t3 it ob hi ⟨k, hk⟩ - ⟨rfl, rfl, rfl, u1, rfl⟩ S
    obtain ⟨n, u2, en, rfl⟩ := hp.2 i k v hk
    refine as1 S fun h4 t4 S => ?_
    refine x_aug <| l_loc S rfl <| n_loc S rfl <| o_iadd fun u3 t5 => st_loc S fun h5 t6 S => x_nil (.inl ⟨rfl, _, _, _, [], _, _, rfl, Le.refl _, ⟨rfl, rfl, rfl, u3, rfl⟩, S.forget ?_⟩)
    simp only [List.forall_mem_cons]
    refine ⟨rfl, ?_, fun _ hp => nomatch hp⟩
    rw [List.take_succ, en]
    simp only [Option.toList, List.sum_append, List.sum_cons, List.sum_nil, Int.add_zero]
    rfl
  · rintro b g' m ns' h3 t3 - ⟨rfl, rfl, rfl, u1, rfl⟩ S
    refine x_ret <| n_loc S rfl ?_
    rw [hp.1, List.take_length]
    exact H _ _ _ S.keep
end
end Mine
end
section
open PySem PySem.W PyProof.Rows PySem.Spec PySem.Calls
namespace Mine
theorem BkAt.put {tup : Bool} {b : Heap} {kvs : List (Int × Value)} {f f' : Int → Option (Int × Nat)} (B : BkAt tup b kvs f) {k : Int} {x : Int × Nat} {v : Value} (hv : VB tup b x v) (hf : ∀ k', f' k' = if k' = k then .some x else f k') : BkAt tup b (stored kvs k v) f' := by
  intro k'
  rw [hf k', valueAt_stored]
  by_cases q : k' = k
  · rw [if_pos q, if_pos q]; exact ⟨v, rfl, hv⟩
  · rw [if_neg q, if_neg q]; exact B k'
def partB (ks : List (Int × Value)) (fs : Int → Option (Int × Nat)) (i : Nat) (k : Int) : Option (Int × Nat) := if valueAt (ks.take i) k = none then none else fs k
theorem TabG.mono {b b' : Heap} {o : Obj} (T : TabG b o) (le : Le b b') : TabG b' o := by
  obtain ⟨ps, e, q⟩ := T
  refine ⟨ps, e, ?_⟩
  rcases q with q | ⟨c, q, r⟩
  · exact .inl q
  · exact .inr ⟨c, q, r.keeps le⟩
section
variable {prog : Program} {w : World} {h h₀ : Heap} {g : Array GenState} {d : Drawn} {t : Nat} {os : OsState} {Q E : Value → Shared → Prop}
theorem add_spec (GX : GenOK prog w) (hG : AllBare g) (tup : Bool) (G : Gd w h₀) (le : Le h₀ h) {tab : Obj} (e101 : h.get? 101 = some tab) (n101 : h₀.get? 101 = none) (TG : TabG h₀ tab) {ta sa : Addr} {oT oS : Obj} {kt ks : List (Int × Value)} {ft fs : Int → Option (Int × Nat)}
    (eT : h₀.get? ta = some oT) (DT : DO prog w oT kt) (nT : (ta == sysModules) = false) (eS : h₀.get? sa = some oS) (DS : DO prog w oS ks) (nS : (sa == sysModules) = false) (BT : BkAt tup h₀ kt ft) (BS : BkAt tup h₀ ks fs)
    (hb : tup = true → (∀ k y, fs k = some y → y.2 < 5) ∧ ∀ k x, ft k = some x → x.2 < 41) (hl : kt.length + ks.length < 900)
    (H : ∀ b g' h' t' tab' r oR kr, AllBare g' → Ex h₀ (h.hide 101) b h' → h'.get? 101 = some tab' → b.get? 101 = none → TabG b tab' → b.get? r = some oR → h₀.get? r = none → DO prog w oR kr → BkAt tup b kr (addB ft fs) → kr.length ≤ kt.length + ks.length → Q (.ref r) ⟨h', g', d, t', os⟩) :
    wpAny (model prog w) (Ar 17 40) (call (.ref 106) [.ref ta, .ref sa]) Q E ⟨h, g, d, t, os⟩ := by
  have G' := G.mono le
  refine enterN (h₀ := h₀) (ns := (101, tab) :: exl h₀ (h.hide 101)) (binds := [("target", .ref ta), ("source", .ref sa)]) le ?_ ?_ (G' 106 _ rfl (by decide)) rfl G'.c (G'.code rfl rfl rfl rfl (by decide)) (by decide) rfl (BindsTo.of_eq rfl) (nocell rfl) (locs rfl) ?_ rfl rfl rfl
  · intro p hp
    rcases List.mem_cons.mp hp with rfl | hp
    · exact ⟨e101, n101⟩
    · exact ⟨Heap.of_hide (mem_exl.mp hp).1, (mem_exl.mp hp).2⟩
  · refine List.nodup_cons.mpr ⟨fun q => ?_, nodup_exl _ _⟩
    obtain ⟨p, hp, e⟩ := List.mem_map.mp q
    have e : p.1 = 101 := e
    have := (mem_exl.mp hp).1
    rw [e, Heap.hide_self] at this; cases this
  intro L h1 t1 S
  refine x_set <| wpAny_Dict_empty <| st_loc (S.alloc dtO) fun h2 t2 S => ?_
  generalize ha : h1.objs.size = a at S
  have na : h₀.get? a = none := (S.new _ (.head _)).2.2
  have nsA := nosys G na
  have S := S.forget (m' := [("target", .ref ta), ("source", .ref sa), ("new_callers", .ref a)]) (by simp only [List.forall_mem_cons]; exact ⟨rfl, rfl, rfl, fun _ hp => nomatch hp⟩)
  obtain ⟨esT, epT, hexT, hdT, hrT⟩ := id DT
  obtain ⟨esS, epS, hexS, hdS, hrS⟩ := id DS
  refine x_for <| e_meth0 F.plainAttrs_dict F.slot_dict_items F.type_dict_items <| n_loc S rfl ⟨ta, oT, rfl, S.keep _ _ eT, hexT.1, hexT.2.1, b_items (S.keep _ _ eT) DT nT ?_⟩
  refine wpAny_pyIter_items (s := ⟨_, g, d, _, os⟩) (knd := intKind prog w) (d := ta) (kvs := kt) (ep := epT) ⟨_, Heap.get?_push_size _ rfl, rfl, rfl⟩ (dat (Heap.get?_push_of_some _ (S.keep _ _ eT)) DT hdT) ?_
  have S := (S.alloc { cls := .type "dict_items", data := .fields #[.ref ta] }).drop (List.sublist_cons_self _ _)
  refine loop_for (it_items rfl eT DT hdT) (fun i b g' m ns => g' = g ∧ b = h₀ ∧ m = ([("target", .ref ta), ("source", .ref sa), ("new_callers", .ref a)] : Loc) ∧ ∃ o kvs', ns = (a, o) :: (101, tab) :: exl h₀ (h.hide 101) ∧ DO prog w o kvs' ∧ (∀ k, valueAt kvs' k = valueAt (kt.take i) k) ∧ kvs'.length ≤ i) (S.alloc _) ⟨_, _, rfl⟩ ⟨rfl, rfl, rfl, _, [], rfl, do_empty, fun _ => rfl, Nat.le_refl _⟩ ?_ ?_
  · rintro i v b g' m ns h3 t3 it ob hi ⟨k, x, u, c, hkx, rfl, T⟩ - ⟨rfl, rfl, rfl, o, kvs', rfl, D, hv, hz⟩ S
    refine ast rfl T S fun h4 S _ => ao_cons <| as1 S fun h5 t5 S => ao_cons <| as1 S fun h6 t6 S => ao_nil ?_
    refine x_setI <| n_loc S rfl <| n_loc S rfl <| n_loc S rfl <| s_dict (S.reorder (List.Perm.swap _ _ _)) D (by omega) fun h7 t7 o' D' S => x_nil (.inl ⟨rfl, _, _, _, _, _, _, rfl, Le.refl _, ⟨rfl, rfl, rfl, o', _, rfl, D', ?_, ?_⟩, (S.reorder (List.Perm.swap _ _ _)).forget ?_⟩)
    · intro k'
      rw [valueAt_stored, hv, valueAt_takeS hkx k' (valueAt_take hrT.2.2 hkx)]
    · have := stored_length_le kvs' k x; omega
    · simp only [List.forall_mem_cons]; exact ⟨rfl, rfl, rfl, fun _ hp => nomatch hp⟩
  rintro b g' m ns h3 t3 - ⟨rfl, rfl, rfl, o, kvs', rfl, D, hv, hz⟩ S
  rw [List.take_length] at hv
  have B : BkAt tup b kvs' ft := fun k => by have := BT k; rw [hv k]; exact this
  have bp : ∀ k, addB ft (partB ks fs 0) k = ft k := fun k => rfl
  clear hv
  refine x_for <| e_meth0 F.plainAttrs_dict F.slot_dict_items F.type_dict_items <| n_loc S rfl ⟨sa, oS, rfl, S.keep _ _ eS, hexS.1, hexS.2.1, b_items (S.keep _ _ eS) DS nS ?_⟩
  refine wpAny_pyIter_items (s := ⟨_, g', d, _, os⟩) (knd := intKind prog w) (d := sa) (kvs := ks) (ep := epS) ⟨_, Heap.get?_push_size _ rfl, rfl, rfl⟩ (dat (Heap.get?_push_of_some _ (S.keep _ _ eS)) DS hdS) ?_
  have S := (S.alloc { cls := .type "dict_items", data := .fields #[.ref sa] }).drop (List.sublist_cons_self _ _)
  have hz0 : kvs'.length ≤ kt.length + 0 := hz
  refine loop_for (it_items rfl eS DS hdS) (fun i b' g' m ns => AllBare g' ∧ Le b b' ∧ m = ([("target", .ref ta), ("source", .ref sa), ("new_callers", .ref a)] : Loc) ∧ ∃ o kvs' tab', ns = (a, o) :: (101, tab') :: exl b (h.hide 101) ∧ DO prog w o kvs' ∧ TabG b' tab' ∧ BkAt tup b' kvs' (addB ft (partB ks fs i)) ∧ kvs'.length ≤ kt.length + i) (S.alloc _) ⟨_, _, rfl⟩ ⟨hG, Le.refl _, rfl, _, _, tab, rfl, D, TG, B, hz0⟩ ?_ ?_
  · clear B hz hz0 D
    rintro i v b' g'' m ns h4 t4 it ob hi ⟨k, x, u, c, hkx, rfl, T⟩ - ⟨hG', leb, rfl, o, kvs', tab', rfl, D, TG', B, hz⟩ S
    have hpn : valueAt (ks.take i) k = none := valueAt_take hrS.2.2 hkx
    obtain ⟨y, ey, Vy⟩ := BS.of (valueAt_of_get hrS.2.2 hkx)
    have Vy := Vy.mono leb
    have pk : partB ks fs i k = none := by unfold partB; rw [if_pos hpn]
    have ak : addB ft (partB ks fs i) k = ft k := by unfold addB; rw [pk]
    have step : ∀ z, (match ft k with | none => some y | some x => some (y.1 + x.1, x.2 + y.2)) = some z → ∀ k', addB ft (partB ks fs (i + 1)) k' = if k' = k then some z else addB ft (partB ks fs i) k' := by
      intro z hz k'
      have e1 : partB ks fs (i + 1) k' = if k' = k then some y else partB ks fs i k' := by
        unfold partB
        rw [valueAt_takeS hkx k' hpn]
        by_cases q : k' = k
        · subst q; simp [ey]
        · simp [q]
      unfold addB
      rw [e1]
      by_cases q : k' = k
      · subst q; rw [if_pos rfl, if_pos rfl, ← hz]; cases ft k' <;> rfl
      · rw [if_neg q, if_neg q]
    refine ast rfl T S fun h5 S _ => ao_cons <| as1 S fun h6 t6 S => ao_cons <| as1 S fun h7 t7 S => ao_nil ?_
    have fin : ∀ {h8 : Heap} {b2 : Heap} {tab2 : Obj} {g8 : Array GenState} (t8 : Nat) (z : Int × Nat) (vz : Value) (o' : Obj) (m8 : Loc), AllBare g8 → Le b' b2 → TabG b2 tab2 → VB tup b2 z vz → (match ft k with | none => some y | some x => some (y.1 + x.1, x.2 + y.2)) = some z → DO prog w o' (stored kvs' k vz) → (∀ p ∈ ([("target", .ref ta), ("source", .ref sa), ("new_callers", .ref a)] : Loc), m8.lookup p.1 = some p.2) →
        Sx b2 L m8 ((a, o') :: (it, ob) :: (101, tab2) :: exl b (h.hide 101)) h8 →
        ∃ b3 g3 m3 ns3 h3 t3, (⟨h8, g8, d, t8, os⟩ : Shared) = ⟨h3, g3, d, t3, os⟩ ∧ Le b' b3 ∧ (AllBare g3 ∧ Le b b3 ∧ m3 = ([("target", .ref ta), ("source", .ref sa), ("new_callers", .ref a)] : Loc) ∧ ∃ o kvs' tab', ns3 = (a, o) :: (101, tab') :: exl b (h.hide 101) ∧ DO prog w o kvs' ∧ TabG b3 tab' ∧ BkAt tup b3 kvs' (addB ft (partB ks fs (i + 1))) ∧ kvs'.length ≤ kt.length + (i + 1)) ∧ Sx b3 L m3 ((it, ob) :: ns3) h3 := by
      intro h8 b2 tab2 g8 t8 z vz o' m8 hG8 l2 T2 V2 e2 D2 hm S8
      refine ⟨b2, g8, _, _, h8, t8, rfl, l2, ⟨hG8, leb.trans l2, rfl, o', _, tab2, rfl, D2, T2, (B.mono l2).put V2 (step z e2), ?_⟩, (S8.reorder (List.Perm.swap _ _ _)).forget hm⟩
      have := stored_length_le kvs' k vz; omega
    have G2 := (G.mono leb).mono S.keep
    refine x_if <| t_cmp <| n_loc S rfl <| n_loc S rfl <| o_inP (S.new (a, o) (.tail _ (.head _))).1 D nsA fun t8 => ⟨_, rfl, fun hb1 => ?_, fun hb1 => ?_⟩
    · obtain ⟨v, ev⟩ := Option.isSome_iff_exists.mp hb1
      obtain ⟨z, ez, Vz⟩ := B.of ev
      rw [ak] at ez
      cases tup with
      | false =>
        obtain ⟨uy, rfl⟩ := Vy
        obtain ⟨uz, rfl⟩ := Vz
        refine x_if <| t_val <| e_callB <| n_bit G2 (gn_isin w) (bi_isin w) ⟨rfl, a_cons <| n_loc S rfl <| a_cons <| n_bit G2 (gn_tuple w) (bi_tuple w) <| a_nil <| b_isin_int fun t9 => ⟨_, rfl, (fun hb2 => by cases hb2), fun _ => ?_⟩⟩
        refine x_augI <| n_loc S rfl <| n_loc S rfl <| g_dict (S.new (a, o) (.tail _ (.head _))).1 D ev fun t10 => n_loc S rfl <| o_iadd fun u3 t11 => s_dict (S.reorder (List.Perm.swap _ _ _)) D (by omega) fun h8 t12 o' D' S => x_nil (.inl ⟨rfl, fin _ (y.1 + z.1, z.2 + y.2) _ o' _ hG' (Le.refl _) TG' ⟨u3, ?_⟩ (by rw [ez]) D' ?_ S⟩)
        · rw [Int.add_comm]
        · simp only [List.forall_mem_cons]; exact ⟨rfl, rfl, rfl, fun _ hp => nomatch hp⟩
      | true =>
        obtain ⟨ca, uy1, uy2, rfl, eca⟩ := id Vy
        refine x_if <| t_val <| e_callB <| n_bit G2 (gn_isin w) (bi_isin w) ⟨rfl, a_cons <| n_loc S rfl <| a_cons <| n_bit G2 (gn_tuple w) (bi_tuple w) <| a_nil <| b_isin_tup (S.keep _ _ eca) rfl ⟨_, rfl, fun _ => ?_, fun hb2 => by cases hb2⟩⟩
        have pm : ((101, tab') :: (a, o) :: (it, ob) :: exl b (h.hide 101)).Perm ((it, ob) :: (a, o) :: (101, tab') :: exl b (h.hide 101)) :=
          ((List.Perm.swap (it, ob) (a, o) _).cons _).trans ((List.Perm.swap (it, ob) (101, tab') _).trans ((List.Perm.swap (a, o) (101, tab') _).cons _))
        refine x_setI <| ar_le (GX _ L b' _ _ _ _ _ _ _ tab' a o kvs' k u ca y z v rfl (G.mono leb) (S.reorder pm) TG' D rfl rfl rfl Vy ev Vz ((hb rfl).1 k y ey) ((hb rfl).2 k z ez) hG' _ _ fun b2 g2 h8 t9 tab2 r u3 u4 hG2 l2 T2 S er => ?_) rfl (by decide) (by decide)
        have pm2 : ((a, o) :: (it, ob) :: (101, tab2) :: exl b (h.hide 101)).Perm ((101, tab2) :: (a, o) :: (it, ob) :: exl b (h.hide 101)) :=
          ((List.Perm.swap (101, tab2) (it, ob) _).cons _).trans (List.Perm.swap (101, tab2) (a, o) _)
        refine n_loc S rfl <| n_loc S rfl <| s_dict (S.reorder pm2) D (by omega) fun h9 t10 o' D' S => x_nil (.inl ⟨rfl, fin _ (y.1 + z.1, z.2 + y.2) _ o' _ hG2 l2 T2 ⟨r, u3, u4, rfl, er⟩ (by rw [ez]) D' ?_ S⟩)
        simp only [List.forall_mem_cons]; exact ⟨rfl, rfl, rfl, fun _ hp => nomatch hp⟩
    · have en : ft k = none := by
        cases q : ft k with
        | none => rfl
        | some z =>
          obtain ⟨v, ev, _⟩ := B.some (ak.trans q)
          rw [ev] at hb1; cases hb1
      refine x_setI <| n_loc S rfl <| n_loc S rfl <| n_loc S rfl <| s_dict (S.reorder (List.Perm.swap _ _ _)) D (by omega) fun h8 t9 o' D' S => x_nil (.inl ⟨rfl, fin _ y _ o' _ hG' (Le.refl _) TG' Vy (by rw [en]) D' ?_ S⟩)
      simp only [List.forall_mem_cons]; exact ⟨rfl, rfl, rfl, fun _ hp => nomatch hp⟩
  · rintro b2 g2 m2 ns2 h4 t4 - ⟨hG2, leb, rfl, o2, kvs2, tab2, rfl, D2, TG2, B2, hz2⟩ S
    refine x_ret <| n_loc S rfl ?_
    obtain ⟨b3, l1, l2, eb3, S3⟩ := S.settle
    have Z := S3.new (101, tab2) (.head _)
    refine H b3 _ _ _ tab2 a o2 kvs2 hG2 (S3.toEx (leb.trans l1) fun p hp => .tail _ hp) Z.1 Z.2.2 (TG2.mono l1) eb3 na D2 ?_ hz2
    have e : ∀ k, addB ft (partB ks fs ks.length) k = addB ft fs k := fun k => by
      have : partB ks fs ks.length k = fs k := by
        unfold partB
        rw [List.take_length]
        split
        · rename_i q
          cases r : fs k with
          | none => rfl
          | some y => obtain ⟨v, ev, _⟩ := BS.some r; rw [ev] at q; cases q
        · rfl
      unfold addB; rw [this]
    intro k
    have := (B2.mono l1) k
    rw [e k] at this
    exact this
end
end Mine
end
section
open PySem PySem.W PyProof.Rows PySem.Spec PySem.Calls
namespace Mine
abbrev slO (a b c : Value) : Obj := { cls := .type "slice", data := .fields #[a, b, c] }
section
variable {prog : Program} {w : World} {A : Around} {E : Value → Shared → Prop} {s : Shared} {h : Heap} {g : Array GenState} {d : Drawn} {t : Nat} {os : OsState} {env : Env} {pos p : Pos} {Q : Value → Shared → Prop} {value lower upper : Expr}
theorem e_from (H : wpAny (model prog w) A (eval value env) (fun o s₁ => wpAny (model prog w) A (eval lower env) (fun vl s₂ => ∃ l xs k u h g d t os, o = .ref l ∧ vl = .int (k : Nat) u ∧ s₂ = ⟨h, g, d, t, os⟩ ∧ h.IsList l (List.toArray xs) ∧ xs.length < 1000 ∧
      Q (.ref (h.objs.size + 1)) ⟨(h.push (slO (.int (k : Nat) u) .none .none)).push (lsO (xs.drop k) 0), g, d, t, os⟩) E s₁) E s) (ht : ∀ o r, letTemporaryGo value o r = pure () := by intro _ _; rfl) :
    wpAny (model prog w) A (eval (.Subscript value (.Slice (some lower) none none p) pos) env) Q E s := by
  refine wpAny_Subscript_list_slice (wpAny_mono H (fun o s₁ q => wpAny_mono q (fun vl s₂ q => ?_) fun _ _ e => e) fun _ _ e => e) ht
  obtain ⟨l, xs, k, u, h, g, d, t, os, rfl, rfl, rfl, hl, hz, hQ⟩ := q
  refine wpAny_pure ⟨l, _, some (k : Int), none, rfl, hl, by rw [List.size_toArray, sizeLine_eq]; omega, .int _ _, .none, ?_⟩
  rw [slicePick_from']
  exact hQ
theorem e_upto (H : wpAny (model prog w) A (eval value env) (fun o s₁ => wpAny (model prog w) A (eval upper env) (fun vl s₂ => ∃ l xs k u h g d t os, o = .ref l ∧ vl = .int (k : Nat) u ∧ s₂ = ⟨h, g, d, t, os⟩ ∧ h.IsList l (List.toArray xs) ∧ xs.length < 1000 ∧
      Q (.ref (h.objs.size + 1)) ⟨(h.push (slO .none (.int (k : Nat) u) .none)).push (lsO (xs.take k) 0), g, d, t, os⟩) E s₁) E s) (ht : ∀ o r, letTemporaryGo value o r = pure () := by intro _ _; rfl) :
    wpAny (model prog w) A (eval (.Subscript value (.Slice none (some upper) none p) pos) env) Q E s := by
  refine wpAny_Subscript_list_slice (wpAny_mono H (fun o s₁ q => wpAny_pure (wpAny_mono q (fun vl s₂ q => ?_) fun _ _ e => e)) fun _ _ e => e) ht
  obtain ⟨l, xs, k, u, h, g, d, t, os, rfl, rfl, rfl, hl, hz, hQ⟩ := q
  refine ⟨l, _, none, some (k : Int), rfl, hl, by rw [List.size_toArray, sizeLine_eq]; omega, .none, .int _ _, ?_⟩
  rw [slicePick_upto']
  exact hQ
theorem e_rev {st : Expr} (H : wpAny (model prog w) A (eval value env) (fun o s₁ => wpAny (model prog w) A (eval st env) (fun vl s₂ => ∃ l xs u h g d t os, o = .ref l ∧ vl = .int (-1) u ∧ s₂ = ⟨h, g, d, t, os⟩ ∧ h.IsList l (List.toArray xs) ∧ xs.length < 1000 ∧
      Q (.ref (h.objs.size + 1)) ⟨(h.push (slO .none .none (.int (-1) u))).push (lsO xs.reverse 0), g, d, t, os⟩) E s₁) E s) (ht : ∀ o r, letTemporaryGo value o r = pure () := by intro _ _; rfl) :
    wpAny (model prog w) A (eval (.Subscript value (.Slice none none (some st) p) pos) env) Q E s := by
  refine wpAny_Subscript_Slice_step (T := "list") list_getitem_lookup (wpAny_mono H (fun o s₁ q => wpAny_Slice (wpAny_pure (wpAny_pure (wpAny_mono q (fun vl s₂ q => ?_) fun _ _ e => e)))) fun _ _ e => e) ht
  obtain ⟨l, xs, u, h, g, d, t, os, rfl, rfl, rfl, hl, hz, hQ⟩ := q
  refine ⟨(hl.push _).typeIs, wpAny_getItem_list_slice (lo := none) (hi := none) (st := some (-1)) (hl.push _) (Heap.IsSliceOf.new ..) .none .none (.int _ _) (by decide) ?_ (by rw [List.size_toArray, sizeLine_eq]; omega)⟩
  rw [krv_pick]
  show Q (.ref (h.push _).objs.size) _
  rw [Heap.size_push]
  exact hQ
theorem o_cat {l b : Addr} {xs ys : List Value} {n m : Nat} (hl : h.get? l = some (lsO xs n)) (hb : h.get? b = some (lsO ys m)) (hz : xs.length + ys.length < 1000) (H : Q (.ref h.objs.size) ⟨h.push (lsO (xs ++ ys) 0), g, d, t, os⟩) :
    wpAny (model prog w) A (binaryOp .Add (.ref l) (.ref b)) Q E ⟨h, g, d, t, os⟩ := by
  refine PySem.P.add_list (s := ⟨h, g, d, t, os⟩) hl hb ?_ (by rw [List.size_toArray, List.size_toArray, sizeLine_eq]; omega)
  have e : xs.toArray ++ ys.toArray = (xs ++ ys).toArray := by simp
  rw [e]
  exact H
end
end Mine
end
section
open PySem PySem.W PyProof.Rows PySem.Spec PySem.Calls
namespace Mine
theorem Name_loc {M : Model} {A : Around} {E : Value → Shared → Prop} {s : Shared} {env : Env} {x : Str} {v : Value} {m : Str → Option Value} {Q : Value → Shared → Prop} {pos : Pos} (hn : s.heap.Ns env.locals m) (hv : m x = some v) (h : Q v s)
    (hk : env.scope.kind = .function := by rfl) (hl : env.kindOf x = some .local := by rfl) (hd : (x == ("__debug__" : Str)) = false := by rfl) : wpAny M A (eval (.Name x pos) env) Q E s := wpAny_Name (wpAny_loadName_local hk hl hn hv h) hd
theorem mk1 (w : World) : makesIn (KN w) 95 = true := rfl
theorem mk2 (w : World) : findIn (KN w) (.ref 95) "__init__" = some (some (.ref 85)) := rfl
theorem mk3 (w : World) : typeIn (KN w) (.ref 85) = some (.type "function") := rfl
theorem mk4 (w : World) : findIn (KN w) (.ref 95) "__setattr__" = some (some (.builtin "object.__setattr__")) := rfl
theorem mk5 (w : World) : plainOver (KN w) 95 = true := rfl
theorem mk6 (w : World) : takerIn (KN w) 95 "comp_select_list" = some none := rfl
theorem mk7 (w : World) : (clsIn (KN w) 95).any (·.hasDict) = true := rfl
end Mine
end
section
open PySem PySem.W PyProof.Rows PySem.Spec PySem.Calls
namespace Mine
/-- the new things of h' are in B -/
abbrev NewIn (h h' B : Heap) : Prop := ∀ a o, h'.get? a = some o → h.objs.size ≤ a → B.get? a = some o
theorem Sx.fresh {b h h' : Heap} {L : Addr} {m : Loc} {ns : List (Addr × Obj)} (S : Sx b L m ns h) (le : Le h h') : ∃ b', Le b b' ∧ Le b' h' ∧ NewIn h h' b' ∧ Sx b' L m ns h' := by
  obtain ⟨b', l1, S', l2, nw⟩ := S.absorb le
  exact ⟨b', l1, l2, fun a o e hs => nw a o (none_of_size h hs) e, S'⟩
theorem Sx.fresh1 {b h h' : Heap} {L c : Addr} {o o' : Obj} {m : Loc} {ns : List (Addr × Obj)} (S : Sx b L m ((c, o) :: ns) h) (le : LeBut c h h') (e : h'.get? c = some o') : ∃ b', Le b b' ∧ Le b' h' ∧ NewIn h h' b' ∧ Sx b' L m ((c, o') :: ns) h' := by
  have S1 := S.turn le e
  have Z := S.new (c, o) (.head _)
  -- what stands outside
  have off : ∀ a o, b.get? a = some o → a ∉ L :: c :: ns.map (·.1) := fun a o e q => by
    rcases List.mem_cons.mp q with q | q
    · rw [q, S.off] at e; cases e
    · obtain ⟨p, hp, q⟩ : ∃ p ∈ (c, o') :: ns, p.1 = a := by
        rcases List.mem_cons.mp q with q | q
        · exact ⟨(c, o'), .head _, q.symm⟩
        · obtain ⟨p, hp, q⟩ := List.mem_map.mp q
          exact ⟨p, .tail _ hp, q⟩
      rw [← q, (S1.new p hp).2.2] at e; cases e
  refine ⟨hideAll h' (L :: c :: ns.map (·.1)), fun a o e => hideAll_get _ (S1.keep a o e) (off a o e), fun _ _ e => of_hideAll _ e, fun a oa ea hs => hideAll_get _ ea fun q => ?_, ⟨S1.loc, fun b o e => of_hideAll _ e, hideAll_none _ (.head _), fun p hp => ⟨(S1.new p hp).1, (S1.new p hp).2.1, hideAll_none _ (.tail _ ?_)⟩, S1.nod⟩⟩
  · have small : a < h.objs.size := by
      rcases List.mem_cons.mp q with q | q
      · obtain ⟨f, hn, _⟩ := S.loc; rw [q]; exact hn.lt
      · rcases List.mem_cons.mp q with q | q
        · rw [q]; exact Heap.lt_size Z.1
        · obtain ⟨p, hp, q⟩ := List.mem_map.mp q
          rw [← q]; exact Heap.lt_size (S.new p (.tail _ hp)).1
    exact absurd small (Nat.not_lt.mpr hs)
  · rcases List.mem_cons.mp hp with rfl | hp
    · exact .head _
    · exact .tail _ (List.mem_map_of_mem hp)
/-- the code table of _law_key, seen from a base -/
def TabB (b : Heap) (o : Obj) : Prop := ∃ ps, o = tabObj ps ∧ (ps = #[] ∨ ∃ c, ps = #[rawInt 167, rawInt 11, .ref c] ∧ b.CodeRec (.ref c) lamQ)
theorem TabB.mono {b b' : Heap} {o : Obj} (T : TabB b o) (le : Le b b') : TabB b' o := by
  obtain ⟨ps, e, q⟩ := T
  refine ⟨ps, e, ?_⟩
  rcases q with q | ⟨c, q, r⟩
  · exact .inl q
  · exact .inr ⟨c, q, r.keeps le⟩
theorem tc_new {prog : Program} {w : World} {h : Heap} {g : Array GenState} {d : Drawn} {t : Nat} {os : OsState} {l : Addr} {Q E : Value → Shared → Prop} (G : Gd w h)
    (H : ∀ h' t' r, Le h h' → (∀ B, NewIn h h' B → IsRule B r l) → Q (.ref r) ⟨h', g, d, t', os⟩) : wpAny (model prog w) (Ar 17 40) (call (.ref 95) [.ref l]) Q E ⟨h, g, d, t, os⟩ := by
  refine wpAny_call (make_core (makes_of G.kn (mk1 w)) (looks_findIn G.kn (mk2 w)) (fun self => bind_fn G.kn self (mk3 w)) (.inl rfl) ?_)
  generalize hh1 : (h.push emptyDict).push (instObj 95 h.objs.size) = h1
  have le1 : Le h h1 := by subst hh1; exact fun b o e => Heap.get?_push_of_some _ (Heap.get?_push_of_some _ e)
  have gx : h1.get? (h.objs.size + 1) = some (instObj 95 h.objs.size) := by
    subst hh1; have := Heap.get?_push_size (h := h.push emptyDict) (o := instObj 95 h.objs.size) rfl; rwa [Heap.size_push] at this
  have gd : h1.get? h.objs.size = some emptyDict := by subst hh1; exact Heap.get?_push_of_some _ (Heap.get?_push_size _ rfl)
  have G1 := G.mono le1
  refine codeAny_call_def (s := ⟨h1, g, d, t, os⟩) (binds := [("self", .ref (h.objs.size + 1)), ("comp_select_list", .ref l)]) (Nat.le_of_ble_eq_true rfl) (G1 85 _ rfl (by decide)) rfl G1.c (G1.code rfl rfl rfl rfl (by decide)) rfl (BindsTo.of_eq rfl) (by decide) (locs rfl) (fun h2 hn hk => ?_)
  have h0L : (h1.hide h.objs.size).objs.size ≤ h1.objs.size := Nat.le_of_eq (Heap.hide_size _ _)
  have lt : h.objs.size < h1.objs.size := Heap.lt_size gd
  have Fr1 : Fr (h1.hide h.objs.size) h1.objs.size h2 _ := ⟨hn, fun b o e => hk b o (Heap.of_hide e), h0L⟩
  have N1 : News (h1.hide h.objs.size) h1.objs.size h2 ([] ++ (h.objs.size, emptyDict) :: []) := by
    intro p hp
    rcases List.mem_singleton.mp hp with rfl
    exact ⟨hk _ _ gd, Nat.ne_of_lt lt, Heap.hide_self ..⟩
  have X2 : (KN w).In h2 := (G1.mono hk).kn
  have I2 : InstAt h2 (h.objs.size + 1) (instObj 95 h.objs.size) 95 (some emptyDict) := ⟨hk _ _ gx, rfl, rfl, hk _ _ gd⟩
  refine wpAny_execs_cons (plainObj_wpAny_Assign_Attribute (Name_loc hn rfl (Name_loc hn rfl ?_)) rfl)
  refine set_plain X2 I2 (mk4 w) (osa_dict (od' := { cls := .type "dict", data := .dict #[⟨PyData.keyHash w.params "comp_select_list", .str "comp_select_list" _, .ref l⟩] 1 }) (es := [⟨PyData.keyHash w.params "comp_select_list", .str "comp_select_list" _, .ref l⟩]) (n := 1) Fr1 N1 X2 I2 rfl (mk5 w) (mk6 w) (mk7 w) rfl (fun _ hp => nomatch hp) (fun _ hp => nomatch hp) rfl rfl (Nat.le_of_ble_eq_true rfl) ?_)
  intro h3 F3 N3
  refine wpAny_execs_nil ⟨rfl, ?_⟩
  have le3 : Le (h1.hide h.objs.size) h3 := F3.keep
  refine H _ _ _ (fun b o e => le3 b o ?_) fun B nw => ⟨h.objs.size, _, _, nw _ _ (le3 _ _ ?_) (Nat.le_succ _), nw _ _ (N3 _ (List.mem_append_right _ (.head _))).1 (Nat.le_refl _)⟩
  · rw [Heap.hide_ne _ (Nat.ne_of_lt (Heap.lt_size e))]; exact le1 b o e
  · rw [Heap.hide_ne _ (Nat.succ_ne_self _)]; exact gx
theorem lk_new {prog : Program} {w : World} {b h : Heap} {g : Array GenState} {d : Drawn} {t : Nat} {os : OsState} {r a : Addr} {tab : Obj} {Q E : Value → Shared → Prop} (G : Gd w h) (e136 : h.get? 136 = some tab) (T : TabB b tab) (leb : Le b h) (nb : b.get? 136 = none)
    (H : ∀ h' t' q tab', LeBut 136 h h' → h'.get? 136 = some tab' → (∀ B, Le b B → NewIn h h' B → TabB B tab' ∧ LamAt w B q r a) → Q (.ref q) ⟨h', g, d, t', os⟩) : wpAny (model prog w) (Ar 17 40) (call (.ref 141) [.ref r, .ref a]) Q E ⟨h, g, d, t, os⟩ := by
  have lt136 : 136 < h.objs.size := Heap.lt_size e136
  refine wpAny_call (codeAny_call_cells (s := ⟨h, g, d, t, os⟩) (binds := [("rule", .ref r), ("new", .ref a)]) (by decide) (G 141 _ rfl (by decide)) rfl G.c (G.code rfl rfl rfl rfl (by decide)) rfl rfl rfl ?_ ?_)
  · intro x hx
    simp only [List.mem_cons, List.not_mem_nil, or_false] at hx
    rcases hx with rfl | rfl
    · exact .inr ⟨rfl, rfl⟩
    · exact .inr ⟨rfl, rfl⟩
  intro s₁ x
  obtain ⟨h₁, tk, rfl, keep⟩ := x.done
  have keep : Le h h₁ := keep
  obtain ⟨o1, c1, d1⟩ : h₁.IsCell (h.objs.size + 1) (some (.ref r)) := x.cell "rule" (h.objs.size + 1) rfl
  obtain ⟨o2, c2, d2⟩ : h₁.IsCell (h.objs.size + 2) (some (.ref a)) := x.cell "new" (h.objs.size + 2) rfl
  have G1 := G.mono keep
  refine wpAny_mono (Q := fun f s' => Q (match f with | .ret v => v | _ => .none) s') (E := fun _ _ => False) ?_ (fun _ _ q => q) (fun _ _ q => q.elim)
  obtain ⟨ps, rfl, hps⟩ := T
  have n1 : h.objs.size + 1 ≠ 136 := by omega
  have n2 : h.objs.size + 2 ≠ 136 := by omega
  have sz1 : h.objs.size ≤ h₁.objs.size := by have : h.objs.size + 1 < h₁.objs.size := Heap.lt_size c1; omega
  rcases hps with rfl | ⟨c, rfl, hrec⟩
  · refine x_ret (kla_eval rfl (kla_makeFunction (mg := nsFind (tbl w mainGlobals)) rfl rfl G1.g rfl (chd136 G1) (keep _ _ e136) trivial rfl (by decide) (bat G1 136 (by decide)) ?_))
    intro c' ctv h' tk' hx hge hlt hrec htb
    have hge : h₁.objs.size ≤ c' := hge
    have c'ne : c' ≠ 136 := by omega
    have lex : LeBut 136 h₁ h' := fun b o hb e => hx b o hb e
    have hrec : h'.CodeRec (.ref c') lamQ := hrec
    have hsz' : h₁.objs.size ≤ h'.objs.size := Nat.le_of_lt (Nat.lt_of_le_of_lt hge (let ⟨_, _, _, _, e1, e2, _⟩ := hrec; by cases e1; exact Heap.lt_size e2))
    generalize hfo : kla_obj _ _ _ _ _ _ _ _ _ = fo
    have hq : (h'.push fo).get? h'.objs.size = some fo := Heap.get?_push_size _ (by rw [← hfo]; rfl)
    have get : ∀ b o, b ≠ 136 → h₁.get? b = some o → (h'.push fo).get? b = some o := fun b o hb e => Heap.get?_push_of_some _ (lex b o hb e)
    refine H _ _ _ _ (fun b o hb e => get b o hb (keep _ _ e)) (Heap.get?_push_of_some _ htb) fun B lB nw => ?_
    have hrec2 : B.CodeRec (.ref c') lamQ := by
      obtain ⟨c3, oc, vs, tq, e1, e2, e3, e4⟩ := hrec
      cases e1
      exact ⟨_, oc, vs, tq, rfl, nw _ _ (Heap.get?_push_of_some _ e2) (Nat.le_trans sz1 hge), e3, e4⟩
    refine ⟨⟨_, rfl, .inr ⟨c', rfl, hrec2⟩⟩, ?_⟩
    subst hfo
    exact ⟨_, _, _, c', _, _, o1, o2, _, ctv, nw _ _ hq (Nat.le_trans sz1 hsz'), hrec2, nw _ _ (get _ _ n1 c1) (Nat.le_add_right _ _), d1, nw _ _ (get _ _ n2 c2) (Nat.le_add_right h.objs.size 2), d2, _, rfl⟩
  · refine x_ret (kla_eval rfl (kla_makeFunctionHit (mg := nsFind (tbl w mainGlobals)) rfl rfl G1.g rfl (chd136 G1) (keep _ _ e136) trivial rfl (bat G1 136 (by decide)) ?_))
    intro ctv h' tk' hk hsz
    have hsz : h₁.objs.size ≤ h'.objs.size := hsz
    have hk : Le h₁ h' := hk
    generalize hfo : ({ cls := .type "function", data := .func (kla_fn _ _ _ _ _ _ _ _ _) } : Obj) = fo
    have hq : (h'.push fo).get? h'.objs.size = some fo := Heap.get?_push_size _ (by rw [← hfo]; rfl)
    have get : ∀ b o, h₁.get? b = some o → (h'.push fo).get? b = some o := fun b o e => Heap.get?_push_of_some _ (hk b o e)
    refine H _ _ _ _ (fun b o hb e => get b o (keep _ _ e)) (get _ _ (keep _ _ e136)) fun B lB nw => ⟨⟨_, rfl, .inr ⟨c, rfl, hrec.keeps lB⟩⟩, ?_⟩
    subst hfo
    exact ⟨_, _, _, c, _, _, o1, o2, _, ctv, nw _ _ hq (Nat.le_trans sz1 hsz), hrec.keeps lB, nw _ _ (get _ _ c1) (Nat.le_add_right _ _), d1, nw _ _ (get _ _ c2) (Nat.le_add_right h.objs.size 2), d2, _, rfl⟩
end Mine
end
section
open PySem PySem.W PyProof.Rows PySem.Spec PySem.Calls
namespace Mine
theorem e_callC {prog : Program} {w : World} {A : Around} {E : Value → Shared → Prop} {s : Shared} {env : Env} {pos p : Pos} {e : Expr} {rest : List Expr} {f : Str} {Q : Value → Shared → Prop} {a : Addr} (hk : keepIn (KN w) (.ref a) = true) (h : wpAny (model prog w) A (eval (.Name f p) env) (fun fv s₁ => fv = .ref a ∧ wpAny (model prog w) A (spliced (backTo pos (starEach (e :: rest) env))) (fun vs s₂ => Gd w s₂.heap ∧ wpAny (model prog w) A (call (.ref a) vs) Q E s₂) E s₁) E s)
    (he : starEach (e :: rest) env = (false, eval e env) :: starEach rest env := by rfl) (hp : ((backTo pos (starEach rest env)).any fun x => x.1) = false := by rfl) : wpAny (model prog w) A (eval (.Call (.Name f p) (e :: rest) [] pos) env) Q E s := by
  refine wpAny_Call_Name_kw (wpAny_mono h (fun fv s₁ h₁ => ?_) fun _ _ x => x)
  obtain ⟨rfl, h₁⟩ := h₁
  rw [he] at h₁ ⊢
  exact callWith_of (P := fun h => (KN w).In h) (by show ((false || (backTo pos (starEach rest env)).any (·.1)) || false) = false; rw [hp]; rfl) (keeps_K hk) (evalArgs_plain (wpAny_mono h₁ (fun vs s₂ q => ⟨q.1.kn, q.2⟩) fun _ _ x => x))
/-- compare by whole numbers -/
def cmpW : List (Nat × Int) → Co → Co → Int
  | [], _, _ => 0
  | (c, d) :: r, x, y => if whC x c < whC y c then -d else if whC y c < whC x c then d else cmpW r x y
theorem cmpF_W {x y : Co} (hx : x.In) (hy : y.In) : ∀ {sel : List (Nat × Int)}, (∀ p ∈ sel, p.1 < 5) → cmpF sel (col x) (col y) = cmpW sel x y
  | [], _ => rfl
  | (c, d) :: r, h => by
    have hc := h (c, d) (.head _)
    have hcmp := col_cmp hx hy (c := c) hc
    unfold cmpF cmpW
    have e1 : (Float64.cmp (col x c) (col y c) == some Ordering.lt) = decide (whC x c < whC y c) := hcmp.1
    have e2 : (Float64.cmp (col x c) (col y c) == some Ordering.gt) = decide (whC y c < whC x c) := hcmp.2
    rw [e1, e2, cmpF_W hx hy fun p hp => h p (.tail _ hp)]
    simp
theorem cmpW_self (x : Co) : ∀ sel : List (Nat × Int), cmpW sel x x = 0
  | [] => rfl
  | (c, d) :: r => by unfold cmpW; simp [cmpW_self x r]
def ins (is : List Nat) (k i : Nat) : List Nat := is.take k ++ i :: is.drop k
/-- the place by insort_right / bisect_right of nought -/
def plR (sel : List (Nat × Int)) (xs : Nat → Co) (is : List Nat) (i : Nat) : Nat := bs (fun j => decide (0 < cmpW sel (xs (is[j]?.getD 0)) (xs i))) is.length 0 is.length
def plL (sel : List (Nat × Int)) (xs : Nat → Co) (is : List Nat) (i : Nat) : Nat := bs (fun j => !decide (cmpW sel (xs (is[j]?.getD 0)) (xs i) < 0)) is.length 0 is.length
def lineR (sel : List (Nat × Int)) (xs : Nat → Co) : List Nat → List Nat → List Nat
  | [], is => is
  | i :: r, is => lineR sel xs r (ins is (plR sel xs is i) i)
def lineL (sel : List (Nat × Int)) (xs : Nat → Co) : List Nat → List Nat → List Nat
  | [], is => is
  | i :: r, is => lineL sel xs r (ins is (plL sel xs is i) i)
def bk1 (l : List Nat) (z : Int × Nat) (k : Int) : Option (Int × Nat) := if k ∈ l.map (Int.ofNat ·) then some z else none
abbrev Bk := Int → Option (Int × Nat)
/-- against: the kept row and the books -/
def keepR (sel : List (Nat × Int)) (xs : Nat → Co) : List Nat → List Nat × Bk → List Nat × Bk
  | [], s => s
  | i :: r, (kp, bk) => keepR sel xs r (ins kp (plR sel xs kp i) i, addB bk (bk1 (kp.drop (plR sel xs kp i)) (1, 0)))
def keepL (sel : List (Nat × Int)) (xs : Nat → Co) : List Nat → List Nat × Bk → List Nat × Bk
  | [], s => s
  | i :: r, (kp, bk) => keepL sel xs r (ins kp (plL sel xs kp i) i, addB bk (bk1 (kp.take (plL sel xs kp i)) (1, (whC (xs i) 2).toNat)))
theorem plR_le (sel : List (Nat × Int)) (xs : Nat → Co) (is : List Nat) (i : Nat) : plR sel xs is i ≤ is.length := bs_le _ _ _ _ (Nat.zero_le _)
theorem plL_le (sel : List (Nat × Int)) (xs : Nat → Co) (is : List Nat) (i : Nat) : plL sel xs is i ≤ is.length := bs_le _ _ _ _ (Nat.zero_le _)
theorem ins_len {is : List Nat} {k i : Nat} (_ : k ≤ is.length) : (ins is k i).length = is.length + 1 := by
  unfold ins; simp; omega
theorem ins_map {α : Type} (f : Nat → α) (is : List Nat) (k i : Nat) : (ins is k i).map f = (is.map f).take k ++ f i :: (is.map f).drop k := by
  unfold ins; simp
/-- a row, with its place -/
def RowOK (b : Heap) (a : Addr) (x : Co) (n : Nat) : Prop := ∃ vs, b.get? a = some (tpO vs) ∧ RowV x n vs ∧ x.In
theorem RowOK.mono {b b' : Heap} {a : Addr} {x : Co} {n : Nat} (R : RowOK b a x n) (le : Le b b') : RowOK b' a x n := let ⟨vs, e, r⟩ := R; ⟨vs, le _ _ e, r⟩
theorem RowOK.at {b : Heap} {a : Addr} {x : Co} {n : Nat} (R : RowOK b a x n) : RowAt b a (col x) := by
  obtain ⟨vs, e, ⟨u0, u1, u2, u3, u4, u5, u6, rfl⟩, _⟩ := R
  refine ⟨_, tpT e, Nat.lt_of_lt_of_le (Nat.lt_succ_self _) (Nat.le_of_ble_eq_true rfl), fun c hc => ?_⟩
  have : c = 0 ∨ c = 1 ∨ c = 2 ∨ c = 3 ∨ c = 4 := by omega
  rcases this with rfl | rfl | rfl | rfl | rfl
  · exact ⟨u0 + 1, rfl⟩
  · exact ⟨u1 + 1, rfl⟩
  · exact ⟨u2 + 1, rfl⟩
  · exact ⟨u3 + 1, rfl⟩
  · exact ⟨u4 + 1, rfl⟩
abbrev rfs (ra : Nat → Addr) (is : List Nat) : List Value := is.map fun i => .ref (ra i)
end Mine
end
section
open PySem PySem.W PyProof.Rows PySem.Spec PySem.Calls
namespace Mine
section
variable {b b' h h' : Heap} {L : Addr} {m : Loc} {ns : List (Addr × Obj)} {p q r s : Addr × Obj}
theorem Sx.r2 (S : Sx b L m (p :: q :: ns) h) : Sx b L m (q :: p :: ns) h := S.reorder (List.Perm.swap _ _ _)
theorem Sx.r3 (S : Sx b L m (p :: q :: r :: ns) h) : Sx b L m (r :: p :: q :: ns) h := S.reorder ((List.Perm.swap p r _).trans ((List.Perm.swap q r _).cons p))
theorem Sx.r3' (S : Sx b L m (r :: p :: q :: ns) h) : Sx b L m (p :: q :: r :: ns) h := S.reorder (((List.Perm.swap p r _).trans ((List.Perm.swap q r _).cons p)).symm)
theorem Sx.r4 (S : Sx b L m (p :: q :: r :: s :: ns) h) : Sx b L m (s :: p :: q :: r :: ns) h := S.reorder ((List.Perm.swap p s _).trans (((List.Perm.swap q s _).trans ((List.Perm.swap r s _).cons q)).cons p))
theorem Sx.r4' (S : Sx b L m (s :: p :: q :: r :: ns) h) : Sx b L m (p :: q :: r :: s :: ns) h := S.reorder (((List.Perm.swap p s _).trans (((List.Perm.swap q s _).trans ((List.Perm.swap r s _).cons q)).cons p)).symm)
theorem Sx.tl (S : Sx b L m (p :: ns) h) : Sx b L m ns h := S.drop (List.sublist_cons_self _ _)
theorem Sx.leHide {a : Addr} {o : Obj} (S : Sx b L m ((a, o) :: ns) h) : Le b (h.hide a) := fun x ox e => by
  rw [Heap.hide_ne]
  · exact S.keep _ _ e
  · rintro rfl; rw [(S.new _ (.head _)).2.2] at e; cases e
theorem Sx.ex1 {a : Addr} {o o' : Obj} (S : Sx b L m ((a, o) :: ns) h) (x : Ex b (h.hide a) b' h') (e : h'.get? a = some o') (n : b'.get? a = none) : Sx b' L m ((a, o') :: ns) h' := by
  have nd := List.nodup_cons.mp S.nod
  have Za := S.new (a, o) (.head _)
  obtain ⟨f, hn, hf⟩ := S.loc
  have hn' := hn
  obtain ⟨oL, es, k, eL, r⟩ := hn
  have gL : ∀ oL, h.get? L = some oL → h'.get? L = some oL ∧ b'.get? L = none := fun oL e => x.2.2 L oL (by rw [Heap.hide_ne _ (Ne.symm Za.2.1)]; exact e) S.off
  refine ⟨⟨f, hn'.at' fun o' e' => (gL o' e').1, hf⟩, x.2.1, (gL _ eL).2, fun p hp => ?_, S.nod⟩
  rcases List.mem_cons.mp hp with rfl | hp
  · exact ⟨e, Za.2.1, n⟩
  · have P := S.new p (.tail _ hp)
    have ne : p.1 ≠ a := fun q => nd.1 (List.mem_map.mpr ⟨p, hp, q⟩)
    have Z := x.2.2 p.1 p.2 (by rw [Heap.hide_ne _ ne]; exact P.1) P.2.2
    exact ⟨Z.1, P.2.1, Z.2⟩
end
section
variable {prog : Program} {w : World} {A : Around} {E : Value → Shared → Prop} {h : Heap} {g : Array GenState} {d : Drawn} {t : Nat} {os : OsState} {Q : Value → Shared → Prop}
theorem i_tupI {value slice : Expr} {a : Addr} {l : List Value} {k : Int} {u : Tok} {x : Value} (ht : IsTup h a l.toArray) (hz : l.length < 1000) (h0 : 0 ≤ k) (hx : l[k.toNat]? = some x) (H : Q x ⟨h, g, d, t, os⟩)
    (hs : ∀ k : Int, subscripted slice false (.ref a) (.int k u) = operate [.ref a, .int k u] (getItem (.ref a) (.int k u)) := by intro _; rfl) : wpAny (model prog w) A (subscriptTail value slice (.ref a) (.int k u)) Q E ⟨h, g, d, t, os⟩ := by
  obtain ⟨n, rfl⟩ := Int.eq_ofNat_of_zero_le h0
  exact i_tup ht hz hx H (hs _)
/-- row[5] -/
theorem i_place {value slice : Expr} {a : Addr} {x : Co} {n : Nat} {u : Tok} (R : RowOK h a x n) (H : ∀ u', Q (.int n u') ⟨h, g, d, t, os⟩) (hs : ∀ k : Int, subscripted slice false (.ref a) (.int k u) = operate [.ref a, .int k u] (getItem (.ref a) (.int k u)) := by intro _; rfl) :
    wpAny (model prog w) A (subscriptTail value slice (.ref a) (.int 5 u)) Q E ⟨h, g, d, t, os⟩ := by
  obtain ⟨vs, e, ⟨u0, u1, u2, u3, u4, u5, u6, rfl⟩, _⟩ := R
  exact i_tupI (tpT e) (Nat.lt_of_lt_of_le (Nat.lt_succ_self _) (Nat.le_of_ble_eq_true rfl)) (by decide) rfl (H _) hs
/-- row[2] -/
theorem i_value {value slice : Expr} {a : Addr} {x : Co} {n : Nat} {u : Tok} (R : RowOK h a x n) (H : ∀ u' : Tok, Q (.float (col x 2) (u' + 1)) ⟨h, g, d, t, os⟩) (hs : ∀ k : Int, subscripted slice false (.ref a) (.int k u) = operate [.ref a, .int k u] (getItem (.ref a) (.int k u)) := by intro _; rfl) :
    wpAny (model prog w) A (subscriptTail value slice (.ref a) (.int 2 u)) Q E ⟨h, g, d, t, os⟩ := by
  obtain ⟨vs, e, ⟨u0, u1, u2, u3, u4, u5, u6, rfl⟩, _⟩ := R
  exact i_tupI (tpT e) (Nat.lt_of_lt_of_le (Nat.lt_succ_self _) (Nat.le_of_ble_eq_true rfl)) (by decide) rfl (H _) hs
end
theorem gl_tc (w : World) : glb w "TupleComp" = some (.ref 95) := rfl
theorem gl_ir (w : World) : glb w "insort_right" = some (.ref 23) := rfl
theorem gl_il (w : World) : glb w "insort_left" = some (.ref 41) := rfl
theorem gl_key (w : World) : glb w "_law_key" = some (.ref 141) := rfl
theorem gl_add (w : World) : glb w "add_callers" = some (.ref 106) := rfl
theorem kp95 (w : World) : keepIn (KN w) (.ref 95) = true := rfl
theorem lineR_snoc (sel : List (Nat × Int)) (xs : Nat → Co) (i : Nat) : ∀ (l is : List Nat), lineR sel xs (l ++ [i]) is = ins (lineR sel xs l is) (plR sel xs (lineR sel xs l is) i) i
  | [], _ => rfl
  | j :: l, is => lineR_snoc sel xs i l _
theorem lineL_snoc (sel : List (Nat × Int)) (xs : Nat → Co) (i : Nat) : ∀ (l is : List Nat), lineL sel xs (l ++ [i]) is = ins (lineL sel xs l is) (plL sel xs (lineL sel xs l is) i) i
  | [], _ => rfl
  | j :: l, is => lineL_snoc sel xs i l _
theorem keepR_snoc (sel : List (Nat × Int)) (xs : Nat → Co) (i : Nat) : ∀ (l : List Nat) (s : List Nat × Bk), keepR sel xs (l ++ [i]) s = (ins (keepR sel xs l s).1 (plR sel xs (keepR sel xs l s).1 i) i, addB (keepR sel xs l s).2 (bk1 ((keepR sel xs l s).1.drop (plR sel xs (keepR sel xs l s).1 i)) (1, 0)))
  | [], _ => rfl
  | j :: l, (kp, bk) => keepR_snoc sel xs i l _
theorem keepL_snoc (sel : List (Nat × Int)) (xs : Nat → Co) (i : Nat) : ∀ (l : List Nat) (s : List Nat × Bk), keepL sel xs (l ++ [i]) s = (ins (keepL sel xs l s).1 (plL sel xs (keepL sel xs l s).1 i) i, addB (keepL sel xs l s).2 (bk1 ((keepL sel xs l s).1.take (plL sel xs (keepL sel xs l s).1 i)) (1, (whC (xs i) 2).toNat)))
  | [], _ => rfl
  | j :: l, (kp, bk) => keepL_snoc sel xs i l _
theorem lineR_mem (sel : List (Nat × Int)) (xs : Nat → Co) : ∀ (l is : List Nat) (x : Nat), x ∈ lineR sel xs l is ↔ x ∈ l ∨ x ∈ is
  | [], is, x => by simp [lineR]
  | j :: l, is, x => by
    rw [lineR, lineR_mem sel xs l]
    unfold ins
    have e : x ∈ is ↔ x ∈ is.take (plR sel xs is j) ∨ x ∈ is.drop (plR sel xs is j) := by rw [← List.mem_append, List.take_append_drop]
    simp only [List.mem_append, List.mem_cons, e]
    constructor
    · rintro (h | h | h | h)
      · exact .inl (.inr h)
      · exact .inr (.inl h)
      · exact .inl (.inl h)
      · exact .inr (.inr h)
    · rintro ((h | h) | (h | h))
      · exact .inr (.inr (.inl h))
      · exact .inl h
      · exact .inr (.inl h)
      · exact .inr (.inr (.inr h))
theorem lineL_mem (sel : List (Nat × Int)) (xs : Nat → Co) : ∀ (l is : List Nat) (x : Nat), x ∈ lineL sel xs l is ↔ x ∈ l ∨ x ∈ is
  | [], is, x => by simp [lineL]
  | j :: l, is, x => by
    rw [lineL, lineL_mem sel xs l]
    unfold ins
    have e : x ∈ is ↔ x ∈ is.take (plL sel xs is j) ∨ x ∈ is.drop (plL sel xs is j) := by rw [← List.mem_append, List.take_append_drop]
    simp only [List.mem_append, List.mem_cons, e]
    constructor
    · rintro (h | h | h | h)
      · exact .inl (.inr h)
      · exact .inr (.inl h)
      · exact .inl (.inl h)
      · exact .inr (.inr h)
    · rintro ((h | h) | (h | h))
      · exact .inr (.inr (.inl h))
      · exact .inl h
      · exact .inr (.inl h)
      · exact .inr (.inr (.inr h))
theorem lineR_len (sel : List (Nat × Int)) (xs : Nat → Co) : ∀ (l is : List Nat), (lineR sel xs l is).length = l.length + is.length
  | [], is => by simp [lineR]
  | j :: l, is => by rw [lineR, lineR_len sel xs l, ins_len (plR_le ..), List.length_cons]; omega
theorem lineL_len (sel : List (Nat × Int)) (xs : Nat → Co) : ∀ (l is : List Nat), (lineL sel xs l is).length = l.length + is.length
  | [], is => by simp [lineL]
  | j :: l, is => by rw [lineL, lineL_len sel xs l, ins_len (plL_le ..), List.length_cons]; omega
theorem keepR_line (sel : List (Nat × Int)) (xs : Nat → Co) : ∀ (l : List Nat) (s : List Nat × Bk), (keepR sel xs l s).1 = lineR sel xs l s.1
  | [], _ => rfl
  | j :: l, (kp, bk) => keepR_line sel xs l _
theorem keepL_line (sel : List (Nat × Int)) (xs : Nat → Co) : ∀ (l : List Nat) (s : List Nat × Bk), (keepL sel xs l s).1 = lineL sel xs l s.1
  | [], _ => rfl
  | j :: l, (kp, bk) => keepL_line sel xs l _
end Mine
end
section
open PySem PySem.W PyProof.Rows PySem.Spec PySem.Calls
namespace Mine
theorem lam_fn {w : World} {b : Heap} {q r a : Addr} (X : LamAt w b q r a) : ∃ oq fq, b.get? q = some oq ∧ oq.data = .func fq := by
  obtain ⟨p, bd, sc, c, c1, c2, o1, o2, pm, ct, e1, _⟩ := X
  exact ⟨_, _, e1, rfl⟩
theorem rfs_ins (ra : Nat → Addr) (is : List Nat) (k i : Nat) : rfs ra (ins is k i) = (rfs ra is).take k ++ .ref (ra i) :: (rfs ra is).drop k := ins_map _ is k i
/-- the keys of a line of rows -/
theorem keys_of {prog : Program} {w : World} {b : Heap} {q r l : Addr} {sel : List (Nat × Int)} {xs : Nat → Co} {ra : Nat → Addr} {N i : Nat} (G : Gd w b) (X : LamAt w b q r (ra i)) (R : IsRule b r l) (Sl : SelAt b l sel) (hc : ∀ p ∈ sel, p.1 < 5) (rows : ∀ j, j < N → RowOK b (ra j) (xs j) j) (hi : i < N)
    {is : List Nat} (his : ∀ j ∈ is, j < N) : ∀ (j : Nat) (v : Value), (rfs ra is)[j]? = some v → KeyIs prog w (Ar 21 63) b q v (cmpW sel (xs (is[j]?.getD 0)) (xs i)) := by
  intro j v hv
  rw [List.getElem?_map] at hv
  obtain ⟨k, hk, rfl⟩ := Option.map_eq_some_iff.mp hv
  have hkN := his k (List.mem_of_getElem? hk)
  have R1 := rows k hkN
  have R2 := rows i hi
  rw [hk]
  have K := key_spec (prog := prog) G X R Sl hc R1.at R2.at
  rw [cmpF_W (let ⟨_, _, _, x⟩ := R1; x) (let ⟨_, _, _, x⟩ := R2; x) hc] at K
  exact K
/-- [row[5] for row in line] -/
theorem places_turn {prog : Program} {w : World} {A : Around} {d : Drawn} {os : OsState} {g : Array GenState} {b₀ : Heap} {scope : Scope} {env : Env} {xs : Nat → Co} {ra : Nat → Addr} {N : Nat} {is : List Nat} {pp pq pr : Pos} {kc : Nat} {nsO : List (Addr × Obj)} (his : ∀ j ∈ is, j < N) (rows : ∀ j, j < N → RowOK b₀ (ra j) (xs j) j)
    (hk : ∀ C : Addr, (compEnvC scope [] C env).scope.kind = .function) (hl : ∀ C : Addr, (compEnvC scope [] C env).kindOf "row" = some .local) :
    ∀ (C : Addr) (i : Nat) (v : Value) (b : Heap) (g' : Array GenState) (ys : List Value) (m : Loc) (ns : List (Addr × Obj)) (h : Heap) (t : Nat), i < (rfs ra is).toArray.size → (rfs ra is).toArray[i]? = some v → Le b₀ b → (g' = g ∧ b = b₀ ∧ IntsAre ys ((is.take i).map Int.ofNat)) → (∀ p ∈ nsO, p ∈ ns) → Sx b C m ns h → wpAny (model prog w) A (assign (.Name "row" pp) (compEnvC scope [] C env) v) (fun _ s₂ =>
        wpAny (model prog w) A (forIn ([] : List Expr) true fun c r => if r = true then do let ok ← isTrue c (compEnvC scope [] C env) (eval c (compEnvC scope [] C env)); pure (ForInStep.yield ok) else pure (ForInStep.yield r)) (fun ok s₃ =>
          (ok = true → wpAny (model prog w) A (eval (.Subscript (.Name "row" pq) (.Constant (.int 5) kc pr) pos) (compEnvC scope [] C env)) (fun y s₄ => ∃ b' g'' m' h' t', s₄ = ⟨h', g'', d, t', os⟩ ∧ Le b b' ∧ (g'' = g ∧ b' = b₀ ∧ IntsAre (ys ++ [y]) ((is.take (i + 1)).map Int.ofNat)) ∧ Sx b' C m' ns h') (fun _ _ => False) s₃)
          ∧ (ok = false → ∃ b' g'' m' h' t', s₃ = ⟨h', g'', d, t', os⟩ ∧ Le b b' ∧ (g'' = g ∧ b' = b₀ ∧ IntsAre ys ((is.take (i + 1)).map Int.ofNat)) ∧ Sx b' C m' ns h')) (fun _ _ => False) s₂) (fun _ _ => False) ⟨h, g', d, t, os⟩ := by
  rintro C i v b g' ys m ns h t hi hv - ⟨rfl, rfl, hJ⟩ - S
  have hv : (rfs ra is)[i]? = some v := by simpa using hv
  rw [List.getElem?_map] at hv
  obtain ⟨k, hk', rfl⟩ := Option.map_eq_some_iff.mp hv
  have R := rows k (his k (List.mem_of_getElem? hk'))
  refine as1 S (fun h2 t2 S => ?_) (hk C) (hl C)
  rw [List.forIn_nil]
  refine wpAny_pure ⟨fun _ => e_sub <| n_loc S rfl (c_int fun u t3 => i_place (R.mono S.keep) fun u' => ⟨_, _, _, _, _, rfl, Le.refl _, ⟨rfl, rfl, ?_⟩, S⟩) (hk C) (hl C), fun h => by cases h⟩
  have e : is.take (i + 1) = is.take i ++ [k] := by rw [List.take_succ, hk']; rfl
  rw [e, List.map_append]
  exact ints_snoc hJ _ _
section
variable {prog : Program} {w : World} {h h₀ : Heap} {g : Array GenState} {d : Drawn} {t : Nat} {os : OsState} {Q E : Value → Shared → Prop}
theorem SelAt.list {h : Heap} {l : Addr} {sel : List (Nat × Int)} {xs : List Value} {n : Nat} (S : SelAt h l sel) (e : h.get? l = some (lsO xs n)) : xs.length = sel.length ∧ ∀ (i c : Nat) (d : Int), sel[i]? = some (c, d) → ∃ (a : Addr) (t u : Tok), xs[i]? = some (Value.ref a) ∧ IsTup h a (List.toArray [Value.int (c : Nat) t, Value.int d u]) := by
  obtain ⟨vs, ⟨o, eo, _, k, ed⟩, hl, hs⟩ := S
  rw [e] at eo; cases eo
  have : xs.toArray = vs.toArray := by injection ed
  have : xs = vs := by simpa using congrArg Array.toList this
  subst this
  exact ⟨hl, hs⟩
theorem SelAt.app {h : Heap} {l1 l2 l : Addr} {s1 s2 : List (Nat × Int)} {x1 x2 : List Value} {n1 n2 n : Nat} (S1 : SelAt h l1 s1) (e1 : h.get? l1 = some (lsO x1 n1)) (S2 : SelAt h l2 s2) (e2 : h.get? l2 = some (lsO x2 n2)) (e : h.get? l = some (lsO (x1 ++ x2) n)) : SelAt h l (s1 ++ s2) := by
  obtain ⟨a1, b1⟩ := S1.list e1
  obtain ⟨a2, b2⟩ := S2.list e2
  refine ⟨x1 ++ x2, ⟨_, e, rfl, _, rfl⟩, by simp [a1, a2], fun i c d hi => ?_⟩
  by_cases q : i < s1.length
  · rw [List.getElem?_append_left q] at hi
    rw [List.getElem?_append_left (by omega)]
    exact b1 i c d hi
  · rw [List.getElem?_append_right (by omega)] at hi
    rw [List.getElem?_append_right (by omega), a1]
    exact b2 _ c d hi
theorem bk1_snoc (l : List Nat) (z : Int × Nat) (k : Nat) (k' : Int) : bk1 (l ++ [k]) z k' = if k' = (k : Int) then some z else bk1 l z k' := by
  unfold bk1
  by_cases q : k' = (k : Int)
  · subst q; simp
  · have : ¬ k' = Int.ofNat k := q
    simp [q, this]
/-- what _law_against and _law_along give back -/
def Back (prog : Program) (w : World) (tup : Bool) (h₀ h : Heap) (d : Drawn) (os : OsState) (line kept : List Nat) (bk : Bk) (Q : Value → Shared → Prop) : Prop :=
  ∀ b g' h' t' tk tg r l1 l2 bd v1 k1 v2 k2 oB kvs, AllBare g' → Ex h₀ ((h.hide 136).hide 101) b h' → h'.get? 136 = some tk → b.get? 136 = none → TabB b tk → h'.get? 101 = some tg → b.get? 101 = none → TabG b tg →
    b.get? r = some (tpO [.ref l1, .ref l2, .ref bd]) → b.get? l1 = some (lsO v1 k1) → IntsAre v1 (line.map Int.ofNat) → b.get? l2 = some (lsO v2 k2) → IntsAre v2 (kept.map Int.ofNat) →
    b.get? bd = some oB → DO prog w oB kvs → (bd == sysModules) = false → BkAt tup b kvs bk → kvs.length < 900 → Q (.ref r) ⟨h', g', d, t', os⟩
theorem against_spec (GX : GenOK prog w) (hG : AllBare g) {N : Nat} (hN : N ≤ 10) {xs : Nat → Co} {ra : Nat → Addr} {rl fl sl : Addr} {vf vs : List Value} {nf ns : Nat} {self sels : List (Nat × Int)} {tk tg : Obj}
    (G : Gd w h₀) (le : Le h₀ h) (e136 : h.get? 136 = some tk) (n136 : h₀.get? 136 = none) (TK : TabB h₀ tk) (e101 : h.get? 101 = some tg) (n101 : h₀.get? 101 = none) (TG : TabG h₀ tg)
    (hrl : h₀.IsList rl (rfs ra (List.range N)).toArray) (rows : ∀ j, j < N → RowOK h₀ (ra j) (xs j) j) (ef : h₀.get? fl = some (lsO vf nf)) (Sf : SelAt h₀ fl self) (es : h₀.get? sl = some (lsO vs ns)) (Ss : SelAt h₀ sl sels)
    (hf5 : ∀ p ∈ self, p.1 < 5) (hs5 : ∀ p ∈ sels, p.1 < 5) (hfl : self.length < 100) (hsl : sels.length < 100)
    (H : Back prog w false h₀ h d os (lineR (self ++ sels) xs (List.range N) []) (keepR sels xs (lineR (self ++ sels) xs (List.range N) []) ([], fun _ => none)).1 (keepR sels xs (lineR (self ++ sels) xs (List.range N) []) ([], fun _ => none)).2 Q) :
    wpAny (model prog w) (Ar 15 35) (call (.ref 151) [.ref rl, .ref fl, .ref sl]) Q E ⟨h, g, d, t, os⟩ := by
  have G' := G.mono le
  refine enterN (h₀ := h₀) (ns := (136, tk) :: (101, tg) :: exl h₀ ((h.hide 136).hide 101)) (binds := [("rows", .ref rl), ("first", .ref fl), ("second", .ref sl)]) le ?_ ?_ (G' 151 _ rfl (by decide)) rfl G'.c (G'.code rfl rfl rfl rfl (by decide)) (by decide) rfl (BindsTo.of_eq rfl) (nocell rfl) (locs rfl) ?_ rfl rfl rfl
  · intro p hp
    rcases List.mem_cons.mp hp with rfl | hp
    · exact ⟨e136, n136⟩
    rcases List.mem_cons.mp hp with rfl | hp
    · exact ⟨e101, n101⟩
    · exact ⟨Heap.of_hide (Heap.of_hide (mem_exl.mp hp).1), (mem_exl.mp hp).2⟩
  · have o1 : ∀ p ∈ exl h₀ ((h.hide 136).hide 101), p.1 ≠ 101 ∧ p.1 ≠ 136 := fun p hp => by
      have := (mem_exl.mp hp).1
      refine ⟨fun e => ?_, fun e => ?_⟩
      · rw [e, Heap.hide_self] at this; cases this
      · have := Heap.of_hide this; rw [e, Heap.hide_self] at this; cases this
    refine List.nodup_cons.mpr ⟨fun q => ?_, List.nodup_cons.mpr ⟨fun q => ?_, nodup_exl _ _⟩⟩
    · rcases List.mem_cons.mp q with q | q
      · exact absurd (show (136 : Nat) = 101 from q) (by decide)
      · obtain ⟨p, hp, e⟩ := List.mem_map.mp q; exact (o1 p hp).2 e
    · obtain ⟨p, hp, e⟩ := List.mem_map.mp q; exact (o1 p hp).1 e
  generalize hex : exl h₀ ((h.hide 136).hide 101) = ex
  intro L h1 t1 S
  obtain ⟨zf, _⟩ := Sf.list ef
  obtain ⟨zs, _⟩ := Ss.list es
  -- rule = TupleComp(first + second)
  refine x_set <| e_callC (kp95 w) <| n_glb (G.mono S.keep) (gl_tc w) ⟨rfl, a_cons <| e_bin <| n_loc S rfl <| n_loc S rfl <| o_cat (S.keep _ _ ef) (S.keep _ _ es) (by omega) ?_⟩
  have S := S.alloc (lsO (vf ++ vs) 0)
  generalize h1.objs.size = cl at S ⊢
  generalize h1.push (lsO (vf ++ vs) 0) = h2 at S ⊢
  obtain ⟨b1, l1, _, ec, S⟩ := S.settle
  refine a_nil ⟨(G.mono l1).mono S.keep, ar_le (tc_new ((G.mono l1).mono S.keep) fun h3 t3 r le nw => ?_) rfl (by decide) (by decide)⟩
  obtain ⟨b2, l2, _, nn, S⟩ := S.fresh le
  have R := nw b2 nn
  clear nw nn le
  have l02 := l1.trans l2
  have Sfs : SelAt b2 cl (self ++ sels) := (Sf.mono l02).app (l02 _ _ ef) (Ss.mono l02) (l02 _ _ es) (l2 _ _ ec)
  have hfs5 : ∀ p ∈ self ++ sels, p.1 < 5 := fun p hp => (List.mem_append.mp hp).elim (hf5 p) (hs5 p)
  refine st_loc S fun h4 t4 S => ?_
  -- line = []
  refine x_set <| e_list <| a_nil ⟨sz rfl, ?_⟩
  have S := S.alloc (lsO [] 0)
  generalize h4.objs.size = ln at S ⊢
  generalize h4.push (lsO [] 0) = h5 at S ⊢
  refine st_loc S fun h6 t6 S => ?_
  have S := S.forget (m' := [("rows", .ref rl), ("first", .ref fl), ("second", .ref sl), ("rule", .ref r), ("line", .ref ln)]) (by simp only [List.forall_mem_cons]; exact ⟨rfl, rfl, rfl, rfl, rfl, fun _ hp => nomatch hp⟩)
  have nln : h₀.get? ln = none := l02.none (S.new _ (.head _)).2.2
  refine x_for <| n_loc S rfl <| forL (l := rl) (items := (rfs ra (List.range N)).toArray) (fun i b g' m ns => g' = g ∧ Le b2 b ∧ m = ([("rows", .ref rl), ("first", .ref fl), ("second", .ref sl), ("rule", .ref r), ("line", .ref ln)] : Loc) ∧ ∃ tk n, ns = (ln, lsO (rfs ra (lineR (self ++ sels) xs (List.range i) [])) n) :: (136, tk) :: (101, tg) :: ex ∧ TabB b tk) (isl hrl l02) ⟨rfl, Le.refl _, rfl, tk, 0, rfl, TK.mono l02⟩ S ?_ ?_
  · rintro i v b g' m ns' h7 t7 it ob hi hv - ⟨rfl, lb, rfl, tk', n, rfl, TK'⟩ S
    have hi : i < N := by simpa using hi
    have ev : v = .ref (ra i) := by
      have : (rfs ra (List.range N))[i]? = some v := by simpa using hv
      rw [List.getElem?_map, List.getElem?_range hi] at this
      exact (Option.some.inj this).symm
    subst ev
    refine as1 S fun h8 t8 S => ?_
    have Gb := G.mono (l02.trans lb)
    have Z := S.new (136, tk') (.tail _ (.tail _ (.head _)))
    refine x_expr <| e_callK <| n_glb (Gb.mono S.keep) (gl_ir w) ⟨23, rfl, a_cons <| n_loc S rfl <| a_cons <| n_loc S rfl <| a_nil <| e_callF <| n_glb (Gb.mono S.keep) (gl_key w) ⟨141, rfl, a_cons <| n_loc S rfl <| a_cons <| n_loc S rfl <| a_nil ⟨⟨_, _, (Gb.mono S.keep) 141 _ rfl (by decide), rfl⟩, ar_le (lk_new (b := b) (Gb.mono S.keep) Z.1 TK' S.keep Z.2.2 fun h9 t9 q tk2 le e2 post => ?_) rfl (by decide) (by decide)⟩⟩⟩
    obtain ⟨b3, l3, _, nn, S⟩ := S.r3.fresh1 le e2
    obtain ⟨TK2, LA⟩ := post b3 l3 nn
    clear post nn
    have S := S.r3'.r2
    obtain ⟨oq, fq, eq, dq⟩ := lam_fn LA
    have G3 := Gb.mono l3
    have lnH := S.leHide
    have l23 := lb.trans l3
    have l03 := l02.trans l23
    have rows3 : ∀ j, j < N → RowOK b3 (ra j) (xs j) j := fun j hj => (rows j hj).mono l03
    have his : ∀ j ∈ lineR (self ++ sels) xs (List.range i) [], j < N := fun j hj => by
      rcases (lineR_mem ..).mp hj with hj | hj
      · have := List.mem_range.mp hj; omega
      · cases hj
    have hlen : (lineR (self ++ sels) xs (List.range i) []).length = i := by rw [lineR_len]; simp
    have K0 : KeyIs prog w (Ar 21 63) b3 q (.ref (ra i)) 0 := by
      have K := key_spec (prog := prog) G3 LA (R.mono l23) (Sfs.mono l23) hfs5 (rows3 i hi).at (rows3 i hi).at
      have hx : (xs i).In := let ⟨_, _, _, x⟩ := rows3 i hi; x
      rw [cmpF_W hx hx hfs5, cmpW_self] at K
      exact K
    refine ⟨⟨_, _, (G3.mono S.keep) 23 _ rfl (by decide), rfl⟩, ar_le (ir_spec (kf := fun j => cmpW (self ++ sels) (xs ((lineR (self ++ sels) xs (List.range i) [])[j]?.getD 0)) (xs i)) (k0 := 0) (G3.mono lnH) (S.new _ (.head _)).1 (by rw [List.length_map, hlen]; omega) (lnH _ _ eq) dq (fun j v hv => (keys_of G3 LA (R.mono l23) (Sfs.mono l23) hfs5 rows3 hi his j v hv).le (Nat.le_refl _) (Nat.le_refl _) lnH) (K0.le (Nat.le_refl _) (Nat.le_refl _) lnH) fun h10 t10 le e => ?_) rfl (by decide) (by decide)⟩
    have e' : h10.get? ln = some (lsO (rfs ra (lineR (self ++ sels) xs (List.range (i + 1)) [])) (n + 1)) := by
      rw [e, List.range_succ, lineR_snoc, rfs_ins]; simp only [List.length_map]; rfl
    have S := S.turn (fun x ox hne ex => le x ox (by rw [Heap.hide_ne _ hne]; exact ex)) e'
    refine ⟨(fun _ e => by cases e), x_nil (.inl ⟨rfl, b3, _, _, _, _, _, rfl, l3, ⟨rfl, l23, rfl, tk2, n + 1, rfl, TK2⟩, S.r2.forget ?_⟩)⟩
    simp only [List.forall_mem_cons]; exact ⟨rfl, rfl, rfl, rfl, rfl, fun _ hp => nomatch hp⟩
  rintro b g' m ns' h7 t7 - ⟨rfl, lb, rfl, tk1, n1, rfl, TK1⟩ S
  have hsz : (rfs ra (List.range N)).toArray.size = N := by simp
  rw [hsz] at S
  generalize hline : lineR (self ++ sels) xs (List.range N) [] = line at S H
  have hlN : line.length = N := by rw [← hline, lineR_len]; simp
  have hlm : ∀ j ∈ line, j < N := fun j hj => by
    rw [← hline] at hj
    rcases (lineR_mem ..).mp hj with hj | hj
    · exact List.mem_range.mp hj
    · cases hj
  obtain ⟨b4, l4, _, eln, S⟩ := S.settle
  have l04 := (l02.trans lb).trans l4
  have TK1 := TK1.mono l4
  have G4 := G.mono l04
  -- rule = TupleComp(second)
  refine x_set <| e_callC (kp95 w) <| n_glb (G4.mono S.keep) (gl_tc w) ⟨rfl, a_cons <| n_loc S rfl <| a_nil ⟨G4.mono S.keep, ar_le (tc_new (G4.mono S.keep) fun h8 t8 r2 le nw => ?_) rfl (by decide) (by decide)⟩⟩
  obtain ⟨b5, l5, _, nn, S⟩ := S.fresh le
  have R2 := nw b5 nn
  clear nw nn le R
  refine st_loc S fun h9 t9 S => ?_
  -- kept = []
  refine x_set <| e_list <| a_nil ⟨sz rfl, ?_⟩
  have S := S.alloc (lsO [] 0)
  generalize h9.objs.size = kd at S ⊢
  generalize h9.push (lsO [] 0) = h10 at S ⊢
  refine st_loc S fun h11 t11 S => ?_
  -- books = {}
  refine x_set <| wpAny_Dict_empty ?_
  have S := S.alloc dtO
  generalize hbd : h11.objs.size = bd at S ⊢
  show wpAny _ _ (storeName _ _ _) _ _ ⟨h11.push dtO, _, _, _, _⟩
  generalize h11.push dtO = h12 at S ⊢
  have G5 := G4.mono l5
  have nbd := nosys G5 (S.new _ (.head _)).2.2
  refine st_loc S fun h13 t13 S => ?_
  obtain ⟨b6, l6, _, ebd, S⟩ := S.settle
  have l46 := l5.trans l6
  have l06 := l04.trans l46
  have S := S.forget (m' := [("rule", .ref r2), ("line", .ref ln), ("kept", .ref kd), ("books", .ref bd)]) (by simp only [List.forall_mem_cons]; exact ⟨rfl, rfl, rfl, rfl, fun _ hp => nomatch hp⟩)
  have R2 := R2.mono l6
  have Ss6 := Ss.mono l06
  have rows6 : ∀ j, j < N → RowOK b6 (ra j) (xs j) j := fun j hj => (rows j hj).mono l06
  have hln6 : b6.IsList ln (rfs ra line).toArray := ⟨_, l46 _ _ eln, rfl, _, rfl⟩
  have G6 := G5.mono l6
  refine x_for <| n_loc S rfl <| forL (l := ln) (items := (rfs ra line).toArray) (fun i b g' m ns => AllBare g' ∧ Le b6 b ∧ ∃ tk tg n bd oB kvs, m = ([("rule", .ref r2), ("line", .ref ln), ("kept", .ref kd), ("books", .ref bd)] : Loc) ∧ ns = (kd, lsO (rfs ra (keepR sels xs (line.take i) ([], fun _ => none)).1) n) :: (136, tk) :: (101, tg) :: ex ∧ TabB b tk ∧ TabG b tg ∧ b.get? bd = some oB ∧ DO prog w oB kvs ∧ (bd == sysModules) = false ∧ BkAt false b kvs (keepR sels xs (line.take i) ([], fun _ => none)).2 ∧ kvs.length ≤ 10 * i) hln6 ⟨hG, Le.refl _, tk1, tg, 0, bd, _, [], rfl, rfl, TK1.mono l46, TG.mono l06, ebd, do_empty, nbd, (fun _ => rfl), Nat.le_refl _⟩ S ?_ ?_
  · rintro i v b g' m ns' h7 t7 it ob hi hv - ⟨hG', lb6, tk', tg', n, bd', oB, kvs, rfl, rfl, TK', TG', eB, DB, nB, BB, zB⟩ S
    have hi : i < line.length := by simpa using hi
    obtain ⟨j, hj⟩ : ∃ j, line[i]? = some j := ⟨line[i], by simp [hi]⟩
    have hjN := hlm j (List.mem_of_getElem? hj)
    have ev : v = .ref (ra j) := by
      have : (rfs ra line)[i]? = some v := by simpa using hv
      rw [List.getElem?_map, hj] at this
      exact (Option.some.inj this).symm
    subst ev
    have ekeep : line.take (i + 1) = line.take i ++ [j] := by rw [List.take_succ, hj]; rfl
    have estep := keepR_snoc sels xs j (line.take i) ([], fun _ => none)
    rw [← ekeep] at estep
    have hkl : (keepR sels xs (line.take i) ([], fun _ => none)).1 = lineR sels xs (line.take i) [] := keepR_line ..
    have hkm : ∀ k ∈ (keepR sels xs (line.take i) ([], fun _ => none)).1, k < N := fun k hk => by
      rw [hkl] at hk
      rcases (lineR_mem ..).mp hk with hk | hk
      · exact hlm k (List.mem_of_mem_take hk)
      · cases hk
    have hkz : (keepR sels xs (line.take i) ([], fun _ => none)).1.length = i := by rw [hkl, lineR_len, List.length_take]; simp; omega
    generalize hks : keepR sels xs (line.take i) ([], fun _ => none) = kst at *
    obtain ⟨kp, bk⟩ := kst
    simp only at hkm hkz BB estep S
    clear hkl hks
    refine as1 S fun h8 t8 S => ?_
    have Gb := G6.mono lb6
    have Z := S.new (136, tk') (.tail _ (.tail _ (.head _)))
    refine x_set <| e_callK <| n_glb (Gb.mono S.keep) (gl_bisect_right w) ⟨32, rfl, a_cons <| n_loc S rfl <| a_cons <| c_int fun u0 t0 => a_nil <| e_callF <| n_glb (Gb.mono S.keep) (gl_key w) ⟨141, rfl, a_cons <| n_loc S rfl <| a_cons <| n_loc S rfl <| a_nil ⟨⟨_, _, (Gb.mono S.keep) 141 _ rfl (by decide), rfl⟩, ar_le (lk_new (b := b) (Gb.mono S.keep) Z.1 TK' S.keep Z.2.2 fun h9 t9 q tk2 le e2 post => ?_) rfl (by decide) (by decide)⟩⟩⟩
    obtain ⟨b3, l3, _, nn, S⟩ := S.r3.fresh1 le e2
    obtain ⟨TK2, LA⟩ := post b3 l3 nn
    clear post nn le e2 Z
    have S := S.r3'
    obtain ⟨oq, fq, eq, dq⟩ := lam_fn LA
    have G3 := Gb.mono l3
    have l63 := lb6.trans l3
    have rows3 : ∀ j, j < N → RowOK b3 (ra j) (xs j) j := fun j hj => (rows6 j hj).mono l63
    have Zk := S.new (kd, lsO (rfs ra kp) n) (.tail _ (.head _))
    refine ⟨⟨_, _, (G3.mono S.keep) 32 _ rfl (by decide), rfl⟩, ar_le (br_any (fun j' => cmpW sels (xs (kp[j']?.getD 0)) (xs j)) (G3.mono S.keep) (items := (rfs ra kp).toArray) ⟨_, Zk.1, rfl, _, rfl⟩ (by simp; omega) (S.keep _ _ eq) dq (fun j' v hv => (keys_of G3 LA (R2.mono l63) (Ss6.mono l63) hs5 rows3 hjN hkm j' v (by simpa using hv)).le (Nat.le_refl _) (Nat.le_refl _) S.keep) (br_bind2 (G3.mono S.keep)) fun h10 t10 u10 le => ?_) rfl (by decide) (by decide)⟩
    have ep : bs (fun i => decide (0 < cmpW sels (xs (kp[i]?.getD 0)) (xs j))) (rfs ra kp).toArray.size 0 (rfs ra kp).toArray.size = plR sels xs kp j := by
      unfold plR; simp
    rw [ep]
    have S := S.keeps le
    clear le ep Zk
    generalize hpl : plR sels xs kp j = pl at *
    have hple : pl ≤ kp.length := by rw [← hpl]; exact plR_le ..
    refine st_loc S fun h11 t11 S => ?_
    -- books = add_callers(books, {..})
    have Zk := S.new (kd, lsO (rfs ra kp) n) (.tail _ (.head _))
    refine x_set <| e_callF <| n_glb (G3.mono S.keep) (gl_add w) ⟨106, rfl, a_cons <| n_loc S rfl <| a_cons <| e_dc0 [] <| e_from <| n_loc S rfl <| n_loc S rfl ⟨kd, rfs ra kp, pl, u10, _, _, _, _, _, rfl, rfl, rfl, ⟨_, Zk.1, rfl, _, rfl⟩, by simp; omega, ?_⟩⟩
    clear Zk
    have S1 := S.alloc (slO (.int pl u10) .none .none)
    have S2 := S1.alloc (lsO ((rfs ra kp).drop pl) 0)
    rw [Heap.size_push] at S2
    clear S1 S
    generalize h11.objs.size + 1 = sd at S2 ⊢
    generalize hsh : (h11.push (slO (.int pl u10) .none .none)).push (lsO ((rfs ra kp).drop pl) 0) = h12 at S2 ⊢
    obtain ⟨b7, l7, _, esd, S⟩ := S2.settle
    have S := S.tl
    clear hsh S2
    have edrop : (rfs ra kp).drop pl = rfs ra (kp.drop pl) := by simp [rfs]
    rw [edrop] at esd
    have hsd : b7.IsList sd (rfs ra (kp.drop pl)).toArray := ⟨_, esd, rfl, _, rfl⟩
    have l67 := l63.trans l7
    have rows7 : ∀ j, j < N → RowOK b7 (ra j) (xs j) j := fun j hj => (rows6 j hj).mono l67
    refine wpAny_pyIter_list (isl hsd S.keep) <| dcI S (it_list rfl hsd) its_list (fun i b g'' kvs => g'' = g' ∧ b = b7 ∧ BkAt false b kvs (bk1 ((kp.drop pl).take i) (1, 0)) ∧ kvs.length ≤ i) (by simp; omega) ⟨rfl, rfl⟩ ⟨rfl, rfl, (fun _ => rfl), Nat.le_refl _⟩ ?_ ?_
    · rintro C i2 v b g'' kvs' m ns' h13 t13 hi2 hv2 - ⟨rfl, rfl, BJ, zJ⟩ - S
      have hv2 : (rfs ra (kp.drop pl))[i2]? = some v := by simpa using hv2
      rw [List.getElem?_map] at hv2
      obtain ⟨k, hk, rfl⟩ := Option.map_eq_some_iff.mp hv2
      have hkN := hkm k (List.mem_of_mem_drop (List.mem_of_getElem? hk))
      refine as1 S fun h14 t14 S => ?_
      rw [List.forIn_nil]
      refine wpAny_pure ⟨fun _ => e_sub <| n_loc S rfl <| c_int fun u1 t1 => i_place ((rows7 k hkN).mono S.keep) fun u2 => c_int fun u3 t3 => ⟨_, _, _, _, _, k, u2, rfl, rfl, Le.refl _, ⟨rfl, rfl, BJ.put (x := (1, 0)) ⟨u3, rfl⟩ fun k' => ?_, ?_⟩, S⟩, fun h => by cases h⟩
      · rw [List.take_succ, hk]; exact bk1_snoc _ _ _ _
      · have := stored_length_le kvs' (k : Int) (.int 1 u3); omega
    rintro D b g'' kvs' oD h13 t13 - ⟨rfl, rfl, BJ, zJ⟩ DD S
    have ndD := nosys (G6.mono l67) (S.new _ (.head _)).2.2
    obtain ⟨b8, l8, _, eD, S⟩ := S.settle
    have l68 := l67.trans l8
    have l38 := l7.trans l8
    have esz : (rfs ra (kp.drop pl)).toArray.size = (kp.drop pl).length := by simp
    rw [esz, List.take_length] at BJ
    rw [esz] at zJ
    have zJ : kvs'.length ≤ 10 := by have := List.length_drop (i := pl) (l := kp); omega
    have G8 := G6.mono l68
    have Z1 := S.new (101, tg') (.tail _ (.tail _ (.tail _ (.head _))))
    refine a_nil ⟨⟨_, _, (G8.mono S.keep) 106 _ rfl (by decide), rfl⟩, ar_le (add_spec GX hG' false G8 S.keep Z1.1 Z1.2.2 (TG'.mono (l3.trans l38)) ((l3.trans l38) _ _ eB) DB nB eD DD ndD (BB.mono (l3.trans l38)) (BJ.mono l8) (fun h => by cases h) (by omega) fun b9 g9 h14 t14 tg9 rb oR kr hG9 exx e1 n1 T9 er nr DR BR lr => ?_) rfl (by decide) (by decide)⟩
    have S := (S.r4.ex1 exx e1 n1).r4'
    have l89 : Le b8 b9 := exx.1
    have nrb := nosys G8 nr
    refine st_loc S fun h15 t15 S => ?_
    -- kept.insert(place, row)
    have Zk := S.new (kd, lsO (rfs ra kp) n) (.tail _ (.head _))
    refine x_expr <| e_methB F.plainAttrs_list F.slot_list_insert F.type_list_insert <| n_loc S rfl ⟨kd, _, rfl, Zk.1, rfl, rfl, a_cons <| n_loc S rfl <| a_cons <| n_loc S rfl <| a_nil <| b_insert S.r2 (by simpa using hple) (by simp; omega) fun h16 S => ⟨(fun _ e => by cases e), x_nil (.inl ⟨rfl, b9, _, _, _, _, _, rfl, (l3.trans l38).trans l89, ⟨hG9, l68.trans l89, tk2, tg9, n + 1, rb, oR, kr, rfl, rfl, TK2.mono (l38.trans l89), T9, er, DR, nrb, ?_, by omega⟩, ?_⟩)⟩⟩
    · rw [estep]; exact BR
    · have S := S.r2
      rw [estep]
      rw [← rfs_ins] at S
      refine S.forget ?_
      simp only [List.forall_mem_cons]; exact ⟨rfl, rfl, rfl, rfl, fun _ hp => nomatch hp⟩
  · rintro b g' m ns' h7 t7 - ⟨hG', lb6, tk', tg', n, bd', oB, kvs, rfl, rfl, TK', TG', eB, DB, nB, BB, zB⟩ S
    have esz : (rfs ra line).toArray.size = line.length := by simp
    rw [esz, List.take_length] at S BB
    have hkl : (keepR sels xs line ([], fun _ => none)).1 = lineR sels xs line [] := keepR_line ..
    have hkm : ∀ k ∈ (keepR sels xs line ([], fun _ => none)).1, k < N := fun k hk => by
      rw [hkl] at hk
      rcases (lineR_mem ..).mp hk with hk | hk
      · exact hlm k hk
      · cases hk
    have hkz : (keepR sels xs line ([], fun _ => none)).1.length = N := by rw [hkl, lineR_len]; simp; omega
    generalize hks : keepR sels xs line ([], fun _ => none) = kst at *
    obtain ⟨kp, bk⟩ := kst
    simp only at hkm hkz BB S H
    obtain ⟨b7, l7, _, ekd, S⟩ := S.settle
    have l67 := lb6.trans l7
    have rows7 : ∀ j, j < N → RowOK b7 (ra j) (xs j) j := fun j hj => (rows6 j hj).mono l67
    have hln7 := isl hln6 l67
    refine x_ret <| e_tup <| a_cons <| e_lc0 [] <| n_loc S rfl <| wpAny_pyIter_list (isl hln7 S.keep) <| lcI S (it_list rfl hln7) its_list (fun i b g'' ys => g'' = g' ∧ b = b7 ∧ IntsAre ys ((line.take i).map Int.ofNat)) (by simp; omega) ⟨rfl, rfl⟩ ⟨rfl, rfl, .nil⟩ (places_turn hlm rows7 (fun _ => rfl) fun _ => rfl) ?_
    rintro D1 b g'' ys1 k1 h8 t8 - ⟨rfl, rfl, J1⟩ S
    rw [esz, List.take_length] at J1
    obtain ⟨b8, l8, _, e1, S⟩ := S.settle
    have rows8 : ∀ j, j < N → RowOK b8 (ra j) (xs j) j := fun j hj => (rows7 j hj).mono l8
    have hkd8 : b8.IsList kd (rfs ra kp).toArray := ⟨_, l8 _ _ ekd, rfl, _, rfl⟩
    refine a_cons <| e_lc0 [] <| n_loc S rfl <| wpAny_pyIter_list (isl hkd8 S.keep) <| lcI S (it_list rfl hkd8) its_list (fun i b g3 ys => g3 = g'' ∧ b = b8 ∧ IntsAre ys ((kp.take i).map Int.ofNat)) (by simp; omega) ⟨rfl, rfl⟩ ⟨rfl, rfl, .nil⟩ (places_turn hkm rows8 (fun _ => rfl) fun _ => rfl) ?_
    rintro D2 b g3 ys2 k2 h9 t9 - ⟨rfl, rfl, J2⟩ S
    have esz2 : (rfs ra kp).toArray.size = kp.length := by simp
    rw [esz2, List.take_length] at J2
    obtain ⟨b9, l9, _, e2, S⟩ := S.settle
    refine a_cons <| n_loc S rfl <| a_nil ⟨sz rfl, ?_⟩
    have S := S.alloc (tpO [.ref D1, .ref D2, .ref bd'])
    obtain ⟨b10, l10, _, e3, S⟩ := S.settle
    have l79 := l8.trans l9
    have Z1 := S.new (136, tk') (.head _)
    have Z2 := S.new (101, tg') (.tail _ (.head _))
    subst hex
    exact H b10 _ _ _ tk' tg' _ D1 D2 bd' ys1 k1 ys2 k2 oB kvs hG' (S.toEx (l06.trans (l67.trans (l79.trans l10))) fun p hp => .tail _ (.tail _ hp)) Z1.1 Z1.2.2 (TK'.mono (l7.trans (l79.trans l10))) Z2.1 Z2.2.2 (TG'.mono (l7.trans (l79.trans l10))) e3 (l10 _ _ (l9 _ _ e1)) J1 (l10 _ _ e2) J2 (l10 _ _ (l79 _ _ (l7 _ _ eB))) DB nB (BB.mono (l7.trans (l79.trans l10))) (by omega)
end
end Mine
end
section
open PySem PySem.W PyProof.Rows PySem.Spec PySem.Calls
namespace Mine
section
variable {prog : Program} {w : World} {n u : Nat} {h h₀ : Heap} {g : Array GenState} {d : Drawn} {t : Nat} {os : OsState} {Q E : Value → Shared → Prop} {a : Addr} {o : Obj} {fd : FuncData} {body : List Stmt} {args : List Value} {kw : List (Str × Value)} {binds : List (Str × Value)}
/-- a call of a def whose frame has cells: the mutable things are named -/
theorem enterCN (m : Loc) (ns : List (Addr × Obj)) (G : Gd w h₀) (hle : Le h₀ h) (hns : ∀ p ∈ ns, h.get? p.1 = some p.2 ∧ h₀.get? p.1 = none) (hndn : (ns.map (·.1)).Nodup) (ho : (KK w).lookup a = some o) (na : a ∉ tabs) (hdata : o.data = .func fd) {c : Nat} {oc : Obj} {vs : Array Value} {tq : Tok} (hc : fd.code = .ref c) (hco : (KK w).lookup c = some oc) (hcd : oc.data = .fields vs) (hq : vs[1]? = some (.str fd.qualname tq)) (nc : c ∉ tabs) (hroom : 300 + n < recursionLimit)
    (hbody : fd.body = .stmts body) (hbind : bindArgs fd ⟨args, []⟩ = pure binds) (hclo : fd.closure = [])
    (hkind : ∀ x ∈ binds, fd.scope.names.lookup x.1 = some .local ∨ (fd.scope.names.lookup x.1 = some .cell ∧ ((cellsFrom (h.objs.size + 1) fd.scope.names []).lookup x.1).isSome = true))
    (hm : ∀ p ∈ m, bindL (callEnvC fd h.objs.size a).kindOf binds (fun _ => none) p.1 = some p.2)
    (H : ∀ h' t' (O : Addr → Obj), (∀ x c, (cellsFrom (h.objs.size + 1) fd.scope.names []).lookup x = some c → (O c).data = .cell (bindC (callEnvC fd h.objs.size a).kindOf binds (fun _ => none) x)) →
      Sx h₀ h.objs.size m (((cellsFrom (h.objs.size + 1) fd.scope.names []).map fun p => (p.2, O p.2)) ++ ns) h' → wpAny (model prog w) (Ar (n + 1) (u + 3)) (execs body (callEnvC fd h.objs.size a)) (fun f s' => Q (match f with | .ret v => v | _ => .none) s') (fun _ _ => False) ⟨h', g, d, t', os⟩)
    (hnd : ((fd.scope.names.filter (·.2 == .cell)).map (·.1)).Nodup)
    (hco : fd.scope.isCoroutine = false) (hgen : fd.scope.isGenerator = false) (hk : fd.scope.kind = .function) : wpAny (model prog w) (Ar n u) (call (.ref a) args) Q E ⟨h, g, d, t, os⟩ := by
  have G' := G.mono hle
  refine wpAny_call (codeAny_call_cells (s := ⟨h, g, d, t, os⟩) hroom (G' a o ho na) hdata G'.c (G'.code hc ‹_› hcd hq nc) hbody hbind hclo hkind ?_ hco hgen hk)
  intro s₁ x
  obtain ⟨h₁, tk, rfl, keep⟩ := x.done
  have keep : Le h h₁ := keep
  refine wpAny_mono (Q := fun f s' => Q (match f with | .ret v => v | _ => .none) s') (E := fun _ _ => False) ?_ (fun _ _ q => q) (fun _ _ q => q.elim)
  have cl : ∀ p ∈ cellsFrom (h.objs.size + 1) fd.scope.names [], h₁.IsCell p.2 (bindC (callEnvC fd h.objs.size a).kindOf binds (fun _ => none) p.1) := fun p hp =>
    x.cell p.1 p.2 (lookup_of_nodup (by rw [show (callEnvC fd h.objs.size a).cells = cellsFrom (h.objs.size + 1) fd.scope.names [] from rfl, cells_keys]; simpa using (List.reverse_perm _).nodup_iff.mpr hnd) hp)
  have ab : ∀ p ∈ cellsFrom (h.objs.size + 1) fd.scope.names [], h.objs.size < p.2 := fun p hp => x.above p.1 p.2 hp
  refine H h₁ tk (fun c => (h₁.get? c).getD default) (fun y c e => ?_) ⟨⟨_, x.toInCall.ns, fun y v e => hm (y, v) (mem_of_lookup e)⟩, hle.trans keep, hle.none (none_of_size h (Nat.le_refl _)), fun p hp => ?_, ?_⟩
  · obtain ⟨o', e1, e2⟩ := x.cell y c e
    have e1 : h₁.get? c = some o' := e1
    show ((h₁.get? c).getD default).data = _
    rw [e1]; exact e2
  · rcases List.mem_append.mp hp with hp | hp
    · obtain ⟨q, hq, rfl⟩ := List.mem_map.mp hp
      obtain ⟨o', e1, e2⟩ := cl q hq
      refine ⟨?_, Nat.ne_of_gt (ab q hq), hle.none (none_of_size h (Nat.le_of_lt (ab q hq)))⟩
      show h₁.get? q.2 = some ((h₁.get? q.2).getD default)
      rw [e1]; rfl
    · obtain ⟨e1, e2⟩ := hns p hp
      exact ⟨keep _ _ e1, Nat.ne_of_lt (Heap.lt_size e1), e2⟩
  · rw [List.map_append, List.map_map]
    refine List.nodup_append.mpr ⟨?_, hndn, fun y hy z hz => ?_⟩
    · have ap : (cellsFrom (h.objs.size + 1) fd.scope.names []).Pairwise fun x y => x.2 ≠ y.2 := x.apart
      exact List.pairwise_map.mpr ap
    · obtain ⟨q, hq, rfl⟩ := List.mem_map.mp hy
      obtain ⟨p, hp, rfl⟩ := List.mem_map.mp hz
      have l1 := Heap.lt_size (hns p hp).1
      have l2 := ab q hq
      intro e
      have e : q.2 = p.1 := e
      rw [e] at l2
      exact Nat.lt_irrefl _ (Nat.lt_trans l2 l1)
end
section
variable {M : Model} {A : Around} {E : Value → Shared → Prop} {env : Env} {x : Str} {v : Value} {c : Addr} {o : Obj} {pos : Pos} {h₀ h : Heap} {m : Loc} {ns : List (Addr × Obj)} {g : Array GenState} {d : Drawn} {t : Nat} {os : OsState}
theorem asC {v₀ : Option Value} {Q : Unit → Shared → Prop} (S : Sx h₀ env.locals m ((c, o) :: ns) h) (hc : env.cells.lookup x = some c) (hd : o.data = .cell v₀)
    (H : ∀ h' o', o'.data = .cell (some v) → Sx h₀ env.locals m ((c, o') :: ns) h' → Q () ⟨h', g, d, t, os⟩)
    (hk : env.scope.kind = .function := by rfl) (hl : env.kindOf x = some .cell := by rfl) : wpAny M A (assign (.Name x pos) env v) Q E ⟨h, g, d, t, os⟩ := wpAny_assign_Name (st_cell S hc hd H hk hl)
end
/-- the two tables and the rest, outside the base -/
theorem two_tabs {h₀ h : Heap} {tk tg : Obj} (e136 : h.get? 136 = some tk) (n136 : h₀.get? 136 = none) (e101 : h.get? 101 = some tg) (n101 : h₀.get? 101 = none) :
    (∀ p ∈ (136, tk) :: (101, tg) :: exl h₀ ((h.hide 136).hide 101), h.get? p.1 = some p.2 ∧ h₀.get? p.1 = none) ∧ (((136, tk) :: (101, tg) :: exl h₀ ((h.hide 136).hide 101)).map (·.1)).Nodup := by
  constructor
  · intro p hp
    rcases List.mem_cons.mp hp with rfl | hp
    · exact ⟨e136, n136⟩
    rcases List.mem_cons.mp hp with rfl | hp
    · exact ⟨e101, n101⟩
    · exact ⟨Heap.of_hide (Heap.of_hide (mem_exl.mp hp).1), (mem_exl.mp hp).2⟩
  · have o1 : ∀ p ∈ exl h₀ ((h.hide 136).hide 101), p.1 ≠ 101 ∧ p.1 ≠ 136 := fun p hp => by
      have := (mem_exl.mp hp).1
      refine ⟨fun e => ?_, fun e => ?_⟩
      · rw [e, Heap.hide_self] at this; cases this
      · have := Heap.of_hide this; rw [e, Heap.hide_self] at this; cases this
    refine List.nodup_cons.mpr ⟨fun q => ?_, List.nodup_cons.mpr ⟨fun q => ?_, nodup_exl _ _⟩⟩
    · rcases List.mem_cons.mp q with q | q
      · exact absurd (show (136 : Nat) = 101 from q) (by decide)
      · obtain ⟨p, hp, e⟩ := List.mem_map.mp q; exact (o1 p hp).2 e
    · obtain ⟨p, hp, e⟩ := List.mem_map.mp q; exact (o1 p hp).1 e
def negS (sel : List (Nat × Int)) : List (Nat × Int) := sel.map fun p => (p.1, -p.2)
def SelPart (b : Heap) (ys : List Value) (sel : List (Nat × Int)) : Prop := ys.length = sel.length ∧ ∀ (i c : Nat) (d : Int), sel[i]? = some (c, d) → ∃ (a : Addr) (t u : Tok), ys[i]? = some (Value.ref a) ∧ IsTup b a (List.toArray [Value.int (c : Nat) t, Value.int d u])
theorem SelPart.snoc {b b' : Heap} {ys : List Value} {sel : List (Nat × Int)} {c : Nat} {d : Int} {a : Addr} {t u : Tok} (S : SelPart b ys sel) (le : Le b b') (T : IsTup b' a (List.toArray [Value.int (c : Nat) t, Value.int d u])) : SelPart b' (ys ++ [.ref a]) (sel ++ [(c, d)]) := by
  refine ⟨by simp [S.1], fun i c' d' hi => ?_⟩
  by_cases q : i < sel.length
  · rw [List.getElem?_append_left q] at hi
    rw [List.getElem?_append_left (by rw [S.1]; exact q)]
    obtain ⟨a, t, u, e, T⟩ := S.2 i c' d' hi
    exact ⟨a, t, u, e, istup T le⟩
  · rw [List.getElem?_append_right (by omega)] at hi
    rw [List.getElem?_append_right (by rw [S.1]; omega), S.1]
    have : i - sel.length = 0 := by
      cases h : i - sel.length with
      | zero => rfl
      | succ k => rw [h] at hi; simp at hi
    rw [this] at hi ⊢
    simp only [List.getElem?_cons_zero, Option.some.injEq, Prod.mk.injEq] at hi
    obtain ⟨rfl, rfl⟩ := hi
    exact ⟨a, t, u, rfl, T⟩
theorem Sx.r5 {b h : Heap} {L : Addr} {m : Loc} {ns : List (Addr × Obj)} {p q r s u : Addr × Obj} (S : Sx b L m (p :: q :: r :: s :: u :: ns) h) : Sx b L m (u :: p :: q :: r :: s :: ns) h :=
  S.reorder ((List.Perm.swap p u _).trans (((List.Perm.swap q u _).trans (((List.Perm.swap r u _).trans ((List.Perm.swap s u _).cons r)).cons q)).cons p))
theorem Sx.r5' {b h : Heap} {L : Addr} {m : Loc} {ns : List (Addr × Obj)} {p q r s u : Addr × Obj} (S : Sx b L m (u :: p :: q :: r :: s :: ns) h) : Sx b L m (p :: q :: r :: s :: u :: ns) h :=
  S.reorder (((List.Perm.swap p u _).trans (((List.Perm.swap q u _).trans (((List.Perm.swap r u _).trans ((List.Perm.swap s u _).cons r)).cons q)).cons p)).symm)
theorem wh2_lt {x : Co} (hx : x.In) : (whC x 2).toNat < 5 ∧ (((whC x 2).toNat : Nat) : Int) = whC x 2 := by
  have h : ((vals 2).all fun a => decide (0 ≤ a ∧ a < 5)) = true := by decide
  have := of_decide_eq_true (List.all_eq_true.mp h _ (whC_vals hx (by decide)))
  omega
section
variable {prog : Program} {w : World} {h h₀ : Heap} {g : Array GenState} {d : Drawn} {t : Nat} {os : OsState} {Q E : Value → Shared → Prop}
theorem along_spec (GX : GenOK prog w) (hG : AllBare g) {N : Nat} (hN : N ≤ 10) {xs : Nat → Co} {ra : Nat → Addr} {rl fl sl : Addr} {vf vs : List Value} {nf ns : Nat} {self sels : List (Nat × Int)} {tk tg : Obj}
    (G : Gd w h₀) (le : Le h₀ h) (e136 : h.get? 136 = some tk) (n136 : h₀.get? 136 = none) (TK : TabB h₀ tk) (e101 : h.get? 101 = some tg) (n101 : h₀.get? 101 = none) (TG : TabG h₀ tg)
    (hrl : h₀.IsList rl (rfs ra (List.range N)).toArray) (rows : ∀ j, j < N → RowOK h₀ (ra j) (xs j) j) (ef : h₀.get? fl = some (lsO vf nf)) (Sf : SelAt h₀ fl self) (es : h₀.get? sl = some (lsO vs ns)) (Ss : SelAt h₀ sl sels)
    (hf5 : ∀ p ∈ self, p.1 < 5) (hs5 : ∀ p ∈ sels, p.1 < 5) (hfl : self.length < 100) (hsl : sels.length < 100)
    (hbk : ∀ i ≤ N, ∀ k x, (keepL sels xs ((lineL (self ++ negS sels) xs (List.range N).reverse []).take i) ([], fun _ => none)).2 k = some x → x.2 < 41)
    (H : Back prog w true h₀ h d os (lineL (self ++ negS sels) xs (List.range N).reverse []) (keepL sels xs (lineL (self ++ negS sels) xs (List.range N).reverse []) ([], fun _ => none)).1 (keepL sels xs (lineL (self ++ negS sels) xs (List.range N).reverse []) ([], fun _ => none)).2 Q) :
    wpAny (model prog w) (Ar 15 35) (call (.ref 156) [.ref rl, .ref fl, .ref sl]) Q E ⟨h, g, d, t, os⟩ := by
  obtain ⟨tb1, tb2⟩ := two_tabs e136 n136 e101 n101
  refine enterCN (binds := [("rows", .ref rl), ("first", .ref fl), ("second", .ref sl)]) [("rows", .ref rl), ("first", .ref fl), ("second", .ref sl)] _ G le tb1 tb2 rfl (by decide) rfl rfl rfl rfl rfl (by decide) (by decide) rfl rfl rfl ?_ ?_ ?_ (by decide) rfl rfl rfl
  · intro x hx
    simp only [List.mem_cons, List.not_mem_nil, or_false] at hx
    rcases hx with rfl | rfl | rfl
    · exact .inl rfl
    · exact .inl rfl
    · exact .inl rfl
  · simp only [List.forall_mem_cons]; exact ⟨rfl, rfl, rfl, fun _ hp => nomatch hp⟩
  generalize hex : exl h₀ ((h.hide 136).hide 101) = ex
  intro h1 t1 O hO S
  have hO1 : (O (h.objs.size + 1)).data = .cell none := hO "row" (h.objs.size + 1) rfl
  have S : Sx h₀ h.objs.size [("rows", .ref rl), ("first", .ref fl), ("second", .ref sl)] ((h.objs.size + 1, O (h.objs.size + 1)) :: (136, tk) :: (101, tg) :: ex) h1 := S
  clear hO tb1 tb2
  generalize O (h.objs.size + 1) = oc at S hO1
  obtain ⟨zf, _⟩ := Sf.list ef
  obtain ⟨zs, _⟩ := Ss.list es
  -- rule = TupleComp(first + [..])
  obtain ⟨vs', hvs', hlen', hsel'⟩ := id Ss
  refine x_set <| e_callC (kp95 w) <| n_glb (G.mono S.keep) (gl_tc w) ⟨rfl, a_cons <| e_bin <| n_loc S rfl <| e_lc0 [] <| n_loc S rfl <| wpAny_pyIter_list (isl hvs' S.keep) <| lcI S (it_list rfl hvs') its_list (fun i b g' ys => g' = g ∧ SelPart b ys (negS (sels.take i))) (by rw [List.size_toArray]; omega) ⟨rfl, rfl⟩ ⟨rfl, rfl, fun i c d hi => by simp [negS] at hi⟩ ?_ ?_⟩
  · rintro C i v b g' ys m ns' h2 t2 hi hvi lb ⟨rfl, hJ⟩ - S
    rw [List.size_toArray, hlen'] at hi
    obtain ⟨⟨c, dr⟩, hcd⟩ : ∃ p, sels[i]? = some p := ⟨sels[i], by simp [hi]⟩
    obtain ⟨ta, v1, v2, hva, T⟩ := hsel' i c dr hcd
    have e : v = .ref ta := by
      have : vs'[i]? = some v := by simpa using hvi
      rw [hva] at this; exact (Option.some.inj this).symm
    subst e
    refine ast rfl (istup (istup T lb) S.keep) S fun h3 S _ => ao_cons <| as1 S fun h4 t4 S => ao_cons <| as1 S fun h5 t5 S => ao_nil ?_
    rw [List.forIn_nil]
    refine wpAny_pure ⟨fun _ => e_tup <| a_cons <| n_loc S rfl <| a_cons <| e_neg <| n_loc S rfl <| o_neg fun u3 t6 => a_nil ⟨sz rfl, ?_⟩, fun h => by cases h⟩
    have S := S.alloc (tpO [.int (c : Nat) v1, .int (-dr) u3])
    obtain ⟨b2, l2, _, e2, S⟩ := S.settle
    refine ⟨b2, _, _, _, _, rfl, l2, ⟨rfl, ?_⟩, S⟩
    have et : negS (sels.take (i + 1)) = negS (sels.take i) ++ [(c, -dr)] := by unfold negS; rw [List.take_succ, hcd, List.map_append]; rfl
    rw [et]
    exact hJ.snoc l2 (tpT e2)
  rintro D b0 g' ys kD h2 t2 l0 ⟨rfl, hJ⟩ S
  rw [List.size_toArray, hlen', List.take_length] at hJ
  obtain ⟨b00, l00, _, eD, S⟩ := S.settle
  have l0 := l0.trans l00
  have SD : SelAt b00 D (negS sels) := ⟨ys, ⟨_, eD, rfl, _, rfl⟩, hJ.1, fun i c d hi => let ⟨a, t, u, e, T⟩ := hJ.2 i c d hi; ⟨a, t, u, e, istup T l00⟩⟩
  have zD : ys.length = sels.length := by rw [hJ.1]; simp [negS]
  refine o_cat (S.keep _ _ (l0 _ _ ef)) (S.keep _ _ eD) (by omega) ?_
  have S := S.alloc (lsO (vf ++ ys) 0)
  generalize h2.objs.size = cl at S ⊢
  generalize h2.push (lsO (vf ++ ys) 0) = h2' at S ⊢
  obtain ⟨b1, l1, _, ec, S⟩ := S.settle
  have l01 := l0.trans l1
  refine a_nil ⟨(G.mono l01).mono S.keep, ar_le (tc_new ((G.mono l01).mono S.keep) fun h3 t3 r le nw => ?_) rfl (by decide) (by decide)⟩
  obtain ⟨b2, l2, _, nn, S⟩ := S.fresh le
  have R := nw b2 nn
  clear nw nn
  have l02 := l01.trans l2
  have l12 := l1.trans l2
  have Sfs : SelAt b2 cl (self ++ negS sels) := (Sf.mono l02).app (l02 _ _ ef) (SD.mono l12) (l12 _ _ eD) (l2 _ _ ec)
  have hfs5 : ∀ p ∈ self ++ negS sels, p.1 < 5 := fun p hp => (List.mem_append.mp hp).elim (hf5 p) fun hp => by
    obtain ⟨q, hq, rfl⟩ := List.mem_map.mp hp
    exact hs5 q hq
  refine st_loc S fun h4 t4 S => ?_
  -- line = []
  refine x_set <| e_list <| a_nil ⟨sz rfl, ?_⟩
  have S := S.alloc (lsO [] 0)
  generalize h4.objs.size = ln at S ⊢
  generalize h4.push (lsO [] 0) = h5 at S ⊢
  refine st_loc S fun h6 t6 S => ?_
  have S := S.r2
  have S := S.forget (m' := [("rows", .ref rl), ("first", .ref fl), ("second", .ref sl), ("rule", .ref r), ("line", .ref ln)]) (by simp only [List.forall_mem_cons]; exact ⟨rfl, rfl, rfl, rfl, rfl, fun _ hp => nomatch hp⟩)
  -- for row in rows[::-1]
  refine x_for <| e_rev <| n_loc S rfl <| e_neg <| c_int fun u7 t7 => o_neg fun u8 t8 => ⟨rl, rfs ra (List.range N), u8, _, _, _, _, _, rfl, rfl, rfl, isl (isl hrl l02) S.keep, by simp; omega, ?_⟩
  have S1 := S.alloc (slO .none .none (.int (-1) u8))
  have S2 := S1.alloc (lsO (rfs ra (List.range N)).reverse 0)
  rw [Heap.size_push] at S2
  clear S1 S
  generalize h6.objs.size + 1 = rv at S2 ⊢
  generalize hsh : (h6.push (slO .none .none (.int (-1) u8))).push (lsO (rfs ra (List.range N)).reverse 0) = h7 at S2 ⊢
  obtain ⟨b3, l3, _, erv, S⟩ := S2.settle
  have S := S.tl
  clear hsh S2
  have erev : (rfs ra (List.range N)).reverse = rfs ra (List.range N).reverse := by simp [rfs]
  rw [erev] at erv
  have hrv : b3.IsList rv (rfs ra (List.range N).reverse).toArray := ⟨_, erv, rfl, _, rfl⟩
  have l03 := l02.trans l3
  have R := R.mono l3
  have Sfs := Sfs.mono l3
  refine forL (l := rv) (items := (rfs ra (List.range N).reverse).toArray) (fun i b g'' m ns => g'' = g' ∧ Le b3 b ∧ m = ([("rows", .ref rl), ("first", .ref fl), ("second", .ref sl), ("rule", .ref r), ("line", .ref ln)] : Loc) ∧ ∃ tk n oc v₀, oc.data = .cell v₀ ∧ ns = (h.objs.size + 1, oc) :: (ln, lsO (rfs ra (lineL (self ++ negS sels) xs ((List.range N).reverse.take i) [])) n) :: (136, tk) :: (101, tg) :: ex ∧ TabB b tk) hrv ⟨rfl, Le.refl _, rfl, tk, 0, oc, _, hO1, rfl, TK.mono l03⟩ S ?_ ?_
  · rintro i v b g' m ns' h7 t7 it ob hi hv - ⟨rfl, lb, rfl, tk', n, oc', v₀, hoc, rfl, TK'⟩ S
    have hi : i < N := by simpa using hi
    obtain ⟨j, hj⟩ : ∃ j, (List.range N).reverse[i]? = some j := ⟨_, List.getElem?_eq_getElem (by simpa using hi)⟩
    have hjN : j < N := by have := List.mem_of_getElem? hj; simpa using this
    have ev : v = .ref (ra j) := by
      have : (rfs ra (List.range N).reverse)[i]? = some v := by simpa using hv
      rw [List.getElem?_map, hj] at this
      exact (Option.some.inj this).symm
    subst ev
    refine asC S.r2 rfl hoc fun h8 oc2 hoc2 S => ?_
    have Gb := G.mono (l03.trans lb)
    have Z := S.new (136, tk') (.tail _ (.tail _ (.tail _ (.head _))))
    have Zc := S.new (h.objs.size + 1, oc2) (.head _)
    refine x_expr <| e_callK <| n_glb (Gb.mono S.keep) (gl_il w) ⟨41, rfl, a_cons <| n_loc S rfl <| a_cons <| n_cell rfl Zc.1 hoc2 <| a_nil <| e_callF <| n_glb (Gb.mono S.keep) (gl_key w) ⟨141, rfl, a_cons <| n_loc S rfl <| a_cons <| n_cell rfl Zc.1 hoc2 <| a_nil ⟨⟨_, _, (Gb.mono S.keep) 141 _ rfl (by decide), rfl⟩, ar_le (lk_new (b := b) (Gb.mono S.keep) Z.1 TK' S.keep Z.2.2 fun h9 t9 q tk2 le e2 post => ?_) rfl (by decide) (by decide)⟩⟩⟩
    obtain ⟨b4, l4, _, nn, S⟩ := S.r4.fresh1 le e2
    obtain ⟨TK2, LA⟩ := post b4 l4 nn
    clear post nn
    have S := S.r4'.r3
    obtain ⟨oq, fq, eq, dq⟩ := lam_fn LA
    have G3 := Gb.mono l4
    have lnH := S.leHide
    have l34 := lb.trans l4
    have l04 := l03.trans l34
    have rows4 : ∀ j, j < N → RowOK b4 (ra j) (xs j) j := fun j hj => (rows j hj).mono l04
    have his : ∀ k ∈ lineL (self ++ negS sels) xs ((List.range N).reverse.take i) [], k < N := fun k hk => by
      rcases (lineL_mem ..).mp hk with hk | hk
      · have := List.mem_of_mem_take hk; simpa using this
      · cases hk
    have hlen : (lineL (self ++ negS sels) xs ((List.range N).reverse.take i) []).length = i := by rw [lineL_len, List.length_take]; simp; omega
    have K0 : KeyIs prog w (Ar 21 63) b4 q (.ref (ra j)) 0 := by
      have K := key_spec (prog := prog) G3 LA (R.mono l34) (Sfs.mono l34) hfs5 (rows4 j hjN).at (rows4 j hjN).at
      have hx : (xs j).In := let ⟨_, _, _, x⟩ := rows4 j hjN; x
      rw [cmpF_W hx hx hfs5, cmpW_self] at K
      exact K
    refine ⟨⟨_, _, (G3.mono S.keep) 41 _ rfl (by decide), rfl⟩, ar_le (il_spec (kf := fun k => cmpW (self ++ negS sels) (xs ((lineL (self ++ negS sels) xs ((List.range N).reverse.take i) [])[k]?.getD 0)) (xs j)) (k0 := 0) (G3.mono lnH) (S.new _ (.head _)).1 (by rw [List.length_map, hlen]; omega) (lnH _ _ eq) dq (fun k v hv => (keys_of G3 LA (R.mono l34) (Sfs.mono l34) hfs5 rows4 hjN his k v hv).le (Nat.le_refl _) (Nat.le_refl _) lnH) (K0.le (Nat.le_refl _) (Nat.le_refl _) lnH) fun h10 t10 le e => ?_) rfl (by decide) (by decide)⟩
    have et : (List.range N).reverse.take (i + 1) = (List.range N).reverse.take i ++ [j] := by rw [List.take_succ, hj]; rfl
    have e' : h10.get? ln = some (lsO (rfs ra (lineL (self ++ negS sels) xs ((List.range N).reverse.take (i + 1)) [])) (n + 1)) := by
      rw [e, et, lineL_snoc, rfs_ins]; simp only [List.length_map]; rfl
    have S := S.turn (fun x ox hne ex => le x ox (by rw [Heap.hide_ne _ hne]; exact ex)) e'
    refine ⟨(fun _ e => by cases e), x_nil (.inl ⟨rfl, b4, _, _, _, _, _, rfl, l4, ⟨rfl, l34, rfl, tk2, n + 1, oc2, _, hoc2, rfl, TK2⟩, S.r3'.r2.forget ?_⟩)⟩
    simp only [List.forall_mem_cons]; exact ⟨rfl, rfl, rfl, rfl, rfl, fun _ hp => nomatch hp⟩
  rintro b g' m ns' h7 t7 - ⟨rfl, lb, rfl, tk1, n1, oc1, v₁, hoc1, rfl, TK1⟩ S
  have hsz : (rfs ra (List.range N).reverse).toArray.size = N := by simp
  have htk : (List.range N).reverse.take N = (List.range N).reverse := List.take_of_length_le (by simp)
  rw [hsz, htk] at S
  generalize hline : lineL (self ++ negS sels) xs (List.range N).reverse [] = line at S H hbk
  have hlN : line.length = N := by rw [← hline, lineL_len]; simp
  have hlm : ∀ j ∈ line, j < N := fun j hj => by
    rw [← hline] at hj
    rcases (lineL_mem ..).mp hj with hj | hj
    · simpa using hj
    · cases hj
  obtain ⟨b4, l4, _, eln, S⟩ := S.r2.settle
  have l04 := (l03.trans lb).trans l4
  have TK1 := TK1.mono l4
  have G4 := G.mono l04
  -- rule = TupleComp(second)
  refine x_set <| e_callC (kp95 w) <| n_glb (G4.mono S.keep) (gl_tc w) ⟨rfl, a_cons <| n_loc S rfl <| a_nil ⟨G4.mono S.keep, ar_le (tc_new (G4.mono S.keep) fun h8 t8 r2 le nw => ?_) rfl (by decide) (by decide)⟩⟩
  obtain ⟨b5, l5, _, nn, S⟩ := S.fresh le
  have R2 := nw b5 nn
  clear nw nn le R
  refine st_loc S fun h9 t9 S => ?_
  -- kept = []
  refine x_set <| e_list <| a_nil ⟨sz rfl, ?_⟩
  have S := S.alloc (lsO [] 0)
  generalize h9.objs.size = kd at S ⊢
  generalize h9.push (lsO [] 0) = h10 at S ⊢
  refine st_loc S fun h11 t11 S => ?_
  -- books = {}
  refine x_set <| wpAny_Dict_empty ?_
  have S := S.alloc dtO
  generalize hbd : h11.objs.size = bd at S ⊢
  show wpAny _ _ (storeName _ _ _) _ _ ⟨h11.push dtO, _, _, _, _⟩
  generalize h11.push dtO = h12 at S ⊢
  have G5 := G4.mono l5
  have nbd := nosys G5 (S.new _ (.head _)).2.2
  refine st_loc S fun h13 t13 S => ?_
  obtain ⟨b6, l6, _, ebd, S⟩ := S.settle
  have l46 := l5.trans l6
  have l06 := l04.trans l46
  have S := S.forget (m' := [("rule", .ref r2), ("line", .ref ln), ("kept", .ref kd), ("books", .ref bd)]) (by simp only [List.forall_mem_cons]; exact ⟨rfl, rfl, rfl, rfl, fun _ hp => nomatch hp⟩)
  have R2 := R2.mono l6
  have Ss6 := Ss.mono l06
  have rows6 : ∀ j, j < N → RowOK b6 (ra j) (xs j) j := fun j hj => (rows j hj).mono l06
  have hln6 : b6.IsList ln (rfs ra line).toArray := ⟨_, l46 _ _ eln, rfl, _, rfl⟩
  have G6 := G5.mono l6
  refine x_for <| n_loc S rfl <| forL (l := ln) (items := (rfs ra line).toArray) (fun i b g' m ns => AllBare g' ∧ Le b6 b ∧ ∃ tk tg n bd oB kvs oc v₀, oc.data = .cell v₀ ∧ m = ([("rule", .ref r2), ("line", .ref ln), ("kept", .ref kd), ("books", .ref bd)] : Loc) ∧ ns = (h.objs.size + 1, oc) :: (kd, lsO (rfs ra (keepL sels xs (line.take i) ([], fun _ => none)).1) n) :: (136, tk) :: (101, tg) :: ex ∧ TabB b tk ∧ TabG b tg ∧ b.get? bd = some oB ∧ DO prog w oB kvs ∧ (bd == sysModules) = false ∧ BkAt true b kvs (keepL sels xs (line.take i) ([], fun _ => none)).2 ∧ kvs.length ≤ 10 * i) hln6 ⟨hG, Le.refl _, tk1, tg, 0, bd, _, [], oc1, _, hoc1, rfl, rfl, TK1.mono l46, TG.mono l06, ebd, do_empty, nbd, (fun _ => rfl), Nat.le_refl _⟩ S.r2 ?_ ?_
  · rintro i v b g'' m ns' h7 t7 it ob hi hv - ⟨hG', lb6, tk', tg', n, bd', oB, kvs, oc', v₀, hoc, rfl, rfl, TK', TG', eB, DB, nB, BB, zB⟩ S
    have hi : i < line.length := by simpa using hi
    obtain ⟨j, hj⟩ : ∃ j, line[i]? = some j := ⟨line[i], by simp [hi]⟩
    have hjN := hlm j (List.mem_of_getElem? hj)
    have ev : v = .ref (ra j) := by
      have : (rfs ra line)[i]? = some v := by simpa using hv
      rw [List.getElem?_map, hj] at this
      exact (Option.some.inj this).symm
    subst ev
    have ekeep : line.take (i + 1) = line.take i ++ [j] := by rw [List.take_succ, hj]; rfl
    have estep := keepL_snoc sels xs j (line.take i) ([], fun _ => none)
    rw [← ekeep] at estep
    have hkl : (keepL sels xs (line.take i) ([], fun _ => none)).1 = lineL sels xs (line.take i) [] := keepL_line ..
    have hkm : ∀ k ∈ (keepL sels xs (line.take i) ([], fun _ => none)).1, k < N := fun k hk => by
      rw [hkl] at hk
      rcases (lineL_mem ..).mp hk with hk | hk
      · exact hlm k (List.mem_of_mem_take hk)
      · cases hk
    have hkz : (keepL sels xs (line.take i) ([], fun _ => none)).1.length = i := by rw [hkl, lineL_len, List.length_take]; simp; omega
    have hbki := hbk i (by omega)
    generalize hks : keepL sels xs (line.take i) ([], fun _ => none) = kst at *
    obtain ⟨kp, bk⟩ := kst
    simp only at hkm hkz BB estep S hbki
    clear hkl hks
    refine asC S.r2 rfl hoc fun h8 oc2 hoc2 S => ?_
    have Gb := G6.mono lb6
    have Z := S.new (136, tk') (.tail _ (.tail _ (.tail _ (.head _))))
    have Zc := S.new (h.objs.size + 1, oc2) (.head _)
    refine x_set <| e_callK <| n_glb (Gb.mono S.keep) (gl_bisect_left w) ⟨50, rfl, a_cons <| n_loc S rfl <| a_cons <| c_int fun u0 t0 => a_nil <| e_callF <| n_glb (Gb.mono S.keep) (gl_key w) ⟨141, rfl, a_cons <| n_loc S rfl <| a_cons <| n_cell rfl Zc.1 hoc2 <| a_nil ⟨⟨_, _, (Gb.mono S.keep) 141 _ rfl (by decide), rfl⟩, ar_le (lk_new (b := b) (Gb.mono S.keep) Z.1 TK' S.keep Z.2.2 fun h9 t9 q tk2 le e2 post => ?_) rfl (by decide) (by decide)⟩⟩⟩
    obtain ⟨b3, l3, _, nn, S⟩ := S.r4.fresh1 le e2
    obtain ⟨TK2, LA⟩ := post b3 l3 nn
    clear post nn le e2 Z Zc
    have S := S.r4'
    obtain ⟨oq, fq, eq, dq⟩ := lam_fn LA
    have G3 := Gb.mono l3
    have l63 := lb6.trans l3
    have rows3 : ∀ j, j < N → RowOK b3 (ra j) (xs j) j := fun j hj => (rows6 j hj).mono l63
    have Zk := S.new (kd, lsO (rfs ra kp) n) (.tail _ (.tail _ (.head _)))
    refine ⟨⟨_, _, (G3.mono S.keep) 50 _ rfl (by decide), rfl⟩, ar_le (bl_any (fun j' => cmpW sels (xs (kp[j']?.getD 0)) (xs j)) (G3.mono S.keep) (items := (rfs ra kp).toArray) ⟨_, Zk.1, rfl, _, rfl⟩ (by simp; omega) (S.keep _ _ eq) dq (fun j' v hv => (keys_of G3 LA (R2.mono l63) (Ss6.mono l63) hs5 rows3 hjN hkm j' v (by simpa using hv)).le (Nat.le_refl _) (Nat.le_refl _) S.keep) (bl_bind2 (G3.mono S.keep)) fun h10 t10 u10 le => ?_) rfl (by decide) (by decide)⟩
    have ep : bs (fun i => !decide (cmpW sels (xs (kp[i]?.getD 0)) (xs j) < 0)) (rfs ra kp).toArray.size 0 (rfs ra kp).toArray.size = plL sels xs kp j := by
      unfold plL; simp
    rw [ep]
    have S := S.keeps le
    clear le ep Zk
    generalize hpl : plL sels xs kp j = pl at *
    have hple : pl ≤ kp.length := by rw [← hpl]; exact plL_le ..
    refine st_loc S fun h11 t11 S => ?_
    -- books = add_callers(books, {..})
    have Zk := S.new (kd, lsO (rfs ra kp) n) (.tail _ (.tail _ (.head _)))
    refine x_set <| e_callF <| n_glb (G3.mono S.keep) (gl_add w) ⟨106, rfl, a_cons <| n_loc S rfl <| a_cons <| e_dc0 [("row", h.objs.size + 1)] <| e_upto <| n_loc S rfl <| n_loc S rfl ⟨kd, rfs ra kp, pl, u10, _, _, _, _, _, rfl, rfl, rfl, ⟨_, Zk.1, rfl, _, rfl⟩, by simp; omega, ?_⟩⟩
    clear Zk
    have S1 := S.alloc (slO .none (.int pl u10) .none)
    have S2 := S1.alloc (lsO ((rfs ra kp).take pl) 0)
    rw [Heap.size_push] at S2
    clear S1 S
    generalize h11.objs.size + 1 = sd at S2 ⊢
    generalize hsh : (h11.push (slO .none (.int pl u10) .none)).push (lsO ((rfs ra kp).take pl) 0) = h12 at S2 ⊢
    obtain ⟨b7, l7, _, esd, S⟩ := S2.settle
    have S := S.tl
    clear hsh S2
    have etake : (rfs ra kp).take pl = rfs ra (kp.take pl) := by simp [rfs]
    rw [etake] at esd
    have hsd : b7.IsList sd (rfs ra (kp.take pl)).toArray := ⟨_, esd, rfl, _, rfl⟩
    have l67 := l63.trans l7
    have rows7 : ∀ j, j < N → RowOK b7 (ra j) (xs j) j := fun j hj => (rows6 j hj).mono l67
    obtain ⟨hq5, hqe⟩ := wh2_lt (let ⟨_, _, _, x⟩ := rows7 j hjN; x : (xs j).In)
    have hcol : col (xs j) 2 = due (((whC (xs j) 2).toNat : Nat) : Int) 2 := by rw [hqe]; exact col_due (let ⟨_, _, _, x⟩ := rows7 j hjN; x) (by decide)
    generalize hqq : (whC (xs j) 2).toNat = qq at *
    refine wpAny_pyIter_list (isl hsd S.keep) <| dcI S (it_list rfl hsd) its_list (fun i b g3 kvs => g3 = g'' ∧ BkAt true b kvs (bk1 ((kp.take pl).take i) (1, qq)) ∧ kvs.length ≤ i) (by simp; omega) ⟨rfl, rfl⟩ ⟨rfl, (fun _ => rfl), Nat.le_refl _⟩ ?_ ?_
    · rintro C i2 v b g3 kvs' m ns' h13 t13 hi2 hv2 l7b ⟨rfl, BJ, zJ⟩ sub S
      have hv2 : (rfs ra (kp.take pl))[i2]? = some v := by simpa using hv2
      rw [List.getElem?_map] at hv2
      obtain ⟨k, hk, rfl⟩ := Option.map_eq_some_iff.mp hv2
      have hkN := hkm k (List.mem_of_mem_take (List.mem_of_getElem? hk))
      refine as1 S fun h14 t14 S => ?_
      rw [List.forIn_nil]
      have Zc := S.new (h.objs.size + 1, oc2) (sub _ (.head _))
      refine wpAny_pure ⟨fun _ => e_sub <| n_loc S rfl <| c_int fun u1 t1 => i_place (((rows7 k hkN).mono l7b).mono S.keep) fun u2 => e_tup <| a_cons <| c_int fun u3 t3 => a_cons <| e_sub <| n_cell rfl Zc.1 hoc2 <| c_int fun u4 t4 => i_value (((rows7 j hjN).mono l7b).mono S.keep) fun u5 => a_nil ⟨sz rfl, ?_⟩, fun h => by cases h⟩
      rw [hcol]
      have S := S.alloc (tpO [.int 1 u3, .float (due (qq : Int) 2) (u5 + 1)])
      obtain ⟨b2, l2, _, e2, S⟩ := S.settle
      refine ⟨b2, _, _, _, _, k, u2, rfl, rfl, l2, ⟨rfl, (BJ.mono l2).put (x := (1, qq)) ⟨_, u3, u5, rfl, e2⟩ fun k' => ?_, ?_⟩, S⟩
      · rw [List.take_succ, hk]; exact bk1_snoc _ _ _ _
      · refine Nat.le_trans (stored_length_le ..) (by omega)
    rintro D b7' g3 kvs' oD h13 t13 l77 ⟨rfl, BJ, zJ⟩ DD S
    have ndD := nosys ((G6.mono l67).mono l77) (S.new _ (.head _)).2.2
    obtain ⟨b8, l8', _, eD, S⟩ := S.settle
    have BJ := BJ.mono l8'
    have l8 := l77.trans l8'
    have l68 := l67.trans l8
    have l38 := l7.trans l8
    have esz : (rfs ra (kp.take pl)).toArray.size = (kp.take pl).length := by simp
    rw [esz, List.take_length] at BJ
    rw [esz] at zJ
    have zJ : kvs'.length ≤ 10 := by have := List.length_take_le pl kp; omega
    have G8 := G6.mono l68
    have Z1 := S.new (101, tg') (.tail _ (.tail _ (.tail _ (.tail _ (.head _)))))
    refine a_nil ⟨⟨_, _, (G8.mono S.keep) 106 _ rfl (by decide), rfl⟩, ar_le (add_spec GX hG' true G8 S.keep Z1.1 Z1.2.2 (TG'.mono (l3.trans l38)) ((l3.trans l38) _ _ eB) DB nB eD DD ndD (BB.mono (l3.trans l38)) BJ (fun _ => ⟨fun k y hy => by unfold bk1 at hy; split at hy <;> cases hy; exact hq5, hbki⟩) (by omega) fun b9 g9 h14 t14 tg9 rb oR kr hG9 exx e1 n1 T9 er nr DR BR lr => ?_) rfl (by decide) (by decide)⟩
    have S := (S.r5.ex1 exx e1 n1).r5'
    have l89 : Le b8 b9 := exx.1
    have nrb := nosys G8 nr
    refine st_loc S fun h15 t15 S => ?_
    -- kept.insert(place, row)
    have Zk := S.new (kd, lsO (rfs ra kp) n) (.tail _ (.tail _ (.head _)))
    have Zc := S.new (h.objs.size + 1, oc2) (.head _)
    refine x_expr <| e_methB F.plainAttrs_list F.slot_list_insert F.type_list_insert <| n_loc S rfl ⟨kd, _, rfl, Zk.1, rfl, rfl, a_cons <| n_loc S rfl <| a_cons <| n_cell rfl Zc.1 hoc2 <| a_nil <| b_insert S.r3 (by simpa using hple) (by simp; omega) fun h16 S => ⟨(fun _ e => by cases e), x_nil (.inl ⟨rfl, b9, _, _, _, _, _, rfl, (l3.trans l38).trans l89, ⟨hG9, l68.trans l89, tk2, tg9, n + 1, rb, oR, kr, oc2, _, hoc2, rfl, rfl, TK2.mono (l38.trans l89), T9, er, DR, nrb, ?_, by omega⟩, ?_⟩)⟩⟩
    · rw [estep]; exact BR
    · have S := S.r3'.r2
      rw [estep]
      rw [← rfs_ins] at S
      refine S.forget ?_
      simp only [List.forall_mem_cons]; exact ⟨rfl, rfl, rfl, rfl, fun _ hp => nomatch hp⟩
  · rintro b g' m ns' h7 t7 - ⟨hG', lb6, tk', tg', n, bd', oB, kvs, oc', v₀, hoc, rfl, rfl, TK', TG', eB, DB, nB, BB, zB⟩ S
    have esz : (rfs ra line).toArray.size = line.length := by simp
    rw [esz, List.take_length] at S BB
    have hkl : (keepL sels xs line ([], fun _ => none)).1 = lineL sels xs line [] := keepL_line ..
    have hkm : ∀ k ∈ (keepL sels xs line ([], fun _ => none)).1, k < N := fun k hk => by
      rw [hkl] at hk
      rcases (lineL_mem ..).mp hk with hk | hk
      · exact hlm k hk
      · cases hk
    have hkz : (keepL sels xs line ([], fun _ => none)).1.length = N := by rw [hkl, lineL_len]; simp; omega
    generalize hks : keepL sels xs line ([], fun _ => none) = kst at *
    obtain ⟨kp, bk⟩ := kst
    simp only at hkm hkz BB S H
    obtain ⟨b7, l7, _, ekd, S⟩ := S.r2.settle
    have S := S.tl
    have l67 := lb6.trans l7
    have rows7 : ∀ j, j < N → RowOK b7 (ra j) (xs j) j := fun j hj => (rows6 j hj).mono l67
    have hln7 := isl hln6 l67
    refine x_ret <| e_tup <| a_cons <| e_lc0 [] <| n_loc S rfl <| wpAny_pyIter_list (isl hln7 S.keep) <| lcI S (it_list rfl hln7) its_list (fun i b g'' ys => g'' = g' ∧ b = b7 ∧ IntsAre ys ((line.take i).map Int.ofNat)) (by simp; omega) ⟨rfl, rfl⟩ ⟨rfl, rfl, .nil⟩ (places_turn hlm rows7 (fun _ => rfl) fun _ => rfl) ?_
    rintro D1 b g'' ys1 k1 h8 t8 - ⟨rfl, rfl, J1⟩ S
    rw [esz, List.take_length] at J1
    obtain ⟨b8, l8, _, e1, S⟩ := S.settle
    have rows8 : ∀ j, j < N → RowOK b8 (ra j) (xs j) j := fun j hj => (rows7 j hj).mono l8
    have hkd8 : b8.IsList kd (rfs ra kp).toArray := ⟨_, l8 _ _ ekd, rfl, _, rfl⟩
    refine a_cons <| e_lc0 [] <| n_loc S rfl <| wpAny_pyIter_list (isl hkd8 S.keep) <| lcI S (it_list rfl hkd8) its_list (fun i b g3 ys => g3 = g'' ∧ b = b8 ∧ IntsAre ys ((kp.take i).map Int.ofNat)) (by simp; omega) ⟨rfl, rfl⟩ ⟨rfl, rfl, .nil⟩ (places_turn hkm rows8 (fun _ => rfl) fun _ => rfl) ?_
    rintro D2 b g3 ys2 k2 h9 t9 - ⟨rfl, rfl, J2⟩ S
    have esz2 : (rfs ra kp).toArray.size = kp.length := by simp
    rw [esz2, List.take_length] at J2
    obtain ⟨b9, l9, _, e2, S⟩ := S.settle
    refine a_cons <| n_loc S rfl <| a_nil ⟨sz rfl, ?_⟩
    have S := S.alloc (tpO [.ref D1, .ref D2, .ref bd'])
    obtain ⟨b10, l10, _, e3, S⟩ := S.settle
    have l79 := l8.trans l9
    have Z1 := S.new (136, tk') (.head _)
    have Z2 := S.new (101, tg') (.tail _ (.head _))
    subst hex
    exact H b10 _ _ _ tk' tg' _ D1 D2 bd' ys1 k1 ys2 k2 oB kvs hG' (S.toEx (l06.trans (l67.trans (l79.trans l10))) fun p hp => .tail _ (.tail _ hp)) Z1.1 Z1.2.2 (TK'.mono (l7.trans (l79.trans l10))) Z2.1 Z2.2.2 (TG'.mono (l7.trans (l79.trans l10))) e3 (l10 _ _ (l9 _ _ e1)) J1 (l10 _ _ e2) J2 (l10 _ _ (l79 _ _ (l7 _ _ eB))) DB nB (BB.mono (l7.trans (l79.trans l10))) (by omega)
end
end Mine
end
section
open PySem PySem.W PyProof.Rows PySem.Spec PySem.Calls
open PySem.AutoSeq1 (wpAny_loadPart')
open PySem.MeetsSeq PySem.MeetsSeq3
namespace Mine
/-- the order of lists of ints -/
def ltL : List Int → List Int → Bool
  | [], [] => false
  | [], _ :: _ => true
  | _ :: _, [] => false
  | a :: r, b :: q => if a = b then ltL r q else decide (a < b)
theorem lt_loop (l b : Addr) (vs us : List Value) (ns ms : List Int) (n n2 : Nat) (hv : IntsAre vs ns) (hu : IntsAre us ms) (k : Nat) :
    ∀ i : Nat, vs.length - i = k → i ≤ vs.length → Meets (Builtin.«list.__eq__.loop» ⟨[.ref l, .ref b, rawInt i, rawInt 0], []⟩)
      (fun _ R s => s.heap.get? l = some (lsO vs n) ∧ s.heap.get? b = some (lsO us n2) ∧ R (.ok (.ret (.bool (ltL (ns.drop i) (ms.drop i))))) s) := by
  induction k with
  | zero =>
    intro i hk hle prog w A R s h
    obtain ⟨hp, g, d, tk, os⟩ := s; obtain ⟨hl, hb, h⟩ := h
    wp_walk using wpAny_loadPart' hl, wpAny_loadPart' hb
    have hi1 : vs.toArray[((i : Nat) : Int).toNat]? = none := by simp; omega
    have hd : ns.drop i = [] := by rw [List.drop_eq_nil_iff, ← ints_len hv]; omega
    rw [hd] at h
    rw [hi1]
    wp_walk using wpAny_loadPart' hl, wpAny_loadPart' hb
    show R (.ok (.ret (.bool (decide (vs.toArray.size < us.toArray.size))))) _
    have e : decide (vs.toArray.size < us.toArray.size) = ltL [] (ms.drop i) := by
      simp only [List.size_toArray]
      by_cases q : us.length ≤ i
      · have : ms.drop i = [] := by rw [List.drop_eq_nil_iff, ← ints_len hu]; exact q
        rw [this]; simp [ltL]; omega
      · have hlt : i < ms.length := by rw [← ints_len hu]; omega
        rw [List.drop_eq_getElem_cons hlt]; simp [ltL]; omega
    rw [e]; exact h
  | succ k ih =>
    intro i hk hle prog w A R s h
    obtain ⟨hp, g, d, tk, os⟩ := s; obtain ⟨hl, hb, h⟩ := h
    wp_walk using wpAny_loadPart' hl, wpAny_loadPart' hb
    have hlt : i < ns.length := by rw [← ints_len hv]; omega
    obtain ⟨tv, ev⟩ := ints_get hv (k := i) (n := ns[i]) (by simp [hlt])
    have hi1 : vs.toArray[((i : Nat) : Int).toNat]? = some (.int ns[i] tv) := by simpa using ev
    rw [hi1]
    by_cases q : i < ms.length
    · obtain ⟨tu, eu⟩ := ints_get hu (k := i) (n := ms[i]) (by simp [q])
      have hi2 : us.toArray[((i : Nat) : Int).toNat]? = some (.int ms[i] tu) := by simpa using eu
      rw [hi2]
      rw [List.drop_eq_getElem_cons hlt, List.drop_eq_getElem_cons q, ltL] at h
      have hc : ((i : Int) + 1) = ((i + 1 : Nat) : Int) := by push_cast; rfl
      refine wpAny_bind (wpAny_eqBool_int ?_)
      by_cases e : ns[i] = ms[i]
      · rw [if_pos e] at h
        rw [show (ns[i] == ms[i]) = true by simpa using e]
        wp_walk
        rw [hc]
        exact ⟨plainId_quiet plain_eq_loop _, codeAny_builtin entry_eq_loop (by
          rw [Around.under_plainId plain_eq_loop _]
          exact ih (i + 1) (by omega) (by omega) prog w A R _ ⟨hl, hb, h⟩)⟩
      · rw [if_neg e] at h
        rw [show (ns[i] == ms[i]) = false by simpa using e]
        wp_walk using wpAny_loadPart' hl, wpAny_loadPart' hb
        rw [hi1, hi2]
        refine wpAny_bind (wpAny_lt_int (A := A.in1) ?_)
        exact wpAny_pure h
    · have hi2 : us.toArray[((i : Nat) : Int).toNat]? = none := by simp; rw [ints_len hu]; omega
      rw [hi2]
      rw [List.drop_eq_getElem_cons hlt, show ms.drop i = [] by rw [List.drop_eq_nil_iff]; omega, ltL] at h
      wp_walk using wpAny_loadPart' hl, wpAny_loadPart' hb
      show R (.ok (.ret (.bool (decide (vs.toArray.size < us.toArray.size))))) _
      have e : decide (vs.toArray.size < us.toArray.size) = false := by
        simp only [List.size_toArray]
        have := ints_len hu; have := ints_len hv
        simp; omega
      rw [e]; exact h
end Mine
end
section
open PySem PySem.W PyProof.Rows PySem.Spec PySem.Calls
open PySem.AutoSeq1 (wpAny_loadPart')
open PySem.MeetsSeq PySem.MeetsSeq3
namespace Mine
theorem list_lt (l b : Addr) (vs us : List Value) (ns ms : List Int) (n n2 : Nat) (hv : IntsAre vs ns) (hu : IntsAre us ms) :
    Meets (Builtin.«list.__lt__» ⟨[.ref l, .ref b], []⟩) (fun _ R s => s.heap.get? l = some (lsO vs n) ∧ s.heap.get? b = some (lsO us n2) ∧ R (.ok (.ret (.bool (ltL ns ms)))) s) := by
  intro prog w A R s h
  obtain ⟨hp, g, d, tk, os⟩ := s; obtain ⟨hl, hb, h⟩ := h
  have f3 := AutoSeq1.sub_list_list
  wp_walk using wpAny_loadPart' hl, wpAny_loadPart' hb
  exact ⟨plainId_quiet plain_eq_loop _, codeAny_builtin entry_eq_loop (by
    rw [Around.under_plainId plain_eq_loop _]
    exact lt_loop l b vs us ns ms n n2 hv hu _ 0 rfl (Nat.zero_le _) prog w A R _ ⟨hl, hb, by simpa using h⟩)⟩
section
variable {prog : Program} {w : World} {A : Around} {E : Value → Shared → Prop} {h : Heap} {g : Array GenState} {d : Drawn} {t : Nat} {os : OsState} {Q : Value → Shared → Prop}
theorem o_ltL {a b : Addr} {vs us : List Value} {ns ms : List Int} {n n2 : Nat} (ea : h.get? a = some (lsO vs n)) (eb : h.get? b = some (lsO us n2)) (hv : IntsAre vs ns) (hu : IntsAre us ms) (hA : A.units < 1000) (H : Q (.bool (ltL ns ms)) ⟨h, g, d, t, os⟩) :
    wpAny (model prog w) A (compareOp .Lt (.ref a) (.ref b)) Q E ⟨h, g, d, t, os⟩ := by
  show wpAny (model prog w) A (richCompare .Lt (.ref a) (.ref b)) Q E ⟨h, g, d, t, os⟩
  exact richCompare_meets_room (s := ⟨h, g, d, t, os⟩) (T := "list") ⟨_, ea, rfl⟩ ⟨_, eb, rfl⟩ F.slot_list_lt F.entry_list_lt (F.args_list_lt_2 _ _) (list_lt a b vs us ns ms n n2 hv hu) ⟨ea, eb, (nomatch ·), H⟩ (Nat.lt_of_lt_of_le hA (Nat.le_of_ble_eq_true rfl))
theorem o_neI {a b : Addr} {vs us : List Value} {ns ms : List Int} (ea : h.IsList a vs.toArray) (eb : h.IsList b us.toArray) (hv : IntsAre vs ns) (hu : IntsAre us ms) (hA : A.units < 500) (H : Q (.bool (!decide (ns = ms))) ⟨h, g, d, t, os⟩) :
    wpAny (model prog w) A (compareOp .NotEq (.ref a) (.ref b)) Q E ⟨h, g, d, t, os⟩ :=
  ne_intsK (s := ⟨h, g, d, t, os⟩) ea hv eb hu (Nat.lt_of_lt_of_le (Nat.add_lt_add_right hA 64) (Nat.le_of_ble_eq_true rfl)) H
theorem b_sum {l : Addr} {vs : List Value} {ns : List Int} (hh : A.handled = none) (hl : h.IsList l vs.toArray) (hi : IntsAre vs ns) (H : ∀ h' t' u, Le h h' → Q (.int ns.sum u) ⟨h', g, d, t', os⟩) : wpAny (model prog w) A (call (.builtin "sum") [.ref l]) Q E ⟨h, g, d, t, os⟩ := by
  obtain ⟨xs, hx⟩ := hi.allInts.items
  have hl' : h.IsList l (intItems xs) := hx ▸ hl
  refine sum_intListG (s := ⟨h, g, d, t, os⟩) hh hl' fun h' tk t' hk => ?_
  have e1 : ns = xs.toList.map (·.1) := by
    rw [← nums_intItems, ← hx]
    exact (show numsOf vs.toArray.toList = ns from hi.numsOf).symm
  have e2 : preSum (numAt xs) xs.size = ns.sum := by
    rw [preSum_eq, List.take_of_length_le (by simp), e1]
  rw [e2]
  exact H h' tk t' hk
end
end Mine
end
section
open PySem PySem.W PyProof.Rows PySem.Spec PySem.Calls
namespace Mine
theorem ifs1 {M : Model} {A : Around} {E : Value → Shared → Prop} {s : Shared} {env : Env} {c : Expr} {R : Bool → Shared → Prop} (H : wpAny M A (isTrue c env (eval c env)) R E s) :
    wpAny M A (forIn [c] true fun c r => if r = true then do let ok ← isTrue c env (eval c env); pure (ForInStep.yield ok) else pure (ForInStep.yield r)) R E s := by
  rw [List.forIn_cons]
  simp only [if_true]
  refine wpAny_bind (wpAny_bind (wpAny_mono H (fun ok s₁ q => wpAny_pure ?_) fun _ _ e => e))
  show wpAny M A (forIn ([] : List Expr) ok _) R E s₁
  rw [List.forIn_nil]
  exact wpAny_pure q
/-- a list of ints at an address -/
def CodeOK (b : Heap) (a : Addr) (ns : List Int) : Prop := ∃ vs k, b.get? a = some (lsO vs k) ∧ IntsAre vs ns
theorem CodeOK.mono {b b' : Heap} {a : Addr} {ns : List Int} (C : CodeOK b a ns) (le : Le b b') : CodeOK b' a ns := let ⟨vs, k, e, r⟩ := C; ⟨vs, k, le _ _ e, r⟩
def beh (c1 : Nat → List Int) (N x : Nat) : List Nat := (List.range N).filter fun y => ltL (c1 x) (c1 y)
def splL (c1 c2 : Nat → List Int) (N x : Nat) : List Nat := (beh c1 N x).filter fun y => ltL (c2 y) (c2 x)
def botL (c1 c2 : Nat → List Int) (N x : Nat) : List Nat := (beh c1 N x).filter fun y => ltL (c2 x) (c2 y)
def apF (c1 c2 : Nat → List Int) (N i : Nat) (k : Int) : Option (Int × Nat) := if 0 ≤ k ∧ k.toNat < i ∧ 0 < (splL c1 c2 N k.toNat).length then some (((splL c1 c2 N k.toNat).length : Int), 0) else none
def sumB (c1 c2 : Nat → List Int) (xs : Nat → Co) (N x : Nat) : Int := ((botL c1 c2 N x).map fun y => whC (xs y) 2).sum
def alF (c1 c2 : Nat → List Int) (xs : Nat → Co) (N i : Nat) (k : Int) : Option (Int × Nat) := if 0 ≤ k ∧ k.toNat < i ∧ botL c1 c2 N k.toNat ≠ [] then some (((botL c1 c2 N k.toNat).length : Int), (sumB c1 c2 xs N k.toNat).toNat) else none
theorem gn_range (w : World) : glb w "range" = none := rfl
theorem bi_range (w : World) : bit w "range" = some (.type "range") := rfl
theorem gn_sum (w : World) : glb w "sum" = none := rfl
theorem bi_sum (w : World) : bit w "sum" = some (.builtin "sum") := rfl
theorem rf_get {ra : Nat → Addr} {N k : Nat} (hk : k < N) : (rfs ra (List.range N))[k]? = some (.ref (ra k)) := by
  rw [List.getElem?_map, List.getElem?_range hk]; rfl
section
variable {prog : Program} {w : World} {A : Around} {E : Value → Shared → Prop} {h : Heap} {g : Array GenState} {d : Drawn} {t : Nat} {os : OsState} {Q : Value → Shared → Prop}
theorem b_len' {l : Addr} {xs : List Value} {n : Nat} (hl : h.IsList l xs.toArray) (hn : xs.length = n) (hz : n < 1000) (H : ∀ u t', Q (.int (n : Nat) u) ⟨h, g, d, t', os⟩) : wpAny (model prog w) A (call (.builtin "len") [.ref l]) Q E ⟨h, g, d, t, os⟩ := by
  subst hn
  refine b_len hl (by simpa using hz) fun u t' => ?_
  have e : xs.toArray.size = xs.length := by simp
  rw [e]; exact H u t'
end
theorem filter_snoc (p : Nat → Bool) (i : Nat) : (List.range (i + 1)).filter p = (List.range i).filter p ++ (if p i then [i] else []) := by
  rw [List.range_succ, List.filter_append]
  congr 1
  cases h : p i <;> simp [h]
theorem filter_take {l : List Nat} {p : Nat → Bool} {i k : Nat} (hk : l[i]? = some k) : (l.take (i + 1)).filter p = (l.take i).filter p ++ (if p k then [k] else []) := by
  rw [List.take_succ, hk, List.filter_append]
  congr 1
  cases h : p k <;> simp [h]
end Mine
end
section
open PySem PySem.W PyProof.Rows PySem.Spec PySem.Calls
namespace Mine
theorem x_ifJ {M : Model} {A : Around} {E : Value → Shared → Prop} {env : Env} {test : Expr} {body orelse rest : List Stmt} {pos : Pos} {Q : Flow → Shared → Prop} {s : Shared} (J : Shared → Prop)
    (H : wpAny M A (isTrue test env (eval test env)) (fun b s₂ => (b = true → wpAny M A (execs body env) (fun f s₃ => f = .next ∧ J s₃) (fun _ _ => False) s₂) ∧ (b = false → wpAny M A (execs orelse env) (fun f s₃ => f = .next ∧ J s₃) (fun _ _ => False) s₂)) E s)
    (R : ∀ s, J s → wpAny M A (execs rest env) Q E s) : wpAny M A (execs (.If test body orelse pos :: rest) env) Q E s := by
  refine x_if (wpAny_mono H (fun b s₂ q => ⟨fun hb => ?_, fun hb => ?_⟩) fun _ _ e => e)
  · rw [execs_app]
    refine wpAny_bind (wpAny_mono (q.1 hb) (fun f s₃ q => ?_) fun _ _ e => e.elim)
    obtain ⟨rfl, q⟩ := q
    exact R _ q
  · rw [execs_app]
    refine wpAny_bind (wpAny_mono (q.2 hb) (fun f s₃ q => ?_) fun _ _ e => e.elim)
    obtain ⟨rfl, q⟩ := q
    exact R _ q
theorem ints_nat {vs : List Value} {l : List Nat} (hi : IntsAre vs (l.map Int.ofNat)) {i : Nat} {v : Value} (hv : vs[i]? = some v) : ∃ (k : Nat) (u : Tok), l[i]? = some k ∧ v = .int (k : Nat) u := by
  obtain ⟨n, u, rfl, en⟩ := ints_at hi hv
  rw [List.getElem?_map] at en
  obtain ⟨k, hk, rfl⟩ := Option.map_eq_some_iff.mp en
  exact ⟨k, u, hk, rfl⟩
theorem apF_succ (c1 c2 : Nat → List Int) (N i : Nat) (k : Int) : apF c1 c2 N (i + 1) k = if k = (i : Int) then (if 0 < (splL c1 c2 N i).length then some (((splL c1 c2 N i).length : Int), 0) else none) else apF c1 c2 N i k := by
  unfold apF
  by_cases q : k = (i : Int)
  · subst q
    have e : (i : Int).toNat = i := by simp
    rw [if_pos rfl, e]
    by_cases r : 0 < (splL c1 c2 N i).length
    · rw [if_pos r, if_pos ⟨by omega, by omega, r⟩]
    · rw [if_neg r, if_neg (fun x => r x.2.2)]
  · rw [if_neg q]
    by_cases r : 0 ≤ k ∧ k.toNat < i ∧ 0 < (splL c1 c2 N k.toNat).length
    · rw [if_pos r, if_pos ⟨r.1, by omega, r.2.2⟩]
    · rw [if_neg r, if_neg (fun x => r ⟨x.1, by omega, x.2.2⟩)]
theorem apF_old (c1 c2 : Nat → List Int) (N i : Nat) : apF c1 c2 N i (i : Int) = none := by unfold apF; rw [if_neg]; rintro ⟨_, h, _⟩; simp at h
theorem alF_old (c1 c2 : Nat → List Int) (xs : Nat → Co) (N i : Nat) : alF c1 c2 xs N i (i : Int) = none := by unfold alF; rw [if_neg]; rintro ⟨_, h, _⟩; simp at h
theorem alF_succ (c1 c2 : Nat → List Int) (xs : Nat → Co) (N i : Nat) (k : Int) : alF c1 c2 xs N (i + 1) k = if k = (i : Int) then (if botL c1 c2 N i ≠ [] then some (((botL c1 c2 N i).length : Int), (sumB c1 c2 xs N i).toNat) else none) else alF c1 c2 xs N i k := by
  unfold alF
  by_cases q : k = (i : Int)
  · subst q
    have e : (i : Int).toNat = i := by simp
    rw [if_pos rfl, e]
    by_cases r : botL c1 c2 N i ≠ []
    · rw [if_pos r, if_pos ⟨by omega, by omega, r⟩]
    · rw [if_neg r, if_neg (fun x => r x.2.2)]
  · rw [if_neg q]
    by_cases r : 0 ≤ k ∧ k.toNat < i ∧ botL c1 c2 N k.toNat ≠ []
    · rw [if_pos r, if_pos ⟨r.1, by omega, r.2.2⟩]
    · rw [if_neg r, if_neg (fun x => r ⟨x.1, by omega, x.2.2⟩)]
theorem sum_wh {xs : Nat → Co} : ∀ {l : List Nat}, (∀ y ∈ l, (xs y).In) → 0 ≤ (l.map fun y => whC (xs y) 2).sum ∧ (l.map fun y => whC (xs y) 2).sum ≤ 4 * l.length
  | [], _ => by simp
  | y :: l, h => by
    have ih := sum_wh (l := l) fun z hz => h z (.tail _ hz)
    have := wh2_lt (h y (.head _))
    simp only [List.map_cons, List.sum_cons, List.length_cons]
    omega
section
variable {prog : Program} {w : World} {h h₀ : Heap} {g : Array GenState} {d : Drawn} {t : Nat} {os : OsState} {Q E : Value → Shared → Prop}
theorem pairs_spec {N : Nat} (hN : N ≤ 10) {c1 c2 : Nat → List Int} {xs : Nat → Co} (hxs : ∀ j, j < N → (xs j).In) {oa ta wa : Nat → Addr} {ol tl wl : Addr} (G : Gd w h₀) (le : Le h₀ h)
    (hol : h₀.IsList ol (rfs oa (List.range N)).toArray) (htl : h₀.IsList tl (rfs ta (List.range N)).toArray) (hwl : h₀.IsList wl (rfs wa (List.range N)).toArray)
    (C1 : ∀ j, j < N → CodeOK h₀ (oa j) (c1 j)) (C2 : ∀ j, j < N → CodeOK h₀ (ta j) (c2 j)) (CW : ∀ j, j < N → CodeOK h₀ (wa j) (wh (xs j)))
    (H : ∀ b h' t' r a1 a2 o1 o2 k1 k2, Ex h₀ h b h' → b.get? r = some (tpO [.ref a1, .ref a2]) → b.get? a1 = some o1 → DO prog w o1 k1 → (a1 == sysModules) = false → BkAt false b k1 (apF c1 c2 N N) → k1.length ≤ N →
      b.get? a2 = some o2 → DO prog w o2 k2 → (a2 == sysModules) = false → BkAt true b k2 (alF c1 c2 xs N N) → k2.length ≤ N → Q (.ref r) ⟨h', g, d, t', os⟩) :
    wpAny (model prog w) (Ar 15 35) (call (.ref 166) [.ref ol, .ref tl, .ref wl]) Q E ⟨h, g, d, t, os⟩ := by
  refine enterC (binds := [("one", .ref ol), ("two", .ref tl), ("wholes", .ref wl)]) [] G le rfl (by decide) rfl rfl rfl rfl rfl (by decide) (by decide) rfl rfl rfl ?_ (fun _ hp => nomatch hp) ?_ (by decide) rfl rfl rfl
  · intro x hx
    simp only [List.mem_cons, List.not_mem_nil, or_false] at hx
    rcases hx with rfl | rfl | rfl
    · exact .inr ⟨rfl, rfl⟩
    · exact .inr ⟨rfl, rfl⟩
    · exact .inr ⟨rfl, rfl⟩
  generalize hex : exl h₀ h = ex
  intro h1 t1 O hO S
  have dO : (O (h.objs.size + 1)).data = .cell (some (.ref ol)) := hO "one" (h.objs.size + 1) rfl
  have dT : (O (h.objs.size + 2)).data = .cell (some (.ref tl)) := hO "two" (h.objs.size + 2) rfl
  have dW : (O (h.objs.size + 3)).data = .cell (some (.ref wl)) := hO "wholes" (h.objs.size + 3) rfl
  have dX : (O (h.objs.size + 4)).data = .cell none := hO "x" (h.objs.size + 4) rfl
  have S : Sx h₀ h.objs.size [] ((h.objs.size + 4, O (h.objs.size + 4)) :: (h.objs.size + 3, O (h.objs.size + 3)) :: (h.objs.size + 2, O (h.objs.size + 2)) :: (h.objs.size + 1, O (h.objs.size + 1)) :: ex) h1 := S
  clear hO
  generalize O (h.objs.size + 1) = oO at S dO
  generalize O (h.objs.size + 2) = oT at S dT
  generalize O (h.objs.size + 3) = oW at S dW
  generalize O (h.objs.size + 4) = oX at S dX
  obtain ⟨b1, l1, _, eW, S⟩ := S.r2.settle
  obtain ⟨b2, l2, _, eT, S⟩ := S.r2.settle
  obtain ⟨b3, l3, _, eO, S⟩ := S.r2.settle
  have eW := l3 _ _ (l2 _ _ eW)
  have eT := l3 _ _ eT
  have l03 := (l1.trans l2).trans l3
  clear l1 l2 l3
  have G3 := G.mono l03
  have hol := isl hol l03
  have htl := isl htl l03
  have hwl := isl hwl l03
  -- apart = {}; along = {}
  refine x_set <| wpAny_Dict_empty ?_
  have S := S.alloc dtO
  generalize h1.objs.size = ad at S ⊢
  show wpAny _ _ (storeName _ _ _) _ _ ⟨h1.push dtO, _, _, _, _⟩
  generalize h1.push dtO = h2 at S ⊢
  have nad := nosys G3 (S.new _ (.head _)).2.2
  refine st_loc S fun h3 t3 S => ?_
  refine x_set <| wpAny_Dict_empty ?_
  have S := S.alloc dtO
  generalize h3.objs.size = bd at S ⊢
  show wpAny _ _ (storeName _ _ _) _ _ ⟨h3.push dtO, _, _, _, _⟩
  generalize h3.push dtO = h4 at S ⊢
  have nbd := nosys G3 (S.new _ (.head _)).2.2
  refine st_loc S fun h5 t5 S => ?_
  have S : Sx b3 h.objs.size _ ((h.objs.size + 4, oX) :: (bd, dtO) :: (ad, dtO) :: ex) h5 := S.r3
  have S := S.forget (m' := [("apart", .ref ad), ("along", .ref bd)]) (by simp only [List.forall_mem_cons]; exact ⟨rfl, rfl, fun _ hp => nomatch hp⟩)
  -- for x in range(len(one))
  refine x_for <| e_callT <| n_bit (G3.mono S.keep) (gn_range w) (bi_range w) ⟨rfl, a_cons <| e_callB <| n_bit (G3.mono S.keep) (gn_len w) (bi_len w) ⟨rfl, a_cons <| n_cell rfl (S.keep _ _ eO) dO <| a_nil <| b_len' (n := N) (isl hol S.keep) (by simp) (by omega) fun u6 t6 => a_nil <| b_range fun v1 v2 t7 => ?_⟩⟩
  have S := (S.alloc { cls := .type "range", data := .fields #[.int 0 v1, .int N u6, .int 1 v2] }).tl
  refine p_range (Heap.get?_push_size _ rfl) (by omega) ?_
  refine loop_for (it_range rfl) (fun i b g' m ns => g' = g ∧ Le b3 b ∧ m = ([("apart", .ref ad), ("along", .ref bd)] : Loc) ∧ ∃ ox v₀ o1 k1 o2 k2, ox.data = .cell v₀ ∧ ns = (h.objs.size + 4, ox) :: (bd, o2) :: (ad, o1) :: ex ∧ DO prog w o1 k1 ∧ BkAt false b k1 (apF c1 c2 N i) ∧ k1.length ≤ i ∧ DO prog w o2 k2 ∧ BkAt true b k2 (alF c1 c2 xs N i) ∧ k2.length ≤ i) (S.alloc _) ⟨Nat.zero_le _, rfl⟩ ⟨rfl, Le.refl _, rfl, oX, _, _, [], _, [], dX, rfl, do_empty, (fun k => by simp [apF, valueAt_nil]), Nat.le_refl _, do_empty, (fun k => by simp [alF, valueAt_nil]), Nat.le_refl _⟩ ?_ ?_
  · rintro i v b g' m ns' h7 t8 it ob hi ⟨ux, rfl⟩ - ⟨rfl, lb, rfl, ox, v₀, o1, k1, o2, k2, hox, rfl, D1, B1, z1, D2, B2, z2⟩ S
    refine asC S.r2 rfl hox fun h8 ox2 hox2 S => ?_
    have Gb := G3.mono lb
    have hol := isl hol lb
    have htl := isl htl lb
    have hwl := isl hwl lb
    have eO := lb _ _ eO
    have eT := lb _ _ eT
    have eW := lb _ _ eW
    have C1 : ∀ j, j < N → CodeOK b (oa j) (c1 j) := fun j hj => (C1 j hj).mono (l03.trans lb)
    have C2 : ∀ j, j < N → CodeOK b (ta j) (c2 j) := fun j hj => (C2 j hj).mono (l03.trans lb)
    have CW : ∀ j, j < N → CodeOK b (wa j) (wh (xs j)) := fun j hj => (CW j hj).mono (l03.trans lb)
    -- behind = [..]
    refine x_lc0 [("x", h.objs.size + 4), ("one", h.objs.size + 1)] <| e_callT <| n_bit (Gb.mono S.keep) (gn_range w) (bi_range w) ⟨rfl, a_cons <| e_callB <| n_bit (Gb.mono S.keep) (gn_len w) (bi_len w) ⟨rfl, a_cons <| n_cell rfl (S.keep _ _ eO) dO <| a_nil <| b_len' (n := N) (isl hol S.keep) (by simp) (by omega) fun u6 t6 => a_nil <| b_range fun v1 v2 t7 => ?_⟩⟩
    have S := (S.alloc { cls := .type "range", data := .fields #[.int 0 v1, .int N u6, .int 1 v2] }).tl
    refine p_range (Heap.get?_push_size _ rfl) (by omega) ?_
    refine lcS S (it_range rfl) its_range (fun i' b' g'' ys => g'' = g' ∧ b' = b ∧ IntsAre ys (((List.range i').filter fun y => ltL (c1 i) (c1 y)).map Int.ofNat)) (by omega) ⟨Nat.zero_le _, rfl⟩ ⟨rfl, rfl, .nil⟩ ?_ ?_
    · rintro C y v b' g'' ys m ns' h9 t9 hy ⟨uy, rfl⟩ - ⟨rfl, rfl, hJ⟩ sub S
      obtain ⟨vx, kx, ex1, ix⟩ := C1 i hi
      obtain ⟨vy, ky, ey1, iy⟩ := C1 y hy
      refine as1 S fun h10 t10 S => ?_
      have Zx := S.new (h.objs.size + 4, ox2) (sub _ (.head _))
      refine ifs1 <| t_cmp <| e_sub <| n_cell rfl (S.keep _ _ eO) dO <| n_cell rfl Zx.1 hox2 <| i_list' (isl hol S.keep) (by simp; omega) (rf_get hi) <| e_sub <| n_cell rfl (S.keep _ _ eO) dO <| n_loc S rfl <| i_list' (isl hol S.keep) (by simp; omega) (rf_get hy) <| o_ltL (S.keep _ _ ex1) (S.keep _ _ ey1) ix iy (by decide) ⟨_, rfl, fun hb => n_loc S rfl ⟨_, _, _, _, _, rfl, Le.refl _, ⟨rfl, rfl, ?_⟩, S⟩, fun hb => ⟨_, _, _, _, _, rfl, Le.refl _, ⟨rfl, rfl, ?_⟩, S⟩⟩
      · rw [filter_snoc, if_pos hb, List.map_append]; exact ints_snoc hJ _ _
      · rw [filter_snoc, if_neg (by rw [hb]; exact Bool.false_ne_true), List.append_nil]; exact hJ
    rintro D b' g'' ys kD h9 t9 - ⟨rfl, rfl, hJ⟩ S
    have hJ : IntsAre ys ((beh c1 N i).map Int.ofNat) := hJ
    have hbm : ∀ k ∈ beh c1 N i, k < N := fun k hk => List.mem_range.mp (List.mem_filter.mp hk).1
    have hbz : (beh c1 N i).length ≤ N := Nat.le_trans (List.length_filter_le _ _) (by simp)
    obtain ⟨b4, l4, _, eD, S⟩ := S.settle
    have Gb := Gb.mono l4
    have htl := isl htl l4
    have hwl := isl hwl l4
    have eT := l4 _ _ eT
    have eW := l4 _ _ eW
    have C2 : ∀ j, j < N → CodeOK b4 (ta j) (c2 j) := fun j hj => (C2 j hj).mono l4
    have CW : ∀ j, j < N → CodeOK b4 (wa j) (wh (xs j)) := fun j hj => (CW j hj).mono l4
    have hD : b4.IsList D ys.toArray := ⟨_, eD, rfl, _, rfl⟩
    have hyz : ys.length = (beh c1 N i).length := by rw [ints_len hJ]; simp
    have esz : ys.toArray.size = (beh c1 N i).length := by simpa using hyz
    -- split = len([..])
    refine x_set <| e_callB <| n_bit (Gb.mono S.keep) (gn_len w) (bi_len w) ⟨rfl, a_cons <| e_lc0 [("x", h.objs.size + 4), ("two", h.objs.size + 2)] <| n_loc S rfl <| wpAny_pyIter_list (isl hD S.keep) <| lcI S (it_list rfl hD) its_list (fun i' b' g3 ys2 => g3 = g'' ∧ b' = b4 ∧ IntsAre ys2 ((((beh c1 N i).take i').filter fun y => ltL (c2 y) (c2 i)).map Int.ofNat)) (by omega) ⟨rfl, rfl⟩ ⟨rfl, rfl, .nil⟩ ?_ ?_⟩
    · rintro C i' v b' g3 ys2 m ns' h10 t10 hi' hv - ⟨rfl, rfl, hJ2⟩ sub S
      obtain ⟨y, uy, hy, rfl⟩ := ints_nat hJ (i := i') (by simpa using hv)
      have hyN := hbm y (List.mem_of_getElem? hy)
      obtain ⟨vx, kx, ex1, ix⟩ := C2 i hi
      obtain ⟨vy, ky, ey1, iy⟩ := C2 y hyN
      refine as1 S fun h11 t11 S => ?_
      have Zx := S.new (h.objs.size + 4, ox2) (sub _ (.head _))
      refine ifs1 <| t_cmp <| e_sub <| n_cell rfl (S.keep _ _ eT) dT <| n_loc S rfl <| i_list' (isl htl S.keep) (by simp; omega) (rf_get hyN) <| e_sub <| n_cell rfl (S.keep _ _ eT) dT <| n_cell rfl Zx.1 hox2 <| i_list' (isl htl S.keep) (by simp; omega) (rf_get hi) <| o_ltL (S.keep _ _ ey1) (S.keep _ _ ex1) iy ix (by decide) ⟨_, rfl, fun hb => n_loc S rfl ⟨_, _, _, _, _, rfl, Le.refl _, ⟨rfl, rfl, ?_⟩, S⟩, fun hb => ⟨_, _, _, _, _, rfl, Le.refl _, ⟨rfl, rfl, ?_⟩, S⟩⟩
      · rw [filter_take hy, if_pos hb, List.map_append]; exact ints_snoc hJ2 _ _
      · rw [filter_take hy, if_neg (by rw [hb]; exact Bool.false_ne_true), List.append_nil]; exact hJ2
    rintro D2' b4 g3 ys2 kD2 h10 t10 - ⟨rfl, rfl, hJ2⟩ S
    rw [esz, List.take_length] at hJ2
    have hJ2 : IntsAre ys2 ((splL c1 c2 N i).map Int.ofNat) := hJ2
    have hsz2 : (splL c1 c2 N i).length ≤ N := Nat.le_trans (List.length_filter_le _ _) hbz
    refine a_nil <| b_len' (n := (splL c1 c2 N i).length) ⟨_, (S.new _ (.head _)).1, rfl, _, rfl⟩ (by rw [ints_len hJ2]; simp) (by omega) fun us ts => ?_
    refine st_loc S.tl fun h11 t11 S => ?_
    -- both = [..]
    refine x_lc0 [("x", h.objs.size + 4), ("wholes", h.objs.size + 3), ("two", h.objs.size + 2)] <| n_loc S rfl <| wpAny_pyIter_list (isl hD S.keep) <| lcS S (it_list rfl hD) its_list (fun i' b' g4 ys3 => g4 = g3 ∧ b' = b4 ∧ IntsAre ys3 ((((beh c1 N i).take i').filter fun y => ltL (c2 i) (c2 y)).map fun y => whC (xs y) 2)) (by omega) ⟨rfl, rfl⟩ ⟨rfl, rfl, .nil⟩ ?_ ?_
    · rintro C i' v b' g4 ys3 m ns' h12 t12 hi' hv - ⟨rfl, rfl, hJ3⟩ sub S
      obtain ⟨y, uy, hy, rfl⟩ := ints_nat hJ (i := i') (by simpa using hv)
      have hyN := hbm y (List.mem_of_getElem? hy)
      obtain ⟨vx, kx, ex1, ix⟩ := C2 i hi
      obtain ⟨vy, ky, ey1, iy⟩ := C2 y hyN
      obtain ⟨vw, kw, ew1, iw⟩ := CW y hyN
      obtain ⟨uw, ew⟩ := ints_get iw (wh_get (x := xs y) (c := 2) (by decide))
      refine as1 S fun h13 t13 S => ?_
      have Zx := S.new (h.objs.size + 4, ox2) (sub _ (.head _))
      have hwl' : h13.IsList (wa y) vw.toArray := ⟨_, S.keep _ _ ew1, rfl, _, rfl⟩
      refine ifs1 <| t_cmp <| e_sub <| n_cell rfl (S.keep _ _ eT) dT <| n_cell rfl Zx.1 hox2 <| i_list' (isl htl S.keep) (by simp; omega) (rf_get hi) <| e_sub <| n_cell rfl (S.keep _ _ eT) dT <| n_loc S rfl <| i_list' (isl htl S.keep) (by simp; omega) (rf_get hyN) <| o_ltL (S.keep _ _ ex1) (S.keep _ _ ey1) ix iy (by decide) ⟨_, rfl, fun hb => e_sub <| e_sub <| n_cell rfl (S.keep _ _ eW) dW <| n_loc S rfl <| i_list' (isl hwl S.keep) (by simp; omega) (rf_get hyN) <| c_int fun u14 t14 => i_list hwl' (by decide) (by decide) (by simpa using ew) ⟨_, _, _, _, _, rfl, Le.refl _, ⟨rfl, rfl, ?_⟩, S⟩, fun hb => ⟨_, _, _, _, _, rfl, Le.refl _, ⟨rfl, rfl, ?_⟩, S⟩⟩
      · rw [filter_take hy, if_pos hb, List.map_append]; exact ints_snoc hJ3 _ _
      · rw [filter_take hy, if_neg (by rw [hb]; exact Bool.false_ne_true), List.append_nil]; exact hJ3
    rintro D3 b4 g4 ys3 kD3 h12 t12 - ⟨rfl, rfl, hJ3⟩ S
    rw [esz, List.take_length] at hJ3
    have hJ3 : IntsAre ys3 ((botL c1 c2 N i).map fun y => whC (xs y) 2) := hJ3
    obtain ⟨b5, l5, _, eD3, S⟩ := S.settle
    have Gb := Gb.mono l5
    have hD3 : b5.IsList D3 ys3.toArray := ⟨_, eD3, rfl, _, rfl⟩
    have l45 := l4.trans l5
    have S := S.forget (m' := [("both", .ref D3), ("split", .int ((splL c1 c2 N i).length : Nat) us), ("apart", .ref ad), ("along", .ref bd)]) (by simp only [List.forall_mem_cons]; exact ⟨rfl, rfl, rfl, rfl, fun _ hp => nomatch hp⟩)
    have B1 := B1.mono l45
    have B2 := B2.mono l45
    -- if split > 0
    refine x_ifJ (fun s => ∃ h13 t13 o1' k1', s = ⟨h13, g4, d, t13, os⟩ ∧ Sx b5 h.objs.size [("both", .ref D3), ("split", .int ((splL c1 c2 N i).length : Nat) us), ("apart", .ref ad), ("along", .ref bd)] ((h.objs.size + 4, ox2) :: (it, ob) :: (bd, o2) :: (ad, o1') :: ex) h13 ∧ DO prog w o1' k1' ∧ BkAt false b5 k1' (apF c1 c2 N (i + 1)) ∧ k1'.length ≤ i + 1) ?_ ?_
    · refine t_cmp <| n_loc S rfl <| c_int fun u13 t13 => o_gt ⟨_, rfl, fun hb => ?_, fun hb => ?_⟩
      · have hb : 0 < (splL c1 c2 N i).length := by have := of_decide_eq_true hb; omega
        have Zx := S.new (h.objs.size + 4, ox2) (.head _)
        refine x_setI <| n_loc S rfl <| n_loc S rfl <| n_cell rfl Zx.1 hox2 <| s_dict S.r4 D1 (by omega) fun h14 t14 o1' D1' S => x_nil ⟨rfl, _, _, o1', _, rfl, S.r4', D1', B1.put (x := (((splL c1 c2 N i).length : Int), 0)) ⟨us, rfl⟩ fun k' => ?_, ?_⟩
        · rw [apF_succ, if_pos hb]
        · refine Nat.le_trans (stored_length_le ..) (by omega)
      · have hb : ¬ 0 < (splL c1 c2 N i).length := by have := of_decide_eq_false hb; omega
        refine x_nil ⟨rfl, _, _, o1, k1, rfl, S, D1, fun k => ?_, by omega⟩
        have := B1 k
        rw [apF_succ, if_neg hb]
        by_cases q : k = (i : Int)
        · subst q; rw [if_pos rfl]; rw [apF_old] at this; exact this
        · rw [if_neg q]; exact this
    clear S D1 B1 z1
    rintro s ⟨h13, t13, o1', k1', rfl, S, D1, B1, z1⟩
    -- if both != []
    have hbN : ∀ y ∈ botL c1 c2 N i, y < N := fun y hy => hbm y (List.mem_filter.mp hy).1
    have hbl : (botL c1 c2 N i).length ≤ N := Nat.le_trans (List.length_filter_le _ _) hbz
    have hsum := sum_wh (xs := xs) (l := botL c1 c2 N i) fun y hy => hxs y (hbN y hy)
    have hys3 : ys3.length = (botL c1 c2 N i).length := by rw [ints_len hJ3]; simp
    refine x_if <| t_cmp <| n_loc S rfl <| e_list <| a_nil ⟨sz rfl, ?_⟩
    have S1 := S.alloc (lsO [] 0)
    have en : (h13.push (lsO [] 0)).IsList h13.objs.size ([] : List Value).toArray := ⟨_, (S1.new _ (.head _)).1, rfl, _, rfl⟩
    have S := S1.tl
    clear S1
    generalize h13.push (lsO [] 0) = h14 at S en ⊢
    refine o_neI (isl hD3 S.keep) en hJ3 .nil (by decide) ⟨_, rfl, fun hb => ?_, fun hb => ?_⟩
    · have hb : botL c1 c2 N i ≠ [] := by
        intro e
        rw [e] at hb
        simp at hb
      have hsN : ∃ q : Nat, sumB c1 c2 xs N i = (q : Int) ∧ q < 1000 := ⟨(sumB c1 c2 xs N i).toNat, by have : sumB c1 c2 xs N i = ((botL c1 c2 N i).map fun y => whC (xs y) 2).sum := rfl; omega, by have : sumB c1 c2 xs N i = ((botL c1 c2 N i).map fun y => whC (xs y) 2).sum := rfl; omega⟩
      obtain ⟨q, hq, hq1⟩ := hsN
      have Gs := Gb.mono S.keep
      refine x_setI <| e_tup <| a_cons <| e_callB <| n_bit Gs (gn_len w) (bi_len w) ⟨rfl, a_cons <| n_loc S rfl <| a_nil <| b_len' (n := (botL c1 c2 N i).length) (isl hD3 S.keep) hys3 (by omega) fun u15 t15 => a_cons <| e_bin <| e_callB <| n_bit Gs (gn_sum w) (bi_sum w) ⟨rfl, a_cons <| n_loc S rfl <| a_nil <| b_sum rfl (isl hD3 S.keep) hJ3 fun h15 t16 u16 le => ?_⟩⟩
      have eq2 : ((botL c1 c2 N i).map fun y => whC (xs y) 2).sum = (q : Int) := hq
      rw [eq2]
      refine c_float fun u17 t17 => o_ifdiv (no_inf hq1) (by decide +kernel) fun u18 t18 => a_nil ⟨sz rfl, ?_⟩
      have S := S.keeps le
      have S := S.alloc (tpO [.int ((botL c1 c2 N i).length : Nat) u15, .float (due (q : Int) 2) (u18 + 1)])
      show wpAny _ _ (eval _ _) _ _ ⟨h15.push (tpO [.int ((botL c1 c2 N i).length : Nat) u15, .float (due (q : Int) 2) (u18 + 1)]), _, _, _, _⟩
      generalize h15.push (tpO [.int ((botL c1 c2 N i).length : Nat) u15, .float (due (q : Int) 2) (u18 + 1)]) = h16 at S ⊢
      obtain ⟨b6, l6, _, et, S⟩ := S.settle
      have Zx := S.new (h.objs.size + 4, ox2) (.head _)
      refine n_loc S rfl <| n_cell rfl Zx.1 hox2 <| s_dict S.r3 D2 (by omega) fun h17 t19 o2' D2' S => x_nil (.inl ⟨rfl, b6, _, _, _, _, _, rfl, l45.trans l6, ⟨rfl, lb.trans (l45.trans l6), rfl, ox2, _, o1', k1', o2', _, hox2, rfl, D1, B1.mono l6, z1, D2', (B2.mono l6).put (x := (((botL c1 c2 N i).length : Int), q)) ⟨_, u15, u18, rfl, et⟩ (fun k' => ?_), ?_⟩, S.r3'.r2.forget ?_⟩)
      · rw [alF_succ, if_pos hb, hq]; rfl
      · refine Nat.le_trans (stored_length_le ..) (by omega)
      · simp only [List.forall_mem_cons]; exact ⟨rfl, rfl, fun _ hp => nomatch hp⟩
    · have hb : ¬ botL c1 c2 N i ≠ [] := by
        intro e
        cases q : botL c1 c2 N i with
        | nil => exact e q
        | cons y l => rw [q] at hb; simp at hb
      refine x_nil (.inl ⟨rfl, b5, _, _, _, _, _, rfl, l45, ⟨rfl, lb.trans l45, rfl, ox2, _, o1', k1', o2, k2, hox2, rfl, D1, B1, z1, D2, (fun k => ?_), by omega⟩, S.r2.forget ?_⟩)
      · have := B2 k
        rw [alF_succ, if_neg hb]
        by_cases q : k = (i : Int)
        · subst q; rw [if_pos rfl]; rw [alF_old] at this; exact this
        · rw [if_neg q]; exact this
      · simp only [List.forall_mem_cons]; exact ⟨rfl, rfl, fun _ hp => nomatch hp⟩
  · rintro b g' m ns' h7 t8 - ⟨rfl, lb, rfl, ox, v₀, o1, k1, o2, k2, hox, rfl, D1, B1, z1, D2, B2, z2⟩ S
    obtain ⟨b4, l4, _, e2, S⟩ := S.tl.settle
    obtain ⟨b5, l5, _, e1, S⟩ := S.settle
    refine x_ret <| e_tup <| a_cons <| n_loc S rfl <| a_cons <| n_loc S rfl <| a_nil ⟨sz rfl, ?_⟩
    have S := S.alloc (tpO [.ref ad, .ref bd])
    obtain ⟨b6, l6, _, e3, S⟩ := S.settle
    subst hex
    exact H b6 _ _ _ ad bd o1 o2 k1 k2 (S.toEx (l03.trans (lb.trans (l4.trans (l5.trans l6)))) fun p hp => hp) e3 (l6 _ _ e1) D1 nad (B1.mono (l4.trans (l5.trans l6))) z1 (l6 _ _ (l5 _ _ e2)) D2 nbd (B2.mono (l4.trans (l5.trans l6))) z2
end
end Mine
end
section
open PySem PySem.W PyProof.Rows PySem.Spec PySem.Calls
namespace Mine
section
variable {prog : Program} {w : World} {A : Around} {E : Value → Shared → Prop} {s : Shared}
theorem nx_item {it t : Addr} {i : Nat} {items : Array Value} {x : Value} {Q : Value → Shared → Prop} (hit : s.heap.IsTupleIter it t i) (ht : s.heap.IsTuple t items) (hx : items[i]? = some x)
    (hQ : ∀ h', h'.IsTupleIter it t (i + 1) → Heap.SameBut it s.heap h' → Q x { s with heap := h' }) : wpAny (model prog w) A (Builtin.SmallTypes.nextOf (.ref it)) Q E s := by
  obtain ⟨o, ho, hc, hd⟩ := id hit
  obtain ⟨ol, hol, _, nl, hdl⟩ := ht
  unfold Builtin.SmallTypes.nextOf
  refine wpAny_bind (wpAny_callSpecial?_slot (name := Str.ofString "__next__") hit.typeIs F.slot_tuple_iterator_next (wpAny_call_entry F.slot_tuple_iterator_next hit.typeIs F.entry_tuple_iterator_next ?_ (F.args_tuple_iterator_next_1 _)))
  show wpAny _ _ (field (.ref it) 0 >>= _) _ _ s
  refine wpAny_bind (wpAny_field ho hd (x := .ref t) rfl ?_)
  show wpAny _ _ (if (Value.ref t == Value.none) = true then _ else _) _ _ s
  rw [if_neg (show ¬ ((Value.ref t == Value.none) = true) from Bool.false_ne_true)]
  show wpAny _ _ (field (.ref it) 1 >>= _) _ _ s
  refine wpAny_bind (wpAny_field ho hd (x := .int i 0) rfl ?_)
  show wpAny _ _ (seqItems? (.ref t) >>= _) _ _ s
  refine wpAny_bind (wpAny_seqItems hol hdl ?_)
  simp only [Int.toNat_natCast, hx]
  refine wpAny_bind (wpAny_setField ho hd (by simp) (wpAny_pure ⟨x, rfl, wpAny_pure (hQ _ ?_ (Heap.SameBut.update ..))⟩))
  exact ⟨_, Heap.get?_update_self _ ho (Obj.isFreed_of_fields (Obj.data_mapFields hd _)), (Obj.cls_mapFields ..).trans hc, by rw [Obj.data_mapFields hd]; simp [rawInt]⟩
theorem nx_end {it t : Addr} {i : Nat} {items : Array Value} {Q : Value → Shared → Prop} (hh : A.handled = none) (hit : s.heap.IsTupleIter it t i) (ht : s.heap.IsTuple t items) (hx : items[i]? = none)
    (hE : ∀ h' e, Heap.ExtBut it s.heap h' → (∃ o, h'.get? e = some o ∧ o.cls = .type "StopIteration") → E (.ref e) { s with heap := h' }) : wpAny (model prog w) A (Builtin.SmallTypes.nextOf (.ref it)) Q E s := by
  obtain ⟨o, ho, hc, hd⟩ := id hit
  obtain ⟨ol, hol, _, nl, hdl⟩ := ht
  unfold Builtin.SmallTypes.nextOf
  refine wpAny_bind (wpAny_callSpecial?_slot (name := Str.ofString "__next__") hit.typeIs F.slot_tuple_iterator_next (wpAny_call_entry F.slot_tuple_iterator_next hit.typeIs F.entry_tuple_iterator_next ?_ (F.args_tuple_iterator_next_1 _)))
  show wpAny _ _ (field (.ref it) 0 >>= _) _ _ s
  refine wpAny_bind (wpAny_field ho hd (x := .ref t) rfl ?_)
  show wpAny _ _ (if (Value.ref t == Value.none) = true then _ else _) _ _ s
  rw [if_neg (show ¬ ((Value.ref t == Value.none) = true) from Bool.false_ne_true)]
  show wpAny _ _ (field (.ref it) 1 >>= _) _ _ s
  refine wpAny_bind (wpAny_field ho hd (x := .int i 0) rfl ?_)
  show wpAny _ _ (seqItems? (.ref t) >>= _) _ _ s
  refine wpAny_bind (wpAny_seqItems hol hdl ?_)
  simp only [Int.toNat_natCast, hx]
  refine wpAny_bind (wpAny_rule (wpAny_bind (wpAny_setField ho hd (by simp) ?_)))
  show wpAny _ _ (newExc (.type "StopIteration") [] >>= _) _ _ _
  refine wpAny_bind ?_
  simp only [newExc, newTuple]
  refine wpAny_bind (wpAny_newObj_type ?_ (by size_fits))
  refine wpAny_bind (m := firstArgMember _ _) (wpAny_of_eq (a := Value.none) (by first | rfl | (simp only [firstArgMember]; rfl)) ?_)
  refine wpAny_newObj_type ?_ (by size_fits)
  simp only [raiseNew]
  refine wpAny_bind (wpAny_handled ?_)
  first | rw [show A.in1.handled = none from hh] | rw [hh]
  refine wpAny_bind (wpAny_pure (wpAny_throw ?_))
  exact hE _ _ (((Heap.SameBut.update ..).extBut.push _).push _) ⟨_, Heap.get?_push_size _ rfl, rfl⟩
/-- where a zip of two tuples stands -/
structure ZT (z TI TO i1 i2 l1 l2 : Addr) (xs ys : Array Value) (k : Nat) (f0 : Value) (h : Heap) : Prop where
  z : IsZip h z TI TO f0
  ti : IsPair h TI (.ref i1) (.ref i2)
  to : ∃ a b, IsPair h TO a b
  a1 : h.IsTupleIter i1 l1 k
  a2 : h.IsTupleIter i2 l2 k
  t1 : h.IsTuple l1 xs
  t2 : h.IsTuple l2 ys
theorem tat {h h' : Heap} {a : Addr} {items : Array Value} (x : h.IsTuple a items) (e : ∀ o, h.get? a = some o → h'.get? a = some o) : h'.IsTuple a items := let ⟨o, ho, r⟩ := x; ⟨o, e o ho, r⟩
theorem iat {h h' : Heap} {a t : Addr} {i : Nat} (x : h.IsTupleIter a t i) (e : ∀ o, h.get? a = some o → h'.get? a = some o) : h'.IsTupleIter a t i := let ⟨o, ho, r⟩ := x; ⟨o, e o ho, r⟩
theorem zt_item {z TI TO i1 i2 l1 l2 : Addr} {xs ys : Array Value} {k : Nat} {x y : Value} {Q : Option Value → Shared → Prop} (D : ZipApart z TI TO i1 i2 l1 l2) (Z : ZT z TI TO i1 i2 l1 l2 xs ys k .none s.heap) (hx : xs[k]? = some x) (hy : ys[k]? = some y)
    (hQ : ∀ h', ZT z TI TO i1 i2 l1 l2 xs ys (k + 1) (rawInt s.heap.objs.size) h' → IsPair h' s.heap.objs.size x y → (∀ c o, c ≠ z → c ≠ TO → c ≠ i1 → c ≠ i2 → s.heap.get? c = some o → h'.get? c = some o) → Q (some (.ref s.heap.objs.size)) { s with heap := h' }) :
    wpAny (model prog w) A (pyNext (.ref z)) Q E s := by
  obtain ⟨hz, hTI, ⟨a, b, hTO⟩, h1, h2, hl1, hl2⟩ := Z
  have hT : s.TypeIs (.ref z) "zip" := ⟨_, hz, rfl⟩
  unfold pyNext
  refine wpAny_bind (wpAny_attempt (wpAny_callSpecial?_slot (name := Str.ofString "__next__") hT F.slot_zip_next (wpAny_call_entry F.slot_zip_next hT F.entry_zip_next ?_ (F.args_zip_next_1 _))))
  show wpAny _ _ (field (.ref z) 2 >>= _) _ _ _
  refine wpAny_bind (wpAny_field hz rfl (x := .bool false) rfl ?_)
  show wpAny _ _ (field (.ref z) 3 >>= _) _ _ _
  refine wpAny_bind (wpAny_field hz rfl (x := .ref TI) rfl ?_)
  refine wpAny_bind (wpAny_seqItems hTI rfl ?_)
  show wpAny _ _ (Builtin.SmallTypes.ownedTupleIsFree (.ref z) >>= _) _ _ _
  refine wpAny_bind ?_
  unfold Builtin.SmallTypes.ownedTupleIsFree
  refine wpAny_bind (wpAny_field hz rfl (x := .none) rfl (wpAny_pure ?_))
  simp only [if_true]
  refine wpAny_bind (wpAny_rule ?_)
  refine wpAny_bind (wpAny_field hz rfl (x := .ref TO) rfl ?_)
  refine wpAny_bind (wpAny_setField_rec hz (by simp) fun h₁ hz₁ hs₁ => ?_)
  replace hz₁ : IsZip h₁ z TI TO .ellipsis := hz₁
  refine wpAny_bind ?_
  simp only [List.zipIdx_cons, List.zipIdx_nil, List.forIn_cons, List.forIn_nil]
  refine wpAny_bind (wpAny_bind (wpAny_onRaise ?_))
  show wpAny _ _ (Builtin.SmallTypes.nextOf (.ref i1) >>= _) _ _ _
  refine wpAny_bind (nx_item (h1.extBut hs₁.extBut D.i1z) (hl1.extBut hs₁.extBut D.l1z) hx fun h₂ h1₂ hs₂ => wpAny_pure ?_)
  have hTO₂ : IsPair h₂ TO a b := hs₂.extBut _ _ D.TOi1 (hs₁.extBut _ _ D.TOz hTO)
  refine wpAny_bind (wpAny_seqItems hTO₂ rfl ?_)
  refine wpAny_bind (wpAny_updateSeq_pair hTO₂ fun h₃ hTO₃ hs₃ => ?_)
  replace hTO₃ : IsPair h₃ TO x b := hTO₃
  refine wpAny_bind (wpAny_letGo (wpAny_pure ?_))
  refine wpAny_bind (wpAny_bind (wpAny_onRaise ?_))
  show wpAny _ _ (Builtin.SmallTypes.nextOf (.ref i2) >>= _) _ _ _
  refine wpAny_bind (nx_item (((h2.extBut hs₁.extBut D.i2z).extBut hs₂.extBut D.i12.symm).extBut hs₃.extBut D.TOi2.symm) (((hl2.extBut hs₁.extBut D.l2z).extBut hs₂.extBut D.l2i1).extBut hs₃.extBut D.l2TO) hy fun h₄ h2₄ hs₄ => wpAny_pure ?_)
  have hTO₄ : IsPair h₄ TO x b := hs₄.extBut _ _ D.TOi2 hTO₃
  refine wpAny_bind (wpAny_seqItems hTO₄ rfl ?_)
  refine wpAny_bind (wpAny_updateSeq_pair hTO₄ fun h₅ hTO₅ hs₅ => ?_)
  replace hTO₅ : IsPair h₅ TO x y := hTO₅
  refine wpAny_bind (wpAny_letGo (wpAny_pure (wpAny_pure ?_)))
  refine wpAny_bind (wpAny_seqItems hTO₅ rfl ?_)
  refine wpAny_bind (wpAny_newTuple ?_)
  have hsz : h₅.objs.size = s.heap.objs.size := by rw [hs₅.1, hs₄.1, hs₃.1, hs₂.1, hs₁.1]
  have hz₅ : IsZip h₅ z TI TO .ellipsis := hs₅.extBut _ _ D.TOz.symm (hs₄.extBut _ _ D.i2z.symm (hs₃.extBut _ _ D.TOz.symm (hs₂.extBut _ _ D.i1z.symm hz₁)))
  have hk₅ : ∀ c o, c ≠ z → c ≠ TO → c ≠ i1 → c ≠ i2 → s.heap.get? c = some o → h₅.get? c = some o := fun c o c1 c2 c3 c4 e => hs₅.extBut _ _ c2 (hs₄.extBut _ _ c4 (hs₃.extBut _ _ c2 (hs₂.extBut _ _ c3 (hs₁.extBut _ _ c1 e))))
  have h1₅ : h₅.IsTupleIter i1 l1 (k + 1) := ((h1₂.extBut hs₃.extBut D.TOi1.symm).extBut hs₄.extBut D.i12).extBut hs₅.extBut D.TOi1.symm
  have h2₅ : h₅.IsTupleIter i2 l2 (k + 1) := h2₄.extBut hs₅.extBut D.TOi2.symm
  have hzlt : z < h₅.objs.size := Heap.lt_size hz₅
  show wpAny _ _ (Builtin.SmallTypes.ownedTupleHandOut (.ref z) (.ref h₅.objs.size) >>= _) _ _ _
  refine wpAny_bind ?_
  unfold Builtin.SmallTypes.ownedTupleHandOut
  have hz₆ : IsZip (h₅.push { cls := .type "tuple", data := .seq #[x, y] }) z TI TO .ellipsis := Heap.get?_push_of_some _ hz₅
  refine wpAny_bind (wpAny_setField_rec hz₆ (by simp) fun h₇ hz₇ hs₇ => ?_)
  replace hz₇ : IsZip h₇ z TI TO (rawInt h₅.objs.size) := hz₇
  refine wpAny_setField_rec hz₇ (by simp) fun h₈ hz₈ hs₈ => ?_
  replace hz₈ : IsZip h₈ z TI TO (rawInt h₅.objs.size) := hz₈
  have up : ∀ c o, c ≠ z → h₅.get? c = some o → h₈.get? c = some o := fun c o c1 e => hs₈.extBut _ _ c1 (hs₇.extBut _ _ c1 (Heap.get?_push_of_some _ e))
  have hT₈ : IsPair h₈ h₅.objs.size x y := hs₈.extBut _ _ (Nat.ne_of_gt hzlt) (hs₇.extBut _ _ (Nat.ne_of_gt hzlt) (Heap.get?_push_size _ rfl))
  rw [hsz] at hz₈ hT₈
  refine wpAny_pure ⟨_, rfl, ?_⟩
  show wpAny _ _ _ _ _ _
  refine wpAny_pure ?_
  show Q (some (.ref h₅.objs.size)) _
  rw [hsz]
  have keep : ∀ c o, c ≠ z → c ≠ TO → c ≠ i1 → c ≠ i2 → s.heap.get? c = some o → h₈.get? c = some o := fun c o c1 c2 c3 c4 e => up c o c1 (hk₅ c o c1 c2 c3 c4 e)
  exact hQ h₈ ⟨hz₈, keep _ _ D.TIz D.TITO D.TIi1 D.TIi2 hTI, ⟨_, _, up _ _ D.TOz hTO₅⟩, iat h1₅ fun o e => up _ o D.i1z e, iat h2₅ fun o e => up _ o D.i2z e, tat hl1 fun o e => keep _ o D.l1z D.l1TO D.l1i1 D.l1i2 e, tat hl2 fun o e => keep _ o D.l2z D.l2TO D.l2i1 D.l2i2 e⟩ hT₈ keep
theorem zt_end {z TI TO i1 i2 l1 l2 : Addr} {xs ys : Array Value} {k : Nat} {Q : Option Value → Shared → Prop} (hh : A.handled = none) (D : ZipApart z TI TO i1 i2 l1 l2) (Z : ZT z TI TO i1 i2 l1 l2 xs ys k .none s.heap) (hx : xs[k]? = none)
    (hQ : ∀ h', (∀ c o, c ≠ z → c ≠ TO → c ≠ i1 → c ≠ i2 → s.heap.get? c = some o → h'.get? c = some o) → Q none { s with heap := h' }) : wpAny (model prog w) A (pyNext (.ref z)) Q E s := by
  obtain ⟨hz, hTI, ⟨a, b, hTO⟩, h1, h2, hl1, hl2⟩ := Z
  have hT : s.TypeIs (.ref z) "zip" := ⟨_, hz, rfl⟩
  unfold pyNext
  refine wpAny_bind (wpAny_attempt (wpAny_callSpecial?_slot (name := Str.ofString "__next__") hT F.slot_zip_next (wpAny_call_entry F.slot_zip_next hT F.entry_zip_next ?_ (F.args_zip_next_1 _))))
  show wpAny _ _ (field (.ref z) 2 >>= _) _ _ _
  refine wpAny_bind (wpAny_field hz rfl (x := .bool false) rfl ?_)
  show wpAny _ _ (field (.ref z) 3 >>= _) _ _ _
  refine wpAny_bind (wpAny_field hz rfl (x := .ref TI) rfl ?_)
  refine wpAny_bind (wpAny_seqItems hTI rfl ?_)
  show wpAny _ _ (Builtin.SmallTypes.ownedTupleIsFree (.ref z) >>= _) _ _ _
  refine wpAny_bind ?_
  unfold Builtin.SmallTypes.ownedTupleIsFree
  refine wpAny_bind (wpAny_field hz rfl (x := .none) rfl (wpAny_pure ?_))
  simp only [if_true]
  refine wpAny_bind (wpAny_rule ?_)
  refine wpAny_bind (wpAny_field hz rfl (x := .ref TO) rfl ?_)
  refine wpAny_bind (wpAny_setField_rec hz (by simp) fun h₁ hz₁ hs₁ => ?_)
  replace hz₁ : IsZip h₁ z TI TO .ellipsis := hz₁
  refine wpAny_bind ?_
  simp only [List.zipIdx_cons, List.zipIdx_nil, List.forIn_cons, List.forIn_nil]
  refine wpAny_bind (wpAny_bind (wpAny_onRaise ?_))
  show wpAny _ _ (Builtin.SmallTypes.nextOf (.ref i1) >>= _) _ _ _
  refine wpAny_bind (nx_end hh (h1.extBut hs₁.extBut D.i1z) (hl1.extBut hs₁.extBut D.l1z) hx fun h₂ e hs₂ he => ?_)
  obtain ⟨oe, hoe, hce⟩ := he
  have hz₂ : IsZip h₂ z TI TO .ellipsis := hs₂ _ _ D.i1z.symm hz₁
  have hez : e ≠ z := fun x => by subst x; rw [hz₂] at hoe; cases hoe; simp at hce
  refine wpAny_setField_rec hz₂ (by simp) fun h₃ _ hs₃ => ?_
  refine wpAny_bind (wpAny_isInstance (T := "StopIteration") (b := true) ⟨oe, hs₃.extBut _ _ hez hoe, hce⟩ isSubtype_stop ?_)
  exact wpAny_pure (hQ _ fun c o c1 _ c3 _ x => hs₃.extBut _ _ c1 (hs₂ _ _ c3 (hs₁.extBut _ _ c1 x)))
end
/-- the walk of a zip of two tuples of one length -/
theorem zt_walk {prog : Program} {w : World} {A : Around} (hh : A.handled = none) {z TI TO i1 i2 l1 l2 : Addr} (D : ZipApart z TI TO i1 i2 l1 l2) (xs ys : Array Value) (hxy : xs.size = ys.size) :
    WalksU prog w A z [z, TI, TO, i1, i2, l1, l2] [z, TO, i1, i2] xs.size (fun i vals => ∃ x y, xs[i]? = some x ∧ ys[i]? = some y ∧ vals = #[x, y])
      (fun i h => ZT z TI TO i1 i2 l1 l2 xs ys i .none h) (fun i T h => ZT z TI TO i1 i2 l1 l2 xs ys (i + 1) (rawInt T) h ∧ T ≠ z ∧ T ≠ TO ∧ T ≠ i1 ∧ T ≠ i2) where
  sub := fun c hc => by simp at hc ⊢; rcases hc with rfl | rfl | rfl | rfl <;> simp
  frame := fun i h h' Z hk => by
    obtain ⟨hz, hTI, ⟨a, b, hTO⟩, h1, h2, hl1, hl2⟩ := Z
    exact ⟨hk z (by simp) _ hz, hk TI (by simp) _ hTI, ⟨a, b, hk TO (by simp) _ hTO⟩, iat h1 fun o e => hk i1 (by simp) o e, iat h2 fun o e => hk i2 (by simp) o e, tat hl1 fun o e => hk l1 (by simp) o e, tat hl2 fun o e => hk l2 (by simp) o e⟩
  item := fun i s Q E hi Z hQ => by
    have hiy : i < ys.size := by omega
    have lt : ∀ {c o}, s.heap.get? c = some o → s.heap.objs.size ≠ c := fun e => Nat.ne_of_gt (Heap.lt_size e)
    refine zt_item D Z (Array.getElem?_eq_getElem hi) (Array.getElem?_eq_getElem hiy) fun h' Z' hT hk => ?_
    obtain ⟨a, b, hTO⟩ := Z.to
    obtain ⟨o1, e1, _⟩ := Z.a1
    obtain ⟨o2, e2, _⟩ := Z.a2
    exact hQ s.heap.objs.size #[xs[i], ys[i]] h' s.toks ⟨_, _, Array.getElem?_eq_getElem hi, Array.getElem?_eq_getElem hiy, rfl⟩ ⟨_, hT, rfl, _, rfl⟩ ⟨Z', lt Z.z, lt hTO, lt e1, lt e2⟩
      fun c o hc e => hk c o (fun x => hc (by simp [x])) (fun x => hc (by simp [x])) (fun x => hc (by simp [x])) (fun x => hc (by simp [x])) e
  go := fun elts k pos i T s Q E hm hQ => by
    obtain ⟨⟨hz, hTI, ⟨a, b, hTO⟩, h1, h2, hl1, hl2⟩, _⟩ := hm
    refine wpAny_letOwnedTupleGo_zip hz fun h' hz' hs' => hQ h' ⟨hz', hs'.extBut _ _ D.TIz hTI, ⟨a, b, hs'.extBut _ _ D.TOz hTO⟩, h1.extBut hs'.extBut D.i1z, h2.extBut hs'.extBut D.i2z, hl1.extBut hs'.extBut D.l1z, hl2.extBut hs'.extBut D.l2z⟩ fun c o hc e => hs'.extBut _ _ (fun x => hc (by simp [x])) e
  apart := fun i T h hm hT => by
    obtain ⟨_, t1, t2, t3, t4⟩ := hm
    simp at hT
    rcases hT with rfl | rfl | rfl | rfl
    · exact t1 rfl
    · exact t2 rfl
    · exact t3 rfl
    · exact t4 rfl
  done := fun s Q E Z hQ => zt_end hh D Z (Array.getElem?_eq_none (Nat.le_refl _)) fun h' hk => hQ h' s.toks fun c o hc e =>
      hk c o (fun x => hc (by simp [x])) (fun x => hc (by simp [x])) (fun x => hc (by simp [x])) (fun x => hc (by simp [x])) e
  self := fun i s Q E Z hQ => wpAny_pyIter_zip Z.z hQ
abbrev tiO (l : Addr) : Obj := { cls := .type "tuple_iterator", data := .fields #[.ref l, .int 0 0] }
abbrev zO (TI TO : Addr) : Obj := { cls := .type "zip", data := .fields #[.none, .bool false, .bool false, .ref TI, .ref TO] }
abbrev zH (h : Heap) (l1 l2 : Addr) : Heap := ((((h.push (tiO l1)).push (tiO l2)).push { cls := .type "tuple", data := .seq #[.ref h.objs.size, .ref (h.push (tiO l1)).objs.size] }).push { cls := .type "tuple", data := .seq #[.none, .none] })
theorem zt_new (l1 l2 : Addr) (xs ys : Array Value) :
    Meets (Builtin.«zip.__new__» ⟨[.type "zip", .ref l1, .ref l2], []⟩) (fun _ R s => s.heap.IsTuple l1 xs ∧ s.heap.IsTuple l2 ys ∧
      R (.ok (.ret (.ref (zH s.heap l1 l2).objs.size))) { s with heap := (zH s.heap l1 l2).push (zO ((s.heap.push (tiO l1)).push (tiO l2)).objs.size (((s.heap.push (tiO l1)).push (tiO l2)).push { cls := .type "tuple", data := .seq #[.ref s.heap.objs.size, .ref (s.heap.push (tiO l1)).objs.size] }).objs.size) }) :=
  .of_wp fun prog w A R s h => by
    obtain ⟨hp, g, d, tk, os⟩ := s; obtain ⟨hl1, hl2, h⟩ := h
    have hsub := sub_zip
    have hL1 : Heap.IsTuple (Shared.heap ⟨hp, g, d, tk, os⟩) l1 xs := hl1
    have hL2 : Heap.IsTuple (Shared.heap ⟨hp.push (tiO l1), g, d, tk, os⟩) l2 ys := Heap.IsTuple.push hl2 _
    wp_walk using wpAny_pyIter_tuple hL1, wpAny_pyIter_tuple hL2
    exact ⟨_, rfl, h⟩
section
variable {prog : Program} {w : World} {A : Around} {E : Value → Shared → Prop} {s : Shared}
theorem call_zt {l1 l2 : Addr} {xs ys : Array Value} {Q : Value → Shared → Prop} (hl1 : s.heap.IsTuple l1 xs) (hl2 : s.heap.IsTuple l2 ys)
    (H : ∀ h', ZT (s.heap.objs.size + 4) (s.heap.objs.size + 2) (s.heap.objs.size + 3) s.heap.objs.size (s.heap.objs.size + 1) l1 l2 xs ys 0 .none h' → h'.objs.size = s.heap.objs.size + 5 → Le s.heap h' → Q (.ref (s.heap.objs.size + 4)) { s with heap := h' }) :
    wpAny (model prog w) A (call (.type "zip") [.ref l1, .ref l2]) Q E s := by
  refine callType_new F.called_zip (by decide) (F.typeCall_zip_2 _ _) (F.newCall_zip_2 _ _) (fun obj => F.args_object_init_3 obj _ _) F.entry_zip_new (zt_new l1 l2 xs ys) ⟨hl1, hl2, ?_⟩
  generalize hh1 : s.heap.push (tiO l1) = H1
  generalize hh2 : H1.push (tiO l2) = H2
  generalize hh3 : H2.push { cls := .type "tuple", data := .seq #[.ref s.heap.objs.size, .ref H1.objs.size] } = H3
  generalize hh4 : H3.push { cls := .type "tuple", data := .seq #[.none, .none] } = H4
  generalize hh5 : H4.push (zO H2.objs.size H3.objs.size) = H5
  have z1 : H1.objs.size = s.heap.objs.size + 1 := by rw [← hh1]; exact Heap.size_push ..
  have z2 : H2.objs.size = s.heap.objs.size + 2 := by rw [← hh2, Heap.size_push, z1]
  have z3 : H3.objs.size = s.heap.objs.size + 3 := by rw [← hh3, Heap.size_push, z2]
  have z4 : H4.objs.size = s.heap.objs.size + 4 := by rw [← hh4, Heap.size_push, z3]
  have z5 : H5.objs.size = s.heap.objs.size + 5 := by rw [← hh5, Heap.size_push, z4]
  have l1' : Le s.heap H1 := by rw [← hh1]; exact fun _ _ e => Heap.get?_push_of_some _ e
  have l2' : Le H1 H2 := by rw [← hh2]; exact fun _ _ e => Heap.get?_push_of_some _ e
  have l3' : Le H2 H3 := by rw [← hh3]; exact fun _ _ e => Heap.get?_push_of_some _ e
  have l4' : Le H3 H4 := by rw [← hh4]; exact fun _ _ e => Heap.get?_push_of_some _ e
  have l5' : Le H4 H5 := by rw [← hh5]; exact fun _ _ e => Heap.get?_push_of_some _ e
  have g5 : H5.get? (s.heap.objs.size + 4) = some (zO (s.heap.objs.size + 2) (s.heap.objs.size + 3)) := by rw [← z4, ← hh5, ← z2, ← z3]; exact Heap.get?_push_size _ rfl
  have g4 : H5.get? (s.heap.objs.size + 3) = some { cls := .type "tuple", data := .seq #[.none, .none] } := l5' _ _ (by rw [← z3, ← hh4]; exact Heap.get?_push_size _ rfl)
  have g3 : H5.get? (s.heap.objs.size + 2) = some { cls := .type "tuple", data := .seq #[.ref s.heap.objs.size, .ref (s.heap.objs.size + 1)] } := l5' _ _ (l4' _ _ (by rw [← z2, ← hh3, ← z1]; exact Heap.get?_push_size _ rfl))
  have g2 : H5.get? (s.heap.objs.size + 1) = some (tiO l2) := l5' _ _ (l4' _ _ (l3' _ _ (by rw [← z1, ← hh2]; exact Heap.get?_push_size _ rfl)))
  have g1 : H5.get? s.heap.objs.size = some (tiO l1) := l5' _ _ (l4' _ _ (l3' _ _ (l2' _ _ (by rw [← hh1]; exact Heap.get?_push_size _ rfl))))
  have le : Le s.heap H5 := (((l1'.trans l2').trans l3').trans l4').trans l5'
  have ez : zH s.heap l1 l2 = H4 := by rw [← hh4, ← hh3, ← hh2, ← hh1]
  show _ ∧ _
  rw [ez, hh5, z4]
  exact ⟨⟨_, g5, rfl⟩, H _ ⟨g5, g3, ⟨_, _, g4⟩, ⟨_, g1, rfl, rfl⟩, ⟨_, g2, rfl, rfl⟩, tat hl1 fun o e => le _ _ e, tat hl2 fun o e => le _ _ e⟩ z5 le⟩
end
end Mine
end
section
open PySem PySem.W PyProof.Rows PySem.Spec PySem.Calls
namespace Mine
/-- the element of a generator expression over pairs, asked at states whose next token is not 0 -/
def PairLeaf (prog : Program) (w : World) (cenv : Env) (xa xb : Str) (elt : Expr) (fp wr : List Addr) (Pt : Nat → Array Value → Prop) (F : Nat → Value → Prop) (href : Heap) (D U : Nat) : Prop :=
  ∀ (A' : Around) E' i va vb h g d t os m₂, A'.handled = none → A'.depth ≤ D → A'.units ≤ U → Pt i #[va, vb] → h.Ns cenv.locals m₂ → m₂ xa = some va → m₂ xb = some vb → (∀ b ∈ fp, b ∉ wr → ∀ o, href.get? b = some o → h.get? b = some o) →
    wpAny (model prog w) A' (eval elt cenv) (fun y s₃ => F i y ∧ Keeps ⟨h, g, d, t + 1, os⟩ s₃) E' ⟨h, g, d, t + 1, os⟩
abbrev yes : Nat → Bool := fun _ => true
abbrev pairC (elt iter : Expr) (xa xb : Str) (pa pb pt : Pos) (kt : Nat) (scope : Scope) (pos : Pos) (I : Addr) (cenv : Env) : Code := .compLoop (.GeneratorExp elt [⟨.Tuple [.Name xa pa, .Name xb pb] kt pt, iter, [], 0⟩] scope pos) 0 (.ref I) .none cenv
abbrev pairS (elt iter : Expr) (xa xb : Str) (pa pb pt : Pos) (kt : Nat) (scope : Scope) (pos : Pos) (I : Addr) (cenv : Env) : Code := .compStart (.GeneratorExp elt [⟨.Tuple [.Name xa pa, .Name xb pb] kt pt, iter, [], 0⟩] scope pos) 0 (.ref I) .none cenv
abbrev pairR (C : Addr) (wr : List Addr) : GenEnd := fun n s₀ r s₁ => r = .ok .next ∧ (n = 0 ∧ GenSince C wr s₀ s₁)
section
variable {prog : Program} {w : World} {A : Around} {elt iter : Expr} {xa xb : Str} {pa pb pt : Pos} {kt : Nat} {scope : Scope} {pos : Pos} {I : Addr} {fp wr : List Addr} {n : Nat} {Pt : Nat → Array Value → Prop} {St : Nat → Heap → Prop} {Mid : Nat → Addr → Heap → Prop} {cenv : Env} {F : Nat → Value → Prop} {href : Heap}
/-- what one turn's stores leave: the pair's names are bound, the walk is one further -/
theorem pair_turn (hh : A.handled = none) (W : ∀ A' : Around, A'.handled = none → WalksU prog w A' I fp wr n Pt St Mid) (hsz : ∀ i vals, Pt i vals → ∃ va vb, vals = #[va, vb]) (hab : xa ≠ xb)
    (hxa : cenv.kindOf xa = some .local) (hxb : cenv.kindOf xb = some .local) (hp : (cenv.scope.kind == .class || (cenv.scope.kind == .module && cenv.locals != cenv.globals)) = false) (hCf : cenv.locals ∉ fp)
    {i : Nat} (hi : i < n) {h : Heap} {g : Array GenState} {d : Drawn} {t : Nat} {os : OsState} {m : Str → Option Value} {Q : Unit → Shared → Prop} {E : Value → Shared → Prop} (st : St i h) (hn : h.Ns cenv.locals m)
    (H : ∀ va vb h' t' m', Pt i #[va, vb] → St (i + 1) h' → h'.Ns cenv.locals m' → m' xa = some va → m' xb = some vb → (∀ b o, b ≠ cenv.locals → b ∉ wr → h.get? b = some o → h'.get? b = some o) → Q () ⟨h', g, d, t' + 1, os⟩) :
    wpAny (model prog w) A (pyNext (.ref I)) (fun r s₁ => ∃ v, r = some v ∧ wpAny (model prog w) A (letOwnedTupleGo (.Tuple [.Name xa pa, .Name xb pb] kt pt) (.ref I) v) (fun _ s₂ => wpAny (model prog w) A (assign (.Tuple [.Name xa pa, .Name xb pb] kt pt) cenv v) Q E s₂) E s₁) E ⟨h, g, d, t, os⟩ := by
  have hCw : cenv.locals ∉ wr := fun x => hCf ((W A hh).sub _ x)
  refine (W A hh).item i ⟨h, g, d, t, os⟩ _ _ hi st fun T vals h1 tk hP hT hm k1 => ⟨_, rfl, ?_⟩
  obtain ⟨va, vb, rfl⟩ := hsz i vals hP
  refine (W A hh).go _ _ _ i T ⟨h1, g, d, tk, os⟩ _ _ hm fun h2 st2 k2 => ?_
  have T2 : h2.IsTuple T #[va, vb] := let ⟨o, e, r⟩ := hT; ⟨o, k2 _ o ((W A hh).apart i T _ hm) e, r⟩
  refine wpAny_assign_Tuple (s := ⟨h2, g, d, tk, os⟩) hh T2 rfl rfl fun h3 k3 => ?_
  have l3 : Le h2 h3 := fun b o e => k3 b o (Nat.ne_of_lt (Heap.lt_size e)) e
  have n3 : h3.Ns cenv.locals m := hn.at' fun o e => l3 _ o (k2 _ o hCw (k1 _ o hCw e))
  show wpAny _ _ (do holding [vb] (assign (.Name xa pa) cenv va); do holding [] (assign (.Name xb pb) cenv vb); pure ()) _ _ _
  refine wpAny_bind (wpAny_holding (wpAny_assign_Name (wpAny_storeName_local hxa n3 (fun h4 n4 b4 => ?_) hp)))
  refine wpAny_bind (wpAny_holding (wpAny_assign_Name (wpAny_storeName_local hxb n4 (fun h5 n5 b5 => wpAny_pure ?_) hp)))
  have b4 : Heap.SameBut cenv.locals h3 h4 := b4
  have b5 : Heap.SameBut cenv.locals h4 h5 := b5
  have up : ∀ b o, b ≠ cenv.locals → h3.get? b = some o → h5.get? b = some o := fun b o hb e => b5.extBut b o hb (b4.extBut b o hb e)
  refine H va vb h5 _ _ hP ((W A hh).frame _ _ _ st2 fun b hb o e => up b o (fun x => hCf (x ▸ hb)) (l3 _ _ e)) n5 (by simp [hab]) (by simp) fun b o hb hw e => up b o hb (l3 _ _ (k2 _ _ hw (k1 _ _ hw e)))
theorem pair_loop (hh : A.handled = none) (W : ∀ A' : Around, A'.handled = none → WalksU prog w A' I fp wr n Pt St Mid) (hsz : ∀ i vals, Pt i vals → ∃ va vb, vals = #[va, vb]) (hab : xa ≠ xb)
    (hxa : cenv.kindOf xa = some .local) (hxb : cenv.kindOf xb = some .local) (hp : (cenv.scope.kind == .class || (cenv.scope.kind == .module && cenv.locals != cenv.globals)) = false) (hco : cenv.scope.isCoroutine = false) (hCf : cenv.locals ∉ fp)
    (L : PairLeaf prog w cenv xa xb elt fp wr Pt F href (A.depth + 1) (A.units + 3)) : ∀ (k i : Nat) (s₀ : Shared) h g d t os (m : Str → Option Value), n - i = k → i ≤ n → St i h → h.Ns cenv.locals m → GenSince cenv.locals wr s₀ ⟨h, g, d, t, os⟩ → (∀ b ∈ fp, b ∉ wr → ∀ o, href.get? b = some o → h.get? b = some o) →
      Seg (model prog w) A (pairR cenv.locals wr) (genProto cenv.locals fp wr yes n F) (passing yes n i).length s₀ (pairC elt iter xa xb pa pb pt kt scope pos I cenv) ((model prog w).den (pairC elt iter xa xb pa pb pt kt scope pos I cenv)) [] ⟨h, g, d, t, os⟩ := by
  have hh' : (A.over (pairC elt iter xa xb pa pb pt kt scope pos I cenv) []).handled = none := hh
  intro k
  induction k with
  | zero =>
    intro i s₀ h g d t os m hk hi st hn sin hkp
    have e : i = n := by omega
    subst e
    show Seg _ A _ _ _ s₀ _ ((compTurn (.GeneratorExp elt [⟨.Tuple [.Name xa pa, .Name xb pb] kt pt, iter, [], 0⟩] scope pos) 0 (.ref I) .none cenv).onRaise (leaving cenv)) [] _
    rw [compTurn_gen, Sem.onRaise_eq_wrap]
    refine seg_bind_wrap (wpAny_standAt (seg_bind_wrap ((W _ hh').done ⟨h, g, d, t, os⟩ _ _ st fun h1 tk k1 => ?_)))
    exact seg_end (.ok .next) ⟨rfl, by rw [passing_end]; rfl, sin.step fun b o _ hw e => k1 b o hw e⟩
  | succ k ih =>
    intro i s₀ h g d t os m hk hi st hn sin hkp
    have hlt : i < n := by omega
    show Seg _ A _ _ _ s₀ _ ((compTurn (.GeneratorExp elt [⟨.Tuple [.Name xa pa, .Name xb pb] kt pt, iter, [], 0⟩] scope pos) 0 (.ref I) .none cenv).onRaise (leaving cenv)) [] _
    rw [compTurn_gen, Sem.onRaise_eq_wrap]
    refine seg_bind_wrap (wpAny_standAt (seg_bind_wrap ?_))
    have key : ∀ (Z : Shared → Prop) (E : Value → Shared → Prop), (∀ va vb h' t' m', Pt i #[va, vb] → St (i + 1) h' → h'.Ns cenv.locals m' → m' xa = some va → m' xb = some vb → (∀ b o, b ≠ cenv.locals → b ∉ wr → h.get? b = some o → h'.get? b = some o) → Z ⟨h', g, d, t' + 1, os⟩) → _ := fun Z E H => pair_turn (pa := pa) (pb := pb) (pt := pt) (kt := kt) (Q := fun _ s' => Z s') (E := E) (t := t) hh' W hsz hab hxa hxb hp hCf hlt st hn H
    refine wpAny_mono (key ?Z _ ?main) (fun r s₁ q => ?turn) (fun _ _ e => e)
    case turn =>
      obtain ⟨v, rfl, q⟩ := q
      refine seg_bind_wrap (wpAny_mono q (fun _ s₂ q => seg_bind_wrap (wpAny_mono q (fun _ s₃ q => ?_) fun _ _ e => e)) fun _ _ e => e)
      exact q
    intro va vb h1 t1 m1 hP st1 n1 ha hb up
    have hkp1 : ∀ b ∈ fp, b ∉ wr → ∀ o, href.get? b = some o → h1.get? b = some o := fun b hb hw o e => up b o (fun x => hCf (x ▸ hb)) hw (hkp b hb hw o e)
    have sin1 : GenSince cenv.locals wr s₀ ⟨h1, g, d, t1 + 1, os⟩ := sin.step fun b o hC hw e => up b o hC hw e
    refine seg_bind_wrap (wpAny_of_eq (a := true) rfl ?_)
    rw [passing_true hlt rfl, List.length_cons]
    simp only [if_true]
    have hy : ∀ v, yieldOut cenv v = yieldValue v := fun v => by simp only [yieldOut, hco, Bool.false_eq_true, if_false]
    simp only [hy]
    rw [Sem.bind_eq_wrap', Sem.bind_eq_wrap', Sem.wrap_wrap, Sem.wrap_wrap]
    refine seg_wrap (wpAny_mono (L _ _ i va vb h1 g d t1 os m1 hh' (Nat.le_of_eq rfl) (Nat.le_of_eq rfl) hP n1 ha hb hkp1) (fun y s₄ q => ?_) fun _ _ e => e)
    obtain ⟨hF, h2, t2, rfl, k2⟩ := q
    refine seg_at (seg_yield rfl rfl rfl ⟨⟨i, passing_here hlt rfl, hF⟩, sin1.step fun b o _ _ e => k2 b o e, fun s'' al => ?_⟩)
    exact seg_again rfl (ih (i + 1) s'' s''.heap s''.gens s''.drawn s''.toks s''.os _ (by omega) hlt ((W A hh).frame _ _ _ st1 fun b hb o e => al b (List.mem_cons_of_mem _ hb) o (k2 b o e))
      (n1.at' fun o e => al _ (List.mem_cons_self ..) o (k2 _ o e)) (GenSince.refl _ _ _) fun b hb hw o e => al b (List.mem_cons_of_mem _ hb) o (k2 b o (hkp1 b hb hw o e)))
theorem pair_start (hh : A.handled = none) (W : ∀ A' : Around, A'.handled = none → WalksU prog w A' I fp wr n Pt St Mid) (hsz : ∀ i vals, Pt i vals → ∃ va vb, vals = #[va, vb]) (hab : xa ≠ xb)
    (hxa : cenv.kindOf xa = some .local) (hxb : cenv.kindOf xb = some .local) (hp : (cenv.scope.kind == .class || (cenv.scope.kind == .module && cenv.locals != cenv.globals)) = false) (hco : cenv.scope.isCoroutine = false) (hCf : cenv.locals ∉ fp)
    (L : PairLeaf prog w cenv xa xb elt fp wr Pt F href (A.depth + 1) (A.units + 3)) {h : Heap} {g : Array GenState} {d : Drawn} {t : Nat} {os : OsState} {m : Str → Option Value} (st : St 0 h) (hn : h.Ns cenv.locals m) (hkp : ∀ b ∈ fp, b ∉ wr → ∀ o, href.get? b = some o → h.get? b = some o) :
    Seg (model prog w) A (pairR cenv.locals wr) (genProto cenv.locals fp wr yes n F) (passing yes n 0).length ⟨h, g, d, t, os⟩ (pairS elt iter xa xb pa pb pt kt scope pos I cenv) ((model prog w).den (pairS elt iter xa xb pa pb pt kt scope pos I cenv)) [] ⟨h, g, d, t, os⟩ := by
  have hh' : (A.over (pairS elt iter xa xb pa pb pt kt scope pos I cenv) []).handled = none := hh
  have go := pair_loop (elt := elt) (iter := iter) (pa := pa) (pb := pb) (pt := pt) (kt := kt) (scope := scope) (pos := pos) hh W hsz hab hxa hxb hp hco hCf L n 0 ⟨h, g, d, t, os⟩ h g d t os m (Nat.sub_zero _) (Nat.zero_le _) st hn (GenSince.refl _ _ _) hkp
  show Seg _ A _ _ _ _ _ ((compStart (.GeneratorExp elt [⟨.Tuple [.Name xa pa, .Name xb pb] kt pt, iter, [], 0⟩] scope pos) 0 (.ref I) .none cenv).onRaise (leaving cenv)) [] _
  unfold compStart
  rw [Sem.onRaise_eq_wrap]
  show Seg _ A _ _ _ _ _ ((ask >>= _).wrap _ _ _ _) [] _
  refine seg_bind_wrap (wpAny_askSetting ?_)
  split
  · exact seg_again rfl go
  · exact seg_bind_wrap (wpAny_rule (seg_bind_wrap (wpAny_standAt (seg_bind_wrap ((W _ hh').self 0 ⟨h, g, d, t, os⟩ _ _ st (seg_again rfl go))))))
theorem pair_at (hh : A.handled = none) (W : ∀ A' : Around, A'.handled = none → WalksU prog w A' I fp wr n Pt St Mid) (hsz : ∀ i vals, Pt i vals → ∃ va vb, vals = #[va, vb]) (hab : xa ≠ xb)
    (hxa : cenv.kindOf xa = some .local) (hxb : cenv.kindOf xb = some .local) (hp : (cenv.scope.kind == .class || (cenv.scope.kind == .module && cenv.locals != cenv.globals)) = false) (hco : cenv.scope.isCoroutine = false) (hCf : cenv.locals ∉ fp) {s : Shared} {m : Str → Option Value}
    (L : PairLeaf prog w cenv xa xb elt fp wr Pt F s.heap (A.depth + 1) (A.units + 4)) {a : Addr} {g : Nat} (hg : s.heap.IsGen a g) (hgs : s.gens[g]? = some (.fresh (pairS elt iter xa xb pa pb pt kt scope pos I cenv)))
    (st : St 0 s.heap) (hn : s.heap.Ns cenv.locals m) (hl : s.heap.NoLimit) : GenAt prog w A a g cenv.locals fp wr yes n F 0 s :=
  ⟨hg, hl, _, hgs, fun s'' al => ⟨rfl, pair_start (A := A.in1) (h := s''.heap) (g := s''.gens) (d := s''.drawn) (t := s''.toks) (os := s''.os) hh W hsz hab hxa hxb hp hco hCf L ((W A hh).frame _ _ _ st fun b hb o e => al b (List.mem_cons_of_mem _ hb) o e) (hn.at' fun o e => al _ (List.mem_cons_self ..) o e) fun b hb _ o e => al b (List.mem_cons_of_mem _ hb) o e⟩⟩
theorem e_pairs {env : Env} {cl : List (Str × Addr)} {Q : Value → Shared → Prop} {E : Value → Shared → Prop} {s : Shared}
    (hh : A.handled = none) (hco : scope.isCoroutine = false) (hclos : closureFor scope env = pure cl) (hcell : ∀ y ∈ scope.names, y.2 ≠ .cell) (h0 : scope.names.lookup (".0" : Str) = some NameKind.local)
    (hxa : scope.names.lookup xa = some .local) (hxb : scope.names.lookup xb = some .local) (hab : xa ≠ xb) (hkind : scope.kind = .function) (hroom : A.depth < recursionLimit)
    (H : wpAny (model prog w) A (eval iter env) (fun xv s₁ => wpAny (model prog w) A (pyIter xv) (fun it s₂ => s₂.heap.NoLimit ∧
      wpAny (model prog w) A (genexprCode env pos (env.qual ++ "<genexpr>") scope) (fun code s₃ => wpAny (model prog w) A (builtinsFor env.globals env.builtins) (fun bi s₄ =>
        ∃ I fp wr n Pt St Mid F, it = .ref I ∧ (∀ A' : Around, A'.handled = none → WalksU prog w A' I fp wr n Pt St Mid) ∧ (∀ i vals, Pt i vals → ∃ va vb, vals = #[va, vb]) ∧ St 0 s₄.heap ∧ (∀ b ∈ fp, b < s₄.heap.objs.size) ∧ s₄.heap.NoLimit ∧ cStatics ∉ wr ∧
          (∀ href : Heap, Le s₄.heap href → PairLeaf prog w (genEnv scope cl s₄.heap.objs.size code bi env) xa xb elt (List.range s₄.heap.objs.size) wr Pt F href (A.depth + 1) (A.units + 8)) ∧
          (∀ a h₅ tk gs, gs.bare = true → s₄.heap.objs.size < a → h₅.objs.size = a + 1 → Le s₄.heap h₅ →
            WalksS prog w A.in4 a (a :: s₄.heap.objs.size :: List.range s₄.heap.objs.size) (s₄.heap.objs.size :: wr) (GenOnlyQ s₄.gens.size) (passing yes n 0).length
              (fun j y => ∃ i, (passing yes n 0)[j]? = some i ∧ F i y) (GenAt prog w A.in4 a s₄.gens.size s₄.heap.objs.size (List.range s₄.heap.objs.size) wr yes n F) →
            GenAt prog w A.in4 a s₄.gens.size s₄.heap.objs.size (List.range s₄.heap.objs.size) wr yes n F 0 { s₄ with gens := s₄.gens.push gs, toks := tk, heap := h₅ } →
            Q (.ref a) { s₄ with gens := s₄.gens.push gs, toks := tk, heap := h₅ })) E s₃) E s₂) E s₁) E s)
    (hs : ∀ x, genFold iter env x = pure x) :
    wpAny (model prog w) A (eval (.GeneratorExp elt [⟨.Tuple [.Name xa pa, .Name xb pb] kt pt, iter, [], 0⟩] scope pos) env) Q E s := by
  refine wpAny_GeneratorExp_make hco hclos hcell h0 hkind hroom (wpAny_mono H (fun xv s₁ h₁ => wpAny_mono h₁ (fun it s₂ h₂ => ⟨h₂.1, wpAny_mono h₂.2 (fun code s₃ h₃ => wpAny_mono h₃ (fun bi s₄ h₄ => ?_) fun _ _ e => e) fun _ _ e => e⟩) fun _ _ e => e) fun _ _ e => e) hs
  obtain ⟨I, fp, wr, n, Pt, St, Mid, F, rfl, W, hsz, st, hfp, hl, hcw, hq, hQ⟩ := h₄
  intro h' hn' hs'
  have sz : h'.objs.size = s₄.heap.objs.size + 1 := by rw [hs'.1, Heap.size_push]
  have k' : Le s₄.heap h' := fun b o e => hs'.extBut b o (Nat.ne_of_lt (Heap.lt_size e)) (Heap.get?_push_of_some _ e)
  have sub : ∀ b ∈ wr, b ∈ List.range s₄.heap.objs.size := fun b hb => List.mem_range.mpr (hfp b ((W A hh).sub b hb))
  have cs : cStatics < s₄.heap.objs.size := let ⟨_, x, _⟩ := hl; x.lt
  have hx : ∀ x, scope.names.lookup x = some .local → (genEnv scope cl s₄.heap.objs.size code bi env).kindOf x = some .local := fun x e => by
    simpa [Env.kindOf, genEnv] using e
  have k5 : Le s₄.heap (h'.push { cls := .type "generator", data := .fields #[.int s₄.gens.size 0, .str "<genexpr>" (s₄.toks + 1), .str (env.qual ++ "<genexpr>") (s₄.toks + 1 + 1)] }) := fun b o e => Heap.get?_push_of_some _ (k' b o e)
  refine hQ _ _ _ _ rfl (by omega) (by rw [Heap.size_push]) k5 (WalksS.genexpQ (A := A.in4) hh _ _ _ _ wr yes n F (by rw [sz]; exact Nat.succ_ne_self _) (fun hm => by have := List.mem_range.mp hm; omega) sub hroom (List.mem_range.mpr cs) (Nat.ne_of_lt cs) hcw) ?_
  exact pair_at (A := A.in4) (cenv := genEnv scope cl s₄.heap.objs.size code bi env) (m := fun y => if y = ".0" then some (.ref I) else none) hh
    (fun A' hA => (W A' hA).mono_fp fun b hb => List.mem_range.mpr (hfp b hb)) hsz hab (hx _ hxa) (hx _ hxb) (by simp [genEnv, hkind]) hco (fun hm => Nat.lt_irrefl _ (List.mem_range.mp hm)) (hq _ k5) ⟨_, _, _, Heap.get?_push_size _ rfl, rfl, rfl, rfl⟩ (Array.getElem?_push_size ..) ((W A hh).frame _ _ _ st fun b _ o e => k5 b o e) (hn'.push _) (hl.keeps k5)
end
end Mine
end
section
open PySem PySem.W PyProof.Rows PySem.Spec PySem.Calls
namespace Mine
theorem gn_zip (w : World) : glb w "zip" = none := rfl
theorem bi_zip (w : World) : bit w "zip" = some (.type "zip") := rfl
theorem chd101 {w : World} {h : Heap} (G : Gd w h) : CodeHd h 105 101 := ⟨_, _, _, _, _, _, _, _, _, G 105 _ rfl (by decide), rfl, rfl, rfl, rfl, rfl, rfl, rfl, rfl, by decide⟩
theorem gc_spec {w : World} {M : Model} {A : Around} {E : Value → Shared → Prop} {b h : Heap} {g : Array GenState} {d : Drawn} {t : Nat} {os : OsState} {env : Env} {pos : Pos} {scope : Scope} {tab : Obj} {Q : Value → Shared → Prop} (G : Gd w h) (e101 : h.get? 101 = some tab) (T : TabG b tab) (hc : env.code = .ref 105) (h1 : pos.line = 140) (h2 : pos.col = 42)
    (H : ∀ c' ps' h' t', LeBut 101 h h' → h.objs.size ≤ h'.objs.size → h'.get? 101 = some (tabObj ps') → (∀ B, Le b B → (∀ a o, h'.get? a = some o → h.objs.size ≤ a → B.get? a = some o) → TabG B (tabObj ps')) → Q (.ref c') ⟨h', g, d, t', os⟩) :
    wpAny M A (genexprCode env pos "add_callers.<locals>.<genexpr>" scope) Q E ⟨h, g, d, t, os⟩ := by
  obtain ⟨ps, rfl, hps⟩ := T
  have C := chd101 G
  rcases hps with rfl | ⟨c, rfl, hr⟩
  · refine wpAny_genexprCodeX (s := ⟨h, g, d, t, os⟩) hc (C.code e101 trivial) (C.tab e101) rfl fun c' h' tk hx hge hlt hcode hrec htab _ => ?_
    have hge : h.objs.size ≤ c' := hge
    refine H c' _ h' tk (fun b o hb e => hx b o hb e) (Nat.le_of_lt (Nat.lt_of_le_of_lt hge hlt)) htab.2 fun B lB nw => ?_
    refine ⟨_, rfl, .inr ⟨c', by rw [h1, h2]; rfl, ?_⟩⟩
    obtain ⟨c2, oc, vs, tq, e1, e2, e3, e4⟩ := hrec
    cases e1
    exact ⟨_, oc, vs, tq, rfl, nw _ _ e2 hge, e3, e4⟩
  · refine wpAny_genexprCode_hit (s := ⟨h, g, d, t, os⟩) hc (C.code e101 (by simp [TriplesOk, rawInt])) (c' := .ref c) ?_ ?_
    · simp [codeAmong, rawInt, h1, h2]
    · exact H c _ h t (fun _ _ _ e => e) (Nat.le_refl _) e101 fun B lB _ => ⟨_, rfl, .inr ⟨c, rfl, hr.keeps lB⟩⟩
def fF (y x : Int × Nat) (i : Nat) (v : Value) : Prop := (i = 0 → ∃ u, v = .int (y.1 + x.1) u) ∧ (i = 1 → ∃ u : Tok, v = .float (due ((x.2 + y.2 : Nat) : Int) 2) (u + 1))
end Mine
end
section
open PySem PySem.W PyProof.Rows PySem.Spec PySem.Calls
namespace Mine
theorem genOK (prog : Program) (w : World) : GenOK prog w := by
  intro e L b m ns h g d t os tab a oN kvs k u ca y x v he G S TG DN hm1 hm2 hm3 Vy ev Vx hy5 hx41 hG Q E H
  have e8 : genX w = some _ := rfl
  rw [e8] at he
  cases he
  obtain ⟨ca', uy1, uy2, e1, eca⟩ := Vy
  cases e1
  obtain ⟨va, ux1, ux2, rfl, eva⟩ := Vx
  have Gh := G.mono S.keep
  have e101 : h.get? 101 = some tab := (S.new _ (.head _)).1
  have n101 : b.get? 101 = none := (S.new _ (.head _)).2.2
  have eN : h.get? a = some oN := (S.new (a, oN) (.tail _ (.head _))).1
  have lt101 : 101 < h.objs.size := Heap.lt_size e101
  have ltc : cStatics < h.objs.size := let ⟨_, hn, _⟩ := Gh.c; hn.lt
  have lca : ca < h.objs.size := Heap.lt_size (S.keep _ _ eca)
  have lva : va < h.objs.size := Heap.lt_size (S.keep _ _ eva)
  have nca : ca ≠ 101 := by rintro rfl; rw [n101] at eca; cases eca
  have nva : va ≠ 101 := by rintro rfl; rw [n101] at eva; cases eva
  conv in (fdAt w 106) => whnf
  refine e_callT <| n_bit Gh (gn_tuple w) (bi_tuple w) ⟨rfl, a_cons ?_⟩
  refine e_pairs (cl := []) rfl rfl rfl (by decide) rfl rfl rfl (by decide) rfl (by decide) ?_ (fun _ => rfl)
  refine e_callT <| n_bit Gh (gn_zip w) (bi_zip w) ⟨rfl, a_cons <| n_loc S hm3 <| a_cons <| e_sub <| n_loc S hm1 <| n_loc S hm2 <| i_dict eN DN ev fun t1 => a_nil <| call_zt (s := ⟨h, g, d, t1, os⟩) (xs := #[.int y.1 uy1, .float (due y.2 2) (uy2 + 1)]) (ys := #[.int x.1 ux1, .float (due x.2 2) (ux2 + 1)]) ⟨_, S.keep _ _ eca, rfl, _, rfl⟩ ⟨_, S.keep _ _ eva, rfl, _, rfl⟩ fun h1 Z hsz1 le1 => ?_⟩
  have Z : ZT (h.objs.size + 4) (h.objs.size + 2) (h.objs.size + 3) h.objs.size (h.objs.size + 1) ca va #[.int y.1 uy1, .float (due y.2 2) (uy2 + 1)] #[.int x.1 ux1, .float (due x.2 2) (ux2 + 1)] 0 .none h1 := Z
  have hsz1 : h1.objs.size = h.objs.size + 5 := hsz1
  have le1 : Le h h1 := le1
  refine wpAny_pyIter_zip (s := ⟨h1, g, d, t1, os⟩) Z.z ⟨(Gh.mono le1).c, ?_⟩
  refine gc_spec (b := b) (Gh.mono le1) (le1 _ _ e101) TG rfl rfl rfl fun c' ps' h2 t2 lb hsz2 e101' tabG => ?_
  have G2 : Gd w h2 := fun a o e n => lb _ _ (by rintro rfl; exact n (by decide)) ((Gh.mono le1) a o e n)
  obtain ⟨bm, ob, hb1, hb2, hb3, hb4, hb5, hb6, hb7, hb8⟩ := bat G2 101 (by decide)
  refine wpAny_builtinsFor (s := ⟨h2, g, d, t2, os⟩) G2.g hb1 hb2 hb5 hb6 hb7 hb8 ?_
  have D : ZipApart (h.objs.size + 4) (h.objs.size + 2) (h.objs.size + 3) h.objs.size (h.objs.size + 1) ca va := zipApart_new lca lva
  have W0 : ∀ A' : Around, A'.handled = none → WalksU prog w A' (h.objs.size + 4) _ _ _ _ _ _ := fun A' hA => zt_walk hA D #[.int y.1 uy1, .float (due y.2 2) (uy2 + 1)] #[.int x.1 ux1, .float (due x.2 2) (ux2 + 1)] rfl
  have Z2 : ZT (h.objs.size + 4) (h.objs.size + 2) (h.objs.size + 3) h.objs.size (h.objs.size + 1) ca va #[.int y.1 uy1, .float (due y.2 2) (uy2 + 1)] #[.int x.1 ux1, .float (due x.2 2) (ux2 + 1)] 0 .none h2 := by
    refine (W0 (Ar 18 43) rfl).frame 0 h1 h2 Z fun c hc o e => lb c o ?_ e
    simp only [List.mem_cons, List.not_mem_nil, or_false] at hc
    rcases hc with rfl | rfl | rfl | rfl | rfl | rfl | rfl <;> first | assumption | exact Nat.ne_of_gt (Nat.lt_of_lt_of_le lt101 (by first | exact Nat.le_refl _ | exact Nat.le_add_right _ _))
  have wrk : ∀ c : Nat, c ∈ [h.objs.size + 4, h.objs.size + 3, h.objs.size, h.objs.size + 1] → h.objs.size ≤ c ∧ c < h1.objs.size := fun c hc => by
    simp only [List.mem_cons, List.not_mem_nil, or_false] at hc
    rcases hc with rfl | rfl | rfl | rfl <;> omega
  refine ⟨_, _, _, _, _, _, _, fF y x, rfl, W0, ?_, Z2, ?_, G2.c, ?_, ?_, ?_⟩
  · rintro i vals ⟨p, q, _, _, e⟩
    exact ⟨p, q, e⟩
  · intro c hc
    show c < h2.objs.size
    have five : h.objs.size + 5 ≤ h2.objs.size := by omega
    have five' : h.objs.size ≤ h2.objs.size := by omega
    simp only [List.mem_cons, List.not_mem_nil, or_false] at hc
    rcases hc with rfl | rfl | rfl | rfl | rfl | rfl | rfl <;> first
      | exact Nat.lt_of_lt_of_le (Nat.add_lt_add_left (by decide) _) five
      | exact Nat.lt_of_lt_of_le (Nat.lt_add_of_pos_right (by decide)) five
      | exact Nat.lt_of_lt_of_le lca five'
      | exact Nat.lt_of_lt_of_le lva five'
  · intro hc
    exact absurd (wrk _ hc).1 (Nat.not_le_of_lt ltc)
  · intro href hk
    · intro A' E' i va vb h3 g3 d3 t3 os3 m₂ hA hD hU hP hn ha hb hkp
      obtain ⟨x', y', ex, ey, evs⟩ := hP
      obtain ⟨e1, e2⟩ : va = x' ∧ vb = y' := by simpa using congrArg Array.toList evs
      subst e1 e2
      have hi : i = 0 ∨ i = 1 := by
        rcases Nat.lt_or_ge i 2 with q | q
        · omega
        · rw [Array.getElem?_eq_none (by simpa using q)] at ex; cases ex
      rcases hi with rfl | rfl
      · simp at ex ey
        subst ex ey
        exact e_bin <| Name_loc hn ha <| Name_loc hn hb <| o_add fun u t => ⟨⟨fun _ => ⟨u, rfl⟩, fun h => by cases h⟩, _, _, rfl, fun _ _ e => e⟩
      · simp at ex ey
        subst ex ey
        refine e_bin <| Name_loc hn ha <| Name_loc hn hb <| o_fadd fun u t => ⟨⟨(fun h => by cases h), fun _ => ⟨u, ?_⟩⟩, _, _, rfl, fun _ _ e => e⟩
        rw [due_add hx41 hy5]
  · intro a5' h5 tk gs hbare hlt hsz5 keep5 W GA
    obtain ⟨a5, rfl⟩ : ∃ n : Nat, n = a5' := ⟨a5', rfl⟩
    have hlt : h2.objs.size < a5 := hlt
    have hsz5 : h5.objs.size = a5 + 1 := hsz5
    have keep5 : Le h2 h5 := keep5
    refine a_nil <| call_tuple_gen (s := ⟨h5, _, d, tk, os⟩) W.in4_3 (fun i s st => ?_) GA ?_ (.head _) (fun s' acc hm hacc => ?_) (by show (passing (fun _ => true) 2 0).length ≤ sizeLine; rw [sizeLine_eq]; decide)
    · obtain ⟨⟨o, nm, qn, ho, hc, _⟩, _⟩ := st
      exact ⟨o, ho, hc⟩
    · intro c' hc
      obtain ⟨c, rfl⟩ : ∃ n : Nat, n = c' := ⟨c', rfl⟩
      show c < h5.objs.size
      rcases List.mem_cons.mp hc with hc | hc
      · have hc : c = a5 := hc
        omega
      rcases List.mem_cons.mp hc with hc | hc
      · have hc : c = h2.objs.size := hc
        omega
      · have hc : c < h2.objs.size := List.mem_range.mp hc
        omega
    obtain ⟨h6, g6, d6, t6, os6⟩ := s'
    obtain rfl : d6 = d := hm.drawn
    obtain rfl : os6 = os := hm.os
    have mv : ∀ (c : Nat) o, c ≠ h2.objs.size → c ∉ [h.objs.size + 4, h.objs.size + 3, h.objs.size, h.objs.size + 1] → h5.get? c = some o → h6.get? c = some o := fun c o c1 c2 e => hm.heap c o (fun q => by
      rcases List.mem_cons.mp q with q | q
      · exact c1 q
      · exact c2 q) e
    have ga5 : a5 < h6.objs.size := by
      obtain ⟨⟨o, nm, qn, ho, _⟩, _⟩ := GA
      have ho : h5.get? a5 = some o := ho
      exact Heap.lt_size (mv a5 o (by omega) (fun q => by have := (wrk _ q).2; omega) ho)
    have hpass : passing (fun _ => true) 2 0 = [0, 1] := by decide
    have hlen : acc.size = 2 := hacc.1
    obtain ⟨v0, v1, rfl⟩ : ∃ v0 v1, acc = #[v0, v1] := by
      refine ⟨acc[0], acc[1], ?_⟩
      apply Array.ext
      · simp [hlen]
      · intro i h1 h2
        have : i = 0 ∨ i = 1 := by simp at h2; omega
        rcases this with rfl | rfl <;> rfl
    obtain ⟨i0, p0, f0⟩ := hacc.2 0 v0 rfl
    obtain ⟨i1, p1, f1⟩ := hacc.2 1 v1 rfl
    have p0 : (passing (fun _ => true) 2 0)[0]? = some i0 := p0
    have p1 : (passing (fun _ => true) 2 0)[1]? = some i1 := p1
    rw [hpass] at p0 p1
    simp at p0 p1
    obtain ⟨u0, rfl⟩ := f0.1 p0.symm
    obtain ⟨u1, rfl⟩ := f1.2 p1.symm
    have szl : ∀ {H : Heap} {c : Nat} {o : Obj}, H.get? c = some o → c < H.objs.size := fun e => Heap.lt_size e
    have up : ∀ (c : Nat) o, c ≠ 101 → h1.get? c = some o → c ∉ [h.objs.size + 4, h.objs.size + 3, h.objs.size, h.objs.size + 1] → h6.get? c = some o := fun c o c1 e c2 => mv c o (fun q => by have := szl e; omega) c2 (keep5 _ _ (lb _ _ c1 e))
    have lbF : ∀ (c : Nat) o, c ≠ 101 → h.get? c = some o → (h6.push (tpO [.int (y.1 + x.1) u0, .float (due ((x.2 + y.2 : Nat) : Int) 2) (u1 + 1)])).get? c = some o := fun c o c1 e => Heap.get?_push_of_some _ (up c o c1 (le1 _ _ e) fun q => by have := (wrk _ q).1; have := szl e; omega)
    have h6z : h.objs.size ≤ h6.objs.size := by omega
    obtain ⟨B, lB, lB2, nw, SB⟩ := S.fresh1 lbF (Heap.get?_push_of_some _ (mv 101 _ (by omega) (fun q => by have := (wrk _ q).1; omega) (keep5 _ _ e101')))
    have tg : ∀ (c : Nat) o, h2.get? c = some o → h1.objs.size ≤ c → B.get? c = some o := fun c o e hge => nw c o (Heap.get?_push_of_some _ (mv c o (fun q => by have := szl e; omega) (fun q => by have := (wrk _ q).2; omega) (keep5 _ _ e))) (by show h.objs.size ≤ c; omega)
    exact H B _ _ _ _ _ u0 u1 ((hG.push hbare).moved hm.gens) lB (tabG B lB tg) SB (nw _ _ (Heap.get?_push_size _ rfl) h6z)
end Mine
end
section
open PySem PySem.W PyProof.Rows PySem.Spec PySem.Calls
namespace Mine
/-- the sort's questions, answered by lt -/
def krun {α : Type} (lt : Nat → Nat → Bool) : KasT α → α
  | .ret a => a
  | .ask i j k => krun lt (k (lt i j))
theorem krun_bind {α β : Type} (lt : Nat → Nat → Bool) (f : α → KasT β) : ∀ t : KasT α, krun lt (t.bind f) = krun lt (f (krun lt t))
  | .ret _ => rfl
  | .ask i j k => krun_bind lt f (k (lt i j))
structure Ord (lt : Nat → Nat → Bool) (n : Nat) : Prop where
  tr : ∀ a b c, lt a b = true → lt b c = true → lt a c = true
  as : ∀ a b, lt a b = true → lt b a = false
  tot : ∀ a b, a < n → b < n → a ≠ b → lt a b = true ∨ lt b a = true
structure PA (n : Nat) (p : Array Nat) : Prop where
  perm : p.Perm (List.range n).toArray
theorem PA.size {n : Nat} {p : Array Nat} (P : PA n p) : p.size = n := by have := P.perm.size_eq; simpa using this
theorem PA.lt {n : Nat} {p : Array Nat} (P : PA n p) {i : Nat} (hi : i < n) : p.getD i 0 < n := by
  have hs := P.size
  have e : p.getD i 0 = p[i]'(by omega) := by simp [Array.getD, hs, hi]
  rw [e]
  have := (P.perm.mem_iff (a := p[i]'(by omega))).mp (by simp)
  simpa using this
theorem PA.inj {n : Nat} {p : Array Nat} (P : PA n p) {i j : Nat} (hi : i < n) (hj : j < n) (e : p.getD i 0 = p.getD j 0) : i = j := by
  have hs := P.size
  have e1 : p.getD i 0 = p[i]'(by omega) := by simp [Array.getD, hs, hi]
  have e2 : p.getD j 0 = p[j]'(by omega) := by simp [Array.getD, hs, hj]
  rw [e1, e2] at e
  have nd : p.toList.Nodup := by
    have := P.perm.toList
    exact this.nodup_iff.mpr (by simpa using List.nodup_range)
  have hl : p.toList.length = n := by simpa using hs
  have ne := List.pairwise_iff_getElem.mp nd
  rcases Nat.lt_trichotomy i j with q | q | q
  · exact absurd (by rw [Array.getElem_toList, Array.getElem_toList]; exact e) (ne i j _ _ q)
  · exact q
  · exact absurd (by rw [Array.getElem_toList, Array.getElem_toList]; exact e.symm) (ne j i _ _ q)
def SP (lt : Nat → Nat → Bool) (p : Array Nat) (k : Nat) : Prop := ∀ i j, i < j → j < k → lt (p.getD i 0) (p.getD j 0) = true
theorem SP.succ {lt : Nat → Nat → Bool} {n : Nat} (O : Ord lt n) {p : Array Nat} {k : Nat} (S : SP lt p k) (hk : 1 ≤ k) (h : lt (p.getD (k - 1) 0) (p.getD k 0) = true) : SP lt p (k + 1) := by
  intro i j hij hj
  by_cases q : j < k
  · exact S i j hij q
  · have e : j = k := by omega
    subst e
    by_cases r : i = j - 1
    · subst r; exact h
    · exact O.tr _ _ _ (S i (j - 1) (by omega) (by omega)) h
theorem asc_ok {lt : Nat → Nat → Bool} {n : Nat} (O : Ord lt n) {p : Array Nat} (P : PA n p) : ∀ (f k : Nat), 1 ≤ k → k + f ≤ n → SP lt p k → k ≤ krun lt (kas_asc p f k) ∧ krun lt (kas_asc p f k) ≤ k + f ∧ SP lt p (krun lt (kas_asc p f k)) ∧ (krun lt (kas_asc p f k) = k + f ∨ lt (p.getD (krun lt (kas_asc p f k)) 0) (p.getD (krun lt (kas_asc p f k) - 1) 0) = true)
  | 0, k, _, _, S => ⟨Nat.le_refl _, Nat.le_refl _, S, .inl rfl⟩
  | f + 1, k, hk, hn, S => by
    unfold kas_asc
    rw [krun]
    cases c : lt (p.getD k 0) (p.getD (k - 1) 0) with
    | true => simp only [if_true]; exact ⟨Nat.le_refl _, by show k ≤ _; omega, S, .inr c⟩
    | false =>
      simp only [Bool.false_eq_true, if_false]
      have h : lt (p.getD (k - 1) 0) (p.getD k 0) = true := by
        rcases O.tot _ _ (P.lt (i := k) (by omega)) (P.lt (i := k - 1) (by omega)) (fun e => by have := P.inj (by omega) (by omega) e; omega) with h | h
        · rw [c] at h; cases h
        · exact h
      obtain ⟨a, b, c, d⟩ := asc_ok O P f (k + 1) (by omega) (by omega) (S.succ O hk h)
      exact ⟨by omega, by omega, c, by rcases d with d | d; exact .inl (by omega); exact .inr d⟩
/-- falling -/
def DP (lt : Nat → Nat → Bool) (p : Array Nat) (k : Nat) : Prop := ∀ i j, i < j → j < k → lt (p.getD j 0) (p.getD i 0) = true
theorem DP.succ {lt : Nat → Nat → Bool} {n : Nat} (O : Ord lt n) {p : Array Nat} {k : Nat} (S : DP lt p k) (hk : 1 ≤ k) (h : lt (p.getD k 0) (p.getD (k - 1) 0) = true) : DP lt p (k + 1) := by
  intro i j hij hj
  by_cases q : j < k
  · exact S i j hij q
  · have e : j = k := by omega
    subst e
    by_cases r : i = j - 1
    · subst r; exact h
    · exact O.tr _ _ _ h (S i (j - 1) (by omega) (by omega))
theorem desc_ok {lt : Nat → Nat → Bool} {n : Nat} (O : Ord lt n) {p : Array Nat} (P : PA n p) : ∀ (f k : Nat), 1 ≤ k → k + f ≤ n → DP lt p k → ∃ m, krun lt (kas_desc f p k 0) = (p, m, 0) ∧ k ≤ m ∧ m ≤ k + f ∧ DP lt p m
  | 0, k, _, _, S => ⟨k, rfl, Nat.le_refl _, Nat.le_refl _, S⟩
  | f + 1, k, hk, hn, S => by
    unfold kas_desc
    rw [krun]
    cases c : lt (p.getD k 0) (p.getD (k - 1) 0) with
    | true =>
      simp only [if_true, Nat.lt_irrefl, gt_iff_lt, if_false]
      obtain ⟨m, a, b, c', d⟩ := desc_ok O P f (k + 1) (by omega) (by omega) (S.succ O hk c)
      exact ⟨m, a, by omega, by omega, d⟩
    | false =>
      simp only [Bool.false_eq_true, if_false]
      have h : lt (p.getD (k - 1) 0) (p.getD k 0) = true := by
        rcases O.tot _ _ (P.lt (i := k) (by omega)) (P.lt (i := k - 1) (by omega)) (fun e => by have := P.inj (by omega) (by omega) e; omega) with h | h
        · rw [c] at h; cases h
        · exact h
      rw [krun, h]
      simp only [if_true]
      exact ⟨k, rfl, Nat.le_refl _, by omega, S⟩
theorem getD_of {p : Array Nat} {i : Nat} : p.getD i 0 = p[i]?.getD 0 := by
  unfold Array.getD
  split
  · rename_i h; simp [h]
  · rename_i h; simp [h]
theorem rev_ok {lt : Nat → Nat → Bool} {n : Nat} {p : Array Nat} (P : PA n p) {k : Nat} (hk : k ≤ n) (D : DP lt p k) : PA n (kas_rev p 0 k) ∧ SP lt (kas_rev p 0 k) k := by
  refine ⟨⟨(mirror_perm ..).trans P.perm⟩, fun i j hij hj => ?_⟩
  have hs := P.size
  have e : ∀ x, x < k → (kas_rev p 0 k).getD x 0 = p.getD (k - 1 - x) 0 := fun x hx => by
    rw [getD_of, getD_of]
    unfold kas_rev
    rw [getElem?_mirror_all (by omega), if_pos ⟨Nat.zero_le _, hx⟩]
    congr 2
    omega
  rw [e i (by omega), e j hj]
  exact D (k - 1 - j) (k - 1 - i) (by omega) (by omega)
theorem count_ok {lt : Nat → Nat → Bool} {n : Nat} (O : Ord lt n) (hn : 1 ≤ n) {p : Array Nat} (P : PA n p) : PA n (krun lt (kas_count n p)).2 ∧ 1 ≤ (krun lt (kas_count n p)).1 ∧ (krun lt (kas_count n p)).1 ≤ n ∧ SP lt (krun lt (kas_count n p)).2 (krun lt (kas_count n p)).1 := by
  unfold kas_count
  rw [krun_bind]
  obtain ⟨a, b, c, d⟩ := asc_ok O P (n - 1) 1 (Nat.le_refl _) (by omega) (fun i j hij hj => by omega)
  generalize krun lt (kas_asc p (n - 1) 1) = m at *
  by_cases q : m = n
  · have : (m == n) = true := by simpa using q
    rw [if_pos this, krun]
    exact ⟨P, a, by omega, c⟩
  · have : ¬ (m == n) = true := by simpa using q
    rw [if_neg this]
    by_cases r : m > 1
    · rw [if_pos r, krun, c 0 (m - 1) (by omega) (by omega)]
      simp only [if_true]
      exact ⟨P, a, by show m ≤ n; omega, c⟩
    · rw [if_neg r]
      have e : m = 1 := by omega
      subst e
      have d : lt (p.getD 1 0) (p.getD 0 0) = true := by rcases d with d | d; omega; exact d
      unfold kas_descPart
      rw [krun_bind]
      obtain ⟨k, hk, k1, k2, D⟩ := desc_ok O P (n - 2) 2 (by omega) (by omega) (fun i j hij hj => by
        obtain ⟨rfl, rfl⟩ : i = 0 ∧ j = 1 := by omega
        exact d)
      rw [show n - (1 + 1) = n - 2 from rfl, hk]
      simp only [gt_iff_lt, Nat.lt_irrefl, if_false]
      unfold kas_tail3
      rw [krun_bind, krun]
      obtain ⟨P', S'⟩ := rev_ok P (k := k) (by omega) D
      obtain ⟨a', b', c', _⟩ := asc_ok O P' (n - k) k (by omega) (by omega) S'
      exact ⟨P', by omega, by omega, c'⟩
theorem place_ok {lt : Nat → Nat → Bool} {n : Nat} (O : Ord lt n) {p : Array Nat} (P : PA n p) {k : Nat} (hk : k < n) (S : SP lt p k) : ∀ (f l r : Nat), r - l ≤ f → l ≤ r → r ≤ k → (∀ i, i < l → lt (p.getD i 0) (p.getD k 0) = true) → (∀ i, r ≤ i → i < k → lt (p.getD k 0) (p.getD i 0) = true) →
    krun lt (kas_place p k f l r) ≤ k ∧ (∀ i, i < krun lt (kas_place p k f l r) → lt (p.getD i 0) (p.getD k 0) = true) ∧ (∀ i, krun lt (kas_place p k f l r) ≤ i → i < k → lt (p.getD k 0) (p.getD i 0) = true)
  | 0, l, r, hf, hl, hr, A, B => by
    have e : l = r := by omega
    subst e
    exact ⟨hr, A, B⟩
  | f + 1, l, r, hf, hl, hr, A, B => by
    unfold kas_place
    by_cases q : l ≥ r
    · rw [if_pos q, krun]
      have e : l = r := by omega
      subst e
      exact ⟨hr, A, B⟩
    · rw [if_neg q, krun]
      cases c : lt (p.getD k 0) (p.getD ((l + r) / 2) 0) with
      | true =>
        simp only [if_true]
        refine place_ok O P hk S f l ((l + r) / 2) (by omega) (by omega) (by omega) A fun i hi hik => ?_
        by_cases z : i = (l + r) / 2
        · rw [z]; exact c
        · exact O.tr _ _ _ c (S ((l + r) / 2) i (by omega) hik)
      | false =>
        simp only [Bool.false_eq_true, if_false]
        have h : lt (p.getD ((l + r) / 2) 0) (p.getD k 0) = true := by
          rcases O.tot _ _ (P.lt (i := k) hk) (P.lt (i := (l + r) / 2) (by omega)) (fun e => by have := P.inj (by omega) (by omega) e; omega) with h | h
          · rw [c] at h; cases h
          · exact h
        refine place_ok O P hk S f ((l + r) / 2 + 1) r (by omega) (by omega) hr (fun i hi => ?_) B
        by_cases z : i = (l + r) / 2
        · rw [z]; exact h
        · exact O.tr _ _ _ (S i ((l + r) / 2) (by omega) (by omega)) h
theorem bub_ok {lt : Nat → Nat → Bool} {n : Nat} {p : Array Nat} (P : PA n p) {k l : Nat} (hk : k < n) (hl : l ≤ k) (S : SP lt p k) (A : ∀ i, i < l → lt (p.getD i 0) (p.getD k 0) = true) (B : ∀ i, l ≤ i → i < k → lt (p.getD k 0) (p.getD i 0) = true) : PA n (bubble p k (k - l)) ∧ SP lt (bubble p k (k - l)) (k + 1) := by
  refine ⟨⟨(bubble_perm ..).trans P.perm⟩, fun i j hij hj => ?_⟩
  have hs := P.size
  have e : ∀ x, x ≤ k → (bubble p k (k - l)).getD x 0 = if x = l then p.getD k 0 else if l < x then p.getD (x - 1) 0 else p.getD x 0 := fun x hx => by
    rw [getD_of, getElem?_bubble (by omega) _ (by omega)]
    have : k - (k - l) = l := by omega
    rw [this]
    by_cases q : x = l
    · rw [if_pos q, if_pos q, getD_of]
    · rw [if_neg q, if_neg q]
      by_cases r : l < x
      · rw [if_pos ⟨r, hx⟩, if_pos r, getD_of]
      · rw [if_neg (fun z => r z.1), if_neg r, getD_of]
  rw [e i (by omega), e j (by omega)]
  by_cases q1 : i = l
  · rw [if_pos q1, if_neg (by omega), if_pos (by omega)]
    exact B (j - 1) (by omega) (by omega)
  · rw [if_neg q1]
    by_cases q2 : j = l
    · rw [if_pos q2, if_neg (by omega)]
      exact A i (by omega)
    · rw [if_neg q2]
      by_cases r1 : l < i
      · rw [if_pos r1, if_pos (by omega)]
        exact S _ _ (by omega) (by omega)
      · rw [if_neg r1]
        by_cases r2 : l < j
        · rw [if_pos r2]
          exact S _ _ (by omega) (by omega)
        · rw [if_neg r2]
          exact S _ _ hij (by omega)
theorem bin_ok {lt : Nat → Nat → Bool} {n : Nat} (O : Ord lt n) : ∀ (f k : Nat) (p : Array Nat), PA n p → k + f = n → SP lt p k → PA n (krun lt (kas_bin f p k)) ∧ SP lt (krun lt (kas_bin f p k)) n
  | 0, k, p, P, e, S => by
    have e : k = n := by omega
    subst e
    exact ⟨P, S⟩
  | f + 1, k, p, P, e, S => by
    unfold kas_bin
    rw [krun_bind]
    obtain ⟨a, b, c⟩ := place_ok O P (k := k) (by omega) S k 0 k (by omega) (Nat.zero_le _) (Nat.le_refl _) (fun i hi => by omega) (fun i hi hk => by omega)
    obtain ⟨P', S'⟩ := bub_ok P (by omega) a S b c
    exact bin_ok O f (k + 1) _ P' (by omega) S'
theorem sort_ok {lt : Nat → Nat → Bool} {n : Nat} (O : Ord lt n) (hn : 1 ≤ n) : PA n (krun lt (kas_sort n)) ∧ SP lt (krun lt (kas_sort n)) n := by
  unfold kas_sort
  rw [krun_bind]
  obtain ⟨a, b, c, d⟩ := count_ok O hn (p := (List.range n).toArray) ⟨Array.Perm.refl _⟩
  generalize krun lt (kas_count n (List.range n).toArray) = r at *
  by_cases q : r.1 < n
  · rw [if_pos q]
    have e : max r.1 1 = r.1 := by omega
    rw [e]
    exact bin_ok O _ _ _ a (by omega) d
  · rw [if_neg q, krun]
    have e : r.1 = n := by omega
    rw [e] at d
    exact ⟨a, d⟩
end Mine
end
section
open PySem PySem.W PyProof.Rows PySem.Spec PySem.Calls
namespace Mine
section
variable {prog : Program} {w : World} {A : Around} {E : Value → Shared → Prop} {h : Heap} {g : Array GenState} {d : Drawn} {t : Nat} {os : OsState}
/-- a mapM whose turns are looks -/
theorem mapM_look {α : Type} {f : Value → Sem α} {c : Value → α} {s : Shared} : ∀ {vs : List Value} {Q : List α → Shared → Prop}, (∀ v ∈ vs, ∀ (Q : α → Shared → Prop), Q (c v) s → wpAny (model prog w) A (f v) Q E s) → Q (vs.map c) s → wpAny (model prog w) A (vs.mapM f) Q E s
  | [], Q, _, H => by rw [List.mapM_nil]; exact wpAny_pure H
  | v :: vs, Q, hf, H => by
    rw [List.mapM_cons]
    exact wpAny_bind (hf v (.head _) _ (wpAny_bind (mapM_look (fun v hv => hf v (.tail _ hv)) (wpAny_pure H))))
theorem first_list {a : Addr} {vs : List Value} {k : Nat} {Q : Option Value → Shared → Prop} (e : h.get? a = some (lsO vs k)) (H : Q none ⟨h, g, d, t, os⟩) : wpAny (model prog w) A (firstOfTuple' (.ref a)) Q E ⟨h, g, d, t, os⟩ := by
  show wpAny (model prog w) A (load a >>= _) Q E ⟨h, g, d, t, os⟩
  refine wpAny_bind (wpAny_load (s := ⟨h, g, d, t, os⟩) e ?_)
  exact wpAny_pure H
theorem kind_lists {ks : List Value} {Q : SortKind → Shared → Prop} (hk : ∀ v ∈ ks, ∃ a vs k, v = .ref a ∧ h.get? a = some (lsO vs k)) (h2 : ks ≠ []) (H : Q oneType' ⟨h, g, d, t, os⟩) : wpAny (model prog w) A (keyKind' (List.toArray ks)) Q E ⟨h, g, d, t, os⟩ := by
  obtain ⟨k0, kr, rfl⟩ : ∃ k0 kr, ks = k0 :: kr := by cases ks with | nil => exact absurd rfl h2 | cons a b => exact ⟨a, b, rfl⟩
  rw [keyKind'_eq, List.mapM_toArray, map_eq_pure_bind]
  refine wpAny_bind (wpAny_bind (mapM_look (c := fun _ => none) (fun v hv Q H => ?_) (wpAny_pure ?_)))
  · obtain ⟨a, vs, k, rfl, e⟩ := hk v hv
    exact first_list e H
  rw [if_neg (by simp), if_neg (by simp)]
  rw [oneTypeOnly'_eq, List.mapM_toArray, map_eq_pure_bind]
  refine wpAny_bind (wpAny_bind (wpAny_bind (mapM_look (c := fun _ => Value.type "list") (fun v hv Q H => ?_) (wpAny_pure ?_))))
  · obtain ⟨a, vs, k, rfl, e⟩ := hk v hv
    exact wpAny_typeOf ⟨_, e, rfl⟩ H
  have hall : ((List.map (fun _ => Value.type "list") (k0 :: kr)).toArray.all fun x => x == Value.type "list") = true := by
    simp only [List.all_toArray, List.all_map, List.all_eq_true]
    intro _ _
    rfl
  have h0 : (List.map (fun _ => Value.type "list") (k0 :: kr)).toArray[0]? = some (Value.type "list") := by simp
  simp only [h0, hall, if_true]
  exact wpAny_pure (wpAny_pure H)
theorem klt_list {a b : Addr} {vs us : List Value} {ns ms : List Int} {k k2 : Nat} {Q : Bool → Shared → Prop} (ea : h.get? a = some (lsO vs k)) (eb : h.get? b = some (lsO us k2)) (hv : IntsAre vs ns) (hu : IntsAre us ms) (hA : A.units < 1000) (H : Q (ltL ns ms) ⟨h, g, d, t, os⟩) :
    wpAny (model prog w) A (keyLt' oneType' (.ref a) (.ref b)) Q E ⟨h, g, d, t, os⟩ := by
  rw [keyLt'_oneType, oneLt'_eq]
  simp only [if_true]
  refine wpAny_bind (wpAny_cRoomFor (Nat.lt_of_lt_of_le hA (Nat.le_of_ble_eq_true rfl)) ?_)
  refine wpAny_bind (wpAny_callSpecialIfBound?_slot (s := ⟨h, g, d, t, os⟩) (T := "list") ⟨_, ea, rfl⟩ F.slot_list_lt (call_meets F.slot_list_lt ⟨_, ea, rfl⟩ F.entry_list_lt (F.args_list_lt_2 _ _) (list_lt a b vs us ns ms k k2 hv hu) ⟨ea, eb, ?_⟩))
  exact wpAny_truthy_bool H
end
end Mine
end
section
open PySem PySem.W PyProof.Rows PySem.Spec PySem.Calls
namespace Mine
section
variable {prog : Program} {w : World} {A : Around} {E : Value → Shared → Prop} {h : Heap} {g : Array GenState} {d : Drawn} {t : Nat} {os : OsState}
theorem coll_range {r : Addr} {N : Nat} {t1 u t2 : Tok} {Q : List Value → Shared → Prop} (hh : A.handled = none) (hN : N < 1000) (hr : h.get? r = some { cls := .type "range", data := .fields #[.int 0 t1, .int N u, .int 1 t2] })
    (H : ∀ h' t' vs, Le h h' → IntsAre vs ((List.range N).map Int.ofNat) → Q vs ⟨h', g, d, t', os⟩) : wpAny (model prog w) A (collect (.ref r)) Q E ⟨h, g, d, t, os⟩ := by
  unfold collect
  refine wpAny_bind (wpAny_runValue (codeAny_builtin entry_proto_collect' ?_))
  show wpAny _ _ (do again (.builtin "list.__iadd__" ⟨[← newList [], .ref r], []⟩)) _ _ _
  refine wpAny_bind (wpAny_newList (wpAny_pure ⟨Code.quiet_builtin _ (by decide +kernel), codeAny_builtin entry_list_iadd' ?_⟩))
  have hr' : (h.push (seqObj "list" #[] 0)).get? r = some { cls := .type "range", data := .fields #[.int 0 t1, .int N u, .int 1 t2] } := Heap.get?_push_of_some _ hr
  have e : Builtin.Range.rangeSize 0 (N : Int) 1 = N := by rw [rangeSize_one]; split <;> omega
  rw [Around.under_plainId (id := "list.__iadd__") (by decide +kernel) _]
  show wpAny _ _ (Builtin.List.listExtendWith (.ref h.objs.size) (.ref r) (.ref h.objs.size)) _ _ _
  refine wpAny_extend_range (R := fun r s' => match r with
      | .ok (.ret v) => wpAny (model prog w) A (match v with
        | .ref a => do match (← load a).data with
          | .seq xs _ => pure xs.toList
          | _ => unsupported "internal:collect"
        | _ => unsupported "internal:collect") Q E s'
      | .ok _ => False
      | .error e => E e s') (s := ⟨h.push (seqObj "list" #[] 0), g, d, t, os⟩) (A := A) hh hr' (small_one (by omega) (by omega) (by omega) (by omega)) e (by omega) h.objs.size (.ref h.objs.size) 0 (Heap.get?_push_size _ rfl) fun h' tk acc c hk hS hacc => ?_
  refine wpAny_bind (wpAny_load (s := ⟨h', g, d, tk, os⟩) hS ?_)
  refine wpAny_pure (H h' tk _ (fun b o eb => hk b o (Nat.ne_of_lt (Heap.lt_size eb)) (Heap.get?_push_of_some _ eb)) ?_)
  obtain ⟨hsz, hat⟩ := hacc
  have hl : acc.toList.length = N := by simpa using hsz
  clear hS hk
  have gen : ∀ (n : Nat) (l : List Value), l.length = n → (∀ (j : Nat) (v : Value), l[j]? = some v → ∃ t, v = Value.int (0 + (j : Int) * 1) t) → IntsAre l ((List.range n).map Int.ofNat) := by
    intro n
    induction n with
    | zero => intro l hl _; cases l with | nil => exact .nil | cons a b => simp at hl
    | succ n ih =>
      intro l hl hat
      obtain ⟨l', x, rfl⟩ : ∃ l' x, l = l' ++ [x] := ⟨l.dropLast, l.getLast (by intro e; rw [e] at hl; simp at hl), (List.dropLast_concat_getLast _).symm⟩
      have hl' : l'.length = n := by simpa using hl
      obtain ⟨tx, rfl⟩ := hat n x (by rw [← hl']; simp)
      rw [List.range_succ, List.map_append]
      have e : (0 : Int) + (n : Int) * 1 = Int.ofNat n := by simp
      rw [e]
      exact ints_snoc (ih l' hl' fun j v hj => hat j v (by rw [List.getElem?_append_left (by rcases Nat.lt_or_ge j l'.length with q | q; exact q; rw [List.getElem?_eq_none q] at hj; cases hj)]; exact hj)) _ _
  exact gen N _ hl fun j v hj => hat j v (by simpa using hj)
end
end Mine
end
section
open PySem PySem.W PyProof.Rows PySem.Spec PySem.Calls
namespace Mine
/-- a key function that makes a new list of ints -/
def KeyL (prog : Program) (w : World) (A : Around) (b : Heap) (q : Addr) (i : Nat) (key : List Int) : Prop :=
  ∀ (u : Tok) (h : Heap) (g : Array GenState) (d : Drawn) (t : Nat) (os : OsState) (Q E : Value → Shared → Prop), Le b h → (∀ h' t' k v c, Le h h' → h.get? k = none → h'.get? k = some (lsO v c) → IntsAre v key → Q (.ref k) ⟨h', g, d, t', os⟩) → wpAny (model prog w) A (call (.ref q) [.int (i : Nat) u]) Q E ⟨h, g, d, t, os⟩
def KeysAt (b : Heap) (ks : List Value) (key : Nat → List Int) : Prop := ∀ (i : Nat) (v : Value), ks[i]? = some v → ∃ a vs c, v = Value.ref a ∧ b.get? a = some (lsO vs c) ∧ IntsAre vs (key i)
def Bd {α : Type} (n : Nat) : KasT α → Prop
  | .ret _ => True
  | .ask i j k => i < n ∧ j < n ∧ ∀ b, Bd n (k b)
theorem Bd.bind {α β : Type} {n : Nat} {P : α → Prop} {f : α → KasT β} : ∀ {T : KasT α}, Bd n T → (∀ a, Bd n (f a)) → Bd n (T.bind f)
  | .ret a, _, h => h a
  | .ask i j k, ⟨a, b, c⟩, h => ⟨a, b, fun x => Bd.bind (P := P) (c x) h⟩
theorem kas_go {prog : Program} {w : World} {A : Around} {α : Type} {ks : List Value} {key : Nat → List Int} {h : Heap} {g : Array GenState} {d : Drawn} {t : Nat} {os : OsState} {Q : α → Shared → Prop} (hk : KeysAt h ks key) (hA : A.units < 1000) :
    ∀ (T : KasT α), Bd ks.length T → Q (krun (fun i j => ltL (key i) (key j)) T) ⟨h, g, d, t, os⟩ → T.kasWp (kas_ask prog w A oneType' ks) Q ⟨h, g, d, t, os⟩
  | .ret a, _, H => H
  | .ask i j k, ⟨hi, hj, hb⟩, H => by
    show kas_ask prog w A oneType' ks i j _ _
    obtain ⟨a, va, ca, e1, e2, e3⟩ := hk i (ks[i]) (by simp)
    obtain ⟨b, vb, cb, f1, f2, f3⟩ := hk j (ks[j]) (by simp)
    unfold kas_ask
    have g1 : ks.getD i Value.none = .ref a := by rw [← e1]; simp [hi]
    have g2 : ks.getD j Value.none = .ref b := by rw [← f1]; simp [hj]
    rw [g1, g2]
    exact klt_list e2 f2 e3 f3 hA (kas_go hk hA (k (ltL (key i) (key j))) (hb _) H)
def BdP {α : Type} (n : Nat) (P : α → Prop) : KasT α → Prop
  | .ret a => P a
  | .ask i j k => i < n ∧ j < n ∧ ∀ b, BdP n P (k b)
theorem BdP.bd {α : Type} {n : Nat} {P : α → Prop} : ∀ {T : KasT α}, BdP n P T → Bd n T
  | .ret _, _ => trivial
  | .ask i j k, ⟨a, b, c⟩ => ⟨a, b, fun x => BdP.bd (c x)⟩
theorem BdP.bind {α β : Type} {n : Nat} {P : α → Prop} {R : β → Prop} {f : α → KasT β} : ∀ {T : KasT α}, BdP n P T → (∀ a, P a → BdP n R (f a)) → BdP n R (T.bind f)
  | .ret a, p, h => h a p
  | .ask i j k, ⟨a, b, c⟩, h => ⟨a, b, fun x => BdP.bind (c x) h⟩
theorem BdP.ite {α : Type} {n : Nat} {P : α → Prop} {c : Prop} [Decidable c] {T U : KasT α} (h1 : BdP n P T) (h2 : BdP n P U) : BdP n P (if c then T else U) := by split; exact h1; exact h2
def AL (n : Nat) (p : Array Nat) : Prop := ∀ i, p.getD i 0 < n
theorem AL.of {n : Nat} (hn : 0 < n) {p q : Array Nat} (hp : p.Perm q) (h : ∀ x ∈ q, x < n) : (∀ x ∈ p, x < n) ∧ AL n p := by
  have h1 : ∀ x ∈ p, x < n := fun x hx => h x (hp.mem_iff.mp hx)
  refine ⟨h1, fun i => ?_⟩
  unfold Array.getD
  split
  · exact h1 _ (by simp)
  · exact hn
abbrev EL (n : Nat) (p : Array Nat) : Prop := ∀ x ∈ p, x < n
theorem EL.al {n : Nat} (hn : 0 < n) {p : Array Nat} (h : EL n p) : AL n p := (AL.of hn (Array.Perm.refl _) h).2
theorem EL.rev {n : Nat} {p : Array Nat} (h : EL n p) (i j : Nat) : EL n (kas_rev p i j) := fun x hx => h x ((mirror_perm ..).mem_iff.mp hx)
theorem EL.bub {n : Nat} {p : Array Nat} (h : EL n p) (i j : Nat) : EL n (bubble p i j) := fun x hx => h x ((bubble_perm ..).mem_iff.mp hx)
theorem bd_asc {n : Nat} (hn : 0 < n) {p : Array Nat} (h : EL n p) : ∀ f k, BdP n (fun _ => True) (kas_asc p f k)
  | 0, _ => trivial
  | f + 1, k => ⟨h.al hn _, h.al hn _, fun _ => BdP.ite trivial (bd_asc hn h f (k + 1))⟩
theorem bd_desc {n : Nat} (hn : 0 < n) : ∀ f (p : Array Nat) k q, EL n p → BdP n (fun r : Array Nat × Nat × Nat => EL n r.1) (kas_desc f p k q)
  | 0, p, _, _, h => h
  | f + 1, p, k, q, h => ⟨h.al hn _, h.al hn _, fun _ => BdP.ite (BdP.ite (bd_desc hn f _ _ _ (h.rev _ _)) (bd_desc hn f _ _ _ h)) ⟨h.al hn _, h.al hn _, fun _ => BdP.ite h (bd_desc hn f _ _ _ h)⟩⟩
theorem bd_tail3 {n : Nat} (hn : 0 < n) {p : Array Nat} (h : EL n p) (k m : Nat) : BdP n (fun r : Nat × Array Nat => EL n r.2) (kas_tail3 k m p) := BdP.bind (bd_asc hn (h.rev _ _) _ _) fun _ _ => h.rev _ _
theorem bd_descPart {n : Nat} (hn : 0 < n) {p : Array Nat} (h : EL n p) (k m : Nat) : BdP n (fun r : Nat × Array Nat => EL n r.2) (kas_descPart k m p) := BdP.bind (bd_desc hn _ _ _ _ h) fun _ hr => BdP.ite (bd_tail3 hn (hr.rev _ _) _ _) (bd_tail3 hn hr _ _)
theorem bd_count {n : Nat} (hn : 0 < n) {p : Array Nat} (h : EL n p) (m : Nat) : BdP n (fun r : Nat × Array Nat => EL n r.2) (kas_count m p) := BdP.bind (bd_asc hn h _ _) fun _ _ => BdP.ite h (BdP.ite ⟨h.al hn _, h.al hn _, fun _ => BdP.ite h (bd_descPart hn (h.rev _ _) _ _)⟩ (bd_descPart hn h _ _))
theorem bd_place {n : Nat} (hn : 0 < n) {p : Array Nat} (h : EL n p) (k : Nat) : ∀ f l r, BdP n (fun _ => True) (kas_place p k f l r)
  | 0, _, _ => trivial
  | f + 1, l, r => by
    unfold kas_place
    exact BdP.ite trivial ⟨h.al hn _, h.al hn _, fun _ => BdP.ite (bd_place hn h k f _ _) (bd_place hn h k f _ _)⟩
theorem bd_bin {n : Nat} (hn : 0 < n) : ∀ f (p : Array Nat) k, EL n p → BdP n (fun _ => True) (kas_bin f p k)
  | 0, _, _, _ => trivial
  | f + 1, p, k, h => BdP.bind (bd_place hn h k _ _ _) fun _ _ => bd_bin hn f _ _ (h.bub _ _)
theorem bd_sort {n : Nat} (hn : 0 < n) : Bd n (kas_sort n) := BdP.bd (P := fun _ => True) <| BdP.bind (bd_count hn (fun x hx => by simpa using hx) _) fun _ hr => BdP.ite (bd_bin hn _ _ _ hr) trivial
end Mine
end
section
open PySem PySem.W PyProof.Rows PySem.Spec PySem.Calls
namespace Mine
theorem KeysAt.mono {b b' : Heap} {ks : List Value} {key : Nat → List Int} (K : KeysAt b ks key) (le : Le b b') : KeysAt b' ks key := fun i v hv => let ⟨a, vs, c, e1, e2, e3⟩ := K i v hv; ⟨a, vs, c, e1, le _ _ e2, e3⟩
theorem KeysAt.snoc {b b' : Heap} {ks : List Value} {key : Nat → List Int} {a : Addr} {vs : List Value} {c : Nat} (K : KeysAt b ks key) (le : Le b b') (e : b'.get? a = some (lsO vs c)) (hi : IntsAre vs (key ks.length)) : KeysAt b' (ks ++ [.ref a]) key := fun i v hv => by
  by_cases q : i < ks.length
  · rw [List.getElem?_append_left q] at hv
    exact K.mono le i v hv
  · rw [List.getElem?_append_right (by omega)] at hv
    have : i - ks.length = 0 := by
      cases h : i - ks.length with
      | zero => rfl
      | succ k => rw [h] at hv; simp at hv
    rw [this] at hv
    have e' : i = ks.length := by omega
    subst e'
    simp at hv
    exact ⟨a, vs, c, hv.symm, e, hi⟩
section
variable {prog : Program} {w : World} {A : Around} {E : Value → Shared → Prop} {h b : Heap} {g : Array GenState} {d : Drawn} {t : Nat} {os : OsState} {L a q : Addr} {m : Loc} {ns : List (Addr × Obj)} {vs : List Value} {n : Nat}
theorem u_seq {c : Addr} {xs ys : List Value} {k : Nat} {f : Array Value → Array Value} {Q : Unit → Shared → Prop} (S : Sx b L m ((c, lsO xs k) :: ns) h) (hf : f xs.toArray = ys.toArray) (hx : xs.length < 1000) (hy : ys.length < 1000) (H : ∀ h' k', Sx b L m ((c, lsO ys k') :: ns) h' → Q () ⟨h', g, d, t, os⟩) :
    wpAny (model prog w) A (Builtin.List.listUpdate (.ref c) f) Q E ⟨h, g, d, t, os⟩ := by
  have z : h.get? c = some (lsO xs k) := (S.new _ (.head _)).1
  refine listUpdate_at (s := ⟨h, g, d, t, os⟩) z rfl ?_ (by rw [List.size_toArray, sizeLine_eq]; omega) (by rw [hf, List.size_toArray, sizeLine_eq]; omega)
  have q := PySem.IsL.update (n := k) (items := xs.toArray) z f
  unfold PySem.IsL at q
  rw [hf] at q
  exact H _ _ (S.upd (Heap.SameBut.update ..) q)
theorem keys_loop {kS : Addr} {key : Nat → List Int} {N : Nat} {body : Value → PUnit → Sem (ForInStep PUnit)} (hN : N < 900) {b₀ : Heap} (K : ∀ i, i < N → KeyL prog w A b₀ q i (key i))
    (hb : ∀ x (ks : List Value) (s : Shared) (R : ForInStep PUnit → Shared → Prop), wpAny (model prog w) A (call (.ref q) [x]) (fun k s' => wpAny (model prog w) A (Builtin.List.listUpdate (.ref kS) (·.push k)) (fun _ s'' => R (.yield ⟨⟩) s'') (fun _ _ => False) s') (fun _ _ => False) s → wpAny (model prog w) A (body x ⟨⟩) R E s) :
    ∀ (r : List Nat) (vr ks : List Value) (e : Nat) (b h : Heap) (t : Nat) (Q : PUnit → Shared → Prop), IntsAre vr (r.map Int.ofNat) → (∀ i j, r[i]? = some j → j = ks.length + i) → ks.length + r.length = N → Le b₀ b → KeysAt b ks key → Sx b L m ((kS, lsO ks e) :: ns) h →
      (∀ b' h' t' ks' e', Le b b' → KeysAt b' ks' key → ks'.length = N → Sx b' L m ((kS, lsO ks' e') :: ns) h' → Q ⟨⟩ ⟨h', g, d, t', os⟩) → wpAny (model prog w) A (forIn vr PUnit.unit body) Q E ⟨h, g, d, t, os⟩
  | [], vr, ks, e, b, h, t, Q, hv, hr, hl, lb, hk, S, H => by
    cases hv
    rw [List.forIn_nil]
    exact wpAny_pure (H b h t ks e (Le.refl _) hk (by simpa using hl) S)
  | j :: r, vr, ks, e, b, h, t, Q, hv, hr, hl, lb, hk, S, H => by
    obtain ⟨u, vr', rfl, hv'⟩ := hv.cons_inv
    rw [List.forIn_cons]
    have ej : j = ks.length := by simpa using hr 0 j rfl
    have hjN : j < N := by rw [List.length_cons] at hl; omega
    refine wpAny_bind (hb _ ks _ _ (K j hjN u h g d t os _ _ (lb.trans S.keep) fun h' t' k v c le hf ek iv => ?_))
    obtain ⟨b', l1, S', l2, nw⟩ := S.absorb le
    refine u_seq (ys := ks ++ [.ref k]) S' (by simp) (by rw [List.length_cons] at hl; omega) (by rw [List.length_append, List.length_singleton]; rw [List.length_cons] at hl; omega) fun h2 e2 S2 => ?_
    refine keys_loop hN K hb r vr' (ks ++ [.ref k]) e2 b' h2 t' Q hv' (fun i x hx => ?_) (by rw [List.length_append, List.length_singleton]; rw [List.length_cons] at hl; omega) (lb.trans l1) (hk.snoc l1 (nw _ _ hf ek) (by rw [← ej]; exact iv)) S2 fun b2 h3 t3 ks3 e3 l3 k3 z3 S3 => H b2 h3 t3 ks3 e3 (l1.trans l3) k3 z3 S3
    have := hr (i + 1) x (by simpa using hx)
    rw [List.length_append, List.length_singleton]; omega
end
end Mine
end
section
open PySem PySem.W PyProof.Rows PySem.Spec PySem.Calls
namespace Mine
section
variable {prog : Program} {w : World} {A : Around} {E : Value → Shared → Prop} {h b : Heap} {g : Array GenState} {d : Drawn} {t : Nat} {os : OsState} {L a q : Addr} {m : Loc} {ns : List (Addr × Obj)} {vs : List Value} {n : Nat}
/-- list.sort(key=..) of 0 .. N-1, by keys that are lists of ints -/
theorem sort_spec {N : Nat} {key : Nat → List Int} {P : PySem.Fin → Shared → Prop} (O : Ord (fun i j => ltL (key i) (key j)) N) (hA : A.units < 900) (h2 : 2 ≤ N) (h64 : N < 64) (S : Sx b L m ((a, lsO vs n) :: ns) h) (hv : IntsAre vs ((List.range N).map Int.ofNat)) (K : ∀ i, i < N → KeyL prog w A b q i (key i))
    (H : ∀ b' h' t' k, Le b b' → Sx b' L m ((a, lsO ((krun (fun i j => ltL (key i) (key j)) (kas_sort N)).toList.map fun i => vs.getD i Value.none) k) :: ns) h' → P (.done (.ret .none)) ⟨h', g, d, t', os⟩) :
    wpAny (model prog w) A (ksk_tree a (.ref q) false) P E ⟨h, g, d, t, os⟩ := by
  have hvN : vs.length = N := by rw [ints_len hv]; simp
  unfold ksk_tree
  refine wpAny_bind (listItems_at (s := ⟨h, g, d, t, os⟩) (S.new _ (.head _)).1 rfl ?_)
  refine wpAny_bind (u_seq (ys := []) S rfl (by omega) (by decide) fun h1 k1 S => ?_)
  refine wpAny_bind (seqEpoch_at (s := ⟨h1, g, d, t, os⟩) (S.new _ (.head _)).1 rfl ?_)
  refine wpAny_bind (wpAny_newTuple ?_ (by show vs.toArray.toList.length ≤ _; rw [sizeLine_eq]; simp; omega))
  have S := (S.alloc (tpO vs.toArray.toList)).tl
  refine wpAny_bind (wpAny_newList ?_ (Nat.zero_le _))
  have S := S.alloc (lsO [] 0)
  show wpAny _ _ (holding _ _) _ _ ⟨(h1.push (tpO vs.toArray.toList)).push (lsO [] 0), g, d, t, os⟩
  refine wpAny_holding ?_
  show wpAny _ _ (ksk_rest a (.ref q) false vs.toArray k1 (.ref (h1.push (tpO vs.toArray.toList)).objs.size)) _ _ _
  generalize (h1.push (tpO vs.toArray.toList)).objs.size = kS at S ⊢
  generalize (h1.push (tpO vs.toArray.toList)).push (lsO [] 0) = h3 at S ⊢
  unfold ksk_rest
  refine wpAny_bind (wpAny_rule ?_)
  first
    | rw [List.forIn_toArray]
    | (rw [← Array.forIn_toList]; simp only [List.toList_toArray])
  refine wpAny_bind (keys_loop (kS := kS) (by omega) K (fun x ks s R hx => ?_) (List.range N) vs [] 0 b h3 t _ hv (fun i j hj => ?_) (by simp) (Le.refl _) (fun i v hv => by simp at hv) S fun b' h4 t4 ks e lb hk hz S => ?_)
  · refine wpAny_bind (wpAny_attempt (wpAny_mono hx (fun k s' hk => ?_) fun _ _ hF => hF.elim))
    exact wpAny_bind (wpAny_mono hk (fun _ s'' hq => wpAny_pure hq) fun _ _ hF => hF.elim)
  · have : j = i := by
      rcases Nat.lt_or_ge i N with q | q
      · rw [List.getElem?_range q] at hj; exact (Option.some.inj hj).symm
      · rw [List.getElem?_eq_none (by simpa using q)] at hj; cases hj
    simp [this]
  refine wpAny_bind (listItems_at (s := ⟨h4, g, d, t4, os⟩) (S.new _ (.head _)).1 rfl ?_)
  unfold ksk_end
  try dsimp only
  rw [if_neg (by simp)]
  have hn2 : ¬ vs.toArray.size < 2 := by rw [List.size_toArray]; omega
  rw [if_neg hn2, if_neg hn2]
  refine wpAny_bind (kind_lists (fun v hv => ?_) (by intro e; rw [e] at hz; simp at hz; omega) ?_)
  · obtain ⟨i, hi, rfl⟩ := List.getElem_of_mem hv
    obtain ⟨c, us, k, e1, e2, _⟩ := hk i ks[i] (by simp)
    exact ⟨c, us, k, e1, S.keep _ _ e2⟩
  have hl : ks.length = vs.length := by rw [hz, hvN]
  refine wpAny_bind (wpAny_mono (kat_run (Q := fun st' s' => ∃ p : Array Nat, arrOf st' = p.map (kas_item (ks.toArray.zip vs.toArray)) ∧ failedOf st' = none ∧ p = krun (fun i j => ltL (key i) (key j)) (kas_sort N) ∧ s' = ⟨h4, g, d, t4, os⟩) (G := fun p s' => p = krun (fun i j => ltL (key i) (key j)) (kas_sort N) ∧ s' = ⟨h4, g, d, t4, os⟩) hl (by omega) (by omega) (fun p st' s' a1 a2 a3 a4 => ⟨p, a2, a3, a4⟩) ?_) ?_ fun _ _ x => x)
  · rw [hvN]
    refine kas_go (hk.mono S.keep) (by omega) _ ?_ ⟨rfl, rfl⟩
    rw [hz]; exact bd_sort (by omega)
  rintro ⟨⟨⟩, st'⟩ s' ⟨p, har, hf, rfl, rfl⟩
  try dsimp only
  unfold ksk_tail
  try dsimp only
  rw [kat_snds hl har]
  refine wpAny_bind (u_seq (ys := []) S rfl (by omega) (by decide) fun h5 k5 S => ?_)
  refine wpAny_bind (wpAny_letGo ?_)
  have S := S.tl
  refine wpAny_bind (seqEpoch_at (s := ⟨h5, g, d, t4, os⟩) (S.new _ (.head _)).1 rfl ?_)
  have hps : (krun (fun i j => ltL (key i) (key j)) (kas_sort N)).toList.length < 1000 := by
    have := (sort_ok O (by omega)).1.size
    simp only [Array.length_toList]
    omega
  refine wpAny_bind (u_seq (ys := (krun (fun i j => ltL (key i) (key j)) (kas_sort N)).toList.map fun i => vs.getD i Value.none) S rfl (by decide) (by rw [List.length_map]; exact hps) fun h6 k6 S => ?_)
  rw [hf]
  simp only [bne_self_eq_false, Bool.false_eq_true, if_false]
  exact wpAny_pure (H b' h6 t4 k6 lb S)
end
end Mine
end
section
open PySem PySem.W PyProof.Rows PySem.Spec PySem.Calls
namespace Mine
theorem ltL_irr : ∀ a, ltL a a = false
  | [] => rfl
  | x :: r => by unfold ltL; rw [if_pos rfl]; exact ltL_irr r
theorem ltL_tr : ∀ (a b c : List Int), ltL a b = true → ltL b c = true → ltL a c = true := by
  intro a
  induction a with
  | nil =>
    intro b c h1 h2
    cases b with
    | nil => simp [ltL] at h1
    | cons y b => cases c with
      | nil => simp [ltL] at h2
      | cons z c => rfl
  | cons x a ih =>
    intro b c h1 h2
    cases b with
    | nil => simp [ltL] at h1
    | cons y b => cases c with
      | nil => simp [ltL] at h2
      | cons z c =>
        unfold ltL at h1 h2 ⊢
        by_cases xy : x = y
        · subst xy
          rw [if_pos rfl] at h1
          by_cases yz : x = z
          · rw [if_pos yz] at h2 ⊢; exact ih _ _ h1 h2
          · rw [if_neg yz] at h2 ⊢; exact h2
        · rw [if_neg xy] at h1
          have h1' := of_decide_eq_true h1
          by_cases yz : y = z
          · subst yz; rw [if_neg xy]; exact h1
          · rw [if_neg yz] at h2
            have h2' := of_decide_eq_true h2
            rw [if_neg (by omega)]
            exact decide_eq_true (by omega)
theorem ltL_as {a b : List Int} (h : ltL a b = true) : ltL b a = false := by
  cases q : ltL b a with
  | false => rfl
  | true => have := ltL_tr _ _ _ h q; rw [ltL_irr] at this; cases this
theorem ltL_tri : ∀ {a b : List Int}, ltL a b = false → ltL b a = false → a = b
  | [], [], _, _ => rfl
  | [], y :: b, h, _ => by simp [ltL] at h
  | x :: a, [], _, h => by simp [ltL] at h
  | x :: a, y :: b, h1, h2 => by
    unfold ltL at h1 h2
    by_cases q : x = y
    · subst q
      rw [if_pos rfl] at h1 h2
      rw [ltL_tri h1 h2]
    · rw [if_neg q] at h1
      rw [if_neg (fun e => q e.symm)] at h2
      have := of_decide_eq_false h1
      have := of_decide_eq_false h2
      omega
theorem ltL_app : ∀ {a a' : List Int} (b b' : List Int), a.length = a'.length → ltL (a ++ b) (a' ++ b') = (ltL a a' || (decide (a = a') && ltL b b'))
  | [], [], b, b', _ => by simp [ltL]
  | [], _ :: _, _, _, h => by simp at h
  | _ :: _, [], _, _, h => by simp at h
  | x :: a, y :: a', b, b', h => by
    have ih := ltL_app (a := a) (a' := a') b b' (by simpa using h)
    rw [List.cons_append, List.cons_append]
    show (if x = y then ltL (a ++ b) (a' ++ b') else decide (x < y)) = ((if x = y then ltL a a' else decide (x < y)) || _)
    by_cases q : x = y
    · subst q
      rw [if_pos rfl, if_pos rfl, ih]
      simp
    · rw [if_neg q, if_neg q]
      simp [q]
theorem ltL_neg : ∀ {a b : List Int}, a.length = b.length → ltL (a.map (- ·)) (b.map (- ·)) = ltL b a
  | [], [], _ => rfl
  | [], _ :: _, h => by simp at h
  | _ :: _, [], h => by simp at h
  | x :: a, y :: b, h => by
    have ih := ltL_neg (a := a) (b := b) (by simpa using h)
    show (if -x = -y then ltL (a.map (- ·)) (b.map (- ·)) else decide (-x < -y)) = (if y = x then ltL b a else decide (y < x))
    by_cases q : x = y
    · subst q; rw [if_pos rfl, if_pos rfl, ih]
    · rw [if_neg (by omega), if_neg (fun e => q e.symm)]
      congr 1
      exact propext ⟨fun h => by omega, fun h => by omega⟩
theorem ltL_one (x y : Int) : ltL [x] [y] = decide (x < y) := by
  show (if x = y then ltL [] [] else decide (x < y)) = _
  by_cases q : x = y
  · subst q; rw [if_pos rfl]; simp [ltL]
  · rw [if_neg q]
/-- compare's sign, by codes -/
theorem cmpW_lt {x y : Co} : ∀ {sel : List (Nat × Int)}, (∀ p ∈ sel, p.2 ≠ 0) → (decide (cmpW sel x y < 0) = ltL (codeOf (wh x) sel) (codeOf (wh y) sel)) ∧ (decide (0 < cmpW sel x y) = ltL (codeOf (wh y) sel) (codeOf (wh x) sel))
  | [], _ => ⟨rfl, rfl⟩
  | (c, d) :: r, h => by
    have ih := cmpW_lt (x := x) (y := y) (sel := r) fun p hp => h p (.tail _ hp)
    have hd : d ≠ 0 := h (c, d) (.head _)
    have ex : ∀ z : Co, codeOf (wh z) ((c, d) :: r) = (if d > 0 then whC z c else - whC z c) :: codeOf (wh z) r := fun z => rfl
    rw [ex x, ex y]
    unfold cmpW ltL
    by_cases p : d > 0
    · simp only [p, if_true]
      by_cases q1 : whC x c < whC y c
      · rw [if_pos q1, if_neg (by omega), if_neg (by omega)]
        exact ⟨by rw [decide_eq_true q1]; exact decide_eq_true (by omega), by rw [decide_eq_false (by omega : ¬ whC y c < whC x c)]; exact decide_eq_false (by omega)⟩
      · rw [if_neg q1]
        by_cases q2 : whC y c < whC x c
        · rw [if_pos q2, if_neg (by omega), if_neg (by omega)]
          exact ⟨by rw [decide_eq_false q1]; exact decide_eq_false (by omega), by rw [decide_eq_true q2]; exact decide_eq_true (by omega)⟩
        · rw [if_neg q2, if_pos (by omega), if_pos (by omega)]
          exact ih
    · simp only [p, if_false]
      by_cases q1 : whC x c < whC y c
      · rw [if_pos q1, if_neg (by omega), if_neg (by omega)]
        exact ⟨by rw [decide_eq_false (by omega : ¬ (-whC x c < -whC y c))]; exact decide_eq_false (by omega), by rw [decide_eq_true (by omega : (-whC y c < -whC x c))]; exact decide_eq_true (by omega)⟩
      · rw [if_neg q1]
        by_cases q2 : whC y c < whC x c
        · rw [if_pos q2, if_neg (by omega), if_neg (by omega)]
          exact ⟨by rw [decide_eq_true (by omega : (-whC x c < -whC y c))]; exact decide_eq_true (by omega), by rw [decide_eq_false (by omega : ¬ (-whC y c < -whC x c))]; exact decide_eq_false (by omega)⟩
        · rw [if_neg q2, if_pos (by omega), if_pos (by omega)]
          exact ih
theorem codeOf_app (ns : List Int) (a b : List (Nat × Int)) : codeOf ns (a ++ b) = codeOf ns a ++ codeOf ns b := List.map_append
theorem codeOf_len (ns : List Int) (a : List (Nat × Int)) : (codeOf ns a).length = a.length := List.length_map _
theorem codeOf_neg (ns : List Int) : ∀ {a : List (Nat × Int)}, (∀ p ∈ a, p.2 ≠ 0) → codeOf ns (negS a) = (codeOf ns a).map (- ·)
  | [], _ => rfl
  | (c, d) :: r, h => by
    have hd : d ≠ 0 := h (c, d) (.head _)
    have ih := codeOf_neg ns (a := r) fun p hp => h p (.tail _ hp)
    show (if -d > 0 then ns[c]?.getD 0 else - ns[c]?.getD 0) :: codeOf ns (negS r) = (-(if d > 0 then ns[c]?.getD 0 else - ns[c]?.getD 0)) :: (codeOf ns r).map (- ·)
    rw [ih]
    congr 1
    by_cases p : d > 0
    · rw [if_pos p, if_neg (by omega)]
    · rw [if_neg p, if_pos (by omega)]; omega
theorem negS_ne {a : List (Nat × Int)} (h : ∀ p ∈ a, p.2 ≠ 0) : ∀ p ∈ negS a, p.2 ≠ 0 := by
  intro p hp
  obtain ⟨q, hq, rfl⟩ := List.mem_map.mp hp
  have := h q hq
  show -q.2 ≠ 0
  omega
/-- the search finds the bound -/
theorem bs_ok {p : Nat → Bool} {n : Nat} (mono : ∀ i j, i ≤ j → j < n → p i = true → p j = true) : ∀ f lo hi, hi - lo ≤ f → lo ≤ hi → hi ≤ n → (∀ j, j < lo → p j = false) → (∀ j, hi ≤ j → j < n → p j = true) →
    (∀ j, j < bs p f lo hi → p j = false) ∧ (∀ j, bs p f lo hi ≤ j → j < n → p j = true)
  | 0, lo, hi, hf, hl, hn, A, B => by
    have e : lo = hi := by omega
    subst e
    exact ⟨A, B⟩
  | f + 1, lo, hi, hf, hl, hn, A, B => by
    unfold bs
    by_cases q : lo < hi
    · rw [if_pos q]
      cases c : p ((lo + hi) / 2) with
      | true =>
        simp only [if_true]
        exact bs_ok mono f _ _ (by omega) (by omega) (by omega) A fun j hj hjn => mono _ j hj hjn c
      | false =>
        simp only [Bool.false_eq_true, if_false]
        refine bs_ok mono f _ _ (by omega) (by omega) hn (fun j hj => ?_) B
        cases r : p j with
        | false => rfl
        | true => have := mono j ((lo + hi) / 2) (by omega) (by omega) r; rw [c] at this; cases this
    · rw [if_neg q]
      have e : lo = hi := by omega
      subst e
      exact ⟨A, B⟩
section
variable {T : Nat → Nat → Bool}
theorem ins_perm (is : List Nat) (k i : Nat) : (ins is k i).Perm (i :: is) := by
  unfold ins
  exact List.perm_middle.trans (by rw [List.take_append_drop])
theorem ins_ok (tr : ∀ a b c, T a b = true → T b c = true → T a c = true) {is : List Nat} {i : Nat} {p : Nat → Bool} (hs : is.Pairwise fun a b => T a b = true) (hp : ∀ j x, is[j]? = some x → p j = T i x) (tot : ∀ x ∈ is, T i x = false → T x i = true) :
    (ins is (bs p is.length 0 is.length) i).Pairwise (fun a b => T a b = true) ∧ (∀ x, x ∈ is.drop (bs p is.length 0 is.length) ↔ x ∈ is ∧ T i x = true) ∧ (∀ x, x ∈ is.take (bs p is.length 0 is.length) ↔ x ∈ is ∧ T i x = false) := by
  have ge := List.pairwise_iff_getElem.mp hs
  have pj : ∀ j (hj : j < is.length), p j = T i is[j] := fun j hj => hp j _ (by simp [hj])
  obtain ⟨A, B⟩ := bs_ok (p := p) (n := is.length) (fun a b hab hb ha => by
    by_cases q : a = b
    · subst q; exact ha
    · rw [pj a (by omega)] at ha
      rw [pj b hb]
      exact tr _ _ _ ha (ge a b (by omega) hb (by omega))) is.length 0 is.length (by omega) (by omega) (Nat.le_refl _) (fun j hj => by omega) (fun j h1 h2 => by omega)
  generalize bs p is.length 0 is.length = k at A B ⊢
  have hdrop : ∀ x ∈ is.drop k, x ∈ is ∧ T i x = true := fun x hx => by
    obtain ⟨j, hj, e⟩ := List.getElem_of_mem hx
    rw [List.length_drop] at hj
    rw [List.getElem_drop] at e
    exact ⟨List.mem_of_mem_drop hx, by rw [← e, ← pj _ (by omega)]; exact B _ (by omega) (by omega)⟩
  have htake : ∀ x ∈ is.take k, x ∈ is ∧ T i x = false := fun x hx => by
    obtain ⟨j, hj, e⟩ := List.getElem_of_mem hx
    rw [List.length_take] at hj
    rw [List.getElem_take] at e
    exact ⟨List.mem_of_mem_take hx, by rw [← e, ← pj _ (by omega)]; exact A _ (by omega)⟩
  have split : ∀ x ∈ is, x ∈ is.take k ∨ x ∈ is.drop k := fun x hx => by rw [← List.mem_append, List.take_append_drop]; exact hx
  refine ⟨?_, fun x => ⟨hdrop x, fun ⟨h1, h2⟩ => ?_⟩, fun x => ⟨htake x, fun ⟨h1, h2⟩ => ?_⟩⟩
  · unfold ins
    have hs' := hs
    rw [← List.take_append_drop k is, List.pairwise_append] at hs'
    rw [List.pairwise_append, List.pairwise_cons]
    refine ⟨hs'.1, ⟨fun x hx => (hdrop x hx).2, hs'.2.1⟩, fun a ha b hb => ?_⟩
    rcases List.mem_cons.mp hb with rfl | hb
    · exact tot a (htake a ha).1 (htake a ha).2
    · exact hs'.2.2 a ha b hb
  · rcases split x h1 with q | q
    · have := (htake x q).2; rw [h2] at this; cases this
    · exact q
  · rcases split x h1 with q | q
    · exact q
    · have := (hdrop x q).2; rw [h2] at this; cases this
end
theorem lineR_perm (sel : List (Nat × Int)) (xs : Nat → Co) : ∀ (l is : List Nat), (lineR sel xs l is).Perm (l ++ is)
  | [], is => List.Perm.refl _
  | i :: r, is => (lineR_perm sel xs r _).trans (((ins_perm is _ i).append_left r).trans (List.perm_middle))
theorem lineL_perm (sel : List (Nat × Int)) (xs : Nat → Co) : ∀ (l is : List Nat), (lineL sel xs l is).Perm (l ++ is)
  | [], is => List.Perm.refl _
  | i :: r, is => (lineL_perm sel xs r _).trans (((ins_perm is _ i).append_left r).trans (List.perm_middle))
/-- one laying, by either search -/
structure Lay (pl : List Nat → Nat → Nat) (T : Nat → Nat → Bool) (B : Nat → Nat → Prop) : Prop where
  tr : ∀ a b c, T a b = true → T b c = true → T a c = true
  pl : ∀ is i, (∀ j ∈ is, B j i) → ∃ p, pl is i = bs p is.length 0 is.length ∧ ∀ j x, is[j]? = some x → p j = T i x
  tot : ∀ j i, B j i → T i j = false → T j i = true
def layAll (pl : List Nat → Nat → Nat) : List Nat → List Nat → List Nat
  | [], is => is
  | i :: r, is => layAll pl r (ins is (pl is i) i)
theorem layAll_R (sel : List (Nat × Int)) (xs : Nat → Co) : ∀ l is, lineR sel xs l is = layAll (plR sel xs) l is
  | [], _ => rfl
  | i :: r, is => layAll_R sel xs r _
theorem layAll_L (sel : List (Nat × Int)) (xs : Nat → Co) : ∀ l is, lineL sel xs l is = layAll (plL sel xs) l is
  | [], _ => rfl
  | i :: r, is => layAll_L sel xs r _
theorem layAll_perm (pl : List Nat → Nat → Nat) : ∀ l is, (layAll pl l is).Perm (l ++ is)
  | [], is => List.Perm.refl _
  | i :: r, is => (layAll_perm pl r _).trans (((ins_perm is _ i).append_left r).trans (List.perm_middle))
theorem Lay.step {pl : List Nat → Nat → Nat} {T : Nat → Nat → Bool} {B : Nat → Nat → Prop} (Y : Lay pl T B) {is : List Nat} {i : Nat} (hs : is.Pairwise fun a b => T a b = true) (hB : ∀ j ∈ is, B j i) :
    (ins is (pl is i) i).Pairwise (fun a b => T a b = true) ∧ (∀ x, x ∈ is.drop (pl is i) ↔ x ∈ is ∧ T i x = true) ∧ (∀ x, x ∈ is.take (pl is i) ↔ x ∈ is ∧ T i x = false) := by
  obtain ⟨p, e, hp⟩ := Y.pl is i hB
  rw [e]
  exact ins_ok Y.tr hs hp fun x hx => Y.tot x i (hB x hx)
theorem Lay.sorted {pl : List Nat → Nat → Nat} {T : Nat → Nat → Bool} {B : Nat → Nat → Prop} (Y : Lay pl T B) : ∀ l is, l.Pairwise B → (∀ j ∈ is, ∀ i ∈ l, B j i) → is.Pairwise (fun a b => T a b = true) → (layAll pl l is).Pairwise fun a b => T a b = true
  | [], _, _, _, hs => hs
  | i :: r, is, hl, hB, hs => by
    have hl' := List.pairwise_cons.mp hl
    refine Y.sorted r _ hl'.2 (fun j hj i' hi' => ?_) (Y.step hs fun j hj => hB j hj i (.head _)).1
    rcases List.mem_cons.mp ((ins_perm is _ i).mem_iff.mp hj) with rfl | hj
    · exact hl'.1 i' hi'
    · exact hB j hj i' (.tail _ hi')
/-- the sort's answer is the sorted list -/
theorem sort_eq {T : Nat → Nat → Bool} {N : Nat} (O : Ord T N) (hn : 1 ≤ N) {l : List Nat} (hp : l.Perm (List.range N)) (hs : l.Pairwise fun a b => T a b = true) : (krun T (kas_sort N)).toList = l := by
  obtain ⟨P, S⟩ := sort_ok O hn
  have hsz := P.size
  refine List.Perm.eq_of_pairwise (le := fun a b => T a b = true) (fun a b _ _ h h' => ?_) ?_ hs ?_
  · rw [O.as a b h] at h'; cases h'
  · refine List.pairwise_iff_getElem.mpr fun i j hi hj hij => ?_
    have := S i j hij (by simpa [hsz] using hj)
    have g : ∀ k (hk : k < (krun T (kas_sort N)).toList.length), (krun T (kas_sort N)).toList[k] = (krun T (kas_sort N)).getD k 0 := fun k hk => by
      have hk' : k < (krun T (kas_sort N)).size := by simpa using hk
      rw [getD_of, Array.getElem_toList]
      simp [hk']
    rw [g i hi, g j hj]
    exact this
  · have := P.perm.toList
    exact (by simpa using this : (krun T (kas_sort N)).toList.Perm (List.range N)).trans hp.symm
end Mine
end
section
open PySem PySem.W PyProof.Rows PySem.Spec PySem.Calls
namespace Mine
abbrev CF := Nat → List Int
def keyOf (a b : CF) (s : Nat → Int) (i : Nat) : List Int := a i ++ b i ++ [s i]
abbrev kT (a b : CF) (s : Nat → Int) (i j : Nat) : Bool := ltL (keyOf a b s i) (keyOf a b s j)
abbrev ngC (a : CF) : CF := fun i => (a i).map (- ·)
section
variable {a b : CF} {s : Nat → Int} {na nb : Nat}
theorem keyOf_lt (ha : ∀ i, (a i).length = na) (hb : ∀ i, (b i).length = nb) (i j : Nat) : kT a b s i j = (ltL (a i) (a j) || (decide (a i = a j) && (ltL (b i) (b j) || (decide (b i = b j) && decide (s i < s j))))) := by
  show ltL (a i ++ b i ++ [s i]) (a j ++ b j ++ [s j]) = _
  rw [List.append_assoc, List.append_assoc, ltL_app _ _ (by rw [ha, ha]), ltL_app _ _ (by rw [hb, hb]), ltL_one]
theorem kT_irr (i : Nat) : kT a b s i i = false := ltL_irr _
theorem keyOf_inj (hs : ∀ i j, s i = s j → i = j) {i j : Nat} (h : keyOf a b s i = keyOf a b s j) : i = j := by
  have := List.append_inj' h rfl
  exact hs i j (by simpa using this.2)
theorem keyOf_ord (hs : ∀ i j, s i = s j → i = j) (N : Nat) : Ord (kT a b s) N where
  tr := fun _ _ _ h1 h2 => ltL_tr _ _ _ h1 h2
  as := fun _ _ h => ltL_as h
  tot := fun x y _ _ ne => by
    cases q : kT a b s x y with
    | true => exact .inl rfl
    | false => cases r : kT a b s y x with
      | true => exact .inr rfl
      | false => exact absurd (keyOf_inj hs (ltL_tri q r)) ne
theorem keyOf_tot (hs : ∀ i j, s i = s j → i = j) {i j : Nat} (ne : i ≠ j) (h : kT a b s i j = false) : kT a b s j i = true := by
  cases r : kT a b s j i with
  | true => rfl
  | false => exact absurd (keyOf_inj hs (ltL_tri h r)) ne
end
theorem sI {i j : Nat} (h : (i : Int) = (j : Int)) : i = j := by omega
theorem sN {i j : Nat} (h : -(i : Int) = -(j : Int)) : i = j := by omega
abbrev s1 : Nat → Int := fun i => (i : Int)
abbrev s2 : Nat → Int := fun i => -(i : Int)
section
variable {xs : Nat → Co} {self sels : List (Nat × Int)} (hf : ∀ p ∈ self, p.2 ≠ 0) (hs : ∀ p ∈ sels, p.2 ≠ 0)
abbrev cd (xs : Nat → Co) (sel : List (Nat × Int)) : CF := fun i => codeOf (wh (xs i)) sel
theorem cd_len (xs : Nat → Co) (sel : List (Nat × Int)) : ∀ i, (cd xs sel i).length = sel.length := fun i => codeOf_len _ _
theorem ng_len {a : CF} {n : Nat} (ha : ∀ i, (a i).length = n) : ∀ i, (ngC a i).length = n := fun i => by simp [ha]
include hf hs
theorem lay1 : Lay (plR (self ++ sels) xs) (kT (cd xs self) (cd xs sels) s1) (fun j i => j < i) where
  tr := fun _ _ _ h1 h2 => ltL_tr _ _ _ h1 h2
  pl := fun is i hB => ⟨_, rfl, fun j x hx => by
    have ne : ∀ p ∈ self ++ sels, p.2 ≠ 0 := fun p hp => by rcases List.mem_append.mp hp with h | h; exact hf p h; exact hs p h
    have hlt := hB x (List.mem_of_getElem? hx)
    show decide (0 < cmpW (self ++ sels) (xs (is[j]?.getD 0)) (xs i)) = ltL (keyOf _ _ _ i) (keyOf _ _ _ x)
    rw [hx, Option.getD_some, (cmpW_lt ne).2, codeOf_app, codeOf_app]
    unfold keyOf
    rw [ltL_app [s1 i] [s1 x] (by simp [codeOf_len]), ltL_one, decide_eq_false (by show ¬ ((i : Int) < (x : Int)); omega : ¬ (s1 i < s1 x)), Bool.and_false, Bool.or_false]⟩
  tot := fun j i hB h => keyOf_tot (fun _ _ => sI) (by omega) h
theorem lay3 : Lay (plL (self ++ negS sels) xs) (kT (cd xs self) (ngC (cd xs sels)) s1) (fun j i => i < j) where
  tr := fun _ _ _ h1 h2 => ltL_tr _ _ _ h1 h2
  pl := fun is i hB => ⟨_, rfl, fun j x hx => by
    have ne : ∀ p ∈ self ++ negS sels, p.2 ≠ 0 := fun p hp => by rcases List.mem_append.mp hp with h | h; exact hf p h; exact negS_ne hs p h
    have hlt := hB x (List.mem_of_getElem? hx)
    show (!decide (cmpW (self ++ negS sels) (xs (is[j]?.getD 0)) (xs i) < 0)) = ltL (keyOf _ _ _ i) (keyOf _ _ _ x)
    rw [hx, Option.getD_some, (cmpW_lt ne).1, codeOf_app, codeOf_app, codeOf_neg _ hs, codeOf_neg _ hs]
    unfold keyOf
    rw [ltL_app [s1 i] [s1 x] (by simp [codeOf_len]), ltL_one, decide_eq_true (by show (i : Int) < (x : Int); omega : (s1 i < s1 x)), Bool.and_true]
    generalize codeOf (wh (xs x)) self ++ (codeOf (wh (xs x)) sels).map (- ·) = u
    generalize codeOf (wh (xs i)) self ++ (codeOf (wh (xs i)) sels).map (- ·) = v
    cases q : ltL u v with
    | true =>
      rw [ltL_as q]
      have : u ≠ v := fun e => by rw [e, ltL_irr] at q; cases q
      simp [Ne.symm this]
    | false => cases r : ltL v u with
      | true => rfl
      | false => rw [ltL_tri q r]; simp⟩
  tot := fun j i hB h => keyOf_tot (fun _ _ => sI) (by omega) h
omit hf
/-- along the first line -/
theorem lay2 : Lay (plR sels xs) (kT (cd xs sels) (cd xs self) s1) (fun j i => kT (cd xs self) (cd xs sels) s1 j i = true) where
  tr := fun _ _ _ h1 h2 => ltL_tr _ _ _ h1 h2
  pl := fun is i hB => ⟨_, rfl, fun j x hx => by
    have hlt := hB x (List.mem_of_getElem? hx)
    show decide (0 < cmpW sels (xs (is[j]?.getD 0)) (xs i)) = kT (cd xs sels) (cd xs self) s1 i x
    rw [hx, Option.getD_some, (cmpW_lt hs).2, keyOf_lt (cd_len xs sels) (cd_len xs self)]
    rw [keyOf_lt (cd_len xs self) (cd_len xs sels)] at hlt
    cases q : ltL (cd xs sels i) (cd xs sels x) with
    | true => simp [q]
    | false =>
      by_cases e : cd xs sels i = cd xs sels x
      · rw [← e, ltL_irr] at hlt
        simp only [Bool.false_or, decide_true, Bool.true_and, Bool.or_eq_true, Bool.and_eq_true, decide_eq_true_eq] at hlt
        rcases hlt with h | ⟨h1, h2⟩
        · rw [ltL_as h]
          have : ¬ cd xs self i = cd xs self x := fun e => by rw [e, ltL_irr] at h; cases h
          simp [this]
        · rw [h1, ltL_irr]
          have : ¬ s1 i < s1 x := by have h2 : (x : Int) < (i : Int) := h2; show ¬ ((i : Int) < (x : Int)); omega
          simp [this]
      · simp [e]⟩
  tot := fun j i hB h => keyOf_tot (fun _ _ => sI) (fun e => by subst e; rw [kT_irr] at hB; cases hB) h
theorem lay4 : Lay (plL sels xs) (kT (cd xs sels) (ngC (cd xs self)) s2) (fun j i => kT (cd xs self) (ngC (cd xs sels)) s1 j i = true) where
  tr := fun _ _ _ h1 h2 => ltL_tr _ _ _ h1 h2
  pl := fun is i hB => ⟨_, rfl, fun j x hx => by
    have hlt := hB x (List.mem_of_getElem? hx)
    show (!decide (cmpW sels (xs (is[j]?.getD 0)) (xs i) < 0)) = kT (cd xs sels) (ngC (cd xs self)) s2 i x
    rw [hx, Option.getD_some, (cmpW_lt hs).1, keyOf_lt (cd_len xs sels) (ng_len (cd_len xs self))]
    rw [keyOf_lt (cd_len xs self) (ng_len (cd_len xs sels))] at hlt
    show (!ltL (cd xs sels x) (cd xs sels i)) = _
    rw [ltL_neg (by rw [cd_len, cd_len])] at hlt ⊢
    cases q : ltL (cd xs sels x) (cd xs sels i) with
    | true =>
      have : ¬ cd xs sels i = cd xs sels x := fun e => by rw [e, ltL_irr] at q; cases q
      rw [ltL_as q]; simp [this]
    | false => cases r : ltL (cd xs sels i) (cd xs sels x) with
      | true => simp
      | false =>
        have e := ltL_tri q r
        rw [e, ltL_irr] at hlt
        rw [e]
        simp only [Bool.false_or, decide_true, Bool.true_and, Bool.or_eq_true, Bool.and_eq_true, decide_eq_true_eq] at hlt
        rcases hlt with h | ⟨h1, h2⟩
        · simp [h]
        · have h3 : ngC (cd xs self) i = ngC (cd xs self) x := by show (cd xs self i).map _ = (cd xs self x).map _; rw [h1]
          have : s2 i < s2 x := by have h2 : (x : Int) < (i : Int) := h2.2; show -(i : Int) < -(x : Int); omega
          simp [this, h3]⟩
  tot := fun j i hB h => keyOf_tot (fun _ _ => sN) (fun e => by subst e; rw [kT_irr] at hB; cases hB) h
end
/-- the books, by either search -/
def keepG (pl : List Nat → Nat → Nat) (pick : List Nat → Nat → List Nat) (val : Nat → Nat) : List Nat → List Nat × Bk → List Nat × Bk
  | [], s => s
  | i :: r, (kp, bk) => keepG pl pick val r (ins kp (pl kp i) i, addB bk (bk1 (pick kp (pl kp i)) (1, val i)))
theorem keepG_R (sel : List (Nat × Int)) (xs : Nat → Co) : ∀ l s, keepR sel xs l s = keepG (plR sel xs) (fun l k => l.drop k) (fun _ => 0) l s
  | [], _ => rfl
  | i :: r, (kp, bk) => keepG_R sel xs r _
theorem keepG_L (sel : List (Nat × Int)) (xs : Nat → Co) : ∀ l s, keepL sel xs l s = keepG (plL sel xs) (fun l k => l.take k) (fun i => (whC (xs i) 2).toNat) l s
  | [], _ => rfl
  | i :: r, (kp, bk) => keepG_L sel xs r _
def cntG (pr : Nat → Nat → Bool) (l : List Nat) (n : Nat) : List Nat := l.filter (pr n)
def bookG (val : Nat → Nat) (pr : Nat → Nat → Bool) (l : List Nat) (k : Int) : Option (Int × Nat) := if 0 ≤ k ∧ k.toNat ∈ l ∧ cntG pr l k.toNat ≠ [] then some (((cntG pr l k.toNat).length : Int), ((cntG pr l k.toNat).map val).sum) else none
theorem bk1_at (l : List Nat) (z : Int × Nat) (n : Nat) : bk1 l z (n : Int) = if n ∈ l then some z else none := by
  unfold bk1
  have : (n : Int) ∈ l.map (Int.ofNat ·) ↔ n ∈ l := by
    constructor
    · intro h
      obtain ⟨m, hm, e⟩ := List.mem_map.mp h
      have : m = n := by have e : (m : Int) = (n : Int) := e; omega
      rw [← this]; exact hm
    · intro h; exact List.mem_map.mpr ⟨n, h, rfl⟩
  simp only [this]
theorem bk1_neg (l : List Nat) (z : Int × Nat) {k : Int} (h : ¬ 0 ≤ k) : bk1 l z k = none := by
  unfold bk1
  rw [if_neg]
  intro q
  obtain ⟨m, hm, e⟩ := List.mem_map.mp q
  have e : (m : Int) = k := e
  omega
theorem keepG_book {pl : List Nat → Nat → Nat} {pick : List Nat → Nat → List Nat} {val : Nat → Nat} {pr : Nat → Nat → Bool} {T : Nat → Nat → Bool} {B : Nat → Nat → Prop} (Y : Lay pl T B)
    (hpick : ∀ kp i, kp.Pairwise (fun a b => T a b = true) → (∀ j ∈ kp, B j i) → ∀ x, x ∈ pick kp (pl kp i) ↔ x ∈ kp ∧ pr x i = true) (hback : ∀ j i, B j i → pr i j = false) (hself : ∀ i, pr i i = false) :
    ∀ (r kp : List Nat) (bk : Bk) (done : List Nat), kp.Perm done → kp.Pairwise (fun a b => T a b = true) → (done ++ r).Pairwise B → (∀ k, bk k = bookG val pr done k) → ∀ k, (keepG pl pick val r (kp, bk)).2 k = bookG val pr (done ++ r) k
  | [], kp, bk, done, hp, hs, hB, hb, k => by rw [List.append_nil]; exact hb k
  | i :: r, kp, bk, done, hp, hs, hB, hb, k => by
    have hB' := List.pairwise_append.mp hB
    have Bi : ∀ j ∈ kp, B j i := fun j hj => hB'.2.2 j (hp.mem_iff.mp hj) i (.head _)
    have e : done ++ i :: r = (done ++ [i]) ++ r := by simp
    rw [e] at hB ⊢
    refine keepG_book Y hpick hback hself r _ _ (done ++ [i]) ?_ (Y.step hs Bi).1 hB (fun k => ?_) k
    · exact (ins_perm kp _ i).trans ((hp.cons i).trans (List.perm_append_comm (l₁ := [i]) (l₂ := done)))
    have hpk := hpick kp i hs Bi
    generalize pick kp (pl kp i) = pk at hpk ⊢
    unfold addB
    by_cases h0 : 0 ≤ k
    · obtain ⟨n, rfl⟩ := Int.eq_ofNat_of_zero_le h0
      rw [bk1_at, hb]
      unfold bookG
      simp only [h0, true_and, Int.toNat_natCast]
      have hm : n ∈ pk ↔ n ∈ done ∧ pr n i = true := by rw [hpk, hp.mem_iff]
      have ec : cntG pr (done ++ [i]) n = cntG pr done n ++ (if pr n i then [i] else []) := by
        unfold cntG
        rw [List.filter_append]
        congr 1
        cases q : pr n i <;> simp [q]
      rw [ec]
      by_cases hd : n ∈ done
      · have hd2 : n ∈ done ++ [i] := List.mem_append_left _ hd
        cases q : pr n i with
        | true =>
          rw [if_pos (hm.mpr ⟨hd, q⟩)]
          simp only [if_true]
          by_cases z : cntG pr done n = []
          · rw [if_neg (fun x => x.2 z), if_pos ⟨hd2, by simp⟩, z]; simp
          · rw [if_pos ⟨hd, z⟩, if_pos ⟨hd2, by simp⟩]
            simp only [List.length_append, List.length_singleton, List.map_append, List.map_cons, List.map_nil, List.sum_append, List.sum_cons, List.sum_nil]
            refine congrArg some (Prod.ext ?_ ?_)
            · show (1 : Int) + _ = _; omega
            · show _ + val i = _; omega
        | false =>
          rw [if_neg (fun x => by have := (hm.mp x).2; rw [q] at this; cases this)]
          simp only [Bool.false_eq_true, if_false, List.append_nil, hd, hd2]
      · rw [if_neg (fun x => hd (hm.mp x).1), if_neg (fun x => hd x.1)]
        simp only
        by_cases ni : n = i
        · subst ni
          have z : cntG pr done n = [] := by
            unfold cntG
            rw [List.filter_eq_nil_iff]
            intro y hy
            rw [hback y n (Bi y (hp.mem_iff.mpr hy))]
            simp
          rw [z, hself]
          simp
        · rw [if_neg]
          rintro ⟨h, _⟩
          rcases List.mem_append.mp h with h | h
          · exact hd h
          · exact ni (by simpa using h)
    · rw [bk1_neg _ _ h0]
      simp only
      rw [hb]
      unfold bookG
      rw [if_neg (fun x => h0 x.1), if_neg (fun x => h0 x.1)]
end Mine
end
section
open PySem PySem.W PyProof.Rows PySem.Spec PySem.Calls
namespace Mine
theorem int_sum_toNat {f : Nat → Int} : ∀ {l : List Nat}, (∀ y ∈ l, 0 ≤ f y) → (l.map f).sum = (((l.map fun y => (f y).toNat).sum : Nat) : Int)
  | [], _ => rfl
  | y :: l, h => by
    have ih := int_sum_toNat (l := l) fun z hz => h z (.tail _ hz)
    have h0 := h y (.head _)
    simp only [List.map_cons, List.sum_cons]
    omega
theorem sum_bound {f : Nat → Nat} {c : Nat} : ∀ {l : List Nat}, (∀ y ∈ l, f y ≤ c) → (l.map f).sum ≤ c * l.length
  | [], _ => by simp
  | y :: l, h => by
    have ih := sum_bound (l := l) fun z hz => h z (.tail _ hz)
    have h0 := h y (.head _)
    simp only [List.map_cons, List.sum_cons, List.length_cons, Nat.mul_add, Nat.mul_one]
    omega
section
variable {xs : Nat → Co} {self sels : List (Nat × Int)} (hf : ∀ p ∈ self, p.2 ≠ 0) (hs : ∀ p ∈ sels, p.2 ≠ 0) {N : Nat} (hN : 1 ≤ N)
abbrev line1 (xs : Nat → Co) (self sels : List (Nat × Int)) (N : Nat) : List Nat := lineR (self ++ sels) xs (List.range N) []
abbrev line3 (xs : Nat → Co) (self sels : List (Nat × Int)) (N : Nat) : List Nat := lineL (self ++ negS sels) xs (List.range N).reverse []
theorem line1_perm : (line1 xs self sels N).Perm (List.range N) := by have := lineR_perm (self ++ sels) xs (List.range N) []; rwa [List.append_nil] at this
theorem line3_perm : (line3 xs self sels N).Perm (List.range N) := by
  have := lineL_perm (self ++ negS sels) xs (List.range N).reverse []
  rw [List.append_nil] at this
  exact this.trans (List.reverse_perm _)
include hf hs
theorem line1_sorted : (line1 xs self sels N).Pairwise fun a b => kT (cd xs self) (cd xs sels) s1 a b = true := by
  unfold line1
  rw [layAll_R]
  exact (lay1 hf hs).sorted _ _ List.pairwise_lt_range (fun _ h => nomatch h) List.Pairwise.nil
theorem line3_sorted : (line3 xs self sels N).Pairwise fun a b => kT (cd xs self) (ngC (cd xs sels)) s1 a b = true := by
  unfold line3
  rw [layAll_L]
  refine (lay3 hf hs).sorted _ _ ?_ (fun _ h => nomatch h) List.Pairwise.nil
  rw [List.pairwise_reverse]
  exact List.pairwise_lt_range
include hN
theorem P1 : (krun (kT (cd xs self) (cd xs sels) s1) (kas_sort N)).toList = line1 xs self sels N := sort_eq (keyOf_ord (fun _ _ => sI) N) hN line1_perm (line1_sorted hf hs)
theorem P4 : (krun (kT (cd xs self) (ngC (cd xs sels)) s1) (kas_sort N)).toList = line3 xs self sels N := sort_eq (keyOf_ord (fun _ _ => sI) N) hN line3_perm (line3_sorted hf hs)
theorem P2 : (krun (kT (cd xs sels) (cd xs self) s1) (kas_sort N)).toList = (keepR sels xs (line1 xs self sels N) ([], fun _ => none)).1 := by
  rw [keepR_line]
  refine sort_eq (keyOf_ord (fun _ _ => sI) N) hN ?_ ?_
  · have := lineR_perm sels xs (line1 xs self sels N) []
    rw [List.append_nil] at this
    exact this.trans line1_perm
  · rw [layAll_R]
    exact (lay2 hs).sorted _ _ (line1_sorted hf hs) (fun _ h => nomatch h) List.Pairwise.nil
theorem P5 : (krun (kT (cd xs sels) (ngC (cd xs self)) s2) (kas_sort N)).toList = (keepL sels xs (line3 xs self sels N) ([], fun _ => none)).1 := by
  rw [keepL_line]
  refine sort_eq (keyOf_ord (fun _ _ => sN) N) hN ?_ ?_
  · have := lineL_perm sels xs (line3 xs self sels N) []
    rw [List.append_nil] at this
    exact this.trans line3_perm
  · rw [layAll_L]
    exact (lay4 hs).sorted _ _ (line3_sorted hf hs) (fun _ h => nomatch h) List.Pairwise.nil
omit hN
/-- who is passed -/
abbrev prA (c1 c2 : CF) (x y : Nat) : Bool := ltL (c1 x) (c1 y) && ltL (c2 y) (c2 x)
abbrev prB (c1 c2 : CF) (x y : Nat) : Bool := ltL (c1 x) (c1 y) && ltL (c2 x) (c2 y)
theorem ap_book (r : List Nat) (hr : r.Pairwise fun a b => kT (cd xs self) (cd xs sels) s1 a b = true) (k : Int) : (keepR sels xs r ([], fun _ => none)).2 k = bookG (fun _ => 0) (prA (cd xs self) (cd xs sels)) r k := by
  rw [keepG_R]
  have := keepG_book (val := fun _ => 0) (pr := prA (cd xs self) (cd xs sels)) (pick := fun l k => l.drop k) (lay2 (xs := xs) (self := self) hs) ?_ ?_ ?_ r [] (fun _ => none) [] (List.Perm.refl _) List.Pairwise.nil (by simpa using hr) (fun k => by simp [bookG]) k
  · simpa using this
  · intro kp i hkp hB x
    rw [((lay2 (xs := xs) (self := self) hs).step hkp hB).2.1]
    refine and_congr_right fun hx => ?_
    have hB := hB x hx
    rw [keyOf_lt (cd_len xs self) (cd_len xs sels)] at hB
    have e : kT (cd xs sels) (cd xs self) s1 i x = ltL (cd xs sels i) (cd xs sels x) := by
      obtain ⟨p, e1, hp⟩ := (lay2 (xs := xs) (self := self) hs).pl [x] i (fun j hj => by rcases List.mem_singleton.mp hj with rfl; rw [keyOf_lt (cd_len xs self) (cd_len xs sels)]; exact hB)
      cases q : ltL (cd xs sels i) (cd xs sels x) with
      | true => rw [keyOf_lt (cd_len xs sels) (cd_len xs self), q]; rfl
      | false =>
        cases r : kT (cd xs sels) (cd xs self) s1 i x with
        | false => rfl
        | true =>
          rw [keyOf_lt (cd_len xs sels) (cd_len xs self), q] at r
          simp only [Bool.false_or, Bool.and_eq_true, Bool.or_eq_true, decide_eq_true_eq] at r
          obtain ⟨r1, r2⟩ := r
          rw [r1, ltL_irr] at hB
          simp only [Bool.false_or, Bool.and_eq_true, Bool.or_eq_true, decide_eq_true_eq] at hB
          rcases hB with h | h
          · rcases r2 with r | r
            · rw [ltL_as h] at r; cases r
            · rw [r.1, ltL_irr] at h; cases h
          · rcases r2 with r | r
            · rw [h.1, ltL_irr] at r; cases r
            · have a1 : (i : Int) < (x : Int) := r.2
              have a2 : (x : Int) < (i : Int) := h.2.2
              omega
    rw [e]
    unfold prA
    simp only [Bool.and_eq_true]
    constructor
    · intro h
      refine ⟨?_, h⟩
      rw [ltL_as h] at hB
      simp only [Bool.false_or, Bool.and_eq_true, Bool.or_eq_true, decide_eq_true_eq] at hB
      rcases hB with h' | h'
      · exact h'
      · rw [h'.2.1, ltL_irr] at h; cases h
    · exact fun h => h.2
  · intro j i hB
    rw [keyOf_lt (cd_len xs self) (cd_len xs sels)] at hB
    simp only [Bool.and_eq_true, Bool.or_eq_true, decide_eq_true_eq] at hB
    unfold prA
    rcases hB with h | h
    · rw [ltL_as h]; rfl
    · rw [h.1, ltL_irr]; rfl
  · intro i; unfold prA; rw [ltL_irr]; rfl
theorem al_book (r : List Nat) (hr : r.Pairwise fun a b => kT (cd xs self) (ngC (cd xs sels)) s1 a b = true) (k : Int) : (keepL sels xs r ([], fun _ => none)).2 k = bookG (fun i => (whC (xs i) 2).toNat) (prB (cd xs self) (cd xs sels)) r k := by
  rw [keepG_L]
  have := keepG_book (val := fun i => (whC (xs i) 2).toNat) (pr := prB (cd xs self) (cd xs sels)) (pick := fun l k => l.take k) (lay4 (xs := xs) (self := self) hs) ?_ ?_ ?_ r [] (fun _ => none) [] (List.Perm.refl _) List.Pairwise.nil (by simpa using hr) (fun k => by simp [bookG]) k
  · simpa using this
  · intro kp i hkp hB x
    rw [((lay4 (xs := xs) (self := self) hs).step hkp hB).2.2]
    refine and_congr_right fun hx => ?_
    have hB := hB x hx
    rw [keyOf_lt (cd_len xs self) (ng_len (cd_len xs sels)), ltL_neg (by rw [cd_len, cd_len])] at hB
    rw [keyOf_lt (cd_len xs sels) (ng_len (cd_len xs self)), ltL_neg (by rw [cd_len, cd_len])]
    unfold prB
    simp only [Bool.and_eq_true, Bool.or_eq_true, decide_eq_true_eq, Bool.or_eq_false_iff, Bool.and_eq_false_imp, decide_eq_false_iff_not] at hB ⊢
    constructor
    · rintro ⟨h1, h2⟩
      have h3 : ltL (cd xs sels x) (cd xs sels i) = true := by
        cases q : ltL (cd xs sels x) (cd xs sels i) with
        | true => rfl
        | false =>
          have e := ltL_tri h1 q
          obtain ⟨h4, h5⟩ := h2 e
          rcases hB with h | ⟨h, h' | h'⟩
          · rw [h] at h4; cases h4
          · rw [e, ltL_irr] at h'; cases h'
          · have h6 := h5 (by show (cd xs self i).map _ = (cd xs self x).map _; rw [h])
            have a1 : (x : Int) < (i : Int) := h'.2
            have a2 : ¬ (-(i : Int) < -(x : Int)) := h6
            omega
      refine ⟨?_, h3⟩
      rcases hB with h | ⟨h, h' | h'⟩
      · exact h
      · rw [ltL_as h'] at h3; cases h3
      · have : cd xs sels x = cd xs sels i := by
          have hh : (cd xs sels x).map (- ·) = (cd xs sels i).map (- ·) := h'.1
          have := congrArg (List.map (fun z : Int => -z)) hh
          have id2 : ∀ l : List Int, (l.map (fun z => -z)).map (fun z => -z) = l := fun l => by
            rw [List.map_map]
            exact (List.map_congr_left (g := id) fun z _ => by show - -z = z; omega).trans (List.map_id _)
          rw [id2, id2] at this
          exact this
        rw [this, ltL_irr] at h3; cases h3
    · rintro ⟨h1, h2⟩
      refine ⟨ltL_as h2, fun e => ?_⟩
      rw [e, ltL_irr] at h2; cases h2
  · intro j i hB
    rw [keyOf_lt (cd_len xs self) (ng_len (cd_len xs sels))] at hB
    simp only [Bool.and_eq_true, Bool.or_eq_true, decide_eq_true_eq] at hB
    unfold prB
    rcases hB with h | h
    · rw [ltL_as h]; rfl
    · rw [h.1, ltL_irr]; rfl
  · intro i; unfold prB; rw [ltL_irr]; rfl
theorem P3 (k : Int) : (keepR sels xs (line1 xs self sels N) ([], fun _ => none)).2 k = apF (cd xs self) (cd xs sels) N N k := by
  rw [ap_book hf hs _ (line1_sorted hf hs)]
  have pm : (line1 xs self sels N).Perm (List.range N) := line1_perm
  have e : ∀ n, (cntG (prA (cd xs self) (cd xs sels)) (line1 xs self sels N) n).Perm (splL (cd xs self) (cd xs sels) N n) := fun n => by
    unfold cntG splL beh
    rw [List.filter_filter]
    refine (pm.filter _).trans (List.Perm.of_eq (List.filter_congr fun y _ => ?_))
    unfold prA
    rw [Bool.and_comm]
  unfold bookG apF
  have hm : k.toNat ∈ line1 xs self sels N ↔ k.toNat < N := by rw [pm.mem_iff]; simp
  have hl := (e k.toNat).length_eq
  have hz : ((cntG (prA (cd xs self) (cd xs sels)) (line1 xs self sels N) k.toNat).map fun _ => 0).sum = 0 := by
    generalize cntG _ _ _ = l
    induction l with
    | nil => rfl
    | cons a l ih => simpa using ih
  have hne : cntG (prA (cd xs self) (cd xs sels)) (line1 xs self sels N) k.toNat ≠ [] ↔ 0 < (splL (cd xs self) (cd xs sels) N k.toNat).length := by
    rw [← hl, List.length_pos_iff]
  rw [hz, hl]
  simp only [hm, hne]
theorem P6 (hxs : ∀ j, j < N → (xs j).In) (k : Int) : (keepL sels xs (line3 xs self sels N) ([], fun _ => none)).2 k = alF (cd xs self) (cd xs sels) xs N N k := by
  rw [al_book hf hs _ (line3_sorted hf hs)]
  have pm : (line3 xs self sels N).Perm (List.range N) := line3_perm
  have e : ∀ n, (cntG (prB (cd xs self) (cd xs sels)) (line3 xs self sels N) n).Perm (botL (cd xs self) (cd xs sels) N n) := fun n => by
    unfold cntG botL beh
    rw [List.filter_filter]
    refine (pm.filter _).trans (List.Perm.of_eq (List.filter_congr fun y _ => ?_))
    unfold prB
    rw [Bool.and_comm]
  unfold bookG alF
  have hm : k.toNat ∈ line3 xs self sels N ↔ k.toNat < N := by rw [pm.mem_iff]; simp
  have hl := (e k.toNat).length_eq
  have hz : ((cntG (prB (cd xs self) (cd xs sels)) (line3 xs self sels N) k.toNat).map fun i => (whC (xs i) 2).toNat).sum = (sumB (cd xs self) (cd xs sels) xs N k.toNat).toNat := by
    rw [((e k.toNat).map _).sum_nat]
    unfold sumB
    rw [int_sum_toNat (f := fun y => whC (xs y) 2)]
    · omega
    · intro y hy
      have : y < N := by
        have := (List.mem_filter.mp (List.mem_filter.mp hy).1).1
        simpa using this
      have := wh2_lt (hxs y this)
      omega
  have hne : cntG (prB (cd xs self) (cd xs sels)) (line3 xs self sels N) k.toNat ≠ [] ↔ botL (cd xs self) (cd xs sels) N k.toNat ≠ [] := by
    rw [← List.length_pos_iff, ← List.length_pos_iff, hl]
  rw [hz, hl]
  simp only [hm, hne]
theorem P7 (hxs : ∀ j, j < N → (xs j).In) (h10 : N ≤ 10) : ∀ i ≤ N, ∀ k x, (keepL sels xs ((line3 xs self sels N).take i) ([], fun _ => none)).2 k = some x → x.2 < 41 := by
  intro i hi k x hx
  have pm : (line3 xs self sels N).Perm (List.range N) := line3_perm
  rw [al_book hf hs _ ((line3_sorted hf hs).sublist (List.take_sublist _ _))] at hx
  unfold bookG at hx
  split at hx
  · cases hx
    show ((cntG _ _ _).map _).sum < 41
    have sub : (cntG (prB (cd xs self) (cd xs sels)) ((line3 xs self sels N).take i) k.toNat).Sublist (line3 xs self sels N) := (List.filter_sublist).trans (List.take_sublist _ _)
    have b := sum_bound (f := fun i => (whC (xs i) 2).toNat) (c := 4) (l := cntG (prB (cd xs self) (cd xs sels)) ((line3 xs self sels N).take i) k.toNat) fun y hy => by
      have hy : y < N := by simpa using pm.mem_iff.mp (sub.subset hy)
      have := (wh2_lt (hxs y hy)).1
      omega
    have l1 := sub.length_le
    have l2 := pm.length_eq
    rw [List.length_range] at l2
    omega
  · cases hx
end
end Mine
end
section
open PySem PySem.W PyProof.Rows PySem.Spec PySem.Calls
namespace Mine
section
variable {prog : Program} {w : World} {E : Value → Shared → Prop} {h b : Heap} {g : Array GenState} {d : Drawn} {t : Nat} {os : OsState} {L q r : Addr} {m : Loc} {ns : List (Addr × Obj)} {Q : Value → Shared → Prop}
theorem KeyL.le {A : Around} {n u : Nat} {b b' : Heap} {i : Nat} {key : List Int} (K : KeyL prog w (Ar n u) b q i key) (hh : A.handled = none) (hd : A.depth ≤ 300 + n) (hu : A.units ≤ u) (le : Le b b') : KeyL prog w A b' q i key :=
  fun tu h g d t os Q E l H => ar_le (K tu h g d t os Q E (le.trans l) H) hh hd hu
theorem perm_ints {vs : List Value} {N : Nat} (hv : IntsAre vs ((List.range N).map Int.ofNat)) : ∀ (l : List Nat), (∀ i ∈ l, i < N) → IntsAre (l.map fun i => vs.getD i Value.none) (l.map Int.ofNat)
  | [], _ => .nil
  | i :: l, h => by
    have hi := h i (.head _)
    obtain ⟨t, e⟩ := ints_get hv (k := i) (n := Int.ofNat i) (by rw [List.getElem?_map, List.getElem?_range hi]; rfl)
    rw [List.map_cons, List.map_cons]
    have : vs.getD i Value.none = .int (Int.ofNat i) t := by rw [List.getD_eq_getElem?_getD, e]; rfl
    rw [this]
    exact .cons _ _ (perm_ints hv l fun j hj => h j (.tail _ hj))
theorem sorted_spec {N : Nat} {key : Nat → List Int} {t1 u t2 : Tok} (O : Ord (fun i j => ltL (key i) (key j)) N) (h2 : 2 ≤ N) (h64 : N < 64) (S : Sx b L m ns h) (hr : h.get? r = some { cls := .type "range", data := .fields #[.int 0 t1, .int N u, .int 1 t2] })
    (K : ∀ i, i < N → KeyL prog w (Ar 17 40) b q i (key i))
    (H : ∀ b' h' t' D vs k, Le b b' → IntsAre vs ((krun (fun i j => ltL (key i) (key j)) (kas_sort N)).toList.map Int.ofNat) → Sx b' L m ((D, lsO vs k) :: ns) h' → Q (.ref D) ⟨h', g, d, t', os⟩) :
    wpAny (model prog w) (Ar 16 38) (call (.builtin "sorted") [.ref r] [("key", .ref q)]) Q E ⟨h, g, d, t, os⟩ := by
  refine call_function_entry_kw kind_sorted plain_sorted entry_sorted (ksk_s1 _ _) ?_
  unfold Builtin.«sorted»
  refine wpAny_bind (m := checkCount "sorted" 1 1 _) (wpAny_pure ?_)
  refine wpAny_bind (coll_range rfl (by omega) hr fun h1 tk vs le hv => ?_)
  have S := S.keeps le
  have hvN : vs.length = N := by rw [ints_len hv]; simp
  refine wpAny_bind (wpAny_newList ?_ (by rw [sizeLine_eq]; omega))
  have S := S.alloc (lsO vs 0)
  have hoL : (h1.push (lsO vs 0)).get? h1.objs.size = some (lsO vs 0) := Heap.get?_push_size _ rfl
  show wpAny _ _ _ _ _ ⟨h1.push (lsO vs 0), g, d, tk, os⟩
  generalize h1.push (lsO vs 0) = h2' at S hoL ⊢
  generalize h1.objs.size = D at S hoL ⊢
  refine wpAny_bind (wpAny_holding (wpAny_call_entry_kw slot_list_sort ⟨_, hoL, rfl⟩ entry_list_sort ?body (ksk_l1 _ _)))
  show wpAny _ _ (Builtin.«list.sort» ⟨[.ref D], [(Str.ofString "key", .ref q)]⟩) _ _ _
  rw [ksk_t1]
  refine sort_spec (N := N) (key := key) O (by show 38 + 1 + 1 < 900; decide) h2 h64 S hv (fun i hi => (K i hi).le rfl (by show 300 + 16 ≤ 300 + 17; decide) (by show 38 + 1 + 1 ≤ 40; decide) (Le.refl _)) fun b' h' t' k lb S => ?_
  refine ⟨_, rfl, wpAny_pure ⟨_, rfl, H b' h' t' D _ k lb (perm_ints hv _ fun i hi => ?_) S⟩⟩
  have P := (sort_ok O (by omega)).1.perm.toList
  have := P.mem_iff.mp hi
  simpa using this
end
end Mine
end
section
open PySem PySem.W PyProof.Rows PySem.Spec PySem.Calls
namespace Mine
theorem Gd.nb {w : World} {h : Heap} (G : Gd w h) : NoneBooked h := ⟨_, G.ns cStatics rfl rfl (by decide) rfl, rfl⟩
theorem same_float {M : Model} {A : Around} {E : Value → Shared → Prop} {s : Shared} {x y : UInt64} {u v : Tok} {Q : Bool → Shared → Prop} (hb : NoneBooked s.heap) (hq : ∀ b, Q b s) : wpAny M A (isSame (.float x (u + 1)) (.float y (v + 1))) Q E s := by
  show wpAny M A (isSame.created (x == y && !Float64.isNaN x) (u + 1) (v + 1)) Q E s
  unfold isSame.created
  have e0 : (u + 1 == 0 || v + 1 == 0) = false := by simp
  rw [e0]
  simp only [Bool.false_eq_true, if_false]
  refine wpAny_ite ?_
  split
  · exact wpAny_pure (hq _)
  refine wpAny_ite ?_
  split
  · exact wpAny_pure (hq _)
  refine wpAny_bind (wpAny_sharingNotTold_none hb ?_)
  first | rw [if_neg Bool.false_ne_true] | simp only [Bool.false_eq_true, if_false]
  refine wpAny_bind (wpAny_sharingNotTold_none hb ?_)
  first | rw [if_neg Bool.false_ne_true] | simp only [Bool.false_eq_true, if_false]
  exact wpAny_bind (wpAny_rule (wpAny_bind (wpAny_askSetting (wpAny_pure (hq _)))))
theorem eqF {A : Around} {s : Shared} {x : UInt64} {u v : Tok} (hb : NoneBooked s.heap) (hx : feq x x = true) : SeqAt.EqAt A s (.float x (u + 1)) (.float x (v + 1)) true := by
  intro prog w E Q hq
  unfold eqBool
  show wpAny _ _ (if (Value.float x (u + 1) == Value.float x (v + 1)) = true then _ else _) Q E s
  by_cases hab : (Value.float x (u + 1) == Value.float x (v + 1)) = true
  · rw [if_pos hab]
    exact wpAny_bind (wpAny_rule (wpAny_pure hq))
  · rw [if_neg hab]
    show wpAny _ _ (isSame _ _ >>= _) _ _ _
    refine wpAny_bind (same_float hb fun b => ?_)
    cases b with
    | true => exact wpAny_pure hq
    | false =>
      refine wpAny_bind (show wpAny _ _ (compareOp .Eq _ _) _ _ _ from AutoFloatOps.eq_0 ?_)
      have e : (Float64.cmp x x == some Ordering.eq) = true := hx
      rw [e]
      exact wpAny_truthy_bool hq
theorem due_self {c : Nat} (hc : c < 5) {x : Co} (h : x.In) : feq (due (whC x c) c) (due (whC x c) c) = true := by
  rw [(due_cmp hc (whC_vals h hc) (whC_vals h hc)).2.2]; simp
theorem due2_ok : ((List.range 41).all fun k => feq (due k 2) (due k 2)) = true := by decide +kernel
theorem due2_self {k : Nat} (hk : k < 41) : feq (due k 2) (due k 2) = true := List.all_eq_true.mp due2_ok k (List.mem_range.mpr hk)
theorem tup_eq {A : Around} {s : Shared} {a c : Addr} {vs us : List Value} (ea : s.heap.get? a = some (tpO vs)) (ec : s.heap.get? c = some (tpO us)) (hl : vs.length = us.length) (hu : A.units < 1000) (he : ∀ (j : Nat) (v u : Value), vs[j]? = some v → us[j]? = some u → SeqAt.EqAt A.in1 s v u true) : SeqAt.EqAt A s (.ref a) (.ref c) true := by
  by_cases q : a = c
  · subst q; exact SeqAt.EqAt.same _
  · have := SeqAt.RcAt.tuples (A := A) (s := s) (items := vs.toArray) (items2 := us.toArray) (e := fun _ => true) ⟨_, ea, rfl, _, rfl⟩ ⟨_, ec, rfl, _, rfl⟩ (Nat.lt_of_lt_of_le hu (Nat.le_of_ble_eq_true rfl)) fun j j1 j2 => he j _ _ (by simp at j1 ⊢) (by simp at j2 ⊢)
    have e : ((List.range (min vs.toArray.size us.toArray.size)).all (fun _ => true) && vs.toArray.size == us.toArray.size) = true := by simp [hl]
    rw [e] at this
    exact SeqAt.EqAt.of_refs q this
theorem row_due {A : Around} {s : Shared} {a c : Addr} {x : Co} {n : Nat} {vs us : List Value} (hb : NoneBooked s.heap) (hx : x.In) (ea : s.heap.get? a = some (tpO vs)) (ec : s.heap.get? c = some (tpO us)) (R : RowV x n vs) (D : DueV x n us) (hu : A.units < 1000) : SeqAt.EqAt A s (.ref a) (.ref c) true := by
  obtain ⟨u0, u1, u2, u3, u4, u5, u6, rfl⟩ := R
  obtain ⟨v0, v1, v2, v3, v4, v5, v6, rfl⟩ := D
  refine tup_eq ea ec rfl hu fun j v u hv hu => ?_
  have hi : SeqAt.EqAt A.in1 s (.int (n : Int) u5) (.int (n : Int) v5) true := by
    have := SeqAt.EqAt.int_int (A := A.in1) (s := s) (n : Int) u5 (n : Int) v5
    rwa [beq_self_eq_true] at this
  rw [col_due hx (by decide), col_due hx (by decide), col_due hx (by decide), col_due hx (by decide), col_due hx (by decide), again_due hx] at hv
  rcases j with _ | _ | _ | _ | _ | _ | _ | j
  · cases hv; cases hu; exact eqF hb (due_self (by decide) hx)
  · cases hv; cases hu; exact eqF hb (due_self (by decide) hx)
  · cases hv; cases hu; exact eqF hb (due_self (by decide) hx)
  · cases hv; cases hu; exact eqF hb (due_self (by decide) hx)
  · cases hv; cases hu; exact eqF hb (due_self (by decide) hx)
  · cases hv; cases hu; exact hi
  · cases hv; cases hu; exact eqF hb (due_self (by decide) hx)
  · cases hv
theorem vb_eq {A : Around} {s : Shared} {b : Heap} {tup : Bool} {x : Int × Nat} {v u : Value} (hb : NoneBooked s.heap) (hx : tup = true → x.2 < 41) (le : Le b s.heap) (V : VB tup b x v) (U : VB tup b x u) (hu : A.units < 1000) : SeqAt.EqAt A s v u true := by
  cases tup with
  | false =>
    obtain ⟨t1, rfl⟩ := V
    obtain ⟨t2, rfl⟩ := U
    have := SeqAt.EqAt.int_int (A := A) (s := s) x.1 t1 x.1 t2
    rwa [beq_self_eq_true] at this
  | true =>
    obtain ⟨a, t1, t2, rfl, ea⟩ := V
    obtain ⟨c, t3, t4, rfl, ec⟩ := U
    refine tup_eq (le _ _ ea) (le _ _ ec) rfl hu fun j v u hv hu => ?_
    rcases j with _ | _ | j
    · cases hv; cases hu
      have := SeqAt.EqAt.int_int (A := A.in1) (s := s) x.1 t1 x.1 t3
      rwa [beq_self_eq_true] at this
    · cases hv; cases hu; exact eqF hb (due2_self (hx rfl))
    · cases hv
theorem BkAt.keys {tup : Bool} {b : Heap} {ka kb : List (Int × Value)} {f : Int → Option (Int × Nat)} (B1 : BkAt tup b ka f) (B2 : BkAt tup b kb f) (n1 : (ka.map (·.1)).Nodup) (n2 : (kb.map (·.1)).Nodup) : (ka.map (·.1)).Perm (kb.map (·.1)) := by
  have mem : ∀ {kvs : List (Int × Value)} (k : Int), BkAt tup b kvs f → (k ∈ kvs.map (·.1) ↔ (f k).isSome = true) := fun {kvs} k B => by
    constructor
    · intro h
      cases q : f k with
      | some x => rfl
      | none => exact absurd h (valueAt_none.mp (B.none q))
    · intro h
      obtain ⟨x, hx⟩ := Option.isSome_iff_exists.mp h
      obtain ⟨v, hv, _⟩ := B.some hx
      by_cases q : k ∈ kvs.map (·.1)
      · exact q
      · rw [valueAt_none.mpr q] at hv; cases hv
  exact (List.perm_ext_iff_of_nodup n1 n2).mpr fun k => by rw [mem k B1, mem k B2]
theorem hits_of {A : Around} {s : Shared} {kb : List (Int × Value)} : ∀ {ka : List (Int × Value)}, (∀ p ∈ ka, ∃ y, valueAt kb p.1 = some y ∧ SeqAt.EqAt A s p.2 y true) → KeqHits A s kb ka true
  | [], _ => .nil
  | (k, v) :: r, h => by
    obtain ⟨y, e1, e2⟩ := h (k, v) (.head _)
    exact .hit e1 e2 (hits_of fun p hp => h p (.tail _ hp))
theorem bk_hits {A : Around} {s : Shared} {b : Heap} {tup : Bool} {ka kb : List (Int × Value)} {f : Int → Option (Int × Nat)} (hb : NoneBooked s.heap) (hf : tup = true → ∀ k x, f k = some x → x.2 < 41) (le : Le b s.heap) (B1 : BkAt tup b ka f) (B2 : BkAt tup b kb f) (n1 : (ka.map (·.1)).Nodup) (hu : A.units < 1000) : KeqHits A s kb ka true := by
  refine hits_of fun p hp => ?_
  obtain ⟨i, hi, e⟩ := List.getElem_of_mem hp
  have hv : valueAt ka p.1 = some p.2 := valueAt_of_get n1 (by rw [List.getElem?_eq_getElem hi, e])
  obtain ⟨x, ex, V⟩ := B1.of hv
  obtain ⟨y, ey, U⟩ := B2.some ex
  exact ⟨y, ey, vb_eq hb (fun q => hf q _ _ ex) le V U hu⟩
section
variable {prog : Program} {w : World} {A : Around} {E : Value → Shared → Prop} {h b : Heap} {g : Array GenState} {d : Drawn} {t : Nat} {os : OsState} {Q : Value → Shared → Prop}
theorem o_neRows {rl dl : Addr} {ra da : Nat → Addr} {N : Nat} {xs : Nat → Co} (hb : NoneBooked h) (hrl : h.IsList rl (rfs ra (List.range N)).toArray) (hdl : h.IsList dl (rfs da (List.range N)).toArray)
    (R : ∀ j, j < N → ∃ vs, h.get? (ra j) = some (tpO vs) ∧ RowV (xs j) j vs ∧ (xs j).In) (D : ∀ j, j < N → ∃ us, h.get? (da j) = some (tpO us) ∧ DueV (xs j) j us) (hu : A.units < 900) (H : Q (.bool false) ⟨h, g, d, t, os⟩) :
    wpAny (model prog w) A (compareOp .NotEq (.ref rl) (.ref dl)) Q E ⟨h, g, d, t, os⟩ := by
  refine SeqAt.RcNeAt.lists (s := ⟨h, g, d, t, os⟩) (e := fun _ => true) hrl hdl (by simp) (Nat.lt_of_lt_of_le hu (Nat.le_of_ble_eq_true rfl)) (fun j j1 j2 => ?_) prog w E Q (by
    have e : ((List.range (rfs ra (List.range N)).toArray.size).all fun _ => true) = true := List.all_eq_true.mpr fun _ _ => rfl
    rw [e]; exact H)
  have hj : j < N := by simpa using j1
  obtain ⟨vs, e1, r1, i1⟩ := R j hj
  obtain ⟨us, e2, r2⟩ := D j hj
  have a1 : (rfs ra (List.range N)).toArray[j] = .ref (ra j) := by simp
  have a2 : (rfs da (List.range N)).toArray[j] = .ref (da j) := by simp
  rw [a1, a2]
  exact row_due hb i1 e1 e2 r1 r2 (by show A.units + 1 < 1000; omega)
theorem o_neD {a c : Addr} {oa oc : Obj} {ka kb : List (Int × Value)} {tup : Bool} {f : Int → Option (Int × Nat)} (hb : NoneBooked h) (ha : (a == sysModules) = false) (hc : (c == sysModules) = false) (ea : h.get? a = some oa) (ec : h.get? c = some oc) (Da : DO prog w oa ka) (Dc : DO prog w oc kb)
    (le : Le b h) (B1 : BkAt tup b ka f) (B2 : BkAt tup b kb f) (hf : tup = true → ∀ k x, f k = some x → x.2 < 41) (hu : A.units < 900) (H : Q (.bool false) ⟨h, g, d, t, os⟩) : wpAny (model prog w) A (compareOp .NotEq (.ref a) (.ref c)) Q E ⟨h, g, d, t, os⟩ := by
  have n1 : (ka.map (·.1)).Nodup := let ⟨_, _, _, _, hr⟩ := Da; hr.2.2
  have n2 : (kb.map (·.1)).Nodup := let ⟨_, _, _, _, hr⟩ := Dc; hr.2.2
  have el : ka.length = kb.length := by simpa using (B1.keys B2 n1 n2).length_eq
  refine keq_ne (s := ⟨h, g, d, t, os⟩) (r := true) ha hc (dof ea Da) (dof ec Dc) (Nat.lt_of_lt_of_le hu (Nat.le_of_ble_eq_true rfl)) (fun _ => bk_hits hb hf le B1 B2 n1 (by show A.units + 1 < 1000; omega)) ?_
  rw [el]; simpa using H
theorem o_eqD {a c : Addr} {oa oc : Obj} {ka kb : List (Int × Value)} {tup : Bool} {f : Int → Option (Int × Nat)} (hb : NoneBooked h) (ha : (a == sysModules) = false) (hc : (c == sysModules) = false) (ea : h.get? a = some oa) (ec : h.get? c = some oc) (Da : DO prog w oa ka) (Dc : DO prog w oc kb)
    (le : Le b h) (B1 : BkAt tup b ka f) (B2 : BkAt tup b kb f) (hf : tup = true → ∀ k x, f k = some x → x.2 < 41) (hu : A.units < 900) (H : Q (.bool true) ⟨h, g, d, t, os⟩) : wpAny (model prog w) A (compareOp .Eq (.ref a) (.ref c)) Q E ⟨h, g, d, t, os⟩ := by
  have n1 : (ka.map (·.1)).Nodup := let ⟨_, _, _, _, hr⟩ := Da; hr.2.2
  have n2 : (kb.map (·.1)).Nodup := let ⟨_, _, _, _, hr⟩ := Dc; hr.2.2
  have el : ka.length = kb.length := by simpa using (B1.keys B2 n1 n2).length_eq
  refine keq_eq (s := ⟨h, g, d, t, os⟩) (r := true) ha hc (dof ea Da) (dof ec Dc) (Nat.lt_of_lt_of_le hu (Nat.le_of_ble_eq_true rfl)) (fun _ => bk_hits hb hf le B1 B2 n1 (by show A.units + 1 < 1000; omega)) ?_
  rw [el]; simpa using H
end
/-- a book's numbers, in the order of its keys -/
def numB (f : Int → Option (Int × Nat)) (k : Int) : Int := ((f k).map (·.1)).getD 0
theorem num_at {b : Heap} {kvs : List (Int × Value)} {f : Int → Option (Int × Nat)} (B : BkAt false b kvs f) (n : (kvs.map (·.1)).Nodup) {i : Nat} {k : Int} {v : Value} (hi : kvs[i]? = some (k, v)) : ∃ u, v = .int (numB f k) u := by
  obtain ⟨x, ex, u, rfl⟩ := BkAt.of B (valueAt_of_get n hi)
  exact ⟨u, by unfold numB; rw [ex]; rfl⟩
theorem perm_sum {l r : List Int} (p : l.Perm r) : l.sum = r.sum := by
  induction p with
  | nil => rfl
  | cons x _ ih => simp [ih]
  | swap x y l => simp only [List.sum_cons]; omega
  | trans _ _ a b => exact a.trans b
end Mine
end
section
open PySem PySem.W PyProof.Rows PySem.Spec PySem.Calls
namespace Mine
/-- law's statements, and its frame -/
noncomputable def lawB (w : World) : List Stmt := match (fdAt w 171).body with
  | .stmts b => b
  | _ => []
noncomputable abbrev lawE (w : World) (L : Addr) : Env := callEnvC (fdAt w 171) L 171
/-- what law has beside the frame: its cells, in the order of their first stores, and the code tables -/
abbrev cls (L : Addr) (O : Addr → Obj) (tg tk tl : Obj) : List (Addr × Obj) := [(L + 1, O (L + 1)), (L + 2, O (L + 2)), (L + 3, O (L + 3)), (L + 4, O (L + 4)), (L + 5, O (L + 5)), (L + 7, O (L + 7)), (L + 8, O (L + 8)), (L + 6, O (L + 6)), (101, tg), (136, tk), (168, tl)]
theorem perm8 {α : Type} (a b c d e f g k : α) (r : List α) : ([a, b, c, d, e, g, k, f] ++ r).Perm ([k, g, f, e, d, c, b, a] ++ r) := by
  refine List.Perm.append_right r ?_
  have e1 : [k, g, f, e, d, c, b, a] = [a, b, c, d, e, f, g, k].reverse := rfl
  rw [e1]
  exact ((((((((List.Perm.swap f k []).cons g).trans (List.Perm.swap f g [k])).cons e).cons d).cons c).cons b).cons a).trans (List.reverse_perm _).symm
section
variable {prog : Program} {w : World} {h : Heap} {g : Array GenState} {d : Drawn} {t : Nat} {os : OsState} {Q E : Value → Shared → Prop}
theorem law_enter {l : Addr} (G : Gd w h) (e101 : h.get? 101 = some (tabObj #[])) (e136 : h.get? 136 = some (tabObj #[])) (e168 : h.get? 168 = some (tabObj #[]))
    (H : ∀ b L h' t' (O : Addr → Obj), Gd w b → Le b h → (∀ a o, a ∉ tabs → h.get? a = some o → b.get? a = some o) → (∀ i : Nat, 1 ≤ i → i ≤ 8 → (O (L + i)).data = .cell none) → Sx b L [("script", .ref l)] (cls L O (tabObj #[]) (tabObj #[]) (tabObj #[])) h' →
      wpAny (model prog w) (Ar 15 35) (execs (lawB w) (lawE w L)) (fun f s' => Q (match f with | .ret v => v | _ => .none) s') (fun _ _ => False) ⟨h', g, d, t', os⟩) :
    wpAny (model prog w) (Ar 14 32) (call (.ref 171) [.ref l]) Q E ⟨h, g, d, t, os⟩ := by
  have hn : ∀ a o, a ∉ tabs → h.get? a = some o → (((h.hide 101).hide 136).hide 168).get? a = some o := fun a o na e => by
    have n1 : a ≠ 101 := by rintro rfl; exact na (by decide)
    have n2 : a ≠ 136 := by rintro rfl; exact na (by decide)
    have n3 : a ≠ 168 := by rintro rfl; exact na (by decide)
    rw [Heap.hide_ne _ n3, Heap.hide_ne _ n2, Heap.hide_ne _ n1]; exact e
  have le : Le (((h.hide 101).hide 136).hide 168) h := fun a o e => Heap.of_hide (Heap.of_hide (Heap.of_hide e))
  have z1 : (((h.hide 101).hide 136).hide 168).get? 101 = none := by rw [Heap.hide_ne _ (by decide), Heap.hide_ne _ (by decide), Heap.hide_self]
  have z2 : (((h.hide 101).hide 136).hide 168).get? 136 = none := by rw [Heap.hide_ne _ (by decide), Heap.hide_self]
  have z3 : (((h.hide 101).hide 136).hide 168).get? 168 = none := Heap.hide_self ..
  generalize (((h.hide 101).hide 136).hide 168) = b at hn le z1 z2 z3
  have Gb : Gd w b := fun a o e na => hn a o na (G a o e na)
  refine enterCN (h₀ := b) (binds := [("script", .ref l)]) [("script", .ref l)] [(101, tabObj #[]), (136, tabObj #[]), (168, tabObj #[])] Gb le ?_ ?_ rfl (by decide) rfl rfl rfl rfl rfl (by decide) (by decide) rfl rfl rfl ?_ ?_ ?_ (by decide) rfl rfl rfl
  · simp only [List.forall_mem_cons]; exact ⟨⟨e101, z1⟩, ⟨e136, z2⟩, ⟨e168, z3⟩, fun _ hp => nomatch hp⟩
  · show ([101, 136, 168] : List Nat).Nodup
    decide
  · intro x hx
    simp only [List.mem_cons, List.not_mem_nil, or_false] at hx
    rcases hx with rfl
    exact .inl rfl
  · simp only [List.forall_mem_cons]; exact ⟨rfl, fun _ hp => nomatch hp⟩
  intro h1 t1 O hO S
  refine H b _ h1 t1 O Gb le hn (fun i h1 h8 => ?_) (Sx.reorder S (perm8 (h.objs.size + 1, O (h.objs.size + 1)) (h.objs.size + 2, O (h.objs.size + 2)) (h.objs.size + 3, O (h.objs.size + 3)) (h.objs.size + 4, O (h.objs.size + 4)) (h.objs.size + 5, O (h.objs.size + 5)) (h.objs.size + 6, O (h.objs.size + 6)) (h.objs.size + 7, O (h.objs.size + 7)) (h.objs.size + 8, O (h.objs.size + 8)) [(101, tabObj #[]), (136, tabObj #[]), (168, tabObj #[])]))
  have : i = 1 ∨ i = 2 ∨ i = 3 ∨ i = 4 ∨ i = 5 ∨ i = 6 ∨ i = 7 ∨ i = 8 := by omega
  rcases this with rfl | rfl | rfl | rfl | rfl | rfl | rfl | rfl
  · exact hO "total" _ rfl
  · exact hO "names" _ rfl
  · exact hO "wholes" _ rfl
  · exact hO "first" _ rfl
  · exact hO "second" _ rfl
  · exact hO "apart" _ rfl
  · exact hO "one" _ rfl
  · exact hO "two" _ rfl
end
end Mine
end
section
open PySem PySem.W PyProof.Rows PySem.Spec PySem.Calls
namespace Mine
def coOf (y : Int) : Co := ⟨(y.fmod 8).toNat, ((y.fdiv 8).fmod 3).toNat, (1 + (y.fdiv 24).fmod 4).toNat⟩
theorem fmod_pos {a b : Int} (hb : 0 < b) : 0 ≤ a.fmod b ∧ a.fmod b < b := by
  rw [Int.fmod_eq_emod_of_nonneg a (Int.le_of_lt hb)]
  exact ⟨Int.emod_nonneg _ (by omega), Int.emod_lt_of_pos _ hb⟩
theorem coOf_in (y : Int) : (coOf y).In := by
  have h1 := fmod_pos (a := y) (b := 8) (by decide)
  have h2 := fmod_pos (a := y.fdiv 8) (b := 3) (by decide)
  have h3 := fmod_pos (a := y.fdiv 24) (b := 4) (by decide)
  refine ⟨?_, ?_, ?_, ?_⟩ <;> simp only [coOf] <;> omega
theorem coOf_tu (y : Int) : ((coOf y).tu : Int) = y.fmod 8 := Int.toNat_of_nonneg (fmod_pos (by decide)).1
theorem coOf_pa (y : Int) : ((coOf y).pa : Int) = (y.fdiv 8).fmod 3 := Int.toNat_of_nonneg (fmod_pos (by decide)).1
theorem coOf_le (y : Int) : ((coOf y).le : Int) = 1 + (y.fdiv 24).fmod 4 := Int.toNat_of_nonneg (by have := fmod_pos (a := y.fdiv 24) (b := 4) (by decide); omega)
def tks (ns : List Int) : List Int := (ns.take 5).map fun x => x.fmod 1000000
def yss (ns : List Int) : List Int := tks ns ++ [38, 17, 81, 91, 19]
def xsOf (ns : List Int) (i : Nat) : Co := coOf ((yss ns)[i]?.getD 0)
theorem xsOf_in (ns : List Int) (i : Nat) : (xsOf ns i).In := coOf_in _
def nOf (ns : List Int) : Nat := (yss ns).length
theorem tks_len (ns : List Int) : (tks ns).length ≤ 5 := by unfold tks; simp; omega
theorem nOf_ge (ns : List Int) : 5 ≤ nOf ns := by unfold nOf yss; simp
theorem nOf_le (ns : List Int) : nOf ns ≤ 10 := by have := tks_len ns; unfold nOf yss; simp; omega
theorem tks_mem {ns : List Int} : ∀ x ∈ tks ns, 0 ≤ x ∧ x < 1000000 := fun x hx => by
  unfold tks at hx
  obtain ⟨y, _, rfl⟩ := List.mem_map.mp hx
  exact fmod_pos (by decide)
theorem sum_pos : ∀ {l : List Int}, (∀ x ∈ l, 0 ≤ x) → 0 ≤ l.sum
  | [], _ => by simp
  | x :: l, h => by have := h x (.head _); have := sum_pos (l := l) fun y hy => h y (.tail _ hy); simp only [List.sum_cons]; omega
theorem tot_pos (ns : List Int) : 0 ≤ (tks ns).sum := sum_pos fun x hx => (tks_mem x hx).1
def CellAt (b : Heap) (a : Addr) (v : Value) : Prop := ∃ o, b.get? a = some o ∧ o.data = .cell (some v)
theorem CellAt.mono {b b' : Heap} {a : Addr} {v : Value} (C : CellAt b a v) (le : Le b b') : CellAt b' a v := let ⟨o, e, r⟩ := C; ⟨o, le _ _ e, r⟩
def NamesOK (b : Heap) (nvs : List Value) (xs : Nat → Co) (N : Nat) : Prop := nvs.length = N ∧ ∀ i, i < N → ∃ (a : Addr) (u1 u2 u3 : Tok), nvs[i]? = some (.ref a) ∧ b.get? a = some (tpO [.int (xs i).tu u1, .int (xs i).pa u2, .int (xs i).le u3])
theorem NamesOK.mono {b b' : Heap} {nvs : List Value} {xs : Nat → Co} {N : Nat} (K : NamesOK b nvs xs N) (le : Le b b') : NamesOK b' nvs xs N := ⟨K.1, fun i hi => let ⟨a, u1, u2, u3, e1, e2⟩ := K.2 i hi; ⟨a, u1, u2, u3, e1, le _ _ e2⟩⟩
theorem NamesOK.snoc {b b' : Heap} {nvs : List Value} {xs : Nat → Co} {N : Nat} (K : NamesOK b nvs xs N) (le : Le b b') {a : Addr} {u1 u2 u3 : Tok} (e : b'.get? a = some (tpO [.int (xs N).tu u1, .int (xs N).pa u2, .int (xs N).le u3])) : NamesOK b' (nvs ++ [.ref a]) xs (N + 1) := by
  have K := K.mono le
  refine ⟨by rw [List.length_append, K.1]; rfl, fun i hi => ?_⟩
  by_cases q : i < N
  · obtain ⟨a', v1, v2, v3, e1, e2⟩ := K.2 i q
    exact ⟨a', v1, v2, v3, by rw [List.getElem?_append_left (by rw [K.1]; exact q)]; exact e1, e2⟩
  · have : i = N := by omega
    subst this
    exact ⟨a, u1, u2, u3, by rw [List.getElem?_append_right (by rw [K.1]; exact Nat.le_refl _), K.1, Nat.sub_self]; rfl, e⟩
section
variable {prog : Program} {w : World} {h b : Heap} {g : Array GenState} {d : Drawn} {t : Nat} {os : OsState} {Q : Flow → Shared → Prop} {E : Value → Shared → Prop} {L l : Addr} {O : Addr → Obj} {tg tk tl : Obj}
abbrev cls3 (L : Addr) (O : Addr → Obj) (tg tk tl : Obj) : List (Addr × Obj) := [(L + 3, O (L + 3)), (L + 4, O (L + 4)), (L + 5, O (L + 5)), (L + 7, O (L + 7)), (L + 8, O (L + 8)), (L + 6, O (L + 6)), (101, tg), (136, tk), (168, tl)]
theorem law1 {vs : List Value} {ns : List Int} (hz : ns.length ≤ 63) (G : Gd w b) (hl : b.IsList l vs.toArray) (hv : IntsAre vs ns) (hO : ∀ i : Nat, 1 ≤ i → i ≤ 8 → (O (L + i)).data = .cell none) (S : Sx b L [("script", .ref l)] (cls L O tg tk tl) h)
    (H : ∀ b' h' t' nl nvs u, Le b b' → CellAt b' (L + 1) (.int (tks ns).sum u) → CellAt b' (L + 2) (.ref nl) → b'.IsList nl (List.toArray nvs) → NamesOK b' nvs (xsOf ns) (nOf ns) → Sx b' L [] (cls3 L O tg tk tl) h' →
      wpAny (model prog w) (Ar 15 35) (execs ((lawB w).drop 3) (lawE w L)) Q E ⟨h', g, d, t', os⟩) :
    wpAny (model prog w) (Ar 15 35) (execs (lawB w) (lawE w L)) Q E ⟨h, g, d, t, os⟩ := by
  have hvl : vs.length = ns.length := ints_len hv
  unfold lawE
  conv in (lawB w) => whnf
  conv in (fdAt w 171) => whnf
  -- taken
  refine x_lc0 [] <| e_upto <| n_loc S rfl <| c_int fun u1 t1 => ⟨l, vs, 5, u1, _, _, _, _, _, rfl, rfl, rfl, isl hl S.keep, by omega, ?_⟩
  have S1 := S.alloc (slO .none (.int (5 : Nat) u1) .none)
  have S2 := S1.alloc (lsO (vs.take 5) 0)
  rw [Heap.size_push] at S2
  clear S1 S
  generalize h.objs.size + 1 = sa at S2 ⊢
  show wpAny _ _ (pyIter _) _ _ ⟨(h.push (slO .none (.int (5 : Nat) u1) .none)).push (lsO (vs.take 5) 0), _, _, _, _⟩
  generalize (h.push (slO .none (.int (5 : Nat) u1) .none)).push (lsO (vs.take 5) 0) = h2 at S2 ⊢
  obtain ⟨b1, l1, _, e1, S⟩ := S2.settle
  have S := S.tl
  have hs : b1.IsList sa (vs.take 5).toArray := ⟨_, e1, rfl, _, rfl⟩
  have hvt : IntsAre (vs.take 5) (ns.take 5) := by
    clear hl e1 hs hz hvl
    have gen : ∀ (k : Nat) {vs : List Value} {ns : List Int}, IntsAre vs ns → IntsAre (vs.take k) (ns.take k) := by
      intro k
      induction k with
      | zero => intro vs ns _; exact .nil
      | succ k ih => intro vs ns h; cases h with
        | nil => exact .nil
        | cons n t r => exact .cons n t (ih r)
    exact gen 5 hv
  refine wpAny_pyIter_list (isl hs S.keep) <| lcS S (it_list rfl hs) its_list (fun i b' g' ys => g' = g ∧ b' = b1 ∧ IntsAre ys (((ns.take 5).take i).map fun x => x.fmod 1000000)) (by simp; omega) ⟨rfl, rfl⟩ ⟨rfl, rfl, .nil⟩ ?_ ?_
  · rintro C i v b' g' ys m ns' h3 t3 hi hvi - ⟨rfl, rfl, hJ⟩ - S
    obtain ⟨n, u, rfl, en⟩ := ints_at hvt (k := i) (by simpa using hvi)
    refine as1 S fun h4 t4 S => ?_
    rw [List.forIn_nil]
    refine wpAny_pure ⟨fun _ => e_bin <| n_loc S rfl <| c_int fun u5 t5 => o_mod (by decide) fun u6 t6 => ⟨_, _, _, _, _, rfl, Le.refl _, ⟨rfl, rfl, ?_⟩, S⟩, fun h => by cases h⟩
    have e : (ns.take 5).take (i + 1) = (ns.take 5).take i ++ [n] := by rw [List.take_add_one, en]; rfl
    rw [e, List.map_append]
    exact ints_snoc hJ _ _
  rintro D b' g' ys k h3 t3 - ⟨rfl, rfl, hJ⟩ S
  have hJ : IntsAre ys (tks ns) := by
    have e : (ns.take 5).take (vs.take 5).toArray.size = ns.take 5 := List.take_of_length_le (by simp; omega)
    rw [e] at hJ; exact hJ
  obtain ⟨b2, l2, _, e2, S⟩ := S.settle
  have G2 := G.mono (l1.trans l2)
  have hD : b2.IsList D ys.toArray := ⟨_, e2, rfl, _, rfl⟩
  have hyl : ys.length = (tks ns).length := ints_len hJ
  have htl := tks_len ns
  -- total
  refine x_set <| e_callB <| n_bit (G2.mono S.keep) (gn_sum w) (bi_sum w) ⟨rfl, a_cons <| n_loc S rfl <| a_nil <| b_sum rfl (isl hD S.keep) hJ fun h4 t4 u4 le => ?_⟩
  have S := S.keeps le
  have S : Sx b2 L [("taken", .ref D), ("script", .ref l)] ((L + 1, O (L + 1)) :: (L + 2, O (L + 2)) :: cls3 L O tg tk tl) h4 := S
  refine st_cell S rfl (hO 1 (by decide) (by decide)) fun h5 o5 d5 S => ?_
  obtain ⟨b3, l3, _, e3, S⟩ := S.settle
  have G3 := G2.mono l3
  -- names
  refine x_set <| e_lc0 [] <| e_bin <| n_loc S rfl <| e_list <| a_cons <| c_int fun u6 t6 => a_cons <| c_int fun u7 t7 => a_cons <| c_int fun u8 t8 => a_cons <| c_int fun u9 t9 => a_cons <| c_int fun u10 t10 => a_nil ⟨sz rfl, ?_⟩
  have S1 := S.alloc (lsO [.int 38 u6, .int 17 u7, .int 81 u8, .int 91 u9, .int 19 u10] 0)
  have el : (h5.push (lsO [.int 38 u6, .int 17 u7, .int 81 u8, .int 91 u9, .int 19 u10] 0)).get? h5.objs.size = some (lsO [.int 38 u6, .int 17 u7, .int 81 u8, .int 91 u9, .int 19 u10] 0) := Heap.get?_push_size _ rfl
  have S := S1.tl
  clear S1
  generalize h5.objs.size = la at el ⊢
  show wpAny _ _ (binaryOp _ _ _) _ _ ⟨h5.push (lsO [.int 38 u6, .int 17 u7, .int 81 u8, .int 91 u9, .int 19 u10] 0), _, _, _, _⟩
  generalize h5.push (lsO [.int 38 u6, .int 17 u7, .int 81 u8, .int 91 u9, .int 19 u10] 0) = h6 at el S ⊢
  refine o_cat (S.keep _ _ (l3 _ _ e2)) el (by simp; omega) ?_
  have hJ2 : IntsAre (ys ++ [.int 38 u6, .int 17 u7, .int 81 u8, .int 91 u9, .int 19 u10]) (yss ns) := by
    have gen : ∀ {vs us : List Value} {ns ms : List Int}, IntsAre vs ns → IntsAre us ms → IntsAre (vs ++ us) (ns ++ ms) := by
      intro vs us ns ms h1 h2
      induction h1 with
      | nil => exact h2
      | cons n t _ ih => exact .cons n t ih
    exact gen hJ (.cons _ _ (.cons _ _ (.cons _ _ (.cons _ _ (.cons _ _ .nil)))))
  generalize ys ++ [.int 38 u6, .int 17 u7, .int 81 u8, .int 91 u9, .int 19 u10] = zs at hJ2 ⊢
  have S := S.alloc (lsO zs 0)
  show wpAny _ _ (pyIter _) _ _ ⟨h6.push (lsO zs 0), _, _, _, _⟩
  generalize h6.objs.size = za at S ⊢
  generalize h6.push (lsO zs 0) = h7 at S ⊢
  obtain ⟨b4, l4, _, e4, S⟩ := S.settle
  have hza : b4.IsList za zs.toArray := ⟨_, e4, rfl, _, rfl⟩
  have hzl : zs.length = nOf ns := ints_len hJ2
  have hN := nOf_le ns
  refine wpAny_pyIter_list (isl hza S.keep) <| lcI S (it_list rfl hza) its_list (fun i b' g'' ys => g'' = g' ∧ Le b4 b' ∧ NamesOK b' ys (xsOf ns) i) (by simp; omega) ⟨rfl, rfl⟩ ⟨rfl, Le.refl _, rfl, fun i hi => absurd hi (Nat.not_lt_zero i)⟩ ?_ ?_
  · rintro C i v b' g'' ys' m ns' h8 t8 hi hvi lb ⟨rfl, lb4, hK⟩ - S
    obtain ⟨y, u, rfl, en⟩ := ints_at hJ2 (k := i) (by simpa using hvi)
    have ex : xsOf ns i = coOf y := by unfold xsOf; rw [en]; rfl
    refine as1 S fun h9 t9 S => ?_
    rw [List.forIn_nil]
    refine wpAny_pure ⟨fun _ => e_tup <| a_cons <| e_bin <| n_loc S rfl <| c_int fun v1 s1 => o_mod (by decide) fun v2 s2 => a_cons <| e_bin <| e_bin <| n_loc S rfl <| c_int fun v3 s3 => o_fdiv (by decide) (by decide) fun v4 s4 => c_int fun v5 s5 => o_mod (by decide) fun v6 s6 =>
      a_cons <| e_bin <| c_int fun v7 s7 => e_bin <| e_bin <| n_loc S rfl <| c_int fun v8 s8 => o_fdiv (by decide) (by decide) fun v9 s9 => c_int fun v10 s10 => o_mod (by decide) fun v11 s11 => o_add fun v12 s12 => a_nil ⟨sz rfl, ?_⟩, fun h => by cases h⟩
    have S := S.alloc (tpO [.int (y.fmod 8) v2, .int ((y.fdiv 8).fmod 3) v6, .int (1 + (y.fdiv 24).fmod 4) v12])
    obtain ⟨b5, l5, _, e5, S⟩ := S.settle
    refine ⟨b5, _, _, _, _, rfl, l5, ⟨rfl, lb4.trans l5, hK.snoc l5 (u1 := v2) (u2 := v6) (u3 := v12) ?_⟩, S⟩
    rw [ex, coOf_tu, coOf_pa, coOf_le]; exact e5
  rintro D2 b' g'' nvs kn h8 t8 - ⟨rfl, lb4, hK⟩ S
  have hK : NamesOK b' nvs (xsOf ns) (nOf ns) := by simpa [hzl] using hK
  obtain ⟨b6, l6, _, e6, S⟩ := S.settle
  refine st_cell S rfl (hO 2 (by decide) (by decide)) fun h9 o9 d9 S => ?_
  obtain ⟨b7, l7, _, e7, S⟩ := S.settle
  have l37 := l4.trans (lb4.trans (l6.trans l7))
  exact H b7 _ _ D2 nvs u4 (l1.trans (l2.trans (l3.trans l37))) ⟨o5, l37 _ _ e3, d5⟩ ⟨o9, e7, d9⟩ ⟨_, l7 _ _ e6, rfl, _, rfl⟩ (hK.mono (l6.trans l7)) (S.forget fun _ hp => nomatch hp)
end
end Mine
end
section
open PySem PySem.W PyProof.Rows PySem.Spec PySem.Calls
namespace Mine
def RefsOK (P : Nat → Addr → Prop) (ys : List Value) (i : Nat) : Prop := ys.length = i ∧ ∀ j, j < i → ∃ a : Addr, ys[j]? = some (.ref a) ∧ P j a
theorem RefsOK.nil {P : Nat → Addr → Prop} : RefsOK P [] 0 := ⟨rfl, fun j hj => absurd hj (Nat.not_lt_zero j)⟩
theorem RefsOK.snoc {P P' : Nat → Addr → Prop} {ys : List Value} {i : Nat} (K : RefsOK P ys i) (hp : ∀ j a, P j a → P' j a) {a : Addr} (h : P' i a) : RefsOK P' (ys ++ [.ref a]) (i + 1) := by
  refine ⟨by rw [List.length_append, K.1]; rfl, fun j hj => ?_⟩
  by_cases q : j < i
  · obtain ⟨a', e, p⟩ := K.2 j q
    exact ⟨a', by rw [List.getElem?_append_left (by rw [K.1]; exact q)]; exact e, hp _ _ p⟩
  · have : j = i := by omega
    subst this
    exact ⟨a, by rw [List.getElem?_append_right (by rw [K.1]; exact Nat.le_refl _), K.1, Nat.sub_self]; rfl, h⟩
theorem RefsOK.fn {P : Nat → Addr → Prop} {ys : List Value} {N : Nat} (K : RefsOK P ys N) : ∃ f : Nat → Addr, ys = rfs f (List.range N) ∧ ∀ j, j < N → P j (f j) := by
  refine ⟨fun j => match ys[j]? with | some (.ref a) => a | _ => 0, ?_, fun j hj => ?_⟩
  · apply List.ext_getElem?
    intro j
    by_cases q : j < N
    · obtain ⟨a, e, _⟩ := K.2 j q
      rw [rf_get q, e]
    · rw [List.getElem?_eq_none (by rw [K.1]; omega), List.getElem?_eq_none (by simp; omega)]
  · obtain ⟨a, e, p⟩ := K.2 j hj
    simp only [e]; exact p
theorem gl_whole (w : World) : glb w "_law_whole" = some (.ref 127) := rfl
theorem gl_row (w : World) : glb w "_law_row" = some (.ref 120) := rfl
theorem gl_due (w : World) : glb w "_law_due" = some (.ref 134) := rfl
theorem gl_code (w : World) : glb w "_law_code" = some (.ref 146) := rfl
theorem gl_turned (w : World) : glb w "_law_turned" = some (.ref 161) := rfl
theorem gl_pairs (w : World) : glb w "_law_pairs" = some (.ref 166) := rfl
theorem gl_against (w : World) : glb w "_law_against" = some (.ref 151) := rfl
theorem gl_along (w : World) : glb w "_law_along" = some (.ref 156) := rfl
theorem gl_count (w : World) : glb w "count_calls" = some (.ref 113) := rfl
section
variable {prog : Program} {w : World} {h b : Heap} {g : Array GenState} {d : Drawn} {t : Nat} {os : OsState} {Q : Flow → Shared → Prop} {E : Value → Shared → Prop} {L nl : Addr} {O : Addr → Obj} {tg tk tl : Obj}
abbrev cls4 (L : Addr) (O : Addr → Obj) (tg tk tl : Obj) : List (Addr × Obj) := [(L + 4, O (L + 4)), (L + 5, O (L + 5)), (L + 7, O (L + 7)), (L + 8, O (L + 8)), (L + 6, O (L + 6)), (101, tg), (136, tk), (168, tl)]
theorem law2 {nvs : List Value} {xs : Nat → Co} {N : Nat} (hN : N ≤ 10) (hxs : ∀ j, (xs j).In) (G : Gd w b) (cN : CellAt b (L + 2) (.ref nl)) (hnl : b.IsList nl (List.toArray nvs)) (K : NamesOK b nvs xs N) (hO : ∀ i : Nat, 1 ≤ i → i ≤ 8 → (O (L + i)).data = .cell none) (S : Sx b L [] (cls3 L O tg tk tl) h)
    (H : ∀ b' h' t' wl rl wa ra, Le b b' → CellAt b' (L + 3) (.ref wl) → b'.IsList wl (rfs wa (List.range N)).toArray → (∀ j, j < N → CodeOK b' (wa j) (wh (xs j))) → b'.IsList rl (rfs ra (List.range N)).toArray → (∀ j, j < N → RowOK b' (ra j) (xs j) j) → Sx b' L [("rows", .ref rl)] (cls4 L O tg tk tl) h' →
      wpAny (model prog w) (Ar 15 35) (execs ((lawB w).drop 6) (lawE w L)) Q E ⟨h', g, d, t', os⟩) :
    wpAny (model prog w) (Ar 15 35) (execs ((lawB w).drop 3) (lawE w L)) Q E ⟨h, g, d, t, os⟩ := by
  obtain ⟨oN, eN, dN⟩ := cN
  have hnz : nvs.toArray.size = N := by simpa using K.1
  unfold lawE
  conv in (List.drop 3 (lawB w)) => whnf
  conv in (fdAt w 171) => whnf
  -- wholes
  refine x_set <| e_lc0 [] <| n_cell rfl (S.keep _ _ eN) dN <| wpAny_pyIter_list (isl hnl S.keep) <| lcI S (it_list rfl hnl) its_list (fun i b' g' ys => g' = g ∧ Le b b' ∧ RefsOK (fun j a => CodeOK b' a (wh (xs j))) ys i) (by omega) ⟨rfl, rfl⟩ ⟨rfl, Le.refl _, .nil⟩ ?_ ?_
  · rintro C i v b' g' ys m ns' h1 t1 hi hvi - ⟨rfl, lb, hK⟩ - S
    rw [hnz] at hi
    obtain ⟨a, u1, u2, u3, e1, e2⟩ := K.2 i hi
    have ev : v = .ref a := by
      have : nvs[i]? = some v := by simpa using hvi
      rw [e1] at this; exact (Option.some.inj this).symm
    subst ev
    refine ast rfl (tpT (S.keep _ _ (lb _ _ e2))) S fun h2 S _ => ao_cons <| as1 S fun h3 t3 S => ao_cons <| as1 S fun h4 t4 S => ao_cons <| as1 S fun h5 t5 S => ao_nil ?_
    rw [List.forIn_nil]
    have Gh := (G.mono lb).mono S.keep
    refine wpAny_pure ⟨fun _ => e_callF <| n_glb Gh (gl_whole w) ⟨127, rfl, a_cons <| n_loc S rfl <| a_cons <| n_loc S rfl <| a_cons <| n_loc S rfl <| a_nil ⟨⟨_, _, Gh 127 _ rfl (by decide), rfl⟩, ar_le (whole_spec (hxs i) Gh fun h6 t6 c vs le fr ec iv => ?_) rfl (by decide) (by decide)⟩⟩, fun h => by cases h⟩
    obtain ⟨b2, l2, S2, l3, nw⟩ := S.absorb le
    exact ⟨b2, _, _, _, _, rfl, l2, ⟨rfl, lb.trans l2, hK.snoc (fun j a h => h.mono l2) ⟨vs, 0, nw _ _ fr ec, iv⟩⟩, S2⟩
  rintro D b1 g1 ys k h1 t1 - ⟨rfl, lb1, hK⟩ S
  rw [hnz] at hK
  obtain ⟨wa, rfl, hwa⟩ := hK.fn
  clear hK
  obtain ⟨b2, l2, _, e2, S⟩ := S.settle
  refine st_cell S rfl (hO 3 (by decide) (by decide)) fun h2 o2 d2 S => ?_
  obtain ⟨b3, l3, _, e3, S⟩ := S.settle
  have l13 := l2.trans l3
  have lb3 := lb1.trans l13
  have hD : b3.IsList D (rfs wa (List.range N)).toArray := ⟨_, l3 _ _ e2, rfl, _, rfl⟩
  have hwa : ∀ j, j < N → CodeOK b3 (wa j) (wh (xs j)) := fun j hj => (hwa j hj).mono l13
  have G3 := G.mono lb3
  have eN := lb3 _ _ eN
  have hnl := isl hnl lb3
  have K := K.mono lb3
  clear lb1 l2 l3 l13 e2
  -- rows
  refine x_lc0 [("names", L + 2)] <| e_callT <| n_bit (G3.mono S.keep) (gn_range w) (bi_range w) ⟨rfl, a_cons <| e_callB <| n_bit (G3.mono S.keep) (gn_len w) (bi_len w) ⟨rfl, a_cons <| n_cell rfl (S.keep _ _ eN) dN <| a_nil <| b_len' (n := N) (isl hnl S.keep) K.1 (by omega) fun u6 t6 => a_nil <| b_range fun v1 v2 t7 => ?_⟩⟩
  have S := (S.alloc { cls := .type "range", data := .fields #[.int 0 v1, .int N u6, .int 1 v2] }).tl
  refine p_range (Heap.get?_push_size _ rfl) (by omega) ?_
  refine lcS S (it_range rfl) its_range (fun i b' g' ys => g' = g1 ∧ Le b3 b' ∧ RefsOK (fun j a => RowOK b' a (xs j) j) ys i) (by omega) ⟨Nat.zero_le _, rfl⟩ ⟨rfl, Le.refl _, .nil⟩ ?_ ?_
  · rintro C i v b' g' ys m ns' h3 t3 hi ⟨u, rfl⟩ - ⟨rfl, lb, hK⟩ - S
    obtain ⟨a, u1, u2, u3, e1, e2⟩ := K.2 i hi
    refine as1 S fun h4 t4 S => ?_
    rw [List.forIn_nil]
    have Gh := (G3.mono lb).mono S.keep
    have hn := isl (isl hnl lb) S.keep
    have ea := tpT (S.keep _ _ (lb _ _ e2))
    have eNh := S.keep _ _ (lb _ _ eN)
    refine wpAny_pure ⟨fun _ => e_callF <| n_glb Gh (gl_row w) ⟨120, rfl, a_cons <| n_loc S rfl <| a_cons <| e_sub <| e_sub <| n_cell rfl eNh dN <| n_loc S rfl <| i_list' hn (by rw [K.1]; omega) e1 <| c_int fun u4 t4 => i_tupI ea (Nat.lt_of_lt_of_le (Nat.lt_succ_self _) (Nat.le_of_ble_eq_true rfl)) (by decide) rfl <|
      a_cons <| e_sub <| e_sub <| n_cell rfl eNh dN <| n_loc S rfl <| i_list' hn (by rw [K.1]; omega) e1 <| c_int fun u5 t5 => i_tupI ea (Nat.lt_of_lt_of_le (Nat.lt_succ_self _) (Nat.le_of_ble_eq_true rfl)) (by decide) rfl <|
      a_cons <| e_sub <| e_sub <| n_cell rfl eNh dN <| n_loc S rfl <| i_list' hn (by rw [K.1]; omega) e1 <| c_int fun u6 t6 => i_tupI ea (Nat.lt_of_lt_of_le (Nat.lt_succ_self _) (Nat.le_of_ble_eq_true rfl)) (by decide) rfl <|
      a_nil ⟨⟨_, _, Gh 120 _ rfl (by decide), rfl⟩, ar_le (row_spec (hxs i) Gh fun h6 t6 c vs le fr ec rv => ?_) rfl (by decide) (by decide)⟩⟩, fun h => by cases h⟩
    obtain ⟨b2, l2, S2, l3, nw⟩ := S.absorb le
    exact ⟨b2, _, _, _, _, rfl, l2, ⟨rfl, lb.trans l2, hK.snoc (fun j a h => h.mono l2) ⟨vs, nw _ _ fr ec, rv, hxs i⟩⟩, S2⟩
  rintro R b4 g4 ys kr h3 t3 - ⟨rfl, lb4, hK⟩ S
  obtain ⟨ra, rfl, hra⟩ := hK.fn
  clear hK
  obtain ⟨b5, l5, _, e5, S⟩ := S.settle
  have lb5 := lb4.trans l5
  have G5 := G3.mono lb5
  have hR : b5.IsList R (rfs ra (List.range N)).toArray := ⟨_, e5, rfl, _, rfl⟩
  have hra : ∀ j, j < N → RowOK b5 (ra j) (xs j) j := fun j hj => (hra j hj).mono l5
  have e3 := lb5 _ _ e3
  have hD := isl hD lb5
  have hwa : ∀ j, j < N → CodeOK b5 (wa j) (wh (xs j)) := fun j hj => (hwa j hj).mono lb5
  have eN := lb5 _ _ eN
  have hnl := isl hnl lb5
  have lb5 := lb3.trans lb5
  clear lb4 l5 e5 lb3 G3
  -- if rows != ..
  refine x_if <| t_cmp <| n_loc S rfl <| e_lc0 [("wholes", L + 3)] <| e_callT <| n_bit (G5.mono S.keep) (gn_range w) (bi_range w) ⟨rfl, a_cons <| e_callB <| n_bit (G5.mono S.keep) (gn_len w) (bi_len w) ⟨rfl, a_cons <| n_cell rfl (S.keep _ _ eN) dN <| a_nil <| b_len' (n := N) (isl hnl S.keep) K.1 (by omega) fun u6 t6 => a_nil <| b_range fun v1 v2 t7 => ?_⟩⟩
  have S := (S.alloc { cls := .type "range", data := .fields #[.int 0 v1, .int N u6, .int 1 v2] }).tl
  refine p_range (Heap.get?_push_size _ rfl) (by omega) ?_
  refine lcI S (it_range rfl) its_range (fun i b' g' ys => g' = g4 ∧ Le b5 b' ∧ RefsOK (fun j a => ∃ us, b'.get? a = some (tpO us) ∧ DueV (xs j) j us) ys i) (by omega) ⟨Nat.zero_le _, rfl⟩ ⟨rfl, Le.refl _, .nil⟩ ?_ ?_
  · rintro C i v b' g' ys m ns' h4 t4 hi ⟨u, rfl⟩ - ⟨rfl, lb, hK⟩ - S
    obtain ⟨vs, kv, ew, iv⟩ := hwa i hi
    refine as1 S fun h5 t5 S => ?_
    rw [List.forIn_nil]
    have Gh := (G5.mono lb).mono S.keep
    have hw := isl (isl hD lb) S.keep
    refine wpAny_pure ⟨fun _ => e_callF <| n_glb Gh (gl_due w) ⟨134, rfl, a_cons <| n_loc S rfl <| a_cons <| e_sub <| n_cell rfl (S.keep _ _ (lb _ _ e3)) d2 <| n_loc S rfl <| i_list' hw (by simp; omega) (rf_get hi) <|
      a_nil ⟨⟨_, _, Gh 134 _ rfl (by decide), rfl⟩, ar_le (due_spec (hxs i) Gh ⟨_, S.keep _ _ (lb _ _ ew), rfl, _, rfl⟩ iv fun h6 t6 c us le fr ec dv => ?_) rfl (by decide) (by decide)⟩⟩, fun h => by cases h⟩
    obtain ⟨b2, l2, S2, l3, nw⟩ := S.absorb le
    exact ⟨b2, _, _, _, _, rfl, l2, ⟨rfl, lb.trans l2, hK.snoc (fun j a ⟨us, e, r⟩ => ⟨us, l2 _ _ e, r⟩) ⟨us, nw _ _ fr ec, dv⟩⟩, S2⟩
  rintro D2 b6 g6 ys kd h5 t5 - ⟨rfl, lb6, hK⟩ S
  obtain ⟨da, rfl, hda⟩ := hK.fn
  refine o_neRows (G5.mono (lb6.trans S.keep)).nb (isl hR (lb6.trans S.keep)) ⟨_, (S.new _ (.head _)).1, rfl, _, rfl⟩ (fun j hj => let ⟨vs, e1, e2, e3⟩ := hra j hj; ⟨vs, S.keep _ _ (lb6 _ _ e1), e2, e3⟩) (fun j hj => let ⟨us, e1, e2⟩ := hda j hj; ⟨us, S.keep _ _ e1, e2⟩) (by decide) ⟨_, rfl, (fun hb => by cases hb), fun _ => ?_⟩
  exact H b6 _ _ D R wa ra (lb5.trans lb6) ⟨o2, lb6 _ _ e3, d2⟩ (isl hD lb6) (fun j hj => (hwa j hj).mono lb6) (isl hR lb6) (fun j hj => (hra j hj).mono lb6) (S.tl.forget (by simp only [List.forall_mem_cons]; exact ⟨rfl, fun _ hp => nomatch hp⟩))
end
end Mine
end
section
open PySem PySem.W PyProof.Rows PySem.Spec PySem.Calls
namespace Mine
def wy (T s : Int) : Int := if (T.fdiv s).fmod 2 = 1 then -2 else 1
theorem wy_ne (T s : Int) : wy T s ≠ 0 := by unfold wy; split <;> decide
def c1 (T : Int) : Nat := (T.fmod 5).toNat
def c2 (T : Int) : Nat := ((T.fmod 5 + 1 + (T.fdiv 5).fmod 4).fmod 5).toNat
def c3 (T : Int) : Nat := ((T.fmod 5 + 1 + (T.fdiv 20).fmod 4).fmod 5).toNat
theorem c1_i (T : Int) : (c1 T : Int) = T.fmod 5 := Int.toNat_of_nonneg (fmod_pos (by decide)).1
theorem c2_i (T : Int) : (c2 T : Int) = (T.fmod 5 + 1 + (T.fdiv 5).fmod 4).fmod 5 := Int.toNat_of_nonneg (fmod_pos (by decide)).1
theorem c3_i (T : Int) : (c3 T : Int) = (T.fmod 5 + 1 + (T.fdiv 20).fmod 4).fmod 5 := Int.toNat_of_nonneg (fmod_pos (by decide)).1
theorem c1_lt (T : Int) : c1 T < 5 := by have := (fmod_pos (a := T) (b := 5) (by decide)).2; have := c1_i T; omega
theorem c2_lt (T : Int) : c2 T < 5 := by have := (fmod_pos (a := T.fmod 5 + 1 + (T.fdiv 5).fmod 4) (b := 5) (by decide)).2; have := c2_i T; omega
theorem c3_lt (T : Int) : c3 T < 5 := by have := (fmod_pos (a := T.fmod 5 + 1 + (T.fdiv 20).fmod 4) (b := 5) (by decide)).2; have := c3_i T; omega
def selF (T : Int) : List (Nat × Int) := [(c1 T, wy T 80), (c2 T, wy T 160)]
def selS (T : Int) : List (Nat × Int) := [(c3 T, wy T 320)]
theorem selF_5 (T : Int) : ∀ p ∈ selF T, p.1 < 5 := by unfold selF; simp only [List.forall_mem_cons]; exact ⟨c1_lt T, c2_lt T, fun _ h => nomatch h⟩
theorem selS_5 (T : Int) : ∀ p ∈ selS T, p.1 < 5 := by unfold selS; simp only [List.forall_mem_cons]; exact ⟨c3_lt T, fun _ h => nomatch h⟩
theorem selF_ne (T : Int) : ∀ p ∈ selF T, p.2 ≠ 0 := by unfold selF; simp only [List.forall_mem_cons]; exact ⟨wy_ne _ _, wy_ne _ _, fun _ h => nomatch h⟩
theorem selS_ne (T : Int) : ∀ p ∈ selS T, p.2 ≠ 0 := by unfold selS; simp only [List.forall_mem_cons]; exact ⟨wy_ne _ _, fun _ h => nomatch h⟩
section
variable {prog : Program} {w : World} {h b : Heap} {g : Array GenState} {d : Drawn} {t : Nat} {os : OsState} {Q : Flow → Shared → Prop} {E : Value → Shared → Prop} {L : Addr} {O : Addr → Obj} {tg tk tl : Obj} {m : Loc}
abbrev cls6 (L : Addr) (O : Addr → Obj) (tg tk tl : Obj) : List (Addr × Obj) := [(L + 7, O (L + 7)), (L + 8, O (L + 8)), (L + 6, O (L + 6)), (101, tg), (136, tk), (168, tl)]
theorem law3 {T : Int} {uT : Tok} {rl : Addr} (G : Gd w b) (cT : CellAt b (L + 1) (.int T uT)) (hO : ∀ i : Nat, 1 ≤ i → i ≤ 8 → (O (L + i)).data = .cell none) (S : Sx b L [("rows", .ref rl)] (cls4 L O tg tk tl) h)
    (H : ∀ b' h' t' fl sl vf vs nf ns, Le b b' → CellAt b' (L + 4) (.ref fl) → CellAt b' (L + 5) (.ref sl) → b'.get? fl = some (lsO vf nf) → SelAt b' fl (selF T) → b'.get? sl = some (lsO vs ns) → SelAt b' sl (selS T) → Sx b' L [("rows", .ref rl)] (cls6 L O tg tk tl) h' →
      wpAny (model prog w) (Ar 15 35) (execs ((lawB w).drop 10) (lawE w L)) Q E ⟨h', g, d, t', os⟩) :
    wpAny (model prog w) (Ar 15 35) (execs ((lawB w).drop 6) (lawE w L)) Q E ⟨h, g, d, t, os⟩ := by
  obtain ⟨oT, eT, dT⟩ := cT
  unfold lawE
  conv in (List.drop 6 (lawB w)) => whnf
  conv in (fdAt w 171) => whnf
  -- ways
  refine x_lc0 [("total", L + 1)] <| e_tup <| a_cons <| c_int fun u1 t1 => a_cons <| c_int fun u2 t2 => a_cons <| c_int fun u3 t3 => a_nil ⟨sz rfl, ?_⟩
  have S := S.alloc (tpO [.int 80 u1, .int 160 u2, .int 320 u3])
  show wpAny _ _ (pyIter _) _ _ ⟨h.push (tpO [.int 80 u1, .int 160 u2, .int 320 u3]), _, _, _, _⟩
  generalize h.objs.size = ta at S ⊢
  generalize h.push (tpO [.int 80 u1, .int 160 u2, .int 320 u3]) = h1 at S ⊢
  obtain ⟨b1, l1, _, e1, S⟩ := S.settle
  have hta : b1.IsTuple ta (List.toArray [.int 80 u1, .int 160 u2, .int 320 u3]) := ⟨_, e1, rfl, _, rfl⟩
  have ht' : h1.IsTuple ta (List.toArray [.int 80 u1, .int 160 u2, .int 320 u3]) := ⟨_, S.keep _ _ e1, rfl, _, rfl⟩
  refine wpAny_pyIter_tuple ht' ?_
  refine lcS S (it_tup rfl hta) its_tup (fun i b' g' ys => g' = g ∧ b' = b1 ∧ IntsAre ys (([80, 160, 320] : List Int).take i |>.map (wy T))) (by simp) ⟨rfl, rfl⟩ ⟨rfl, rfl, .nil⟩ ?_ ?_
  · rintro C i v b' g' ys m ns' h3 t3 hi hvi - ⟨rfl, rfl, hJ⟩ - S
    have hv : IntsAre [Value.int 80 u1, .int 160 u2, .int 320 u3] ([80, 160, 320] : List Int) := .cons _ _ (.cons _ _ (.cons _ _ .nil))
    obtain ⟨s, us, rfl, en⟩ := ints_at hv (k := i) (by simpa using hvi)
    have hs : s ≠ 0 ∧ s.natAbs < 1073741824 := by
      have : s = 80 ∨ s = 160 ∨ s = 320 := by have := List.mem_of_getElem? en; simpa using this
      rcases this with rfl | rfl | rfl <;> decide
    have e : ([80, 160, 320] : List Int).take (i + 1) = ([80, 160, 320] : List Int).take i ++ [s] := by rw [List.take_add_one, en]; rfl
    rw [e, List.map_append]
    refine as1 S fun h4 t4 S => ?_
    rw [List.forIn_nil]
    refine wpAny_pure ⟨fun _ => e_if <| t_cmp <| e_bin <| e_bin <| n_cell rfl (S.keep _ _ (l1 _ _ eT)) dT <| n_loc S rfl <| o_fdiv hs.1 hs.2 fun u4 t4 => c_int fun u5 t5 => o_mod (by decide) fun u6 t6 => c_int fun u7 t7 => o_eq ⟨_, rfl, fun hb => ?_, fun hb => ?_⟩, fun h => by cases h⟩
    · have hb := of_decide_eq_true hb
      refine e_neg <| c_int fun u8 t8 => o_neg fun u9 t9 => ⟨_, _, _, _, _, rfl, Le.refl _, ⟨rfl, rfl, ?_⟩, S⟩
      have : wy T s = -2 := by unfold wy; rw [if_pos hb]
      have J := ints_snoc hJ (wy T s) u9
      rw [this] at J
      simpa [this] using J
    · have hb := of_decide_eq_false hb
      refine c_int fun u8 t8 => ⟨_, _, _, _, _, rfl, Le.refl _, ⟨rfl, rfl, ?_⟩, S⟩
      have : wy T s = 1 := by unfold wy; rw [if_neg hb]
      have J := ints_snoc hJ (wy T s) u8
      rw [this] at J
      simpa [this] using J
  rintro D b' g' ys k h3 t3 - ⟨rfl, rfl, hJ⟩ S
  have hJ : IntsAre ys [wy T 80, wy T 160, wy T 320] := hJ
  obtain ⟨w0, ew0⟩ := ints_get hJ (k := 0) (n := wy T 80) rfl
  obtain ⟨w1, ew1⟩ := ints_get hJ (k := 1) (n := wy T 160) rfl
  obtain ⟨w2, ew2⟩ := ints_get hJ (k := 2) (n := wy T 320) rfl
  obtain ⟨b2, l2, _, e2, S⟩ := S.settle
  have hD : b2.IsList D ys.toArray := ⟨_, e2, rfl, _, rfl⟩
  have l02 := l1.trans l2
  -- head
  refine x_set <| e_bin <| n_cell rfl (S.keep _ _ (l02 _ _ eT)) dT <| c_int fun u4 t4 => o_mod (by decide) fun uh t5 => st_loc S fun h4 t6 S => ?_
  -- first
  refine x_set <| e_list <| a_cons <| e_tup <| a_cons <| n_loc S rfl <| a_cons <| e_sub <| n_loc S rfl <| c_int fun _ _ => i_list (isl hD S.keep) (by decide) (by decide) (by simpa using ew0) <| a_nil ⟨sz rfl, ?_⟩
  have S := S.alloc (tpO [.int (T.fmod 5) uh, .int (wy T 80) w0])
  show wpAny _ _ (spliced _) _ _ ⟨h4.push (tpO [.int (T.fmod 5) uh, .int (wy T 80) w0]), _, _, _, _⟩
  generalize h4.objs.size = p1 at S ⊢
  generalize h4.push (tpO [.int (T.fmod 5) uh, .int (wy T 80) w0]) = h5 at S ⊢
  obtain ⟨b3, l3, _, e3, S⟩ := S.settle
  have l03 := l02.trans l3
  have hD := isl hD l3
  refine a_cons <| e_tup <| a_cons <| e_bin <| e_bin <| e_bin <| n_loc S rfl <| c_int fun _ _ => o_add fun _ _ => e_bin <| e_bin <| n_cell rfl (S.keep _ _ (l03 _ _ eT)) dT <| c_int fun _ _ => o_fdiv (by decide) (by decide) fun _ _ => c_int fun _ _ => o_mod (by decide) fun _ _ => o_add fun _ _ => c_int fun _ _ => o_mod (by decide) fun uq _ =>
    a_cons <| e_sub <| n_loc S rfl <| c_int fun _ _ => i_list (isl hD S.keep) (by decide) (by decide) (by simpa using ew1) <| a_nil ⟨sz rfl, a_nil ⟨sz rfl, ?_⟩⟩
  have S := S.alloc (tpO [.int ((T.fmod 5 + 1 + (T.fdiv 5).fmod 4).fmod 5) uq, .int (wy T 160) w1])
  show wpAny _ _ (storeName _ _ _) _ _ ⟨(h5.push (tpO [.int ((T.fmod 5 + 1 + (T.fdiv 5).fmod 4).fmod 5) uq, .int (wy T 160) w1])).push (lsO [.ref p1, .ref h5.objs.size] 0), _, _, _, _⟩
  generalize h5.objs.size = p2 at S ⊢
  generalize h5.push (tpO [.int ((T.fmod 5 + 1 + (T.fdiv 5).fmod 4).fmod 5) uq, .int (wy T 160) w1]) = h6 at S ⊢
  obtain ⟨b4, l4, _, e4, S⟩ := S.settle
  have S := S.alloc (lsO [.ref p1, .ref p2] 0)
  generalize h6.objs.size = fl at S ⊢
  generalize h6.push (lsO [.ref p1, .ref p2] 0) = h7 at S ⊢
  obtain ⟨b5, l5, _, e5, S⟩ := S.settle
  refine st_cell S rfl (hO 4 (by decide) (by decide)) fun h8 o8 d8 S => ?_
  obtain ⟨b6, l6, _, e6, S⟩ := S.settle
  have l36 := l4.trans (l5.trans l6)
  have l06 := l03.trans l36
  have hD := isl hD l36
  have SF : SelAt b6 fl (selF T) := ⟨[.ref p1, .ref p2], ⟨_, l6 _ _ e5, rfl, _, rfl⟩, rfl, fun i c dd hi => by
    rcases i with _ | _ | i
    · cases hi
      exact ⟨p1, uh, w0, rfl, by rw [c1_i]; exact tpT (l36 _ _ e3)⟩
    · cases hi
      exact ⟨p2, uq, w1, rfl, by rw [c2_i]; exact tpT (l6 _ _ (l5 _ _ e4))⟩
    · cases hi⟩
  -- second
  refine x_set <| e_list <| a_cons <| e_tup <| a_cons <| e_bin <| e_bin <| e_bin <| n_loc S rfl <| c_int fun _ _ => o_add fun _ _ => e_bin <| e_bin <| n_cell rfl (S.keep _ _ (l06 _ _ eT)) dT <| c_int fun _ _ => o_fdiv (by decide) (by decide) fun _ _ => c_int fun _ _ => o_mod (by decide) fun _ _ => o_add fun _ _ => c_int fun _ _ => o_mod (by decide) fun ur _ =>
    a_cons <| e_sub <| n_loc S rfl <| c_int fun _ _ => i_list (isl hD S.keep) (by decide) (by decide) (by simpa using ew2) <| a_nil ⟨sz rfl, a_nil ⟨sz rfl, ?_⟩⟩
  have S := S.alloc (tpO [.int ((T.fmod 5 + 1 + (T.fdiv 20).fmod 4).fmod 5) ur, .int (wy T 320) w2])
  show wpAny _ _ (storeName _ _ _) _ _ ⟨(h8.push (tpO [.int ((T.fmod 5 + 1 + (T.fdiv 20).fmod 4).fmod 5) ur, .int (wy T 320) w2])).push (lsO [.ref h8.objs.size] 0), _, _, _, _⟩
  generalize h8.objs.size = p3 at S ⊢
  generalize h8.push (tpO [.int ((T.fmod 5 + 1 + (T.fdiv 20).fmod 4).fmod 5) ur, .int (wy T 320) w2]) = h9 at S ⊢
  obtain ⟨b7, l7, _, e7, S⟩ := S.settle
  have S := S.alloc (lsO [.ref p3] 0)
  generalize h9.objs.size = sl at S ⊢
  generalize h9.push (lsO [.ref p3] 0) = h10 at S ⊢
  obtain ⟨b8, l8, _, e8, S⟩ := S.settle
  refine st_cell S rfl (hO 5 (by decide) (by decide)) fun h11 o11 d11 S => ?_
  obtain ⟨b9, l9, _, e9, S⟩ := S.settle
  have l69 := l7.trans (l8.trans l9)
  have SS : SelAt b9 sl (selS T) := ⟨[.ref p3], ⟨_, l9 _ _ e8, rfl, _, rfl⟩, rfl, fun i c dd hi => by
    rcases i with _ | i
    · cases hi
      exact ⟨p3, ur, w2, rfl, by rw [c3_i]; exact tpT (l9 _ _ (l8 _ _ e7))⟩
    · cases hi⟩
  exact H b9 _ _ fl sl _ _ _ _ (l06.trans l69) ⟨_, l69 _ _ e6, d8⟩ ⟨_, e9, d11⟩ (l69 _ _ (l6 _ _ e5)) (SF.mono l69) (l9 _ _ e8) SS (S.forget (by simp only [List.forall_mem_cons]; exact ⟨rfl, fun _ hp => nomatch hp⟩))
end
end Mine
end
section
open PySem PySem.W PyProof.Rows PySem.Spec PySem.Calls
namespace Mine
section
variable {prog : Program} {w : World} {h b : Heap} {g : Array GenState} {d : Drawn} {t : Nat} {os : OsState} {Q : Flow → Shared → Prop} {E : Value → Shared → Prop} {L : Addr} {O : Addr → Obj} {tg tk tl : Obj} {m : Loc}
abbrev cls9 (tg tk tl : Obj) : List (Addr × Obj) := [(101, tg), (136, tk), (168, tl)]
theorem law4 {N : Nat} {xs : Nat → Co} {self sels : List (Nat × Int)} {rl wl fl sl : Addr} {wa : Nat → Addr} (hN : N ≤ 10) (hxs : ∀ j, (xs j).In) (hf5 : ∀ p ∈ self, p.1 < 5) (hs5 : ∀ p ∈ sels, p.1 < 5) (hfl : self.length < 100) (hsl : sels.length < 100) (G : Gd w b) (cW : CellAt b (L + 3) (.ref wl)) (cF : CellAt b (L + 4) (.ref fl)) (cS : CellAt b (L + 5) (.ref sl))
    (hwl : b.IsList wl (rfs wa (List.range N)).toArray) (hwa : ∀ j, j < N → CodeOK b (wa j) (wh (xs j))) (Sf : SelAt b fl self) (Ss : SelAt b sl sels) (hO : ∀ i : Nat, 1 ≤ i → i ≤ 8 → (O (L + i)).data = .cell none) (S : Sx b L [("rows", .ref rl)] (cls6 L O tg tk tl) h)
    (H : ∀ b' h' t' ol zl oa za a1 a2 o1 o2 k1 k2, Le b b' → CellAt b' (L + 7) (.ref ol) → CellAt b' (L + 8) (.ref zl) → CellAt b' (L + 6) (.ref a1) → b'.IsList ol (rfs oa (List.range N)).toArray → b'.IsList zl (rfs za (List.range N)).toArray → (∀ j, j < N → CodeOK b' (oa j) (cd xs self j)) → (∀ j, j < N → CodeOK b' (za j) (cd xs sels j)) →
      b'.get? a1 = some o1 → DO prog w o1 k1 → (a1 == sysModules) = false → BkAt false b' k1 (apF (cd xs self) (cd xs sels) N N) → k1.length ≤ N → b'.get? a2 = some o2 → DO prog w o2 k2 → (a2 == sysModules) = false → BkAt true b' k2 (alF (cd xs self) (cd xs sels) xs N N) → k2.length ≤ N →
      Sx b' L [("along", .ref a2), ("rows", .ref rl)] (cls9 tg tk tl) h' →
      wpAny (model prog w) (Ar 15 35) (execs ((lawB w).drop 13) (lawE w L)) Q E ⟨h', g, d, t', os⟩) :
    wpAny (model prog w) (Ar 15 35) (execs ((lawB w).drop 10) (lawE w L)) Q E ⟨h, g, d, t, os⟩ := by
  obtain ⟨oW, eW, dW⟩ := cW
  obtain ⟨oF, eF, dF⟩ := cF
  obtain ⟨oS, eS, dS⟩ := cS
  have hwz : (rfs wa (List.range N)).toArray.size = N := by simp
  have hl5 : ∀ x : Co, (wh x).length = 5 := fun x => by unfold wh; split <;> rfl
  unfold lawE
  conv in (List.drop 10 (lawB w)) => whnf
  conv in (fdAt w 171) => whnf
  -- one
  refine x_set <| e_lc0 [("first", L + 4)] <| n_cell rfl (S.keep _ _ eW) dW <| wpAny_pyIter_list (isl hwl S.keep) <| lcI S (it_list rfl hwl) its_list (fun i b' g' ys => g' = g ∧ Le b b' ∧ RefsOK (fun j a => CodeOK b' a (cd xs self j)) ys i) (by omega) ⟨rfl, rfl⟩ ⟨rfl, Le.refl _, .nil⟩ ?_ ?_
  · rintro C i v b' g' ys m ns' h1 t1 hi hvi - ⟨rfl, lb, hK⟩ - S
    rw [hwz] at hi
    have ev : v = .ref (wa i) := by
      have : (rfs wa (List.range N))[i]? = some v := by simpa using hvi
      rw [rf_get hi] at this; exact (Option.some.inj this).symm
    subst ev
    obtain ⟨vs, kv, ew, iv⟩ := hwa i hi
    refine as1 S fun h2 t2 S => ?_
    rw [List.forIn_nil]
    have lh := lb.trans S.keep
    have Gh := G.mono lh
    refine wpAny_pure ⟨fun _ => e_callF <| n_glb Gh (gl_code w) ⟨146, rfl, a_cons <| n_loc S rfl <| a_cons <| n_cell rfl (lh _ _ eF) dF <| a_nil ⟨⟨_, _, Gh 146 _ rfl (by decide), rfl⟩, ar_le (code_spec Gh ⟨_, lh _ _ ew, rfl, _, rfl⟩ iv (by rw [hl5]; decide) (Sf.mono lh) hfl (by rw [hl5]; exact hf5) fun h6 t6 c vs k le fr ec iv => ?_) rfl (by decide) (by decide)⟩⟩, fun h => by cases h⟩
    obtain ⟨b2, l2, S2, l3, nw⟩ := S.absorb le
    exact ⟨b2, _, _, _, _, rfl, l2, ⟨rfl, lb.trans l2, hK.snoc (fun j a h => h.mono l2) ⟨vs, k, nw _ _ fr ec, iv⟩⟩, S2⟩
  rintro D b1 g1 ys k h1 t1 - ⟨rfl, lb1, hK⟩ S
  rw [hwz] at hK
  obtain ⟨oa, rfl, hoa⟩ := hK.fn
  clear hK
  obtain ⟨b2, l2, _, e2, S⟩ := S.settle
  refine st_cell S rfl (hO 7 (by decide) (by decide)) fun h2 o7 d7 S => ?_
  obtain ⟨b3, l3, _, e3, S⟩ := S.settle
  have l13 := l2.trans l3
  have lb3 := lb1.trans l13
  have hol : b3.IsList D (rfs oa (List.range N)).toArray := ⟨_, l3 _ _ e2, rfl, _, rfl⟩
  have hoa : ∀ j, j < N → CodeOK b3 (oa j) (cd xs self j) := fun j hj => (hoa j hj).mono l13
  have G3 := G.mono lb3
  have hwl := isl hwl lb3
  have hwa : ∀ j, j < N → CodeOK b3 (wa j) (wh (xs j)) := fun j hj => (hwa j hj).mono lb3
  have eW := lb3 _ _ eW
  have eS := lb3 _ _ eS
  have Ss := Ss.mono lb3
  -- two
  refine x_set <| e_lc0 [("second", L + 5)] <| n_cell rfl (S.keep _ _ eW) dW <| wpAny_pyIter_list (isl hwl S.keep) <| lcI S (it_list rfl hwl) its_list (fun i b' g' ys => g' = g1 ∧ Le b3 b' ∧ RefsOK (fun j a => CodeOK b' a (cd xs sels j)) ys i) (by omega) ⟨rfl, rfl⟩ ⟨rfl, Le.refl _, .nil⟩ ?_ ?_
  · rintro C i v b' g' ys m ns' h1 t1 hi hvi - ⟨rfl, lb, hK⟩ - S
    rw [hwz] at hi
    have ev : v = .ref (wa i) := by
      have : (rfs wa (List.range N))[i]? = some v := by simpa using hvi
      rw [rf_get hi] at this; exact (Option.some.inj this).symm
    subst ev
    obtain ⟨vs, kv, ew, iv⟩ := hwa i hi
    refine as1 S fun h2 t2 S => ?_
    rw [List.forIn_nil]
    have lh := lb.trans S.keep
    have Gh := G3.mono lh
    refine wpAny_pure ⟨fun _ => e_callF <| n_glb Gh (gl_code w) ⟨146, rfl, a_cons <| n_loc S rfl <| a_cons <| n_cell rfl (lh _ _ eS) dS <| a_nil ⟨⟨_, _, Gh 146 _ rfl (by decide), rfl⟩, ar_le (code_spec Gh ⟨_, lh _ _ ew, rfl, _, rfl⟩ iv (by rw [hl5]; decide) (Ss.mono lh) hsl (by rw [hl5]; exact hs5) fun h6 t6 c vs k le fr ec iv => ?_) rfl (by decide) (by decide)⟩⟩, fun h => by cases h⟩
    obtain ⟨b2, l2, S2, l3, nw⟩ := S.absorb le
    exact ⟨b2, _, _, _, _, rfl, l2, ⟨rfl, lb.trans l2, hK.snoc (fun j a h => h.mono l2) ⟨vs, k, nw _ _ fr ec, iv⟩⟩, S2⟩
  rintro Z b4 g4 ys k4 h4 t4 - ⟨rfl, lb4, hK⟩ S
  rw [hwz] at hK
  obtain ⟨za, rfl, hza⟩ := hK.fn
  clear hK
  obtain ⟨b5, l5, _, e5, S⟩ := S.settle
  refine st_cell S rfl (hO 8 (by decide) (by decide)) fun h6 o8 d8 S => ?_
  obtain ⟨b6, l6, _, e6, S⟩ := S.settle
  have l46 := l5.trans l6
  have lb6 := lb4.trans l46
  have hzl : b6.IsList Z (rfs za (List.range N)).toArray := ⟨_, l6 _ _ e5, rfl, _, rfl⟩
  have hza : ∀ j, j < N → CodeOK b6 (za j) (cd xs sels j) := fun j hj => (hza j hj).mono l46
  have hoa : ∀ j, j < N → CodeOK b6 (oa j) (cd xs self j) := fun j hj => (hoa j hj).mono lb6
  have hol := isl hol lb6
  have G6 := G3.mono lb6
  have hwl := isl hwl lb6
  have hwa : ∀ j, j < N → CodeOK b6 (wa j) (wh (xs j)) := fun j hj => (hwa j hj).mono lb6
  have eW := lb6 _ _ eW
  have e3 := lb6 _ _ e3
  have l06 := lb3.trans lb6
  -- apart, along
  refine x_setT <| e_callF <| n_glb (G6.mono S.keep) (gl_pairs w) ⟨166, rfl, a_cons <| n_cell rfl (S.keep _ _ e3) d7 <| a_cons <| n_cell rfl (S.keep _ _ e6) d8 <| a_cons <| n_cell rfl (S.keep _ _ eW) dW <| a_nil ⟨⟨_, _, (G6.mono S.keep) 166 _ rfl (by decide), rfl⟩, ar_le (pairs_spec hN (fun j _ => hxs j) G6 S.keep hol hzl hwl hoa hza hwa fun b7 h7 t7 r a1 a2 o1 o2 k1 k2 x er ea1 D1 n1 B1 z1 ea2 D2 n2 B2 z2 => ?_) rfl (by decide) (by decide)⟩⟩
  have S := S.ex x
  have l67 : Le b6 b7 := x.1
  refine ast rfl (tpT (S.keep _ _ er)) S fun h8 S _ => ao_cons <| asC S rfl (hO 6 (by decide) (by decide)) fun h9 o9 d9 S => ao_cons <| as1 S fun h10 t10 S => ao_nil ?_
  obtain ⟨b8, l8, _, e8, S⟩ := S.settle
  have l68 := l67.trans l8
  exact H b8 _ _ D Z oa za a1 a2 o1 o2 k1 k2 (l06.trans l68) ⟨_, l68 _ _ e3, d7⟩ ⟨_, l68 _ _ e6, d8⟩ ⟨_, e8, d9⟩ (isl hol l68) (isl hzl l68) (fun j hj => (hoa j hj).mono l68) (fun j hj => (hza j hj).mono l68)
    (l8 _ _ ea1) D1 n1 (B1.mono l8) z1 (l8 _ _ ea2) D2 n2 (B2.mono l8) z2 (S.forget (by simp only [List.forall_mem_cons]; exact ⟨rfl, rfl, fun _ hp => nomatch hp⟩))
end
end Mine
end
section
open PySem PySem.W PyProof.Rows PySem.Spec PySem.Calls
namespace Mine
theorem tr_snoc {l : List Value} {a b : Int} {c : Value} (h : TriplesOk l) : TriplesOk (l ++ [rawInt a, rawInt b, c]) := by
  fun_induction TriplesOk l with
  | case1 => simp [TriplesOk, rawInt]
  | case2 _ _ _ _ _ rest ih => exact ih h
  | case3 => exact h.elim
theorem ca_snoc {l : List Value} {q : Pos} {a b : Int} {c : Value} (h : TriplesOk l) (hn : codeAmong q l = none) (hl : a ≠ (q.line : Int)) : codeAmong q (l ++ [rawInt a, rawInt b, c]) = none := by
  fun_induction TriplesOk l with
  | case1 => simp [codeAmong, rawInt, hl]
  | case2 x t y u z rest ih =>
    show (if x == (q.line : Int) && y == (q.col : Int) then some z else codeAmong q (rest ++ _)) = none
    have hn : (if x == (q.line : Int) && y == (q.col : Int) then some z else codeAmong q rest) = none := hn
    split at hn
    · cases hn
    · rename_i hc
      rw [if_neg hc]; exact ih h hn
  | case3 => exact h.elim
/-- law's code table: no lambda at the line k or below it -/
def PsLt (ps : Array Value) (k : Nat) : Prop := TriplesOk ps.toList ∧ ∀ q : Pos, k ≤ q.line → codeAmong q ps.toList = none
theorem PsLt.nil (k : Nat) : PsLt #[] k := ⟨trivial, fun _ _ => rfl⟩
theorem PsLt.snoc {ps : Array Value} {k l c : Nat} {v : Value} (P : PsLt ps k) (hl : k ≤ l) : PsLt (ps ++ #[rawInt l, rawInt c, v]) (l + 1) := by
  have e : (ps ++ #[rawInt (l : Int), rawInt (c : Int), v]).toList = ps.toList ++ [rawInt (l : Int), rawInt (c : Int), v] := by simp
  refine ⟨by rw [e]; exact tr_snoc P.1, fun q hq => ?_⟩
  rw [e]
  exact ca_snoc P.1 (P.2 q (by omega)) (by omega)
theorem chd170 {w : World} {h : Heap} (G : Gd w h) : CodeHd h 170 168 := ⟨_, _, _, _, _, _, _, _, _, G 170 _ rfl (by decide), rfl, rfl, rfl, rfl, rfl, rfl, rfl, rfl, by decide⟩
theorem gn_sorted (w : World) : glb w "sorted" = none := rfl
theorem bi_sorted (w : World) : bit w "sorted" = some (.builtin "sorted") := rfl
section
variable {M : Model} {prog : Program} {w : World} {A : Around} {E : Value → Shared → Prop} {h : Heap} {g : Array GenState} {d : Drawn} {t : Nat} {os : OsState} {env : Env} {Q : Value → Shared → Prop}
theorem e_callBK {p pos kp : Pos} {e ke : Expr} {f kn : Str} {id : String} {s : Shared} (H : wpAny M A (eval (.Name f p) env) (fun fv s₁ => fv = .builtin id ∧ wpAny M A (spliced (backTo pos (starEach [e] env))) (fun vs s₂ => wpAny M A (eval ke env) (fun kv s₃ => wpAny M A (call (.builtin id) vs [(kn, kv)]) Q E s₃) E s₂) E s₁) E s)
    (he : starEach [e] env = [(false, eval e env)] := by rfl) : wpAny M A (eval (.Call (.Name f p) [e] [⟨some kn, ke, kp⟩] pos) env) Q E s := by
  refine wpAny_Call_Name_kw (wpAny_mono H (fun fv s₁ h₁ => ?_) fun _ _ x => x)
  obtain ⟨rfl, h₁⟩ := h₁
  refine callWith_kw (wpAny_mono h₁ (fun vs s₂ h₂ => wpAny_evalAll_cons ?_) fun _ _ x => x) (by rw [he]; rfl) (by rw [he]; rfl) rfl rfl
  show wpAny M A (do let v ← eval ke env; standAt pos; pure v) _ _ _
  exact wpAny_bind (wpAny_mono h₂ (fun kv s₃ h₃ => wpAny_bind (wpAny_standAt (wpAny_pure (wpAny_evalAll_nil h₃)))) fun _ _ x => x)
/-- a lambda of law's -/
theorem e_lam {params : Arguments} {body : Expr} {scope : Scope} {pos : Pos} {cl : List (Str × Addr)} {ps : Array Value} {k : Nat} (G : Gd w h) (e168 : h.get? 168 = some (tabObj ps)) (P : PsLt ps k) (hk : k ≤ pos.line)
    (H : ∀ h' t' q c' pm ct, LeBut 168 h h' → h'.get? 168 = some (tabObj (ps ++ #[rawInt pos.line, rawInt pos.col, .ref c'])) → h.objs.size ≤ q → h.objs.size ≤ c' → h'.get? q = some (kla_obj "<lambda>" (env.qual ++ "<lambda>") params body scope cl pm c' ct) → h'.CodeRec (.ref c') (env.qual ++ "<lambda>") → Q (.ref q) ⟨h', g, d, t', os⟩)
    (hdef : defaultsOf params env = ([], []) := by rfl) (hcl : closureFor scope env = pure cl := by rfl) (hg : env.globals = mainGlobals := by rfl) (hc : env.code = .ref 170 := by rfl) : wpAny M A (eval (.Lambda params body scope pos) env) Q E ⟨h, g, d, t, os⟩ := by
  refine kla_eval hdef (kla_makeFunction (s := ⟨h, g, d, t, os⟩) (mg := nsFind (tbl w mainGlobals)) hcl hg G.g hc (chd170 G) e168 P.1 (P.2 pos hk) (by decide) (bat G 168 (by decide)) ?_)
  intro c' ctv h' tk' hx hge hlt hrec htb
  have hge : h.objs.size ≤ c' := hge
  have hsz : h.objs.size ≤ h'.objs.size := Nat.le_of_lt (Nat.lt_of_le_of_lt hge hlt)
  have lex : LeBut 168 h h' := fun b o hb e => hx b o hb e
  exact H _ _ _ c' _ ctv (fun b o hb e => Heap.get?_push_of_some _ (lex b o hb e)) (Heap.get?_push_of_some _ htb) hsz hge (Heap.get?_push_size _ rfl) (hrec.keeps fun b o e => Heap.get?_push_of_some _ e)
/-- sorted(range(len(names)), key=lambda n: ..) -/
theorem e_sortK {b : Heap} {L cn nl : Addr} {oN : Obj} {m : Loc} {ns : List (Addr × Obj)} {N kk : Nat} {nvs : List Value} {key : Nat → List Int} {params : Arguments} {body : Expr} {scope : Scope} {pl pk pos p1 p2 p3 p4 p5 p6 : Pos} {cl : List (Str × Addr)} {ps : Array Value}
    (O : Ord (fun i j => ltL (key i) (key j)) N) (h2 : 2 ≤ N) (h64 : N < 64) (G : Gd w b) (eN : b.get? cn = some oN) (dN : oN.data = .cell (some (.ref nl))) (hnl : b.IsList nl nvs.toArray) (hnz : nvs.length = N) (P : PsLt ps kk) (hkk : kk ≤ pl.line) (S : Sx b L m ((168, tabObj ps) :: ns) h)
    (K : ∀ b' q c' pm ct, Le b b' → b'.get? q = some (kla_obj "<lambda>" (env.qual ++ "<lambda>") params body scope cl pm c' ct) → b'.CodeRec (.ref c') (env.qual ++ "<lambda>") → ∀ i, i < N → KeyL prog w (Ar 17 40) b' q i (key i))
    (H : ∀ b' h' t' D vs k c', Le b b' → IntsAre vs ((krun (fun i j => ltL (key i) (key j)) (kas_sort N)).toList.map Int.ofNat) → Sx b' L m ((D, lsO vs k) :: (168, tabObj (ps ++ #[rawInt pl.line, rawInt pl.col, .ref c'])) :: ns) h' → Q (.ref D) ⟨h', g, d, t', os⟩)
    (hk : env.scope.kind = .function := by rfl) (k1 : env.kindOf "sorted" = some .globalImplicit := by rfl) (k2 : env.kindOf "range" = some .globalImplicit := by rfl) (k3 : env.kindOf "len" = some .globalImplicit := by rfl) (k4 : env.kindOf "names" = some .cell := by rfl) (hcn : List.lookup ("names" : Str) env.cells = some cn := by rfl)
    (hdef : defaultsOf params env = ([], []) := by rfl) (hcl : closureFor scope env = pure cl := by rfl) (hg : env.globals = mainGlobals := by rfl) (hb : env.builtins = builtinsNs := by rfl) (hc : env.code = .ref 170 := by rfl) :
    wpAny (model prog w) (Ar 15 35) (eval (.Call (.Name "sorted" p1) [.Call (.Name "range" p2) [.Call (.Name "len" p3) [.Name "names" p4] [] p5] [] p6] [⟨some "key", .Lambda params body scope pl, pk⟩] pos) env) Q E ⟨h, g, d, t, os⟩ := by
  have Gh := G.mono S.keep
  refine e_callBK <| n_bit Gh (gn_sorted w) (bi_sorted w) (hk := hk) (hx := k1) (hg := hg) (hb := hb) (h := ⟨rfl, a_cons <| e_callT <| n_bit Gh (gn_range w) (bi_range w) (hk := hk) (hx := k2) (hg := hg) (hb := hb) (h := ⟨rfl, a_cons <| e_callB <| n_bit Gh (gn_len w) (bi_len w) (hk := hk) (hx := k3) (hg := hg) (hb := hb) (h := ⟨rfl, a_cons <| n_cell hcn (S.keep _ _ eN) dN (hk := hk) (hx := k4) (h := a_nil <| b_len' (n := N) (isl hnl S.keep) hnz (by omega) fun u1 t1 => a_nil <| b_range fun v1 v2 t2 => a_nil ?_)⟩)⟩)⟩)
  have S := S.alloc { cls := .type "range", data := .fields #[.int 0 v1, .int N u1, .int 1 v2] }
  generalize h.objs.size = r at S ⊢
  show wpAny _ _ (eval _ _) _ _ ⟨h.push { cls := .type "range", data := .fields #[.int 0 v1, .int N u1, .int 1 v2] }, _, _, _, _⟩
  generalize h.push { cls := .type "range", data := .fields #[.int 0 v1, .int N u1, .int 1 v2] } = h1 at S ⊢
  obtain ⟨b1, l1, _, er, S⟩ := S.settle
  refine e_lam (cl := cl) (G.mono (l1.trans S.keep)) (S.new _ (.head _)).1 P hkk (fun h3 t3 q c' pm ct le et hq hc eq cr => ?_) hdef hcl hg hc
  obtain ⟨b2, l2, l3, nw, S⟩ := S.fresh1 le et
  have eq2 := nw _ _ eq hq
  have cr2 : b2.CodeRec (.ref c') (env.qual ++ "<lambda>") := by
    obtain ⟨c3, oc, vs, tq, e1, e2, e3, e4⟩ := cr
    cases e1
    exact ⟨_, oc, vs, tq, rfl, nw _ _ e2 hc, e3, e4⟩
  refine ar_le (sorted_spec (key := key) O h2 h64 S (S.keep _ _ (l2 _ _ er)) (K b2 q c' pm ct (l1.trans l2) eq2 cr2) fun b3 h4 t4 D vs k l4 hv S => ?_) rfl (by decide) (by decide)
  exact H b3 _ _ D vs k c' (l1.trans (l2.trans l4)) hv S
end
end Mine
end
section
open PySem PySem.W PyProof.Rows PySem.Spec PySem.Calls
namespace Mine
theorem ints_app {vs us : List Value} {ns ms : List Int} (h1 : IntsAre vs ns) (h2 : IntsAre us ms) : IntsAre (vs ++ us) (ns ++ ms) := by
  induction h1 with
  | nil => exact h2
  | cons n t _ ih => exact .cons n t ih
/-- the lambda in law's k-th statement -/
noncomputable def lamOf (w : World) (k : Nat) : Option Expr := match (lawB w)[k]? with
  | some (.If (.Compare _ _ [.Call _ _ [⟨_, e, _⟩] _] _) _ _ _) => some e
  | _ => none
section
variable {prog : Program} {w : World} {b : Heap} {L q c' ol zl : Addr} {pm ct : Value} {qual : Str} {params : Arguments} {body : Expr} {scope : Scope} {pl : Pos} {oa za : Nat → Addr} {N : Nat} {a z : CF}
theorem lkey1 (e : lamOf w 14 = some (.Lambda params body scope pl)) (G : Gd w b) (cO : CellAt b (L + 7) (.ref ol)) (cZ : CellAt b (L + 8) (.ref zl)) (hol : b.IsList ol (rfs oa (List.range N)).toArray) (hzl : b.IsList zl (rfs za (List.range N)).toArray) (C1 : ∀ j, j < N → CodeOK b (oa j) (a j)) (C2 : ∀ j, j < N → CodeOK b (za j) (z j))
    (hN : N ≤ 10) (ha : ∀ i, (a i).length < 100) (hz : ∀ i, (z i).length < 100) (eq : b.get? q = some (kla_obj "<lambda>" qual params body scope [("two", L + 8), ("one", L + 7)] pm c' ct)) (cr : b.CodeRec (.ref c') qual) : ∀ i, i < N → KeyL prog w (Ar 17 40) b q i (keyOf a z s1 i) := by
  have e8 : lamOf w 14 = some _ := rfl
  rw [e8] at e
  cases e
  obtain ⟨oO, eO, dO⟩ := cO
  obtain ⟨oZ, eZ, dZ⟩ := cZ
  intro i hi u h g d t os Q E le H
  obtain ⟨v1, k1, e1, i1⟩ := C1 i hi
  obtain ⟨v2, k2, e2, i2⟩ := C2 i hi
  have hl1 : v1.length < 100 := by rw [ints_len i1]; exact ha i
  have hl2 : v2.length < 100 := by rw [ints_len i2]; exact hz i
  refine enterE (binds := [("n", .int (i : Nat) u)]) (le _ _ eq) rfl (G.mono le).c (cr.keeps le) (by decide) rfl (BindsTo.of_eq rfl) (nocell rfl) (locs rfl) ?_ rfl rfl rfl
  intro L1 h1 t1 S
  have lh := le.trans S.keep
  refine e_bin <| e_bin <| e_sub <| n_free (c := L + 7) rfl (lh _ _ eO) dO <| n_loc S rfl <| i_list' (isl hol lh) (by simp; omega) (rf_get hi) <| ?_
  refine e_sub <| n_free (c := L + 8) rfl (lh _ _ eZ) dZ <| n_loc S rfl <| i_list' (isl hzl lh) (by simp; omega) (rf_get hi) <| o_cat (lh _ _ e1) (lh _ _ e2) (by omega) ?_
  have hi2 : IntsAre (v1 ++ v2) _ := ints_app i1 i2
  have hl3 : (v1 ++ v2).length < 200 := by rw [List.length_append]; omega
  generalize v1 ++ v2 = v3 at hi2 hl3 ⊢
  have S := S.alloc (lsO v3 0)
  show wpAny _ _ (eval _ _) _ _ ⟨h1.push (lsO v3 0), _, _, _, _⟩
  generalize h1.objs.size = p3 at S ⊢
  generalize h1.push (lsO v3 0) = h3 at S ⊢
  obtain ⟨b3, l3, _, e3, S⟩ := S.settle
  refine e_list <| a_cons <| n_loc S rfl <| a_nil ⟨sz rfl, ?_⟩
  have S := S.alloc (lsO [.int ((i : Int)) u] 0)
  show wpAny _ _ (binaryOp _ _ _) _ _ ⟨h3.push (lsO [.int ((i : Int)) u] 0), _, _, _, _⟩
  generalize h3.objs.size = p4 at S ⊢
  generalize h3.push (lsO [.int ((i : Int)) u] 0) = h4 at S ⊢
  obtain ⟨b4, l4, _, e4, S⟩ := S.settle
  refine o_cat (S.keep _ _ (l4 _ _ e3)) (S.keep _ _ e4) (by simp; omega) ?_
  have S := S.alloc (lsO (v3 ++ [.int ((i : Int)) u]) 0)
  exact H _ _ _ _ _ ((l3.trans l4).trans S.keep) ((l3.trans l4).none (S.new _ (.head _)).2.2) (S.new _ (.head _)).1 (ints_app hi2 (.cons _ _ .nil))
theorem lkey2 (e : lamOf w 15 = some (.Lambda params body scope pl)) (G : Gd w b) (cO : CellAt b (L + 7) (.ref ol)) (cZ : CellAt b (L + 8) (.ref zl)) (hol : b.IsList ol (rfs oa (List.range N)).toArray) (hzl : b.IsList zl (rfs za (List.range N)).toArray) (C1 : ∀ j, j < N → CodeOK b (oa j) (a j)) (C2 : ∀ j, j < N → CodeOK b (za j) (z j))
    (hN : N ≤ 10) (ha : ∀ i, (a i).length < 100) (hz : ∀ i, (z i).length < 100) (eq : b.get? q = some (kla_obj "<lambda>" qual params body scope [("two", L + 8), ("one", L + 7)] pm c' ct)) (cr : b.CodeRec (.ref c') qual) : ∀ i, i < N → KeyL prog w (Ar 17 40) b q i (keyOf z a s1 i) := by
  have e8 : lamOf w 15 = some _ := rfl
  rw [e8] at e
  cases e
  obtain ⟨oO, eO, dO⟩ := cO
  obtain ⟨oZ, eZ, dZ⟩ := cZ
  intro i hi u h g d t os Q E le H
  obtain ⟨v1, k1, e1, i1⟩ := C1 i hi
  obtain ⟨v2, k2, e2, i2⟩ := C2 i hi
  have hl1 : v1.length < 100 := by rw [ints_len i1]; exact ha i
  have hl2 : v2.length < 100 := by rw [ints_len i2]; exact hz i
  refine enterE (binds := [("n", .int (i : Nat) u)]) (le _ _ eq) rfl (G.mono le).c (cr.keeps le) (by decide) rfl (BindsTo.of_eq rfl) (nocell rfl) (locs rfl) ?_ rfl rfl rfl
  intro L1 h1 t1 S
  have lh := le.trans S.keep
  refine e_bin <| e_bin <| e_sub <| n_free (c := L + 8) rfl (lh _ _ eZ) dZ <| n_loc S rfl <| i_list' (isl hzl lh) (by simp; omega) (rf_get hi) <| ?_
  refine e_sub <| n_free (c := L + 7) rfl (lh _ _ eO) dO <| n_loc S rfl <| i_list' (isl hol lh) (by simp; omega) (rf_get hi) <| o_cat (lh _ _ e2) (lh _ _ e1) (by omega) ?_
  have hi2 : IntsAre (v2 ++ v1) _ := ints_app i2 i1
  have hl3 : (v2 ++ v1).length < 200 := by rw [List.length_append]; omega
  generalize v2 ++ v1 = v3 at hi2 hl3 ⊢
  have S := S.alloc (lsO v3 0)
  show wpAny _ _ (eval _ _) _ _ ⟨h1.push (lsO v3 0), _, _, _, _⟩
  generalize h1.objs.size = p3 at S ⊢
  generalize h1.push (lsO v3 0) = h3 at S ⊢
  obtain ⟨b3, l3, _, e3, S⟩ := S.settle
  refine e_list <| a_cons <| n_loc S rfl <| a_nil ⟨sz rfl, ?_⟩
  have S := S.alloc (lsO [.int ((i : Int)) u] 0)
  show wpAny _ _ (binaryOp _ _ _) _ _ ⟨h3.push (lsO [.int ((i : Int)) u] 0), _, _, _, _⟩
  generalize h3.objs.size = p4 at S ⊢
  generalize h3.push (lsO [.int ((i : Int)) u] 0) = h4 at S ⊢
  obtain ⟨b4, l4, _, e4, S⟩ := S.settle
  refine o_cat (S.keep _ _ (l4 _ _ e3)) (S.keep _ _ e4) (by simp; omega) ?_
  have S := S.alloc (lsO (v3 ++ [.int ((i : Int)) u]) 0)
  exact H _ _ _ _ _ ((l3.trans l4).trans S.keep) ((l3.trans l4).none (S.new _ (.head _)).2.2) (S.new _ (.head _)).1 (ints_app hi2 (.cons _ _ .nil))
theorem lkey3 (e : lamOf w 18 = some (.Lambda params body scope pl)) (G : Gd w b) (cO : CellAt b (L + 7) (.ref ol)) (cZ : CellAt b (L + 8) (.ref zl)) (hol : b.IsList ol (rfs oa (List.range N)).toArray) (hzl : b.IsList zl (rfs za (List.range N)).toArray) (C1 : ∀ j, j < N → CodeOK b (oa j) (a j)) (C2 : ∀ j, j < N → CodeOK b (za j) (z j))
    (hN : N ≤ 10) (ha : ∀ i, (a i).length < 100) (hz : ∀ i, (z i).length < 100) (eq : b.get? q = some (kla_obj "<lambda>" qual params body scope [("two", L + 8), ("one", L + 7)] pm c' ct)) (cr : b.CodeRec (.ref c') qual) : ∀ i, i < N → KeyL prog w (Ar 17 40) b q i (keyOf a (ngC z) s1 i) := by
  have e8 : lamOf w 18 = some _ := rfl
  rw [e8] at e
  cases e
  obtain ⟨oO, eO, dO⟩ := cO
  obtain ⟨oZ, eZ, dZ⟩ := cZ
  intro i hi u h g d t os Q E le H
  obtain ⟨v1, k1, e1, i1⟩ := C1 i hi
  obtain ⟨v2, k2, e2, i2⟩ := C2 i hi
  have hl1 : v1.length < 100 := by rw [ints_len i1]; exact ha i
  have hl2 : v2.length < 100 := by rw [ints_len i2]; exact hz i
  refine enterE (binds := [("n", .int (i : Nat) u)]) (le _ _ eq) rfl (G.mono le).c (cr.keeps le) (by decide) rfl (BindsTo.of_eq rfl) (nocell rfl) (locs rfl) ?_ rfl rfl rfl
  intro L1 h1 t1 S
  have lh := le.trans S.keep
  refine e_bin <| e_bin <| e_sub <| n_free (c := L + 7) rfl (lh _ _ eO) dO <| n_loc S rfl <| i_list' (isl hol lh) (by simp; omega) (rf_get hi) <| ?_
  have Gh := G.mono lh
  refine e_callF <| n_glb Gh (gl_turned w) ⟨161, rfl, a_cons <| e_sub <| n_free (c := L + 8) rfl (lh _ _ eZ) dZ <| n_loc S rfl <| i_list' (isl hzl lh) (by simp; omega) (rf_get hi) <| a_nil ⟨⟨_, _, Gh 161 _ rfl (by decide), rfl⟩, ar_le (turned_spec Gh ⟨_, lh _ _ e2, rfl, _, rfl⟩ i2 (by rw [← ints_len i2]; omega) fun h2 t2 tc vt kt le2 _ et it => ?_) rfl (by decide) (by decide)⟩⟩
  have S := S.keeps le2
  have lh := lh.trans le2
  have hlt : vt.length < 100 := by rw [ints_len it, List.length_map, ← ints_len i2]; omega
  refine o_cat (lh _ _ e1) et (by omega) ?_
  have hi2 : IntsAre (v1 ++ vt) _ := ints_app i1 it
  have hl3 : (v1 ++ vt).length < 200 := by rw [List.length_append]; omega
  generalize v1 ++ vt = v3 at hi2 hl3 ⊢
  have S := S.alloc (lsO v3 0)
  show wpAny _ _ (eval _ _) _ _ ⟨h2.push (lsO v3 0), _, _, _, _⟩
  generalize h2.objs.size = p3 at S ⊢
  generalize h2.push (lsO v3 0) = h3 at S ⊢
  obtain ⟨b3, l3, _, e3, S⟩ := S.settle
  refine e_list <| a_cons <| n_loc S rfl <| a_nil ⟨sz rfl, ?_⟩
  have S := S.alloc (lsO [.int ((i : Int)) u] 0)
  show wpAny _ _ (binaryOp _ _ _) _ _ ⟨h3.push (lsO [.int ((i : Int)) u] 0), _, _, _, _⟩
  generalize h3.objs.size = p4 at S ⊢
  generalize h3.push (lsO [.int ((i : Int)) u] 0) = h4 at S ⊢
  obtain ⟨b4, l4, _, e4, S⟩ := S.settle
  refine o_cat (S.keep _ _ (l4 _ _ e3)) (S.keep _ _ e4) (by simp; omega) ?_
  have S := S.alloc (lsO (v3 ++ [.int ((i : Int)) u]) 0)
  exact H _ _ _ _ _ ((l3.trans l4).trans S.keep) ((l3.trans l4).none (S.new _ (.head _)).2.2) (S.new _ (.head _)).1 (ints_app hi2 (.cons _ _ .nil))
theorem lkey4 (e : lamOf w 19 = some (.Lambda params body scope pl)) (G : Gd w b) (cO : CellAt b (L + 7) (.ref ol)) (cZ : CellAt b (L + 8) (.ref zl)) (hol : b.IsList ol (rfs oa (List.range N)).toArray) (hzl : b.IsList zl (rfs za (List.range N)).toArray) (C1 : ∀ j, j < N → CodeOK b (oa j) (a j)) (C2 : ∀ j, j < N → CodeOK b (za j) (z j))
    (hN : N ≤ 10) (ha : ∀ i, (a i).length < 100) (hz : ∀ i, (z i).length < 100) (eq : b.get? q = some (kla_obj "<lambda>" qual params body scope [("two", L + 8), ("one", L + 7)] pm c' ct)) (cr : b.CodeRec (.ref c') qual) : ∀ i, i < N → KeyL prog w (Ar 17 40) b q i (keyOf z (ngC a) s2 i) := by
  have e8 : lamOf w 19 = some _ := rfl
  rw [e8] at e
  cases e
  obtain ⟨oO, eO, dO⟩ := cO
  obtain ⟨oZ, eZ, dZ⟩ := cZ
  intro i hi u h g d t os Q E le H
  obtain ⟨v1, k1, e1, i1⟩ := C1 i hi
  obtain ⟨v2, k2, e2, i2⟩ := C2 i hi
  have hl1 : v1.length < 100 := by rw [ints_len i1]; exact ha i
  have hl2 : v2.length < 100 := by rw [ints_len i2]; exact hz i
  refine enterE (binds := [("n", .int (i : Nat) u)]) (le _ _ eq) rfl (G.mono le).c (cr.keeps le) (by decide) rfl (BindsTo.of_eq rfl) (nocell rfl) (locs rfl) ?_ rfl rfl rfl
  intro L1 h1 t1 S
  have lh := le.trans S.keep
  refine e_bin <| e_bin <| e_sub <| n_free (c := L + 8) rfl (lh _ _ eZ) dZ <| n_loc S rfl <| i_list' (isl hzl lh) (by simp; omega) (rf_get hi) <| ?_
  have Gh := G.mono lh
  refine e_callF <| n_glb Gh (gl_turned w) ⟨161, rfl, a_cons <| e_sub <| n_free (c := L + 7) rfl (lh _ _ eO) dO <| n_loc S rfl <| i_list' (isl hol lh) (by simp; omega) (rf_get hi) <| a_nil ⟨⟨_, _, Gh 161 _ rfl (by decide), rfl⟩, ar_le (turned_spec Gh ⟨_, lh _ _ e1, rfl, _, rfl⟩ i1 (by rw [← ints_len i1]; omega) fun h2 t2 tc vt kt le2 _ et it => ?_) rfl (by decide) (by decide)⟩⟩
  have S := S.keeps le2
  have lh := lh.trans le2
  have hlt : vt.length < 100 := by rw [ints_len it, List.length_map, ← ints_len i1]; omega
  refine o_cat (lh _ _ e2) et (by omega) ?_
  have hi2 : IntsAre (v2 ++ vt) _ := ints_app i2 it
  have hl3 : (v2 ++ vt).length < 200 := by rw [List.length_append]; omega
  generalize v2 ++ vt = v3 at hi2 hl3 ⊢
  have S := S.alloc (lsO v3 0)
  show wpAny _ _ (eval _ _) _ _ ⟨h2.push (lsO v3 0), _, _, _, _⟩
  generalize h2.objs.size = p3 at S ⊢
  generalize h2.push (lsO v3 0) = h3 at S ⊢
  obtain ⟨b3, l3, _, e3, S⟩ := S.settle
  refine e_list <| a_cons <| e_neg <| n_loc S rfl <| o_neg fun un tn => a_nil ⟨sz rfl, ?_⟩
  have S := S.alloc (lsO [.int (-(i : Int)) un] 0)
  show wpAny _ _ (binaryOp _ _ _) _ _ ⟨h3.push (lsO [.int (-(i : Int)) un] 0), _, _, _, _⟩
  generalize h3.objs.size = p4 at S ⊢
  generalize h3.push (lsO [.int (-(i : Int)) un] 0) = h4 at S ⊢
  obtain ⟨b4, l4, _, e4, S⟩ := S.settle
  refine o_cat (S.keep _ _ (l4 _ _ e3)) (S.keep _ _ e4) (by simp; omega) ?_
  have S := S.alloc (lsO (v3 ++ [.int (-(i : Int)) un]) 0)
  exact H _ _ _ _ _ ((l3.trans l4).trans S.keep) ((l3.trans l4).none (S.new _ (.head _)).2.2) (S.new _ (.head _)).1 (ints_app hi2 (.cons _ _ .nil))
end
end Mine
end
section
open PySem PySem.W PyProof.Rows PySem.Spec PySem.Calls
namespace Mine
theorem Sx.ex2 {b b' h h' : Heap} {L : Addr} {m : Loc} {ns : List (Addr × Obj)} {a c : Addr} {oa oc oa' oc' : Obj} (S : Sx b L m ((a, oa) :: (c, oc) :: ns) h) (x : Ex b ((h.hide c).hide a) b' h') (ea : h'.get? a = some oa') (na : b'.get? a = none) (ec : h'.get? c = some oc') (nc : b'.get? c = none) : Sx b' L m ((a, oa') :: (c, oc') :: ns) h' := by
  have nd := List.nodup_cons.mp S.nod
  have nd2 := List.nodup_cons.mp nd.2
  have Za := S.new (a, oa) (.head _)
  have Zc := S.new (c, oc) (.tail _ (.head _))
  obtain ⟨f, hn, hf⟩ := S.loc
  have hn' := hn
  obtain ⟨oL, es, k, eL, r⟩ := hn
  have gL : ∀ oL, h.get? L = some oL → h'.get? L = some oL ∧ b'.get? L = none := fun oL e => x.2.2 L oL (by rw [Heap.hide_ne _ (Ne.symm Za.2.1), Heap.hide_ne _ (Ne.symm Zc.2.1)]; exact e) S.off
  refine ⟨⟨f, hn'.at' fun o' e' => (gL o' e').1, hf⟩, x.2.1, (gL _ eL).2, fun p hp => ?_, S.nod⟩
  rcases List.mem_cons.mp hp with rfl | hp
  · exact ⟨ea, Za.2.1, na⟩
  · rcases List.mem_cons.mp hp with rfl | hp
    · exact ⟨ec, Zc.2.1, nc⟩
    · have P := S.new p (.tail _ (.tail _ hp))
      have ne1 : p.1 ≠ a := fun q => nd.1 (List.mem_map.mpr ⟨p, .tail _ hp, q⟩)
      have ne2 : p.1 ≠ c := fun q => nd2.1 (List.mem_map.mpr ⟨p, hp, q⟩)
      have Z := x.2.2 p.1 p.2 (by rw [Heap.hide_ne _ ne1, Heap.hide_ne _ ne2]; exact P.1) P.2.2
      exact ⟨Z.1, P.2.1, Z.2⟩
section
variable {prog : Program} {w : World} {h b : Heap} {g : Array GenState} {d : Drawn} {t : Nat} {os : OsState} {Q : Flow → Shared → Prop} {E : Value → Shared → Prop} {L : Addr} {tg tk : Obj} {m : Loc} {ps : Array Value}
theorem law5 {N : Nat} {xs : Nat → Co} {self sels : List (Nat × Int)} {nl rl fl sl ol zl a1 a2 : Addr} {nvs vf vs : List Value} {nf ns : Nat} {ra oa za : Nat → Addr} {o1 : Obj} {k1 : List (Int × Value)} (GX : GenOK prog w) (hG : AllBare g) (hN : N ≤ 10) (h2 : 2 ≤ N) (hxs : ∀ j, (xs j).In)
    (hf5 : ∀ p ∈ self, p.1 < 5) (hs5 : ∀ p ∈ sels, p.1 < 5) (hfn : ∀ p ∈ self, p.2 ≠ 0) (hsn : ∀ p ∈ sels, p.2 ≠ 0) (hfl : self.length < 100) (hsl : sels.length < 100) (G : Gd w b) (cN : CellAt b (L + 2) (.ref nl)) (hnl : b.IsList nl (List.toArray nvs)) (hnz : nvs.length = N)
    (hrl : b.IsList rl (rfs ra (List.range N)).toArray) (rows : ∀ j, j < N → RowOK b (ra j) (xs j) j) (cF : CellAt b (L + 4) (.ref fl)) (cS : CellAt b (L + 5) (.ref sl)) (ef : b.get? fl = some (lsO vf nf)) (Sf : SelAt b fl self) (es : b.get? sl = some (lsO vs ns)) (Ss : SelAt b sl sels)
    (cO : CellAt b (L + 7) (.ref ol)) (cZ : CellAt b (L + 8) (.ref zl)) (cA : CellAt b (L + 6) (.ref a1)) (hol : b.IsList ol (rfs oa (List.range N)).toArray) (hzl : b.IsList zl (rfs za (List.range N)).toArray) (C1 : ∀ j, j < N → CodeOK b (oa j) (cd xs self j)) (C2 : ∀ j, j < N → CodeOK b (za j) (cd xs sels j))
    (e1 : b.get? a1 = some o1) (D1 : DO prog w o1 k1) (n1 : (a1 == sysModules) = false) (B1 : BkAt false b k1 (apF (cd xs self) (cd xs sels) N N)) (z1 : k1.length ≤ N) (TG : TabG b tg) (TK : TabB b tk) (P : PsLt ps 226) (S : Sx b L [("along", .ref a2), ("rows", .ref rl)] (cls9 tg tk (tabObj ps)) h)
    (H : ∀ b' g' h' t' tg' tk' ps', AllBare g' → Le b b' → TabG b' tg' → TabB b' tk' → PsLt ps' 229 → Sx b' L [("along", .ref a2), ("rows", .ref rl)] (cls9 tg' tk' (tabObj ps')) h' → wpAny (model prog w) (Ar 15 35) (execs ((lawB w).drop 17) (lawE w L)) Q E ⟨h', g', d, t', os⟩) :
    wpAny (model prog w) (Ar 15 35) (execs ((lawB w).drop 13) (lawE w L)) Q E ⟨h, g, d, t, os⟩ := by
  have hca : ∀ i, (cd xs self i).length < 100 := fun i => by rw [cd_len]; exact hfl
  have hcz : ∀ i, (cd xs sels i).length < 100 := fun i => by rw [cd_len]; exact hsl
  obtain ⟨oF, eF, dF⟩ := id cF
  obtain ⟨oS, eS, dS⟩ := id cS
  obtain ⟨oN, eN, dN⟩ := id cN
  obtain ⟨oA, eA, dA⟩ := id cA
  unfold lawE
  conv in (List.drop 13 (lawB w)) => whnf
  conv in (fdAt w 171) => whnf
  have Gh := G.mono S.keep
  have Z1 := S.new (101, tg) (.head _)
  have Z2 := S.new (136, tk) (.tail _ (.head _))
  -- line, kept, books
  refine x_setT <| e_callF <| n_glb Gh (gl_against w) ⟨151, rfl, a_cons <| n_loc S rfl <| a_cons <| n_cell rfl (S.keep _ _ eF) dF <| a_cons <| n_cell rfl (S.keep _ _ eS) dS <| a_nil ⟨⟨_, _, Gh 151 _ rfl (by decide), rfl⟩, ar_le (against_spec GX hG hN G S.keep Z2.1 Z2.2.2 TK Z1.1 Z1.2.2 TG hrl rows ef Sf es Ss hf5 hs5 hfl hsl ?_) rfl (by decide) (by decide)⟩⟩
  clear Z1 Z2 Gh
  intro b2 g2 h2' t2 tk2 tg2 r ll kl bd v1 i1 v2 i2 oB kvs hG2 x e136 n136 TK2 e101 n101 TG2 er el iv1 ek iv2 eB DB nB BB zB
  have S := S.ex2 x e101 n101 e136 n136
  have lb : Le b b2 := x.1
  clear x
  have eBB : (keepR sels xs (lineR (self ++ sels) xs (List.range N) []) ([], fun _ => none)).2 = apF (cd xs self) (cd xs sels) N N := funext fun k => P3 hfn hsn k
  rw [eBB] at BB
  have G2 := G.mono lb
  have eN := lb _ _ eN
  have hnl := isl hnl lb
  have cO := cO.mono lb
  have cZ := cZ.mono lb
  have hol := isl hol lb
  have hzl := isl hzl lb
  have C1 : ∀ j, j < N → CodeOK b2 (oa j) (cd xs self j) := fun j hj => (C1 j hj).mono lb
  have C2 : ∀ j, j < N → CodeOK b2 (za j) (cd xs sels j) := fun j hj => (C2 j hj).mono lb
  have eA := lb _ _ eA
  have e1 := lb _ _ e1
  have B1 := B1.mono lb
  refine ast rfl (tpT (S.keep _ _ er)) S fun h3 S _ => ao_cons <| as1 S fun h4 t4 S => ao_cons <| as1 S fun h5 t5 S => ao_cons <| as1 S fun h6 t6 S => ao_nil ?_
  have S := S.r3
  have hll : b2.IsList ll v1.toArray := ⟨_, el, rfl, _, rfl⟩
  have hkl : b2.IsList kl v2.toArray := ⟨_, ek, rfl, _, rfl⟩
  -- if line != ..
  refine x_if <| t_cmp <| n_loc S rfl <| e_sortK (key := keyOf (cd xs self) (cd xs sels) s1) (keyOf_ord (fun _ _ => sI) N) h2 (by omega) G2 eN dN hnl hnz P (Nat.le_of_ble_eq_true rfl) S (fun b' q c' pm ct le eq cr => lkey1 rfl (G2.mono le) (cO.mono le) (cZ.mono le) (isl hol le) (isl hzl le) (fun j hj => (C1 j hj).mono le) (fun j hj => (C2 j hj).mono le) hN hca hcz eq cr) fun b3 h7 t7 D us k c' l3 hu S => ?_
  have e : (krun (fun i j => ltL (keyOf (cd xs self) (cd xs sels) s1 i) (keyOf (cd xs self) (cd xs sels) s1 j)) (kas_sort N)).toList = line1 xs self sels N := P1 hfn hsn (by omega)
  rw [e] at hu
  refine o_neI (isl hll (l3.trans S.keep)) ⟨_, (S.new _ (.head _)).1, rfl, _, rfl⟩ iv1 hu (by decide) ⟨_, rfl, (fun hb => by simp at hb), fun _ => ?_⟩
  clear e hu
  have P2' := P.snoc (l := 226) (c := 45) (v := .ref c') (Nat.le_refl _)
  have S := S.tl
  -- if kept != ..
  refine x_if <| t_cmp <| n_loc S rfl <| e_sortK (key := keyOf (cd xs sels) (cd xs self) s1) (keyOf_ord (fun _ _ => sI) N) h2 (by omega) (G2.mono l3) (l3 _ _ eN) dN (isl hnl l3) hnz P2' (Nat.le_of_ble_eq_true rfl) S (fun b' q c' pm ct le eq cr => lkey2 rfl ((G2.mono l3).mono le) ((cO.mono l3).mono le) ((cZ.mono l3).mono le) (isl (isl hol l3) le) (isl (isl hzl l3) le) (fun j hj => ((C1 j hj).mono l3).mono le) (fun j hj => ((C2 j hj).mono l3).mono le) hN hca hcz eq cr) fun b4 h8 t8 D us k c2' l4 hu S => ?_
  have e : (krun (fun i j => ltL (keyOf (cd xs sels) (cd xs self) s1 i) (keyOf (cd xs sels) (cd xs self) s1 j)) (kas_sort N)).toList = (keepR sels xs (line1 xs self sels N) ([], fun _ => none)).1 := P2 hfn hsn (by omega)
  rw [e] at hu
  have l24 := l3.trans l4
  refine o_neI (isl hkl (l24.trans S.keep)) ⟨_, (S.new _ (.head _)).1, rfl, _, rfl⟩ iv2 hu (by decide) ⟨_, rfl, (fun hb => by simp at hb), fun _ => ?_⟩
  clear e hu
  have P3' := P2'.snoc (l := 228) (c := 45) (v := .ref c2') (Nat.le_succ _)
  have S := S.tl.r3'
  have lb4 := lb.trans l24
  have G4 := G2.mono l24
  have eB := l24 _ _ eB
  have e1 := l24 _ _ e1
  have eA := l24 _ _ eA
  have BB := BB.mono l24
  have B1 := B1.mono l24
  have TG2 := TG2.mono l24
  have TK2 := TK2.mono l24
  have nk : (kvs.map (·.1)).Nodup := let ⟨_, _, _, _, hr⟩ := DB; hr.2.2
  have nk1 : (k1.map (·.1)).Nodup := let ⟨_, _, _, _, hr⟩ := D1; hr.2.2
  have pm := BB.keys B1 nk nk1
  generalize hf : apF (cd xs self) (cd xs sels) N N = f at BB B1
  -- if books != apart or ..
  refine x_if <| isTrue_or <| t_cmp <| n_loc S rfl <| n_cell rfl (S.keep _ _ eA) dA <| o_neD (G4.mono S.keep).nb nB n1 (S.keep _ _ eB) (S.keep _ _ e1) DB D1 S.keep BB B1 (fun q => by cases q) (by decide) ⟨_, rfl, ?_⟩
  refine Eq.mpr (if_neg Bool.false_ne_true) ?_
  have Gh := G4.mono S.keep
  refine isTrue_or <| t_cmp <| e_callF <| n_glb Gh (gl_count w) ⟨113, rfl, a_cons <| n_loc S rfl <| a_nil ⟨⟨_, _, Gh 113 _ rfl (by decide), rfl⟩, ar_le (count_spec Gh (S.keep _ _ eB) DB nB ((kvs.map (·.1)).map (numB f)) ⟨by simp, fun i k v hi => ?_⟩ fun h9 t9 u9 le => ?_) rfl (by decide) (by decide)⟩⟩
  · obtain ⟨u, rfl⟩ := num_at BB nk hi
    exact ⟨_, u, by rw [List.getElem?_map, List.getElem?_map, hi]; rfl, rfl⟩
  have S := S.keeps le
  clear le Gh
  have Gh := G4.mono S.keep
  obtain ⟨esA, epA, hexA, hdA, hrA⟩ := id D1
  refine e_callB <| n_bit Gh (gn_sum w) (bi_sum w) ⟨rfl, a_cons <| e_lc0 [("apart", L + 6)] <| n_cell rfl (S.keep _ _ eA) dA <| wpAny_pyIter_dict (s := ⟨h9, g2, d, t9, os⟩) (knd := intKind prog w) n1 (dat (S.keep _ _ e1) D1 hdA) <| lcI S (it_keys rfl e1 D1 hdA) its_keys (fun i b' g' ys => g' = g2 ∧ b' = b4 ∧ IntsAre ys (((k1.map (·.1)).take i).map (numB f))) (by omega) ⟨rfl, rfl⟩ ⟨rfl, rfl, .nil⟩ ?_ ?_⟩
  · rintro C i v b' g' ys m' ns' h10 t10 hi ⟨k, y, uk, hk, rfl⟩ - ⟨rfl, rfl, hJ⟩ - S
    obtain ⟨uv, rfl⟩ := num_at B1 nk1 hk
    refine as1 S fun h11 t11 S => ?_
    rw [List.forIn_nil]
    refine wpAny_pure ⟨fun _ => e_sub <| n_cell rfl (S.keep _ _ eA) dA <| n_loc S rfl <| i_dict (S.keep _ _ e1) D1 (valueAt_of_get nk1 hk) fun t12 => ⟨_, _, _, _, _, rfl, Le.refl _, ⟨rfl, rfl, ?_⟩, S⟩, fun h => by cases h⟩
    have e : (k1.map (·.1)).take (i + 1) = (k1.map (·.1)).take i ++ [k] := by rw [List.take_add_one, List.getElem?_map, hk]; rfl
    rw [e, List.map_append]
    exact ints_snoc hJ _ _
  rintro D b5 g5 ys kd h10 t10 - ⟨rfl, rfl, hJ⟩ S
  have ez : (k1.map (·.1)).take k1.length = k1.map (·.1) := List.take_of_length_le (by simp)
  rw [ez] at hJ
  refine a_nil <| b_sum rfl ⟨_, (S.new _ (.head _)).1, rfl, _, rfl⟩ hJ fun h11 t11 u11 le => ?_
  have S := S.tl.keeps le
  have esum : ((kvs.map (·.1)).map (numB f)).sum = ((k1.map (·.1)).map (numB f)).sum := perm_sum (pm.map _)
  rw [esum]
  refine ne_int ⟨_, rfl, ?_⟩
  have ef2 : (((k1.map (·.1)).map (numB f)).sum != ((k1.map (·.1)).map (numB f)).sum) = false := by simp
  rw [ef2]
  refine Eq.mpr (if_neg Bool.false_ne_true) ?_
  refine isTrue_or_nil ⟨(fun hb => by cases hb), fun _ => ?_⟩
  exact H b5 _ _ _ tg2 tk2 _ hG2 lb4 TG2 TK2 P3' (S.forget (by simp only [List.forall_mem_cons]; exact ⟨rfl, rfl, fun _ hp => nomatch hp⟩))
end
end Mine
end
section
open PySem PySem.W PyProof.Rows PySem.Spec PySem.Calls
namespace Mine
section
variable {prog : Program} {w : World} {h b : Heap} {g : Array GenState} {d : Drawn} {t : Nat} {os : OsState} {Q : Flow → Shared → Prop} {E : Value → Shared → Prop} {L : Addr} {tg tk : Obj} {m : Loc} {ps : Array Value}
theorem law6 {N : Nat} {xs : Nat → Co} {self sels : List (Nat × Int)} {nl rl fl sl ol zl a2 : Addr} {nvs vf vs : List Value} {nf ns : Nat} {ra oa za : Nat → Addr} {o2 : Obj} {k2 : List (Int × Value)} (GX : GenOK prog w) (hG : AllBare g) (hN : N ≤ 10) (h2 : 2 ≤ N) (hxs : ∀ j, (xs j).In)
    (hf5 : ∀ p ∈ self, p.1 < 5) (hs5 : ∀ p ∈ sels, p.1 < 5) (hfn : ∀ p ∈ self, p.2 ≠ 0) (hsn : ∀ p ∈ sels, p.2 ≠ 0) (hfl : self.length < 100) (hsl : sels.length < 100) (G : Gd w b) (cN : CellAt b (L + 2) (.ref nl)) (hnl : b.IsList nl (List.toArray nvs)) (hnz : nvs.length = N)
    (hrl : b.IsList rl (rfs ra (List.range N)).toArray) (rows : ∀ j, j < N → RowOK b (ra j) (xs j) j) (cF : CellAt b (L + 4) (.ref fl)) (cS : CellAt b (L + 5) (.ref sl)) (ef : b.get? fl = some (lsO vf nf)) (Sf : SelAt b fl self) (es : b.get? sl = some (lsO vs ns)) (Ss : SelAt b sl sels)
    (cO : CellAt b (L + 7) (.ref ol)) (cZ : CellAt b (L + 8) (.ref zl)) (hol : b.IsList ol (rfs oa (List.range N)).toArray) (hzl : b.IsList zl (rfs za (List.range N)).toArray) (C1 : ∀ j, j < N → CodeOK b (oa j) (cd xs self j)) (C2 : ∀ j, j < N → CodeOK b (za j) (cd xs sels j))
    (e2 : b.get? a2 = some o2) (D2 : DO prog w o2 k2) (n2 : (a2 == sysModules) = false) (B2 : BkAt true b k2 (alF (cd xs self) (cd xs sels) xs N N)) (TG : TabG b tg) (TK : TabB b tk) (P : PsLt ps 229) (S : Sx b L [("along", .ref a2), ("rows", .ref rl)] (cls9 tg tk (tabObj ps)) h)
    (H : ∀ b' g' h' t' tg' tk' ps' m', AllBare g' → Le b b' → TabG b' tg' → TabB b' tk' → Sx b' L m' (cls9 tg' tk' (tabObj ps')) h' → Q (.ret (.bool true)) ⟨h', g', d, t', os⟩) :
    wpAny (model prog w) (Ar 15 35) (execs ((lawB w).drop 17) (lawE w L)) Q E ⟨h, g, d, t, os⟩ := by
  have hca : ∀ i, (cd xs self i).length < 100 := fun i => by rw [cd_len]; exact hfl
  have hcz : ∀ i, (cd xs sels i).length < 100 := fun i => by rw [cd_len]; exact hsl
  obtain ⟨oF, eF, dF⟩ := id cF
  obtain ⟨oS, eS, dS⟩ := id cS
  obtain ⟨oN, eN, dN⟩ := id cN
  unfold lawE
  conv in (List.drop 17 (lawB w)) => whnf
  conv in (fdAt w 171) => whnf
  have Gh := G.mono S.keep
  have Z1 := S.new (101, tg) (.head _)
  have Z2 := S.new (136, tk) (.tail _ (.head _))
  have h7 := P7 (xs := xs) hfn hsn (N := N) (fun j _ => hxs j) hN
  -- line, kept, books
  refine x_setT <| e_callF <| n_glb Gh (gl_along w) ⟨156, rfl, a_cons <| n_loc S rfl <| a_cons <| n_cell rfl (S.keep _ _ eF) dF <| a_cons <| n_cell rfl (S.keep _ _ eS) dS <| a_nil ⟨⟨_, _, Gh 156 _ rfl (by decide), rfl⟩, ar_le (along_spec GX hG hN G S.keep Z2.1 Z2.2.2 TK Z1.1 Z1.2.2 TG hrl rows ef Sf es Ss hf5 hs5 hfl hsl h7 ?_) rfl (by decide) (by decide)⟩⟩
  clear Z1 Z2 Gh
  intro b2 g2 h2' t2 tk2 tg2 r ll kl bd v1 i1 v2 i2 oB kvs hG2 x e136 n136 TK2 e101 n101 TG2 er el iv1 ek iv2 eB DB nB BB zB
  have S := S.ex2 x e101 n101 e136 n136
  have lb : Le b b2 := x.1
  clear x
  have eBB : (keepL sels xs (line3 xs self sels N) ([], fun _ => none)).2 = alF (cd xs self) (cd xs sels) xs N N := funext fun k => P6 hfn hsn (fun j _ => hxs j) k
  have hb41 : ∀ k x, alF (cd xs self) (cd xs sels) xs N N k = some x → x.2 < 41 := fun k x hx => by
    have hl : (line3 xs self sels N).length ≤ N := by have := (line3_perm (xs := xs) (self := self) (sels := sels) (N := N)).length_eq; simp at this; omega
    refine h7 N (Nat.le_refl _) k x ?_
    rw [List.take_of_length_le hl, eBB]; exact hx
  have eBB' : (keepL sels xs (lineL (self ++ negS sels) xs (List.range N).reverse []) ([], fun _ => none)).2 = alF (cd xs self) (cd xs sels) xs N N := eBB
  rw [eBB'] at BB
  clear eBB eBB' h7
  have G2 := G.mono lb
  have eN := lb _ _ eN
  have hnl := isl hnl lb
  have cO := cO.mono lb
  have cZ := cZ.mono lb
  have hol := isl hol lb
  have hzl := isl hzl lb
  have C1 : ∀ j, j < N → CodeOK b2 (oa j) (cd xs self j) := fun j hj => (C1 j hj).mono lb
  have C2 : ∀ j, j < N → CodeOK b2 (za j) (cd xs sels j) := fun j hj => (C2 j hj).mono lb
  have e2 := lb _ _ e2
  have B2 := B2.mono lb
  refine ast rfl (tpT (S.keep _ _ er)) S fun h3 S _ => ao_cons <| as1 S fun h4 t4 S => ao_cons <| as1 S fun h5 t5 S => ao_cons <| as1 S fun h6 t6 S => ao_nil ?_
  have S := S.r3
  have hll : b2.IsList ll v1.toArray := ⟨_, el, rfl, _, rfl⟩
  have hkl : b2.IsList kl v2.toArray := ⟨_, ek, rfl, _, rfl⟩
  -- if line != ..
  refine x_if <| t_cmp <| n_loc S rfl <| e_sortK (key := keyOf (cd xs self) (ngC (cd xs sels)) s1) (keyOf_ord (fun _ _ => sI) N) h2 (by omega) G2 eN dN hnl hnz P (Nat.le_of_ble_eq_true rfl) S (fun b' q c' pm ct le eq cr => lkey3 rfl (G2.mono le) (cO.mono le) (cZ.mono le) (isl hol le) (isl hzl le) (fun j hj => (C1 j hj).mono le) (fun j hj => (C2 j hj).mono le) hN hca hcz eq cr) fun b3 h7 t7 D us k c' l3 hu S => ?_
  have e : (krun (fun i j => ltL (keyOf (cd xs self) (ngC (cd xs sels)) s1 i) (keyOf (cd xs self) (ngC (cd xs sels)) s1 j)) (kas_sort N)).toList = line3 xs self sels N := P4 hfn hsn (by omega)
  rw [e] at hu
  refine o_neI (isl hll (l3.trans S.keep)) ⟨_, (S.new _ (.head _)).1, rfl, _, rfl⟩ iv1 hu (by decide) ⟨_, rfl, (fun hb => by simp at hb), fun _ => ?_⟩
  clear e hu
  have P2' := P.snoc (l := 233) (c := 45) (v := .ref c') (Nat.le_of_ble_eq_true rfl)
  have S := S.tl
  -- if kept != ..
  refine x_if <| t_cmp <| n_loc S rfl <| e_sortK (key := keyOf (cd xs sels) (ngC (cd xs self)) s2) (keyOf_ord (fun _ _ => sN) N) h2 (by omega) (G2.mono l3) (l3 _ _ eN) dN (isl hnl l3) hnz P2' (Nat.le_of_ble_eq_true rfl) S (fun b' q c' pm ct le eq cr => lkey4 rfl ((G2.mono l3).mono le) ((cO.mono l3).mono le) ((cZ.mono l3).mono le) (isl (isl hol l3) le) (isl (isl hzl l3) le) (fun j hj => ((C1 j hj).mono l3).mono le) (fun j hj => ((C2 j hj).mono l3).mono le) hN hca hcz eq cr) fun b4 h8 t8 D us k c2' l4 hu S => ?_
  have e : (krun (fun i j => ltL (keyOf (cd xs sels) (ngC (cd xs self)) s2 i) (keyOf (cd xs sels) (ngC (cd xs self)) s2 j)) (kas_sort N)).toList = (keepL sels xs (line3 xs self sels N) ([], fun _ => none)).1 := P5 hfn hsn (by omega)
  rw [e] at hu
  have l24 := l3.trans l4
  refine o_neI (isl hkl (l24.trans S.keep)) ⟨_, (S.new _ (.head _)).1, rfl, _, rfl⟩ iv2 hu (by decide) ⟨_, rfl, (fun hb => by simp at hb), fun _ => ?_⟩
  clear e hu
  have S := S.tl.r3'
  have G4 := G2.mono l24
  -- return books == along
  refine x_ret <| e_cmp <| n_loc S rfl <| n_loc S rfl <| o_eqD (G4.mono S.keep).nb nB n2 (S.keep _ _ (l24 _ _ eB)) (S.keep _ _ (l24 _ _ e2)) DB D2 S.keep (BB.mono l24) (B2.mono l24) (fun _ => hb41) (by decide) ?_
  exact H b4 _ _ _ tg2 tk2 _ _ hG2 (lb.trans l24) (TG2.mono l24) (TK2.mono l24) S
end
end Mine
end
section
open PySem PySem.W PyProof.Rows PySem.Spec PySem.Calls
namespace Mine
theorem selF_z (T : Int) : (selF T).length < 100 := by show 2 < 100; decide
theorem selS_z (T : Int) : (selS T).length < 100 := by show 1 < 100; decide
section
variable {prog : Program} {w : World} {h : Heap} {g : Array GenState} {d : Drawn} {t : Nat} {os : OsState} {Q E : Value → Shared → Prop}
theorem law_spec {l : Addr} {vs : List Value} {ns : List Int} (G : Gd w h) (e101 : h.get? 101 = some (tabObj #[])) (e136 : h.get? 136 = some (tabObj #[])) (e168 : h.get? 168 = some (tabObj #[])) (nl : l ∉ tabs) (hz : ns.length ≤ 63) (hl : h.IsList l vs.toArray) (hv : IntsAre vs ns) (hG : AllBare g)
    (H : ∀ h' g' t', AllBare g' → (∀ a o, a ∉ tabs → h.get? a = some o → h'.get? a = some o) → (∀ a ∈ tabs, ∃ ps, h'.get? a = some (tabObj ps)) → Q (.bool true) ⟨h', g', d, t', os⟩) :
    wpAny (model prog w) (Ar 14 32) (call (.ref 171) [.ref l]) Q E ⟨h, g, d, t, os⟩ := by
  have GX : GenOK prog w := genOK prog w
  refine law_enter G e101 e136 e168 fun b L h1 t1 O Gb lb hk hO S => ?_
  have hlb : b.IsList l vs.toArray := let ⟨o, e, r⟩ := hl; ⟨o, hk _ _ nl e, r⟩
  have hN := nOf_le ns
  have hN2 : 2 ≤ nOf ns := Nat.le_trans (by decide) (nOf_ge ns)
  generalize hT : (tks ns).sum = T
  have hx : ∀ j, (xsOf ns j).In := xsOf_in ns
  refine law1 hz Gb hlb hv hO S fun b1 h2 t2 nm nvs uT l1 cT cN hnl K S => ?_
  rw [hT] at cT
  have G1 := Gb.mono l1
  refine law2 hN hx G1 cN hnl K hO S fun b2 h3 t3 wl rl wa ra l2 cW hwl hwa hrl hra S => ?_
  have G2 := G1.mono l2
  refine law3 (T := T) (uT := uT) G2 (cT.mono l2) hO S fun b3 h4 t4 fl sl vf vs' nf ns' l3 cF cS ef Sf es Ss S => ?_
  have G3 := G2.mono l3
  refine law4 (self := selF T) (sels := selS T) hN hx (selF_5 T) (selS_5 T) (selF_z T) (selS_z T) G3 (cW.mono l3) cF cS (isl hwl l3) (fun j hj => (hwa j hj).mono l3) Sf Ss hO S fun b4 h5 t5 ol zl oa za a1 a2 o1 o2 k1 k2 l4 cO cZ cA hol hzl C1 C2 e1 D1 n1 B1 z1 e2 D2 n2 B2 z2 S => ?_
  have G4 := G3.mono l4
  have l24 := l3.trans l4
  have l14 := l2.trans l24
  refine law5 (self := selF T) (sels := selS T) GX hG hN hN2 hx (selF_5 T) (selS_5 T) (selF_ne T) (selS_ne T) (selF_z T) (selS_z T) G4 (cN.mono l14) (isl hnl l14) K.1 (isl hrl l24) (fun j hj => (hra j hj).mono l24) (cF.mono l4) (cS.mono l4) (l4 _ _ ef) (Sf.mono l4) (l4 _ _ es) (Ss.mono l4) cO cZ cA hol hzl C1 C2 e1 D1 n1 B1 z1 ⟨#[], rfl, .inl rfl⟩ ⟨#[], rfl, .inl rfl⟩ (PsLt.nil 226) S fun b5 g5 h6 t6 tg tk ps hG5 l5 TG TK P S => ?_
  have l25 := l24.trans l5
  have l15 := l14.trans l5
  have l35 := l4.trans l5
  refine law6 (self := selF T) (sels := selS T) GX hG5 hN hN2 hx (selF_5 T) (selS_5 T) (selF_ne T) (selS_ne T) (selF_z T) (selS_z T) (G4.mono l5) (cN.mono l15) (isl hnl l15) K.1 (isl hrl l25) (fun j hj => (hra j hj).mono l25) (cF.mono l35) (cS.mono l35) (l35 _ _ ef) (Sf.mono l35) (l35 _ _ es) (Ss.mono l35) (cO.mono l5) (cZ.mono l5) (isl hol l5) (isl hzl l5) (fun j hj => (C1 j hj).mono l5) (fun j hj => (C2 j hj).mono l5) (l5 _ _ e2) D2 n2 (B2.mono l5) TG TK P S fun b6 g6 h7 t7 tg' tk' ps' m' hG6 l6 TG' TK' S => ?_
  refine H h7 g6 t7 hG6 (fun a o na e => S.keep _ _ (l6 _ _ (l15 _ _ (l1 _ _ (hk a o na e))))) fun a ha => ?_
  obtain ⟨p1, rfl, _⟩ := TG'
  obtain ⟨p2, rfl, _⟩ := TK'
  have : a = 101 ∨ a = 136 ∨ a = 168 := by simpa [tabs] using ha
  rcases this with rfl | rfl | rfl
  · exact ⟨p1, (S.new (101, tabObj p1) (.head _)).1⟩
  · exact ⟨p2, (S.new (136, tabObj p2) (.tail _ (.head _))).1⟩
  · exact ⟨ps', (S.new (168, tabObj ps') (.tail _ (.tail _ (.head _)))).1⟩
end
theorem tab_code {w : World} {h : Heap} (G : Gd w h) : ∀ a ∈ tabs, isCodeTable h a := fun a ha => by
  have go : ∀ {c P : Addr}, CodeHd h c P → isCodeTable h P := fun ⟨o, vs, _, _, _, _, _, _, _, e1, e2, e3, e4, _⟩ => ⟨_, o, vs, e1, e2, e3, e4⟩
  have : a = 101 ∨ a = 136 ∨ a = 168 := by simpa [tabs] using ha
  rcases this with rfl | rfl | rfl
  · exact go (chd101 G)
  · exact go (chd136 G)
  · exact go (chd170 G)
theorem oldK {w : World} {h h' : Heap} (G : Gd w h) (e : ∀ a ∈ tabs, h.get? a = some (tabObj #[])) (k : ∀ a o, a ∉ tabs → h.get? a = some o → h'.get? a = some o) (n : ∀ a ∈ tabs, ∃ ps, h'.get? a = some (tabObj ps)) : OldK h h' := by
  refine ⟨fun b o eb => ?_, fun b o eb => ?_⟩
  · by_cases q : b ∈ tabs
    · obtain ⟨ps, ep⟩ := n b q
      have := e b q
      rw [eb] at this; cases this
      exact .inr (.inl ⟨tab_code G b q, rfl, #[], ps, rfl, by rw [ep]; simp⟩)
    · exact .inl (k b o q eb)
  · by_cases q : b ∈ tabs
    · obtain ⟨ps, ep⟩ := n b q; exact ⟨_, ep⟩
    · exact ⟨o, k b o q eb⟩
theorem ns_eq {h : Heap} {a : Addr} {m m' : Str → Option Value} (x : h.Ns a m) (y : h.Ns a m') (k : Str) : m k = m' k := by
  obtain ⟨o, es, n, e1, e2, e3, e4⟩ := x
  obtain ⟨o', es', n', f1, f2, f3, f4⟩ := y
  rw [e1] at f1; cases f1
  rw [e2] at f2; cases f2
  rw [← e4, ← f4]
end Mine
end
open PySem PySem.W PyProof.Rows PySem.Spec PySem.Calls
open Mine
theorem PySem.Challenge.cw_pe0202_01_holds : PySem.Challenge.rw_pe0202_01.Holds :=
  Mine.hd (by
  w_on
  intro w s₀ s₁ mg mb Gr Y fa o pm cd doc dV kV ho hd hcd hD hmg hg args vals as hpre hlay hrd hwl hlo
  have KX := kIn_of Y
  clear ho hd hcd hD
  refine Ground.open Gr ?_
  intro T B D TE TW
  wrow_args hpre hlay hrd hwl hlo
  rename_i zs _ _ _ _ _ _ _ la vls _ hLst _ _ _ hInts _ hcnd _
  have G : Gd w s₁.heap := fun a o e _ => KX a o e
  have efa : fa = 171 := by
    have e := ns_eq T.g G.g "law"
    have e1 : nsFind (tbl w mainGlobals) "law" = some (.ref 171) := rfl
    rw [e1] at e
    have e2 := hmg.symm.trans e
    cases e2; rfl
  subst efa
  have nla : la ∉ tabs := fun q => by
    obtain ⟨ol, el, ec, _⟩ := id hLst
    have : la = 101 ∨ la = 136 ∨ la = 168 := by simpa [tabs] using q
    rcases this with rfl | rfl | rfl
    · have := KX 101 _ rfl; rw [el] at this; cases this; cases ec
    · have := KX 136 _ rfl; rw [el] at this; cases this; cases ec
    · have := KX 168 _ rfl; rw [el] at this; cases this; cases ec
  obtain ⟨h, g, d, t, os⟩ := s₁
  have hg : g = #[] := hg
  subst hg
  refine ar_le (law_spec (vs := vls) (ns := zs) G (KX 101 _ rfl) (KX 136 _ rfl) (KX 168 _ rfl) nla (by omega) hLst hInts (fun x hx => by simp at hx) fun h' g' t' hG hk hn => ?_) rfl (by decide) (by decide)
  refine ⟨.inl ⟨_, .bool true, [], rfl, fun cls => rfl, .bool true, ?_, fun _ => ⟨List.nodup_nil, fun _ h => nomatch h⟩⟩, oldK G ?_ hk hn, rfl, hG⟩
  · exact postW_of (X := true) rfl (by first | rfl | wtm_val) rfl
  · intro a ha
    have : a = 101 ∨ a = 136 ∨ a = 168 := by simpa [tabs] using ha
    rcases this with rfl | rfl | rfl
    · exact KX 101 _ rfl
    · exact KX 136 _ rfl
    · exact KX 168 _ rfl)
