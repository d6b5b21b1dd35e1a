import PyProof.Rows.All
import Wide.All
import OpenK.AllK
import Wide.FinOn
import Lean
import PySem.Challenge.RW_oy0113_01
open PySem PySem.W PyProof.Rows PySem.Spec PySem.Calls
set_option Elab.async false
set_option linter.all false
set_option maxRecDepth 100000
set_option maxHeartbeats 8000000
set_option hygiene false in
local macro_rules | `(tactic| walk_at "b AT") => `(tactic| (first | with_reducible exact AtI.z | ((with_reducible refine' AtI.s ?zj); (case zj => walk_at "b AT"))))
set_option hygiene false in
local macro_rules | `(tactic| walk_at "b GT") => `(tactic| (first | with_reducible exact GetI.z | with_reducible exact (by assumption) | ((with_reducible refine' GetI.s ?zk ?zj); (case zk => kernel_rfl); (case zj => walk_at "b GT"))))
set_option hygiene false in
local macro_rules | `(tactic| walk_at "b GTI") => `(tactic| (first | exact GetI.z | exact (by assumption) | ((refine' GetI.s ?zk ?zj); (case zk => kernel_rfl); (case zj => walk_at "b GTI"))))
set_option hygiene false in
local macro_rules | `(tactic| walk_at "b GLX") => `(tactic| (first | with_reducible exact gl_sep _ | with_reducible exact glU_kind _ | with_reducible exact glU_c_path _ | with_reducible exact glU_splitroot _ | with_reducible exact glU_normpath _ | with_reducible exact gl_normpath _ | with_reducible exact glU_Ignore _ | with_reducible exact gl_cmp_to_key _ | with_reducible exact glU_initial_missing _ | with_reducible exact gl_reduce _ | with_reducible exact gl_heappush _ | with_reducible exact gl_heappop _ | with_reducible exact glU_siftdown _ | with_reducible exact glU_siftup _ | with_reducible exact glU_law_events _ | with_reducible exact glU_law_counted _ | with_reducible exact glU_law_due _ | with_reducible exact glU_law_emptied _ | with_reducible exact glU_law_compare _))
set_option hygiene false in
local macro_rules | `(tactic| walk_at "b GNX") => `(tactic| (first | with_reducible exact gn_len _ | with_reducible exact gn_str _ | with_reducible exact gn_iter _ | with_reducible exact gn_sorted _ | with_reducible exact gn_list _ | with_reducible exact gn_map _ | with_reducible exact gn_set _ | with_reducible exact gn_type _ | with_reducible exact gn_int _))
set_option hygiene false in
local macro_rules | `(tactic| walk_at "b GBX") => `(tactic| (first | with_reducible exact gb_len | with_reducible exact gb_str | with_reducible exact gb_iter | with_reducible exact gb_sorted | with_reducible exact gb_list | with_reducible exact gb_map | with_reducible exact gb_set | with_reducible exact gb_type | with_reducible exact gb_int))
set_option hygiene false in
local macro_rules | `(tactic| walk_at "b W") => `(tactic| (first
  | with_reducible refine wpAny_execs_cons ?_
  | with_reducible refine wpAny_execs_nil ?_
  | ((with_reducible refine' wpAny_Assign_Name ?_ ?qq); (case qq => rfl))
  | with_reducible refine wpAny_If ?_
  | with_reducible refine wpAny_Return_some ?_
  | ((with_reducible refine' wpAny_Expr_any ?_ ?q1 ?q2); (case q1 => rfl); (case q2 => rfl))
  | ((with_reducible refine' wpAny_For ?_ ?qq); (case qq => intro _; rfl))
  | with_reducible refine wpAny_assign_Name ?_
  | ((with_reducible refine' wpAny_isTrue_Compare1 ?_ ?qq); (case qq => with_unfolding_all rfl))
  | ((with_reducible refine' wpAny_Compare1 ?_ ?qq); (case qq => with_unfolding_all rfl))
  | ((with_reducible refine' wpAny_isTrue_value ?_ ?qq); (case qq => rfl))
  | with_reducible refine wpAny_IfExp ?_
  | with_reducible refine wpAny_BinOp ?_
  | with_reducible refine wpAny_UnaryOp ?_
  | with_reducible refine Subscript_ ?_
  | with_reducible refine r_int ?_
  | with_reducible refine r_str ?_
  | with_reducible refine r_none ?_
  | with_reducible refine r_bool ?_
  | with_reducible refine r_list ?_
  | with_reducible refine r_tuple ?_
  | with_reducible refine wpAny_items_nil ?_
  | ((with_reducible refine' wpAny_items_cons ?_ ?qq); (case qq => rfl))
  | ((with_reducible refine' mkL D ?qz (fun a h' D => ?_)); (case qz => exact Nat.le_of_ble_eq_true rfl))
  | ((with_reducible refine' mkT D ?qz (fun a h' D => ?_)); (case qz => exact Nat.le_of_ble_eq_true rfl))
  | ((with_reducible refine' r_name D ?hi ?hv ?hl ?_); (case hi => walk_at "b AT"); (case hv => walk_at "b GT"); (case hl => exact ⟨by kernel_rfl, by kernel_rfl, by kernel_rfl⟩))
  | ((with_reducible refine' r_glob D G ?hl ?hv ?_); (case hv => walk_at "b GLX"); (case hl => exact ⟨by kernel_rfl, by kernel_rfl, by kernel_rfl, by kernel_rfl⟩))
  | ((with_reducible refine' r_builtin D G ?hl ?hv ?hb ?_); (case hv => walk_at "b GNX"); (case hb => walk_at "b GBX"); (case hl => exact ⟨by kernel_rfl, by kernel_rfl, by kernel_rfl, by kernel_rfl, by kernel_rfl, by kernel_rfl⟩))
  | ((with_reducible refine' r_store D ?hi ?hl (fun h' D => ?_)); (case hi => walk_at "b AT"); (case hl => exact ⟨by kernel_rfl, by kernel_rfl⟩); dsimp only [List.set_cons_zero, List.set_cons_succ] at D)
  | ((with_reducible refine' MethodCall_ ?_ ?qq); (case qq => rfl))
  | ((with_reducible refine' Call_ ?_ ?qq); (case qq => rfl))
  | ((with_reducible refine' r_cw ?_ ?q1 ?q2); (case q1 => rfl); (case q2 => rfl))
  | with_reducible refine r_Attr ?_
  | ((with_reducible refine' wpAny_Assign_Subscript ?_ ?qq); (case qq => rfl))
  | with_reducible refine r_swith ?_
  | with_reducible refine ne_int ?_
  | with_reducible refine r_sub ?_
  | with_reducible refine r_add ?_
  | with_reducible refine r_mod (by decide) ?_
  | with_reducible refine r_fdiv (by decide) (by decide) ?_
  | with_reducible refine r_neg ?_
  | with_reducible refine r_cslt ?_
  | with_reducible refine r_csgt ?_
  | with_reducible refine r_none_n ?_
  | with_reducible refine r_none_s ?_
  | ((with_reducible refine' r_mappend D ?hi ?_); (case hi => walk_at "b AT"))
  | with_reducible refine GM.replace ?_
  | with_reducible refine GM.startswith ?_
  | with_reducible refine GM.join ?_
  | with_reducible refine wpAny_truthy_bool ?_
  | with_reducible refine iteT ?_
  | with_reducible refine iteF ?_))
set_option hygiene false in
local macro_rules | `(tactic| walk_at "b W2") => `(tactic| (first
  | ((with_reducible refine' r_cwK D G ?hk ?_ ?q1 ?q2); (case hk => kernel_rfl); (case q1 => rfl); (case q2 => rfl))
  | with_reducible refine r_inK D G ?_
  | ((with_reducible refine' PyProof.Rows.callWith_type1 ?_ ?q1 ?q2); (case q1 => rfl); (case q2 => rfl))
  | ((with_reducible show wpAny _ _ (assignInOrder _ _) _ _ _); with_unfolding_all first | refine assignInOrder_cons (t := assign _ _) ?_ | refine assignInOrder_nil ?_)
  | ((with_reducible refine' r_mget D ?hi ?_); (case hi => walk_at "b AT"))
  | ((with_reducible refine' r_dgetd D ?hi G.sm ?_); (case hi => walk_at "b AT"))
  | ((with_reducible refine' r_dset D ?hi ?hq (fun h' D => ?_)); (case hi => walk_at "b AT"); (case hq => omega); dsimp only [List.set_cons_zero, List.set_cons_succ] at D)
  | with_reducible refine PyProof.Rows.eq_str ?_
  | ((with_reducible refine' PyProof.Rows.Assign_Tuple ?_ ?q1 ?q2); (case q1 => rfl); (case q2 => rfl))
  | with_reducible refine r_callv ?_
  | ((with_reducible refine' r_cw1 ?_ ?q1 ?q2); (case q1 => rfl); (case q2 => rfl))))
set_option hygiene false in
local macro_rules | `(tactic| walk_at "b NC") => `(tactic| (first
  | ((with_reducible refine' n_name D ?hi ?hv ?hl ?_); (case hi => walk_at "b AT"); (case hv => walk_at "b GT"); (case hl => exact ⟨by kernel_rfl, by kernel_rfl, by kernel_rfl⟩))
  | ((with_reducible refine' n_cell D ?hl ?hi ?_); (case hl => refine ⟨by kernel_rfl, by kernel_rfl, ?_, by kernel_rfl⟩; exact rfl); (case hi => walk_at "b AT"))
  | ((with_reducible refine' n_glob D G ?hl ?hv ?_); (case hv => walk_at "b GLX"); (case hl => exact ⟨by kernel_rfl, by kernel_rfl, by kernel_rfl, by kernel_rfl⟩))
  | ((with_reducible refine' n_builtin D G ?hl ?hv ?hb ?_); (case hv => walk_at "b GNX"); (case hb => walk_at "b GBX"); (case hl => exact ⟨by kernel_rfl, by kernel_rfl, by kernel_rfl, by kernel_rfl, by kernel_rfl, by kernel_rfl⟩))
  | ((with_reducible refine' n_store D ?hi ?hl (fun h' D => ?_)); (case hi => walk_at "b AT"); (case hl => refine ⟨by kernel_rfl, ?_⟩; exact rfl); dsimp only [List.set_cons_zero, List.set_cons_succ] at D)
  | ((with_reducible refine' n_storeC D ?hl ?hi (fun h' D => ?_)); (case hl => refine ⟨by kernel_rfl, ?_, ?_⟩ <;> exact rfl); (case hi => walk_at "b AT"); dsimp only [List.set_cons_zero, List.set_cons_succ] at D)
  | ((with_reducible refine' m_name D ?hi ?hv ?hl ?_); (case hi => walk_at "b AT"); (case hv => walk_at "b GT"); (case hl => exact ⟨by kernel_rfl, by kernel_rfl, by kernel_rfl⟩))
  | ((with_reducible refine' m_cell D ?hl ?hi ?_); (case hl => refine ⟨by kernel_rfl, by kernel_rfl, ?_, by kernel_rfl⟩; exact rfl); (case hi => walk_at "b AT"))
  | ((with_reducible refine' m_glob D G ?hl ?hv ?_); (case hv => walk_at "b GLX"); (case hl => exact ⟨by kernel_rfl, by kernel_rfl, by kernel_rfl, by kernel_rfl⟩))
  | ((with_reducible refine' m_store D ?hi ?hl (fun h' D => ?_)); (case hi => walk_at "b AT"); (case hl => refine ⟨by kernel_rfl, ?_⟩; exact rfl); dsimp only [List.set_cons_zero, List.set_cons_succ] at D)
  | with_reducible refine w_tests0 ?_
  | with_reducible refine r_let0 ?_))
set_option hygiene false in
local macro_rules | `(tactic| walk_at "b IDX") => `(tactic| (first | with_reducible exact At.z | (with_reducible refine' At.s ?zj; (case zj => walk_at "b IDX"))))
set_option hygiene false in
local macro_rules | `(tactic| walk_at "b IDXD") => `(tactic| (first | exact At.z | (refine' At.s ?zj; (case zj => walk_at "b IDXD"))))
section PHK
namespace Mine
def stAt (i : Nat) : Option Stmt := PySem.Challenge.rw_oy0113_01.prog.main.body[i]?
def inCls (i : Nat) : Option Stmt → Option Stmt
  | some (.ClassDef _ _ _ b _ _ _ _ _ _ _) => b[i]?
  | _ => none

def fdOf (q : Str) (dV pm cd : Value) : Option Stmt → FuncData
  | some (.FunctionDef n ps b _ _ _ sc _ _ _) => { name := n, qualname := q, params := ps, body := .stmts b, scope := sc, globals := mainGlobals, closure := [], defaults := dV, kwdefaults := .none, pyModule := pm, code := cd, builtins := builtinsNs }
  | _ => default
def bdOf : Option Stmt → List Stmt
  | some (.FunctionDef _ _ b _ _ _ _ _ _ _) => b
  | _ => []
def fd28 : FuncData := fdOf (Str.ofString "_kind") (Value.none) (Value.str (Str.ofString "os.path") 196) (Value.ref 27) (stAt 3)
def bd28 : List Stmt := bdOf (stAt 3)
def fd35 : FuncData := fdOf (Str.ofString "_c_path") (Value.none) (Value.str (Str.ofString "os.path") 196) (Value.ref 34) (stAt 4)
def bd35 : List Stmt := bdOf (stAt 4)
def fd42 : FuncData := fdOf (Str.ofString "_splitroot") (Value.none) (Value.str (Str.ofString "os.path") 196) (Value.ref 41) (stAt 5)
def bd42 : List Stmt := bdOf (stAt 5)
def fd49 : FuncData := fdOf (Str.ofString "_normpath") (Value.none) (Value.str (Str.ofString "os.path") 196) (Value.ref 48) (stAt 6)
def bd49 : List Stmt := bdOf (stAt 6)
def fd56 : FuncData := fdOf (Str.ofString "normpath") (Value.none) (Value.str (Str.ofString "os.path") 196) (Value.ref 55) (stAt 7)
def bd56 : List Stmt := bdOf (stAt 7)
def fd69 : FuncData := fdOf (Str.ofString "_Ignore.__init__") (Value.ref 64) (Value.str (Str.ofString "cpy313.trace") 252) (Value.ref 68) (inCls 0 (stAt 9))
def bd69 : List Stmt := bdOf (inCls 0 (stAt 9))
def fd76 : FuncData := fdOf (Str.ofString "_Ignore.names") (Value.none) (Value.str (Str.ofString "cpy313.trace") 252) (Value.ref 75) (inCls 1 (stAt 9))
def bd76 : List Stmt := bdOf (inCls 1 (stAt 9))
def fd90 : FuncData := fdOf (Str.ofString "cmp_to_key") (Value.none) (Value.str (Str.ofString "cpy313.functools") 294) (Value.ref 89) (stAt 11)
def bd90 : List Stmt := bdOf (stAt 11)
def fd99 : FuncData := fdOf (Str.ofString "reduce") (Value.ref 92) (Value.str (Str.ofString "cpy313.functools") 294) (Value.ref 98) (stAt 13)
def bd99 : List Stmt := bdOf (stAt 13)
def fd106 : FuncData := fdOf (Str.ofString "heappush") (Value.none) (Value.str (Str.ofString "cpy313.heapq") 318) (Value.ref 105) (stAt 15)
def bd106 : List Stmt := bdOf (stAt 15)
def fd113 : FuncData := fdOf (Str.ofString "heappop") (Value.none) (Value.str (Str.ofString "cpy313.heapq") 318) (Value.ref 112) (stAt 16)
def bd113 : List Stmt := bdOf (stAt 16)
def fd120 : FuncData := fdOf (Str.ofString "_siftdown") (Value.none) (Value.str (Str.ofString "cpy313.heapq") 318) (Value.ref 119) (stAt 17)
def bd120 : List Stmt := bdOf (stAt 17)
def fd127 : FuncData := fdOf (Str.ofString "_siftup") (Value.none) (Value.str (Str.ofString "cpy313.heapq") 318) (Value.ref 126) (stAt 18)
def bd127 : List Stmt := bdOf (stAt 18)
def fd134 : FuncData := fdOf (Str.ofString "_law_events") (Value.none) (Value.str (Str.ofString "law_oy0113_01") 362) (Value.ref 133) (stAt 20)
def bd134 : List Stmt := bdOf (stAt 20)
def fd141 : FuncData := fdOf (Str.ofString "_law_counted") (Value.none) (Value.str (Str.ofString "law_oy0113_01") 362) (Value.ref 140) (stAt 21)
def bd141 : List Stmt := bdOf (stAt 21)
def fd146 : FuncData := fdOf (Str.ofString "_law_due") (Value.none) (Value.str (Str.ofString "law_oy0113_01") 362) (Value.ref 145) (stAt 22)
def bd146 : List Stmt := bdOf (stAt 22)
def fd151 : FuncData := fdOf (Str.ofString "_law_emptied") (Value.none) (Value.str (Str.ofString "law_oy0113_01") 362) (Value.ref 150) (stAt 23)
def bd151 : List Stmt := bdOf (stAt 23)
def fd158 : FuncData := fdOf (Str.ofString "_law_compare") (Value.none) (Value.str (Str.ofString "law_oy0113_01") 362) (Value.ref 157) (stAt 24)
def bd158 : List Stmt := bdOf (stAt 24)
def fd163 : FuncData := fdOf (Str.ofString "law") (Value.none) (Value.str (Str.ofString "law_oy0113_01") 362) (Value.ref 162) (stAt 25)
def bd163 : List Stmt := bdOf (stAt 25)
noncomputable def hK (P : Params) : Frag := [
  (1, PySem.W.boot_o_1 P),
  (2, { cls := Value.none, data := Data.dict #[] }),
  (3, { cls := Value.type "dict", data := Data.dict #[{ hash := PyData.keyHash P (Str.ofString "__name__"), key := Value.str (Str.ofString "__name__") 165, val := Value.str (Str.ofString "law_oy0113_01") 362 }, { hash := PyData.keyHash P (Str.ofString "__doc__"), key := Value.str (Str.ofString "__doc__") 166, val := Value.none }, { hash := PyData.keyHash P (Str.ofString "__package__"), key := Value.str (Str.ofString "__package__") 167, val := Value.none }, { hash := PyData.keyHash P (Str.ofString "__loader__"), key := Value.str (Str.ofString "__loader__") 168, val := Value.builtin "__main__.__loader__#opaque" }, { hash := PyData.keyHash P (Str.ofString "__spec__"), key := Value.str (Str.ofString "__spec__") 169, val := Value.none }, { hash := PyData.keyHash P (Str.ofString "__annotations__"), key := Value.str (Str.ofString "__annotations__") 170, val := Value.ref 6 }, { hash := PyData.keyHash P (Str.ofString "__builtins__"), key := Value.str (Str.ofString "__builtins__") 171, val := Value.ref 4 }, { hash := PyData.keyHash P (Str.ofString "__file__"), key := Value.str (Str.ofString "__file__") 173, val := Value.str (Str.ofString "/claim/cut.py") 172 }, { hash := PyData.keyHash P (Str.ofString "__cached__"), key := Value.str (Str.ofString "__cached__") 174, val := Value.none }, { hash := PyData.keyHash P (Str.ofString "_wall"), key := Value.str (Str.ofString "_wall") 193, val := Value.ref 21 }, { hash := PyData.keyHash P (Str.ofString "sep"), key := Value.str (Str.ofString "sep") 195, val := Value.str (Str.ofString "/") 194 }, { hash := PyData.keyHash P (Str.ofString "_kind"), key := Value.str (Str.ofString "_kind") 206, val := Value.ref 28 }, { hash := PyData.keyHash P (Str.ofString "_c_path"), key := Value.str (Str.ofString "_c_path") 219, val := Value.ref 35 }, { hash := PyData.keyHash P (Str.ofString "_splitroot"), key := Value.str (Str.ofString "_splitroot") 228, val := Value.ref 42 }, { hash := PyData.keyHash P (Str.ofString "_normpath"), key := Value.str (Str.ofString "_normpath") 243, val := Value.ref 49 }, { hash := PyData.keyHash P (Str.ofString "normpath"), key := Value.str (Str.ofString "normpath") 251, val := Value.ref 56 }, { hash := PyData.keyHash P (Str.ofString "_Ignore"), key := Value.str (Str.ofString "_Ignore") 293, val := Value.ref 79 }, { hash := PyData.keyHash P (Str.ofString "cmp_to_key"), key := Value.str (Str.ofString "cmp_to_key") 304, val := Value.ref 90 }, { hash := PyData.keyHash P (Str.ofString "_initial_missing"), key := Value.str (Str.ofString "_initial_missing") 305, val := Value.ref 91 }, { hash := PyData.keyHash P (Str.ofString "reduce"), key := Value.str (Str.ofString "reduce") 317, val := Value.ref 99 }, { hash := PyData.keyHash P (Str.ofString "heappush"), key := Value.str (Str.ofString "heappush") 327, val := Value.ref 106 }, { hash := PyData.keyHash P (Str.ofString "heappop"), key := Value.str (Str.ofString "heappop") 336, val := Value.ref 113 }, { hash := PyData.keyHash P (Str.ofString "_siftdown"), key := Value.str (Str.ofString "_siftdown") 348, val := Value.ref 120 }, { hash := PyData.keyHash P (Str.ofString "_siftup"), key := Value.str (Str.ofString "_siftup") 361, val := Value.ref 127 }, { hash := PyData.keyHash P (Str.ofString "_law_events"), key := Value.str (Str.ofString "_law_events") 374, val := Value.ref 134 }, { hash := PyData.keyHash P (Str.ofString "_law_counted"), key := Value.str (Str.ofString "_law_counted") 386, val := Value.ref 141 }, { hash := PyData.keyHash P (Str.ofString "_law_due"), key := Value.str (Str.ofString "_law_due") 392, val := Value.ref 146 }, { hash := PyData.keyHash P (Str.ofString "_law_emptied"), key := Value.str (Str.ofString "_law_emptied") 398, val := Value.ref 151 }, { hash := PyData.keyHash P (Str.ofString "_law_compare"), key := Value.str (Str.ofString "_law_compare") 406, val := Value.ref 158 }, { hash := PyData.keyHash P (Str.ofString "law"), key := Value.str (Str.ofString "law") 412, val := Value.ref 163 }] 30 }),
  (4, PySem.W.boot_o_4 P),
  (27, { cls := Value.type "code", data := Data.fields #[Value.str (Str.ofString "_kind") 198, Value.str (Str.ofString "_kind") 199, Value.str (Str.ofString "/claim/cut.py") 200, Value.int 6 0, Value.int 2 0, Value.int 0 0, Value.int 0 0, Value.int 3 0, Value.ref 22, Value.bool true, Value.int 181 0, Value.ref 23, Value.none, Value.ref 24, Value.ref 25, Value.ref 26, Value.int 204 0, Value.int 6 0, Value.str (Str.ofString "/claim/cut.py") 205] }),
  (28, ⟨.type "function", none, .func fd28, #[]⟩),
  (34, { cls := Value.type "code", data := Data.fields #[Value.str (Str.ofString "_c_path") 207, Value.str (Str.ofString "_c_path") 208, Value.str (Str.ofString "/claim/cut.py") 209, Value.int 27 0, Value.int 5 0, Value.int 0 0, Value.int 0 0, Value.int 3 0, Value.ref 29, Value.bool true, Value.int 181 0, Value.ref 30, Value.none, Value.ref 31, Value.ref 32, Value.ref 33, Value.int 217 0, Value.int 27 0, Value.str (Str.ofString "/claim/cut.py") 218] }),
  (35, ⟨.type "function", none, .func fd35, #[]⟩),
  (41, { cls := Value.type "code", data := Data.fields #[Value.str (Str.ofString "_splitroot") 220, Value.str (Str.ofString "_splitroot") 221, Value.str (Str.ofString "/claim/cut.py") 222, Value.int 38 0, Value.int 1 0, Value.int 0 0, Value.int 0 0, Value.int 3 0, Value.ref 36, Value.bool true, Value.int 181 0, Value.ref 37, Value.none, Value.ref 38, Value.ref 39, Value.ref 40, Value.int 226 0, Value.int 38 0, Value.str (Str.ofString "/claim/cut.py") 227] }),
  (42, ⟨.type "function", none, .func fd42, #[]⟩),
  (48, { cls := Value.type "code", data := Data.fields #[Value.str (Str.ofString "_normpath") 229, Value.str (Str.ofString "_normpath") 230, Value.str (Str.ofString "/claim/cut.py") 231, Value.int 47 0, Value.int 1 0, Value.int 0 0, Value.int 0 0, Value.int 3 0, Value.ref 43, Value.bool true, Value.int 181 0, Value.ref 44, Value.none, Value.ref 45, Value.ref 46, Value.ref 47, Value.int 241 0, Value.int 47 0, Value.str (Str.ofString "/claim/cut.py") 242] }),
  (49, ⟨.type "function", none, .func fd49, #[]⟩),
  (55, { cls := Value.type "code", data := Data.fields #[Value.str (Str.ofString "normpath") 244, Value.str (Str.ofString "normpath") 245, Value.str (Str.ofString "/claim/cut.py") 246, Value.int 66 0, Value.int 0 0, Value.int 0 0, Value.int 0 0, Value.int 15 0, Value.ref 50, Value.bool true, Value.int 181 0, Value.ref 51, Value.none, Value.ref 52, Value.ref 53, Value.ref 54, Value.int 249 0, Value.int 66 0, Value.str (Str.ofString "/claim/cut.py") 250] }),
  (56, ⟨.type "function", none, .func fd56, #[]⟩),
  (64, { cls := Value.type "tuple", data := Data.seq #[Value.none, Value.none] }),
  (68, { cls := Value.type "code", data := Data.fields #[Value.str (Str.ofString "__init__") 266, Value.str (Str.ofString "_Ignore.__init__") 267, Value.str (Str.ofString "/claim/cut.py") 268, Value.int 71 0, Value.int 3 0, Value.int 0 0, Value.int 0 0, Value.int 3 0, Value.ref 65, Value.bool true, Value.int 181 0, Value.ref 66, Value.none, Value.none, Value.none, Value.ref 67, Value.int 269 0, Value.int 71 0, Value.str (Str.ofString "/claim/cut.py") 270] }),
  (69, ⟨.type "function", none, .func fd69, #[]⟩),
  (75, { cls := Value.type "code", data := Data.fields #[Value.str (Str.ofString "names") 272, Value.str (Str.ofString "_Ignore.names") 273, Value.str (Str.ofString "/claim/cut.py") 274, Value.int 76 0, Value.int 3 0, Value.int 0 0, Value.int 0 0, Value.int 3 0, Value.ref 70, Value.bool true, Value.int 181 0, Value.ref 71, Value.none, Value.ref 72, Value.ref 73, Value.ref 74, Value.int 280 0, Value.int 76 0, Value.str (Str.ofString "/claim/cut.py") 281] }),
  (76, ⟨.type "function", none, .func fd76, #[]⟩),
  (78, { cls := Value.type "dict", data := Data.dict #[{ hash := PyData.keyHash P (Str.ofString "__module__"), key := Value.str (Str.ofString "__module__") 261, val := Value.str (Str.ofString "cpy313.trace") 252 }, { hash := PyData.keyHash P (Str.ofString "__firstlineno__"), key := Value.str (Str.ofString "__firstlineno__") 265, val := Value.int 69 264 }, { hash := PyData.keyHash P (Str.ofString "__init__"), key := Value.str (Str.ofString "__init__") 271, val := Value.ref 69 }, { hash := PyData.keyHash P (Str.ofString "names"), key := Value.str (Str.ofString "names") 282, val := Value.ref 76 }, { hash := PyData.keyHash P (Str.ofString "__static_attributes__"), key := Value.str (Str.ofString "__static_attributes__") 286, val := Value.ref 77 }, { hash := PyData.keyHash P (Str.ofString "__dict__"), key := Value.str (Str.ofString "__dict__") 288, val := Value.ref 80 }, { hash := PyData.keyHash P (Str.ofString "__weakref__"), key := Value.str (Str.ofString "__weakref__") 290, val := Value.ref 81 }, { hash := PyData.keyHash P (Str.ofString "__doc__"), key := Value.str (Str.ofString "__doc__") 291, val := Value.none }] 4 }),
  (79, { cls := Value.type "type", data := Data.cls { name := Str.ofString "_Ignore", bases := [Value.type "object"], mro := [Value.ref 79, Value.type "object"], ns := 78, qualname := Str.ofString "_Ignore" }, slots := #[none, none, some (Value.str (Str.ofString "_Ignore") 254), some (Value.str (Str.ofString "_Ignore") 262), some (Value.builtin "object.__new__"), some (Value.bool true)] }),
  (89, { cls := Value.type "code", data := Data.fields #[Value.str (Str.ofString "cmp_to_key") 296, Value.str (Str.ofString "cmp_to_key") 297, Value.str (Str.ofString "/claim/cut.py") 298, Value.int 96 0, Value.int 1 0, Value.int 0 0, Value.int 0 0, Value.int 3 0, Value.ref 84, Value.bool true, Value.int 181 0, Value.ref 85, Value.none, Value.ref 86, Value.ref 87, Value.ref 88, Value.int 302 0, Value.int 96 0, Value.str (Str.ofString "/claim/cut.py") 303] }),
  (90, ⟨.type "function", none, .func fd90, #[]⟩),
  (91, { cls := Value.type "object" }),
  (92, { cls := Value.type "tuple", data := Data.seq #[Value.ref 91] }),
  (98, { cls := Value.type "code", data := Data.fields #[Value.str (Str.ofString "reduce") 306, Value.str (Str.ofString "reduce") 307, Value.str (Str.ofString "/claim/cut.py") 308, Value.int 122 0, Value.int 3 0, Value.int 0 0, Value.int 0 0, Value.int 3 0, Value.ref 93, Value.bool true, Value.int 181 0, Value.ref 94, Value.none, Value.ref 95, Value.ref 96, Value.ref 97, Value.int 315 0, Value.int 122 0, Value.str (Str.ofString "/claim/cut.py") 316] }),
  (99, ⟨.type "function", none, .func fd99, #[]⟩),
  (105, { cls := Value.type "code", data := Data.fields #[Value.str (Str.ofString "heappush") 320, Value.str (Str.ofString "heappush") 321, Value.str (Str.ofString "/claim/cut.py") 322, Value.int 135 0, Value.int 2 0, Value.int 0 0, Value.int 0 0, Value.int 3 0, Value.ref 100, Value.bool true, Value.int 181 0, Value.ref 101, Value.none, Value.ref 102, Value.ref 103, Value.ref 104, Value.int 325 0, Value.int 135 0, Value.str (Str.ofString "/claim/cut.py") 326] }),
  (106, ⟨.type "function", none, .func fd106, #[]⟩),
  (112, { cls := Value.type "code", data := Data.fields #[Value.str (Str.ofString "heappop") 328, Value.str (Str.ofString "heappop") 329, Value.str (Str.ofString "/claim/cut.py") 330, Value.int 138 0, Value.int 1 0, Value.int 0 0, Value.int 0 0, Value.int 3 0, Value.ref 107, Value.bool true, Value.int 181 0, Value.ref 108, Value.none, Value.ref 109, Value.ref 110, Value.ref 111, Value.int 334 0, Value.int 138 0, Value.str (Str.ofString "/claim/cut.py") 335] }),
  (113, ⟨.type "function", none, .func fd113, #[]⟩),
  (119, { cls := Value.type "code", data := Data.fields #[Value.str (Str.ofString "_siftdown") 337, Value.str (Str.ofString "_siftdown") 338, Value.str (Str.ofString "/claim/cut.py") 339, Value.int 146 0, Value.int 3 0, Value.int 0 0, Value.int 0 0, Value.int 3 0, Value.ref 114, Value.bool true, Value.int 181 0, Value.ref 115, Value.none, Value.ref 116, Value.ref 117, Value.ref 118, Value.int 346 0, Value.int 146 0, Value.str (Str.ofString "/claim/cut.py") 347] }),
  (120, ⟨.type "function", none, .func fd120, #[]⟩),
  (126, { cls := Value.type "code", data := Data.fields #[Value.str (Str.ofString "_siftup") 349, Value.str (Str.ofString "_siftup") 350, Value.str (Str.ofString "/claim/cut.py") 351, Value.int 157 0, Value.int 2 0, Value.int 0 0, Value.int 0 0, Value.int 3 0, Value.ref 121, Value.bool true, Value.int 181 0, Value.ref 122, Value.none, Value.ref 123, Value.ref 124, Value.ref 125, Value.int 359 0, Value.int 157 0, Value.str (Str.ofString "/claim/cut.py") 360] }),
  (127, ⟨.type "function", none, .func fd127, #[]⟩),
  (133, { cls := Value.type "code", data := Data.fields #[Value.str (Str.ofString "_law_events") 364, Value.str (Str.ofString "_law_events") 365, Value.str (Str.ofString "/claim/cut.py") 366, Value.int 172 0, Value.int 1 0, Value.int 0 0, Value.int 0 0, Value.int 3 0, Value.ref 128, Value.bool true, Value.int 181 0, Value.ref 129, Value.none, Value.ref 130, Value.ref 131, Value.ref 132, Value.int 372 0, Value.int 172 0, Value.str (Str.ofString "/claim/cut.py") 373] }),
  (134, ⟨.type "function", none, .func fd134, #[]⟩),
  (140, { cls := Value.type "code", data := Data.fields #[Value.str (Str.ofString "_law_counted") 375, Value.str (Str.ofString "_law_counted") 376, Value.str (Str.ofString "/claim/cut.py") 377, Value.int 179 0, Value.int 2 0, Value.int 0 0, Value.int 0 0, Value.int 3 0, Value.ref 135, Value.bool true, Value.int 181 0, Value.ref 136, Value.none, Value.ref 137, Value.ref 138, Value.ref 139, Value.int 384 0, Value.int 179 0, Value.str (Str.ofString "/claim/cut.py") 385] }),
  (141, ⟨.type "function", none, .func fd141, #[]⟩),
  (145, { cls := Value.type "code", data := Data.fields #[Value.str (Str.ofString "_law_due") 387, Value.str (Str.ofString "_law_due") 388, Value.str (Str.ofString "/claim/cut.py") 389, Value.int 185 0, Value.int 1 0, Value.int 0 0, Value.int 0 0, Value.int 3 0, Value.ref 142, Value.bool true, Value.int 181 0, Value.ref 143, Value.none, Value.none, Value.none, Value.ref 144, Value.int 390 0, Value.int 185 0, Value.str (Str.ofString "/claim/cut.py") 391] }),
  (146, ⟨.type "function", none, .func fd146, #[]⟩),
  (150, { cls := Value.type "code", data := Data.fields #[Value.str (Str.ofString "_law_emptied") 393, Value.str (Str.ofString "_law_emptied") 394, Value.str (Str.ofString "/claim/cut.py") 395, Value.int 192 0, Value.int 1 0, Value.int 0 0, Value.int 0 0, Value.int 3 0, Value.ref 147, Value.bool true, Value.int 181 0, Value.ref 148, Value.none, Value.none, Value.none, Value.ref 149, Value.int 396 0, Value.int 192 0, Value.str (Str.ofString "/claim/cut.py") 397] }),
  (151, ⟨.type "function", none, .func fd151, #[]⟩),
  (157, { cls := Value.type "code", data := Data.fields #[Value.str (Str.ofString "_law_compare") 399, Value.str (Str.ofString "_law_compare") 400, Value.str (Str.ofString "/claim/cut.py") 401, Value.int 198 0, Value.int 2 0, Value.int 0 0, Value.int 0 0, Value.int 3 0, Value.ref 152, Value.bool true, Value.int 181 0, Value.ref 153, Value.none, Value.ref 154, Value.ref 155, Value.ref 156, Value.int 404 0, Value.int 198 0, Value.str (Str.ofString "/claim/cut.py") 405] }),
  (158, ⟨.type "function", none, .func fd158, #[]⟩),
  (162, { cls := Value.type "code", data := Data.fields #[Value.str (Str.ofString "law") 407, Value.str (Str.ofString "law") 408, Value.str (Str.ofString "/claim/cut.py") 409, Value.int 202 0, Value.int 1 0, Value.int 0 0, Value.int 0 0, Value.int 3 0, Value.ref 159, Value.bool true, Value.int 181 0, Value.ref 160, Value.none, Value.none, Value.none, Value.ref 161, Value.int 410 0, Value.int 202 0, Value.str (Str.ofString "/claim/cut.py") 411] }),
  (163, ⟨.type "function", none, .func fd163, #[]⟩)]
end Mine
end PHK
section PHD
namespace Mine
theorem PySem.W.holds_open {r : OpenRow} {q : Program} {loose : List Str} {Xt : Shared → Bool} {XP : (Str → Option Value) → Heap → Prop} {α : Type} {Yf : Shared → α} {Ya : World → α} {YP : World → Heap → Prop} {d : DefRec} {kwd : List (Str × Expr)} {N : Nat}
    (left : ∀ w, (openEnds treeTable r.prog w N).map (fun s => (openSeen q loose (importedModules r.prog.main.body) Xt true s, Yf s)) = some (openGood q loose, Ya w)) (hY : ∀ w s, Yf s = Ya w → YP w s.heap) (hYk : ∀ w h h', YP w h → (∀ b o, h.get? b = some o → h'.get? b = some o) → YP w h')
    (hX : ∀ s, Xt s = true → XP (s.heap.nsMap mainGlobals) s.heap) (hXk : ∀ mg h h', XP mg h → (∀ b o, h.get? b = some o → h'.get? b = some o) → XP mg h')
    (hdef : defOf q r.name = some (d, kwd)) (hp : r.prog.theDef r.name = some (d.params, d.body, d.scope)) (hk : kwWritten? d.params.kwonlyargs d.params.kw_defaults = some kwd) (hRf : ∀ s, Xt s = true → RecFacts r.records s.heap) (hwr : (!r.writes || r.records.isEmpty) = true)
    (k1 : r.wellSaid = true) (ok : (chainsOk q && opensWell r.prog && (frees r.toRowW && r.within.isEmpty)) = true) (hb : r.prog.bare) (hw : r.toRowW.promised)
    (call : WalkO q loose XP YP r.toRowW d kwd fun f vs => PySem.call f vs) : r.Holds := _root_.PySem.W.holds_open left hY hYk hX hXk hdef hp hk hRf hwr k1 ok hb hw call
local macro_rules | `(tactic| k_head) => `(tactic| o_head (kmHook Mine.hK [1, 2, 3, 4, 27, 28, 34, 35, 41, 42, 48, 49, 55, 56, 64, 68, 69, 75, 76, 78, 79, 89, 90, 91, 92, 98, 99, 105, 106, 112, 113, 119, 120, 126, 127, 133, 134, 140, 141, 145, 146, 150, 151, 157, 158, 162, 163] (fun _ => by kernel_rfl) [85]))
open_top hd for PySem.Challenge.rw_oy0113_01
end Mine
end PHD
section PAL
namespace Mine
inductive Cl where
  | obj (o : Obj)
  | lst (vs : List Value)
  | frm (l : List (Str × Value))
  | cel (v : Option Value)
  | itr (l : Addr) (i : Nat)
  | dct (kvs : List (Str × Value))
  | kit (d : Addr) (i n ep : Nat)
noncomputable def Cl.ok (prog : Program) (w : World) (h : Heap) (a : Addr) : Cl → Prop
  | .obj o => h.get? a = some o
  | .lst vs => h.PlainList a vs.toArray
  | .frm l => h.Ns a fun x => l.lookup x
  | .cel v => h.IsCell a v
  | .itr l i => h.IsListIter a l i
  | .dct kvs => h.DictOf (strKind prog w) a kvs
  | .kit d i n ep => h.IsKeyIter a d i n ep
variable {prog : Program} {w : World} {h₀ h₁ h h' : Heap} {fs : List (Addr × Cl)}
theorem Cl.mv {c : Cl} {a : Addr} (x : c.ok prog w h a) (k : ∀ o, h.get? a = some o → h'.get? a = some o) : c.ok prog w h' a := by
  cases c with
  | obj o => exact k _ x
  | lst vs => exact x.at k
  | frm m => obtain ⟨o, es, ep, ho, r⟩ := x; exact ⟨o, es, ep, k _ ho, r⟩
  | cel v => obtain ⟨o, ho, r⟩ := x; exact ⟨o, k _ ho, r⟩
  | itr l i => obtain ⟨o, ho, r⟩ := x; exact ⟨o, k _ ho, r⟩
  | dct kvs => obtain ⟨o, es, ep, ho, r⟩ := x; exact ⟨o, es, ep, k _ ho, r⟩
  | kit dd i n ep => obtain ⟨o, ho, r⟩ := x; exact ⟨o, k _ ho, r⟩
theorem Cl.there {c : Cl} {a : Addr} (x : c.ok prog w h a) : ∃ o, h.get? a = some o := by
  cases c with
  | obj o => exact ⟨_, x⟩
  | lst vs => obtain ⟨n, e⟩ := x; exact ⟨_, e⟩
  | frm m => obtain ⟨o, es, ep, ho, r⟩ := x; exact ⟨_, ho⟩
  | cel v => obtain ⟨o, ho, r⟩ := x; exact ⟨_, ho⟩
  | itr l i => obtain ⟨o, ho, r⟩ := x; exact ⟨_, ho⟩
  | dct kvs => obtain ⟨o, es, ep, ho, r⟩ := x; exact ⟨_, ho⟩
  | kit dd i n ep => obtain ⟨o, ho, r⟩ := x; exact ⟨_, ho⟩
structure Sl (prog : Program) (w : World) (h₀ h : Heap) (fs : List (Addr × Cl)) : Prop where
  keep : ∀ a o, h₀.get? a = some o → h.get? a = some o
  ok : ∀ p ∈ fs, p.2.ok prog w h p.1 ∧ h₀.get? p.1 = none
  nd : (fs.map (·.1)).Nodup
inductive AtI {α : Type} : List α → Nat → α → Prop
  | z {x : α} {l : List α} : AtI (x :: l) 0 x
  | s {x y : α} {l : List α} {i : Nat} : AtI l i x → AtI (y :: l) (i + 1) x
theorem AtI.get {α : Type} {l : List α} {i : Nat} {x : α} (e : AtI l i x) : l[i]? = some x := by
  induction e with
  | z => rfl
  | s _ ih => rw [List.getElem?_cons_succ]; exact ih
theorem AtI.mem {α : Type} {l : List α} {i : Nat} {x : α} (e : AtI l i x) : x ∈ l := List.mem_of_getElem? e.get
theorem Sl.start (h : Heap) : Sl prog w h h [] := ⟨fun _ _ e => e, fun _ hp => (nomatch hp), List.nodup_nil⟩
theorem Sl.at (D : Sl prog w h₀ h fs) {i : Nat} {a : Addr} {c : Cl} (e : AtI fs i (a, c)) : c.ok prog w h a := (D.ok _ e.mem).1
theorem Sl.fresh (D : Sl prog w h₀ h fs) {a : Addr} (ha : h.get? a = none) : a ∉ fs.map (·.1) ∧ h₀.get? a = none := by
  constructor
  · intro hm
    obtain ⟨p, hp, rfl⟩ := List.mem_map.mp hm
    obtain ⟨o, e⟩ := Cl.there (D.ok p hp).1
    rw [ha] at e; cases e
  · cases q : h₀.get? a with
    | none => rfl
    | some o => rw [D.keep a o q] at ha; cases ha
theorem Sl.grow (D : Sl prog w h₀ h fs) (k : ∀ b o, h.get? b = some o → h'.get? b = some o) : Sl prog w h₀ h' fs :=
  ⟨fun a o e => k a o (D.keep a o e), fun p hp => ⟨Cl.mv (D.ok p hp).1 fun o e => k _ o e, (D.ok p hp).2⟩, D.nd⟩
theorem Sl.turn (D : Sl prog w h₀ h fs) {i : Nat} {a : Addr} {c c' : Cl} (e : AtI fs i (a, c)) (k : Heap.ExtBut a h h') (x : c'.ok prog w h' a) : Sl prog w h₀ h' (fs.set i (a, c')) := by
  have e' := e.get
  have em : (fs.set i (a, c')).map (·.1) = fs.map (·.1) := by
    rw [List.map_set]
    have : (fs.map (·.1))[i]? = some a := by rw [List.getElem?_map, e']; rfl
    obtain ⟨hl, he⟩ := List.getElem?_eq_some_iff.mp this
    apply List.ext_getElem?
    intro j
    by_cases hij : i = j
    · subst hij; rw [List.getElem?_set_self hl, this]
    · rw [List.getElem?_set_ne hij]
  have n0 := (D.ok _ e.mem).2
  refine ⟨fun b o q => k b o (fun z => by subst z; rw [n0] at q; cases q) (D.keep b o q), fun p hp => ?_, by rw [em]; exact D.nd⟩
  obtain ⟨j, hj⟩ := List.mem_iff_getElem?.mp hp
  by_cases hij : i = j
  · subst hij
    have hl : i < fs.length := (List.getElem?_eq_some_iff.mp e').1
    rw [List.getElem?_set_self hl] at hj
    cases hj
    exact ⟨x, n0⟩
  · rw [List.getElem?_set_ne hij] at hj
    have y := D.ok p (List.mem_of_getElem? hj)
    have ne : p.1 ≠ a := by
      intro z
      have nd := List.pairwise_iff_getElem.mp D.nd
      obtain ⟨li, ei⟩ := List.getElem?_eq_some_iff.mp e'
      obtain ⟨lj, ej⟩ := List.getElem?_eq_some_iff.mp hj
      rcases Nat.lt_or_gt_of_ne hij with q | q
      · exact nd i j (by rw [List.length_map]; exact li) (by rw [List.length_map]; exact lj) q (by rw [List.getElem_map, List.getElem_map, ei, ej]; exact z.symm)
      · exact nd j i (by rw [List.length_map]; exact lj) (by rw [List.length_map]; exact li) q (by rw [List.getElem_map, List.getElem_map, ei, ej]; exact z)
    exact ⟨Cl.mv y.1 fun o q => k _ o ne q, y.2⟩
theorem Sl.new (D : Sl prog w h₀ h fs) {a : Addr} {c : Cl} (ha : h.get? a = none) (k : ∀ b o, h.get? b = some o → h'.get? b = some o) (x : c.ok prog w h' a) : Sl prog w h₀ h' ((a, c) :: fs) := by
  obtain ⟨f1, f2⟩ := D.fresh ha
  have G := D.grow k
  refine ⟨G.keep, fun p hp => ?_, List.nodup_cons.mpr ⟨f1, D.nd⟩⟩
  rcases List.mem_cons.mp hp with rfl | hp
  · exact ⟨x, f2⟩
  · exact G.ok p hp
theorem Sl.sub {fs' : List (Addr × Cl)} (D : Sl prog w h₀ h fs) (x : fs'.Sublist fs) : Sl prog w h₀ h fs' :=
  ⟨D.keep, fun p hp => D.ok p (x.subset hp), D.nd.sublist (x.map _)⟩
theorem Sl.perm {fs' : List (Addr × Cl)} (D : Sl prog w h₀ h fs) (x : fs.Perm fs') : Sl prog w h₀ h fs' :=
  ⟨D.keep, fun p hp => D.ok p (x.mem_iff.mpr hp), (x.map _).nodup_iff.mp D.nd⟩
theorem Sl.tail {x : Addr × Cl} (D : Sl prog w h₀ h (x :: fs)) : Sl prog w h₀ h fs := D.sub (List.sublist_cons_self ..)
theorem perm_front {α : Type} {l : List α} {i : Nat} {x : α} (e : AtI l i x) : l.Perm (x :: l.eraseIdx i) := by
  induction e with
  | z => exact List.Perm.refl _
  | @s x y l i e ih => exact (ih.cons y).trans (List.Perm.swap x y _)
theorem Sl.front {i : Nat} {x : Addr × Cl} (D : Sl prog w h₀ h fs) (e : AtI fs i x) : Sl prog w h₀ h (x :: fs.eraseIdx i) := D.perm (perm_front e)
theorem Sl.base (D : Sl prog w h₀ h fs) : ∃ h₁, (∀ a o, h₀.get? a = some o → h₁.get? a = some o) ∧ (∀ a o, h.get? a = some o → a ∉ fs.map (·.1) → h₁.get? a = some o) ∧ Sl prog w h₁ h fs := by
  refine ⟨hideAll h (fs.map (·.1)), fun a o e => hideAll_get _ (D.keep a o e) fun hm => ?_, fun a o e n => hideAll_get _ e n, fun a o e => of_hideAll _ e, fun p hp => ⟨(D.ok p hp).1, hideAll_none _ (List.mem_map_of_mem hp)⟩, D.nd⟩
  obtain ⟨p, hp, rfl⟩ := List.mem_map.mp hm
  rw [(D.ok p hp).2] at e; cases e
theorem push_none (h : Heap) : h.get? h.objs.size = none := by
  cases q : h.get? h.objs.size with
  | none => rfl
  | some o' => exact absurd (Heap.lt_size q) (Nat.lt_irrefl _)
theorem Sl.push (D : Sl prog w h₀ h fs) {o : Obj} {c : Cl} (x : c.ok prog w (h.push o) h.objs.size) : Sl prog w h₀ (h.push o) ((h.objs.size, c) :: fs) :=
  D.new (push_none h) (fun b o' e => Heap.get?_push_of_some _ e) x
theorem Sl.baseOut {a : Addr} {c : Cl} (D : Sl prog w h₀ h ((a, c) :: fs)) : ∃ h₁, (∀ a o, h₀.get? a = some o → h₁.get? a = some o) ∧ c.ok prog w h₁ a ∧ Sl prog w h₁ h fs := by
  obtain ⟨h₁, e1, e2, D1⟩ := D.tail.base
  have nd := D.nd
  rw [List.map_cons, List.nodup_cons] at nd
  exact ⟨h₁, e1, Cl.mv (D.ok _ (.head _)).1 fun o e => e2 _ _ e nd.1, D1⟩
theorem Sl.out {a : Addr} {c : Cl} {P : Prop} (D : Sl prog w h₀ h ((a, c) :: fs)) (k : ∀ h₁, (∀ a o, h₀.get? a = some o → h₁.get? a = some o) → c.ok prog w h₁ a → Sl prog w h₁ h fs → P) : P := D.baseOut.elim fun h₁ x => k h₁ x.1 x.2.1 x.2.2
theorem d0 {a m n r : Nat} (h : a + n < r) (e : m ≤ n) : a + m < r := Nat.lt_of_le_of_lt (Nat.add_le_add_left e a) h
theorem veil {α : Type} {M : Model} {A : Around} {t : Sem α} {Q₀ : α → Shared → Prop} {E₀ : Value → Shared → Prop} {s : Shared} (x : ∀ (Q : α → Shared → Prop) (E : Value → Shared → Prop), (∀ r s, Q₀ r s → Q r s) → wpAny M A t Q E s) : wpAny M A t Q₀ E₀ s := x Q₀ E₀ (fun _ _ h => h)
theorem six : ∀ k : Nat, k < 6 → k = 0 ∨ k = 1 ∨ k = 2 ∨ k = 3 ∨ k = 4 ∨ k = 5 := by decide
theorem seven : ∀ k : Nat, k < 7 → k = 0 ∨ k = 1 ∨ k = 2 ∨ k = 3 ∨ k = 4 ∨ k = 5 ∨ k = 6 := by decide
theorem three : ∀ k : Nat, k < 3 → k = 0 ∨ k = 1 ∨ k = 2 := by decide
theorem zl {n : Nat} (h : n ≤ 1000) : n ≤ sizeLine := by rw [sizeLine_eq]; exact Nat.le_trans h (Nat.le_of_ble_eq_true rfl)
theorem d00 {a n r : Nat} (h : a + n < r) : a < r := Nat.lt_of_le_of_lt (Nat.le_add_right a n) h
theorem dk {a k m n r : Nat} (h : a + n < r) (e : k + m ≤ n) : a + k + m < r := Nat.add_assoc a k m ▸ d0 h e
theorem dk2 {a k l m n r : Nat} (h : a + n < r) (e : k + l + m ≤ n) : a + k + l + m < r := Nat.add_assoc a k l ▸ dk h e
theorem c3 {i : Nat} (h : i < 3) : i = 0 ∨ i = 1 ∨ i = 2 := three i h
theorem s_lt {c i n : Nat} (h : c + i = n) (hi : i < n) : c - 1 < c := by
  cases c with
  | zero => rw [Nat.zero_add] at h; exact absurd h (Nat.ne_of_lt hi)
  | succ k => exact Nat.lt_succ_self k
theorem s_eq {c i n : Nat} (h : c + i = n) (hi : i < n) : c - 1 + (i + 1) = n := by
  cases c with
  | zero => rw [Nat.zero_add] at h; exact absurd h (Nat.ne_of_lt hi)
  | succ k => rw [← h, Nat.add_comm i 1, ← Nat.add_assoc]; rfl
theorem s_end {c i n : Nat} (h : c + i = n) (hi : n ≤ i) : i = n := Nat.le_antisymm (h ▸ Nat.le_add_left i c) hi
theorem s_in {j i : Nat} (h : j < i + 1) (n : ¬ j = i) : j < i := Nat.lt_of_le_of_ne (Nat.le_of_lt_succ h) n
inductive GetI {α : Type} : List (Str × α) → Str → α → Prop
  | z {x : Str} {v : α} {l : List (Str × α)} : GetI ((x, v) :: l) x v
  | s {x y : Str} {v u : α} {l : List (Str × α)} : (x == y) = false → GetI l x v → GetI ((y, u) :: l) x v
theorem GetI.get {α : Type} {l : List (Str × α)} {x : Str} {v : α} (e : GetI l x v) : l.lookup x = some v := by
  induction e with
  | z => rw [List.lookup_cons, beq_self_eq_true]
  | s ne _ ih => rw [List.lookup_cons, ne]; exact ih
theorem lookup_put {α : Type} {l : List (Str × α)} {x : Str} {v : α} : (fun y => if y = x then some v else l.lookup y) = fun y => ((x, v) :: l).lookup y := by
  funext y
  rw [List.lookup_cons]
  by_cases e : y = x
  · subst e; simp
  · rw [if_neg e, beq_eq_false_iff_ne.mpr e]
end Mine
end PAL
section PAR
namespace Mine
section
variable {prog : Program} {w : World} {A : Around} {h₀ h : Heap} {fs : List (Addr × Cl)} {gs : Array GenState} {d : Drawn} {t : Nat} {os : OsState} {E : Value → Shared → Prop} {env : Env}
structure Gd (P : Params) (K : Params → Frag) (h : Heap) : Prop where
  X : (K P).In h
  lim : h.NoLimit
  sm : ∃ o, h.get? sysModules = some o
  bn : ∃ mb, h.Ns builtinsNs mb ∧ ∀ x : Str, x ≠ Str.ofString "__name__" → mb x = bootBuiltins x
theorem Gd.keeps {P : Params} {K : Params → Frag} {h h' : Heap} (G : Gd P K h) (k : ∀ b o, h.get? b = some o → h'.get? b = some o) : Gd P K h' :=
  ⟨fun a o e => k a o (G.X a o e), let ⟨mc, x, y⟩ := G.lim; ⟨mc, x.keeps k, y⟩, (let ⟨o, e⟩ := G.sm; ⟨o, k _ _ e⟩), let ⟨mb, x, y⟩ := G.bn; ⟨mb, x.keeps k, y⟩⟩
theorem iteT {P Q : Prop} (x : P) : if true = true then P else Q := PyProof.Rows.ite_tt x
theorem iteF {P Q : Prop} (x : Q) : if false = true then P else Q := PyProof.Rows.ite_ff x
theorem iteB {b : Bool} {P Q : Prop} (x : b = true → P) (y : b = false → Q) : if b = true then P else Q := PyProof.Rows.split_bool x y
theorem r_int {i : Int} {k pos} {Q : Value → Shared → Prop} (x : Q (.int i t) ⟨h, gs, d, t + 1, os⟩) : wpAny (model prog w) A (eval (.Constant (.int i) k pos) env) Q E ⟨h, gs, d, t, os⟩ := wpAny_Constant_int x
theorem r_str {i : Str} {k pos} {Q : Value → Shared → Prop} (x : Q (.str i t) ⟨h, gs, d, t + 1, os⟩) : wpAny (model prog w) A (eval (.Constant (.str i) k pos) env) Q E ⟨h, gs, d, t, os⟩ := wpAny_Constant_str x
theorem r_none {k pos} {Q : Value → Shared → Prop} (x : Q .none ⟨h, gs, d, t, os⟩) : wpAny (model prog w) A (eval (.Constant .none k pos) env) Q E ⟨h, gs, d, t, os⟩ := wpAny_Constant_none x
theorem r_bool {b : Bool} {k pos} {Q : Value → Shared → Prop} (x : Q (.bool b) ⟨h, gs, d, t, os⟩) : wpAny (model prog w) A (eval (.Constant (.bool b) k pos) env) Q E ⟨h, gs, d, t, os⟩ := wpAny_Constant_bool x
theorem r_name {i : Nat} {x : Str} {pos : Pos} {fd : FuncData} {L a : Addr} {l : List (Str × Value)} {v : Value} {Q : Value → Shared → Prop} (D : Sl prog w h₀ h fs) (hi : AtI fs i (L, .frm l)) (hv : GetI l x v) (hl : fd.scope.kind = .function ∧ (callEnv fd L a).kindOf x = some .local ∧ (x == ("__debug__" : Str)) = false)
    (k : Q v ⟨h, gs, d, t, os⟩) : wpAny (model prog w) A (eval (.Name x pos) (callEnv fd L a)) Q E ⟨h, gs, d, t, os⟩ :=
  wpAny_Name (wpAny_loadName_local hl.1 hl.2.1 (D.at hi) hv.get k) hl.2.2
theorem r_glob {K : Params → Frag} {x : Str} {pos : Pos} {fd : FuncData} {L a : Addr} {v : Value} {Q : Value → Shared → Prop} (D : Sl prog w h₀ h fs) (G : Gd w.params K h₀) (hl : fd.scope.kind = .function ∧ fd.globals = mainGlobals ∧ (callEnv fd L a).kindOf x = some .globalImplicit ∧ (x == ("__debug__" : Str)) = false) (hv : nsIn (K w.params) mainGlobals x = some (some v))
    (k : Q v ⟨h, gs, d, t, os⟩) : wpAny (model prog w) A (eval (.Name x pos) (callEnv fd L a)) Q E ⟨h, gs, d, t, os⟩ := by
  refine wpAny_Name ?_ hl.2.2.2
  rw [loadName_read hl.1 hl.2.2.1]
  unfold loadGlobal
  rw [show (callEnv fd L a).globals = mainGlobals from hl.2.1]
  refine wpAny_bind ?_
  exact looks_nsIn (M := model prog w) (G.keeps D.keep).X hv A _ E _ (fun _ _ z => z) (wpAny_pure k)
theorem r_builtin {K : Params → Frag} {x : Str} {pos : Pos} {fd : FuncData} {L a : Addr} {v : Value} {Q : Value → Shared → Prop} (D : Sl prog w h₀ h fs) (G : Gd w.params K h₀) (hl : fd.scope.kind = .function ∧ fd.globals = mainGlobals ∧ fd.builtins = builtinsNs ∧ (callEnv fd L a).kindOf x = some .globalImplicit ∧ (x == ("__debug__" : Str)) = false ∧ (x == ("__name__" : Str)) = false) (hv : nsIn (K w.params) mainGlobals x = some none) (hb : bootBuiltins x = some v)
    (k : Q v ⟨h, gs, d, t, os⟩) : wpAny (model prog w) A (eval (.Name x pos) (callEnv fd L a)) Q E ⟨h, gs, d, t, os⟩ := by
  obtain ⟨h1, h2, h3, h4, h5, h6⟩ := hl
  refine wpAny_Name ?_ h5
  rw [loadName_read h1 h4]
  unfold loadGlobal
  rw [show (callEnv fd L a).globals = mainGlobals from h2]
  refine wpAny_bind ?_
  refine looks_nsIn (M := model prog w) (G.keeps D.keep).X hv A _ E _ (fun _ _ z => z) ?_
  obtain ⟨mb, n, q⟩ := G.bn
  dsimp only
  rw [show (callEnv fd L a).builtins = builtinsNs from h3]
  have e := (q x (beq_eq_false_iff_ne.mp h6)).trans hb
  refine wpAny_bind (wpAny_nsGet (n.keeps D.keep) ?_)
  rw [e]
  exact wpAny_pure k
theorem r_store {i : Nat} {x : Str} {fd : FuncData} {L a : Addr} {l : List (Str × Value)} {v : Value} {Q : Unit → Shared → Prop} (D : Sl prog w h₀ h fs) (hi : AtI fs i (L, .frm l)) (hl : fd.scope.kind = .function ∧ (callEnv fd L a).kindOf x = some .local)
    (k : ∀ h', Sl prog w h₀ h' (fs.set i (L, .frm ((x, v) :: l))) → Q () ⟨h', gs, d, t + 1, os⟩) : wpAny (model prog w) A (storeName (callEnv fd L a) x v) Q E ⟨h, gs, d, t, os⟩ :=
  wpAny_storeName_local hl.2 (D.at hi) (fun h' n s => k h' (D.turn hi s.extBut (show h'.Ns L _ from by have z := lookup_put (l := l) (x := x) (v := v); rw [← z]; exact n))) (by show (fd.scope.kind == _ || (fd.scope.kind == _ && _)) = false; rw [hl.1]; rfl)
theorem r_sub {a b : Int} {u v : Tok} {Q : Value → Shared → Prop} (k : Q (.int (a - b) t) ⟨h, gs, d, t + 1, os⟩) : wpAny (model prog w) A (binaryOp .Sub (.int a u) (.int b v)) Q E ⟨h, gs, d, t, os⟩ := sub_int k
theorem r_add {a b : Int} {u v : Tok} {Q : Value → Shared → Prop} (k : Q (.int (a + b) t) ⟨h, gs, d, t + 1, os⟩) : wpAny (model prog w) A (binaryOp .Add (.int a u) (.int b v)) Q E ⟨h, gs, d, t, os⟩ := add_int k
theorem r_mod {a b : Int} {u v : Tok} {Q : Value → Shared → Prop} (hb : b ≠ 0) (k : Q (.int (a.fmod b) t) ⟨h, gs, d, t + 1, os⟩) : wpAny (model prog w) A (binaryOp .Mod (.int a u) (.int b v)) Q E ⟨h, gs, d, t, os⟩ := mod_int hb k
theorem r_cslt {a b : Str} {u v : Tok} {Q : Value → Shared → Prop} (k : Q (.bool (decide (a.cps.toList < b.cps.toList))) ⟨h, gs, d, t, os⟩) : wpAny (model prog w) A (compareOp .Lt (.str a u) (.str b v)) Q E ⟨h, gs, d, t, os⟩ := lt_str k
theorem r_csgt {a b : Str} {u v : Tok} {Q : Value → Shared → Prop} (k : Q (.bool (decide (b.cps.toList < a.cps.toList))) ⟨h, gs, d, t, os⟩) : wpAny (model prog w) A (compareOp .Gt (.str a u) (.str b v)) Q E ⟨h, gs, d, t, os⟩ := P.gt_str k
theorem r_neg {a : Int} {u : Tok} {Q : Value → Shared → Prop} (k : Q (.int (-a) t) ⟨h, gs, d, t + 1, os⟩) : wpAny (model prog w) A (unaryOp .USub (.int a u)) Q E ⟨h, gs, d, t, os⟩ := neg_int k
theorem r_titem {value slice : Expr} {o : Addr} {vs : List Value} {i : Int} {j : Nat} {u : Tok} {x : Value} {Q : Value → Shared → Prop} (D : Sl prog w h₀ h fs) (ho : IsTup h₀ o vs.toArray) (hlo : -(2 ^ 63) ≤ i) (hhi : i < 2 ^ 63) (hj : seqIndex? i vs.length = some j) (hx : vs[j]? = some x)
    (k : Q x ⟨h, gs, d, t, os⟩) (hs : subscripted slice false (.ref o) (.int i u) = operate [.ref o, .int i u] (getItem (.ref o) (.int i u)) := by with_unfolding_all rfl) : wpAny (model prog w) A (subscriptTail value slice (.ref o) (.int i u)) Q E ⟨h, gs, d, t, os⟩ :=
  item_tupleT (s := ⟨h, gs, d, t, os⟩) (ho.keeps D.keep) hlo hhi hj hx k hs
structure FnOk (K : Params → Frag) (P : Params) (a : Addr) (fd : FuncData) (body : List Stmt) : Prop where
  lk : (K P).lookup a = some ⟨.type "function", none, .func fd, #[]⟩
  code : codeIn (K P) fd.code fd.qualname = true
  body : fd.body = .stmts body
  cells : (fd.scope.names.all fun x => x.2 != .cell) = true
  co : fd.scope.isCoroutine = false
  gen : fd.scope.isGenerator = false
  kind : fd.scope.kind = .function
theorem r_call {K : Params → Frag} {a : Addr} {fd : FuncData} {body : List Stmt} {args : Args} (binds l : List (Str × Value)) (n : Nat) {R : Result → Shared → Prop} (D : Sl prog w h₀ h fs) (G : Gd w.params K h₀) (F : FnOk K w.params a fd body) (hroom : A.depth < recursionLimit)
    (hbind : bindArgs fd args = pure binds) (hl : binds.reverse = l ∧ binds.length = n) (hloc : (binds.all fun x => fd.scope.names.lookup x.1 == some .local) = true)
    (k : ∀ {E' : Value → Shared → Prop} L h', Sl prog w h₀ h' ((L, .frm l) :: fs) → wpAny (model prog w) (A.deeper (callEnv fd L a)) (execs body (callEnv fd L a)) (fun f s' => R (.ok (.ret (match f with | .ret v => v | _ => .none))) s') E' ⟨h', gs, d, t + n, os⟩) :
    codeAny (model prog w) A (.call (.ref a) args) R ⟨h, gs, d, t, os⟩ := by
  obtain ⟨rfl, rfl⟩ := hl
  exact codeAny_call_def hroom (D.keep _ _ (G.X _ _ F.lk)) rfl (let ⟨mc, x, y⟩ := G.lim; ⟨mc, x.keeps D.keep, y⟩) ((codeRec_of G.X F.code).keeps D.keep) F.body (.of_eq hbind) (fun x hx => by have := List.all_eq_true.mp F.cells x hx; simpa using this) (fun x hx => by have := List.all_eq_true.mp hloc x hx; simpa using this)
    (fun h' n kp => k h.objs.size h' (D.new (push_none h) kp n)) F.co F.gen F.kind
noncomputable def MkL (Q : Value → Shared → Prop) (vs : List Value) (s : Shared) : Prop := vs.length ≤ sizeLine ∧ Q (.ref s.heap.objs.size) { s with heap := s.heap.push { cls := .type "list", data := .seq vs.toArray } }
noncomputable def MkT (Q : Value → Shared → Prop) (vs : List Value) (s : Shared) : Prop := vs.length ≤ sizeLine ∧ Q (.ref s.heap.objs.size) { s with heap := s.heap.push { cls := .type "tuple", data := .seq vs.toArray } }
theorem r_list {elts : List Expr} {pos : Pos} {Q : Value → Shared → Prop} {s : Shared} (x : wpAny (model prog w) A (spliced (backTo pos (starEach elts env))) (MkL Q) E s) : wpAny (model prog w) A (eval (.List elts pos) env) Q E s := wpAny_List x
theorem r_tuple {elts : List Expr} {k : Nat} {pos : Pos} {Q : Value → Shared → Prop} {s : Shared} (x : wpAny (model prog w) A (spliced (backTo pos (starEach elts env))) (MkT Q) E s) : wpAny (model prog w) A (eval (.Tuple elts k pos) env) Q E s := wpAny_Tuple x
noncomputable abbrev tupO (vs : List Value) : Obj := { cls := .type "tuple", data := .seq vs.toArray }
theorem mkL {Q : Value → Shared → Prop} {vs : List Value} (D : Sl prog w h₀ h fs) (hz : vs.length ≤ 1000) (k : ∀ a h', Sl prog w h₀ h' ((a, .lst vs) :: fs) → Q (.ref a) ⟨h', gs, d, t, os⟩) : MkL Q vs ⟨h, gs, d, t, os⟩ :=
  ⟨zl hz, k _ _ (D.push ⟨_, Heap.get?_push_size _ rfl⟩)⟩
theorem mkT {Q : Value → Shared → Prop} {vs : List Value} (D : Sl prog w h₀ h fs) (hz : vs.length ≤ 1000) (k : ∀ a h', Sl prog w h₀ h' ((a, .obj (tupO vs)) :: fs) → Q (.ref a) ⟨h', gs, d, t, os⟩) : MkT Q vs ⟨h, gs, d, t, os⟩ :=
  ⟨zl hz, k _ _ (D.push (Heap.get?_push_size _ rfl))⟩
theorem isTup_of {a : Addr} {vs : List Value} (e : h.get? a = some (tupO vs)) : IsTup h a vs.toArray := ⟨_, e, rfl, 0, rfl⟩
theorem r_litem {value slice : Expr} {i : Nat} {o : Addr} {vs : List Value} {k : Int} {u : Tok} {x : Value} {Q : Value → Shared → Prop} (D : Sl prog w h₀ h fs) (hi : AtI fs i (o, .lst vs)) (h0 : 0 ≤ k) (h1 : k < 2 ^ 63) (hx : vs[k.toNat]? = some x)
    (q : Q x ⟨h, gs, d, t, os⟩) (hs : subscripted slice false (.ref o) (.int k u) = operate [.ref o, .int k u] (getItem (.ref o) (.int k u)) := by with_unfolding_all rfl) : wpAny (model prog w) A (subscriptTail value slice (.ref o) (.int k u)) Q E ⟨h, gs, d, t, os⟩ :=
  have hl : h.IsList o vs.toArray := Heap.PlainList.isList (D.at hi)
  tail_any (s := ⟨h, gs, d, t, os⟩) hl.typeIs slot_list_getitem.lookup (wpAny_getItem_list hl h0 h1 (by simpa using hx) q) hs
theorem r_fdiv {a b : Int} {u v : Tok} {Q : Value → Shared → Prop} (hb : b ≠ 0) (hb2 : b.natAbs < 1073741824) (k : Q (.int (a.fdiv b) t) ⟨h, gs, d, t + 1, os⟩) : wpAny (model prog w) A (binaryOp .FloorDiv (.int a u) (.int b v)) Q E ⟨h, gs, d, t, os⟩ := floordiv_int hb k (.inl (PyProof.noPylong_small hb2))
theorem r_sadd {a b : Str} {u v : Tok} {Q : Value → Shared → Prop} (hz : a.length + b.length ≤ 10000) (k : ∀ t' tk, Q (.str (a ++ b) t') ⟨h, gs, d, tk, os⟩) : wpAny (model prog w) A (binaryOp .Add (.str a u) (.str b v)) Q E ⟨h, gs, d, t, os⟩ := PyProof.Rows.add_str (fun t' tk => k t' tk) (by rw [sizeLine_eq]; omega)
theorem r_isnone0 {v : Value} {Q : Value → Shared → Prop} (k : Q (.bool (v == .none)) ⟨h, gs, d, t, os⟩) : wpAny (model prog w) A (compareOp .Is v .none) Q E ⟨h, gs, d, t, os⟩ := is_none k
theorem r_append {i : Nat} {l : Addr} {vs : List Value} {x : Value} {Q : Value → Shared → Prop} (D : Sl prog w h₀ h fs) (hi : AtI fs i (l, .lst vs)) (hz : vs.length ≤ 1000) (k : ∀ h', Sl prog w h₀ h' (fs.set i (l, .lst (vs ++ [x]))) → Q .none ⟨h', gs, d, t, os⟩) :
    wpAny (model prog w) A (call (.builtin "list.append") [.ref l, x]) Q E ⟨h, gs, d, t, os⟩ :=
  wpAny_list_append_plain (s := ⟨h, gs, d, t, os⟩) (D.at hi) (fun h' p s => k h' (D.turn hi s.extBut (show h'.PlainList l _ by simpa using p))) (by rw [List.size_toArray]; exact zl hz)
theorem r_mappend {i : Nat} {l : Addr} {vs : List Value} {pl : Sem Bool} {Q : Value × List Value → Shared → Prop} (D : Sl prog w h₀ h fs) (hi : AtI fs i (l, .lst vs)) (k : Q (.builtin "list.append", [.ref l]) ⟨h, gs, d, t, os⟩) : wpAny (model prog w) A (getMethod (.ref l) (Str.ofString "append") pl) Q E ⟨h, gs, d, t, os⟩ :=
  let ⟨_, e⟩ := (D.at hi : h.PlainList l vs.toArray); Calls.getMethod_list_append (s := ⟨h, gs, d, t, os⟩) e rfl rfl k
noncomputable def LoopP (prog : Program) (w : World) (gs : Array GenState) (d : Drawn) (os : OsState) (J : Nat → Heap → List (Addr × Cl) → Prop) (I l : Addr) (vs : List Value) (i : Nat) (Q : Flow → Shared → Prop) (f : Flow) (s : Shared) : Prop := match f with
  | .next | .cont => ∃ hb h fs t, s = ⟨h, gs, d, t, os⟩ ∧ J (i + 1) hb fs ∧ hb.IsList l vs.toArray ∧ Sl prog w hb h ((I, .itr l (i + 1)) :: fs)
  | .brk => Q .next s
  | .ret v => Q (.ret v) s
theorem IsList.kp {h h' : Heap} {l : Addr} {vs : Array Value} (x : h.IsList l vs) (k : ∀ b o, h.get? b = some o → h'.get? b = some o) : h'.IsList l vs := PyProof.Rows.lstKept x k
theorem c_forI {target : Expr} {body : List Stmt} {l I : Addr} {vs : List Value} {R : Result → Shared → Prop} (J : Nat → Heap → List (Addr × Cl) → Prop) (D : Sl prog w h₀ h ((I, .itr l 0) :: fs)) (hA : A.handled = none) (hl : h₀.IsList l vs.toArray)
    (ht : ∀ v, letOwnedTupleGo target (.ref I) v = pure ()) (j0 : J 0 h₀ fs)
    (turn : ∀ (En : Value → Shared → Prop) i v hb h fs t, vs[i]? = some v → J i hb fs → hb.IsList l vs.toArray → Sl prog w hb h ((I, .itr l (i + 1)) :: fs) →
      wpAny (model prog w) A (assign target env v) (fun _ s₂ => wpAny (model prog w) A (execs body env) (LoopP prog w gs d os J I l vs i fun f s => R (.ok f) s) En s₂) En ⟨h, gs, d, t, os⟩)
    (done : ∀ hb h fs t, J vs.length hb fs → Sl prog w hb h fs → R (.ok .next) ⟨h, gs, d, t, os⟩) :
    codeAny (model prog w) A (.forLoop target (.ref I) body [] env) R ⟨h, gs, d, t, os⟩ := by
  refine codeAny_forLoop (fun n s => ∃ i hb h fs t, n + i = vs.length ∧ s = ⟨h, gs, d, t, os⟩ ∧ J i hb fs ∧ hb.IsList l vs.toArray ∧ Sl prog w hb h ((I, .itr l i) :: fs)) ?_ vs.length ⟨0, h₀, h, fs, t, rfl, rfl, j0, hl, D⟩ ht
  rintro n s ⟨i, hb, h, fs, t, hn, rfl, j, hl, D⟩
  have hI : h.IsListIter I l i := D.at .z
  have hL : h.IsList l vs.toArray := IsList.kp hl D.keep
  by_cases hi : i < vs.length
  · have hlI : l ≠ I := by
      intro z
      obtain ⟨o, e, _⟩ := hl
      rw [z, (D.ok _ (.head _)).2] at e; cases e
    refine wpAny_pyNext_list_item (s := ⟨h, gs, d, t, os⟩) hI hL (x := vs[i]) (by simp [hi]) fun h' hit hs => ?_
    refine wpAny_mono (turn _ i vs[i] hb h' fs t (by simp [hi]) j hl (D.turn (c' := .itr l (i + 1)) .z hs.extBut hit)) (fun _ s₂ x => wpAny_mono x (fun f s₃ z => ?_) fun _ _ y => y) fun _ _ y => y
    cases f with
    | next => obtain ⟨hb', h', fs', t', rfl, j', hl', D'⟩ := z; exact ⟨n - 1, s_lt hn hi, i + 1, hb', h', fs', t', s_eq hn hi, rfl, j', hl', D'⟩
    | cont => obtain ⟨hb', h', fs', t', rfl, j', hl', D'⟩ := z; exact ⟨n - 1, s_lt hn hi, i + 1, hb', h', fs', t', s_eq hn hi, rfl, j', hl', D'⟩
    | brk => exact z
    | ret v => exact z
  · have hv : i = vs.length := s_end hn (Nat.le_of_not_lt hi)
    subst hv
    refine wpAny_pyNext_list_end (s := ⟨h, gs, d, t, os⟩) hA hI hL (by simp) fun h' hs => ?_
    refine wpAny_execs_nil (done hb h' fs t j ?_)
    have n0 := (D.ok _ (.head _)).2
    have D' := D.tail
    have nd := D.nd
    rw [List.map_cons, List.nodup_cons] at nd
    exact ⟨fun b o e => hs b o (fun z => by subst z; rw [n0] at e; cases e) (D'.keep b o e), fun p hp => ⟨Cl.mv (D'.ok p hp).1 fun o e => hs _ o (fun z => nd.1 (List.mem_map.mpr ⟨p, hp, z⟩)) e, (D'.ok p hp).2⟩, D'.nd⟩
theorem r_for {target : Expr} {body : List Stmt} {l : Addr} {vs : List Value} {Q : Flow → Shared → Prop} (J : Nat → Heap → List (Addr × Cl) → Prop) (D : Sl prog w h₀ h fs) (hA : A.handled = none) (hl : h₀.IsList l vs.toArray)
    (ht : ∀ it v, letOwnedTupleGo target it v = pure ()) (j0 : J 0 h₀ fs)
    (turn : ∀ (En : Value → Shared → Prop) i v I hb h fs t, vs[i]? = some v → J i hb fs → hb.IsList l vs.toArray → Sl prog w hb h ((I, .itr l (i + 1)) :: fs) →
      wpAny (model prog w) A (assign target env v) (fun _ s₂ => wpAny (model prog w) A (execs body env) (LoopP prog w gs d os J I l vs i Q) En s₂) En ⟨h, gs, d, t, os⟩)
    (done : ∀ hb h fs t, J vs.length hb fs → Sl prog w hb h fs → Q .next ⟨h, gs, d, t, os⟩) :
    wpAny (model prog w) A (pyIter (.ref l)) (fun it s₂ => codeAny (model prog w) A (.forLoop target it body [] env) (fun r s' => match r with | .ok f => Q f s' | .error e => cameBackBy (model prog w) A env E e s') s₂) E ⟨h, gs, d, t, os⟩ := by
  refine wpAny_pyIter_list (s := ⟨h, gs, d, t, os⟩) (IsList.kp hl D.keep) ?_
  exact c_forI J (D.push (c := .itr l 0) ⟨_, Heap.get?_push_size _ rfl, rfl, rfl⟩) hA hl (ht _) j0 (fun En i v hb h fs t a b c e => turn En i v _ hb h fs t a b c e) done
noncomputable def TextsAre : List Value → List Str → Prop
  | [], [] => True
  | v :: vs, x :: xs => (∃ u, v = .str x u) ∧ TextsAre vs xs
  | _, _ => False
theorem TextsAre.at : ∀ {vs : List Value} {xs : List Str} {k : Nat}, TextsAre vs xs → k < xs.length → ∃ u, vs[k]? = some (.str (xs.getD k (Str.ofString "")) u)
  | [], [], k, _, h => absurd h (Nat.not_lt_zero k)
  | v :: vs, x :: xs, 0, h, _ => let ⟨⟨u, e⟩, _⟩ := h; ⟨u, by rw [e]; rfl⟩
  | v :: vs, x :: xs, k + 1, h, hk => by
    have ⟨u, e⟩ := TextsAre.at (k := k) h.2 (by simpa using hk)
    exact ⟨u, by simpa using e⟩
theorem r_menu {value slice : Expr} {i : Nat} {o : Addr} {vs : List Value} {k : Int} {u : Tok} (xs : List Str) {Q : Value → Shared → Prop} (D : Sl prog w h₀ h fs) (hi : AtI fs i (o, .lst vs)) (hx : TextsAre vs xs) (h0 : 0 ≤ k) (h1 : k < xs.length) (hz : xs.length ≤ 1000)
    (q : ∀ v, Q (.str (xs.getD k.toNat (Str.ofString "")) v) ⟨h, gs, d, t, os⟩) (hs : subscripted slice false (.ref o) (.int k u) = operate [.ref o, .int k u] (getItem (.ref o) (.int k u)) := by with_unfolding_all rfl) : wpAny (model prog w) A (subscriptTail value slice (.ref o) (.int k u)) Q E ⟨h, gs, d, t, os⟩ := by
  obtain ⟨v, e⟩ := hx.at (k := k.toNat) (by omega)
  exact r_litem D hi h0 (by omega) e (q v) hs
theorem r_replace {x y z : Str} {u v v' : Tok} {Q : Value → Shared → Prop} (hu : v ≠ 0) (hv : v' ≠ 0) (huv : v ≠ v') (hyz : (y == z) = false) (hb : x.length + (x.length + 1) * z.length ≤ 10000)
    (q : ∀ t' k, Q (.str (Txt.replace x y z) t') ⟨h, gs, d, k, os⟩) : wpAny (model prog w) A (call (.builtin "str.replace") [.str x u, .str y v, .str z v']) Q E ⟨h, gs, d, t, os⟩ := SC.replace hu hv huv hyz (by omega) (fun t' k => q t' k)
theorem r_cw {pos : Pos} {id : String} {self : Value} {e : Expr} {rest : List Expr} {Q : Value → Shared → Prop} {s : Shared} (x : wpAny (model prog w) A (spliced (backTo pos (starEach (e :: rest) env))) (fun vs s₁ => wpAny (model prog w) A (call (.builtin id) (self :: vs)) Q E s₁) E s)
    (he : starEach (e :: rest) env = (false, eval e env) :: starEach rest env := by rfl) (hp : (backTo pos (starEach rest env)).any (·.1) = false := by rfl) : wpAny (model prog w) A (callWith pos (.builtin id) [self] (backTo pos (starEach (e :: rest) env)) []) Q E s := callWith_method1 x he hp
theorem r_none_n {Q : Value → Shared → Prop} {s : Shared} (k : Q (.bool true) s) : wpAny (model prog w) A (compareOp .Is .none .none) Q E s := is_none k
theorem r_none_s {x : Str} {u : Tok} {Q : Value → Shared → Prop} {s : Shared} (k : Q (.bool false) s) : wpAny (model prog w) A (compareOp .Is (.str x u) .none) Q E s := is_none k
theorem r_din {i : Nat} {m : Str} {u : Tok} {dd : Addr} {kv : List (Str × Value)} {Q : Value → Shared → Prop} (D : Sl prog w h₀ h fs) (hi : AtI fs i (dd, .dct kv)) (hs : ∃ o, h₀.get? sysModules = some o)
    (k : Q (.bool (valueAt kv m).isSome) ⟨h, gs, d, t + 1, os⟩) : wpAny (model prog w) A (compareOp .In (.str m u) (.ref dd)) Q E ⟨h, gs, d, t, os⟩ :=
  wpAny_in_of (s := ⟨h, gs, d, t, os⟩) (knd := strKind prog w) (strKind_is prog w m u) (by
    obtain ⟨o, e⟩ := hs
    refine beq_eq_false_iff_ne.mpr fun z => ?_
    rw [← z, (D.ok _ hi.mem).2] at e; cases e) (Heap.DictOf.mapOf (D.at hi)) k
theorem r_dget {value slice : Expr} {i : Nat} {m : Str} {u : Tok} {dd : Addr} {kv : List (Str × Value)} {v : Value} {Q : Value → Shared → Prop} (D : Sl prog w h₀ h fs) (hi : AtI fs i (dd, .dct kv)) (hv : valueAt kv m = some v)
    (k : Q v ⟨h, gs, d, t + 1, os⟩) (hs : subscripted slice false (.ref dd) (.str m u) = operate [.ref dd, .str m u] (getItem (.ref dd) (.str m u)) := by with_unfolding_all rfl) : wpAny (model prog w) A (subscriptTail value slice (.ref dd) (.str m u)) Q E ⟨h, gs, d, t, os⟩ :=
  have hd : h.DictOf (strKind prog w) dd kv := D.at hi
  tail_any (s := ⟨h, gs, d, t, os⟩) hd.typeIs slot_dict_getitem.lookup (wpAny_getItem_of (s := ⟨h, gs, d, t, os⟩) (strKind_is prog w m u) hd.mapOf hv k) hs
theorem r_dset {i : Nat} {m : Str} {u : Tok} {dd : Addr} {kv : List (Str × Value)} {v : Value} {Q : Unit → Shared → Prop} (D : Sl prog w h₀ h fs) (hi : AtI fs i (dd, .dct kv)) (hz : kv.length ≤ 1000)
    (k : ∀ h', Sl prog w h₀ h' (fs.set i (dd, .dct (stored kv m v))) → Q () ⟨h', gs, d, t + 1, os⟩) : wpAny (model prog w) A (setItem (.ref dd) (.str m u) v) Q E ⟨h, gs, d, t, os⟩ :=
  have hd : h.DictOf (strKind prog w) dd kv := D.at hi
  wpAny_setItem_pairs (s := ⟨h, gs, d, t, os⟩) (strKind_is prog w m u) hd (fun h' p s => k h' (D.turn hi s.extBut p)) (zl (by assumption))
theorem r_swith {x y : Str} {u v : Tok} {Q : Value → Shared → Prop} {s : Shared} (k : Q (.bool (Txt.startswith x y)) s) : wpAny (model prog w) A (call (.builtin "str.startswith") [.str x u, .str y v]) Q E s := SC.startswith k
theorem find_own {K : Frag} {C : Addr} {o : Obj} {cd : ClassData} {name : Str} {v : Value} (hc : clsIn K C = some cd) (ha : findIn K (.ref C) name = some none) (hd : cd.hasDict = true) (hl : lookIn name o = some (some v)) : findObj K C (some o) name = some (.value v) := by
  unfold findObj
  rw [hc]
  simp [ha, W.ownOf, hd, hl]
theorem r_attr {K : Params → Frag} {x C dx : Addr} {od : Obj} {cd : ClassData} {name : Str} {v : Value} {Q : Value → Shared → Prop} (D : Sl prog w h₀ h fs) (G : Gd w.params K h₀) (hx : h₀.get? x = some (instObj C dx)) (hdx : h₀.get? dx = some od) (hl : lookIn name od = some (some v))
    (hc : clsIn (K w.params) C = some cd) (ha : findIn (K w.params) (.ref C) name = some none) (hd : cd.hasDict = true) (hga : findIn (K w.params) (.ref C) "__getattribute__" = some (some (.builtin "object.__getattribute__"))) (hh : handedIn v = true)
    (k : Q v ⟨h, gs, d, t + 1, os⟩) {b : Bool} : wpAny (model prog w) A (getAttr (.ref x) name b) Q E ⟨h, gs, d, t, os⟩ :=
  get_value (s := ⟨h, gs, d, t, os⟩) (G.keeps D.keep).X ⟨D.keep _ _ hx, rfl, rfl, D.keep _ _ hdx⟩ hga (find_own hc ha hd hl) hh k
theorem r_Attr {x attr : Str} {xp pos : Pos} {Q : Value → Shared → Prop} {s : Shared} (k : wpAny (model prog w) A (eval (.Name x xp) env) (fun o s₁ => wpAny (model prog w) A (getAttr o attr true) Q E s₁) E s) : wpAny (model prog w) A (eval (.Attribute (.Name x xp) attr pos) env) Q E s := Attribute_name k
end
end Mine
end PAR
section PFD
namespace Mine
noncomputable abbrev S (x : String) : Str := Str.ofString x
noncomputable def PathIs (x : Option Str) (v : Value) : Prop := match x with
  | none => v = .none
  | some x => ∃ u, v = .str x u
theorem fn_28 (P : Params) : FnOk hK P 28 fd28 bd28 := ⟨by kernel_rfl, by kernel_rfl, by kernel_rfl, by kernel_rfl, by kernel_rfl, by kernel_rfl, by kernel_rfl⟩
theorem fn_35 (P : Params) : FnOk hK P 35 fd35 bd35 := ⟨by kernel_rfl, by kernel_rfl, by kernel_rfl, by kernel_rfl, by kernel_rfl, by kernel_rfl, by kernel_rfl⟩
theorem fn_42 (P : Params) : FnOk hK P 42 fd42 bd42 := ⟨by kernel_rfl, by kernel_rfl, by kernel_rfl, by kernel_rfl, by kernel_rfl, by kernel_rfl, by kernel_rfl⟩
theorem fn_49 (P : Params) : FnOk hK P 49 fd49 bd49 := ⟨by kernel_rfl, by kernel_rfl, by kernel_rfl, by kernel_rfl, by kernel_rfl, by kernel_rfl, by kernel_rfl⟩
theorem fn_56 (P : Params) : FnOk hK P 56 fd56 bd56 := ⟨by kernel_rfl, by kernel_rfl, by kernel_rfl, by kernel_rfl, by kernel_rfl, by kernel_rfl, by kernel_rfl⟩
theorem fn_69 (P : Params) : FnOk hK P 69 fd69 bd69 := ⟨by kernel_rfl, by kernel_rfl, by kernel_rfl, by kernel_rfl, by kernel_rfl, by kernel_rfl, by kernel_rfl⟩
theorem fn_76 (P : Params) : FnOk hK P 76 fd76 bd76 := ⟨by kernel_rfl, by kernel_rfl, by kernel_rfl, by kernel_rfl, by kernel_rfl, by kernel_rfl, by kernel_rfl⟩
theorem fn_99 (P : Params) : FnOk hK P 99 fd99 bd99 := ⟨by kernel_rfl, by kernel_rfl, by kernel_rfl, by kernel_rfl, by kernel_rfl, by kernel_rfl, by kernel_rfl⟩
theorem fn_106 (P : Params) : FnOk hK P 106 fd106 bd106 := ⟨by kernel_rfl, by kernel_rfl, by kernel_rfl, by kernel_rfl, by kernel_rfl, by kernel_rfl, by kernel_rfl⟩
theorem fn_113 (P : Params) : FnOk hK P 113 fd113 bd113 := ⟨by kernel_rfl, by kernel_rfl, by kernel_rfl, by kernel_rfl, by kernel_rfl, by kernel_rfl, by kernel_rfl⟩
theorem fn_120 (P : Params) : FnOk hK P 120 fd120 bd120 := ⟨by kernel_rfl, by kernel_rfl, by kernel_rfl, by kernel_rfl, by kernel_rfl, by kernel_rfl, by kernel_rfl⟩
theorem fn_127 (P : Params) : FnOk hK P 127 fd127 bd127 := ⟨by kernel_rfl, by kernel_rfl, by kernel_rfl, by kernel_rfl, by kernel_rfl, by kernel_rfl, by kernel_rfl⟩
theorem fn_134 (P : Params) : FnOk hK P 134 fd134 bd134 := ⟨by kernel_rfl, by kernel_rfl, by kernel_rfl, by kernel_rfl, by kernel_rfl, by kernel_rfl, by kernel_rfl⟩
theorem fn_141 (P : Params) : FnOk hK P 141 fd141 bd141 := ⟨by kernel_rfl, by kernel_rfl, by kernel_rfl, by kernel_rfl, by kernel_rfl, by kernel_rfl, by kernel_rfl⟩
theorem fn_158 (P : Params) : FnOk hK P 158 fd158 bd158 := ⟨by kernel_rfl, by kernel_rfl, by kernel_rfl, by kernel_rfl, by kernel_rfl, by kernel_rfl, by kernel_rfl⟩
theorem gl_sep (P : Params) : nsIn (hK P) mainGlobals (Str.ofString "sep") = some (some (.str (Str.ofString "/") 194)) := by kernel_rfl
theorem glU_kind (P : Params) : nsIn (hK P) mainGlobals (Str.ofString "_kind") = some (some (.ref 28)) := by kernel_rfl
theorem glU_c_path (P : Params) : nsIn (hK P) mainGlobals (Str.ofString "_c_path") = some (some (.ref 35)) := by kernel_rfl
theorem glU_splitroot (P : Params) : nsIn (hK P) mainGlobals (Str.ofString "_splitroot") = some (some (.ref 42)) := by kernel_rfl
theorem glU_normpath (P : Params) : nsIn (hK P) mainGlobals (Str.ofString "_normpath") = some (some (.ref 49)) := by kernel_rfl
theorem gl_normpath (P : Params) : nsIn (hK P) mainGlobals (Str.ofString "normpath") = some (some (.ref 56)) := by kernel_rfl
theorem glU_Ignore (P : Params) : nsIn (hK P) mainGlobals (Str.ofString "_Ignore") = some (some (.ref 79)) := by kernel_rfl
theorem gl_cmp_to_key (P : Params) : nsIn (hK P) mainGlobals (Str.ofString "cmp_to_key") = some (some (.ref 90)) := by kernel_rfl
theorem glU_initial_missing (P : Params) : nsIn (hK P) mainGlobals (Str.ofString "_initial_missing") = some (some (.ref 91)) := by kernel_rfl
theorem gl_reduce (P : Params) : nsIn (hK P) mainGlobals (Str.ofString "reduce") = some (some (.ref 99)) := by kernel_rfl
theorem gl_heappush (P : Params) : nsIn (hK P) mainGlobals (Str.ofString "heappush") = some (some (.ref 106)) := by kernel_rfl
theorem gl_heappop (P : Params) : nsIn (hK P) mainGlobals (Str.ofString "heappop") = some (some (.ref 113)) := by kernel_rfl
theorem glU_siftdown (P : Params) : nsIn (hK P) mainGlobals (Str.ofString "_siftdown") = some (some (.ref 120)) := by kernel_rfl
theorem glU_siftup (P : Params) : nsIn (hK P) mainGlobals (Str.ofString "_siftup") = some (some (.ref 127)) := by kernel_rfl
theorem glU_law_events (P : Params) : nsIn (hK P) mainGlobals (Str.ofString "_law_events") = some (some (.ref 134)) := by kernel_rfl
theorem glU_law_counted (P : Params) : nsIn (hK P) mainGlobals (Str.ofString "_law_counted") = some (some (.ref 141)) := by kernel_rfl
theorem glU_law_due (P : Params) : nsIn (hK P) mainGlobals (Str.ofString "_law_due") = some (some (.ref 146)) := by kernel_rfl
theorem glU_law_emptied (P : Params) : nsIn (hK P) mainGlobals (Str.ofString "_law_emptied") = some (some (.ref 151)) := by kernel_rfl
theorem glU_law_compare (P : Params) : nsIn (hK P) mainGlobals (Str.ofString "_law_compare") = some (some (.ref 158)) := by kernel_rfl
theorem gn_len (P : Params) : nsIn (hK P) mainGlobals (Str.ofString "len") = some none := by kernel_rfl
theorem gb_len : bootBuiltins (Str.ofString "len") = some (.builtin "len") := PySem.boot_len
theorem gn_str (P : Params) : nsIn (hK P) mainGlobals (Str.ofString "str") = some none := by kernel_rfl
theorem gb_str : bootBuiltins (Str.ofString "str") = some (.type "str") := PyProof.Rows.boot_str
theorem gn_iter (P : Params) : nsIn (hK P) mainGlobals (Str.ofString "iter") = some none := by kernel_rfl
theorem gb_iter : bootBuiltins (Str.ofString "iter") = some (.builtin "iter") := PyProof.Rows.boot_iter
theorem gn_sorted (P : Params) : nsIn (hK P) mainGlobals (Str.ofString "sorted") = some none := by kernel_rfl
theorem gb_sorted : bootBuiltins (Str.ofString "sorted") = some (.builtin "sorted") := PyProof.Rows.boot_sorted
theorem gn_list (P : Params) : nsIn (hK P) mainGlobals (Str.ofString "list") = some none := by kernel_rfl
theorem gb_list : bootBuiltins (Str.ofString "list") = some (.type "list") := PyProof.Rows.boot_list
theorem gn_map (P : Params) : nsIn (hK P) mainGlobals (Str.ofString "map") = some none := by kernel_rfl
theorem gb_map : bootBuiltins (Str.ofString "map") = some (.type "map") := PyProof.Rows.boot_map
theorem gn_set (P : Params) : nsIn (hK P) mainGlobals (Str.ofString "set") = some none := by kernel_rfl
theorem gb_set : bootBuiltins (Str.ofString "set") = some (.type "set") := PyProof.Rows.boot_set
theorem gn_type (P : Params) : nsIn (hK P) mainGlobals (Str.ofString "type") = some none := by kernel_rfl
theorem gb_type : bootBuiltins (Str.ofString "type") = some (.type "type") := PyProof.Rows.boot_type
theorem gn_int (P : Params) : nsIn (hK P) mainGlobals (Str.ofString "int") = some none := by kernel_rfl
theorem gb_int : bootBuiltins (Str.ofString "int") = some (.type "int") := PyProof.Rows.boot_int
end Mine
end PFD
section PLA
namespace Mine
section
variable {prog : Program} {w : World} {A : Around} {h₀ h : Heap} {fs : List (Addr × Cl)} {gs : Array GenState} {d : Drawn} {t : Nat} {os : OsState} {E : Value → Shared → Prop} {R : Result → Shared → Prop}
noncomputable def cmpT (m1 : Str) (n1 : Int) (m2 : Str) (n2 : Int) : Int := if n1 ≠ n2 then n2 - n1 else if m1.cps.toList < m2.cps.toList then -1 else if m1.cps.toList > m2.cps.toList then 1 else 0
theorem lcmp {o1 o2 : Addr} {m1 m2 : Str} {u1 u2 v1 v2 : Tok} {n1 n2 : Int} (D : Sl prog w h₀ h fs) (G : Gd w.params hK h₀) (hroom : A.depth + 1 < recursionLimit)
   (h1 : IsTup h₀ o1 #[.str m1 u1, .int n1 v1]) (h2 : IsTup h₀ o2 #[.str m2 u2, .int n2 v2])
   (k : ∀ h' tk tk', Sl prog w h₀ h' fs → R (.ok (.ret (.int (cmpT m1 n1 m2 n2) tk'))) ⟨h', gs, d, tk, os⟩) :
   codeAny (model prog w) A (.call (.ref 158) ⟨[.ref o1, .ref o2], []⟩) R ⟨h, gs, d, t, os⟩ := by
  refine r_call [(Str.ofString "one", .ref o1), (Str.ofString "other", .ref o2)] [(Str.ofString "other", .ref o2), (Str.ofString "one", .ref o1)] 2 D G (fn_158 w.params) (d00 hroom) (by kernel_rfl) ⟨rfl, rfl⟩ (by kernel_rfl) (fun L h' D => ?_)
  with_unfolding_all change wpAny _ _ (execs (_ :: _) _) _ _ _
  repeat' (first
  | walk_at "b W"
  | ((with_reducible refine' r_titem D ?ho ?a ?b ?c ?d ?_ ?e); (case ho => first | exact h1 | exact h2); (case a => decide); (case b => decide); (case c => exact rfl); (case d => exact rfl); (case e => with_unfolding_all rfl))
  | with_reducible refine iteB (fun hc => ?_) (fun hc => ?_)
  | fail)
  · have e : cmpT m1 n1 m2 n2 = n2 - n1 := by unfold cmpT; rw [if_pos (by simpa using hc)]
    exact e ▸ k _ _ _ D.tail
  · have e : cmpT m1 n1 m2 n2 = -1 := by unfold cmpT; rw [if_neg (by simpa using ‹(n1 != n2) = false›), if_pos (of_decide_eq_true ‹decide (m1.cps.toList < m2.cps.toList) = true›)]
    exact e ▸ k _ _ _ D.tail
  · have e : cmpT m1 n1 m2 n2 = 1 := by unfold cmpT; rw [if_neg (by simpa using ‹(n1 != n2) = false›), if_neg (of_decide_eq_false ‹decide (m1.cps.toList < m2.cps.toList) = false›), if_pos (of_decide_eq_true ‹decide (m2.cps.toList < m1.cps.toList) = true›)]
    exact e ▸ k _ _ _ D.tail
  · have e : cmpT m1 n1 m2 n2 = 0 := by unfold cmpT; rw [if_neg (by simpa using ‹(n1 != n2) = false›), if_neg (of_decide_eq_false ‹decide (m1.cps.toList < m2.cps.toList) = false›), if_neg (of_decide_eq_false ‹decide (m2.cps.toList < m1.cps.toList) = false›)]
    exact e ▸ k _ _ _ D.tail
end
end Mine
end PLA
section PRD
namespace Mine
section
variable {prog : Program} {w : World} {A : Around} {h₀ h : Heap} {fs : List (Addr × Cl)} {gs : Array GenState} {d : Drawn} {t : Nat} {os : OsState} {E : Value → Shared → Prop} {R : Result → Shared → Prop} {env : Env}
noncomputable def SetA (prog : Program) (w : World) (h : Heap) (ms : Addr) : Prop := h.SetOf (strKind prog w) ms (fun k => decide (k = S "a")) 1 ∧
  ∃ u hh ep p dm fg mv pl mk, h.get? ms = some ⟨.type "set", none, .set #[(hh, .str (S "a") u)] ep ⟨mk, #[p], dm, fg, !(w.params.followText "set-order"), mv, pl⟩, #[]⟩ ∧ dm.size + 1 ≤ mk
theorem SetA.up {h h' : Heap} {ms : Addr} (x : SetA prog w h ms) (k : ∀ b o, h.get? b = some o → h'.get? b = some o) : SetA prog w h' ms :=
  ⟨x.1.imp fun o => Exists.imp fun es => Exists.imp fun ep => Exists.imp fun t a => ⟨k _ _ a.1, a.2⟩,
   x.2.imp fun u => Exists.imp fun hh => Exists.imp fun ep => Exists.imp fun p => Exists.imp fun dm => Exists.imp fun fg => Exists.imp fun mv => Exists.imp fun pl => Exists.imp fun mk a => ⟨k _ _ a.1, a.2⟩⟩
noncomputable def RdAt (prog : Program) (w : World) (h : Heap) (x ig : Addr) : Prop := ∃ dx od ms ds u, h.get? x = some (instObj 79 dx) ∧ h.get? dx = some od ∧ lookIn (S "_mods") od = some (some (.ref ms)) ∧ lookIn (S "_dirs") od = some (some (.ref ds)) ∧
  lookIn (S "_ignore") od = some (some (.ref ig)) ∧ lookIn (S "names") od = some none ∧ SetA prog w h ms ∧ h.IsList ds #[.str (S "/x") u]
theorem RdAt.up {h h' : Heap} {x ig : Addr} (r : RdAt prog w h x ig) (k : ∀ b o, h.get? b = some o → h'.get? b = some o) : RdAt prog w h' x ig :=
  r.imp fun dx => Exists.imp fun od => Exists.imp fun ms => Exists.imp fun ds => Exists.imp fun u a => ⟨k _ _ a.1, k _ _ a.2.1, a.2.2.1, a.2.2.2.1, a.2.2.2.2.1, a.2.2.2.2.2.1, SetA.up a.2.2.2.2.2.2.1 k, IsList.kp a.2.2.2.2.2.2.2 k⟩
noncomputable def cd79 (P : Params) : ClassData := match (((hK P).lookup 79).getD default).data with | .cls c => c | _ => default
theorem r_rattr {x dx : Addr} {od : Obj} {name : Str} {v : Value} {Q : Value → Shared → Prop} (D : Sl prog w h₀ h fs) (G : Gd w.params hK h₀) (hx : h₀.get? x = some (instObj 79 dx)) (hdx : h₀.get? dx = some od) (hl : lookIn name od = some (some v))
    (ha : findIn (hK w.params) (.ref 79) name = some none) (hh : handedIn v = true) (k : Q v ⟨h, gs, d, t + 1, os⟩) {b : Bool} : wpAny (model prog w) A (getAttr (.ref x) name b) Q E ⟨h, gs, d, t, os⟩ :=
  r_attr (cd := cd79 w.params) D G hx hdx hl (by kernel_rfl) ha (by kernel_rfl) (by kernel_rfl) hh k
theorem r_inA {m : Str} {u : Tok} {ms : Addr} {Q : Value → Shared → Prop} (D : Sl prog w h₀ h fs) (SA : SetA prog w h₀ ms) (k : Q (.bool (decide (m = S "a"))) ⟨h, gs, d, t + 1, os⟩) : wpAny (model prog w) A (compareOp .In (.str m u) (.ref ms)) Q E ⟨h, gs, d, t, os⟩ :=
  wpAny_inSet_of (s := ⟨h, gs, d, t, os⟩) (knd := strKind prog w) (strKind_is prog w m u) rfl (SA.up D.keep).1 k
theorem entry_set_iter : entryFor table "set.__iter__" = some Builtin.«frozenset.__iter__» := entryFor_alias (id' := "frozenset.__iter__") (by rw [fastTable_eq_tree]; kernel_rfl) (by decide +kernel) (by decide +kernel) (by rw [fastTable_eq_tree]; kernel_rfl)
theorem entry_set_next : entryFor table "set_iterator.__next__" = some Builtin.«set_iterator.__next__» := entryFor_of_tree (by kernel_rfl)
theorem slot_set_iter : Slot "set" "__iter__" "set.__iter__" := PySem.F.slot_set_iter
theorem slot_set_next : Slot "set_iterator" "__next__" "set_iterator.__next__" := .of (owner := "set_iterator") (n := "__next__") (by rw [typeLookup_type, builtinLookup_eq_fast]; kernel_rfl) (by decide +kernel) (by decide +kernel) (by decide +kernel)
    (by first | exact .inl (by decide +kernel) | exact .inr (by decide +kernel)) (by rw [isSubtype_type]; kernel_rfl)
theorem args_set_iter (a : Value) : argsOk "set.__iter__" ⟨[a], []⟩ := PySem.F.args_set_iter_1 a
theorem args_set_next (a : Value) : argsOk "set_iterator.__next__" ⟨[a], []⟩ := by unfold argsOk; kernel_rfl
noncomputable def setO (P : Params) (u : Tok) (hh : Int) (ep p : Nat) (dm : Array Nat) (fg mv mk : Nat) (pl : Bool) : Obj := ⟨.type "set", none, .set #[(hh, .str (S "a") u)] ep ⟨mk, #[p], dm, fg, !(P.followText "set-order"), mv, pl⟩, #[]⟩
theorem w_setState {M : Model} {A : Around} {E : Value → Shared → Prop} {s : Shared} {ms : Addr} {P : Params} {u : Tok} {hh : Int} {ep p : Nat} {dm : Array Nat} {fg mv mk : Nat} {pl : Bool} (ho : s.heap.get? ms = some (setO P u hh ep p dm fg mv mk pl)) (hm : dm.size + 1 ≤ mk)
   {Q : Array (Int × Value) × Nat × SetTable → Shared → Prop} (k : Q (#[(hh, .str (S "a") u)], ep, ⟨mk, #[p], dm, fg, !(P.followText "set-order"), mv, pl⟩) s) : wpAny M A (setState ms) Q E s := by
  unfold setState
  refine wpAny_bind (wpAny_load ho ?_)
  show wpAny _ _ (if _ then _ else _) _ _ _
  rw [if_neg (by
    have : ¬ (SetTable.fill ⟨mk, #[p], dm, fg, !(P.followText "set-order"), mv, pl⟩ > mk) := by unfold SetTable.fill; show ¬ (1 + dm.size > mk); omega
    simp [this])]
  exact wpAny_pure k
noncomputable def sitO (first : Value) (i : Int) (over : Value) (ep : Nat) : Obj := ⟨.type "set_iterator", none, .fields #[first, .int i 0, over, .int 1 0, .int ep 0], #[]⟩
noncomputable def SetF (P : Params) (h : Heap) (ms : Addr) (ep i f : Nat) : Prop := ∃ u hh p dm fg mv pl mk, h.get? ms = some (setO P u hh ep p dm fg mv mk pl) ∧ dm.size + 1 ≤ mk ∧ (P.followText "set-order" = false → f = if i = 0 then 0 else p + 1)
noncomputable def SetE (P : Params) (h : Heap) (ms : Addr) (ep : Nat) : Prop := ∃ u hh p dm fg mv pl mk, h.get? ms = some (setO P u hh ep p dm fg mv mk pl) ∧ dm.size + 1 ≤ mk
theorem i_set {ms : Addr} {Q : Value → Shared → Prop} (D : Sl prog w h₀ h fs) (SA : SetA prog w h₀ ms)
   (k : ∀ I h' ep, SetE w.params h₀ ms ep → Sl prog w h₀ h' ((I, .obj (sitO (.int 0 0) 0 (.ref ms) ep)) :: fs) → Q (.ref I) ⟨h', gs, d, t, os⟩) : wpAny (model prog w) A (pyIter (.ref ms)) Q E ⟨h, gs, d, t, os⟩ := by
  obtain ⟨_, u, hh, ep, p, dm, fg, mv, pl, mk, ho, hm⟩ := SA
  have hoh := D.keep _ _ ho
  have hT : Shared.TypeIs ⟨h, gs, d, t, os⟩ (.ref ms) "set" := ⟨_, hoh, rfl⟩
  refine wpAny_pyIter_slot hT slot_set_iter (wpAny_call_entry slot_set_iter hT entry_set_iter ?_ (args_set_iter _))
  unfold Builtin.«frozenset.__iter__»
  refine wpAny_bind ?_
  repeat' (first | with_reducible exact w_setState hoh hm ?_ | with_reducible refine w_setState hoh hm ?_ | lk)
  rw [if_neg (by rw [Bool.and_eq_true]; rintro ⟨_, hd⟩; exact absurd (show (!pl && decide (1 > 1)) = true from hd) (by simp))]
  repeat' (first | with_reducible exact w_setState hoh hm ?_ | with_reducible refine w_setState hoh hm ?_ | with_reducible refine wpAny_newObj_type ?_ (by size_fits) | lk)
  refine ⟨_, rfl, _, _, ⟨_, Heap.get?_push_size _ rfl, rfl⟩, slot_set_next.lookup, k _ _ ep ⟨u, hh, p, dm, fg, mv, pl, mk, ho, hm⟩ (D.push (Heap.get?_push_size _ rfl))⟩
theorem w_setWalk {A : Around} {s : Shared} {ms : Addr} {u : Tok} {hh : Int} {ep p : Nat} {dm : Array Nat} {fg mv mk : Nat} {pl : Bool} (ho : s.heap.get? ms = some (setO w.params u hh ep p dm fg mv mk pl)) (hm : dm.size + 1 ≤ mk) (hft : w.params.followText "set-order" = true)
   {Q : Array (Int × Value) → Shared → Prop} (k : Q #[(hh, .str (S "a") u)] s) : wpAny (model prog w) A (setWalk ms) Q E s := by
  unfold setWalk
  refine wpAny_bind (w_setState ho hm ?_)
  refine wpAny_bind ?_
  unfold setsByText
  refine wpAny_bind (wpAny_askSetting (wpAny_pure ?_))
  show wpAny _ _ (if w.params.followText "set-order" = true then _ else _) _ _ _
  rw [if_pos hft]
  refine wpAny_bind (wpAny_askSetting (wpAny_pure ?_))
  have e : ∀ f : Nat → Nat, pickOrder f #[(hh, Value.str (S "a") u)] = #[(hh, .str (S "a") u)] := fun f => by
    unfold pickOrder pickOrder.go
    simp [Nat.mod_one, pickOrder.go]
  rw [e]
  exact k
theorem r_setField {i j : Nat} {a : Addr} {o o' : Obj} {vs : Array Value} {x : Value} {Q : Unit → Shared → Prop} (D : Sl prog w h₀ h fs) (hi : AtI fs i (a, .obj o)) (hd : o.data = .fields vs) (hj : j < vs.size) (ho' : Obj.mapFields (·.setIfInBounds j x) o = o')
   (k : ∀ h', Sl prog w h₀ h' (fs.set i (a, .obj o')) → Q () ⟨h', gs, d, t, os⟩) : wpAny (model prog w) A (setField (.ref a) j x) Q E ⟨h, gs, d, t, os⟩ :=
  have ho : h.get? a = some o := D.at hi
  wpAny_setField (s := ⟨h, gs, d, t, os⟩) ho hd hj (k _ (D.turn hi (Heap.SameBut.update ..).extBut (by
    show Heap.get? _ a = some o'
    rw [← ho']
    exact Heap.get?_update_self _ ho (Obj.isFreed_of_fields (Obj.data_mapFields hd _)))))
theorem w_setNext {A : Around} {s : Shared} {ms : Addr} {u : Tok} {hh : Int} {ep p : Nat} {dm : Array Nat} {fg mv mk : Nat} {pl : Bool} (ho : s.heap.get? ms = some (setO w.params u hh ep p dm fg mv mk pl)) (hm : dm.size + 1 ≤ mk) (i f : Nat) (hf : w.params.followText "set-order" = false → f = if i = 0 then 0 else p + 1) {a b c : Nat} (ha : a = f) (hb : b = i) (hc : c = ep)
   {Q : Option (Value × Nat) → Shared → Prop} (k0 : i = 0 → ∀ f', (w.params.followText "set-order" = false → f' = p + 1) → Q (some (.str (S "a") u, f')) s) (k1 : i ≠ 0 → Q none s) : wpAny (model prog w) A (setNext ms a b c) Q E s := by
  subst ha; subst hb; subst hc
  unfold setNext
  refine wpAny_bind (w_setState ho hm ?_)
  refine wpAny_bind ?_
  unfold setsByText
  refine wpAny_bind (wpAny_askSetting (wpAny_pure ?_))
  show wpAny _ _ (if w.params.followText "set-order" = true then _ else _) _ _ _
  cases hft : w.params.followText "set-order"
  · rw [if_neg Bool.false_ne_true]
    rw [if_neg (by intro hd; exact absurd (show (!pl && decide (1 > 1)) = true from hd) (by simp))]
    refine wpAny_bind ?_
    have := hf hft
    subst this
    lk
    have b0 : SetTable.below #[p] 0 = 0 := by unfold SetTable.below; simp [SetTable.below.go]
    have b1 : SetTable.below #[p] (p + 1) = 1 := by unfold SetTable.below; simp [SetTable.below.go]
    rw [if_neg (by simp)]
    refine wpAny_pure ?_
    dsimp only
    by_cases hi : b = 0
    · subst hi
      rw [if_pos rfl, b0]
      exact wpAny_pure (k0 rfl _ (fun _ => rfl))
    · rw [if_neg hi, b1]
      exact wpAny_pure (k1 hi)
  · rw [if_pos rfl, if_neg (by simp)]
    refine wpAny_bind (w_setWalk ho hm hft (wpAny_pure ?_))
    by_cases hi : b = 0
    · subst hi; exact k0 rfl _ (fun z => absurd (hft.symm.trans z) (by decide))
    · obtain ⟨j, rfl⟩ := Nat.exists_eq_succ_of_ne_zero hi
      exact k1 hi
noncomputable def nextP (prog : Program) (w : World) (h₀ : Heap) (gs : Array GenState) (d : Drawn) (t : Nat) (os : OsState) (fs : List (Addr × Cl)) (ms I : Addr) (i ep : Nat) (E : Value → Shared → Prop) (Q : Option Value → Shared → Prop) (h : Heap) : Prop :=
  (i = 0 → ∀ u h' f', SetF w.params h₀ ms ep 1 f' → Sl prog w h₀ h' ((I, .obj (sitO (.int (f' : Nat) 0) 1 (.ref ms) ep)) :: fs) → Q (some (.str (S "a") u)) ⟨h', gs, d, t, os⟩) ∧ (i ≠ 0 → ∀ h', Sl prog w h₀ h' fs → Q none ⟨h', gs, d, t, os⟩)
theorem n_set {ms I : Addr} {i f ep : Nat} {Q : Option Value → Shared → Prop} (D : Sl prog w h₀ h ((I, .obj (sitO (.int f 0) i (.ref ms) ep)) :: fs)) (hA : A.handled = none) (SE : SetF w.params h₀ ms ep i f)
   (k0 : i = 0 → ∀ u h' f', SetF w.params h₀ ms ep 1 f' → Sl prog w h₀ h' ((I, .obj (sitO (.int (f' : Nat) 0) 1 (.ref ms) ep)) :: fs) → Q (some (.str (S "a") u)) ⟨h', gs, d, t, os⟩)
   (k1 : i ≠ 0 → ∀ h', Sl prog w h₀ h' fs → Q none ⟨h', gs, d, t, os⟩) : wpAny (model prog w) A (pyNext (.ref I)) Q E ⟨h, gs, d, t, os⟩ := by
  obtain ⟨u, hh, p, dm, fg, mv, pl, mk, ho, hm, hf⟩ := SE
  have hoh := D.keep _ _ ho
  have hI : h.get? I = some (sitO (.int f 0) i (.ref ms) ep) := D.at .z
  have hT : Shared.TypeIs ⟨h, gs, d, t, os⟩ (.ref I) "set_iterator" := ⟨_, hI, rfl⟩
  unfold pyNext
  refine wpAny_bind (wpAny_attempt (wpAny_callSpecial?_slot (name := Str.ofString "__next__") hT slot_set_next (wpAny_call_entry slot_set_next hT entry_set_next ?_ (args_set_next _))))
  unfold Builtin.«set_iterator.__next__»
  refine wpAny_bind ?_
  repeat' (first | with_reducible refine w_setState hoh hm ?_ | with_reducible refine w_setNext hoh hm i f hf (Int.toNat_natCast _) (Int.toNat_natCast _) (Int.toNat_natCast _) ?_ ?_ | lk)
  · rintro rfl f' hf'
    refine wpAny_bind (r_setField D .z rfl (Nat.le_of_ble_eq_true rfl) rfl (fun h' D => ?_))
    refine wpAny_bind (r_setField D .z rfl (Nat.le_of_ble_eq_true rfl) rfl (fun h' D => ?_))
    exact wpAny_pure ⟨_, rfl, wpAny_pure (k0 rfl u h' f' ⟨u, hh, p, dm, fg, mv, pl, mk, ho, hm, hf'⟩ D)⟩
  · intro hi
    refine wpAny_bind (r_setField D .z rfl (Nat.le_of_ble_eq_true rfl) rfl (fun h' D => ?_))
    refine wpAny_bind ?_
    simp only [newExc, newTuple]
    refine wpAny_bind (wpAny_newObj_type ?_ (by size_fits))
    refine wpAny_bind (m := firstArgMember _ _) (wpAny_of_eq (a := Value.none) (by first | rfl | (simp only [firstArgMember]; rfl)) ?_)
    refine wpAny_newObj_type ?_ (by size_fits)
    simp only [raiseNew]
    refine wpAny_bind (wpAny_handled ?_)
    rw [show A.in1.handled = none from hA]
    refine wpAny_bind (wpAny_pure (wpAny_throw ?_))
    refine wpAny_bind (wpAny_isInstance (T := "StopIteration") (b := true) ⟨_, Heap.get?_push_size _ rfl, rfl⟩ isSubtype_stop ?_)
    exact wpAny_pure (k1 hi _ (D.tail.grow fun b o e => Heap.get?_push_of_some _ (Heap.get?_push_of_some _ e)))
noncomputable def SetP (prog : Program) (w : World) (h₀ : Heap) (gs : Array GenState) (d : Drawn) (os : OsState) (P : List (Addr × Cl) → Prop) (I : Addr) (o : Obj) (Q : Flow → Shared → Prop) (f : Flow) (s : Shared) : Prop := match f with
  | .next | .cont => ∃ h fs t, s = ⟨h, gs, d, t, os⟩ ∧ P fs ∧ Sl prog w h₀ h ((I, .obj o) :: fs)
  | .brk => Q .next s
  | .ret v => Q (.ret v) s
theorem r_forset {target : Expr} {body : List Stmt} {ms : Addr} {Q : Flow → Shared → Prop} (P : List (Addr × Cl) → Prop) (D : Sl prog w h₀ h fs) (hA : A.handled = none) (SA : SetA prog w h₀ ms) (ht : ∀ it v, letOwnedTupleGo target it v = pure ())
    (turn : ∀ (En : Value → Shared → Prop) I o h u t, Sl prog w h₀ h ((I, .obj o) :: fs) → wpAny (model prog w) A (assign target env (.str (S "a") u)) (fun _ s₂ => wpAny (model prog w) A (execs body env) (SetP prog w h₀ gs d os P I o Q) En s₂) En ⟨h, gs, d, t, os⟩)
    (done : ∀ h fs t, P fs → Sl prog w h₀ h fs → Q .next ⟨h, gs, d, t, os⟩) :
    wpAny (model prog w) A (pyIter (.ref ms)) (fun it s₂ => codeAny (model prog w) A (.forLoop target it body [] env) (fun r s' => match r with | .ok f => Q f s' | .error e => cameBackBy (model prog w) A env E e s') s₂) E ⟨h, gs, d, t, os⟩ := by
  refine i_set D SA (fun I h' ep SE D => ?_)
  refine codeAny_forLoop (fun n s => ∃ h f t fs', s = ⟨h, gs, d, t, os⟩ ∧ SetF w.params h₀ ms ep (1 - n) f ∧ (n = 0 → P fs') ∧ (n = 1 → fs' = fs) ∧ n ≤ 1 ∧ Sl prog w h₀ h ((I, .obj (sitO (.int (f : Nat) 0) ((1 - n : Nat) : Int) (.ref ms) ep)) :: fs')) ?_ 1 ⟨h', 0, t, fs, rfl, ?_, fun z => absurd z (by decide), fun _ => rfl, Nat.le_refl _, ?_⟩ (ht _)
  · rintro n _ ⟨h, f, t, fs', rfl, SF, hP, hF, hn, D⟩
    refine n_set D hA SF (fun hi u h' f' SF' D2 => ?_) (fun hi h' D2 => ?_)
    · obtain rfl : n = 1 := by omega
      obtain rfl := hF rfl
      refine wpAny_mono (turn _ I _ h' u t D2) (fun _ s₂ x => wpAny_mono x (fun f s₃ z => ?_) fun _ _ y => y) fun _ _ y => y
      cases f with
      | next => obtain ⟨h3, fs3, t3, rfl, hp, D3⟩ := z; exact ⟨0, by decide, h3, f', t3, fs3, rfl, SF', fun _ => hp, fun z => absurd z (by decide), by decide, D3⟩
      | cont => obtain ⟨h3, fs3, t3, rfl, hp, D3⟩ := z; exact ⟨0, by decide, h3, f', t3, fs3, rfl, SF', fun _ => hp, fun z => absurd z (by decide), by decide, D3⟩
      | brk => exact z
      | ret v => exact z
    · obtain rfl : n = 0 := by omega
      exact wpAny_execs_nil (done h' fs' t (hP rfl) D2)
  · obtain ⟨u, hh, p, dm, fg, mv, pl, mk, a, b⟩ := SE
    exact ⟨u, hh, p, dm, fg, mv, pl, mk, a, b, fun _ => rfl⟩
  · exact D
end
end Mine
end PRD
section PA2
namespace Mine
inductive Rel {α : Type} (P : α → Value → Prop) : List (Str × Value) → List (Str × α) → Prop
  | nil : Rel P [] []
  | cons {m : Str} {v : Value} {a : α} {l r} : P a v → Rel P l r → Rel P ((m, v) :: l) ((m, a) :: r)
noncomputable def look {α : Type} (l : List (Str × α)) (m : Str) : Option α := (l.find? fun p => p.1 = m).map (·.2)
noncomputable def put {α : Type} (l : List (Str × α)) (m : Str) (a : α) : List (Str × α) := if l.any (fun p => p.1 = m) then l.map (fun p => if p.1 = m then (p.1, a) else p) else l ++ [(m, a)]
noncomputable def BV (b : Bool) (v : Value) : Prop := ∃ u, v = .int (if b then 1 else 0) u
noncomputable def IV (i : Int) (v : Value) : Prop := ∃ u, v = .int i u
section
variable {α : Type} {P : α → Value → Prop} {kv : List (Str × Value)} {kl : List (Str × α)}
theorem Rel.len (r : Rel P kv kl) : kv.length = kl.length := by induction r with | nil => rfl | cons _ _ ih => simp [ih]
theorem Rel.look (r : Rel P kv kl) (m : Str) : (valueAt kv m = none ∧ look kl m = none) ∨ ∃ v a, valueAt kv m = some v ∧ look kl m = some a ∧ P a v := by
  induction r with
  | nil => exact .inl ⟨rfl, rfl⟩
  | @cons n v a l r' p _ ih =>
    by_cases e : n = m
    · exact .inr ⟨v, a, by simp [valueAt, e], by simp [Mine.look, e], p⟩
    · simpa [valueAt, Mine.look, e] using ih
theorem Rel.any (r : Rel P kv kl) (m : Str) : kv.any (fun p => p.1 = m) = kl.any (fun p => p.1 = m) := by
  induction r with
  | nil => rfl
  | cons _ _ ih => simp [ih]
theorem Rel.map (r : Rel P kv kl) (m : Str) {v : Value} {a : α} (p : P a v) : Rel P (kv.map fun q => if q.1 = m then (q.1, v) else q) (kl.map fun q => if q.1 = m then (q.1, a) else q) := by
  induction r with
  | nil => exact .nil
  | @cons n v a l r' q _ ih =>
    rw [List.map_cons, List.map_cons]
    by_cases e : n = m
    · rw [if_pos e, if_pos e]; exact .cons p ih
    · rw [if_neg e, if_neg e]; exact .cons q ih
theorem Rel.app (r : Rel P kv kl) {m : Str} {v : Value} {a : α} (p : P a v) : Rel P (kv ++ [(m, v)]) (kl ++ [(m, a)]) := by
  induction r with
  | nil => exact .cons p .nil
  | cons q _ ih => exact .cons q ih
theorem Rel.put (r : Rel P kv kl) {m : Str} {v : Value} {a : α} (p : P a v) : Rel P (stored kv m v) (put kl m a) := by
  unfold stored Mine.put
  rw [r.any]
  split
  · exact r.map m p
  · exact r.app p
end
theorem put_len {α : Type} (l : List (Str × α)) (m : Str) (a : α) : (put l m a).length ≤ l.length + 1 := by unfold put; split <;> simp
section
variable {prog : Program} {w : World} {A : Around} {h₀ h : Heap} {fs : List (Addr × Cl)} {gs : Array GenState} {d : Drawn} {t : Nat} {os : OsState} {E : Value → Shared → Prop} {env : Env} {R : Result → Shared → Prop}
theorem r_unpack {elts : List Expr} {k : Nat} {pos : Pos} {tp : Addr} {vs : List Value} {Q : Unit → Shared → Prop} (D : Sl prog w h₀ h fs) (ht : IsTup h₀ tp vs.toArray) (hA : A.handled = none) (hn : (assignEach elts env).length = vs.length) (hs : (assignEach elts env).findIdx? (·.1) = none)
   (q : ∀ h', Sl prog w h₀ h' fs → wpAny (model prog w) A (assignInOrder ((assignEach elts env).map (·.2)) vs) Q E ⟨h', gs, d, t, os⟩) : wpAny (model prog w) A (assign (.Tuple elts k pos) env (.ref tp)) Q E ⟨h, gs, d, t, os⟩ :=
  assign_Tuple_tuple (s := ⟨h, gs, d, t, os⟩) hA (ht.keeps D.keep) (by simpa using hn) hs fun h' x => q h' (D.grow fun b o e => x b o (Nat.ne_of_lt (Heap.lt_size e)) e)
theorem r_cwK {K : Params → Frag} {f : Addr} {first : List Value} {pos : Pos} {e : Expr} {rest : List Expr} {Q : Value → Shared → Prop} (D : Sl prog w h₀ h fs) (G : Gd w.params K h₀) (hk : keepIn (K w.params) (.ref f) = true)
   (x : wpAny (model prog w) A (spliced (backTo pos (starEach (e :: rest) env))) (fun vs s₁ => (K w.params).In s₁.heap ∧ wpAny (model prog w) A (call (.ref f) (first ++ vs)) Q E s₁) E ⟨h, gs, d, t, os⟩)
    (he : starEach (e :: rest) env = (false, eval e env) :: starEach rest env := by rfl) (hp : (backTo pos (starEach rest env)).any (·.1) = false := by rfl) : wpAny (model prog w) A (callWith pos (.ref f) first (backTo pos (starEach (e :: rest) env)) []) Q E ⟨h, gs, d, t, os⟩ := callWith_K (G.keeps D.keep).X hk x he hp
theorem r_inK {K : Params → Frag} {P : Prop} (D : Sl prog w h₀ h fs) (G : Gd w.params K h₀) (x : P) : (K w.params).In h ∧ P := ⟨(G.keeps D.keep).X, x⟩
theorem r_callv {c : Addr} {vs : List Value} {kw : List (Str × Value)} {Q : Value → Shared → Prop} {s : Shared} (x : codeAny (model prog w) A (.call (.ref c) ⟨vs, kw⟩) (fun r s' => match r with | .ok (.ret v) => Q v s' | .ok _ => False | .error e => E e s') s) : wpAny (model prog w) A (call (.ref c) vs kw) Q E s := wpAny_call x
theorem r_meth {K : Params → Frag} {x C dx f : Addr} {od : Obj} {name : Str} {pl : Sem Bool} {Q : Value × List Value → Shared → Prop} (D : Sl prog w h₀ h fs) (G : Gd w.params K h₀) (hx : h₀.get? x = some (instObj C dx)) (hdx : h₀.get? dx = some od)
   (hga : findIn (K w.params) (.ref C) "__getattribute__" = some (some (.builtin "object.__getattribute__"))) (hk : findIn (K w.params) (.ref C) "__getattr__" = some none) (hf : findIn (K w.params) (.ref C) name = some (some (.ref f))) (ht : typeIn (K w.params) (.ref f) = some (.type "function")) (hl : lookIn name od = some none)
   (k : Q (.ref f, [.ref x]) ⟨h, gs, d, t, os⟩) : wpAny (model prog w) A (getMethod (.ref x) name pl) Q E ⟨h, gs, d, t, os⟩ :=
  method_fn (s := ⟨h, gs, d, t, os⟩) (G.keeps D.keep).X (C := C) (ox := instObj C dx) (od := some od) ⟨D.keep _ _ hx, rfl, rfl, D.keep _ _ hdx⟩ hga hk hf ht (by show (lookIn name od).map _ = _; rw [hl]; rfl) k
theorem r_str01 {b : Bool} {u : Tok} {Q : Value → Shared → Prop} (k : ∀ t' t, Q (.str (Str.ofString (if b then "1" else "0")) t') ⟨h, gs, d, t, os⟩) : wpAny (model prog w) A (call (.type "str") [.int (if b then 1 else 0) u]) Q E ⟨h, gs, d, t, os⟩ := by
  cases b
  · exact P.str_of_int (s := ⟨h, gs, d, t, os⟩) (by decide +kernel) (k _ _)
  · exact P.str_of_int (s := ⟨h, gs, d, t, os⟩) (by decide +kernel) (k _ _)
theorem r_mget {i : Nat} {dd : Addr} {kv : List (Str × Value)} {pl : Sem Bool} {Q : Value × List Value → Shared → Prop} (D : Sl prog w h₀ h fs) (hi : AtI fs i (dd, .dct kv)) (k : Q (.builtin "dict.get", [.ref dd]) ⟨h, gs, d, t, os⟩) : wpAny (model prog w) A (getMethod (.ref dd) (Str.ofString "get") pl) Q E ⟨h, gs, d, t, os⟩ :=
  have hd : h.DictOf (strKind prog w) dd kv := D.at hi
  getMethod_builtin (s := ⟨h, gs, d, t, os⟩) hd.typeIs PySem.F.plainAttrs_dict PySem.F.slot_dict_get PySem.F.type_dict_get hd.mapOf.noDict k
theorem r_dgetd {i : Nat} {m : Str} {u : Tok} {dd : Addr} {kv : List (Str × Value)} {v : Value} {Q : Value → Shared → Prop} (D : Sl prog w h₀ h fs) (hi : AtI fs i (dd, .dct kv)) (hs : ∃ o, h₀.get? sysModules = some o)
   (k : Q ((valueAt kv m).getD v) ⟨h, gs, d, t + 1, os⟩) : wpAny (model prog w) A (call (.builtin "dict.get") [.ref dd, .str m u, v]) Q E ⟨h, gs, d, t, os⟩ :=
  have hd : h.DictOf (strKind prog w) dd kv := D.at hi
  call_meetsIn (s := ⟨h, gs, d, t, os⟩) PySem.F.slot_dict_get hd.typeIs PySem.F.entry_dict_get (PySem.F.args_dict_get_3 _ _ _) (meets_dict_get_default (strKind prog w) dd (strKind_is prog w m u) (by
    obtain ⟨o, e⟩ := hs
    refine beq_eq_false_iff_ne.mpr fun z => ?_
    rw [← z, (D.ok _ hi.mem).2] at e; cases e) v) ⟨_, hd.mapOf, k⟩
theorem r_cw1 {pos : Pos} {id : String} {e : Expr} {rest : List Expr} {Q : Value → Shared → Prop} {s : Shared} (x : wpAny (model prog w) A (spliced (backTo pos (starEach (e :: rest) env))) (fun vs s₁ => wpAny (model prog w) A (call (.builtin id) vs) Q E s₁) E s)
    (he : starEach (e :: rest) env = (false, eval e env) :: starEach rest env := by rfl) (hp : (backTo pos (starEach rest env)).any (·.1) = false := by rfl) : wpAny (model prog w) A (callWith pos (.builtin id) [] (backTo pos (starEach (e :: rest) env)) []) Q E s := PyProof.Rows.callWith_builtin1 x he hp
theorem r_iter {l : Addr} {vs : List Value} {Q : Value → Shared → Prop} (D : Sl prog w h₀ h fs) (hl : h₀.IsList l vs.toArray) (k : ∀ I h', Sl prog w h₀ h' ((I, .itr l 0) :: fs) → Q (.ref I) ⟨h', gs, d, t, os⟩) : wpAny (model prog w) A (call (.builtin "iter") [.ref l]) Q E ⟨h, gs, d, t, os⟩ := by
  refine call_function_entry (by decide +kernel) (by decide +kernel) kdk_entry_iter (kdk_args_iter _) ?_
  unfold Builtin.«iter»
  refine wpAny_bind (m := someArgs "iter" 1 2 _) (wpAny_of_eq (a := [Value.ref l]) (by first | rfl | kernel_rfl!) ?_)
  show wpAny _ _ (pyIter (.ref l) >>= _) _ _ _
  refine wpAny_bind (wpAny_pyIter_list (s := ⟨h, gs, d, t, os⟩) (IsList.kp hl D.keep) ?_)
  exact wpAny_pure ⟨_, rfl, k _ _ (D.push (c := .itr l 0) ⟨_, Heap.get?_push_size _ rfl, rfl, rfl⟩)⟩
theorem r_isnot {x y : Addr} {ox oy : Obj} {Q : Value → Shared → Prop} (D : Sl prog w h₀ h fs) (hx : h₀.get? x = some ox) (hy : h₀.get? y = some oy) (hne : oy.cls ≠ ox.cls) (hnt : oy.cls ≠ .type "tuple") (k : Q (.bool false) ⟨h, gs, d, t, os⟩) : wpAny (model prog w) A (compareOp .Is (.ref x) (.ref y)) Q E ⟨h, gs, d, t, os⟩ := by
  have hxy : x ≠ y := fun z => by subst z; rw [hx] at hy; cases hy; exact hne rfl
  show wpAny _ _ (isSame (.ref x) (.ref y) >>= fun r => pure (Value.bool r)) _ _ _
  refine wpAny_bind ?_
  show wpAny _ _ (if (x == y) = true then pure true else _) _ _ _
  rw [if_neg (by simpa using hxy)]
  refine wpAny_bind (wpAny_load (s := ⟨h, gs, d, t, os⟩) (D.keep _ _ hx) (wpAny_bind (wpAny_load (s := ⟨h, gs, d, t, os⟩) (D.keep _ _ hy) ?_)))
  split
  · rename_i h1 _ _ _ _; exact absurd ‹oy.cls = _› hnt
  · exact wpAny_pure (wpAny_pure k)
theorem r_callB {K : Params → Frag} {a : Addr} {fd : FuncData} {body : List Stmt} {args : Args} (binds l : List (Str × Value)) (n : Nat) {R : Result → Shared → Prop} (D : Sl prog w h₀ h fs) (G : Gd w.params K h₀) (F : FnOk K w.params a fd body) (hroom : A.depth < recursionLimit)
    (hbind : BindsTo ⟨h, gs, d, t, os⟩ fd args binds) (hl : binds.reverse = l ∧ binds.length = n) (hloc : (binds.all fun x => fd.scope.names.lookup x.1 == some .local) = true)
    (k : ∀ {E' : Value → Shared → Prop} L h', Sl prog w h₀ h' ((L, .frm l) :: fs) → wpAny (model prog w) (A.deeper (callEnv fd L a)) (execs body (callEnv fd L a)) (fun f s' => R (.ok (.ret (match f with | .ret v => v | _ => .none))) s') E' ⟨h', gs, d, t + n, os⟩) :
    codeAny (model prog w) A (.call (.ref a) args) R ⟨h, gs, d, t, os⟩ := by
  obtain ⟨rfl, rfl⟩ := hl
  exact codeAny_call_def hroom (D.keep _ _ (G.X _ _ F.lk)) rfl (let ⟨mc, x, y⟩ := G.lim; ⟨mc, x.keeps D.keep, y⟩) ((codeRec_of G.X F.code).keeps D.keep) F.body hbind (fun x hx => by have := List.all_eq_true.mp F.cells x hx; simpa using this) (fun x hx => by have := List.all_eq_true.mp hloc x hx; simpa using this)
    (fun h' n kp => k h.objs.size h' (D.new (push_none h) kp n)) F.co F.gen F.kind
theorem r_forI {target : Expr} {body : List Stmt} {l I : Addr} {vs : List Value} {Q : Flow → Shared → Prop} (J : Nat → Heap → List (Addr × Cl) → Prop) (D : Sl prog w h₀ h ((I, .itr l 0) :: fs)) (hA : A.handled = none) (hl : h₀.IsList l vs.toArray)
    (ht : ∀ v, letOwnedTupleGo target (.ref I) v = pure ()) (j0 : J 0 h₀ fs)
    (turn : ∀ (En : Value → Shared → Prop) i v hb h fs t, vs[i]? = some v → J i hb fs → hb.IsList l vs.toArray → Sl prog w hb h ((I, .itr l (i + 1)) :: fs) →
      wpAny (model prog w) A (assign target env v) (fun _ s₂ => wpAny (model prog w) A (execs body env) (LoopP prog w gs d os J I l vs i Q) En s₂) En ⟨h, gs, d, t, os⟩)
    (done : ∀ hb h fs t, J vs.length hb fs → Sl prog w hb h fs → Q .next ⟨h, gs, d, t, os⟩) :
    wpAny (model prog w) A (pyIter (.ref I)) (fun it s₂ => codeAny (model prog w) A (.forLoop target it body [] env) (fun r s' => match r with | .ok f => Q f s' | .error e => cameBackBy (model prog w) A env E e s') s₂) E ⟨h, gs, d, t, os⟩ :=
  wpAny_pyIter_listiter (s := ⟨h, gs, d, t, os⟩) (D.at .z) (c_forI J D hA hl ht j0 turn done)
theorem Sl.rot3 {a b c : Addr × Cl} (D : Sl prog w h₀ h (a :: b :: c :: fs)) : Sl prog w h₀ h (b :: c :: a :: fs) := D.perm ((List.Perm.swap b a _).trans ((List.Perm.swap c a _).cons b))
theorem Sl.half {a b c e : Addr × Cl} (D : Sl prog w h₀ h (a :: b :: c :: e :: fs)) : Sl prog w h₀ h (c :: e :: a :: b :: fs) := D.perm (List.Perm.append_right fs (l₁ := [a, b, c, e]) (l₂ := [c, e, a, b]) (List.perm_append_comm (l₁ := [a, b]) (l₂ := [c, e])))
theorem Sl.unrot3 {a b c : Addr × Cl} (D : Sl prog w h₀ h (a :: b :: c :: fs)) : Sl prog w h₀ h (c :: a :: b :: fs) := D.rot3.rot3
end
end Mine
end PA2
section PKU
namespace Mine
noncomputable def kSt (i : Nat) : Option Stmt := match stAt 11 with
  | some (.FunctionDef _ _ (.ClassDef _ _ _ b _ _ _ _ _ _ _ :: _) _ _ _ _ _ _ _) => b[i]?
  | _ => none
noncomputable def fdK (i : Nat) (cl : List (Str × Addr)) (c : Addr) (tup doc : Value) : FuncData := match kSt i with
  | some (.FunctionDef name args body _ _ _ scope _ _ _) => { name := name, qualname := Str.ofString "cmp_to_key.<locals>.K." ++ name, params := args, body := .stmts body, scope := scope, globals := 3, closure := cl, defaults := .none, kwdefaults := .none, doc := doc, pyModule := .str (Str.ofString "law_oy0113_01") 362, code := .ref c, closureTuple := tup }
  | _ => default
noncomputable def bdK (i : Nat) : List Stmt := bdOf (kSt i)
noncomputable abbrev clsO (C ns b : Addr) (t2 t3 : Tok) : Obj := { cls := .type "type", data := .cls { name := Str.ofString "K", bases := [.type "object"], mro := [.ref C, .type "object"], ns := ns, qualname := Str.ofString "cmp_to_key.<locals>.K", hasDict := false, slotNames := [Str.ofString "obj"] }, slots := #[some (.ref b), none, some (.str (Str.ofString "K") t2), some (.str (Str.ofString "cmp_to_key.<locals>.K") t3), some (.builtin "object.__new__"), some (.bool false)] }
noncomputable abbrev mdO (C : Addr) (tk : Tok) : Obj := { cls := .type "member_descriptor", data := .fields #[.str (Str.ofString "obj") tk, .ref C, .builtin "proto.slot", .builtin "proto.slot#set", .int 0 0] }
noncomputable def nsL (P : Params) (sl sa md : Addr) (f : Nat → Addr) (u : Nat → Tok) (t : Nat) : List DictEntry :=
  [⟨PyData.keyHash P (Str.ofString "__module__"), .str (Str.ofString "__module__") (u 0), .str (Str.ofString "cpy313.functools") (u 1)⟩,
   ⟨PyData.keyHash P (Str.ofString "__firstlineno__"), .str (Str.ofString "__firstlineno__") (u 4), .int 98 (u 5)⟩,
   ⟨PyData.keyHash P (Str.ofString "__slots__"), .str (Str.ofString "__slots__") (u 6), .ref sl⟩,
   ⟨PyData.keyHash P (Str.ofString "__init__"), .str (Str.ofString "__init__") (u 7), .ref (f 0)⟩,
   ⟨PyData.keyHash P (Str.ofString "__lt__"), .str (Str.ofString "__lt__") (u 8), .ref (f 1)⟩,
   ⟨PyData.keyHash P (Str.ofString "__gt__"), .str (Str.ofString "__gt__") (u 9), .ref (f 2)⟩,
   ⟨PyData.keyHash P (Str.ofString "__eq__"), .str (Str.ofString "__eq__") (u 10), .ref (f 3)⟩,
   ⟨PyData.keyHash P (Str.ofString "__le__"), .str (Str.ofString "__le__") (u 11), .ref (f 4)⟩,
   ⟨PyData.keyHash P (Str.ofString "__ge__"), .str (Str.ofString "__ge__") (u 12), .ref (f 5)⟩,
   ⟨PyData.keyHash P (Str.ofString "__hash__"), .str (Str.ofString "__hash__") (u 13), .none⟩,
   ⟨PyData.keyHash P (Str.ofString "__static_attributes__"), .str (Str.ofString "__static_attributes__") (u 14), .ref sa⟩,
   ⟨PyData.keyHash P (Str.ofString "obj"), .str (Str.ofString "obj") (t + 1), .ref md⟩,
   ⟨PyData.keyHash P (Str.ofString "__doc__"), .str (Str.ofString "__doc__") (t + 2), .none⟩]
structure KA where
  (C md ns cell b sl sa : Addr)
  (f c : Nat → Addr)
  (x dc : Nat → Value)
  (u : Nat → Tok) (un t : Tok)
noncomputable abbrev fnO (fd : FuncData) : Obj := { cls := .type "function", data := .func fd }
noncomputable def KA.fd (r : KA) (i : Nat) : FuncData := fdK (i + 2) (if i = 0 then [] else [(Str.ofString "mycmp", r.cell)]) (r.c i) (r.x i) (r.dc i)
noncomputable def KA.frag (P : Params) (r : KA) : Frag := [(r.C, clsO r.C r.ns r.b r.un (r.u 3)), (r.md, mdO r.C r.t), (r.ns, { cls := .type "dict", data := .dict (nsL P r.sl r.sa r.md r.f r.u r.t).toArray 3 }),
  (r.f 0, fnO (r.fd 0)), (r.f 1, fnO (r.fd 1)), (r.f 2, fnO (r.fd 2)), (r.f 3, fnO (r.fd 3)), (r.f 4, fnO (r.fd 4)), (r.f 5, fnO (r.fd 5))]
noncomputable def kq (i : Nat) : Str := (fdK (i + 2) [] 0 .none .none).qualname
structure KOk (P : Params) (r : KA) (h : Heap) : Prop where
  at_ : ∀ p ∈ r.frag P, h.get? p.1 = some p.2
  nd : ((r.frag P).map (·.1)).Nodup
  code : ∀ i, i < 6 → h.CodeRec (.ref (r.c i)) (kq i)
  cel : h.IsCell r.cell (some (.ref 158))
theorem KOk.up {P : Params} {r : KA} {h h' : Heap} (K : KOk P r h) (k : ∀ b o, h.get? b = some o → h'.get? b = some o) : KOk P r h' := ⟨fun p hp => k _ _ (K.at_ p hp), K.nd, fun i hi => (K.code i hi).keeps k, K.cel.keeps k⟩
theorem look_mem {l : Frag} {a : Addr} {o : Obj} (e : l.lookup a = some o) : (a, o) ∈ l := PySem.W.mem_of_lookupK e
theorem look_of {l : Frag} {a : Addr} {o : Obj} (nd : (l.map (·.1)).Nodup) (m : (a, o) ∈ l) : l.lookup a = some o := by
  induction l with
  | nil => cases m
  | cons p l ih =>
    rw [List.map_cons, List.nodup_cons] at nd
    obtain ⟨b, o'⟩ := p
    rw [List.lookup_cons]
    rcases List.mem_cons.mp m with e | m
    · rw [(Prod.mk.inj e).1, (Prod.mk.inj e).2, beq_self_eq_true]
    · rw [show (a == b) = false from beq_eq_false_iff_ne.mpr fun z => nd.1 (z ▸ List.mem_map.mpr ⟨_, m, rfl⟩)]
      exact ih nd.2 m
theorem KOk.In {P : Params} {r : KA} {h : Heap} (K : KOk P r h) : (r.frag P).In h := fun a o e => K.at_ (a, o) (look_mem e)
section
variable {P : Params} {r : KA} {h : Heap}
theorem KOk.lC (K : KOk P r h) : (r.frag P).lookup r.C = some (clsO r.C r.ns r.b r.un (r.u 3)) := look_of K.nd (.head _)
theorem KOk.lns (K : KOk P r h) : (r.frag P).lookup r.ns = some { cls := .type "dict", data := .dict (nsL P r.sl r.sa r.md r.f r.u r.t).toArray 3 } := look_of K.nd (.tail _ (.tail _ (.head _)))
theorem KOk.lmd (K : KOk P r h) : (r.frag P).lookup r.md = some (mdO r.C r.t) := look_of K.nd (.tail _ (.head _))
theorem KOk.lf (K : KOk P r h) {i : Nat} (hi : i < 6) : (r.frag P).lookup (r.f i) = some (fnO (r.fd i)) := look_of K.nd (by
  rcases six _ hi with rfl | rfl | rfl | rfl | rfl | rfl
  · exact .tail _ (.tail _ (.tail _ (.head _)))
  · exact .tail _ (.tail _ (.tail _ (.tail _ (.head _))))
  · exact .tail _ (.tail _ (.tail _ (.tail _ (.tail _ (.head _)))))
  · exact .tail _ (.tail _ (.tail _ (.tail _ (.tail _ (.tail _ (.head _))))))
  · exact .tail _ (.tail _ (.tail _ (.tail _ (.tail _ (.tail _ (.tail _ (.head _)))))))
  · exact .tail _ (.tail _ (.tail _ (.tail _ (.tail _ (.tail _ (.tail _ (.tail _ (.head _)))))))))
theorem KOk.ns (K : KOk P r h) {name : Str} {v : Option Value} (e : lookIn name { cls := .type "dict", data := .dict (nsL P r.sl r.sa r.md r.f r.u r.t).toArray 3 } = some v) : nsIn (r.frag P) r.ns name = some v := by
  unfold nsIn
  rw [K.lns]
  exact e
theorem KOk.find (K : KOk P r h) {name : Str} {v : Value} (e : lookIn name { cls := .type "dict", data := .dict (nsL P r.sl r.sa r.md r.f r.u r.t).toArray 3 } = some (some v)) : findIn (r.frag P) (.ref r.C) name = some (some v) := by
  unfold findIn
  dsimp only
  rw [K.lC]
  simp only [alongIn, ownIn, K.lC, K.ns e]
theorem KOk.miss (K : KOk P r h) {name : Str} {v : Option Value} (e : lookIn name { cls := .type "dict", data := .dict (nsL P r.sl r.sa r.md r.f r.u r.t).toArray 3 } = some none) (e' : fastBuiltinOwn "object" name = v) : findIn (r.frag P) (.ref r.C) name = some v := by
  unfold findIn
  dsimp only
  rw [K.lC]
  simp only [alongIn, ownIn, K.lC, K.ns e, e']
  cases v <;> rfl
theorem KOk.fnT (K : KOk P r h) {i : Nat} (hi : i < 6) : typeIn (r.frag P) (.ref (r.f i)) = some (.type "function") := by unfold typeIn; dsimp only; rw [K.lf hi]; rfl
theorem KOk.f_init (K : KOk P r h) : findIn (r.frag P) (.ref r.C) "__init__" = some (some (.ref (r.f 0))) := K.find (by kernel_rfl)
theorem KOk.f_obj (K : KOk P r h) : findIn (r.frag P) (.ref r.C) (Str.ofString "obj") = some (some (.ref r.md)) := K.find (by kernel_rfl)
theorem KOk.f_ga (K : KOk P r h) : findIn (r.frag P) (.ref r.C) "__getattribute__" = some (some (.builtin "object.__getattribute__")) := K.miss (by kernel_rfl) (by kernel_rfl)
theorem KOk.f_g (K : KOk P r h) : findIn (r.frag P) (.ref r.C) "__getattr__" = some none := K.miss (by kernel_rfl) (by kernel_rfl)
theorem KOk.f_sa (K : KOk P r h) : findIn (r.frag P) (.ref r.C) "__setattr__" = some (some (.builtin "object.__setattr__")) := K.miss (by kernel_rfl) (by kernel_rfl)
theorem KOk.mdT (K : KOk P r h) : typeIn (r.frag P) (.ref r.md) = some (.type "member_descriptor") := by unfold typeIn; dsimp only; rw [K.lmd]; rfl
theorem KOk.mdG (K : KOk P r h) : specialIn (r.frag P) (.ref r.md) "__get__" = some (some (.builtin "member_descriptor.__get__")) := by unfold specialIn; rw [K.mdT]; kernel_rfl
theorem KOk.mdS (K : KOk P r h) : takesIn (r.frag P) (.ref r.md) = some true := by unfold takesIn specialIn; rw [K.mdT]; kernel_rfl
theorem KOk.slot (K : KOk P r h) : slotIn (r.frag P) r.md r.C = some 0 := by
  unfold slotIn recIn clsIn
  rw [K.lmd, K.lC]
  simp
theorem KOk.makes (K : KOk P r h) : makesIn (r.frag P) r.C = true := by
  unfold makesIn
  simp only [instIn, specialIn, typeIn, K.lC, Option.map_some, Option.bind_some]
  simp
  exact ⟨by kernel_rfl, by kernel_rfl⟩
theorem KOk.over (K : KOk P r h) : plainOver (r.frag P) r.C = true := by unfold plainOver clsIn; rw [K.lC]; kernel_rfl
theorem KOk.taker (K : KOk P r h) : takerIn (r.frag P) r.C (Str.ofString "obj") = some (some (.ref r.md)) := by unfold takerIn; rw [K.f_obj]; show (takesIn _ _).map _ = _; rw [K.mdS]; rfl
end
end Mine
end PKU
section PKM
namespace Mine
section
variable {prog : Program} {w : World} {A : Around} {h₀ h : Heap} {fs : List (Addr × Cl)} {gs : Array GenState} {d : Drawn} {t : Nat} {os : OsState} {E : Value → Shared → Prop} {R : Result → Shared → Prop} {env : Env}
theorem r_callK {K : Params → Frag} {a : Addr} {fd : FuncData} {body : List Stmt} {args : Args} (binds l : List (Str × Value)) (n : Nat) {R : Result → Shared → Prop} (D : Sl prog w h₀ h fs) (G : Gd w.params K h₀) (ho : h₀.get? a = some (fnO fd)) (hcd : h₀.CodeRec fd.code fd.qualname) (hbody : fd.body = .stmts body)
    (hf : (fd.scope.names.all fun x => x.2 != .cell) = true ∧ fd.scope.isCoroutine = false ∧ fd.scope.isGenerator = false ∧ fd.scope.kind = .function) (hroom : A.depth < recursionLimit)
    (hbind : bindArgs fd args = pure binds) (hl : binds.reverse = l ∧ binds.length = n) (hloc : (binds.all fun x => fd.scope.names.lookup x.1 == some .local) = true)
    (k : ∀ {E' : Value → Shared → Prop} L h', Sl prog w h₀ h' ((L, .frm l) :: fs) → wpAny (model prog w) (A.deeper (callEnv fd L a)) (execs body (callEnv fd L a)) (fun f s' => R (.ok (.ret (match f with | .ret v => v | _ => .none))) s') E' ⟨h', gs, d, t + n, os⟩) :
    codeAny (model prog w) A (.call (.ref a) args) R ⟨h, gs, d, t, os⟩ := by
  obtain ⟨rfl, rfl⟩ := hl
  exact codeAny_call_def hroom (D.keep _ _ ho) rfl (let ⟨mc, x, y⟩ := G.lim; ⟨mc, x.keeps D.keep, y⟩) (hcd.keeps D.keep) hbody (.of_eq hbind) (fun x hx => by have := List.all_eq_true.mp hf.1 x hx; simpa using this) (fun x hx => by have := List.all_eq_true.mp hloc x hx; simpa using this)
    (fun h' n kp => k h.objs.size h' (D.new (push_none h) kp n)) hf.2.1 hf.2.2.1 hf.2.2.2
theorem r_free {x : Str} {pos : Pos} {fd : FuncData} {L a c : Addr} {v : Value} {Q : Value → Shared → Prop} (D : Sl prog w h₀ h fs) (hl : fd.scope.kind = .function ∧ (callEnv fd L a).kindOf x = some .free ∧ fd.closure.lookup x = some c ∧ (x == ("__debug__" : Str)) = false ∧ (x == ("__classdict__" : Str)) = false) (hv : h₀.IsCell c (some v))
    (k : Q v ⟨h, gs, d, t, os⟩) : wpAny (model prog w) A (eval (.Name x pos) (callEnv fd L a)) Q E ⟨h, gs, d, t, os⟩ :=
  wpAny_Name (wpAny_loadName_free (s := ⟨h, gs, d, t, os⟩) hl.1 hl.2.1 (c := c) hl.2.2.1 (hv.keeps D.keep) k hl.2.2.2.2) hl.2.2.2.1
noncomputable abbrev instK (C dx o : Addr) : Obj := { cls := .ref C, dict := some dx, slots := #[some (.ref o)] }
noncomputable def KObj (r : KA) (h : Heap) (a o : Addr) : Prop := ∃ dx, h.get? a = some (instK r.C dx o) ∧ h.get? dx = some emptyDict
theorem KObj.up {r : KA} {h h' : Heap} {a o : Addr} (x : KObj r h a o) (k : ∀ b o, h.get? b = some o → h'.get? b = some o) : KObj r h' a o := let ⟨dx, e1, e2⟩ := x; ⟨dx, k _ _ e1, k _ _ e2⟩
theorem KObj.inst {r : KA} {a o : Addr} (x : KObj r h₀ a o) : ∃ dx, InstAt h₀ a (instK r.C dx o) r.C (some emptyDict) := let ⟨dx, e1, e2⟩ := x; ⟨dx, e1, rfl, rfl, e2⟩
theorem instAt_kp {h h' : Heap} {x C : Addr} {ox : Obj} {od : Option Obj} (I : InstAt h x ox C od) (k : ∀ b o, h.get? b = some o → h'.get? b = some o) : InstAt h' x ox C od := by
  obtain ⟨a, b, c, e⟩ := I
  refine ⟨k _ _ a, b, c, ?_⟩
  cases hd : ox.dict <;> cases od <;> rw [hd] at e <;> first | exact e | exact k _ _ e
theorem r_kget {r : KA} {a o : Addr} {b : Bool} {Q : Value → Shared → Prop} (D : Sl prog w h₀ h fs) (K : KOk w.params r h₀) (x : KObj r h₀ a o) (k : Q (.ref o) ⟨h, gs, d, t + 1, os⟩) : wpAny (model prog w) A (getAttr (.ref a) (Str.ofString "obj") b) Q E ⟨h, gs, d, t, os⟩ := by
  obtain ⟨dx, I⟩ := x.inst
  have K' := K.up D.keep
  have I' := instAt_kp I D.keep
  exact get_bind (s := ⟨h, gs, d, t, os⟩) K'.In I' K.f_ga (findObj_data (by unfold clsIn; rw [K.lC]; rfl) K.f_obj K.mdG K.mdS) K.f_g (wpAny_call (slot_get (s := ⟨h, gs, d, t + 1, os⟩) K'.In I' K.slot rfl (handed_on rfl k)))
noncomputable def opB (op : CmpOp) (c : Int) : Bool := match op with
  | .Lt => decide (c < 0)
  | .LtE => decide (c ≤ 0)
  | .Gt => decide (0 < c)
  | .GtE => decide (0 ≤ c)
  | .Eq => c == 0
  | _ => false
theorem r_cmp0 {op : CmpOp} {c : Int} {u v : Tok} {Q : Value → Shared → Prop} {s : Shared} (hop : op ∈ [CmpOp.Lt, .LtE, .Gt, .GtE, .Eq]) (k : Q (.bool (opB op c)) s) : wpAny (model prog w) A (compareOp op (.int c u) (.int 0 v)) Q E s := by
  simp only [List.mem_cons, List.mem_nil_iff, or_false] at hop
  rcases hop with rfl | rfl | rfl | rfl | rfl
  · exact P.lt_int k
  · exact P.le_int k
  · exact P.gt_int k
  · exact P.ge_int k
  · exact P.eq_int k
theorem look_at {P : Params} {r : KA} {a : Addr} {o : Obj} (K : KOk P r h₀) (e : (r.frag P).lookup a = some o) : h₀.get? a = some o := K.In _ _ e
theorem look_cell {P : Params} {r : KA} (K : KOk P r h₀) : h₀.IsCell r.cell (some (.ref 158)) := K.cel
theorem kcmp1 {r : KA} {a b oa ob : Addr} {m1 m2 : Str} {n1 n2 : Int} {u1 u2 v1 v2 : Tok} (D : Sl prog w h₀ h fs) (G : Gd w.params hK h₀) (K : KOk w.params r h₀) (hroom : A.depth + 2 < recursionLimit) (xa : KObj r h₀ a oa) (xb : KObj r h₀ b ob)
   (h1 : IsTup h₀ oa #[.str m1 u1, .int n1 v1]) (h2 : IsTup h₀ ob #[.str m2 u2, .int n2 v2])
   (k : ∀ h' tk, Sl prog w h₀ h' fs → R (.ok (.ret (.bool (opB .Lt (cmpT m1 n1 m2 n2))))) ⟨h', gs, d, tk, os⟩) :
   codeAny (model prog w) A (.call (.ref (r.f 1)) ⟨[.ref a, .ref b], []⟩) R ⟨h, gs, d, t, os⟩ := by
  refine r_callK (body := bdK 3) [(Str.ofString "self", .ref a), (Str.ofString "other", .ref b)] [(Str.ofString "other", .ref b), (Str.ofString "self", .ref a)] 2 D G (look_at K (K.lf (by decide))) (K.code 1 (by decide)) (by kernel_rfl) ⟨by kernel_rfl, by kernel_rfl, by kernel_rfl, by kernel_rfl⟩ (by omega) (by kernel_rfl) ⟨rfl, rfl⟩ (by kernel_rfl) (fun L h' D => ?_)
  with_unfolding_all change wpAny _ _ (execs (_ :: _) _) _ _ _
  repeat' (first
  | walk_at "b W"
    | walk_at "b W2"
  | ((with_reducible refine' r_free D ?hl ?hv ?_); (case hv => exact look_cell K); (case hl => exact ⟨by kernel_rfl, by kernel_rfl, by kernel_rfl, by kernel_rfl, by kernel_rfl⟩))
  | ((with_reducible refine' r_kget D K ?x ?_); (case x => first | exact xa | exact xb))
  | ((with_reducible refine' r_cmp0 ?q ?_); (case q => decide))
  | fail)
  refine lcmp D G (by show A.depth + 1 + 1 < _; omega) h1 h2 (fun h' t tk' D => ?_)
  repeat' (first
  | walk_at "b W"
    | walk_at "b W2"
  | ((with_reducible refine' r_cmp0 ?q ?_); (case q => decide))
  | fail)
  exact k _ _ D.tail
theorem kcmp2 {r : KA} {a b oa ob : Addr} {m1 m2 : Str} {n1 n2 : Int} {u1 u2 v1 v2 : Tok} (D : Sl prog w h₀ h fs) (G : Gd w.params hK h₀) (K : KOk w.params r h₀) (hroom : A.depth + 2 < recursionLimit) (xa : KObj r h₀ a oa) (xb : KObj r h₀ b ob)
   (h1 : IsTup h₀ oa #[.str m1 u1, .int n1 v1]) (h2 : IsTup h₀ ob #[.str m2 u2, .int n2 v2])
   (k : ∀ h' tk, Sl prog w h₀ h' fs → R (.ok (.ret (.bool (opB .Gt (cmpT m1 n1 m2 n2))))) ⟨h', gs, d, tk, os⟩) :
   codeAny (model prog w) A (.call (.ref (r.f 2)) ⟨[.ref a, .ref b], []⟩) R ⟨h, gs, d, t, os⟩ := by
  refine r_callK (body := bdK 4) [(Str.ofString "self", .ref a), (Str.ofString "other", .ref b)] [(Str.ofString "other", .ref b), (Str.ofString "self", .ref a)] 2 D G (look_at K (K.lf (by decide))) (K.code 2 (by decide)) (by kernel_rfl) ⟨by kernel_rfl, by kernel_rfl, by kernel_rfl, by kernel_rfl⟩ (by omega) (by kernel_rfl) ⟨rfl, rfl⟩ (by kernel_rfl) (fun L h' D => ?_)
  with_unfolding_all change wpAny _ _ (execs (_ :: _) _) _ _ _
  repeat' (first
  | walk_at "b W"
    | walk_at "b W2"
  | ((with_reducible refine' r_free D ?hl ?hv ?_); (case hv => exact look_cell K); (case hl => exact ⟨by kernel_rfl, by kernel_rfl, by kernel_rfl, by kernel_rfl, by kernel_rfl⟩))
  | ((with_reducible refine' r_kget D K ?x ?_); (case x => first | exact xa | exact xb))
  | ((with_reducible refine' r_cmp0 ?q ?_); (case q => decide))
  | fail)
  refine lcmp D G (by show A.depth + 1 + 1 < _; omega) h1 h2 (fun h' t tk' D => ?_)
  repeat' (first
  | walk_at "b W"
    | walk_at "b W2"
  | ((with_reducible refine' r_cmp0 ?q ?_); (case q => decide))
  | fail)
  exact k _ _ D.tail
theorem kcmp3 {r : KA} {a b oa ob : Addr} {m1 m2 : Str} {n1 n2 : Int} {u1 u2 v1 v2 : Tok} (D : Sl prog w h₀ h fs) (G : Gd w.params hK h₀) (K : KOk w.params r h₀) (hroom : A.depth + 2 < recursionLimit) (xa : KObj r h₀ a oa) (xb : KObj r h₀ b ob)
   (h1 : IsTup h₀ oa #[.str m1 u1, .int n1 v1]) (h2 : IsTup h₀ ob #[.str m2 u2, .int n2 v2])
   (k : ∀ h' tk, Sl prog w h₀ h' fs → R (.ok (.ret (.bool (opB .Eq (cmpT m1 n1 m2 n2))))) ⟨h', gs, d, tk, os⟩) :
   codeAny (model prog w) A (.call (.ref (r.f 3)) ⟨[.ref a, .ref b], []⟩) R ⟨h, gs, d, t, os⟩ := by
  refine r_callK (body := bdK 5) [(Str.ofString "self", .ref a), (Str.ofString "other", .ref b)] [(Str.ofString "other", .ref b), (Str.ofString "self", .ref a)] 2 D G (look_at K (K.lf (by decide))) (K.code 3 (by decide)) (by kernel_rfl) ⟨by kernel_rfl, by kernel_rfl, by kernel_rfl, by kernel_rfl⟩ (by omega) (by kernel_rfl) ⟨rfl, rfl⟩ (by kernel_rfl) (fun L h' D => ?_)
  with_unfolding_all change wpAny _ _ (execs (_ :: _) _) _ _ _
  repeat' (first
  | walk_at "b W"
    | walk_at "b W2"
  | ((with_reducible refine' r_free D ?hl ?hv ?_); (case hv => exact look_cell K); (case hl => exact ⟨by kernel_rfl, by kernel_rfl, by kernel_rfl, by kernel_rfl, by kernel_rfl⟩))
  | ((with_reducible refine' r_kget D K ?x ?_); (case x => first | exact xa | exact xb))
  | ((with_reducible refine' r_cmp0 ?q ?_); (case q => decide))
  | fail)
  refine lcmp D G (by show A.depth + 1 + 1 < _; omega) h1 h2 (fun h' t tk' D => ?_)
  repeat' (first
  | walk_at "b W"
    | walk_at "b W2"
  | ((with_reducible refine' r_cmp0 ?q ?_); (case q => decide))
  | fail)
  exact k _ _ D.tail
theorem kcmp4 {r : KA} {a b oa ob : Addr} {m1 m2 : Str} {n1 n2 : Int} {u1 u2 v1 v2 : Tok} (D : Sl prog w h₀ h fs) (G : Gd w.params hK h₀) (K : KOk w.params r h₀) (hroom : A.depth + 2 < recursionLimit) (xa : KObj r h₀ a oa) (xb : KObj r h₀ b ob)
   (h1 : IsTup h₀ oa #[.str m1 u1, .int n1 v1]) (h2 : IsTup h₀ ob #[.str m2 u2, .int n2 v2])
   (k : ∀ h' tk, Sl prog w h₀ h' fs → R (.ok (.ret (.bool (opB .LtE (cmpT m1 n1 m2 n2))))) ⟨h', gs, d, tk, os⟩) :
   codeAny (model prog w) A (.call (.ref (r.f 4)) ⟨[.ref a, .ref b], []⟩) R ⟨h, gs, d, t, os⟩ := by
  refine r_callK (body := bdK 6) [(Str.ofString "self", .ref a), (Str.ofString "other", .ref b)] [(Str.ofString "other", .ref b), (Str.ofString "self", .ref a)] 2 D G (look_at K (K.lf (by decide))) (K.code 4 (by decide)) (by kernel_rfl) ⟨by kernel_rfl, by kernel_rfl, by kernel_rfl, by kernel_rfl⟩ (by omega) (by kernel_rfl) ⟨rfl, rfl⟩ (by kernel_rfl) (fun L h' D => ?_)
  with_unfolding_all change wpAny _ _ (execs (_ :: _) _) _ _ _
  repeat' (first
  | walk_at "b W"
    | walk_at "b W2"
  | ((with_reducible refine' r_free D ?hl ?hv ?_); (case hv => exact look_cell K); (case hl => exact ⟨by kernel_rfl, by kernel_rfl, by kernel_rfl, by kernel_rfl, by kernel_rfl⟩))
  | ((with_reducible refine' r_kget D K ?x ?_); (case x => first | exact xa | exact xb))
  | ((with_reducible refine' r_cmp0 ?q ?_); (case q => decide))
  | fail)
  refine lcmp D G (by show A.depth + 1 + 1 < _; omega) h1 h2 (fun h' t tk' D => ?_)
  repeat' (first
  | walk_at "b W"
    | walk_at "b W2"
  | ((with_reducible refine' r_cmp0 ?q ?_); (case q => decide))
  | fail)
  exact k _ _ D.tail
theorem kcmp5 {r : KA} {a b oa ob : Addr} {m1 m2 : Str} {n1 n2 : Int} {u1 u2 v1 v2 : Tok} (D : Sl prog w h₀ h fs) (G : Gd w.params hK h₀) (K : KOk w.params r h₀) (hroom : A.depth + 2 < recursionLimit) (xa : KObj r h₀ a oa) (xb : KObj r h₀ b ob)
   (h1 : IsTup h₀ oa #[.str m1 u1, .int n1 v1]) (h2 : IsTup h₀ ob #[.str m2 u2, .int n2 v2])
   (k : ∀ h' tk, Sl prog w h₀ h' fs → R (.ok (.ret (.bool (opB .GtE (cmpT m1 n1 m2 n2))))) ⟨h', gs, d, tk, os⟩) :
   codeAny (model prog w) A (.call (.ref (r.f 5)) ⟨[.ref a, .ref b], []⟩) R ⟨h, gs, d, t, os⟩ := by
  refine r_callK (body := bdK 7) [(Str.ofString "self", .ref a), (Str.ofString "other", .ref b)] [(Str.ofString "other", .ref b), (Str.ofString "self", .ref a)] 2 D G (look_at K (K.lf (by decide))) (K.code 5 (by decide)) (by kernel_rfl) ⟨by kernel_rfl, by kernel_rfl, by kernel_rfl, by kernel_rfl⟩ (by omega) (by kernel_rfl) ⟨rfl, rfl⟩ (by kernel_rfl) (fun L h' D => ?_)
  with_unfolding_all change wpAny _ _ (execs (_ :: _) _) _ _ _
  repeat' (first
  | walk_at "b W"
    | walk_at "b W2"
  | ((with_reducible refine' r_free D ?hl ?hv ?_); (case hv => exact look_cell K); (case hl => exact ⟨by kernel_rfl, by kernel_rfl, by kernel_rfl, by kernel_rfl, by kernel_rfl⟩))
  | ((with_reducible refine' r_kget D K ?x ?_); (case x => first | exact xa | exact xb))
  | ((with_reducible refine' r_cmp0 ?q ?_); (case q => decide))
  | fail)
  refine lcmp D G (by show A.depth + 1 + 1 < _; omega) h1 h2 (fun h' t tk' D => ?_)
  repeat' (first
  | walk_at "b W"
    | walk_at "b W2"
  | ((with_reducible refine' r_cmp0 ?q ?_); (case q => decide))
  | fail)
  exact k _ _ D.tail
end
end Mine
end PKM
section PKN
namespace Mine
section
variable {prog : Program} {w : World} {A : Around} {h₀ h h' : Heap} {fs : List (Addr × Cl)} {gs : Array GenState} {d : Drawn} {t : Nat} {os : OsState} {E : Value → Shared → Prop} {R : Result → Shared → Prop} {env : Env}
noncomputable def others (h : Heap) (ex : List Addr) : List (Addr × Obj) := (List.range h.objs.size).filterMap fun a => if a ∈ ex then none else (h.get? a).map fun o => (a, o)
theorem mem_others {ex : List Addr} {p : Addr × Obj} : p ∈ others h ex ↔ p.1 ∉ ex ∧ h.get? p.1 = some p.2 := by
  unfold others
  rw [List.mem_filterMap]
  constructor
  · rintro ⟨a, ha, e⟩
    split at e
    · cases e
    · rename_i n
      obtain ⟨o, ho, rfl⟩ := Option.map_eq_some_iff.mp e
      exact ⟨n, ho⟩
  · rintro ⟨n, e⟩
    exact ⟨p.1, List.mem_range.mpr (Heap.lt_size e), by rw [if_neg n, e]; rfl⟩
noncomputable abbrev noHeap : Heap := {}
theorem noHeap_get (a : Addr) : noHeap.get? a = none := rfl
theorem Sl.fr {i : Nat} {L : Addr} {l : List (Str × Value)} (D : Sl prog w h₀ h fs) (hi : AtI fs i (L, .frm l)) : Fr noHeap L h (fun x => l.lookup x) := ⟨D.at hi, fun b o e => (by rw [noHeap_get] at e; cases e), Nat.zero_le _⟩
theorem news_others {L : Addr} {ex : List Addr} : News noHeap L h (others h (L :: ex)) := fun p hp => by
  obtain ⟨n, e⟩ := mem_others.mp hp
  exact ⟨e, fun z => n (z ▸ .head _), noHeap_get _⟩
theorem Sl.key (D : Sl prog w h₀ h fs) {p q : Nat} {u v : Addr × Cl} (e1 : fs[p]? = some u) (e2 : fs[q]? = some v) (n : p ≠ q) : u.1 ≠ v.1 := fun z => by
  have nd := List.pairwise_iff_getElem.mp D.nd
  obtain ⟨li, ei⟩ := List.getElem?_eq_some_iff.mp e1
  obtain ⟨lj, ej⟩ := List.getElem?_eq_some_iff.mp e2
  rcases Nat.lt_or_gt_of_ne n with a | a
  · exact nd p q (by rw [List.length_map]; exact li) (by rw [List.length_map]; exact lj) a (by rw [List.getElem_map, List.getElem_map, ei, ej]; exact z)
  · exact nd q p (by rw [List.length_map]; exact lj) (by rw [List.length_map]; exact li) a (by rw [List.getElem_map, List.getElem_map, ei, ej]; exact z.symm)
theorem Sl.back {i j : Nat} {L x : Addr} {l : List (Str × Value)} {c c' : Cl} {news : List (Addr × Obj)} (D : Sl prog w h₀ h fs) (hi : AtI fs i (L, .frm l)) (hj : AtI fs j (x, c)) (hij : i ≠ j) (F : Fr noHeap L h' (fun y => l.lookup y)) (N : News noHeap L h' news) (sub : ∀ p ∈ others h [L, x], p ∈ news) (hc : c'.ok prog w h' x) :
   Sl prog w h₀ h' (fs.set j (x, c')) := by
  have kp : ∀ b o, b ≠ L → b ≠ x → h.get? b = some o → h'.get? b = some o := fun b o n1 n2 e => (N (b, o) (sub _ (mem_others.mpr ⟨by simp [n1, n2], e⟩))).1
  have hL := (D.ok _ hi.mem).2
  have hx := (D.ok _ hj.mem).2
  have em : (fs.set j (x, c')).map (·.1) = fs.map (·.1) := by
    rw [List.map_set]
    apply List.ext_getElem?
    intro k
    by_cases hk : j = k
    · subst hk
      have e : (fs.map (·.1))[j]? = some x := by rw [List.getElem?_map, hj.get]; rfl
      rw [List.getElem?_set_self (List.getElem?_eq_some_iff.mp e).1, e]
    · rw [List.getElem?_set_ne hk]
  refine ⟨fun a o e => kp a o (fun z => by rw [z, hL] at e; cases e) (fun z => by rw [z, hx] at e; cases e) (D.keep a o e), fun p hp => ?_, by rw [em]; exact D.nd⟩
  obtain ⟨k, hk⟩ := List.mem_iff_getElem?.mp hp
  by_cases hjk : j = k
  · subst hjk
    rw [List.getElem?_set_self (List.getElem?_eq_some_iff.mp hj.get).1] at hk
    cases hk
    exact ⟨hc, hx⟩
  · rw [List.getElem?_set_ne hjk] at hk
    have y := D.ok p (List.mem_of_getElem? hk)
    refine ⟨?_, y.2⟩
    by_cases hik : i = k
    · subst hik
      rw [hi.get] at hk
      cases hk
      exact F.ns
    · exact Cl.mv y.1 fun o e => kp _ o (D.key hk hi.get (Ne.symm hik)) (D.key hk hj.get (Ne.symm hjk)) e
theorem r_kset {r : KA} {i j : Nat} {L x dx o : Addr} {l : List (Str × Value)} {Q : Unit → Shared → Prop} (D : Sl prog w h₀ h fs) (hi : AtI fs i (L, .frm l)) (hj : AtI fs j (x, .obj (instObj r.C dx))) {jd : Nat} (hd : AtI fs jd (dx, .obj emptyDict)) (hij : i ≠ j) (K : KOk w.params r h₀)
   (k : ∀ h', Sl prog w h₀ h' (fs.set j (x, .obj (instK r.C dx o))) → Q () ⟨h', gs, d, t + 1, os⟩) : wpAny (model prog w) A (setAttr (.ref x) (Str.ofString "obj") (.ref o)) Q E ⟨h, gs, d, t, os⟩ := by
  have K' := K.up D.keep
  have I : InstAt h x (instObj r.C dx) r.C (some emptyDict) := ⟨D.at hj, rfl, rfl, D.at hd⟩
  have F := D.fr hi
  have hx : h.get? x = some (instObj r.C dx) := D.at hj
  have hxL : x ≠ L := D.key hj.get hi.get (Ne.symm hij)
  have N : News noHeap L h ([] ++ (x, instObj r.C dx) :: others h [L, x]) := fun p hp => by
    rcases List.mem_cons.mp hp with rfl | hp
    · exact ⟨hx, hxL, noHeap_get _⟩
    · exact news_others (ex := [x]) p hp
  refine set_plain (s := ⟨h, gs, d, t, os⟩) K'.In I K.f_sa (osa_descr (s := ⟨h, gs, d, t + 1, os⟩) KF.slot_mset K'.In I K.over K.taker K.mdT (slot_set (s := ⟨h, gs, d, t + 1, os⟩) F N K'.In I K.slot (by decide) (fun p hp => nomatch hp) (fun p hp z => (mem_others.mp hp).1 (z ▸ .tail _ (.head _))) rfl rfl fun h' F' N' => k h' (D.back hi hj hij F' N' (fun p hp => .tail _ hp) (N' (x, _) (.head _)).1)))
theorem knew {r : KA} {o : Addr} (D : Sl prog w h₀ h fs) (G : Gd w.params hK h₀) (K : KOk w.params r h₀) (hroom : A.depth + 2 < recursionLimit)
   (k : ∀ x h₁ h' tk, (∀ b o, h₀.get? b = some o → h₁.get? b = some o) → KObj r h₁ x o → Sl prog w h₁ h' fs → R (.ok (.ret (.ref x))) ⟨h', gs, d, tk, os⟩) :
   codeAny (model prog w) A (.call (.ref r.C) ⟨[.ref o], []⟩) R ⟨h, gs, d, t, os⟩ := by
  have K' := K.up D.keep
  refine make_core (makes_of K'.In K.makes) (looks_findIn K'.In K.f_init) (fun self => bind_fn K'.In self (K.fnT (by decide))) (.inl rfl) ?_
  have D := (D.push (o := emptyDict) (c := .obj emptyDict) (Heap.get?_push_size _ rfl)).push (o := instObj r.C h.objs.size) (c := .obj (instObj r.C h.objs.size)) (Heap.get?_push_size _ rfl)
  rw [Heap.size_push] at D
  generalize h.objs.size = n at D ⊢
  generalize (h.push emptyDict).push (instObj r.C n) = h1 at D ⊢
  refine r_callK (body := bdK 2) [(Str.ofString "self", .ref (n + 1)), (Str.ofString "obj", .ref o)] [(Str.ofString "obj", .ref o), (Str.ofString "self", .ref (n + 1))] 2 D G (look_at K (K.lf (by decide))) (K.code 0 (by decide)) (by kernel_rfl) ⟨by kernel_rfl, by kernel_rfl, by kernel_rfl, by kernel_rfl⟩ (by show A.depth + 1 < _; exact d0 hroom (Nat.le_of_ble_eq_true rfl)) (by kernel_rfl) ⟨rfl, rfl⟩ (by kernel_rfl) (fun L h' D => ?_)
  with_unfolding_all change wpAny _ _ (execs (_ :: _) _) _ _ _
  repeat' (first
  | walk_at "b W"
    | walk_at "b W2"
  | ((with_reducible refine' plainObj_wpAny_Assign_Attribute ?_ ?qq); (case qq => rfl))
  | ((with_reducible refine' r_kset D ?hi ?hj ?hd ?ne K (fun h' D => ?_)); (case hi => exact .z); (case hj => exact .s .z); (case hd => exact .s (.s .z)); (case ne => decide); dsimp only [List.set_cons_zero, List.set_cons_succ] at D)
  | fail)
  refine And.intro rfl ?_
  refine D.tail.out (fun h₁ e1 e2 D => ?_)
  refine D.out (fun h₂ e3 e4 D => ?_)
  exact k _ h₂ _ _ (fun b o e => e3 _ _ (e1 _ _ e)) ⟨n, e3 _ _ e2, e4⟩ D
theorem r_rich {r : KA} {op : CmpOp} {i : Nat} {a b oa ob : Addr} {Q : Value → Shared → Prop} (hi : i < 6) (D : Sl prog w h₀ h fs) (K : KOk w.params r h₀) (hs : lookIn (cmpInfo op).2.1 { cls := .type "dict", data := .dict (nsL w.params r.sl r.sa r.md r.f r.u r.t).toArray 3 } = some (some (.ref (r.f i)))) (hu : A.units < cLine) (xa : KObj r h₀ a oa) (xb : KObj r h₀ b ob)
   (x : codeAny (model prog w) A (.call (.ref (r.f i)) ⟨[.ref a, .ref b], []⟩) (fun r s' => match r with | .ok (.ret v) => ∃ q, v = .bool q ∧ Q (.bool q) s' | .ok _ => False | .error e => E e s') ⟨h, gs, d, t, os⟩) : wpAny (model prog w) A (richCompare op (.ref a) (.ref b)) Q E ⟨h, gs, d, t, os⟩ := by
  obtain ⟨dx, I⟩ := xa.inst
  obtain ⟨dy, J⟩ := xb.inst
  have K' := K.up D.keep
  have I := instAt_kp I D.keep
  have J := instAt_kp J D.keep
  have one : wpAny (model prog w) A (tryCompare (.ref a) (cmpInfo op).2.1 (.ref b)) (fun r s' => ∃ q, r = some (.bool q) ∧ Q (.bool q) s') E ⟨h, gs, d, t, os⟩ := by
    unfold tryCompare
    refine wpAny_bind (ifBound_K (s := ⟨h, gs, d, t, os⟩) K'.In I (K.find hs) (beq_iff_eq.mpr (K.fnT hi)) (wpAny_call (codeAny_mono x fun r s' z => ?_)))
    rcases r with e | (v | _ | _ | _) <;> first | exact z | skip
    obtain ⟨q, rfl, z⟩ := z
    exact wpAny_pure ⟨q, rfl, z⟩
  unfold richCompare
  simp only [oneThing_ref]
  refine wpAny_holding (wpAny_bind (wpAny_cRoomFor hu ?_))
  refine wpAny_bind (I.type.here (wpAny_bind (J.type.here ?_)))
  rw [if_neg (by simp)]
  refine wpAny_bind (wpAny_pure ?_)
  simp only [Bool.false_eq_true, if_false]
  refine wpAny_bind (wpAny_mono one (fun r s' z => ?_) fun _ _ e => e)
  obtain ⟨v, rfl, hq⟩ := z
  exact wpAny_pure hq
end
end Mine
end PKN
section PSO
namespace Mine
noncomputable def tRun {α : Type} (lt : Nat → Nat → Bool) : KasT α → α
  | .ret a => a
  | .ask i j k => tRun lt (k (lt i j))
noncomputable def tGood {α : Type} (lt : Nat → Nat → Bool) : KasT α → Bool
  | .ret _ => true
  | .ask i j k => decide (i < 3) && decide (j < 3) && decide (i ≠ j) && tGood lt (k (lt i j))
theorem kas_pure {α : Type} {cmp : Nat → Nat → (Bool → Shared → Prop) → Shared → Prop} {lt : Nat → Nat → Bool} {I : Shared → Prop} {Q : α → Shared → Prop} (hc : ∀ i j C s, i < 3 → j < 3 → i ≠ j → I s → (∀ s', I s' → C (lt i j) s') → cmp i j C s) :
    ∀ (t : KasT α) (s : Shared), tGood lt t = true → I s → (∀ s', I s' → Q (tRun lt t) s') → t.kasWp cmp Q s
  | .ret a, s, _, i, h => h s i
  | .ask i j k, s, g, hi, h => by
    unfold tGood at g
    simp only [Bool.and_eq_true, decide_eq_true_eq] at g
    exact hc i j _ s g.1.1.1 g.1.1.2 g.1.2 hi fun s' hi' => kas_pure hc (k (lt i j)) s' g.2 hi' h
noncomputable def ltB (x y z : Bool) (i j : Nat) : Bool := match i, j with
  | 1, 0 => x | 0, 1 => !x | 2, 1 => y | 1, 2 => !y | 2, 0 => z | 0, 2 => !z | _, _ => false
noncomputable def perm3 : List (List Nat) := [[0, 1, 2], [0, 2, 1], [1, 0, 2], [1, 2, 0], [2, 0, 1], [2, 1, 0]]
theorem p3 {i j k : Nat} (h : [i, j, k] ∈ perm3) : (i < 3 ∧ j < 3 ∧ k < 3) ∧ (i ≠ j ∧ j ≠ k ∧ i ≠ k) ∧ [i, k, j] ∈ perm3 := by
  simp only [perm3, List.mem_cons, List.cons.injEq, List.mem_nil_iff, or_false, and_true] at h
  rcases h with ⟨rfl, rfl, rfl⟩ | ⟨rfl, rfl, rfl⟩ | ⟨rfl, rfl, rfl⟩ | ⟨rfl, rfl, rfl⟩ | ⟨rfl, rfl, rfl⟩ | ⟨rfl, rfl, rfl⟩ <;> decide
noncomputable def okp (lt : Nat → Nat → Bool) (p : Array Nat) : Bool := match p.toList with
  | [i, j, k] => perm3.contains [i, j, k] && lt i j && lt j k && lt i k
  | _ => false
theorem kas3_all : ∀ x y z : Bool, (x = true → y = true → z = true) → (x = false → y = false → z = false) → tGood (ltB x y z) (kas_sort 3) = true ∧ okp (ltB x y z) (tRun (ltB x y z) (kas_sort 3)) = true := by decide +kernel
theorem kas3 {cmp : Nat → Nat → (Bool → Shared → Prop) → Shared → Prop} {lt : Nat → Nat → Bool} {I : Shared → Prop} {Q : Array Nat → Shared → Prop} {s : Shared} (hc : ∀ i j C s, i < 3 → j < 3 → i ≠ j → I s → (∀ s', I s' → C (lt i j) s') → cmp i j C s)
    (tot : ∀ i j, i < 3 → j < 3 → i ≠ j → lt j i = !lt i j) (tr : ∀ i j k, i < 3 → j < 3 → k < 3 → lt i j = true → lt j k = true → lt i k = true) (hi : I s)
    (h : ∀ i j k s', [i, j, k] ∈ perm3 → lt i j = true → lt j k = true → I s' → Q #[i, j, k] s') : (kas_sort 3).kasWp cmp Q s := by
  have e : ∀ i j, i < 3 → j < 3 → i ≠ j → ltB (lt 1 0) (lt 2 1) (lt 2 0) i j = lt i j := fun i j hi hj n => by
    have hi' : i = 0 ∨ i = 1 ∨ i = 2 := c3 (by assumption)
    have hj' : j = 0 ∨ j = 1 ∨ j = 2 := c3 (by assumption)
    rcases hi' with rfl | rfl | rfl <;> rcases hj' with rfl | rfl | rfl <;> first | exact absurd rfl n | rfl | exact (tot _ _ (by decide) (by decide) (by decide)).symm
  obtain ⟨g, o⟩ := kas3_all (lt 1 0) (lt 2 1) (lt 2 0) (fun a b => tr 2 1 0 (by decide) (by decide) (by decide) b a) (fun a b => by
    cases q : lt 2 0 with
    | false => rfl
    | true =>
      have a' : lt 0 1 = true := by rw [tot 1 0 (by decide) (by decide) (by decide), a]; rfl
      have := tr 2 0 1 (by decide) (by decide) (by decide) q a'
      rw [b] at this; cases this)
  refine kas_pure (lt := ltB (lt 1 0) (lt 2 1) (lt 2 0)) (I := I) (fun i j C s a b c d f => hc i j C s a b c d fun s' z => e i j a b c ▸ f s' z) _ s g hi fun s' z => ?_
  revert o
  generalize tRun (ltB (lt 1 0) (lt 2 1) (lt 2 0)) (kas_sort 3) = p
  intro o
  unfold okp at o
  split at o
  · rename_i i j k hl
    simp only [Bool.and_eq_true, List.contains_iff_mem] at o
    obtain ⟨⟨⟨o1, o2⟩, o3⟩, o4⟩ := o
    have hp : p = #[i, j, k] := Array.ext' hl
    subst hp
    have r := p3 o1
    rw [e i j r.1.1 r.1.2.1 r.2.1.1] at o2
    rw [e j k r.1.2.1 r.1.2.2 r.2.1.2.1] at o3
    exact h i j k s' o1 o2 o3 z
  · cases o
noncomputable def before (m1 : Str) (n1 : Int) (m2 : Str) (n2 : Int) : Bool := decide (n2 < n1) || (n1 == n2 && decide (m1.cps.toList < m2.cps.toList))
theorem before_cmp (m1 : Str) (n1 : Int) (m2 : Str) (n2 : Int) : opB .Lt (cmpT m1 n1 m2 n2) = before m1 n1 m2 n2 := by
  show decide (cmpT m1 n1 m2 n2 < 0) = _
  unfold cmpT before
  by_cases e : n1 = n2
  · subst e
    rw [if_neg (by simp)]
    by_cases a : m1.cps.toList < m2.cps.toList
    · rw [if_pos a]; simp [a]
    · rw [if_neg a]
      by_cases b : m1.cps.toList > m2.cps.toList
      · rw [if_pos b]; simp [a]
      · rw [if_neg b]; simp [a]
  · rw [if_pos e]
    have : (n1 == n2) = false := by simpa using e
    rw [this, Bool.false_and, Bool.or_false]
    exact decide_eq_decide.mpr (by omega)
section
variable {prog : Program} {w : World} {A : Around} {h₀ h h' : Heap} {fs : List (Addr × Cl)} {gs : Array GenState} {d : Drawn} {t : Nat} {os : OsState} {E : Value → Shared → Prop} {R : Result → Shared → Prop} {env : Env}
theorem Sl.back2 {i : Nat} {L x y : Addr} {l : List (Str × Value)} {ox oy : Obj} (D : Sl prog w h₀ h fs) (hi : AtI fs i (L, .frm l)) (F : Fr noHeap L h' (fun y => l.lookup y)) (N : News noHeap L h' ((x, ox) :: (y, oy) :: others h [L])) (lt : y < x) (ne : ∀ q ∈ others h [L], q.1 < y) :
   Sl prog w h₀ h' ((x, .obj ox) :: (y, .obj oy) :: fs) := by
  have kp : ∀ b o, b ≠ L → h.get? b = some o → h'.get? b = some o := fun b o n1 e => (N (b, o) (.tail _ (.tail _ (mem_others.mpr ⟨by simp [n1], e⟩)))).1
  have hL := (D.ok _ hi.mem).2
  have hx := N (x, ox) (.head _)
  have hy := N (y, oy) (.tail _ (.head _))
  have fr : ∀ z : Addr, z ≠ L → y ≤ z → h.get? z = none := fun z n l => by
    cases q : h.get? z with
    | none => rfl
    | some o => exact absurd (ne (z, o) (mem_others.mpr ⟨by simp [n], q⟩)) (Nat.not_lt.mpr l)
  have fx := fr x hx.2.1 (Nat.le_of_lt lt)
  have fy := fr y hy.2.1 (Nat.le_refl _)
  obtain ⟨nx, zx⟩ := D.fresh fx
  obtain ⟨ny, zy⟩ := D.fresh fy
  refine ⟨fun a o e => kp a o (fun z => by rw [z, hL] at e; cases e) (D.keep a o e), fun p hp => ?_, ?_⟩
  · rcases List.mem_cons.mp hp with rfl | hp
    · exact ⟨hx.1, zx⟩
    rcases List.mem_cons.mp hp with rfl | hp
    · exact ⟨hy.1, zy⟩
    have z := D.ok p hp
    refine ⟨?_, z.2⟩
    obtain ⟨k, hk⟩ := List.mem_iff_getElem?.mp hp
    by_cases hik : i = k
    · subst hik
      rw [hi.get] at hk
      cases hk
      exact F.ns
    · exact Cl.mv z.1 fun o e => kp _ o (D.key hk hi.get (Ne.symm hik)) e
  · rw [List.map_cons, List.map_cons]
    refine List.nodup_cons.mpr ⟨fun hm => ?_, List.nodup_cons.mpr ⟨ny, D.nd⟩⟩
    rcases List.mem_cons.mp hm with e | hm
    · exact absurd e (Nat.ne_of_gt lt)
    · exact nx hm
theorem Sl.newsAt {i j : Nat} {L x : Addr} {l : List (Str × Value)} {o : Obj} (D : Sl prog w h₀ h fs) (hi : AtI fs i (L, .frm l)) (hj : AtI fs j (x, .obj o)) (hij : i ≠ j) : News noHeap L h ((x, o) :: others h [L, x]) := fun p hp => by
  rcases List.mem_cons.mp hp with rfl | hp
  · exact ⟨D.at hj, D.key hj.get hi.get (Ne.symm hij), noHeap_get _⟩
  · exact news_others (ex := [x]) p hp
theorem updF_at {L x : Addr} {o : Obj} : UpdF x o ((x, o) :: others h [L, x]) (fun o' => (x, o') :: others h [L, x]) := .head fun p hp z => (mem_others.mp hp).1 (z ▸ .tail _ (.head _))
theorem before_tot {m1 m2 : Str} {n1 n2 : Int} (h : m1 ≠ m2) : before m2 n2 m1 n1 = !before m1 n1 m2 n2 := by
  unfold before
  by_cases e : n1 = n2
  · subst e
    have h' : m1.cps.toList ≠ m2.cps.toList := fun z => h (by cases m1; cases m2; simp only [Str.mk.injEq]; exact Array.ext' z)
    by_cases a : m1.cps.toList < m2.cps.toList
    · have b : ¬ m2.cps.toList < m1.cps.toList := fun b => absurd (List.lt_trans a b) (List.lt_irrefl _)
      simp [a, b]
    · have b : m2.cps.toList < m1.cps.toList := by
        rcases List.le_iff_lt_or_eq.mp (List.not_lt.mp a) with q | q
        · exact q
        · exact absurd q.symm h'
      simp [a, b]
  · have e1 : (n1 == n2) = false := by simpa using e
    have e2 : (n2 == n1) = false := by simpa using Ne.symm e
    rw [e1, e2, Bool.false_and, Bool.false_and, Bool.or_false, Bool.or_false]
    by_cases a : n1 < n2
    · have b : ¬ n2 < n1 := by omega
      simp [a, b]
    · have b : n2 < n1 := by omega
      simp [a, b]
theorem before_trans {m1 m2 m3 : Str} {n1 n2 n3 : Int} (a : before m1 n1 m2 n2 = true) (b : before m2 n2 m3 n3 = true) : before m1 n1 m3 n3 = true := by
  unfold before at *
  simp only [Bool.or_eq_true, Bool.and_eq_true, decide_eq_true_eq, beq_iff_eq] at *
  rcases a with a | ⟨a1, a2⟩ <;> rcases b with b | ⟨b1, b2⟩
  · exact .inl (by omega)
  · exact .inl (by omega)
  · exact .inl (by omega)
  · exact .inr ⟨by omega, List.lt_trans a2 b2⟩
theorem kcmpE {r : KA} {h₁ : Heap} {a b oa ob : Addr} {m1 m2 : Str} {n1 n2 : Int} (D : Sl prog w h₀ h fs) (G : Gd w.params hK h₀) (K : KOk w.params r h₀) (hroom : A.depth + 2 < recursionLimit) (xa : KObj r h₀ a oa) (xb : KObj r h₀ b ob) (h1 : ∃ u v, IsTup h₁ oa #[.str m1 u, .int n1 v]) (h2 : ∃ u v, IsTup h₁ ob #[.str m2 u, .int n2 v]) (up : ∀ b o, h₁.get? b = some o → h₀.get? b = some o)
   (k : ∀ h' tk, Sl prog w h₀ h' fs → R (.ok (.ret (.bool (opB .Lt (cmpT m1 n1 m2 n2))))) ⟨h', gs, d, tk, os⟩) :
   codeAny (model prog w) A (.call (.ref (r.f 1)) ⟨[.ref a, .ref b], []⟩) R ⟨h, gs, d, t, os⟩ :=
  let ⟨_, _, t1⟩ := h1
  let ⟨_, _, t2⟩ := h2
  kcmp1 D G K hroom xa xb (t1.keeps up) (t2.keeps up) k
theorem r_sortedK {r : KA} {l L : Addr} {i : Nat} {lf : List (Str × Value)} {o : Nat → Addr} {m : Nat → Str} {n : Nat → Int} {Q : Value → Shared → Prop} (D : Sl prog w h₀ h fs) (hi : AtI fs i (L, .frm lf)) (G : Gd w.params hK h₀) (K : KOk w.params r h₀) (hroom : A.depth + 4 < recursionLimit) (hu : A.units + 20 < 9900)
   (hl : h₀.IsList l [.ref (o 0), .ref (o 1), .ref (o 2)].toArray) (rows : ∀ i, i < 3 → ∃ u v, IsTup h₀ (o i) #[.str (m i) u, .int (n i) v]) (hne : ∀ i j, i < 3 → j < 3 → i ≠ j → m i ≠ m j)
   (k : ∀ D' h₁ h' t i j k, [i, j, k] ∈ perm3 → before (m i) (n i) (m j) (n j) = true → before (m j) (n j) (m k) (n k) = true → (∀ b o, h₀.get? b = some o → h₁.get? b = some o) → Sl prog w h₁ h' ((D', .lst [.ref (o i), .ref (o j), .ref (o k)]) :: fs) → Q (.ref D') ⟨h', gs, d, t, os⟩) :
   wpAny (model prog w) A (call (.builtin "sorted") [.ref l] [(Str.ofString "key", .ref r.C)]) Q E ⟨h, gs, d, t, os⟩ := by
  refine kat_sortedK (s := ⟨h, gs, d, t, os⟩) (h₀ := noHeap) (L := L) (vs := [.ref (o 0), .ref (o 1), .ref (o 2)]) (news := others h [L]) (b := false) (D.fr hi) news_others (IsList.kp hl D.keep) (Nat.le_of_ble_eq_true rfl) (Nat.le_of_ble_eq_true rfl) (ksk_s1 _ _) (fun _ => ksk_l1 _ _) (fun _ => ksk_t1 _ _) ?_
  intro Dl kS e1 h' F N lt ne
  have D := D.back2 hi F N lt ne
  have hi2 : AtI ((kS, Cl.obj (seqObj "list" #[] 0)) :: (Dl, Cl.obj (seqObj "list" #[] e1)) :: fs) (i + 2) (L, .frm lf) := .s (.s hi)
  refine KatKeys.cons (r_callv (knew D G K (by show A.depth + 2 < _; exact d0 hroom (Nat.le_of_ble_eq_true rfl)) (fun x0 ha h' t ka X0 D => ?_)))
  refine KatBack.intro (D.fr hi2) (D.newsAt hi2 .z (by omega)) updF_at (fun h' c F N => ?_)
  have D := D.back hi2 .z (by omega) F N (fun p hp => .tail _ hp) (c' := .obj _) (N (kS, _) (.head _)).1
  dsimp only [List.set_cons_zero] at D
  have hi2 := AtI.s (y := (kS, Cl.obj (seqObj "list" (List.toArray ([] ++ [Value.ref x0])) c))) (AtI.s (y := (Dl, Cl.obj (seqObj "list" #[] e1))) hi)
  refine KatKeys.cons (r_callv (knew D (G.keeps ka) (K.up ka) (by show A.depth + 2 < _; exact d0 hroom (Nat.le_of_ble_eq_true rfl)) (fun x1 hb h' t kb X1 D => ?_)))
  refine KatBack.intro (D.fr hi2) (D.newsAt hi2 .z (by omega)) updF_at (fun h' c F N => ?_)
  have D := D.back hi2 .z (by omega) F N (fun p hp => .tail _ hp) (c' := .obj _) (N (kS, _) (.head _)).1
  dsimp only [List.set_cons_zero] at D
  have hi2 := AtI.s (y := (kS, Cl.obj (seqObj "list" (List.toArray ([] ++ [Value.ref x0] ++ [Value.ref x1])) c))) (AtI.s (y := (Dl, Cl.obj (seqObj "list" #[] e1))) hi)
  refine KatKeys.cons (r_callv (knew D ((G.keeps ka).keeps kb) ((K.up ka).up kb) (by show A.depth + 2 < _; exact d0 hroom (Nat.le_of_ble_eq_true rfl)) (fun x2 hc h' t kc X2 D => ?_)))
  refine KatBack.intro (D.fr hi2) (D.newsAt hi2 .z (by omega)) updF_at (fun h' c F N => ?_)
  have D := D.back hi2 .z (by omega) F N (fun p hp => .tail _ hp) (c' := .obj _) (N (kS, _) (.head _)).1
  dsimp only [List.set_cons_zero] at D
  have hi2 := AtI.s (y := (kS, Cl.obj (seqObj "list" (List.toArray ([] ++ [Value.ref x0] ++ [Value.ref x1] ++ [Value.ref x2])) c))) (AtI.s (y := (Dl, Cl.obj (seqObj "list" #[] e1))) hi)
  refine KatKeys.nil ?_
  have up : ∀ b o, h₀.get? b = some o → hc.get? b = some o := fun b o e => kc _ _ (kb _ _ (ka _ _ e))
  have X0 := (X0.up kb).up kc
  have X1 := X1.up kc
  have G := G.keeps up
  have K := K.up up
  obtain ⟨x, hx0, hx1, hx2⟩ : ∃ x : Nat → Addr, x 0 = x0 ∧ x 1 = x1 ∧ x 2 = x2 := ⟨fun i => if i = 0 then x0 else if i = 1 then x1 else x2, rfl, rfl, rfl⟩
  subst hx0 hx1 hx2
  have X : ∀ i, i < 3 → KObj r hc (x i) (o i) := fun i h => by
    have : i = 0 ∨ i = 1 ∨ i = 2 := c3 (by assumption)
    rcases this with rfl | rfl | rfl <;> assumption
  have gx : ∀ i, i < 3 → ([Value.ref (x 0), .ref (x 1), .ref (x 2)] : List Value).getD i .none = .ref (x i) := fun i h => by
    have : i = 0 ∨ i = 1 ∨ i = 2 := c3 (by assumption)
    rcases this with rfl | rfl | rfl <;> rfl
  show wpAny _ _ (keyKind' (List.toArray [Value.ref (x 0), .ref (x 1), .ref (x 2)])) _ _ _
  refine kas_kind (s := ⟨h', gs, d, t, os⟩) (T := .ref r.C) (Nat.le_of_ble_eq_true rfl) (fun y hy => ?_) (by rfl) (by simp) ?_
  · have : ∃ i, i < 3 ∧ y = .ref (x i) := by
      simp only [List.mem_cons, List.mem_nil_iff, or_false] at hy
      rcases hy with rfl | rfl | rfl
      · exact ⟨0, by decide, rfl⟩
      · exact ⟨1, by decide, rfl⟩
      · exact ⟨2, by decide, rfl⟩
    obtain ⟨i, hi, rfl⟩ := this
    obtain ⟨dx, I⟩ := (X i hi).inst
    exact (instAt_kp I D.keep).type
  · refine kas3 (lt := fun i j => before (m i) (n i) (m j) (n j)) (I := fun s => ∃ h' t, s = ⟨h', gs, d, t, os⟩ ∧ Sl prog w hc h' ((kS, Cl.obj (seqObj "list" (List.toArray ([] ++ [Value.ref (x 0)] ++ [Value.ref (x 1)] ++ [Value.ref (x 2)])) c)) :: (Dl, Cl.obj (seqObj "list" #[] e1)) :: fs)) ?_ (fun i j a b c => before_tot (hne i j a b c)) (fun i j k _ _ _ => before_trans) ⟨h', t, rfl, D⟩ ?_
    · rintro i j C _ hi' hj' hij ⟨h', t, rfl, D⟩ z
      show wpAny _ _ (keyLt' oneType' (([Value.ref (x 0), .ref (x 1), .ref (x 2)] : List Value).getD i .none) (([Value.ref (x 0), .ref (x 1), .ref (x 2)] : List Value).getD j .none)) _ _ _
      rw [gx i hi', gx j hj', keyLt'_oneType, oneLt'_eq]
      simp only [if_true]
      refine wpAny_bind (wpAny_cRoomFor (by show A.units + 1 + 1 < 9900; omega) ?_)
      obtain ⟨dx, I⟩ := (X i hi').inst
      refine wpAny_bind (ifBound_K (K.up D.keep).In (instAt_kp I D.keep) (K.find (v := .ref (r.f 1)) (by kernel_rfl)) (beq_iff_eq.mpr (K.fnT (by decide))) (r_callv (kcmpE D G K (by show A.depth + 2 < _; exact d0 hroom (Nat.le_of_ble_eq_true rfl)) (X i hi') (X j hj') (rows i hi') (rows j hj') up (fun h' t D => ?_))))
      rw [before_cmp]
      exact wpAny_truthy_bool (z _ ⟨h', t, rfl, D⟩)
    · rintro i j k' _ hp b1 b2 ⟨h', t, rfl, D⟩
      refine KatFin.intro (D.fr hi2) (D.newsAt hi2 .z (by omega)) updF_at (fun h' c F N => ?_)
      have D := D.back hi2 .z (by omega) F N (fun p hp => .tail _ hp) (c' := .obj _) (N (kS, _) (.head _)).1
      dsimp only [List.set_cons_zero] at D
      have D := D.tail
      refine KasFin.intro (D.fr (.s hi)) (D.newsAt (.s hi) .z (by omega)) updF_at (fun h' c F N => ?_)
      have D := D.back (.s hi) .z (by omega) F N (fun p hp => .tail _ hp) (c' := .lst [.ref (o i), .ref (o j), .ref (o k')]) ⟨c, ?_⟩
      · dsimp only [List.set_cons_zero] at D
        exact k _ hc _ _ i j k' hp b1 b2 up D
      · have e := (N (Dl, _) (.head _)).1
        have r3 := (p3 hp).1
        have go : ∀ i, i < 3 → ([Value.ref (o 0), .ref (o 1), .ref (o 2)] : List Value).getD i .none = .ref (o i) := fun i h => by
          have : i = 0 ∨ i = 1 ∨ i = 2 := c3 (by assumption)
          rcases this with rfl | rfl | rfl <;> rfl
        have e2 : katRev false ((#[i, j, k'] : Array Nat).toList.map fun i => (katRev false [Value.ref (o 0), .ref (o 1), .ref (o 2)]).getD i Value.none) = [.ref (o i), .ref (o j), .ref (o k')] := by
          show [([Value.ref (o 0), .ref (o 1), .ref (o 2)] : List Value).getD i .none, ([Value.ref (o 0), .ref (o 1), .ref (o 2)] : List Value).getD j .none, ([Value.ref (o 0), .ref (o 1), .ref (o 2)] : List Value).getD k' .none] = _
          rw [go i r3.1, go j r3.2.1, go k' r3.2.2]
        rw [e2] at e
        exact e
end
end Mine
end PSO
section PST
namespace Mine
section
variable {prog : Program} {w : World} {A : Around} {h₀ h h' : Heap} {fs : List (Addr × Cl)} {gs : Array GenState} {d : Drawn} {t : Nat} {os : OsState} {E : Value → Shared → Prop} {R : Result → Shared → Prop} {env : Env}
theorem Sl.back1 {i : Nat} {L y : Addr} {l : List (Str × Value)} {oy : Obj} (D : Sl prog w h₀ h fs) (hi : AtI fs i (L, .frm l)) (F : Fr noHeap L h' (fun y => l.lookup y)) (N : News noHeap L h' ((y, oy) :: others h [L])) (ne : ∀ q ∈ others h [L], q.1 < y) :
   Sl prog w h₀ h' ((y, .obj oy) :: fs) := by
  have kp : ∀ b o, b ≠ L → h.get? b = some o → h'.get? b = some o := fun b o n1 e => (N (b, o) (.tail _ (mem_others.mpr ⟨by simp [n1], e⟩))).1
  have hL := (D.ok _ hi.mem).2
  have hy := N (y, oy) (.head _)
  have fy : h.get? y = none := by
    cases q : h.get? y with
    | none => rfl
    | some o => exact absurd (ne (y, o) (mem_others.mpr ⟨by simp [hy.2.1], q⟩)) (Nat.lt_irrefl _)
  obtain ⟨ny, zy⟩ := D.fresh fy
  refine ⟨fun a o e => kp a o (fun z => by rw [z, hL] at e; cases e) (D.keep a o e), fun p hp => ?_, List.nodup_cons.mpr ⟨ny, D.nd⟩⟩
  rcases List.mem_cons.mp hp with rfl | hp
  · exact ⟨hy.1, zy⟩
  have z := D.ok p hp
  refine ⟨?_, z.2⟩
  obtain ⟨k, hk⟩ := List.mem_iff_getElem?.mp hp
  by_cases hik : i = k
  · subst hik
    rw [hi.get] at hk
    cases hk
    exact F.ns
  · exact Cl.mv z.1 fun o e => kp _ o (D.key hk hi.get (Ne.symm hik)) e
theorem r_tlt {x y : Addr} {a b : Int} {ma mb : Str} {u1 u2 v1 v2 : Tok} {C : Bool → Shared → Prop} {s : Shared} (hx : IsTup s.heap x #[.int (-a) u1, .str ma v1]) (hy : IsTup s.heap y #[.int (-b) u2, .str mb v2]) (hne : ma ≠ mb) (z : C (before ma a mb b) s) :
   wpAny (model prog w) A (keyLt' (tuples' true) (.ref x) (.ref y)) C (fun _ _ => False) s := by
  obtain ⟨ox, hx, _, kx, dx⟩ := hx
  obtain ⟨oy, hy, _, ky, dy⟩ := hy
  refine kat_lt hx dx hy dy ?_
  show KatLex prog w A true _ C [(.int (-a) u1, .int (-b) u2), (.str ma v1, .str mb v2)] 0 s
  refine kat_cons (wpAny_eqBool_int ?_)
  unfold before at z
  by_cases e : a = b
  · subst e
    rw [show ((-a : Int) == -a) = true by simp]
    refine kat_yes (kat_cons (wpAny_eqBool_str ?_))
    rw [show decide (ma = mb) = false from decide_eq_false hne]
    refine kat_no ?_
    refine kat_one _ _ (P.lt_str ?_)
    show C _ s
    simpa using z
  · rw [show ((-a : Int) == -b) = false by simpa using e]
    refine kat_no ?_
    refine oneLt_int ?_
    have e' : (a == b) = false := by simpa using e
    rw [e', Bool.false_and, Bool.or_false] at z
    exact (show decide (-a < -b) = decide (b < a) from decide_eq_decide.mpr (by omega)) ▸ z
theorem r_sortedT {l L : Addr} {i : Nat} {lf : List (Str × Value)} {o : Nat → Addr} {m : Nat → Str} {n : Nat → Int} {u v : Nat → Tok} {Q : Value → Shared → Prop} (D : Sl prog w h₀ h fs) (hi : AtI fs i (L, .frm lf))
   (hl : h.IsList l [.ref (o 0), .ref (o 1), .ref (o 2)].toArray) (rows : ∀ i, i < 3 → IsTup h₀ (o i) #[.int (-(n i)) (u i), .str (m i) (v i)]) (hne : ∀ i j, i < 3 → j < 3 → i ≠ j → m i ≠ m j)
   (k : ∀ D' h' t i j k, [i, j, k] ∈ perm3 → before (m i) (n i) (m j) (n j) = true → before (m j) (n j) (m k) (n k) = true → Sl prog w h₀ h' ((D', .lst [.ref (o i), .ref (o j), .ref (o k)]) :: fs) → Q (.ref D') ⟨h', gs, d, t, os⟩) :
   wpAny (model prog w) A (call (.builtin "sorted") [.ref l]) Q E ⟨h, gs, d, t, os⟩ := by
  refine kat_sorted (s := ⟨h, gs, d, t, os⟩) (h₀ := noHeap) (L := L) (vs := [.ref (o 0), .ref (o 1), .ref (o 2)]) (news := others h [L]) (D.fr hi) news_others hl (Nat.le_of_ble_eq_true rfl) (Nat.le_of_ble_eq_true rfl) ?_
  intro Dl e1 h' F N ne
  have D := D.back1 hi F N ne
  have hi2 : AtI ((Dl, Cl.obj (seqObj "list" #[] e1)) :: fs) (i + 1) (L, .frm lf) := .s hi
  have go : ∀ i, i < 3 → ([Value.ref (o 0), .ref (o 1), .ref (o 2)] : List Value).getD i .none = .ref (o i) := fun i h => by
    have : i = 0 ∨ i = 1 ∨ i = 2 := c3 (by assumption)
    rcases this with rfl | rfl | rfl <;> rfl
  have rw' : ∀ i, i < 3 → IsTup h' (o i) #[.int (-(n i)) (u i), .str (m i) (v i)] := fun i hi => (rows i hi).keeps D.keep
  obtain ⟨x0, a0, c0, k0, d0⟩ := rw' 0 (by decide)
  obtain ⟨x1, a1, c1, k1, d1⟩ := rw' 1 (by decide)
  obtain ⟨x2, a2, c2, k2, d2⟩ := rw' 2 (by decide)
  refine kat_kind (s := ⟨h', gs, d, t, os⟩) (fs := [.int (-(n 0)) (u 0), .int (-(n 1)) (u 1), .int (-(n 2)) (u 2)]) (T := .type "int") (.cons a0 c0 d0 rfl (.cons a1 c1 d1 rfl (.cons a2 c2 d2 rfl .nil))) (Nat.le_of_ble_eq_true rfl) (fun y hy => ?_) (by rfl) ?_
  · simp only [List.mem_cons, List.mem_nil_iff, or_false] at hy
    rcases hy with rfl | rfl | rfl <;> exact Looks.of_pure rfl
  · refine kas3 (lt := fun i j => before (m i) (n i) (m j) (n j)) (I := fun s => ∃ h' t, s = ⟨h', gs, d, t, os⟩ ∧ Sl prog w h₀ h' ((Dl, Cl.obj (seqObj "list" #[] e1)) :: fs)) ?_ (fun i j a b c => before_tot (hne i j a b c)) (fun i j k _ _ _ => before_trans) ⟨h', t, rfl, D⟩ ?_
    · rintro i j C _ hi' hj' hij ⟨h', t, rfl, D⟩ z
      show wpAny _ _ (keyLt' (tuples' true) (([Value.ref (o 0), .ref (o 1), .ref (o 2)] : List Value).getD i .none) (([Value.ref (o 0), .ref (o 1), .ref (o 2)] : List Value).getD j .none)) _ _ _
      rw [go i hi', go j hj']
      exact r_tlt ((rows i hi').keeps D.keep) ((rows j hj').keeps D.keep) (hne i j hi' hj' hij) (z _ ⟨h', t, rfl, D⟩)
    · rintro i j k' _ hp b1 b2 ⟨h', t, rfl, D⟩
      refine KasFin.intro (D.fr (.s hi)) (D.newsAt (.s hi) .z (by omega)) updF_at (fun h' c F N => ?_)
      have D := D.back (.s hi) .z (by omega) F N (fun p hp => .tail _ hp) (c' := .lst [.ref (o i), .ref (o j), .ref (o k')]) ⟨c, ?_⟩
      · dsimp only [List.set_cons_zero] at D
        exact k _ _ _ i j k' hp b1 b2 D
      · have e := (N (Dl, _) (.head _)).1
        have r3 := (p3 hp).1
        have e2 : ((#[i, j, k'] : Array Nat).toList.map fun i => ([Value.ref (o 0), .ref (o 1), .ref (o 2)] : List Value).getD i Value.none) = [.ref (o i), .ref (o j), .ref (o k')] := by
          show [([Value.ref (o 0), .ref (o 1), .ref (o 2)] : List Value).getD i .none, ([Value.ref (o 0), .ref (o 1), .ref (o 2)] : List Value).getD j .none, ([Value.ref (o 0), .ref (o 1), .ref (o 2)] : List Value).getD k' .none] = _
          rw [go i r3.1, go j r3.2.1, go k' r3.2.2]
        rw [e2] at e
        exact e
end
end Mine
end PST
section PTL
namespace Mine
noncomputable abbrev tup (n : Int) (u1 : Tok) (x : Str) (u2 : Tok) (e : Nat) : Obj := { cls := .type "tuple", data := .seq #[.int n u1, .str x u2] e }
noncomputable def pairLt (n1 : Int) (x1 : Str) (n2 : Int) (x2 : Str) : Bool := if n1 = n2 then decide (x1.cps.toList < x2.cps.toList) else decide (n1 < n2)
section
variable {prog : Program} {w : World} {A : Around} {E : Value → Shared → Prop} {s : Shared}
theorem lt_irr (l : List Nat) : ¬ l < l := List.lt_irrefl l
theorem tup_lt {x y : Addr} {n1 n2 : Int} {x1 x2 : Str} {u1 u2 u3 u4 : Tok} {e1 e2 : Nat} {Q : Value → Shared → Prop} (hu : A.units < cLine)
    (hx : s.heap.get? x = some (tup n1 u1 x1 u2 e1)) (hy : s.heap.get? y = some (tup n2 u3 x2 u4 e2)) (h : Q (.bool (pairLt n1 x1 n2 x2)) s) :
    wpAny (model prog w) A (compareOp .Lt (.ref x) (.ref y)) Q E s := by
  refine cmp_ofLt ?_
  have tx : s.TypeIs (.ref x) "tuple" := ⟨_, hx, rfl⟩
  have ty : s.TypeIs (.ref y) "tuple" := ⟨_, hy, rfl⟩
  refine wpAny_richCompare_same_room (op := .Lt) tx ty F.slot_tuple_lt (wpAny_call_entry F.slot_tuple_lt tx F.entry_tuple_lt ?_ (F.args_tuple_lt_2 _ _)) hu
  show wpAny _ _ (isInstance (.ref y) (.type "tuple") >>= _) _ _ s
  refine wpAny_bind (wpAny_isInstance ty isSubtype_tuple_tuple ?_)
  simp only [Bool.not_true, Bool.false_eq_true, if_false]
  refine wpAny_bind (wpAny_tupleItemsOf hx rfl ?_)
  refine wpAny_bind (wpAny_tupleItemsOf hy rfl ?_)
  simp only [List.zip_cons_cons, List.zip_nil_left, List.forIn_cons, List.forIn_nil]
  refine wpAny_bind (wpAny_bind (wpAny_bind (wpAny_eqBool_int ?_)))
  by_cases hn : n1 = n2
  · subst hn
    simp only [beq_self_eq_true, Bool.not_true, Bool.false_eq_true, if_false]
    refine wpAny_pure (wpAny_bind (wpAny_bind (wpAny_eqBool_str ?_)))
    have hp : pairLt n1 x1 n1 x2 = decide (x1.cps.toList < x2.cps.toList) := by simp [pairLt]
    rw [hp] at h
    by_cases hs : x1 = x2
    · subst hs
      simp only [decide_true, Bool.not_true, Bool.false_eq_true, if_false]
      refine wpAny_pure (wpAny_pure (wpAny_pure ⟨_, rfl, (fun e => nomatch e), ?_⟩))
      have : decide (x1.cps.toList < x1.cps.toList) = false := decide_eq_false (lt_irr _)
      rw [this] at h
      exact h
    · rw [decide_eq_false hs]
      simp only [Bool.not_false, if_true]
      refine wpAny_bind (wpAny_rule (wpAny_bind ?_))
      exact lt_str (wpAny_bind (wpAny_pure (wpAny_pure (wpAny_pure (wpAny_pure ⟨_, rfl, (fun e => nomatch e), h⟩)))))
  · have hb : (n1 == n2) = false := by simpa using hn
    rw [hb]
    simp only [Bool.not_false, if_true]
    have hp : pairLt n1 x1 n2 x2 = decide (n1 < n2) := by simp [pairLt, hn]
    rw [hp] at h
    refine wpAny_bind (wpAny_rule (wpAny_bind ?_))
    exact lt_int (wpAny_bind (wpAny_pure (wpAny_pure (wpAny_pure (wpAny_pure ⟨_, rfl, (fun e => nomatch e), h⟩)))))
end
end Mine
end PTL
section PHE
namespace Mine
section
variable {prog : Program} {w : World} {A : Around} {h₀ h h' : Heap} {fs : List (Addr × Cl)} {gs : Array GenState} {d : Drawn} {t : Nat} {os : OsState} {E : Value → Shared → Prop} {R : Result → Shared → Prop} {env : Env}
theorem r_lset {i : Nat} {l : Addr} {vs q : List Value} {k : Int} {u : Tok} {v : Value} {Q : Unit → Shared → Prop} (D : Sl prog w h₀ h fs) (hi : AtI fs i (l, .lst vs)) (h0 : 0 ≤ k) (h1 : k < 2 ^ 63) (hn : k < vs.length) (hq : vs.set k.toNat v = q)
   (z : ∀ h', Sl prog w h₀ h' (fs.set i (l, .lst q)) → Q () ⟨h', gs, d, t, os⟩) : wpAny (model prog w) A (setItem (.ref l) (.int k u) v) Q E ⟨h, gs, d, t, os⟩ := by
  obtain ⟨n, e⟩ := (D.at hi : h.PlainList l vs.toArray)
  refine ki_setAt (s := ⟨h, gs, d, t, os⟩) (n := n) e h0 h1 (by simpa using hn) (z _ (D.turn hi (Heap.SameBut.update ..).extBut ?_))
  have e2 := PySem.IsL.update e (fun x => x.setIfInBounds k.toNat v)
  have e3 : (vs.toArray.setIfInBounds k.toNat v) = q.toArray := by rw [← hq]; simp
  rw [e3] at e2
  exact ⟨_, e2⟩
theorem r_llen {i : Nat} {l : Addr} {vs : List Value} {Q : Value → Shared → Prop} (D : Sl prog w h₀ h fs) (hi : AtI fs i (l, .lst vs)) (hz : vs.length ≤ 1000) (k : ∀ u, Q (.int vs.length u) ⟨h, gs, d, t + 1 + 1, os⟩) : wpAny (model prog w) A (call (.builtin "len") [.ref l]) Q E ⟨h, gs, d, t, os⟩ :=
  len_list (s := ⟨h, gs, d, t, os⟩) (Heap.PlainList.isList (D.at hi)) (by rw [List.size_toArray]; omega) (by rw [List.size_toArray]; exact k _)
theorem r_lpop {i j : Nat} {L l : Addr} {lf : List (Str × Value)} {vs p : List Value} {y : Value} {Q : Value → Shared → Prop} (D : Sl prog w h₀ h fs) (hi : AtI fs i (L, .frm lf)) (hj : AtI fs j (l, .lst vs)) (hij : i ≠ j) (hz : vs.length ≤ 1000) (e : kl_last vs = some (p, y))
   (k : ∀ h', Sl prog w h₀ h' (fs.set j (l, .lst p)) → Q y ⟨h', gs, d, t, os⟩) : wpAny (model prog w) A (call (.builtin "list.pop") [.ref l]) Q E ⟨h, gs, d, t, os⟩ := by
  obtain ⟨n, q⟩ := (D.at hj : h.PlainList l vs.toArray)
  have N : News noHeap L h ((l, listOf vs.toArray n) :: others h [L, l]) := fun p hp => by
    rcases List.mem_cons.mp hp with rfl | hp
    · exact ⟨q, D.key hj.get hi.get (Ne.symm hij), noHeap_get _⟩
    · exact news_others (ex := [l]) p hp
  refine kl_pop (s := ⟨h, gs, d, t, os⟩) (D.fr hi) N (by simpa using e) (.head fun p hp z => (mem_others.mp hp).1 (z ▸ .tail _ (.head _))) (by rw [sizeLine_eq]; simp; omega) (fun h' F' N' => k h' (D.back hi hj hij F' N' (fun p hp => .tail _ hp) ⟨n + 1, (N' (l, _) (.head _)).1⟩))
theorem r_mpop {i : Nat} {l : Addr} {vs : List Value} {pl : Sem Bool} {Q : Value × List Value → Shared → Prop} (D : Sl prog w h₀ h fs) (hi : AtI fs i (l, .lst vs)) (k : Q (.builtin "list.pop", [.ref l]) ⟨h, gs, d, t, os⟩) : wpAny (model prog w) A (getMethod (.ref l) (Str.ofString "pop") pl) Q E ⟨h, gs, d, t, os⟩ := by
  obtain ⟨n, e⟩ := (D.at hi : h.PlainList l vs.toArray)
  exact getMethod_builtin (s := ⟨h, gs, d, t, os⟩) ⟨_, e, rfl⟩ PySem.F.plainAttrs_list PySem.F.slot_list_pop PySem.F.type_list_pop (fun a ha => by cases ha; exact ⟨_, e, rfl⟩) k
theorem r_cw0 {pos : Pos} {id : String} {first : List Value} {Q : Value → Shared → Prop} {s : Shared} (x : wpAny (model prog w) A (call (.builtin id) first) Q E s) : wpAny (model prog w) A (callWith pos (.builtin id) first (backTo pos (starEach [] env)) []) Q E s := callWith_method0 x
theorem r_rows_lt {x y : Addr} {a b : Int} {ma mb : Str} {u1 u2 v1 v2 : Tok} {Q : Value → Shared → Prop} (D : Sl prog w h₀ h fs) (hu : A.units < cLine) (hx : h₀.get? x = some (tupO [.int (-a) u1, .str ma v1])) (hy : h₀.get? y = some (tupO [.int (-b) u2, .str mb v2])) (z : Q (.bool (before ma a mb b)) ⟨h, gs, d, t, os⟩) :
   wpAny (model prog w) A (compareOp .Lt (.ref x) (.ref y)) Q E ⟨h, gs, d, t, os⟩ := by
  refine tup_lt (s := ⟨h, gs, d, t, os⟩) hu (D.keep _ _ hx) (D.keep _ _ hy) ?_
  have : pairLt (-a) ma (-b) mb = before ma a mb b := by
    unfold pairLt before
    by_cases e : a = b
    · subst e; simp
    · rw [if_neg (by omega)]
      have e' : (a == b) = false := by simpa using e
      rw [e', Bool.false_and, Bool.or_false]
      exact decide_eq_decide.mpr (by omega)
  rw [this]; exact z
theorem r_shr {a : Int} {u v : Tok} {Q : Value → Shared → Prop} (h0 : 0 ≤ a) (k : Q (.int (a / 2) t) ⟨h, gs, d, t + 1, os⟩) : wpAny (model prog w) A (binaryOp .RShift (.int a u) (.int 1 v)) Q E ⟨h, gs, d, t, os⟩ := wpAny_rshift1_int (s := ⟨h, gs, d, t, os⟩) h0 k
noncomputable def WhP (prog : Program) (w : World) (h₀ : Heap) (gs : Array GenState) (d : Drawn) (os : OsState) (J : Nat → List (Addr × Cl) → Prop) (n : Nat) (Q : Flow → Shared → Prop) (f : Flow) (s : Shared) : Prop := match f with
  | .next | .cont => ∃ m h fs t, m < n ∧ s = ⟨h, gs, d, t, os⟩ ∧ J m fs ∧ Sl prog w h₀ h fs
  | .brk => Q .next s
  | .ret v => Q (.ret v) s
theorem r_while {test : Expr} {body : List Stmt} {Q : Flow → Shared → Prop} (J : Nat → List (Addr × Cl) → Prop) (n : Nat) (D : Sl prog w h₀ h fs) (j : J n fs)
   (turn : ∀ (En : Value → Shared → Prop) n h fs t, J n fs → Sl prog w h₀ h fs → wpAny (model prog w) A (isTrue test env (eval test env)) (fun b s₂ => if b = true then wpAny (model prog w) A (execs body env) (WhP prog w h₀ gs d os J n Q) En s₂ else Q .next s₂) En ⟨h, gs, d, t, os⟩) :
   codeAny (model prog w) A (.whileLoop test body [] env) (fun r s' => match r with | .ok f => Q f s' | .error e => cameBackBy (model prog w) A env E e s') ⟨h, gs, d, t, os⟩ := by
  refine codeAny_whileLoop (fun n s => ∃ h fs t, s = ⟨h, gs, d, t, os⟩ ∧ J n fs ∧ Sl prog w h₀ h fs) ?_ n ⟨h, fs, t, rfl, j, D⟩
  rintro n _ ⟨h, fs, t, rfl, j, D⟩
  refine wpAny_mono (turn _ n h fs t j D) (fun b s₂ x => ?_) fun _ _ y => y
  cases b
  · exact wpAny_execs_nil x
  · refine wpAny_mono x (fun f s₃ z => ?_) fun _ _ y => y
    cases f with
    | next => obtain ⟨m, h, fs, t, hm, rfl, j, D⟩ := z; exact ⟨m, hm, h, fs, t, rfl, j, D⟩
    | cont => obtain ⟨m, h, fs, t, hm, rfl, j, D⟩ := z; exact ⟨m, hm, h, fs, t, rfl, j, D⟩
    | brk => exact z
    | ret v => exact z
noncomputable def Row (h : Heap) (a : Addr) (m : Str) (n : Int) : Prop := ∃ u v, h.get? a = some (tupO [.int (-n) u, .str m v])
theorem sd0 {hp a : Addr} {u1 u2 : Tok} (D : Sl prog w h₀ h ((hp, .lst [.ref a]) :: fs)) (G : Gd w.params hK h₀) (hroom : A.depth < recursionLimit)
   (k : ∀ h' tk, Sl prog w h₀ h' ((hp, .lst [.ref a]) :: fs) → R (.ok (.ret .none)) ⟨h', gs, d, tk, os⟩) : codeAny (model prog w) A (.call (.ref 120) ⟨[.ref hp, .int 0 u1, .int 0 u2], []⟩) R ⟨h, gs, d, t, os⟩ := by
  refine r_call [(Str.ofString "heap", .ref hp), (Str.ofString "startpos", .int 0 u1), (Str.ofString "pos", .int 0 u2)] [(Str.ofString "pos", .int 0 u2), (Str.ofString "startpos", .int 0 u1), (Str.ofString "heap", .ref hp)] 3 D G (fn_120 w.params) hroom (by kernel_rfl) ⟨rfl, rfl⟩ (by kernel_rfl) (fun L h' D => ?_)
  with_unfolding_all change wpAny _ _ (execs (_ :: _) _) _ _ _
  repeat' (first
  | walk_at "b W"
    | walk_at "b W2"
  | with_reducible refine wpAny_While ?_
  | with_reducible refine r_cw0 ?_
  | ((with_reducible refine' wpAny_isTrue_Not ?_))
  | with_reducible refine r_shr (by decide) ?_
  | with_reducible refine P.gt_int ?_
  | with_reducible refine P.lt_int ?_
  | ((with_reducible refine' r_mpop D ?hi ?_); (case hi => walk_at "b AT"))
  | ((with_reducible refine' r_llen D ?hi ?qz (fun u => ?_)); (case hi => walk_at "b AT"); (case qz => exact Nat.le_of_ble_eq_true rfl))
  | ((with_reducible refine' r_litem D ?hi ?h0 ?h1 ?hx ?_ ?hs); (case hi => walk_at "b AT"); (case h0 => decide); (case h1 => decide); (case hx => exact rfl); (case hs => with_unfolding_all rfl))
  | ((with_reducible refine' r_lset D ?hi ?h0 ?h1 ?hn ?hq (fun h' D => ?_)); (case hi => walk_at "b AT"); (case h0 => decide); (case h1 => decide); (case hn => exact of_decide_eq_true rfl); (case hq => exact rfl); dsimp only [List.set_cons_zero, List.set_cons_succ] at D)
  | ((with_reducible refine' r_append D ?hi ?qz (fun h' D => ?_)); (case hi => walk_at "b AT"); (case qz => exact Nat.le_of_ble_eq_true rfl); dsimp only [List.set_cons_zero, List.set_cons_succ, List.cons_append, List.nil_append] at D)
  | with_reducible refine ite_pos (by decide) ?_
  | with_reducible refine ite_neg (by decide) ?_
  | with_reducible refine wpAny_Break ?_
  | with_reducible refine wpAny_Continue ?_
  | fail)
  refine r_while (fun n fs' => fs' = (L, .frm [(S "newitem", .ref a), (S "pos", .int 0 u2), (S "startpos", .int 0 u1), (S "heap", .ref hp)]) :: (hp, .lst [.ref a]) :: fs) 0 D rfl ?_
  rintro En n h _ t rfl D
  repeat' (first
  | walk_at "b W"
    | walk_at "b W2"
  | with_reducible refine wpAny_While ?_
  | with_reducible refine r_cw0 ?_
  | ((with_reducible refine' wpAny_isTrue_Not ?_))
  | with_reducible refine r_shr (by decide) ?_
  | with_reducible refine P.gt_int ?_
  | with_reducible refine P.lt_int ?_
  | ((with_reducible refine' r_mpop D ?hi ?_); (case hi => walk_at "b AT"))
  | ((with_reducible refine' r_llen D ?hi ?qz (fun u => ?_)); (case hi => walk_at "b AT"); (case qz => exact Nat.le_of_ble_eq_true rfl))
  | ((with_reducible refine' r_litem D ?hi ?h0 ?h1 ?hx ?_ ?hs); (case hi => walk_at "b AT"); (case h0 => decide); (case h1 => decide); (case hx => exact rfl); (case hs => with_unfolding_all rfl))
  | ((with_reducible refine' r_lset D ?hi ?h0 ?h1 ?hn ?hq (fun h' D => ?_)); (case hi => walk_at "b AT"); (case h0 => decide); (case h1 => decide); (case hn => exact of_decide_eq_true rfl); (case hq => exact rfl); dsimp only [List.set_cons_zero, List.set_cons_succ] at D)
  | ((with_reducible refine' r_append D ?hi ?qz (fun h' D => ?_)); (case hi => walk_at "b AT"); (case qz => exact Nat.le_of_ble_eq_true rfl); dsimp only [List.set_cons_zero, List.set_cons_succ, List.cons_append, List.nil_append] at D)
  | with_reducible refine ite_pos (by decide) ?_
  | with_reducible refine ite_neg (by decide) ?_
  | with_reducible refine wpAny_Break ?_
  | with_reducible refine wpAny_Continue ?_
  | fail)
  exact k _ _ D.tail
theorem sd1 {hp a b : Addr} {u1 u2 : Tok} {m1 m2 : Str} {n1 n2 : Int} (D : Sl prog w h₀ h ((hp, .lst [.ref a, .ref b]) :: fs)) (G : Gd w.params hK h₀) (hroom : A.depth < recursionLimit) (hu : A.units + 20 < 9900) (ra : Row h₀ a m1 n1) (rx : Row h₀ b m2 n2)
   (k : ∀ h' tk, Sl prog w h₀ h' ((hp, .lst (if before m2 n2 m1 n1 = true then [.ref b, .ref a] else [.ref a, .ref b])) :: fs) → R (.ok (.ret .none)) ⟨h', gs, d, tk, os⟩) : codeAny (model prog w) A (.call (.ref 120) ⟨[.ref hp, .int 0 u1, .int 1 u2], []⟩) R ⟨h, gs, d, t, os⟩ := by
  obtain ⟨ua, va, ea⟩ := ra
  obtain ⟨ux, vx, ex⟩ := rx
  refine r_call [(Str.ofString "heap", .ref hp), (Str.ofString "startpos", .int 0 u1), (Str.ofString "pos", .int 1 u2)] [(Str.ofString "pos", .int 1 u2), (Str.ofString "startpos", .int 0 u1), (Str.ofString "heap", .ref hp)] 3 D G (fn_120 w.params) hroom (by kernel_rfl) ⟨rfl, rfl⟩ (by kernel_rfl) (fun L h' D => ?_)
  with_unfolding_all change wpAny _ _ (execs (_ :: _) _) _ _ _
  repeat' (first
  | walk_at "b W"
    | walk_at "b W2"
  | with_reducible refine wpAny_While ?_
  | with_reducible refine r_cw0 ?_
  | ((with_reducible refine' wpAny_isTrue_Not ?_))
  | with_reducible refine r_shr (by decide) ?_
  | with_reducible refine P.gt_int ?_
  | with_reducible refine P.lt_int ?_
  | ((with_reducible refine' r_mpop D ?hi ?_); (case hi => walk_at "b AT"))
  | ((with_reducible refine' r_llen D ?hi ?qz (fun u => ?_)); (case hi => walk_at "b AT"); (case qz => exact Nat.le_of_ble_eq_true rfl))
  | ((with_reducible refine' r_litem D ?hi ?h0 ?h1 ?hx ?_ ?hs); (case hi => walk_at "b AT"); (case h0 => decide); (case h1 => decide); (case hx => exact rfl); (case hs => with_unfolding_all rfl))
  | ((with_reducible refine' r_lset D ?hi ?h0 ?h1 ?hn ?hq (fun h' D => ?_)); (case hi => walk_at "b AT"); (case h0 => decide); (case h1 => decide); (case hn => exact of_decide_eq_true rfl); (case hq => exact rfl); dsimp only [List.set_cons_zero, List.set_cons_succ] at D)
  | ((with_reducible refine' r_append D ?hi ?qz (fun h' D => ?_)); (case hi => walk_at "b AT"); (case qz => exact Nat.le_of_ble_eq_true rfl); dsimp only [List.set_cons_zero, List.set_cons_succ, List.cons_append, List.nil_append] at D)
  | with_reducible refine ite_pos (by decide) ?_
  | with_reducible refine ite_neg (by decide) ?_
  | with_reducible refine wpAny_Break ?_
  | with_reducible refine wpAny_Continue ?_
  | fail)
  refine r_while (fun n fs' => (n = 1 ∧ fs' = (L, .frm [(S "newitem", .ref b), (S "pos", .int 1 u2), (S "startpos", .int 0 u1), (S "heap", .ref hp)]) :: (hp, .lst [.ref a, .ref b]) :: fs) ∨ (n = 0 ∧ before m2 n2 m1 n1 = true ∧ ∃ fl c u, fs' = (L, .frm fl) :: (hp, .lst [.ref a, .ref a]) :: fs ∧ GetI fl (S "newitem") (.ref b) ∧ GetI fl (S "pos") (.int c u) ∧ GetI fl (S "startpos") (.int 0 u1) ∧ GetI fl (S "heap") (.ref hp) ∧ c = 0)) 1 D (.inl ⟨rfl, rfl⟩) ?_
  rintro En n h _ t (⟨rfl, rfl⟩ | ⟨rfl, hb, fl, c, u, rfl, g1, g2, g3, g4, rfl⟩) D
  · repeat' (first
  | walk_at "b W"
    | walk_at "b W2"
  | with_reducible refine wpAny_While ?_
  | with_reducible refine r_cw0 ?_
  | ((with_reducible refine' wpAny_isTrue_Not ?_))
  | with_reducible refine r_shr (by decide) ?_
  | with_reducible refine P.gt_int ?_
  | with_reducible refine P.lt_int ?_
  | ((with_reducible refine' r_mpop D ?hi ?_); (case hi => walk_at "b AT"))
  | ((with_reducible refine' r_llen D ?hi ?qz (fun u => ?_)); (case hi => walk_at "b AT"); (case qz => exact Nat.le_of_ble_eq_true rfl))
  | ((with_reducible refine' r_litem D ?hi ?h0 ?h1 ?hx ?_ ?hs); (case hi => walk_at "b AT"); (case h0 => decide); (case h1 => decide); (case hx => exact rfl); (case hs => with_unfolding_all rfl))
  | ((with_reducible refine' r_lset D ?hi ?h0 ?h1 ?hn ?hq (fun h' D => ?_)); (case hi => walk_at "b AT"); (case h0 => decide); (case h1 => decide); (case hn => exact of_decide_eq_true rfl); (case hq => exact rfl); dsimp only [List.set_cons_zero, List.set_cons_succ] at D)
  | ((with_reducible refine' r_append D ?hi ?qz (fun h' D => ?_)); (case hi => walk_at "b AT"); (case qz => exact Nat.le_of_ble_eq_true rfl); dsimp only [List.set_cons_zero, List.set_cons_succ, List.cons_append, List.nil_append] at D)
  | with_reducible refine ite_pos (by decide) ?_
  | with_reducible refine ite_neg (by decide) ?_
  | with_reducible refine wpAny_Break ?_
  | with_reducible refine wpAny_Continue ?_
  | fail)
    refine r_rows_lt D (by show A.units + 3 < 9900; omega) ex ea ?_
    repeat' (first
  | walk_at "b W"
    | walk_at "b W2"
  | with_reducible refine wpAny_While ?_
  | with_reducible refine r_cw0 ?_
  | ((with_reducible refine' wpAny_isTrue_Not ?_))
  | with_reducible refine r_shr (by decide) ?_
  | with_reducible refine P.gt_int ?_
  | with_reducible refine P.lt_int ?_
  | ((with_reducible refine' r_mpop D ?hi ?_); (case hi => walk_at "b AT"))
  | ((with_reducible refine' r_llen D ?hi ?qz (fun u => ?_)); (case hi => walk_at "b AT"); (case qz => exact Nat.le_of_ble_eq_true rfl))
  | ((with_reducible refine' r_litem D ?hi ?h0 ?h1 ?hx ?_ ?hs); (case hi => walk_at "b AT"); (case h0 => decide); (case h1 => decide); (case hx => exact rfl); (case hs => with_unfolding_all rfl))
  | ((with_reducible refine' r_lset D ?hi ?h0 ?h1 ?hn ?hq (fun h' D => ?_)); (case hi => walk_at "b AT"); (case h0 => decide); (case h1 => decide); (case hn => exact of_decide_eq_true rfl); (case hq => exact rfl); dsimp only [List.set_cons_zero, List.set_cons_succ] at D)
  | ((with_reducible refine' r_append D ?hi ?qz (fun h' D => ?_)); (case hi => walk_at "b AT"); (case qz => exact Nat.le_of_ble_eq_true rfl); dsimp only [List.set_cons_zero, List.set_cons_succ, List.cons_append, List.nil_append] at D)
  | with_reducible refine ite_pos (by decide) ?_
  | with_reducible refine ite_neg (by decide) ?_
  | with_reducible refine wpAny_Break ?_
  | with_reducible refine wpAny_Continue ?_
  | fail)
    refine iteB (fun hb => ?_) (fun hb => ?_)
    · repeat' (first
  | walk_at "b W"
    | walk_at "b W2"
  | with_reducible refine wpAny_While ?_
  | with_reducible refine r_cw0 ?_
  | ((with_reducible refine' wpAny_isTrue_Not ?_))
  | with_reducible refine r_shr (by decide) ?_
  | with_reducible refine P.gt_int ?_
  | with_reducible refine P.lt_int ?_
  | ((with_reducible refine' r_mpop D ?hi ?_); (case hi => walk_at "b AT"))
  | ((with_reducible refine' r_llen D ?hi ?qz (fun u => ?_)); (case hi => walk_at "b AT"); (case qz => exact Nat.le_of_ble_eq_true rfl))
  | ((with_reducible refine' r_litem D ?hi ?h0 ?h1 ?hx ?_ ?hs); (case hi => walk_at "b AT"); (case h0 => decide); (case h1 => decide); (case hx => exact rfl); (case hs => with_unfolding_all rfl))
  | ((with_reducible refine' r_lset D ?hi ?h0 ?h1 ?hn ?hq (fun h' D => ?_)); (case hi => walk_at "b AT"); (case h0 => decide); (case h1 => decide); (case hn => exact of_decide_eq_true rfl); (case hq => exact rfl); dsimp only [List.set_cons_zero, List.set_cons_succ] at D)
  | ((with_reducible refine' r_append D ?hi ?qz (fun h' D => ?_)); (case hi => walk_at "b AT"); (case qz => exact Nat.le_of_ble_eq_true rfl); dsimp only [List.set_cons_zero, List.set_cons_succ, List.cons_append, List.nil_append] at D)
  | with_reducible refine ite_pos (by decide) ?_
  | with_reducible refine ite_neg (by decide) ?_
  | with_reducible refine wpAny_Break ?_
  | with_reducible refine wpAny_Continue ?_
  | fail)
      exact ⟨0, _, _, _, by decide, rfl, .inr ⟨rfl, hb, _, _, _, rfl, by walk_at "b GT", by walk_at "b GT", by walk_at "b GT", by walk_at "b GT", by first | rfl | decide⟩, D⟩
    · repeat' (first
  | walk_at "b W"
    | walk_at "b W2"
  | with_reducible refine wpAny_While ?_
  | with_reducible refine r_cw0 ?_
  | ((with_reducible refine' wpAny_isTrue_Not ?_))
  | with_reducible refine r_shr (by decide) ?_
  | with_reducible refine P.gt_int ?_
  | with_reducible refine P.lt_int ?_
  | ((with_reducible refine' r_mpop D ?hi ?_); (case hi => walk_at "b AT"))
  | ((with_reducible refine' r_llen D ?hi ?qz (fun u => ?_)); (case hi => walk_at "b AT"); (case qz => exact Nat.le_of_ble_eq_true rfl))
  | ((with_reducible refine' r_litem D ?hi ?h0 ?h1 ?hx ?_ ?hs); (case hi => walk_at "b AT"); (case h0 => decide); (case h1 => decide); (case hx => exact rfl); (case hs => with_unfolding_all rfl))
  | ((with_reducible refine' r_lset D ?hi ?h0 ?h1 ?hn ?hq (fun h' D => ?_)); (case hi => walk_at "b AT"); (case h0 => decide); (case h1 => decide); (case hn => exact of_decide_eq_true rfl); (case hq => exact rfl); dsimp only [List.set_cons_zero, List.set_cons_succ] at D)
  | ((with_reducible refine' r_append D ?hi ?qz (fun h' D => ?_)); (case hi => walk_at "b AT"); (case qz => exact Nat.le_of_ble_eq_true rfl); dsimp only [List.set_cons_zero, List.set_cons_succ, List.cons_append, List.nil_append] at D)
  | with_reducible refine ite_pos (by decide) ?_
  | with_reducible refine ite_neg (by decide) ?_
  | with_reducible refine wpAny_Break ?_
  | with_reducible refine wpAny_Continue ?_
  | fail)
      dsimp only [WhP]
      repeat' (first
  | walk_at "b W"
    | walk_at "b W2"
  | with_reducible refine wpAny_While ?_
  | with_reducible refine r_cw0 ?_
  | ((with_reducible refine' wpAny_isTrue_Not ?_))
  | with_reducible refine r_shr (by decide) ?_
  | with_reducible refine P.gt_int ?_
  | with_reducible refine P.lt_int ?_
  | ((with_reducible refine' r_mpop D ?hi ?_); (case hi => walk_at "b AT"))
  | ((with_reducible refine' r_llen D ?hi ?qz (fun u => ?_)); (case hi => walk_at "b AT"); (case qz => exact Nat.le_of_ble_eq_true rfl))
  | ((with_reducible refine' r_litem D ?hi ?h0 ?h1 ?hx ?_ ?hs); (case hi => walk_at "b AT"); (case h0 => decide); (case h1 => decide); (case hx => exact rfl); (case hs => with_unfolding_all rfl))
  | ((with_reducible refine' r_lset D ?hi ?h0 ?h1 ?hn ?hq (fun h' D => ?_)); (case hi => walk_at "b AT"); (case h0 => decide); (case h1 => decide); (case hn => exact of_decide_eq_true rfl); (case hq => exact rfl); dsimp only [List.set_cons_zero, List.set_cons_succ] at D)
  | ((with_reducible refine' r_append D ?hi ?qz (fun h' D => ?_)); (case hi => walk_at "b AT"); (case qz => exact Nat.le_of_ble_eq_true rfl); dsimp only [List.set_cons_zero, List.set_cons_succ, List.cons_append, List.nil_append] at D)
  | with_reducible refine ite_pos (by decide) ?_
  | with_reducible refine ite_neg (by decide) ?_
  | with_reducible refine wpAny_Break ?_
  | with_reducible refine wpAny_Continue ?_
  | fail)
      rw [hb] at k
      exact k _ _ D.tail
  · repeat' (first
  | walk_at "b W"
    | walk_at "b W2"
  | with_reducible refine wpAny_While ?_
  | with_reducible refine r_cw0 ?_
  | ((with_reducible refine' wpAny_isTrue_Not ?_))
  | with_reducible refine r_shr (by decide) ?_
  | with_reducible refine P.gt_int ?_
  | with_reducible refine P.lt_int ?_
  | ((with_reducible refine' r_mpop D ?hi ?_); (case hi => walk_at "b AT"))
  | ((with_reducible refine' r_llen D ?hi ?qz (fun u => ?_)); (case hi => walk_at "b AT"); (case qz => exact Nat.le_of_ble_eq_true rfl))
  | ((with_reducible refine' r_litem D ?hi ?h0 ?h1 ?hx ?_ ?hs); (case hi => walk_at "b AT"); (case h0 => decide); (case h1 => decide); (case hx => exact rfl); (case hs => with_unfolding_all rfl))
  | ((with_reducible refine' r_lset D ?hi ?h0 ?h1 ?hn ?hq (fun h' D => ?_)); (case hi => walk_at "b AT"); (case h0 => decide); (case h1 => decide); (case hn => exact of_decide_eq_true rfl); (case hq => exact rfl); dsimp only [List.set_cons_zero, List.set_cons_succ] at D)
  | ((with_reducible refine' r_append D ?hi ?qz (fun h' D => ?_)); (case hi => walk_at "b AT"); (case qz => exact Nat.le_of_ble_eq_true rfl); dsimp only [List.set_cons_zero, List.set_cons_succ, List.cons_append, List.nil_append] at D)
  | with_reducible refine ite_pos (by decide) ?_
  | with_reducible refine ite_neg (by decide) ?_
  | with_reducible refine wpAny_Break ?_
  | with_reducible refine wpAny_Continue ?_
  | fail)
    rw [hb] at k
    exact k _ _ D.tail
theorem sd2 {hp a b z : Addr} {u1 u2 : Tok} {m1 m2 : Str} {n1 n2 : Int} (D : Sl prog w h₀ h ((hp, .lst [.ref a, .ref b, .ref z]) :: fs)) (G : Gd w.params hK h₀) (hroom : A.depth < recursionLimit) (hu : A.units + 20 < 9900) (ra : Row h₀ a m1 n1) (rx : Row h₀ z m2 n2)
   (k : ∀ h' tk, Sl prog w h₀ h' ((hp, .lst (if before m2 n2 m1 n1 = true then [.ref z, .ref b, .ref a] else [.ref a, .ref b, .ref z])) :: fs) → R (.ok (.ret .none)) ⟨h', gs, d, tk, os⟩) : codeAny (model prog w) A (.call (.ref 120) ⟨[.ref hp, .int 0 u1, .int 2 u2], []⟩) R ⟨h, gs, d, t, os⟩ := by
  obtain ⟨ua, va, ea⟩ := ra
  obtain ⟨ux, vx, ex⟩ := rx
  refine r_call [(Str.ofString "heap", .ref hp), (Str.ofString "startpos", .int 0 u1), (Str.ofString "pos", .int 2 u2)] [(Str.ofString "pos", .int 2 u2), (Str.ofString "startpos", .int 0 u1), (Str.ofString "heap", .ref hp)] 3 D G (fn_120 w.params) hroom (by kernel_rfl) ⟨rfl, rfl⟩ (by kernel_rfl) (fun L h' D => ?_)
  with_unfolding_all change wpAny _ _ (execs (_ :: _) _) _ _ _
  repeat' (first
  | walk_at "b W"
    | walk_at "b W2"
  | with_reducible refine wpAny_While ?_
  | with_reducible refine r_cw0 ?_
  | ((with_reducible refine' wpAny_isTrue_Not ?_))
  | with_reducible refine r_shr (by decide) ?_
  | with_reducible refine P.gt_int ?_
  | with_reducible refine P.lt_int ?_
  | ((with_reducible refine' r_mpop D ?hi ?_); (case hi => walk_at "b AT"))
  | ((with_reducible refine' r_llen D ?hi ?qz (fun u => ?_)); (case hi => walk_at "b AT"); (case qz => exact Nat.le_of_ble_eq_true rfl))
  | ((with_reducible refine' r_litem D ?hi ?h0 ?h1 ?hx ?_ ?hs); (case hi => walk_at "b AT"); (case h0 => decide); (case h1 => decide); (case hx => exact rfl); (case hs => with_unfolding_all rfl))
  | ((with_reducible refine' r_lset D ?hi ?h0 ?h1 ?hn ?hq (fun h' D => ?_)); (case hi => walk_at "b AT"); (case h0 => decide); (case h1 => decide); (case hn => exact of_decide_eq_true rfl); (case hq => exact rfl); dsimp only [List.set_cons_zero, List.set_cons_succ] at D)
  | ((with_reducible refine' r_append D ?hi ?qz (fun h' D => ?_)); (case hi => walk_at "b AT"); (case qz => exact Nat.le_of_ble_eq_true rfl); dsimp only [List.set_cons_zero, List.set_cons_succ, List.cons_append, List.nil_append] at D)
  | with_reducible refine ite_pos (by decide) ?_
  | with_reducible refine ite_neg (by decide) ?_
  | with_reducible refine wpAny_Break ?_
  | with_reducible refine wpAny_Continue ?_
  | fail)
  refine r_while (fun n fs' => (n = 1 ∧ fs' = (L, .frm [(S "newitem", .ref z), (S "pos", .int 2 u2), (S "startpos", .int 0 u1), (S "heap", .ref hp)]) :: (hp, .lst [.ref a, .ref b, .ref z]) :: fs) ∨ (n = 0 ∧ before m2 n2 m1 n1 = true ∧ ∃ fl c u, fs' = (L, .frm fl) :: (hp, .lst [.ref a, .ref b, .ref a]) :: fs ∧ GetI fl (S "newitem") (.ref z) ∧ GetI fl (S "pos") (.int c u) ∧ GetI fl (S "startpos") (.int 0 u1) ∧ GetI fl (S "heap") (.ref hp) ∧ c = 0)) 1 D (.inl ⟨rfl, rfl⟩) ?_
  rintro En n h _ t (⟨rfl, rfl⟩ | ⟨rfl, hb, fl, c, u, rfl, g1, g2, g3, g4, rfl⟩) D
  · repeat' (first
  | walk_at "b W"
    | walk_at "b W2"
  | with_reducible refine wpAny_While ?_
  | with_reducible refine r_cw0 ?_
  | ((with_reducible refine' wpAny_isTrue_Not ?_))
  | with_reducible refine r_shr (by decide) ?_
  | with_reducible refine P.gt_int ?_
  | with_reducible refine P.lt_int ?_
  | ((with_reducible refine' r_mpop D ?hi ?_); (case hi => walk_at "b AT"))
  | ((with_reducible refine' r_llen D ?hi ?qz (fun u => ?_)); (case hi => walk_at "b AT"); (case qz => exact Nat.le_of_ble_eq_true rfl))
  | ((with_reducible refine' r_litem D ?hi ?h0 ?h1 ?hx ?_ ?hs); (case hi => walk_at "b AT"); (case h0 => decide); (case h1 => decide); (case hx => exact rfl); (case hs => with_unfolding_all rfl))
  | ((with_reducible refine' r_lset D ?hi ?h0 ?h1 ?hn ?hq (fun h' D => ?_)); (case hi => walk_at "b AT"); (case h0 => decide); (case h1 => decide); (case hn => exact of_decide_eq_true rfl); (case hq => exact rfl); dsimp only [List.set_cons_zero, List.set_cons_succ] at D)
  | ((with_reducible refine' r_append D ?hi ?qz (fun h' D => ?_)); (case hi => walk_at "b AT"); (case qz => exact Nat.le_of_ble_eq_true rfl); dsimp only [List.set_cons_zero, List.set_cons_succ, List.cons_append, List.nil_append] at D)
  | with_reducible refine ite_pos (by decide) ?_
  | with_reducible refine ite_neg (by decide) ?_
  | with_reducible refine wpAny_Break ?_
  | with_reducible refine wpAny_Continue ?_
  | fail)
    refine r_rows_lt D (by show A.units + 3 < 9900; omega) ex ea ?_
    repeat' (first
  | walk_at "b W"
    | walk_at "b W2"
  | with_reducible refine wpAny_While ?_
  | with_reducible refine r_cw0 ?_
  | ((with_reducible refine' wpAny_isTrue_Not ?_))
  | with_reducible refine r_shr (by decide) ?_
  | with_reducible refine P.gt_int ?_
  | with_reducible refine P.lt_int ?_
  | ((with_reducible refine' r_mpop D ?hi ?_); (case hi => walk_at "b AT"))
  | ((with_reducible refine' r_llen D ?hi ?qz (fun u => ?_)); (case hi => walk_at "b AT"); (case qz => exact Nat.le_of_ble_eq_true rfl))
  | ((with_reducible refine' r_litem D ?hi ?h0 ?h1 ?hx ?_ ?hs); (case hi => walk_at "b AT"); (case h0 => decide); (case h1 => decide); (case hx => exact rfl); (case hs => with_unfolding_all rfl))
  | ((with_reducible refine' r_lset D ?hi ?h0 ?h1 ?hn ?hq (fun h' D => ?_)); (case hi => walk_at "b AT"); (case h0 => decide); (case h1 => decide); (case hn => exact of_decide_eq_true rfl); (case hq => exact rfl); dsimp only [List.set_cons_zero, List.set_cons_succ] at D)
  | ((with_reducible refine' r_append D ?hi ?qz (fun h' D => ?_)); (case hi => walk_at "b AT"); (case qz => exact Nat.le_of_ble_eq_true rfl); dsimp only [List.set_cons_zero, List.set_cons_succ, List.cons_append, List.nil_append] at D)
  | with_reducible refine ite_pos (by decide) ?_
  | with_reducible refine ite_neg (by decide) ?_
  | with_reducible refine wpAny_Break ?_
  | with_reducible refine wpAny_Continue ?_
  | fail)
    refine iteB (fun hb => ?_) (fun hb => ?_)
    · repeat' (first
  | walk_at "b W"
    | walk_at "b W2"
  | with_reducible refine wpAny_While ?_
  | with_reducible refine r_cw0 ?_
  | ((with_reducible refine' wpAny_isTrue_Not ?_))
  | with_reducible refine r_shr (by decide) ?_
  | with_reducible refine P.gt_int ?_
  | with_reducible refine P.lt_int ?_
  | ((with_reducible refine' r_mpop D ?hi ?_); (case hi => walk_at "b AT"))
  | ((with_reducible refine' r_llen D ?hi ?qz (fun u => ?_)); (case hi => walk_at "b AT"); (case qz => exact Nat.le_of_ble_eq_true rfl))
  | ((with_reducible refine' r_litem D ?hi ?h0 ?h1 ?hx ?_ ?hs); (case hi => walk_at "b AT"); (case h0 => decide); (case h1 => decide); (case hx => exact rfl); (case hs => with_unfolding_all rfl))
  | ((with_reducible refine' r_lset D ?hi ?h0 ?h1 ?hn ?hq (fun h' D => ?_)); (case hi => walk_at "b AT"); (case h0 => decide); (case h1 => decide); (case hn => exact of_decide_eq_true rfl); (case hq => exact rfl); dsimp only [List.set_cons_zero, List.set_cons_succ] at D)
  | ((with_reducible refine' r_append D ?hi ?qz (fun h' D => ?_)); (case hi => walk_at "b AT"); (case qz => exact Nat.le_of_ble_eq_true rfl); dsimp only [List.set_cons_zero, List.set_cons_succ, List.cons_append, List.nil_append] at D)
  | with_reducible refine ite_pos (by decide) ?_
  | with_reducible refine ite_neg (by decide) ?_
  | with_reducible refine wpAny_Break ?_
  | with_reducible refine wpAny_Continue ?_
  | fail)
      exact ⟨0, _, _, _, by decide, rfl, .inr ⟨rfl, hb, _, _, _, rfl, by walk_at "b GT", by walk_at "b GT", by walk_at "b GT", by walk_at "b GT", by first | rfl | decide⟩, D⟩
    · repeat' (first
  | walk_at "b W"
    | walk_at "b W2"
  | with_reducible refine wpAny_While ?_
  | with_reducible refine r_cw0 ?_
  | ((with_reducible refine' wpAny_isTrue_Not ?_))
  | with_reducible refine r_shr (by decide) ?_
  | with_reducible refine P.gt_int ?_
  | with_reducible refine P.lt_int ?_
  | ((with_reducible refine' r_mpop D ?hi ?_); (case hi => walk_at "b AT"))
  | ((with_reducible refine' r_llen D ?hi ?qz (fun u => ?_)); (case hi => walk_at "b AT"); (case qz => exact Nat.le_of_ble_eq_true rfl))
  | ((with_reducible refine' r_litem D ?hi ?h0 ?h1 ?hx ?_ ?hs); (case hi => walk_at "b AT"); (case h0 => decide); (case h1 => decide); (case hx => exact rfl); (case hs => with_unfolding_all rfl))
  | ((with_reducible refine' r_lset D ?hi ?h0 ?h1 ?hn ?hq (fun h' D => ?_)); (case hi => walk_at "b AT"); (case h0 => decide); (case h1 => decide); (case hn => exact of_decide_eq_true rfl); (case hq => exact rfl); dsimp only [List.set_cons_zero, List.set_cons_succ] at D)
  | ((with_reducible refine' r_append D ?hi ?qz (fun h' D => ?_)); (case hi => walk_at "b AT"); (case qz => exact Nat.le_of_ble_eq_true rfl); dsimp only [List.set_cons_zero, List.set_cons_succ, List.cons_append, List.nil_append] at D)
  | with_reducible refine ite_pos (by decide) ?_
  | with_reducible refine ite_neg (by decide) ?_
  | with_reducible refine wpAny_Break ?_
  | with_reducible refine wpAny_Continue ?_
  | fail)
      dsimp only [WhP]
      repeat' (first
  | walk_at "b W"
    | walk_at "b W2"
  | with_reducible refine wpAny_While ?_
  | with_reducible refine r_cw0 ?_
  | ((with_reducible refine' wpAny_isTrue_Not ?_))
  | with_reducible refine r_shr (by decide) ?_
  | with_reducible refine P.gt_int ?_
  | with_reducible refine P.lt_int ?_
  | ((with_reducible refine' r_mpop D ?hi ?_); (case hi => walk_at "b AT"))
  | ((with_reducible refine' r_llen D ?hi ?qz (fun u => ?_)); (case hi => walk_at "b AT"); (case qz => exact Nat.le_of_ble_eq_true rfl))
  | ((with_reducible refine' r_litem D ?hi ?h0 ?h1 ?hx ?_ ?hs); (case hi => walk_at "b AT"); (case h0 => decide); (case h1 => decide); (case hx => exact rfl); (case hs => with_unfolding_all rfl))
  | ((with_reducible refine' r_lset D ?hi ?h0 ?h1 ?hn ?hq (fun h' D => ?_)); (case hi => walk_at "b AT"); (case h0 => decide); (case h1 => decide); (case hn => exact of_decide_eq_true rfl); (case hq => exact rfl); dsimp only [List.set_cons_zero, List.set_cons_succ] at D)
  | ((with_reducible refine' r_append D ?hi ?qz (fun h' D => ?_)); (case hi => walk_at "b AT"); (case qz => exact Nat.le_of_ble_eq_true rfl); dsimp only [List.set_cons_zero, List.set_cons_succ, List.cons_append, List.nil_append] at D)
  | with_reducible refine ite_pos (by decide) ?_
  | with_reducible refine ite_neg (by decide) ?_
  | with_reducible refine wpAny_Break ?_
  | with_reducible refine wpAny_Continue ?_
  | fail)
      rw [hb] at k
      exact k _ _ D.tail
  · repeat' (first
  | walk_at "b W"
    | walk_at "b W2"
  | with_reducible refine wpAny_While ?_
  | with_reducible refine r_cw0 ?_
  | ((with_reducible refine' wpAny_isTrue_Not ?_))
  | with_reducible refine r_shr (by decide) ?_
  | with_reducible refine P.gt_int ?_
  | with_reducible refine P.lt_int ?_
  | ((with_reducible refine' r_mpop D ?hi ?_); (case hi => walk_at "b AT"))
  | ((with_reducible refine' r_llen D ?hi ?qz (fun u => ?_)); (case hi => walk_at "b AT"); (case qz => exact Nat.le_of_ble_eq_true rfl))
  | ((with_reducible refine' r_litem D ?hi ?h0 ?h1 ?hx ?_ ?hs); (case hi => walk_at "b AT"); (case h0 => decide); (case h1 => decide); (case hx => exact rfl); (case hs => with_unfolding_all rfl))
  | ((with_reducible refine' r_lset D ?hi ?h0 ?h1 ?hn ?hq (fun h' D => ?_)); (case hi => walk_at "b AT"); (case h0 => decide); (case h1 => decide); (case hn => exact of_decide_eq_true rfl); (case hq => exact rfl); dsimp only [List.set_cons_zero, List.set_cons_succ] at D)
  | ((with_reducible refine' r_append D ?hi ?qz (fun h' D => ?_)); (case hi => walk_at "b AT"); (case qz => exact Nat.le_of_ble_eq_true rfl); dsimp only [List.set_cons_zero, List.set_cons_succ, List.cons_append, List.nil_append] at D)
  | with_reducible refine ite_pos (by decide) ?_
  | with_reducible refine ite_neg (by decide) ?_
  | with_reducible refine wpAny_Break ?_
  | with_reducible refine wpAny_Continue ?_
  | fail)
    rw [hb] at k
    exact k _ _ D.tail
end
end Mine
end PHE
section PHF
namespace Mine
section
variable {prog : Program} {w : World} {A : Around} {h₀ h h' : Heap} {fs : List (Addr × Cl)} {gs : Array GenState} {d : Drawn} {t : Nat} {os : OsState} {E : Value → Shared → Prop} {R : Result → Shared → Prop} {env : Env}
theorem r_ltruth {i : Nat} {l : Addr} {vs : List Value} {Q : Bool → Shared → Prop} (D : Sl prog w h₀ h fs) (hi : AtI fs i (l, .lst vs)) (hz : vs.length ≤ 1000) (k : Q (!vs.toArray.isEmpty) ⟨h, gs, d, t + 1 + 1, os⟩) : wpAny (model prog w) A (truthy (.ref l)) Q E ⟨h, gs, d, t, os⟩ :=
  wpAny_truthy_list (s := ⟨h, gs, d, t, os⟩) (Heap.PlainList.isList (D.at hi)) (by rw [List.size_toArray]; omega) k
theorem push0 {hp a : Addr}  (D : Sl prog w h₀ h ((hp, .lst []) :: fs)) (G : Gd w.params hK h₀) (hroom : A.depth + 1 < recursionLimit) (hu : A.units + 40 < 9900) 
   (k : ∀ h' tk, Sl prog w h₀ h' ((hp, .lst ([.ref a])) :: fs) → R (.ok (.ret .none)) ⟨h', gs, d, tk, os⟩) : codeAny (model prog w) A (.call (.ref 106) ⟨[.ref hp, .ref a], []⟩) R ⟨h, gs, d, t, os⟩ := by
  refine r_call [(Str.ofString "heap", .ref hp), (Str.ofString "item", .ref a)] [(Str.ofString "item", .ref a), (Str.ofString "heap", .ref hp)] 2 D G (fn_106 w.params) (d00 hroom) (by kernel_rfl) ⟨rfl, rfl⟩ (by kernel_rfl) (fun L h' D => ?_)
  with_unfolding_all change wpAny _ _ (execs (_ :: _) _) _ _ _
  repeat' (first
  | walk_at "b W"
    | walk_at "b W2"
  | with_reducible refine wpAny_While ?_
  | with_reducible refine r_cw0 ?_
  | ((with_reducible refine' wpAny_isTrue_Not ?_))
  | with_reducible refine r_shr (by decide) ?_
  | with_reducible refine P.gt_int ?_
  | with_reducible refine P.lt_int ?_
  | ((with_reducible refine' r_mpop D ?hi ?_); (case hi => walk_at "b AT"))
  | ((with_reducible refine' r_llen D ?hi ?qz (fun u => ?_)); (case hi => walk_at "b AT"); (case qz => exact Nat.le_of_ble_eq_true rfl))
  | ((with_reducible refine' r_litem D ?hi ?h0 ?h1 ?hx ?_ ?hs); (case hi => walk_at "b AT"); (case h0 => decide); (case h1 => decide); (case hx => exact rfl); (case hs => with_unfolding_all rfl))
  | ((with_reducible refine' r_lset D ?hi ?h0 ?h1 ?hn ?hq (fun h' D => ?_)); (case hi => walk_at "b AT"); (case h0 => decide); (case h1 => decide); (case hn => exact of_decide_eq_true rfl); (case hq => exact rfl); dsimp only [List.set_cons_zero, List.set_cons_succ] at D)
  | ((with_reducible refine' r_append D ?hi ?qz (fun h' D => ?_)); (case hi => walk_at "b AT"); (case qz => exact Nat.le_of_ble_eq_true rfl); dsimp only [List.set_cons_zero, List.set_cons_succ, List.cons_append, List.nil_append] at D)
  | with_reducible refine ite_pos (by decide) ?_
  | with_reducible refine ite_neg (by decide) ?_
  | with_reducible refine wpAny_Break ?_
  | with_reducible refine wpAny_Continue ?_
  | with_reducible refine wpAny_isTrue_BoolOp ?_
  | with_reducible refine wpAny_allTrue_And_cons ?_
  | ((with_reducible refine' r_ltruth D ?hi ?qz ?_); (case hi => walk_at "b AT"); (case qz => exact Nat.le_of_ble_eq_true rfl))
  | ((with_reducible refine' r_lpop D ?hi ?hj ?ne ?qz ?e (fun h' D => ?_)); (case hi => exact .z); (case hj => exact .s .z); (case ne => decide); (case qz => exact Nat.le_of_ble_eq_true rfl); (case e => exact rfl); dsimp only [List.set_cons_zero, List.set_cons_succ] at D)
  | ((with_reducible refine' mul_int ?_ ?qm); (case qm => (unfold IntMulOk; decide +kernel)))
  | ((with_reducible show ite ((!_) = true) _ _); refine ite_pos (by rfl) ?_)
  | fail)
  have D := D.front (.s .z)
  dsimp only [List.eraseIdx_cons_succ, List.eraseIdx_cons_zero] at D
  refine sd0 D G (by show A.depth + 1 < _; omega)  (fun h' t D => ?_)
  repeat' (first
  | walk_at "b W"
    | walk_at "b W2"
  | with_reducible refine wpAny_While ?_
  | with_reducible refine r_cw0 ?_
  | ((with_reducible refine' wpAny_isTrue_Not ?_))
  | with_reducible refine r_shr (by decide) ?_
  | with_reducible refine P.gt_int ?_
  | with_reducible refine P.lt_int ?_
  | ((with_reducible refine' r_mpop D ?hi ?_); (case hi => walk_at "b AT"))
  | ((with_reducible refine' r_llen D ?hi ?qz (fun u => ?_)); (case hi => walk_at "b AT"); (case qz => exact Nat.le_of_ble_eq_true rfl))
  | ((with_reducible refine' r_litem D ?hi ?h0 ?h1 ?hx ?_ ?hs); (case hi => walk_at "b AT"); (case h0 => decide); (case h1 => decide); (case hx => exact rfl); (case hs => with_unfolding_all rfl))
  | ((with_reducible refine' r_lset D ?hi ?h0 ?h1 ?hn ?hq (fun h' D => ?_)); (case hi => walk_at "b AT"); (case h0 => decide); (case h1 => decide); (case hn => exact of_decide_eq_true rfl); (case hq => exact rfl); dsimp only [List.set_cons_zero, List.set_cons_succ] at D)
  | ((with_reducible refine' r_append D ?hi ?qz (fun h' D => ?_)); (case hi => walk_at "b AT"); (case qz => exact Nat.le_of_ble_eq_true rfl); dsimp only [List.set_cons_zero, List.set_cons_succ, List.cons_append, List.nil_append] at D)
  | with_reducible refine ite_pos (by decide) ?_
  | with_reducible refine ite_neg (by decide) ?_
  | with_reducible refine wpAny_Break ?_
  | with_reducible refine wpAny_Continue ?_
  | with_reducible refine wpAny_isTrue_BoolOp ?_
  | with_reducible refine wpAny_allTrue_And_cons ?_
  | ((with_reducible refine' r_ltruth D ?hi ?qz ?_); (case hi => walk_at "b AT"); (case qz => exact Nat.le_of_ble_eq_true rfl))
  | ((with_reducible refine' r_lpop D ?hi ?hj ?ne ?qz ?e (fun h' D => ?_)); (case hi => exact .z); (case hj => exact .s .z); (case ne => decide); (case qz => exact Nat.le_of_ble_eq_true rfl); (case e => exact rfl); dsimp only [List.set_cons_zero, List.set_cons_succ] at D)
  | ((with_reducible refine' mul_int ?_ ?qm); (case qm => (unfold IntMulOk; decide +kernel)))
  | ((with_reducible show ite ((!_) = true) _ _); refine ite_pos (by rfl) ?_)
  | fail)
  exact k _ _ (D.sub (List.Sublist.cons_cons _ (List.sublist_cons_self ..)))
theorem push1 {hp a b : Addr} {m1 m2 : Str} {n1 n2 : Int} (D : Sl prog w h₀ h ((hp, .lst [.ref a]) :: fs)) (G : Gd w.params hK h₀) (hroom : A.depth + 1 < recursionLimit) (hu : A.units + 40 < 9900) (ra : Row h₀ a m1 n1) (rx : Row h₀ b m2 n2)
   (k : ∀ h' tk, Sl prog w h₀ h' ((hp, .lst (if before m2 n2 m1 n1 = true then [.ref b, .ref a] else [.ref a, .ref b])) :: fs) → R (.ok (.ret .none)) ⟨h', gs, d, tk, os⟩) : codeAny (model prog w) A (.call (.ref 106) ⟨[.ref hp, .ref b], []⟩) R ⟨h, gs, d, t, os⟩ := by
  refine r_call [(Str.ofString "heap", .ref hp), (Str.ofString "item", .ref b)] [(Str.ofString "item", .ref b), (Str.ofString "heap", .ref hp)] 2 D G (fn_106 w.params) (d00 hroom) (by kernel_rfl) ⟨rfl, rfl⟩ (by kernel_rfl) (fun L h' D => ?_)
  with_unfolding_all change wpAny _ _ (execs (_ :: _) _) _ _ _
  repeat' (first
  | walk_at "b W"
    | walk_at "b W2"
  | with_reducible refine wpAny_While ?_
  | with_reducible refine r_cw0 ?_
  | ((with_reducible refine' wpAny_isTrue_Not ?_))
  | with_reducible refine r_shr (by decide) ?_
  | with_reducible refine P.gt_int ?_
  | with_reducible refine P.lt_int ?_
  | ((with_reducible refine' r_mpop D ?hi ?_); (case hi => walk_at "b AT"))
  | ((with_reducible refine' r_llen D ?hi ?qz (fun u => ?_)); (case hi => walk_at "b AT"); (case qz => exact Nat.le_of_ble_eq_true rfl))
  | ((with_reducible refine' r_litem D ?hi ?h0 ?h1 ?hx ?_ ?hs); (case hi => walk_at "b AT"); (case h0 => decide); (case h1 => decide); (case hx => exact rfl); (case hs => with_unfolding_all rfl))
  | ((with_reducible refine' r_lset D ?hi ?h0 ?h1 ?hn ?hq (fun h' D => ?_)); (case hi => walk_at "b AT"); (case h0 => decide); (case h1 => decide); (case hn => exact of_decide_eq_true rfl); (case hq => exact rfl); dsimp only [List.set_cons_zero, List.set_cons_succ] at D)
  | ((with_reducible refine' r_append D ?hi ?qz (fun h' D => ?_)); (case hi => walk_at "b AT"); (case qz => exact Nat.le_of_ble_eq_true rfl); dsimp only [List.set_cons_zero, List.set_cons_succ, List.cons_append, List.nil_append] at D)
  | with_reducible refine ite_pos (by decide) ?_
  | with_reducible refine ite_neg (by decide) ?_
  | with_reducible refine wpAny_Break ?_
  | with_reducible refine wpAny_Continue ?_
  | with_reducible refine wpAny_isTrue_BoolOp ?_
  | with_reducible refine wpAny_allTrue_And_cons ?_
  | ((with_reducible refine' r_ltruth D ?hi ?qz ?_); (case hi => walk_at "b AT"); (case qz => exact Nat.le_of_ble_eq_true rfl))
  | ((with_reducible refine' r_lpop D ?hi ?hj ?ne ?qz ?e (fun h' D => ?_)); (case hi => exact .z); (case hj => exact .s .z); (case ne => decide); (case qz => exact Nat.le_of_ble_eq_true rfl); (case e => exact rfl); dsimp only [List.set_cons_zero, List.set_cons_succ] at D)
  | ((with_reducible refine' mul_int ?_ ?qm); (case qm => (unfold IntMulOk; decide +kernel)))
  | ((with_reducible show ite ((!_) = true) _ _); refine ite_pos (by rfl) ?_)
  | fail)
  have D := D.front (.s .z)
  dsimp only [List.eraseIdx_cons_succ, List.eraseIdx_cons_zero] at D
  refine sd1 D G (by show A.depth + 1 < _; omega) (by show A.units + 3 + 20 < _; omega) ra rx (fun h' t D => ?_)
  repeat' (first
  | walk_at "b W"
    | walk_at "b W2"
  | with_reducible refine wpAny_While ?_
  | with_reducible refine r_cw0 ?_
  | ((with_reducible refine' wpAny_isTrue_Not ?_))
  | with_reducible refine r_shr (by decide) ?_
  | with_reducible refine P.gt_int ?_
  | with_reducible refine P.lt_int ?_
  | ((with_reducible refine' r_mpop D ?hi ?_); (case hi => walk_at "b AT"))
  | ((with_reducible refine' r_llen D ?hi ?qz (fun u => ?_)); (case hi => walk_at "b AT"); (case qz => exact Nat.le_of_ble_eq_true rfl))
  | ((with_reducible refine' r_litem D ?hi ?h0 ?h1 ?hx ?_ ?hs); (case hi => walk_at "b AT"); (case h0 => decide); (case h1 => decide); (case hx => exact rfl); (case hs => with_unfolding_all rfl))
  | ((with_reducible refine' r_lset D ?hi ?h0 ?h1 ?hn ?hq (fun h' D => ?_)); (case hi => walk_at "b AT"); (case h0 => decide); (case h1 => decide); (case hn => exact of_decide_eq_true rfl); (case hq => exact rfl); dsimp only [List.set_cons_zero, List.set_cons_succ] at D)
  | ((with_reducible refine' r_append D ?hi ?qz (fun h' D => ?_)); (case hi => walk_at "b AT"); (case qz => exact Nat.le_of_ble_eq_true rfl); dsimp only [List.set_cons_zero, List.set_cons_succ, List.cons_append, List.nil_append] at D)
  | with_reducible refine ite_pos (by decide) ?_
  | with_reducible refine ite_neg (by decide) ?_
  | with_reducible refine wpAny_Break ?_
  | with_reducible refine wpAny_Continue ?_
  | with_reducible refine wpAny_isTrue_BoolOp ?_
  | with_reducible refine wpAny_allTrue_And_cons ?_
  | ((with_reducible refine' r_ltruth D ?hi ?qz ?_); (case hi => walk_at "b AT"); (case qz => exact Nat.le_of_ble_eq_true rfl))
  | ((with_reducible refine' r_lpop D ?hi ?hj ?ne ?qz ?e (fun h' D => ?_)); (case hi => exact .z); (case hj => exact .s .z); (case ne => decide); (case qz => exact Nat.le_of_ble_eq_true rfl); (case e => exact rfl); dsimp only [List.set_cons_zero, List.set_cons_succ] at D)
  | ((with_reducible refine' mul_int ?_ ?qm); (case qm => (unfold IntMulOk; decide +kernel)))
  | ((with_reducible show ite ((!_) = true) _ _); refine ite_pos (by rfl) ?_)
  | fail)
  exact k _ _ (D.sub (List.Sublist.cons_cons _ (List.sublist_cons_self ..)))
theorem push2 {hp a b z : Addr} {m1 m2 : Str} {n1 n2 : Int} (D : Sl prog w h₀ h ((hp, .lst [.ref a, .ref b]) :: fs)) (G : Gd w.params hK h₀) (hroom : A.depth + 1 < recursionLimit) (hu : A.units + 40 < 9900) (ra : Row h₀ a m1 n1) (rx : Row h₀ z m2 n2)
   (k : ∀ h' tk, Sl prog w h₀ h' ((hp, .lst (if before m2 n2 m1 n1 = true then [.ref z, .ref b, .ref a] else [.ref a, .ref b, .ref z])) :: fs) → R (.ok (.ret .none)) ⟨h', gs, d, tk, os⟩) : codeAny (model prog w) A (.call (.ref 106) ⟨[.ref hp, .ref z], []⟩) R ⟨h, gs, d, t, os⟩ := by
  refine r_call [(Str.ofString "heap", .ref hp), (Str.ofString "item", .ref z)] [(Str.ofString "item", .ref z), (Str.ofString "heap", .ref hp)] 2 D G (fn_106 w.params) (d00 hroom) (by kernel_rfl) ⟨rfl, rfl⟩ (by kernel_rfl) (fun L h' D => ?_)
  with_unfolding_all change wpAny _ _ (execs (_ :: _) _) _ _ _
  repeat' (first
  | walk_at "b W"
    | walk_at "b W2"
  | with_reducible refine wpAny_While ?_
  | with_reducible refine r_cw0 ?_
  | ((with_reducible refine' wpAny_isTrue_Not ?_))
  | with_reducible refine r_shr (by decide) ?_
  | with_reducible refine P.gt_int ?_
  | with_reducible refine P.lt_int ?_
  | ((with_reducible refine' r_mpop D ?hi ?_); (case hi => walk_at "b AT"))
  | ((with_reducible refine' r_llen D ?hi ?qz (fun u => ?_)); (case hi => walk_at "b AT"); (case qz => exact Nat.le_of_ble_eq_true rfl))
  | ((with_reducible refine' r_litem D ?hi ?h0 ?h1 ?hx ?_ ?hs); (case hi => walk_at "b AT"); (case h0 => decide); (case h1 => decide); (case hx => exact rfl); (case hs => with_unfolding_all rfl))
  | ((with_reducible refine' r_lset D ?hi ?h0 ?h1 ?hn ?hq (fun h' D => ?_)); (case hi => walk_at "b AT"); (case h0 => decide); (case h1 => decide); (case hn => exact of_decide_eq_true rfl); (case hq => exact rfl); dsimp only [List.set_cons_zero, List.set_cons_succ] at D)
  | ((with_reducible refine' r_append D ?hi ?qz (fun h' D => ?_)); (case hi => walk_at "b AT"); (case qz => exact Nat.le_of_ble_eq_true rfl); dsimp only [List.set_cons_zero, List.set_cons_succ, List.cons_append, List.nil_append] at D)
  | with_reducible refine ite_pos (by decide) ?_
  | with_reducible refine ite_neg (by decide) ?_
  | with_reducible refine wpAny_Break ?_
  | with_reducible refine wpAny_Continue ?_
  | with_reducible refine wpAny_isTrue_BoolOp ?_
  | with_reducible refine wpAny_allTrue_And_cons ?_
  | ((with_reducible refine' r_ltruth D ?hi ?qz ?_); (case hi => walk_at "b AT"); (case qz => exact Nat.le_of_ble_eq_true rfl))
  | ((with_reducible refine' r_lpop D ?hi ?hj ?ne ?qz ?e (fun h' D => ?_)); (case hi => exact .z); (case hj => exact .s .z); (case ne => decide); (case qz => exact Nat.le_of_ble_eq_true rfl); (case e => exact rfl); dsimp only [List.set_cons_zero, List.set_cons_succ] at D)
  | ((with_reducible refine' mul_int ?_ ?qm); (case qm => (unfold IntMulOk; decide +kernel)))
  | ((with_reducible show ite ((!_) = true) _ _); refine ite_pos (by rfl) ?_)
  | fail)
  have D := D.front (.s .z)
  dsimp only [List.eraseIdx_cons_succ, List.eraseIdx_cons_zero] at D
  refine sd2 D G (by show A.depth + 1 < _; omega) (by show A.units + 3 + 20 < _; omega) ra rx (fun h' t D => ?_)
  repeat' (first
  | walk_at "b W"
    | walk_at "b W2"
  | with_reducible refine wpAny_While ?_
  | with_reducible refine r_cw0 ?_
  | ((with_reducible refine' wpAny_isTrue_Not ?_))
  | with_reducible refine r_shr (by decide) ?_
  | with_reducible refine P.gt_int ?_
  | with_reducible refine P.lt_int ?_
  | ((with_reducible refine' r_mpop D ?hi ?_); (case hi => walk_at "b AT"))
  | ((with_reducible refine' r_llen D ?hi ?qz (fun u => ?_)); (case hi => walk_at "b AT"); (case qz => exact Nat.le_of_ble_eq_true rfl))
  | ((with_reducible refine' r_litem D ?hi ?h0 ?h1 ?hx ?_ ?hs); (case hi => walk_at "b AT"); (case h0 => decide); (case h1 => decide); (case hx => exact rfl); (case hs => with_unfolding_all rfl))
  | ((with_reducible refine' r_lset D ?hi ?h0 ?h1 ?hn ?hq (fun h' D => ?_)); (case hi => walk_at "b AT"); (case h0 => decide); (case h1 => decide); (case hn => exact of_decide_eq_true rfl); (case hq => exact rfl); dsimp only [List.set_cons_zero, List.set_cons_succ] at D)
  | ((with_reducible refine' r_append D ?hi ?qz (fun h' D => ?_)); (case hi => walk_at "b AT"); (case qz => exact Nat.le_of_ble_eq_true rfl); dsimp only [List.set_cons_zero, List.set_cons_succ, List.cons_append, List.nil_append] at D)
  | with_reducible refine ite_pos (by decide) ?_
  | with_reducible refine ite_neg (by decide) ?_
  | with_reducible refine wpAny_Break ?_
  | with_reducible refine wpAny_Continue ?_
  | with_reducible refine wpAny_isTrue_BoolOp ?_
  | with_reducible refine wpAny_allTrue_And_cons ?_
  | ((with_reducible refine' r_ltruth D ?hi ?qz ?_); (case hi => walk_at "b AT"); (case qz => exact Nat.le_of_ble_eq_true rfl))
  | ((with_reducible refine' r_lpop D ?hi ?hj ?ne ?qz ?e (fun h' D => ?_)); (case hi => exact .z); (case hj => exact .s .z); (case ne => decide); (case qz => exact Nat.le_of_ble_eq_true rfl); (case e => exact rfl); dsimp only [List.set_cons_zero, List.set_cons_succ] at D)
  | ((with_reducible refine' mul_int ?_ ?qm); (case qm => (unfold IntMulOk; decide +kernel)))
  | ((with_reducible show ite ((!_) = true) _ _); refine ite_pos (by rfl) ?_)
  | fail)
  exact k _ _ (D.sub (List.Sublist.cons_cons _ (List.sublist_cons_self ..)))
theorem su1 {hp a : Addr} {u1 : Tok}  (D : Sl prog w h₀ h ((hp, .lst [.ref a]) :: fs)) (G : Gd w.params hK h₀) (hroom : A.depth + 1 < recursionLimit) (hu : A.units + 40 < 9900) 
   (k : ∀ h' tk, Sl prog w h₀ h' ((hp, .lst ([.ref a])) :: fs) → R (.ok (.ret .none)) ⟨h', gs, d, tk, os⟩) : codeAny (model prog w) A (.call (.ref 127) ⟨[.ref hp, .int 0 u1], []⟩) R ⟨h, gs, d, t, os⟩ := by
  refine r_call [(Str.ofString "heap", .ref hp), (Str.ofString "pos", .int 0 u1)] [(Str.ofString "pos", .int 0 u1), (Str.ofString "heap", .ref hp)] 2 D G (fn_127 w.params) (d00 hroom) (by kernel_rfl) ⟨rfl, rfl⟩ (by kernel_rfl) (fun L h' D => ?_)
  with_unfolding_all change wpAny _ _ (execs (_ :: _) _) _ _ _
  repeat' (first
  | walk_at "b W"
    | walk_at "b W2"
  | with_reducible refine wpAny_While ?_
  | with_reducible refine r_cw0 ?_
  | ((with_reducible refine' wpAny_isTrue_Not ?_))
  | with_reducible refine r_shr (by decide) ?_
  | with_reducible refine P.gt_int ?_
  | with_reducible refine P.lt_int ?_
  | ((with_reducible refine' r_mpop D ?hi ?_); (case hi => walk_at "b AT"))
  | ((with_reducible refine' r_llen D ?hi ?qz (fun u => ?_)); (case hi => walk_at "b AT"); (case qz => exact Nat.le_of_ble_eq_true rfl))
  | ((with_reducible refine' r_litem D ?hi ?h0 ?h1 ?hx ?_ ?hs); (case hi => walk_at "b AT"); (case h0 => decide); (case h1 => decide); (case hx => exact rfl); (case hs => with_unfolding_all rfl))
  | ((with_reducible refine' r_lset D ?hi ?h0 ?h1 ?hn ?hq (fun h' D => ?_)); (case hi => walk_at "b AT"); (case h0 => decide); (case h1 => decide); (case hn => exact of_decide_eq_true rfl); (case hq => exact rfl); dsimp only [List.set_cons_zero, List.set_cons_succ] at D)
  | ((with_reducible refine' r_append D ?hi ?qz (fun h' D => ?_)); (case hi => walk_at "b AT"); (case qz => exact Nat.le_of_ble_eq_true rfl); dsimp only [List.set_cons_zero, List.set_cons_succ, List.cons_append, List.nil_append] at D)
  | with_reducible refine ite_pos (by decide) ?_
  | with_reducible refine ite_neg (by decide) ?_
  | with_reducible refine wpAny_Break ?_
  | with_reducible refine wpAny_Continue ?_
  | with_reducible refine wpAny_isTrue_BoolOp ?_
  | with_reducible refine wpAny_allTrue_And_cons ?_
  | ((with_reducible refine' r_ltruth D ?hi ?qz ?_); (case hi => walk_at "b AT"); (case qz => exact Nat.le_of_ble_eq_true rfl))
  | ((with_reducible refine' r_lpop D ?hi ?hj ?ne ?qz ?e (fun h' D => ?_)); (case hi => exact .z); (case hj => exact .s .z); (case ne => decide); (case qz => exact Nat.le_of_ble_eq_true rfl); (case e => exact rfl); dsimp only [List.set_cons_zero, List.set_cons_succ] at D)
  | ((with_reducible refine' mul_int ?_ ?qm); (case qm => (unfold IntMulOk; decide +kernel)))
  | ((with_reducible show ite ((!_) = true) _ _); refine ite_pos (by rfl) ?_)
  | fail)
  refine r_while (fun n fs' => ∃ fl u c, fs' = (L, .frm fl) :: (hp, .lst [.ref a]) :: fs ∧ GetI fl (S "newitem") (.ref a) ∧ GetI fl (S "pos") (.int 0 u1) ∧ GetI fl (S "startpos") (.int 0 u1) ∧ GetI fl (S "heap") (.ref hp) ∧ GetI fl (S "endpos") (.int 1 u) ∧ GetI fl (S "childpos") (.int 1 c)) 0 D ⟨_, _, _, rfl, by walk_at "b GT", by walk_at "b GT", by walk_at "b GT", by walk_at "b GT", by walk_at "b GTI", by walk_at "b GTI"⟩ ?_
  rintro En n h _ t ⟨fl, u, c, rfl, g1, g2, g3, g4, g5, g6⟩ D
  repeat' (first
  | walk_at "b W"
    | walk_at "b W2"
  | with_reducible refine wpAny_While ?_
  | with_reducible refine r_cw0 ?_
  | ((with_reducible refine' wpAny_isTrue_Not ?_))
  | with_reducible refine r_shr (by decide) ?_
  | with_reducible refine P.gt_int ?_
  | with_reducible refine P.lt_int ?_
  | ((with_reducible refine' r_mpop D ?hi ?_); (case hi => walk_at "b AT"))
  | ((with_reducible refine' r_llen D ?hi ?qz (fun u => ?_)); (case hi => walk_at "b AT"); (case qz => exact Nat.le_of_ble_eq_true rfl))
  | ((with_reducible refine' r_litem D ?hi ?h0 ?h1 ?hx ?_ ?hs); (case hi => walk_at "b AT"); (case h0 => decide); (case h1 => decide); (case hx => exact rfl); (case hs => with_unfolding_all rfl))
  | ((with_reducible refine' r_lset D ?hi ?h0 ?h1 ?hn ?hq (fun h' D => ?_)); (case hi => walk_at "b AT"); (case h0 => decide); (case h1 => decide); (case hn => exact of_decide_eq_true rfl); (case hq => exact rfl); dsimp only [List.set_cons_zero, List.set_cons_succ] at D)
  | ((with_reducible refine' r_append D ?hi ?qz (fun h' D => ?_)); (case hi => walk_at "b AT"); (case qz => exact Nat.le_of_ble_eq_true rfl); dsimp only [List.set_cons_zero, List.set_cons_succ, List.cons_append, List.nil_append] at D)
  | with_reducible refine ite_pos (by decide) ?_
  | with_reducible refine ite_neg (by decide) ?_
  | with_reducible refine wpAny_Break ?_
  | with_reducible refine wpAny_Continue ?_
  | with_reducible refine wpAny_isTrue_BoolOp ?_
  | with_reducible refine wpAny_allTrue_And_cons ?_
  | ((with_reducible refine' r_ltruth D ?hi ?qz ?_); (case hi => walk_at "b AT"); (case qz => exact Nat.le_of_ble_eq_true rfl))
  | ((with_reducible refine' r_lpop D ?hi ?hj ?ne ?qz ?e (fun h' D => ?_)); (case hi => exact .z); (case hj => exact .s .z); (case ne => decide); (case qz => exact Nat.le_of_ble_eq_true rfl); (case e => exact rfl); dsimp only [List.set_cons_zero, List.set_cons_succ] at D)
  | ((with_reducible refine' mul_int ?_ ?qm); (case qm => (unfold IntMulOk; decide +kernel)))
  | ((with_reducible show ite ((!_) = true) _ _); refine ite_pos (by rfl) ?_)
  | fail)
  have D := D.front (.s .z)
  dsimp only [List.eraseIdx_cons_succ, List.eraseIdx_cons_zero] at D
  refine sd0 D G (by show A.depth + 1 < _; omega) (fun h' t D => ?_)
  repeat' (first
  | walk_at "b W"
    | walk_at "b W2"
  | with_reducible refine wpAny_While ?_
  | with_reducible refine r_cw0 ?_
  | ((with_reducible refine' wpAny_isTrue_Not ?_))
  | with_reducible refine r_shr (by decide) ?_
  | with_reducible refine P.gt_int ?_
  | with_reducible refine P.lt_int ?_
  | ((with_reducible refine' r_mpop D ?hi ?_); (case hi => walk_at "b AT"))
  | ((with_reducible refine' r_llen D ?hi ?qz (fun u => ?_)); (case hi => walk_at "b AT"); (case qz => exact Nat.le_of_ble_eq_true rfl))
  | ((with_reducible refine' r_litem D ?hi ?h0 ?h1 ?hx ?_ ?hs); (case hi => walk_at "b AT"); (case h0 => decide); (case h1 => decide); (case hx => exact rfl); (case hs => with_unfolding_all rfl))
  | ((with_reducible refine' r_lset D ?hi ?h0 ?h1 ?hn ?hq (fun h' D => ?_)); (case hi => walk_at "b AT"); (case h0 => decide); (case h1 => decide); (case hn => exact of_decide_eq_true rfl); (case hq => exact rfl); dsimp only [List.set_cons_zero, List.set_cons_succ] at D)
  | ((with_reducible refine' r_append D ?hi ?qz (fun h' D => ?_)); (case hi => walk_at "b AT"); (case qz => exact Nat.le_of_ble_eq_true rfl); dsimp only [List.set_cons_zero, List.set_cons_succ, List.cons_append, List.nil_append] at D)
  | with_reducible refine ite_pos (by decide) ?_
  | with_reducible refine ite_neg (by decide) ?_
  | with_reducible refine wpAny_Break ?_
  | with_reducible refine wpAny_Continue ?_
  | with_reducible refine wpAny_isTrue_BoolOp ?_
  | with_reducible refine wpAny_allTrue_And_cons ?_
  | ((with_reducible refine' r_ltruth D ?hi ?qz ?_); (case hi => walk_at "b AT"); (case qz => exact Nat.le_of_ble_eq_true rfl))
  | ((with_reducible refine' r_lpop D ?hi ?hj ?ne ?qz ?e (fun h' D => ?_)); (case hi => exact .z); (case hj => exact .s .z); (case ne => decide); (case qz => exact Nat.le_of_ble_eq_true rfl); (case e => exact rfl); dsimp only [List.set_cons_zero, List.set_cons_succ] at D)
  | ((with_reducible refine' mul_int ?_ ?qm); (case qm => (unfold IntMulOk; decide +kernel)))
  | ((with_reducible show ite ((!_) = true) _ _); refine ite_pos (by rfl) ?_)
  | fail)
  exact k _ _ (D.sub (List.Sublist.cons_cons _ (List.sublist_cons_self ..)))
theorem su2 {hp a b : Addr} {u1 : Tok} {m1 m2 : Str} {n1 n2 : Int} (D : Sl prog w h₀ h ((hp, .lst [.ref a, .ref b]) :: fs)) (G : Gd w.params hK h₀) (hroom : A.depth + 1 < recursionLimit) (hu : A.units + 40 < 9900) (ra : Row h₀ a m1 n1) (rb : Row h₀ b m2 n2)
   (k : ∀ h' tk, Sl prog w h₀ h' ((hp, .lst (if before m1 n1 m2 n2 = true then [.ref a, .ref b] else [.ref b, .ref a])) :: fs) → R (.ok (.ret .none)) ⟨h', gs, d, tk, os⟩) : codeAny (model prog w) A (.call (.ref 127) ⟨[.ref hp, .int 0 u1], []⟩) R ⟨h, gs, d, t, os⟩ := by
  refine r_call [(Str.ofString "heap", .ref hp), (Str.ofString "pos", .int 0 u1)] [(Str.ofString "pos", .int 0 u1), (Str.ofString "heap", .ref hp)] 2 D G (fn_127 w.params) (d00 hroom) (by kernel_rfl) ⟨rfl, rfl⟩ (by kernel_rfl) (fun L h' D => ?_)
  with_unfolding_all change wpAny _ _ (execs (_ :: _) _) _ _ _
  repeat' (first
  | walk_at "b W"
    | walk_at "b W2"
  | with_reducible refine wpAny_While ?_
  | with_reducible refine r_cw0 ?_
  | ((with_reducible refine' wpAny_isTrue_Not ?_))
  | with_reducible refine r_shr (by decide) ?_
  | with_reducible refine P.gt_int ?_
  | with_reducible refine P.lt_int ?_
  | ((with_reducible refine' r_mpop D ?hi ?_); (case hi => walk_at "b AT"))
  | ((with_reducible refine' r_llen D ?hi ?qz (fun u => ?_)); (case hi => walk_at "b AT"); (case qz => exact Nat.le_of_ble_eq_true rfl))
  | ((with_reducible refine' r_litem D ?hi ?h0 ?h1 ?hx ?_ ?hs); (case hi => walk_at "b AT"); (case h0 => decide); (case h1 => decide); (case hx => exact rfl); (case hs => with_unfolding_all rfl))
  | ((with_reducible refine' r_lset D ?hi ?h0 ?h1 ?hn ?hq (fun h' D => ?_)); (case hi => walk_at "b AT"); (case h0 => decide); (case h1 => decide); (case hn => exact of_decide_eq_true rfl); (case hq => exact rfl); dsimp only [List.set_cons_zero, List.set_cons_succ] at D)
  | ((with_reducible refine' r_append D ?hi ?qz (fun h' D => ?_)); (case hi => walk_at "b AT"); (case qz => exact Nat.le_of_ble_eq_true rfl); dsimp only [List.set_cons_zero, List.set_cons_succ, List.cons_append, List.nil_append] at D)
  | with_reducible refine ite_pos (by decide) ?_
  | with_reducible refine ite_neg (by decide) ?_
  | with_reducible refine wpAny_Break ?_
  | with_reducible refine wpAny_Continue ?_
  | with_reducible refine wpAny_isTrue_BoolOp ?_
  | with_reducible refine wpAny_allTrue_And_cons ?_
  | ((with_reducible refine' r_ltruth D ?hi ?qz ?_); (case hi => walk_at "b AT"); (case qz => exact Nat.le_of_ble_eq_true rfl))
  | ((with_reducible refine' r_lpop D ?hi ?hj ?ne ?qz ?e (fun h' D => ?_)); (case hi => exact .z); (case hj => exact .s .z); (case ne => decide); (case qz => exact Nat.le_of_ble_eq_true rfl); (case e => exact rfl); dsimp only [List.set_cons_zero, List.set_cons_succ] at D)
  | ((with_reducible refine' mul_int ?_ ?qm); (case qm => (unfold IntMulOk; decide +kernel)))
  | ((with_reducible show ite ((!_) = true) _ _); refine ite_pos (by rfl) ?_)
  | fail)
  refine r_while (fun n fs' => (n = 1 ∧ ∃ fl u c, fs' = (L, .frm fl) :: (hp, .lst [.ref a, .ref b]) :: fs ∧ GetI fl (S "newitem") (.ref a) ∧ GetI fl (S "pos") (.int 0 u1) ∧ GetI fl (S "startpos") (.int 0 u1) ∧ GetI fl (S "heap") (.ref hp) ∧ GetI fl (S "endpos") (.int 2 u) ∧ GetI fl (S "childpos") (.int 1 c)) ∨ (n = 0 ∧ ∃ fl u c v, fs' = (L, .frm fl) :: (hp, .lst [.ref b, .ref b]) :: fs ∧ GetI fl (S "newitem") (.ref a) ∧ GetI fl (S "pos") (.int 1 v) ∧ GetI fl (S "startpos") (.int 0 u1) ∧ GetI fl (S "heap") (.ref hp) ∧ GetI fl (S "endpos") (.int 2 u) ∧ GetI fl (S "childpos") (.int 3 c))) 1 D (.inl ⟨rfl, _, _, _, rfl, by walk_at "b GT", by walk_at "b GT", by walk_at "b GT", by walk_at "b GT", by walk_at "b GTI", by walk_at "b GTI"⟩) ?_
  rintro En n h _ t (⟨rfl, fl, u, c, rfl, g1, g2, g3, g4, g5, g6⟩ | ⟨rfl, fl, u, c, v, rfl, g1, g2, g3, g4, g5, g6⟩) D
  · repeat' (first
  | walk_at "b W"
    | walk_at "b W2"
  | with_reducible refine wpAny_While ?_
  | with_reducible refine r_cw0 ?_
  | ((with_reducible refine' wpAny_isTrue_Not ?_))
  | with_reducible refine r_shr (by decide) ?_
  | with_reducible refine P.gt_int ?_
  | with_reducible refine P.lt_int ?_
  | ((with_reducible refine' r_mpop D ?hi ?_); (case hi => walk_at "b AT"))
  | ((with_reducible refine' r_llen D ?hi ?qz (fun u => ?_)); (case hi => walk_at "b AT"); (case qz => exact Nat.le_of_ble_eq_true rfl))
  | ((with_reducible refine' r_litem D ?hi ?h0 ?h1 ?hx ?_ ?hs); (case hi => walk_at "b AT"); (case h0 => decide); (case h1 => decide); (case hx => exact rfl); (case hs => with_unfolding_all rfl))
  | ((with_reducible refine' r_lset D ?hi ?h0 ?h1 ?hn ?hq (fun h' D => ?_)); (case hi => walk_at "b AT"); (case h0 => decide); (case h1 => decide); (case hn => exact of_decide_eq_true rfl); (case hq => exact rfl); dsimp only [List.set_cons_zero, List.set_cons_succ] at D)
  | ((with_reducible refine' r_append D ?hi ?qz (fun h' D => ?_)); (case hi => walk_at "b AT"); (case qz => exact Nat.le_of_ble_eq_true rfl); dsimp only [List.set_cons_zero, List.set_cons_succ, List.cons_append, List.nil_append] at D)
  | with_reducible refine ite_pos (by decide) ?_
  | with_reducible refine ite_neg (by decide) ?_
  | with_reducible refine wpAny_Break ?_
  | with_reducible refine wpAny_Continue ?_
  | with_reducible refine wpAny_isTrue_BoolOp ?_
  | with_reducible refine wpAny_allTrue_And_cons ?_
  | ((with_reducible refine' r_ltruth D ?hi ?qz ?_); (case hi => walk_at "b AT"); (case qz => exact Nat.le_of_ble_eq_true rfl))
  | ((with_reducible refine' r_lpop D ?hi ?hj ?ne ?qz ?e (fun h' D => ?_)); (case hi => exact .z); (case hj => exact .s .z); (case ne => decide); (case qz => exact Nat.le_of_ble_eq_true rfl); (case e => exact rfl); dsimp only [List.set_cons_zero, List.set_cons_succ] at D)
  | ((with_reducible refine' mul_int ?_ ?qm); (case qm => (unfold IntMulOk; decide +kernel)))
  | ((with_reducible show ite ((!_) = true) _ _); refine ite_pos (by rfl) ?_)
  | fail)
    exact ⟨0, _, _, _, by decide, rfl, .inr ⟨rfl, _, _, _, _, rfl, by walk_at "b GT", by walk_at "b GT", by walk_at "b GT", by walk_at "b GT", by walk_at "b GTI", by walk_at "b GTI"⟩, D⟩
  · repeat' (first
  | walk_at "b W"
    | walk_at "b W2"
  | with_reducible refine wpAny_While ?_
  | with_reducible refine r_cw0 ?_
  | ((with_reducible refine' wpAny_isTrue_Not ?_))
  | with_reducible refine r_shr (by decide) ?_
  | with_reducible refine P.gt_int ?_
  | with_reducible refine P.lt_int ?_
  | ((with_reducible refine' r_mpop D ?hi ?_); (case hi => walk_at "b AT"))
  | ((with_reducible refine' r_llen D ?hi ?qz (fun u => ?_)); (case hi => walk_at "b AT"); (case qz => exact Nat.le_of_ble_eq_true rfl))
  | ((with_reducible refine' r_litem D ?hi ?h0 ?h1 ?hx ?_ ?hs); (case hi => walk_at "b AT"); (case h0 => decide); (case h1 => decide); (case hx => exact rfl); (case hs => with_unfolding_all rfl))
  | ((with_reducible refine' r_lset D ?hi ?h0 ?h1 ?hn ?hq (fun h' D => ?_)); (case hi => walk_at "b AT"); (case h0 => decide); (case h1 => decide); (case hn => exact of_decide_eq_true rfl); (case hq => exact rfl); dsimp only [List.set_cons_zero, List.set_cons_succ] at D)
  | ((with_reducible refine' r_append D ?hi ?qz (fun h' D => ?_)); (case hi => walk_at "b AT"); (case qz => exact Nat.le_of_ble_eq_true rfl); dsimp only [List.set_cons_zero, List.set_cons_succ, List.cons_append, List.nil_append] at D)
  | with_reducible refine ite_pos (by decide) ?_
  | with_reducible refine ite_neg (by decide) ?_
  | with_reducible refine wpAny_Break ?_
  | with_reducible refine wpAny_Continue ?_
  | with_reducible refine wpAny_isTrue_BoolOp ?_
  | with_reducible refine wpAny_allTrue_And_cons ?_
  | ((with_reducible refine' r_ltruth D ?hi ?qz ?_); (case hi => walk_at "b AT"); (case qz => exact Nat.le_of_ble_eq_true rfl))
  | ((with_reducible refine' r_lpop D ?hi ?hj ?ne ?qz ?e (fun h' D => ?_)); (case hi => exact .z); (case hj => exact .s .z); (case ne => decide); (case qz => exact Nat.le_of_ble_eq_true rfl); (case e => exact rfl); dsimp only [List.set_cons_zero, List.set_cons_succ] at D)
  | ((with_reducible refine' mul_int ?_ ?qm); (case qm => (unfold IntMulOk; decide +kernel)))
  | ((with_reducible show ite ((!_) = true) _ _); refine ite_pos (by rfl) ?_)
  | fail)
    have D := D.front (.s .z)
    dsimp only [List.eraseIdx_cons_succ, List.eraseIdx_cons_zero] at D
    refine sd1 D G (by show A.depth + 1 < _; omega) (by show A.units + 3 + 20 < _; omega) rb ra (fun h' t D => ?_)
    repeat' (first
  | walk_at "b W"
    | walk_at "b W2"
  | with_reducible refine wpAny_While ?_
  | with_reducible refine r_cw0 ?_
  | ((with_reducible refine' wpAny_isTrue_Not ?_))
  | with_reducible refine r_shr (by decide) ?_
  | with_reducible refine P.gt_int ?_
  | with_reducible refine P.lt_int ?_
  | ((with_reducible refine' r_mpop D ?hi ?_); (case hi => walk_at "b AT"))
  | ((with_reducible refine' r_llen D ?hi ?qz (fun u => ?_)); (case hi => walk_at "b AT"); (case qz => exact Nat.le_of_ble_eq_true rfl))
  | ((with_reducible refine' r_litem D ?hi ?h0 ?h1 ?hx ?_ ?hs); (case hi => walk_at "b AT"); (case h0 => decide); (case h1 => decide); (case hx => exact rfl); (case hs => with_unfolding_all rfl))
  | ((with_reducible refine' r_lset D ?hi ?h0 ?h1 ?hn ?hq (fun h' D => ?_)); (case hi => walk_at "b AT"); (case h0 => decide); (case h1 => decide); (case hn => exact of_decide_eq_true rfl); (case hq => exact rfl); dsimp only [List.set_cons_zero, List.set_cons_succ] at D)
  | ((with_reducible refine' r_append D ?hi ?qz (fun h' D => ?_)); (case hi => walk_at "b AT"); (case qz => exact Nat.le_of_ble_eq_true rfl); dsimp only [List.set_cons_zero, List.set_cons_succ, List.cons_append, List.nil_append] at D)
  | with_reducible refine ite_pos (by decide) ?_
  | with_reducible refine ite_neg (by decide) ?_
  | with_reducible refine wpAny_Break ?_
  | with_reducible refine wpAny_Continue ?_
  | with_reducible refine wpAny_isTrue_BoolOp ?_
  | with_reducible refine wpAny_allTrue_And_cons ?_
  | ((with_reducible refine' r_ltruth D ?hi ?qz ?_); (case hi => walk_at "b AT"); (case qz => exact Nat.le_of_ble_eq_true rfl))
  | ((with_reducible refine' r_lpop D ?hi ?hj ?ne ?qz ?e (fun h' D => ?_)); (case hi => exact .z); (case hj => exact .s .z); (case ne => decide); (case qz => exact Nat.le_of_ble_eq_true rfl); (case e => exact rfl); dsimp only [List.set_cons_zero, List.set_cons_succ] at D)
  | ((with_reducible refine' mul_int ?_ ?qm); (case qm => (unfold IntMulOk; decide +kernel)))
  | ((with_reducible show ite ((!_) = true) _ _); refine ite_pos (by rfl) ?_)
  | fail)
    exact k _ _ (D.sub (List.Sublist.cons_cons _ (List.sublist_cons_self ..)))
theorem pop1 {hp a : Addr}  (D : Sl prog w h₀ h ((hp, .lst [.ref a]) :: fs)) (G : Gd w.params hK h₀) (hroom : A.depth + 2 < recursionLimit) (hu : A.units + 60 < 9900) 
   (k : ∀ h' tk, Sl prog w h₀ h' ((hp, .lst ([])) :: fs) → R (.ok (.ret (.ref a))) ⟨h', gs, d, tk, os⟩) : codeAny (model prog w) A (.call (.ref 113) ⟨[.ref hp], []⟩) R ⟨h, gs, d, t, os⟩ := by
  refine r_call [(Str.ofString "heap", .ref hp)] [(Str.ofString "heap", .ref hp)] 1 D G (fn_113 w.params) (d00 hroom) (by kernel_rfl) ⟨rfl, rfl⟩ (by kernel_rfl) (fun L h' D => ?_)
  with_unfolding_all change wpAny _ _ (execs (_ :: _) _) _ _ _
  repeat' (first
  | walk_at "b W"
    | walk_at "b W2"
  | with_reducible refine wpAny_While ?_
  | with_reducible refine r_cw0 ?_
  | ((with_reducible refine' wpAny_isTrue_Not ?_))
  | with_reducible refine r_shr (by decide) ?_
  | with_reducible refine P.gt_int ?_
  | with_reducible refine P.lt_int ?_
  | ((with_reducible refine' r_mpop D ?hi ?_); (case hi => walk_at "b AT"))
  | ((with_reducible refine' r_llen D ?hi ?qz (fun u => ?_)); (case hi => walk_at "b AT"); (case qz => exact Nat.le_of_ble_eq_true rfl))
  | ((with_reducible refine' r_litem D ?hi ?h0 ?h1 ?hx ?_ ?hs); (case hi => walk_at "b AT"); (case h0 => decide); (case h1 => decide); (case hx => exact rfl); (case hs => with_unfolding_all rfl))
  | ((with_reducible refine' r_lset D ?hi ?h0 ?h1 ?hn ?hq (fun h' D => ?_)); (case hi => walk_at "b AT"); (case h0 => decide); (case h1 => decide); (case hn => exact of_decide_eq_true rfl); (case hq => exact rfl); dsimp only [List.set_cons_zero, List.set_cons_succ] at D)
  | ((with_reducible refine' r_append D ?hi ?qz (fun h' D => ?_)); (case hi => walk_at "b AT"); (case qz => exact Nat.le_of_ble_eq_true rfl); dsimp only [List.set_cons_zero, List.set_cons_succ, List.cons_append, List.nil_append] at D)
  | with_reducible refine ite_pos (by decide) ?_
  | with_reducible refine ite_neg (by decide) ?_
  | with_reducible refine wpAny_Break ?_
  | with_reducible refine wpAny_Continue ?_
  | with_reducible refine wpAny_isTrue_BoolOp ?_
  | with_reducible refine wpAny_allTrue_And_cons ?_
  | ((with_reducible refine' r_ltruth D ?hi ?qz ?_); (case hi => walk_at "b AT"); (case qz => exact Nat.le_of_ble_eq_true rfl))
  | ((with_reducible refine' r_lpop D ?hi ?hj ?ne ?qz ?e (fun h' D => ?_)); (case hi => exact .z); (case hj => exact .s .z); (case ne => decide); (case qz => exact Nat.le_of_ble_eq_true rfl); (case e => exact rfl); dsimp only [List.set_cons_zero, List.set_cons_succ] at D)
  | ((with_reducible refine' mul_int ?_ ?qm); (case qm => (unfold IntMulOk; decide +kernel)))
  | ((with_reducible show ite ((!_) = true) _ _); refine ite_pos (by rfl) ?_)
  | fail)
  exact k _ _ D.tail
theorem pop2 {hp a b : Addr}  (D : Sl prog w h₀ h ((hp, .lst [.ref a, .ref b]) :: fs)) (G : Gd w.params hK h₀) (hroom : A.depth + 2 < recursionLimit) (hu : A.units + 60 < 9900) 
   (k : ∀ h' tk, Sl prog w h₀ h' ((hp, .lst ([.ref b])) :: fs) → R (.ok (.ret (.ref a))) ⟨h', gs, d, tk, os⟩) : codeAny (model prog w) A (.call (.ref 113) ⟨[.ref hp], []⟩) R ⟨h, gs, d, t, os⟩ := by
  refine r_call [(Str.ofString "heap", .ref hp)] [(Str.ofString "heap", .ref hp)] 1 D G (fn_113 w.params) (d00 hroom) (by kernel_rfl) ⟨rfl, rfl⟩ (by kernel_rfl) (fun L h' D => ?_)
  with_unfolding_all change wpAny _ _ (execs (_ :: _) _) _ _ _
  repeat' (first
  | walk_at "b W"
    | walk_at "b W2"
  | with_reducible refine wpAny_While ?_
  | with_reducible refine r_cw0 ?_
  | ((with_reducible refine' wpAny_isTrue_Not ?_))
  | with_reducible refine r_shr (by decide) ?_
  | with_reducible refine P.gt_int ?_
  | with_reducible refine P.lt_int ?_
  | ((with_reducible refine' r_mpop D ?hi ?_); (case hi => walk_at "b AT"))
  | ((with_reducible refine' r_llen D ?hi ?qz (fun u => ?_)); (case hi => walk_at "b AT"); (case qz => exact Nat.le_of_ble_eq_true rfl))
  | ((with_reducible refine' r_litem D ?hi ?h0 ?h1 ?hx ?_ ?hs); (case hi => walk_at "b AT"); (case h0 => decide); (case h1 => decide); (case hx => exact rfl); (case hs => with_unfolding_all rfl))
  | ((with_reducible refine' r_lset D ?hi ?h0 ?h1 ?hn ?hq (fun h' D => ?_)); (case hi => walk_at "b AT"); (case h0 => decide); (case h1 => decide); (case hn => exact of_decide_eq_true rfl); (case hq => exact rfl); dsimp only [List.set_cons_zero, List.set_cons_succ] at D)
  | ((with_reducible refine' r_append D ?hi ?qz (fun h' D => ?_)); (case hi => walk_at "b AT"); (case qz => exact Nat.le_of_ble_eq_true rfl); dsimp only [List.set_cons_zero, List.set_cons_succ, List.cons_append, List.nil_append] at D)
  | with_reducible refine ite_pos (by decide) ?_
  | with_reducible refine ite_neg (by decide) ?_
  | with_reducible refine wpAny_Break ?_
  | with_reducible refine wpAny_Continue ?_
  | with_reducible refine wpAny_isTrue_BoolOp ?_
  | with_reducible refine wpAny_allTrue_And_cons ?_
  | ((with_reducible refine' r_ltruth D ?hi ?qz ?_); (case hi => walk_at "b AT"); (case qz => exact Nat.le_of_ble_eq_true rfl))
  | ((with_reducible refine' r_lpop D ?hi ?hj ?ne ?qz ?e (fun h' D => ?_)); (case hi => exact .z); (case hj => exact .s .z); (case ne => decide); (case qz => exact Nat.le_of_ble_eq_true rfl); (case e => exact rfl); dsimp only [List.set_cons_zero, List.set_cons_succ] at D)
  | ((with_reducible refine' mul_int ?_ ?qm); (case qm => (unfold IntMulOk; decide +kernel)))
  | ((with_reducible show ite ((!_) = true) _ _); refine ite_pos (by rfl) ?_)
  | fail)
  have D := D.front (.s .z)
  dsimp only [List.eraseIdx_cons_succ, List.eraseIdx_cons_zero] at D
  refine su1 D G (by show A.depth + 1 + 1 < _; omega) (by show A.units + 3 + 40 < _; omega) (fun h' t D => ?_)
  repeat' (first
  | walk_at "b W"
    | walk_at "b W2"
  | with_reducible refine wpAny_While ?_
  | with_reducible refine r_cw0 ?_
  | ((with_reducible refine' wpAny_isTrue_Not ?_))
  | with_reducible refine r_shr (by decide) ?_
  | with_reducible refine P.gt_int ?_
  | with_reducible refine P.lt_int ?_
  | ((with_reducible refine' r_mpop D ?hi ?_); (case hi => walk_at "b AT"))
  | ((with_reducible refine' r_llen D ?hi ?qz (fun u => ?_)); (case hi => walk_at "b AT"); (case qz => exact Nat.le_of_ble_eq_true rfl))
  | ((with_reducible refine' r_litem D ?hi ?h0 ?h1 ?hx ?_ ?hs); (case hi => walk_at "b AT"); (case h0 => decide); (case h1 => decide); (case hx => exact rfl); (case hs => with_unfolding_all rfl))
  | ((with_reducible refine' r_lset D ?hi ?h0 ?h1 ?hn ?hq (fun h' D => ?_)); (case hi => walk_at "b AT"); (case h0 => decide); (case h1 => decide); (case hn => exact of_decide_eq_true rfl); (case hq => exact rfl); dsimp only [List.set_cons_zero, List.set_cons_succ] at D)
  | ((with_reducible refine' r_append D ?hi ?qz (fun h' D => ?_)); (case hi => walk_at "b AT"); (case qz => exact Nat.le_of_ble_eq_true rfl); dsimp only [List.set_cons_zero, List.set_cons_succ, List.cons_append, List.nil_append] at D)
  | with_reducible refine ite_pos (by decide) ?_
  | with_reducible refine ite_neg (by decide) ?_
  | with_reducible refine wpAny_Break ?_
  | with_reducible refine wpAny_Continue ?_
  | with_reducible refine wpAny_isTrue_BoolOp ?_
  | with_reducible refine wpAny_allTrue_And_cons ?_
  | ((with_reducible refine' r_ltruth D ?hi ?qz ?_); (case hi => walk_at "b AT"); (case qz => exact Nat.le_of_ble_eq_true rfl))
  | ((with_reducible refine' r_lpop D ?hi ?hj ?ne ?qz ?e (fun h' D => ?_)); (case hi => exact .z); (case hj => exact .s .z); (case ne => decide); (case qz => exact Nat.le_of_ble_eq_true rfl); (case e => exact rfl); dsimp only [List.set_cons_zero, List.set_cons_succ] at D)
  | ((with_reducible refine' mul_int ?_ ?qm); (case qm => (unfold IntMulOk; decide +kernel)))
  | ((with_reducible show ite ((!_) = true) _ _); refine ite_pos (by rfl) ?_)
  | fail)
  exact k _ _ (D.sub (List.Sublist.cons_cons _ (List.sublist_cons_self ..)))
theorem pop3 {hp a b z : Addr} {m1 m2 : Str} {n1 n2 : Int} (D : Sl prog w h₀ h ((hp, .lst [.ref a, .ref b, .ref z]) :: fs)) (G : Gd w.params hK h₀) (hroom : A.depth + 2 < recursionLimit) (hu : A.units + 60 < 9900) (rz : Row h₀ z m1 n1) (rb : Row h₀ b m2 n2)
   (k : ∀ h' tk, Sl prog w h₀ h' ((hp, .lst (if before m1 n1 m2 n2 = true then [.ref z, .ref b] else [.ref b, .ref z])) :: fs) → R (.ok (.ret (.ref a))) ⟨h', gs, d, tk, os⟩) : codeAny (model prog w) A (.call (.ref 113) ⟨[.ref hp], []⟩) R ⟨h, gs, d, t, os⟩ := by
  refine r_call [(Str.ofString "heap", .ref hp)] [(Str.ofString "heap", .ref hp)] 1 D G (fn_113 w.params) (d00 hroom) (by kernel_rfl) ⟨rfl, rfl⟩ (by kernel_rfl) (fun L h' D => ?_)
  with_unfolding_all change wpAny _ _ (execs (_ :: _) _) _ _ _
  repeat' (first
  | walk_at "b W"
    | walk_at "b W2"
  | with_reducible refine wpAny_While ?_
  | with_reducible refine r_cw0 ?_
  | ((with_reducible refine' wpAny_isTrue_Not ?_))
  | with_reducible refine r_shr (by decide) ?_
  | with_reducible refine P.gt_int ?_
  | with_reducible refine P.lt_int ?_
  | ((with_reducible refine' r_mpop D ?hi ?_); (case hi => walk_at "b AT"))
  | ((with_reducible refine' r_llen D ?hi ?qz (fun u => ?_)); (case hi => walk_at "b AT"); (case qz => exact Nat.le_of_ble_eq_true rfl))
  | ((with_reducible refine' r_litem D ?hi ?h0 ?h1 ?hx ?_ ?hs); (case hi => walk_at "b AT"); (case h0 => decide); (case h1 => decide); (case hx => exact rfl); (case hs => with_unfolding_all rfl))
  | ((with_reducible refine' r_lset D ?hi ?h0 ?h1 ?hn ?hq (fun h' D => ?_)); (case hi => walk_at "b AT"); (case h0 => decide); (case h1 => decide); (case hn => exact of_decide_eq_true rfl); (case hq => exact rfl); dsimp only [List.set_cons_zero, List.set_cons_succ] at D)
  | ((with_reducible refine' r_append D ?hi ?qz (fun h' D => ?_)); (case hi => walk_at "b AT"); (case qz => exact Nat.le_of_ble_eq_true rfl); dsimp only [List.set_cons_zero, List.set_cons_succ, List.cons_append, List.nil_append] at D)
  | with_reducible refine ite_pos (by decide) ?_
  | with_reducible refine ite_neg (by decide) ?_
  | with_reducible refine wpAny_Break ?_
  | with_reducible refine wpAny_Continue ?_
  | with_reducible refine wpAny_isTrue_BoolOp ?_
  | with_reducible refine wpAny_allTrue_And_cons ?_
  | ((with_reducible refine' r_ltruth D ?hi ?qz ?_); (case hi => walk_at "b AT"); (case qz => exact Nat.le_of_ble_eq_true rfl))
  | ((with_reducible refine' r_lpop D ?hi ?hj ?ne ?qz ?e (fun h' D => ?_)); (case hi => exact .z); (case hj => exact .s .z); (case ne => decide); (case qz => exact Nat.le_of_ble_eq_true rfl); (case e => exact rfl); dsimp only [List.set_cons_zero, List.set_cons_succ] at D)
  | ((with_reducible refine' mul_int ?_ ?qm); (case qm => (unfold IntMulOk; decide +kernel)))
  | ((with_reducible show ite ((!_) = true) _ _); refine ite_pos (by rfl) ?_)
  | fail)
  have D := D.front (.s .z)
  dsimp only [List.eraseIdx_cons_succ, List.eraseIdx_cons_zero] at D
  refine su2 D G (by show A.depth + 1 + 1 < _; omega) (by show A.units + 3 + 40 < _; omega) rz rb (fun h' t D => ?_)
  repeat' (first
  | walk_at "b W"
    | walk_at "b W2"
  | with_reducible refine wpAny_While ?_
  | with_reducible refine r_cw0 ?_
  | ((with_reducible refine' wpAny_isTrue_Not ?_))
  | with_reducible refine r_shr (by decide) ?_
  | with_reducible refine P.gt_int ?_
  | with_reducible refine P.lt_int ?_
  | ((with_reducible refine' r_mpop D ?hi ?_); (case hi => walk_at "b AT"))
  | ((with_reducible refine' r_llen D ?hi ?qz (fun u => ?_)); (case hi => walk_at "b AT"); (case qz => exact Nat.le_of_ble_eq_true rfl))
  | ((with_reducible refine' r_litem D ?hi ?h0 ?h1 ?hx ?_ ?hs); (case hi => walk_at "b AT"); (case h0 => decide); (case h1 => decide); (case hx => exact rfl); (case hs => with_unfolding_all rfl))
  | ((with_reducible refine' r_lset D ?hi ?h0 ?h1 ?hn ?hq (fun h' D => ?_)); (case hi => walk_at "b AT"); (case h0 => decide); (case h1 => decide); (case hn => exact of_decide_eq_true rfl); (case hq => exact rfl); dsimp only [List.set_cons_zero, List.set_cons_succ] at D)
  | ((with_reducible refine' r_append D ?hi ?qz (fun h' D => ?_)); (case hi => walk_at "b AT"); (case qz => exact Nat.le_of_ble_eq_true rfl); dsimp only [List.set_cons_zero, List.set_cons_succ, List.cons_append, List.nil_append] at D)
  | with_reducible refine ite_pos (by decide) ?_
  | with_reducible refine ite_neg (by decide) ?_
  | with_reducible refine wpAny_Break ?_
  | with_reducible refine wpAny_Continue ?_
  | with_reducible refine wpAny_isTrue_BoolOp ?_
  | with_reducible refine wpAny_allTrue_And_cons ?_
  | ((with_reducible refine' r_ltruth D ?hi ?qz ?_); (case hi => walk_at "b AT"); (case qz => exact Nat.le_of_ble_eq_true rfl))
  | ((with_reducible refine' r_lpop D ?hi ?hj ?ne ?qz ?e (fun h' D => ?_)); (case hi => exact .z); (case hj => exact .s .z); (case ne => decide); (case qz => exact Nat.le_of_ble_eq_true rfl); (case e => exact rfl); dsimp only [List.set_cons_zero, List.set_cons_succ] at D)
  | ((with_reducible refine' mul_int ?_ ?qm); (case qm => (unfold IntMulOk; decide +kernel)))
  | ((with_reducible show ite ((!_) = true) _ _); refine ite_pos (by rfl) ?_)
  | fail)
  exact k _ _ (D.sub (List.Sublist.cons_cons _ (List.sublist_cons_self ..)))
end
end Mine
end PHF
section PCE
namespace Mine
section
variable {prog : Program} {w : World} {A : Around} {h₀ h h' : Heap} {fs : List (Addr × Cl)} {gs : Array GenState} {d : Drawn} {t : Nat} {os : OsState} {E : Value → Shared → Prop} {R : Result → Shared → Prop} {env : Env}
structure FnOkC (K : Params → Frag) (P : Params) (a : Addr) (fd : FuncData) (body : List Stmt) (cl : Addr → List (Str × Addr)) : Prop where
  lk : (K P).lookup a = some ⟨.type "function", none, .func fd, #[]⟩
  code : codeIn (K P) fd.code fd.qualname = true
  body : fd.body = .stmts body
  clo : fd.closure = []
  co : fd.scope.isCoroutine = false
  gen : fd.scope.isGenerator = false
  kind : fd.scope.kind = .function
  cells : ∀ L, cellsFrom (L + 1) fd.scope.names [] = cl L
  nm : ∀ L, ((cl L).map (·.1)).Nodup
theorem lookS {l : List (Str × Addr)} {a : Str} {o : Addr} (nd : (l.map (·.1)).Nodup) (m : (a, o) ∈ l) : l.lookup a = some o := PyProof.Rows.lookup_of_mem_nodup nd m
theorem r_callG {K : Params → Frag} {a : Addr} {fd : FuncData} {body : List Stmt} {cl : Addr → List (Str × Addr)} {x : Str} {v : Value} {l : List (Str × Value)} {cm : Str → Option Value} {R : Result → Shared → Prop} (D : Sl prog w h₀ h fs) (G : Gd w.params K h₀) (F : FnOkC K w.params a fd body cl) (hroom : A.depth < recursionLimit)
    (hbind : bindArgs fd ⟨[v], []⟩ = pure [(x, v)]) (hloc : ∀ L, fd.scope.names.lookup x = some .local ∨ (fd.scope.names.lookup x = some .cell ∧ ((cellsFrom (L + 1) fd.scope.names []).lookup x).isSome = true))
    (e1 : ∀ L, bindL (callEnvC fd L a).kindOf [(x, v)] (fun _ => none) = fun y => l.lookup y) (e2 : ∀ L, bindC (callEnvC fd L a).kindOf [(x, v)] (fun _ => none) = cm)
    (k : ∀ {E' : Value → Shared → Prop} L h' t, Sl prog w h₀ h' ((L, .frm l) :: ((cl L).map fun p => (p.2, Cl.cel (cm p.1))) ++ fs) → wpAny (model prog w) (A.deeper (callEnvC fd L a)) (execs body (callEnvC fd L a)) (fun f s' => R (.ok (.ret (match f with | .ret v => v | _ => .none))) s') E' ⟨h', gs, d, t, os⟩) :
    codeAny (model prog w) A (.call (.ref a) ⟨[v], []⟩) R ⟨h, gs, d, t, os⟩ := by
  refine codeAny_call_cells (s := ⟨h, gs, d, t, os⟩) hroom (D.keep _ _ (G.X _ _ F.lk)) rfl (let ⟨mc, x, y⟩ := G.lim; ⟨mc, x.keeps D.keep, y⟩) ((codeRec_of G.X F.code).keeps D.keep) F.body hbind F.clo (fun y hy => by rw [List.mem_singleton.mp hy]; exact hloc _) (fun s₁ X => ?_) F.co F.gen F.kind
  obtain ⟨h', tk, rfl, kp⟩ := X.done
  refine k _ h' tk ?_
  have ec : (callEnvC fd h.objs.size a).cells = cl h.objs.size := F.cells _
  have hnd : ((cl h.objs.size).map (·.2)).Nodup := by
    have := X.apart
    rw [ec] at this
    exact List.pairwise_map.mpr this
  have hab : ∀ p ∈ cl h.objs.size, h.objs.size < p.2 := fun p hp => X.above p.1 p.2 (ec ▸ hp)
  have hnone : ∀ b, h.objs.size ≤ b → h.get? b = none := fun b hb => by
    cases q : h.get? b with
    | none => rfl
    | some o => exact absurd (Heap.lt_size q) (Nat.not_lt.mpr hb)
  have D' := D.grow kp
  have hns := X.toInCall.ns
  rw [e1] at hns
  refine ⟨D'.keep, fun p hp => ?_, ?_⟩
  · rcases List.mem_cons.mp hp with rfl | hp
    · exact ⟨hns, (D.fresh (hnone _ (Nat.le_refl _))).2⟩
    rcases List.mem_append.mp hp with hp | hp
    · obtain ⟨q, hq, rfl⟩ := List.mem_map.mp hp
      refine ⟨?_, (D.fresh (hnone _ (Nat.le_of_lt (hab q hq)))).2⟩
      have := X.cell q.1 q.2 (by rw [ec]; exact lookS (F.nm _) hq)
      rw [e2] at this
      exact this
    · exact D'.ok p hp
  · rw [List.cons_append, List.map_cons, List.map_append, List.map_map]
    refine List.nodup_cons.mpr ⟨fun hm => ?_, List.nodup_append.mpr ⟨hnd, D.nd, fun a ha b hb z => ?_⟩⟩
    · rcases List.mem_append.mp hm with hm | hm
      · obtain ⟨q, hq, e⟩ := List.mem_map.mp hm
        exact absurd e (Nat.ne_of_gt (hab q hq))
      · exact (D.fresh (hnone _ (Nat.le_refl _))).1 hm
    · obtain ⟨q, hq, e⟩ := List.mem_map.mp ha
      have : h.objs.size ≤ b := by rw [← z, ← e]; exact Nat.le_of_lt (hab q hq)
      exact (D.fresh (hnone _ this)).1 hb
theorem r_callC {K : Params → Frag} {a : Addr} {fd : FuncData} {body : List Stmt} {cl : Addr → List (Str × Addr)} {x : Str} {v : Value} {R : Result → Shared → Prop} (D : Sl prog w h₀ h fs) (G : Gd w.params K h₀) (F : FnOkC K w.params a fd body cl) (hroom : A.depth < recursionLimit)
    (hbind : bindArgs fd ⟨[v], []⟩ = pure [(x, v)]) (hloc : ∀ L, fd.scope.names.lookup x = some .local ∧ (callEnvC fd L a).kindOf x = some .local)
    (k : ∀ {E' : Value → Shared → Prop} L h' t, Sl prog w h₀ h' ((L, .frm [(x, v)]) :: ((cl L).map fun p => (p.2, Cl.cel none)) ++ fs) → wpAny (model prog w) (A.deeper (callEnvC fd L a)) (execs body (callEnvC fd L a)) (fun f s' => R (.ok (.ret (match f with | .ret v => v | _ => .none))) s') E' ⟨h', gs, d, t, os⟩) :
    codeAny (model prog w) A (.call (.ref a) ⟨[v], []⟩) R ⟨h, gs, d, t, os⟩ :=
  r_callG (cm := fun _ => none) D G F hroom hbind (fun L => .inl (hloc L).1) (fun L => by
    unfold bindL bindL
    rw [if_pos (hloc L).2]
    exact lookup_put (l := [])) (fun L => by
    unfold bindC bindC
    rw [if_pos (hloc L).2]) k
theorem r_callD {K : Params → Frag} {a : Addr} {fd : FuncData} {body : List Stmt} {x : Str} {v : Value} {R : Result → Shared → Prop} (D : Sl prog w h₀ h fs) (G : Gd w.params K h₀) (F : FnOkC K w.params a fd body fun L => [(x, L + 1)]) (hroom : A.depth < recursionLimit)
    (hbind : bindArgs fd ⟨[v], []⟩ = pure [(x, v)]) (hloc : fd.scope.names.lookup x = some .cell) (hk : ∀ L, (callEnvC fd L a).kindOf x = some .cell)
    (k : ∀ {E' : Value → Shared → Prop} L h' t, Sl prog w h₀ h' ((L, .frm []) :: (L + 1, .cel (some v)) :: fs) → wpAny (model prog w) (A.deeper (callEnvC fd L a)) (execs body (callEnvC fd L a)) (fun f s' => R (.ok (.ret (match f with | .ret v => v | _ => .none))) s') E' ⟨h', gs, d, t, os⟩) :
    codeAny (model prog w) A (.call (.ref a) ⟨[v], []⟩) R ⟨h, gs, d, t, os⟩ :=
  r_callG (l := []) (cm := fun y => if y = x then some v else none) D G F hroom hbind (fun L => .inr ⟨hloc, by rw [F.cells]; simp⟩) (fun L => by
    unfold bindL bindL
    rw [if_neg (by rw [hk L]; simp)]
    rfl) (fun L => by
    unfold bindC bindC
    rw [if_neg (by rw [hk L]; simp)]) (fun L h' t D => k L h' t (by simpa using D))
theorem n_name {i : Nat} {x : Str} {pos : Pos} {fd : FuncData} {L a : Addr} {l : List (Str × Value)} {v : Value} {Q : Value → Shared → Prop} (D : Sl prog w h₀ h fs) (hi : AtI fs i (L, .frm l)) (hv : GetI l x v) (hl : fd.scope.kind = .function ∧ (callEnvC fd L a).kindOf x = some .local ∧ (x == ("__debug__" : Str)) = false)
    (k : Q v ⟨h, gs, d, t, os⟩) : wpAny (model prog w) A (eval (.Name x pos) (callEnvC fd L a)) Q E ⟨h, gs, d, t, os⟩ := wpAny_Name (wpAny_loadName_local hl.1 hl.2.1 (D.at hi) hv.get k) hl.2.2
theorem n_cell {i : Nat} {x : Str} {pos : Pos} {fd : FuncData} {L a c : Addr} {v : Value} {Q : Value → Shared → Prop} (D : Sl prog w h₀ h fs) (hl : fd.scope.kind = .function ∧ (callEnvC fd L a).kindOf x = some .cell ∧ (callEnvC fd L a).cells.lookup x = some c ∧ (x == ("__debug__" : Str)) = false) (hi : AtI fs i (c, .cel (some v)))
    (k : Q v ⟨h, gs, d, t, os⟩) : wpAny (model prog w) A (eval (.Name x pos) (callEnvC fd L a)) Q E ⟨h, gs, d, t, os⟩ := wpAny_Name (wpAny_loadName_cell hl.1 hl.2.1 hl.2.2.1 (D.at hi) k) hl.2.2.2
theorem n_glob {K : Params → Frag} {x : Str} {pos : Pos} {fd : FuncData} {L a : Addr} {v : Value} {Q : Value → Shared → Prop} (D : Sl prog w h₀ h fs) (G : Gd w.params K h₀) (hl : fd.scope.kind = .function ∧ fd.globals = mainGlobals ∧ (callEnvC fd L a).kindOf x = some .globalImplicit ∧ (x == ("__debug__" : Str)) = false) (hv : nsIn (K w.params) mainGlobals x = some (some v))
    (k : Q v ⟨h, gs, d, t, os⟩) : wpAny (model prog w) A (eval (.Name x pos) (callEnvC fd L a)) Q E ⟨h, gs, d, t, os⟩ := by
  refine wpAny_Name ?_ hl.2.2.2
  rw [loadName_read hl.1 hl.2.2.1]
  unfold loadGlobal
  rw [show (callEnvC fd L a).globals = mainGlobals from hl.2.1]
  exact wpAny_bind (looks_nsIn (M := model prog w) (G.keeps D.keep).X hv A _ E _ (fun _ _ z => z) (wpAny_pure k))
theorem n_builtin {K : Params → Frag} {x : Str} {pos : Pos} {fd : FuncData} {L a : Addr} {v : Value} {Q : Value → Shared → Prop} (D : Sl prog w h₀ h fs) (G : Gd w.params K h₀) (hl : fd.scope.kind = .function ∧ fd.globals = mainGlobals ∧ fd.builtins = builtinsNs ∧ (callEnvC fd L a).kindOf x = some .globalImplicit ∧ (x == ("__debug__" : Str)) = false ∧ (x == ("__name__" : Str)) = false) (hv : nsIn (K w.params) mainGlobals x = some none) (hb : bootBuiltins x = some v)
    (k : Q v ⟨h, gs, d, t, os⟩) : wpAny (model prog w) A (eval (.Name x pos) (callEnvC fd L a)) Q E ⟨h, gs, d, t, os⟩ := by
  obtain ⟨h1, h2, h3, h4, h5, h6⟩ := hl
  refine wpAny_Name ?_ h5
  rw [loadName_read h1 h4]
  unfold loadGlobal
  rw [show (callEnvC fd L a).globals = mainGlobals from h2]
  refine wpAny_bind (looks_nsIn (M := model prog w) (G.keeps D.keep).X hv A _ E _ (fun _ _ z => z) ?_)
  obtain ⟨mb, n, q⟩ := G.bn
  dsimp only
  rw [show (callEnvC fd L a).builtins = builtinsNs from h3]
  have e := (q x (beq_eq_false_iff_ne.mp h6)).trans hb
  refine wpAny_bind (wpAny_nsGet (n.keeps D.keep) ?_)
  rw [e]
  exact wpAny_pure k
theorem n_store {i : Nat} {x : Str} {fd : FuncData} {L a : Addr} {l : List (Str × Value)} {v : Value} {Q : Unit → Shared → Prop} (D : Sl prog w h₀ h fs) (hi : AtI fs i (L, .frm l)) (hl : fd.scope.kind = .function ∧ (callEnvC fd L a).kindOf x = some .local)
    (k : ∀ h', Sl prog w h₀ h' (fs.set i (L, .frm ((x, v) :: l))) → Q () ⟨h', gs, d, t + 1, os⟩) : wpAny (model prog w) A (storeName (callEnvC fd L a) x v) Q E ⟨h, gs, d, t, os⟩ :=
  wpAny_storeName_local hl.2 (D.at hi) (fun h' n s => k h' (D.turn hi s.extBut (show h'.Ns L _ from by have z := lookup_put (l := l) (x := x) (v := v); rw [← z]; exact n))) (by show (fd.scope.kind == _ || (fd.scope.kind == _ && _)) = false; rw [hl.1]; rfl)
theorem n_storeC {i : Nat} {x : Str} {fd : FuncData} {L a c : Addr} {v₀ : Option Value} {v : Value} {Q : Unit → Shared → Prop} (D : Sl prog w h₀ h fs) (hl : fd.scope.kind = .function ∧ (callEnvC fd L a).kindOf x = some .cell ∧ (callEnvC fd L a).cells.lookup x = some c) (hi : AtI fs i (c, .cel v₀))
    (k : ∀ h', Sl prog w h₀ h' (fs.set i (c, .cel (some v))) → Q () ⟨h', gs, d, t, os⟩) : wpAny (model prog w) A (storeName (callEnvC fd L a) x v) Q E ⟨h, gs, d, t, os⟩ :=
  wpAny_storeName_cell hl.1 hl.2.1 hl.2.2 (D.at hi) fun h' n s => k h' (D.turn hi s.extBut n)
end
end Mine
end PCE
section PLCR
namespace Mine
section
variable {prog : Program} {w : World} {A : Around} {h₀ h h' : Heap} {fs : List (Addr × Cl)} {gs : Array GenState} {d : Drawn} {t : Nat} {os : OsState} {E : Value → Shared → Prop} {R : Result → Shared → Prop} {env : Env}
theorem Sl.drop {C : Addr} {c : Cl} (D : Sl prog w h₀ h ((C, c) :: fs)) (s : Heap.ExtBut C h h') : Sl prog w h₀ h' fs := by
  have n0 := (D.ok _ (.head _)).2
  have D' := D.tail
  have nd := D.nd
  rw [List.map_cons, List.nodup_cons] at nd
  exact ⟨fun b o e => s b o (fun z => by subst z; rw [n0] at e; cases e) (D'.keep b o e), fun p hp => ⟨Cl.mv (D'.ok p hp).1 fun o e => s _ o (fun z => nd.1 (List.mem_map.mpr ⟨p, hp, z⟩)) e, (D'.ok p hp).2⟩, D'.nd⟩
noncomputable def LcNext (prog : Program) (w : World) (A : Around) (env : Env) (E : Value → Shared → Prop) (e : Expr) (scope : Scope) (cl : List (Str × Addr)) (use : Option (Value → Sem Unit)) (Q : Value → Shared → Prop) (it : Value) (s : Shared) : Prop :=
  wpAny (model prog w) A (newList []) (fun acc s₃ => wpAny (model prog w) A (newFunctionEnv scope env.globals cl [] env.qual none .none (some env)) (fun cenv s₄ =>
        codeAny (model prog w) A (.compStart e 0 it acc { cenv with scope := relabel scope env }) (compPost (model prog w) A E use Q acc cenv.locals) s₄) E s₃) E s
theorem r_lc {elt target iter : Expr} {ifs : List Expr} {rest : List Comprehension} {scope : Scope} {pos : Pos} {cl : List (Str × Addr)} {Q : Value → Shared → Prop} {s : Shared} (hclos : closureFor scope env = pure cl) (hkind : scope.kind = .function)
   (hnames : (scope.names.all fun x => x.2 != .local || scope.names.lookup x.1 == some .local) = true)
   (x : wpAny (model prog w) A (eval iter env) (fun xv s₁ => wpAny (model prog w) A (pyIter xv) (LcNext prog w A env E (.ListComp elt (⟨target, iter, ifs, 0⟩ :: rest) scope pos) scope cl none Q) E s₁) E s)
   (hs : ∀ x, foldedSetIterable iter env x = pure x := by intro _; rfl) : wpAny (model prog w) A (eval (.ListComp elt (⟨target, iter, ifs, 0⟩ :: rest) scope pos) env) Q E s := by
  rw [eval_ListComp]
  exact wpAny_comprehension_free (use := none) rfl hs hclos hkind (fun y hy e => by
    have := List.all_eq_true.mp hnames y hy
    rw [e] at this
    simpa using this) x
theorem r_lcA {elt target iter : Expr} {ifs : List Expr} {rest : List Comprehension} {scope : Scope} {pos spos py : Pos} {y : Str} {cl : List (Str × Addr)} {Q : Flow → Shared → Prop} {s : Shared} (hsw : swapsWith (.ListComp elt (⟨target, iter, ifs, 0⟩ :: rest) scope pos) (some (.Name y py)) spos.line env = pure true)
   (hclos : closureFor scope env = pure cl) (hkind : scope.kind = .function) (hnames : (scope.names.all fun x => x.2 != .local || scope.names.lookup x.1 == some .local) = true)
   (x : wpAny (model prog w) A (eval iter env) (fun xv s₁ => wpAny (model prog w) A (pyIter xv) (LcNext prog w A env E (.ListComp elt (⟨target, iter, ifs, 0⟩ :: rest) scope pos) scope cl (some (assign (.Name y py) env)) (fun _ s' => Q .next s')) E s₁) E s)
   (hs : ∀ x, foldedSetIterable iter env x = pure x := by intro _; rfl) : wpAny (model prog w) A (exec (.Assign [.Name y py] (.ListComp elt (⟨target, iter, ifs, 0⟩ :: rest) scope pos) spos) env) Q E s := by
  rw [exec_Assign_Name_used _ _ _ _ hsw]
  refine wpAny_bind (wpAny_standAt (wpAny_bind ?_))
  show wpAny _ A (do let _ ← comprehension (.ListComp elt (⟨target, iter, ifs, 0⟩ :: rest) scope pos) scope env _ (newList []) false (eval iter env) (some (assign (.Name y py) env))) _ _ s
  exact wpAny_bind (wpAny_mono (wpAny_comprehension_free (use := some (assign (.Name y py) env)) (Q := fun _ s' => Q .next s') rfl hs hclos hkind (fun y hy e => by
    have := List.all_eq_true.mp hnames y hy
    rw [e] at this
    simpa using this) x) (fun _ s' hq => wpAny_pure (wpAny_pure hq)) fun _ _ e => e)
theorem fin_none {C acc : Addr} {l : List (Str × Value)} {ys : List Value} {Q : Value → Shared → Prop} (D : Sl prog w h₀ h ((C, .frm l) :: (acc, .lst ys) :: fs)) (k : ∀ h', Sl prog w h₀ h' ((acc, .lst ys) :: fs) → Q (.ref acc) ⟨h', gs, d, t, os⟩) : compPost (model prog w) A E none Q (.ref acc) C (.ok .next) ⟨h, gs, d, t, os⟩ :=
  ⟨_, D.at .z, fun h' s' => k h' (D.drop s'.extBut)⟩
theorem fin_some {C acc : Addr} {u : Value → Sem Unit} {Q : Value → Shared → Prop} (x : wpAny (model prog w) A (u (.ref acc)) (fun _ s => ∃ hb h fs t l, s = ⟨h, gs, d, t, os⟩ ∧ Sl prog w hb h ((C, .frm l) :: fs) ∧ ∀ h', Sl prog w hb h' fs → Q .none ⟨h', gs, d, t, os⟩) E ⟨h, gs, d, t, os⟩) : compPost (model prog w) A E (some u) Q (.ref acc) C (.ok .next) ⟨h, gs, d, t, os⟩ := by
  refine wpAny_mono x (fun _ s z => ?_) fun _ _ y => y
  obtain ⟨hb, h, fs, t, l, rfl, D, k⟩ := z
  exact ⟨_, D.at .z, fun h' s' => k h' (D.drop s'.extBut)⟩
noncomputable def LcP (prog : Program) (w : World) (gs : Array GenState) (d : Drawn) (os : OsState) (J : Nat → Heap → List (Addr × Cl) → List Value → Prop) (n : Nat) (C acc : Addr) (ys zs : List Value) (s : Shared) : Prop :=
  ∃ m hb h fs t l, m < n ∧ s = ⟨h, gs, d, t, os⟩ ∧ J m hb fs zs ∧ Sl prog w hb h ((C, .frm l) :: (acc, .lst ys) :: fs)
theorem thenW {α β : Type} {M : Model} {m : Sem α} {f : α → Sem β} {P : α → Shared → Prop} {Q : β → Shared → Prop} {s : Shared} (x : wpAny M A m P E s) (k : ∀ a s', P a s' → wpAny M A (f a) Q E s') : wpAny M A (m >>= f) Q E s := wpAny_bind (wpAny_mono x k fun _ _ e => e)
theorem appW {α : Type} {x : Sem α} {acc : Value} {g : α → Value} {P : Shared → Prop} {q : Sem PySem.Fin} {Q : PySem.Fin → Shared → Prop} {s : Shared} (y : wpAny (model prog w) A x (fun a s => wpAny (model prog w) A (call (.builtin "list.append") [acc, g a]) (fun _ s => P s) E s) E s) (k : ∀ s, P s → wpAny (model prog w) A q Q E s) :
    wpAny (model prog w) A ((x >>= fun a => call (.builtin "list.append") [acc, g a] >>= fun _ => pure ()) >>= fun _ => q) Q E s :=
  thenW (P := fun _ => P) (thenW y fun _ _ z => thenW z fun _ _ z => wpAny_pure z) fun _ s z => k s z
theorem codeAny_lc {elt target iter : Expr} {ifs : List Expr} {scope : Scope} {pos : Pos} {it acc : Value} {R : Result → Shared → Prop} (I : Nat → Shared → Prop)
    (turn : ∀ (En : Value → Shared → Prop) n s, I n s → wpAny (model prog w) A (pyNext it) (fun r s₁ => match r with
      | none => R (.ok .next) s₁
      | some v => wpAny (model prog w) A (letOwnedTupleGo target it v) (fun _ s₁' => wpAny (model prog w) A (assign target env v) (fun _ s₂ =>
          wpAny (model prog w) A (forIn ifs true fun c r => if r = true then do let ok ← isTrue c env (eval c env); pure (ForInStep.yield ok) else pure (ForInStep.yield r)) (fun ok s₃ =>
            if ok = true then wpAny (model prog w) A (eval elt env) (fun x s₄ => wpAny (model prog w) A (call (.builtin "list.append") [acc, x]) (fun _ s₅ => ∃ m, m < n ∧ I m s₅) En s₄) En s₃
            else ∃ m, m < n ∧ I m s₃) En s₂) En s₁') En s₁) En s)
    (n : Nat) (s : Shared) (h : I n s) : codeAny (model prog w) A (.compLoop (.ListComp elt [⟨target, iter, ifs, 0⟩] scope pos) 0 it acc env) R s := by
  refine codeAny_loop rfl I (fun n s hI => wpAny_noted (m := compTurn (.ListComp elt [⟨target, iter, ifs, 0⟩] scope pos) 0 it acc env) ?_) n h
  rw [compTurn_list]
  refine wpAny_bind (wpAny_standAt (thenW (turn _ n s hI) fun r _ y => ?_))
  cases r with
  | none => exact wpAny_pure y
  | some v =>
    refine thenW y fun _ _ y => thenW y fun _ _ y => thenW y fun ok _ y => ?_
    cases ok with
    | false => exact wpAny_pure ⟨rfl, y⟩
    | true => exact appW (g := id) y fun _ z => wpAny_pure ⟨rfl, z⟩
theorem r_lcI {elt target iter : Expr} {ifs : List Expr} {scope : Scope} {pos : Pos} {cl : List (Str × Addr)} {it : Value} {use : Option (Value → Sem Unit)} {Q : Value → Shared → Prop} (J : Nat → Heap → List (Addr × Cl) → List Value → Prop) (F : Heap → List (Addr × Cl) → List Value → Prop) (n : Nat) (D : Sl prog w h₀ h fs) (j0 : J n h₀ fs [])
   (hcell : (scope.names.all fun x => x.2 != .cell) = true) (hkind : scope.kind = .function) (hlen : ∀ n hb fs ys, J n hb fs ys → ys.length ≤ 1000)
   (self : ∀ (E' : Value → Shared → Prop) (Q' : Value → Shared → Prop) h t C acc, Sl prog w h₀ h ((C, .frm []) :: (acc, .lst []) :: fs) → Q' it ⟨h, gs, d, t, os⟩ → wpAny (model prog w) A (pyIter it) Q' E' ⟨h, gs, d, t, os⟩)
   (turn : ∀ (En : Value → Shared → Prop) n hb h fs t l ys C acc, J n hb fs ys → Sl prog w hb h ((C, .frm l) :: (acc, .lst ys) :: fs) → wpAny (model prog w) A (pyNext it) (fun r s₁ => match r with
     | none => ∃ hb h fs t, s₁ = ⟨h, gs, d, t, os⟩ ∧ F hb fs ys ∧ Sl prog w hb h ((C, .frm l) :: (acc, .lst ys) :: fs)
     | some v => wpAny (model prog w) A (letOwnedTupleGo target it v) (fun _ s₁' => wpAny (model prog w) A (assign target (compEnvC scope cl C env) v) (fun _ s₂ => wpAny (model prog w) A (forIn ifs true fun c r => if r = true then do let ok ← isTrue c (compEnvC scope cl C env) (eval c (compEnvC scope cl C env)); pure (ForInStep.yield ok) else pure (ForInStep.yield r)) (fun ok s₃ =>
         if ok = true then wpAny (model prog w) A (eval elt (compEnvC scope cl C env)) (fun x s₄ => LcP prog w gs d os J n C acc ys (ys ++ [x]) s₄) En s₃ else LcP prog w gs d os J n C acc ys ys s₃) En s₂) En s₁') En s₁) En ⟨h, gs, d, t, os⟩)
   (done : ∀ hb h fs t l acc C ys, F hb fs ys → Sl prog w hb h ((C, .frm l) :: (acc, .lst ys) :: fs) → compPost (model prog w) A E use Q (.ref acc) C (.ok .next) ⟨h, gs, d, t, os⟩) :
   LcNext prog w A env E (.ListComp elt [⟨target, iter, ifs, 0⟩] scope pos) scope cl use Q it ⟨h, gs, d, t, os⟩ := by
  unfold LcNext
  refine wpAny_newObj_type (wpAny_newFunctionEnv (fun x hx => by have := List.all_eq_true.mp hcell x hx; simpa using this) (by intro y hy; simp at hy) (fun h₁ hns₁ hsb₁ => ?_) hkind)
  have D := D.push (o := { cls := .type "list", data := .seq ([] : List Value).toArray }) (c := .lst []) ⟨_, Heap.get?_push_size _ rfl⟩
  dsimp only at hns₁ hsb₁ ⊢
  generalize h.objs.size = acc at D hns₁ hsb₁ ⊢
  generalize h.push { cls := .type "list", dict := none, data := .seq ([] : List Value).toArray } = H2 at D hns₁ hsb₁ ⊢
  have D := D.new (c := .frm []) (h' := h₁) (push_none H2) (fun b o e => hsb₁.extBut b o (Nat.ne_of_lt (Heap.lt_size e)) (Heap.get?_push_of_some _ e)) hns₁
  generalize H2.objs.size = C at D ⊢
  have loop : ∀ t, codeAny (model prog w) A (.compLoop (.ListComp elt [⟨target, iter, ifs, 0⟩] scope pos) 0 it (.ref acc) (compEnvC scope cl C env)) (compPost (model prog w) A E use Q (.ref acc) C) ⟨h₁, gs, d, t, os⟩ := fun t => by
    refine codeAny_lc (fun n s => ∃ hb h fs t l ys, s = ⟨h, gs, d, t, os⟩ ∧ J n hb fs ys ∧ Sl prog w hb h ((C, .frm l) :: (acc, .lst ys) :: fs)) ?_ n _ ⟨h₀, h₁, fs, t, [], [], rfl, j0, D⟩
    rintro En n _ ⟨hb, h, fs, t, l, ys, rfl, j, D⟩
    refine wpAny_mono (turn En n hb h fs t l ys C acc j D) (fun r s₁ x => ?_) fun _ _ y => y
    cases r with
    | none =>
      obtain ⟨hb, h, fs, t, rfl, hF, D⟩ := x
      exact done hb h fs t l acc C ys hF D
    | some v =>
      refine wpAny_mono x (fun _ s₁' x => wpAny_mono x (fun _ s₂ x => wpAny_mono x (fun ok s₃ x => ?_) fun _ _ y => y) fun _ _ y => y) fun _ _ y => y
      cases ok
      · obtain ⟨m, hb, h, fs, t, l, hm, rfl, j, D⟩ := x
        exact ⟨m, hm, hb, h, fs, t, l, ys, rfl, j, D⟩
      · refine wpAny_mono x (fun y s₄ x => ?_) fun _ _ y => y
        obtain ⟨m, hb, h, fs, t, l, hm, rfl, j, D⟩ := x
        have := hlen _ _ _ _ j
        rw [List.length_append] at this
        refine r_append D (.s .z) (by omega) (fun h' D => ?_)
        exact ⟨m, hm, hb, h', fs, t, l, ys ++ [y], rfl, j, D⟩
  exact codeAny_compStart_list (loop _) (self _ _ _ _ C acc D (loop _))
theorem n_itr {I l : Addr} {vs : List Value} {k i : Nat} {Q : Option Value → Shared → Prop} (D : Sl prog w h₀ h fs) (hA : A.handled = none) (hi : AtI fs i (I, .itr l k)) (hl : h.IsList l vs.toArray)
   (some_ : ∀ v h', vs[k]? = some v → Sl prog w h₀ h' (fs.set i (I, .itr l (k + 1))) → Q (some v) ⟨h', gs, d, t, os⟩) (none_ : ∀ h', vs[k]? = none → Heap.ExtBut I h h' → Q none ⟨h', gs, d, t, os⟩) : wpAny (model prog w) A (pyNext (.ref I)) Q E ⟨h, gs, d, t, os⟩ := by
  cases e : vs[k]? with
  | some v => exact wpAny_pyNext_list_item (s := ⟨h, gs, d, t, os⟩) (D.at hi) hl (x := v) (by simpa using e) fun h' hit hs => some_ v h' e (D.turn hi hs.extBut hit)
  | none => exact wpAny_pyNext_list_end (s := ⟨h, gs, d, t, os⟩) hA (D.at hi) hl (by simpa using e) fun h' hs => none_ h' e hs
end
end Mine
end PLCR
section PDI
namespace Mine
section
variable {prog : Program} {w : World} {A : Around} {h₀ h h' : Heap} {fs : List (Addr × Cl)} {gs : Array GenState} {d : Drawn} {t : Nat} {os : OsState} {E : Value → Shared → Prop} {R : Result → Shared → Prop} {env : Env}
theorem str_of_key {m : Str} {key : Value} (e : (strKind prog w).is m key = true) : ∃ u, key = .str m u := Value.isStrOf_shape e
theorem n_kit {I c : Addr} {kvs : List (Str × Value)} {ep k i : Nat} {Q : Option Value → Shared → Prop} (D : Sl prog w h₀ h fs) (hA : A.handled = none) (hi : AtI fs i (I, .kit c k kvs.length ep)) (hl : h.DictAt (strKind prog w) c kvs ep)
   (some_ : ∀ m v u h', kvs[k]? = some (m, v) → Sl prog w h₀ h' (fs.set i (I, .kit c (k + 1) kvs.length ep)) → Q (some (.str m u)) ⟨h', gs, d, t, os⟩) (none_ : ∀ h', kvs[k]? = none → Heap.ExtBut I h h' → Q none ⟨h', gs, d, t, os⟩) : wpAny (model prog w) A (pyNext (.ref I)) Q E ⟨h, gs, d, t, os⟩ := by
  cases e : kvs[k]? with
  | some p =>
    obtain ⟨m, v⟩ := p
    exact wpAny_pyNext_dict_item (s := ⟨h, gs, d, t, os⟩) (D.at hi) hl e fun key h' hk hit hs => by
      obtain ⟨u, rfl⟩ := str_of_key hk
      exact some_ m v u h' e (D.turn hi hs.extBut hit)
  | none => exact wpAny_pyNext_dict_end (s := ⟨h, gs, d, t, os⟩) hA (D.at hi) hl e fun h' hs => none_ h' e hs
theorem i_dict {c : Addr} {kvs : List (Str × Value)} {ep : Nat} {Q : Value → Shared → Prop} (D : Sl prog w h₀ h fs) (hc : (c == sysModules) = false) (hl : h₀.DictAt (strKind prog w) c kvs ep) (k : ∀ I h', Sl prog w h₀ h' ((I, .kit c 0 kvs.length ep) :: fs) → Q (.ref I) ⟨h', gs, d, t, os⟩) : wpAny (model prog w) A (pyIter (.ref c)) Q E ⟨h, gs, d, t, os⟩ :=
  wpAny_pyIter_dict (s := ⟨h, gs, d, t, os⟩) hc (hl.keep D.keep) (k _ _ (D.push (c := .kit c 0 kvs.length ep) ⟨_, Heap.get?_push_size _ rfl, rfl, rfl⟩))
noncomputable def LoopK (prog : Program) (w : World) (gs : Array GenState) (d : Drawn) (os : OsState) (J : Nat → Heap → List (Addr × Cl) → Prop) (I c : Addr) (kvs : List (Str × Value)) (ep i : Nat) (Q : Flow → Shared → Prop) (f : Flow) (s : Shared) : Prop := match f with
  | .next | .cont => ∃ hb h fs t, s = ⟨h, gs, d, t, os⟩ ∧ J (i + 1) hb fs ∧ hb.DictAt (strKind prog w) c kvs ep ∧ Sl prog w hb h ((I, .kit c (i + 1) kvs.length ep) :: fs)
  | .brk => Q .next s
  | .ret v => Q (.ret v) s
theorem r_forK {target : Expr} {body : List Stmt} {c : Addr} {kvs : List (Str × Value)} {ep : Nat} {Q : Flow → Shared → Prop} (J : Nat → Heap → List (Addr × Cl) → Prop) (D : Sl prog w h₀ h fs) (hA : A.handled = none) (hc : (c == sysModules) = false) (hl : h₀.DictAt (strKind prog w) c kvs ep)
    (ht : ∀ it v, letOwnedTupleGo target it v = pure ()) (j0 : J 0 h₀ fs)
    (turn : ∀ (En : Value → Shared → Prop) i m v u I hb h fs t, kvs[i]? = some (m, v) → J i hb fs → hb.DictAt (strKind prog w) c kvs ep → Sl prog w hb h ((I, .kit c (i + 1) kvs.length ep) :: fs) →
      wpAny (model prog w) A (assign target env (.str m u)) (fun _ s₂ => wpAny (model prog w) A (execs body env) (LoopK prog w gs d os J I c kvs ep i Q) En s₂) En ⟨h, gs, d, t, os⟩)
    (done : ∀ hb h fs t, J kvs.length hb fs → hb.DictAt (strKind prog w) c kvs ep → Sl prog w hb h fs → Q .next ⟨h, gs, d, t, os⟩) :
    wpAny (model prog w) A (pyIter (.ref c)) (fun it s₂ => codeAny (model prog w) A (.forLoop target it body [] env) (fun r s' => match r with | .ok f => Q f s' | .error e => cameBackBy (model prog w) A env E e s') s₂) E ⟨h, gs, d, t, os⟩ := by
  refine i_dict D hc hl (fun I h' D => ?_)
  refine codeAny_forLoop (fun n s => ∃ i hb h fs t, n + i = kvs.length ∧ s = ⟨h, gs, d, t, os⟩ ∧ J i hb fs ∧ hb.DictAt (strKind prog w) c kvs ep ∧ Sl prog w hb h ((I, .kit c i kvs.length ep) :: fs)) ?_ kvs.length ⟨0, h₀, h', fs, t, rfl, rfl, j0, hl, D⟩ (ht _)
  rintro n s ⟨i, hb, h, fs, t, hn, rfl, j, hl, D⟩
  refine n_kit D hA .z (hl.keep D.keep) (fun m v u h' e D => ?_) (fun h' e s => ?_)
  · refine wpAny_mono (turn _ i m v u I hb h' fs t e j hl D) (fun _ s₂ x => wpAny_mono x (fun f s₃ z => ?_) fun _ _ y => y) fun _ _ y => y
    have hi : i < kvs.length := (List.getElem?_eq_some_iff.mp e).1
    cases f with
    | next => obtain ⟨hb', h', fs', t', rfl, j', hl', D'⟩ := z; exact ⟨n - 1, s_lt hn hi, i + 1, hb', h', fs', t', s_eq hn hi, rfl, j', hl', D'⟩
    | cont => obtain ⟨hb', h', fs', t', rfl, j', hl', D'⟩ := z; exact ⟨n - 1, s_lt hn hi, i + 1, hb', h', fs', t', s_eq hn hi, rfl, j', hl', D'⟩
    | brk => exact z
    | ret v => exact z
  · have hi : kvs.length ≤ i := List.getElem?_eq_none_iff.mp e
    obtain rfl : i = kvs.length := s_end hn hi
    exact wpAny_execs_nil (done hb h' fs t j hl (D.drop s))
theorem m_name {i : Nat} {x : Str} {pos : Pos} {scope : Scope} {cl : List (Str × Addr)} {C : Addr} {l : List (Str × Value)} {v : Value} {Q : Value → Shared → Prop} (D : Sl prog w h₀ h fs) (hi : AtI fs i (C, .frm l)) (hv : GetI l x v) (hl : scope.kind = .function ∧ (compEnvC scope cl C env).kindOf x = some .local ∧ (x == ("__debug__" : Str)) = false)
    (k : Q v ⟨h, gs, d, t, os⟩) : wpAny (model prog w) A (eval (.Name x pos) (compEnvC scope cl C env)) Q E ⟨h, gs, d, t, os⟩ := wpAny_Name (wpAny_loadName_local hl.1 hl.2.1 (D.at hi) hv.get k) hl.2.2
theorem m_cell {i : Nat} {x : Str} {pos : Pos} {scope : Scope} {cl : List (Str × Addr)} {C c : Addr} {v : Value} {Q : Value → Shared → Prop} (D : Sl prog w h₀ h fs) (hl : scope.kind = .function ∧ (compEnvC scope cl C env).kindOf x = some .cell ∧ cl.lookup x = some c ∧ (x == ("__debug__" : Str)) = false) (hi : AtI fs i (c, .cel (some v)))
    (k : Q v ⟨h, gs, d, t, os⟩) : wpAny (model prog w) A (eval (.Name x pos) (compEnvC scope cl C env)) Q E ⟨h, gs, d, t, os⟩ := wpAny_Name (wpAny_loadName_cell hl.1 hl.2.1 hl.2.2.1 (D.at hi) k) hl.2.2.2
theorem m_glob {K : Params → Frag} {x : Str} {pos : Pos} {scope : Scope} {cl : List (Str × Addr)} {C : Addr} {v : Value} {Q : Value → Shared → Prop} (D : Sl prog w h₀ h fs) (G : Gd w.params K h₀) (hl : scope.kind = .function ∧ env.globals = mainGlobals ∧ (compEnvC scope cl C env).kindOf x = some .globalImplicit ∧ (x == ("__debug__" : Str)) = false) (hv : nsIn (K w.params) mainGlobals x = some (some v))
    (k : Q v ⟨h, gs, d, t, os⟩) : wpAny (model prog w) A (eval (.Name x pos) (compEnvC scope cl C env)) Q E ⟨h, gs, d, t, os⟩ := by
  refine wpAny_Name ?_ hl.2.2.2
  rw [loadName_read hl.1 hl.2.2.1]
  unfold loadGlobal
  rw [show (compEnvC scope cl C env).globals = mainGlobals from hl.2.1]
  exact wpAny_bind (looks_nsIn (M := model prog w) (G.keeps D.keep).X hv A _ E _ (fun _ _ z => z) (wpAny_pure k))
theorem m_store {i : Nat} {x : Str} {scope : Scope} {cl : List (Str × Addr)} {C : Addr} {l : List (Str × Value)} {v : Value} {Q : Unit → Shared → Prop} (D : Sl prog w h₀ h fs) (hi : AtI fs i (C, .frm l)) (hl : scope.kind = .function ∧ (compEnvC scope cl C env).kindOf x = some .local)
    (k : ∀ h', Sl prog w h₀ h' (fs.set i (C, .frm ((x, v) :: l))) → Q () ⟨h', gs, d, t + 1, os⟩) : wpAny (model prog w) A (storeName (compEnvC scope cl C env) x v) Q E ⟨h, gs, d, t, os⟩ :=
  wpAny_storeName_local hl.2 (D.at hi) (fun h' n s => k h' (D.turn hi s.extBut (show h'.Ns C _ from by have z := lookup_put (l := l) (x := x) (v := v); rw [← z]; exact n))) (by show (scope.kind == _ || (scope.kind == _ && _)) = false; rw [hl.1]; rfl)
theorem r_let0 {x : Str} {p : Pos} {it v : Value} {Q : Unit → Shared → Prop} {s : Shared} (k : Q () s) : wpAny (model prog w) A (letOwnedTupleGo (.Name x p) it v) Q E s := wpAny_of_eq rfl k
theorem Sl.cyc4 {a b c e : Addr × Cl} (D : Sl prog w h₀ h (a :: b :: c :: e :: fs)) : Sl prog w h₀ h (b :: c :: e :: a :: fs) := D.perm (List.Perm.append_right fs (l₁ := [a, b, c, e]) (l₂ := [b, c, e, a]) (List.perm_append_comm (l₁ := [a]) (l₂ := [b, c, e])))
theorem Sl.uncyc4 {a b c e : Addr × Cl} (D : Sl prog w h₀ h (a :: b :: c :: e :: fs)) : Sl prog w h₀ h (e :: a :: b :: c :: fs) := D.cyc4.cyc4.cyc4
theorem w_tests0 {Q : Bool → Shared → Prop} {s : Shared} (k : Q true s) : wpAny (model prog w) A (forIn ([] : List Expr) true fun c r => if r = true then do let ok ← isTrue c env (eval c env); pure (ForInStep.yield ok) else pure (ForInStep.yield r)) Q E s := wpAny_tests_nil k
end
end Mine
end PDI
section PNR
namespace Mine
section
variable {prog : Program} {w : World} {A : Around} {h₀ h h' : Heap} {fs : List (Addr × Cl)} {gs : Array GenState} {d : Drawn} {t : Nat} {os : OsState} {E : Value → Shared → Prop} {R : Result → Shared → Prop} {env : Env}
theorem Row.up {h h' : Heap} {a : Addr} {m : Str} {n : Int} (x : Row h a m n) (k : ∀ b o, h.get? b = some o → h'.get? b = some o) : Row h' a m n := x.imp fun u => Exists.imp fun v e => k _ _ e
noncomputable def Cnt (h : Heap) (a : Addr) (m : Str) (n : Int) : Prop := ∃ u v, h.get? a = some (tupO [.str m u, .int n v])
theorem Cnt.up {h h' : Heap} {a : Addr} {m : Str} {n : Int} (x : Cnt h a m n) (k : ∀ b o, h.get? b = some o → h'.get? b = some o) : Cnt h' a m n := x.imp fun u => Exists.imp fun v e => k _ _ e
theorem negrows {iter : Expr} {p1 p2 p3 p4 p5 p6 p7 pos : Pos} {more : List (Str × Const)} {l : Addr} {o : Nat → Addr} {m : Nat → Str} {n : Nat → Int} {Q : Value → Shared → Prop} (D : Sl prog w h₀ h fs) (hA : A.handled = none) (hl : h₀.IsList l [Value.ref (o 0), .ref (o 1), .ref (o 2)].toArray) (rows : ∀ j, j < 3 → Row h₀ (o j) (m j) (n j))
   (k : ∀ acc h₁ h' t (new : Nat → Addr), (∀ b o, h₀.get? b = some o → h₁.get? b = some o) → (∀ j, j < 3 → Cnt h₁ (new j) (m j) (n j)) → Sl prog w h₁ h' ((acc, .lst [.ref (new 0), .ref (new 1), .ref (new 2)]) :: fs) → Q (.ref acc) ⟨h', gs, d, t, os⟩) :
   wpAny (model prog w) A (pyIter (.ref l)) (LcNext prog w A env E (.ListComp (.Tuple [.Name (Str.ofString "module") p1, .UnaryOp .USub (.Name (Str.ofString "less") p2) p3] 0 p4) [⟨.Tuple [.Name (Str.ofString "less") p5, .Name (Str.ofString "module") p6] 0 p7, iter, [], 0⟩] ⟨.function, [(Str.ofString ".0", .local), (Str.ofString "less", .local), (Str.ofString "module", .local)], false, false, more⟩ pos)
     ⟨.function, [(Str.ofString ".0", .local), (Str.ofString "less", .local), (Str.ofString "module", .local)], false, false, more⟩ [] none Q) E ⟨h, gs, d, t, os⟩ := by
  refine wpAny_pyIter_list (s := ⟨h, gs, d, t, os⟩) (IsList.kp hl D.keep) ?_
  have D := D.push (o := { cls := .type "list_iterator", data := .fields #[.ref l, .int 0 0] }) (c := .itr l 0) ⟨_, Heap.get?_push_size _ rfl, rfl, rfl⟩
  generalize h.objs.size = I at D ⊢
  generalize h.push { cls := .type "list_iterator", data := .fields #[.ref l, .int 0 0] } = h1 at D ⊢
  refine r_lcI (fun c hb fs' ys => ∃ i, ∃ new : Nat → Addr, c + i = 3 ∧ (∀ b o, h₀.get? b = some o → hb.get? b = some o) ∧ fs' = (I, .itr l i) :: fs ∧ ys = ([0, 1, 2].take i).map (fun j => Value.ref (new j)) ∧ ∀ j, j < i → Cnt hb (new j) (m j) (n j)) (fun hb fs' ys => ∃ new : Nat → Addr, (∀ b o, h₀.get? b = some o → hb.get? b = some o) ∧ fs' = fs ∧ ys = [Value.ref (new 0), .ref (new 1), .ref (new 2)] ∧ ∀ j, j < 3 → Cnt hb (new j) (m j) (n j)) 3 D ⟨0, fun _ => 0, rfl, fun _ _ e => e, rfl, rfl, fun j hj => absurd hj (Nat.not_lt_zero j)⟩ (by kernel_rfl) rfl ?_ ?_ ?_ ?_
  · rintro c _ _ _ ⟨i, new, hn, _, rfl, rfl, _⟩
    rw [List.length_map, List.length_take]
    show min i 3 ≤ 1000
    omega
  · intro E' Q' h t C acc D q
    exact wpAny_pyIter_listiter (s := ⟨h, gs, d, t, os⟩) (D.at (.s (.s .z))) q
  · rintro En c hb h _ t lf _ C acc ⟨i, new, hn, up, rfl, rfl, cs⟩ D
    refine n_itr D hA (.s (.s .z)) (IsList.kp (IsList.kp hl up) D.keep) (fun v h' e D => ?_) (fun h' e s => ?_)
    · have hi : i < 3 := (List.getElem?_eq_some_iff.mp e).1
      obtain rfl : v = .ref (o i) := by
        have : i = 0 ∨ i = 1 ∨ i = 2 := c3 (by assumption)
        rcases this with rfl | rfl | rfl <;> exact (Option.some.inj e).symm
      obtain ⟨ur, vr, er⟩ := (rows i hi).up up
      dsimp only [List.set_cons_zero, List.set_cons_succ] at D ⊢
      refine wpAny_letOwnedTupleGo_listiter (s := ⟨h', gs, d, t, os⟩) (D.at (.s (.s .z))) ?_
      repeat' (first
  | walk_at "b W"
        | walk_at "b W2"
  | walk_at "b NC"
      | ((with_reducible refine' r_unpack D (isTup_of er) ?hA ?q1 ?q2 (fun h' D => ?_)); (case hA => exact hA); (case q1 => rfl); (case q2 => rfl))
      | fail)
      rw [Int.neg_neg] at D
      refine D.out (fun h₁ e1 e2 D => ?_)
      refine ⟨c - 1, h₁, _, _, _, _, s_lt hn hi, rfl, ⟨i + 1, fun j => if j = i then a else new j, s_eq hn hi, fun b o e => e1 _ _ (up _ _ e), rfl, ?_, fun j hj => ?_⟩, D⟩
      · have : i = 0 ∨ i = 1 ∨ i = 2 := c3 (by assumption)
        rcases this with rfl | rfl | rfl <;> rfl
      · by_cases q : j = i
        · subst q; dsimp only; rw [if_pos rfl]; exact ⟨_, _, e2⟩
        · dsimp only; rw [if_neg q]; exact (cs j (s_in hj q)).up e1
    · have hi : 3 ≤ i := List.getElem?_eq_none_iff.mp e
      obtain rfl : i = 3 := s_end hn hi
      exact ⟨_, h', _, t, rfl, ⟨new, up, rfl, rfl, cs⟩, (D.front (.s (.s .z))).drop s⟩
  · rintro hb h _ t lf acc C _ ⟨new, up, rfl, rfl, cs⟩ D
    exact fin_none D fun h' D => k acc hb h' t new up cs D
end
end Mine
end PNR
section PDR
namespace Mine
section
variable {prog : Program} {w : World} {A : Around} {h₀ h h' : Heap} {fs : List (Addr × Cl)} {gs : Array GenState} {d : Drawn} {t : Nat} {os : OsState} {E : Value → Shared → Prop} {R : Result → Shared → Prop} {env : Env}
theorem Sl.same {i : Nat} {L : Addr} {l : List (Str × Value)} (D : Sl prog w h₀ h fs) (hi : AtI fs i (L, .frm l)) (F : Fr noHeap L h' (fun y => l.lookup y)) (N : News noHeap L h' (others h [L])) : Sl prog w h₀ h' fs := by
  have kp : ∀ b o, b ≠ L → h.get? b = some o → h'.get? b = some o := fun b o n1 e => (N (b, o) (mem_others.mpr ⟨by simp [n1], e⟩)).1
  have hL := (D.ok _ hi.mem).2
  refine ⟨fun a o e => kp a o (fun z => by rw [z, hL] at e; cases e) (D.keep a o e), fun p hp => ?_, D.nd⟩
  have z := D.ok p hp
  refine ⟨?_, z.2⟩
  obtain ⟨k, hk⟩ := List.mem_iff_getElem?.mp hp
  by_cases hik : i = k
  · subst hik
    rw [hi.get] at hk
    cases hk
    exact F.ns
  · exact Cl.mv z.1 fun o e => kp _ o (D.key hk hi.get (Ne.symm hik)) e
theorem r_slice {value slice : Expr} {i : Nat} {L : Addr} {l : List (Str × Value)} {x : Str} {u uj : Tok} {j : Int} {Q : Value → Shared → Prop} (D : Sl prog w h₀ h fs) (hi : AtI fs i (L, .frm l)) (hz : x.length ≤ 1000) (k : ∀ h' t' t, Sl prog w h₀ h' fs → Q (.str (Txt.slice x none (some j)) t') ⟨h', gs, d, t, os⟩)
   (hs : subscripted slice false (.str x u) (.ref h.objs.size) = operate [.ref h.objs.size, .str x u] (getItem (.str x u) (.ref h.objs.size)) := by with_unfolding_all rfl) (ht : ∀ r, letTemporaryGo value (.str x u) r = pure () := by intro _; with_unfolding_all rfl) :
   wpAny (model prog w) A (subscriptTail value slice (.str x u) (.ref h.objs.size)) Q E ⟨h.push { cls := .type "slice", data := .fields #[.none, .int j uj, .none] }, gs, d, t, os⟩ :=
  slice_strN_ns (s := ⟨h, gs, d, t, os⟩) (D.fr hi) (news_others (ex := [])) (fun h' t' tk F N => k h' t' tk (D.same hi F N)) hs ht (by rw [sizeLine_eq]; omega)
theorem i_list {l : Addr} {vs : List Value} {Q : Value → Shared → Prop} (D : Sl prog w h₀ h fs) (hl : h₀.IsList l vs.toArray) (k : ∀ I h', Sl prog w h₀ h' ((I, .itr l 0) :: fs) → Q (.ref I) ⟨h', gs, d, t, os⟩) : wpAny (model prog w) A (pyIter (.ref l)) Q E ⟨h, gs, d, t, os⟩ :=
  wpAny_pyIter_list (s := ⟨h, gs, d, t, os⟩) (IsList.kp hl D.keep) (k _ _ (D.push (c := .itr l 0) ⟨_, Heap.get?_push_size _ rfl, rfl, rfl⟩))
theorem w_tests1 {c : Expr} {Q : Bool → Shared → Prop} {s : Shared} (x : wpAny (model prog w) A (isTrue c env (eval c env)) Q E s) : wpAny (model prog w) A (forIn [c] true fun c r => if r = true then do let ok ← isTrue c env (eval c env); pure (ForInStep.yield ok) else pure (ForInStep.yield r)) Q E s := wpAny_tests_one x
theorem r_inW {a : Addr} {m : Str} {u : Tok} {ss : List Str} {Q : Value → Shared → Prop} (D : Sl prog w h₀ h fs) (W : KTD.Words h₀ a ss) (k : Q (.bool (KTD.inWords m ss)) ⟨h, gs, d, t, os⟩) : wpAny (model prog w) A (compareOp .In (.str m u) (.ref a)) Q E ⟨h, gs, d, t, os⟩ := KTD.in_words (s := ⟨h, gs, d, t, os⟩) W D.keep k
theorem r_notinW {a : Addr} {m : Str} {u : Tok} {ss : List Str} {Q : Value → Shared → Prop} (D : Sl prog w h₀ h fs) (W : KTD.Words h₀ a ss) (k : Q (.bool (!KTD.inWords m ss)) ⟨h, gs, d, t, os⟩) : wpAny (model prog w) A (compareOp .NotIn (.str m u) (.ref a)) Q E ⟨h, gs, d, t, os⟩ := KTD.notin_words (s := ⟨h, gs, d, t, os⟩) W D.keep k
theorem r_isnot_n {Q : Value → Shared → Prop} {s : Shared} (k : Q (.bool false) s) : wpAny (model prog w) A (compareOp .IsNot .none .none) Q E s := wpAny_isNot_plain rfl k
theorem r_isnot_s {x : Str} {u : Tok} {Q : Value → Shared → Prop} {s : Shared} (k : Q (.bool true) s) : wpAny (model prog w) A (compareOp .IsNot (.str x u) .none) Q E s := wpAny_isNot_plain rfl k
theorem r_neNil {a b : Addr} {v : Value} {vs : List Value} {Q : Value → Shared → Prop} {s : Shared} (hu : A.units < cLine) (ha : s.heap.IsList a (v :: vs).toArray) (hb : s.heap.IsList b ([] : List Value).toArray) (k : Q (.bool true) s) : wpAny (model prog w) A (compareOp .NotEq (.ref a) (.ref b)) Q E s := by
  refine cmp_ofNotEq ?_
  obtain ⟨gh, g, dd, tt, oo⟩ := s
  have ta := ha.typeIs
  have tb := hb.typeIs
  obtain ⟨oa, ea, ca, na, da⟩ := ha
  obtain ⟨ob, eb, cb, nb, db⟩ := hb
  refine wpAny_richCompare_same_room (op := .NotEq) ta tb F.slot_list_ne (wpAny_call_entry F.slot_list_ne ta F.entry_list_ne ?_ (F.args_list_ne_2 _ _)) hu
  unfold Builtin.«list.__ne__»
  dsimp only at ea eb
  repeat (first | rw [ca] | rw [da] | rw [cb] | rw [db] | lk)
  exact ⟨_, rfl, (fun z => nomatch z), k⟩
theorem r_neNilD {i j : Nat} {a b : Addr} {v : Value} {vs : List Value} {Q : Value → Shared → Prop} (D : Sl prog w h₀ h fs) (hu : A.units < cLine) (hi : AtI fs i (a, .lst (v :: vs))) (hj : AtI fs j (b, .lst [])) (k : Q (.bool true) ⟨h, gs, d, t, os⟩) : wpAny (model prog w) A (compareOp .NotEq (.ref a) (.ref b)) Q E ⟨h, gs, d, t, os⟩ :=
  r_neNil (s := ⟨h, gs, d, t, os⟩) hu (Heap.PlainList.isList (D.at hi)) (Heap.PlainList.isList (D.at hj)) k
end
end Mine
end PDR
section PEV
namespace Mine
section
variable {prog : Program} {w : World} {A : Around} {h₀ h : Heap} {fs : List (Addr × Cl)} {gs : Array GenState} {d : Drawn} {t : Nat} {os : OsState} {E : Value → Shared → Prop} {R : Result → Shared → Prop}
noncomputable def mods : List Str := [Str.ofString "a", Str.ofString "a.b", Str.ofString "ab", Str.ofString "c", Str.ofString "c.d", Str.ofString "e", Str.ofString "f"]
noncomputable def evMod (n : Int) : Str := mods.getD (n.fmod 7).toNat (Str.ofString "")
noncomputable def evPre (n : Int) : Option Str := [some (Str.ofString "/x/"), some (Str.ofString "/xy/"), none].getD ((n.fdiv 7).fmod 3).toNat none
noncomputable def evPath (n : Int) : Option Str := (evPre n).map fun p => p ++ Txt.replace (evMod n) (Str.ofString ".") (Str.ofString "/") ++ Str.ofString ".py"
noncomputable def EvAt (h : Heap) (n : Int) (v : Value) : Prop := ∃ a u pv, v = .ref a ∧ h.get? a = some (tupO [.str (evMod n) u, pv]) ∧ PathIs (evPath n) pv
noncomputable def EvsAre (h : Heap) : List Int → List Value → Prop
  | [], [] => True
  | n :: ns, v :: vs => EvAt h n v ∧ EvsAre h ns vs
  | _, _ => False
theorem EvAt.up {h h' : Heap} {n : Int} {v : Value} (x : EvAt h n v) (k : ∀ b o, h.get? b = some o → h'.get? b = some o) : EvAt h' n v := by
  obtain ⟨a, u, pv, e, o, q⟩ := x
  exact ⟨a, u, pv, e, k _ _ o, q⟩
theorem EvsAre.up {h h' : Heap} (k : ∀ b o, h.get? b = some o → h'.get? b = some o) : ∀ {ns : List Int} {vs : List Value}, EvsAre h ns vs → EvsAre h' ns vs := by
  intro ns
  induction ns with
  | nil => exact fun {vs} x => by cases vs with | nil => exact x | cons => exact x
  | cons n ns ih => exact fun {vs} x => by cases vs with | nil => exact x | cons v vs => exact ⟨EvAt.up x.1 k, ih x.2⟩
theorem EvsAre.get {h : Heap} : ∀ {ns : List Int} {vs : List Value} {i : Nat} {v : Value}, EvsAre h ns vs → vs[i]? = some v → ∃ n, ns[i]? = some n ∧ EvAt h n v := by
  intro ns
  induction ns with
  | nil => exact fun {vs i v} x e => by cases vs with | nil => cases e | cons => exact False.elim x
  | cons n ns ih =>
    exact fun {vs i v} x e => by
      cases vs with
      | nil => exact False.elim x
      | cons v' vs => cases i with
        | zero => exact ⟨n, rfl, Option.some.inj e ▸ x.1⟩
        | succ i => exact ih (i := i) x.2 e
theorem EvsAre.add {h : Heap} {n : Int} {v : Value} (y : EvAt h n v) : ∀ {ns : List Int} {vs : List Value}, EvsAre h ns vs → EvsAre h (ns ++ [n]) (vs ++ [v]) := by
  intro ns
  induction ns with
  | nil => exact fun {vs} x => by cases vs with | nil => exact ⟨y, trivial⟩ | cons => exact False.elim x
  | cons n ns ih => exact fun {vs} x => by cases vs with | nil => exact False.elim x | cons v vs => exact ⟨x.1, ih x.2⟩
theorem EvsAre.length {h : Heap} : ∀ {ns : List Int} {vs : List Value}, EvsAre h ns vs → vs.length = ns.length := by
  intro ns
  induction ns with
  | nil => exact fun {vs} x => by cases vs with | nil => rfl | cons => exact False.elim x
  | cons n ns ih => exact fun {vs} x => by cases vs with | nil => exact False.elim x | cons v vs => exact congrArg (· + 1) (ih x.2)
theorem EvsAre.whole {h : Heap} {ns : List Int} {es : List Value} {n : Nat} (x : EvsAre h (ns.take n) es) (e : n = ns.length := by omega) : EvsAre h ns es := by subst e; rwa [List.take_length] at x
theorem fmod_in {n m : Int} (hm : 0 < m) : 0 ≤ n.fmod m ∧ n.fmod m < m := ⟨Int.fmod_nonneg_of_pos n hm, Int.fmod_lt_of_pos n hm⟩
theorem getD_in (l : List Str) (k : Nat) (d : Str) : l.getD k d ∈ d :: l := by
  unfold List.getD
  cases e : l[k]? with
  | none => exact .head _
  | some x => exact .tail _ (List.mem_of_getElem? e)
theorem mods_len (k : Nat) : (mods.getD k (Str.ofString "")).length ≤ 3 := by
  have : ∀ x ∈ Str.ofString "" :: mods, x.length ≤ 3 := by decide +kernel
  exact this _ (getD_in ..)
theorem rep_len (k : Nat) : (Txt.replace (mods.getD k (Str.ofString "")) (Str.ofString ".") (Str.ofString "/")).length ≤ 3 := by
  have : ∀ x ∈ Str.ofString "" :: mods, (Txt.replace x (Str.ofString ".") (Str.ofString "/")).length ≤ 3 := by decide +kernel
  exact this _ (getD_in ..)
theorem menu3 (n : Int) (t1 t2 : Tok) : (evPre n = none ∧ [Value.str (Str.ofString "/x/") t1, .str (Str.ofString "/xy/") t2, .none][((n.fdiv 7).fmod 3).toNat]? = some .none) ∨
    ∃ p u, evPre n = some p ∧ p.length ≤ 4 ∧ [Value.str (Str.ofString "/x/") t1, .str (Str.ofString "/xy/") t2, .none][((n.fdiv 7).fmod 3).toNat]? = some (.str p u) := by
  have m3 := fmod_in (n := n.fdiv 7) (m := 3) (by decide)
  unfold evPre
  generalize (n.fdiv 7).fmod 3 = k at m3
  have : k = 0 ∨ k = 1 ∨ k = 2 := by omega
  rcases this with rfl | rfl | rfl
  · exact .inr ⟨_, t1, rfl, by decide +kernel, rfl⟩
  · exact .inr ⟨_, t2, rfl, by decide +kernel, rfl⟩
  · exact .inl ⟨rfl, rfl⟩
theorem rep_ok (x : Str) (h : x.length ≤ 3) : x.length + (x.length + 1) * (Str.ofString "/").length ≤ 10000 := by
  have : (Str.ofString "/").length = 1 := by decide +kernel
  rw [this]; omega
theorem events {l : Addr} {vs : List Value} {ns : List Int} (D : Sl prog w h₀ h fs) (G : Gd w.params hK h₀) (hroom : A.depth + 1 < recursionLimit) (hA : A.handled = none)
   (hl : h₀.IsList l vs.toArray) (hi : IntsAre vs ns) (hz : ns.length ≤ 30)
   (k : ∀ h₁ h' tk E es, (∀ b o, h₀.get? b = some o → h₁.get? b = some o) → h₁.IsList E es.toArray → EvsAre h₁ ns es → Sl prog w h₁ h' fs → R (.ok (.ret (.ref E))) ⟨h', gs, d, tk, os⟩) :
   codeAny (model prog w) A (.call (.ref 134) ⟨[.ref l], []⟩) R ⟨h, gs, d, t, os⟩ := by
  refine r_call [(Str.ofString "numbers", .ref l)] [(Str.ofString "numbers", .ref l)] 1 D G (fn_134 w.params) (d00 hroom) (by kernel_rfl) ⟨rfl, rfl⟩ (by kernel_rfl) (fun L h' D => ?_)
  with_unfolding_all change wpAny _ _ (execs (_ :: _) _) _ _ _
  repeat' (first
  | walk_at "b W"
  | fail)
  obtain ⟨X, hX⟩ : ∃ X, X = a := ⟨_, rfl⟩
  subst hX
  refine r_for (fun i hb fs' => (∀ b o, h₀.get? b = some o → hb.get? b = some o) ∧ ∃ fl es, fs' = (X, .lst es) :: (L, .frm fl) :: fs ∧ GetI fl (Str.ofString "events") (.ref X) ∧ EvsAre hb (ns.take i) es) D hA hl (fun _ _ => rfl) ⟨fun _ _ e => e, _, _, rfl, .z, trivial⟩ ?_ ?_
  · rintro En i v I hb h _ t hvi ⟨up, fl, es, rfl, hev, hes⟩ hlb D
    obtain ⟨n, hn⟩ : ∃ n, ns[i]? = some n := by
      have : i < ns.length := by rw [hi.length.symm]; exact (List.getElem?_eq_some_iff.mp hvi).1
      exact ⟨_, List.getElem?_eq_getElem this⟩
    obtain ⟨u, hu⟩ := hi.get i n hn
    obtain rfl : v = .int n u := Option.some.inj (hvi.symm.trans hu)
    have m7 := fmod_in (n := n) (m := 7) (by decide)
    have m3 := fmod_in (n := n.fdiv 7) (m := 3) (by decide)
    repeat' (first
  | walk_at "b W"
    | fail)
    refine r_menu mods D .z ⟨⟨_, rfl⟩, ⟨_, rfl⟩, ⟨_, rfl⟩, ⟨_, rfl⟩, ⟨_, rfl⟩, ⟨_, rfl⟩, ⟨_, rfl⟩, trivial⟩ m7.1 m7.2 (by decide) (fun u7 => ?_) (by with_unfolding_all rfl)
    repeat' (first
  | walk_at "b W"
    | fail)
    have hel : es.length ≤ 1000 := by have := hes.length; rw [List.length_take] at this; omega
    have mz := mods_len (n.fmod 7).toNat
    have rz := rep_len (n.fmod 7).toNat
    rcases menu3 n _ _ with ⟨hp, hx⟩ | ⟨p, u3, hp, hpl, hx⟩
    · refine r_litem D .z m3.1 (by omega) hx ?_ (by with_unfolding_all rfl)
      repeat' (first
  | walk_at "b W"
      | fail)
      refine r_append D (.s (.s (.s (.s .z)))) hel (fun h' D => ?_)
      dsimp only [List.set_cons_zero, List.set_cons_succ] at D
      repeat' (first
  | walk_at "b W"
      | fail)
      refine D.out (fun h₁ e1 e2 D => ?_)
      exact ⟨h₁, h', _, _, rfl, ⟨fun b o e => e1 _ _ (up _ _ e), _, _, rfl, .s (by kernel_rfl) (.s (by kernel_rfl) (.s (by kernel_rfl) hev)), by rw [List.take_succ, hn]; exact EvsAre.add ⟨a, u7, _, rfl, e2, by unfold evPath; rw [hp]; exact rfl⟩ (hes.up e1)⟩, IsList.kp hlb e1, D.tail.tail⟩
    · refine r_litem D .z m3.1 (by omega) hx ?_ (by with_unfolding_all rfl)
      repeat' (first
  | walk_at "b W"
      | fail)
      refine r_replace (Nat.succ_ne_zero _) (Nat.succ_ne_zero _) (Nat.ne_of_lt (Nat.lt_succ_self _)) (by kernel_rfl) (rep_ok _ mz) (fun tr t => ?_)
      refine r_sadd (by omega) (fun t' t => ?_)
      repeat' (first
  | walk_at "b W"
      | fail)
      refine r_sadd (by rw [PySem.Str.length_append]; have : (Str.ofString ".py").length = 3 := (by decide +kernel); omega) (fun t' t => ?_)
      repeat' (first
  | walk_at "b W"
      | fail)
      refine r_append D (.s (.s (.s (.s .z)))) hel (fun h' D => ?_)
      dsimp only [List.set_cons_zero, List.set_cons_succ] at D
      repeat' (first
  | walk_at "b W"
      | fail)
      refine D.out (fun h₁ e1 e2 D => ?_)
      exact ⟨h₁, h', _, _, rfl, ⟨fun b o e => e1 _ _ (up _ _ e), _, _, rfl, .s (by kernel_rfl) (.s (by kernel_rfl) (.s (by kernel_rfl) hev)), by rw [List.take_succ, hn]; exact EvsAre.add ⟨a, u7, _, rfl, e2, by unfold evPath; rw [hp]; exact ⟨_, rfl⟩⟩ (hes.up e1)⟩, IsList.kp hlb e1, D.tail.tail⟩
  · rintro hb h _ t ⟨up, fl, es, rfl, hev, hes⟩ D
    repeat' (first
  | walk_at "b W"
    | fail)
    refine D.out (fun h₁ e1 e2 D => ?_)
    exact k h₁ h _ X es (fun b o e => e1 _ _ (up _ _ e)) (Heap.PlainList.isList e2) ((hes.up e1).whole hi.length) D.tail
end
end Mine
end PEV
section PDU
namespace Mine
section
variable {prog : Program} {w : World} {A : Around} {h₀ h h' : Heap} {fs : List (Addr × Cl)} {gs : Array GenState} {d : Drawn} {t : Nat} {os : OsState} {E : Value → Shared → Prop} {R : Result → Shared → Prop} {env : Env}
theorem fn_146 (P : Params) : FnOkC hK P 146 fd146 bd146 (fun L => [(Str.ofString "module", L + 1)]) := ⟨by kernel_rfl, by kernel_rfl, by kernel_rfl, by kernel_rfl, by kernel_rfl, by kernel_rfl, by kernel_rfl, fun L => by kernel_rfl, fun L => List.nodup_cons.mpr ⟨List.not_mem_nil, List.nodup_nil⟩⟩
noncomputable def pathsOf (ns : List Int) (m : Str) : List (Option Str) := (ns.filter fun n => evMod n = m).map evPath
noncomputable def keeps (m : Str) (p : Option Str) : Bool := !KTD.inWords m [S "a", S "a.b"] && (match p with | none => false | some x => Txt.slice x none (some 4) == S "/xy/")
theorem paths_snoc (l : List Int) (n : Int) (m : Str) : pathsOf (l ++ [n]) m = pathsOf l m ++ (if evMod n = m then [evPath n] else []) := by
  unfold pathsOf
  rw [List.filter_append, List.map_append]
  by_cases e : evMod n = m <;> simp [e]
noncomputable def PathsAre : List Value → List (Option Str) → Prop
  | [], [] => True
  | v :: vs, p :: ps => PathIs p v ∧ PathsAre vs ps
  | _, _ => False
theorem PathsAre.snoc {v : Value} {p : Option Str} (x : PathIs p v) : ∀ {vs : List Value} {ps : List (Option Str)}, PathsAre vs ps → PathsAre (vs ++ [v]) (ps ++ [p]) := by
  intro vs
  induction vs with
  | nil => exact fun {ps} h => by cases ps with | nil => exact ⟨x, trivial⟩ | cons => exact False.elim h
  | cons a as ih => exact fun {ps} h => by cases ps with | nil => exact False.elim h | cons b bs => exact ⟨h.1, ih h.2⟩
theorem PathsAre.length : ∀ {vs : List Value} {ps : List (Option Str)}, PathsAre vs ps → vs.length = ps.length := by
  intro vs
  induction vs with
  | nil => exact fun {ps} h => by cases ps with | nil => rfl | cons => exact False.elim h
  | cons a as ih => exact fun {ps} h => by cases ps with | nil => exact False.elim h | cons b bs => exact congrArg (· + 1) (ih h.2)
inductive RowsAre (h : Heap) (cnt : Str → Int) : List Value → List Str → Prop
  | nil : RowsAre h cnt [] []
  | snoc {vs ms a m} : RowsAre h cnt vs ms → Row h a m (cnt m) → RowsAre h cnt (vs ++ [.ref a]) (ms ++ [m])
theorem RowsAre.up {h h' : Heap} {cnt : Str → Int} {vs : List Value} {ms : List Str} (x : RowsAre h cnt vs ms) (k : ∀ b o, h.get? b = some o → h'.get? b = some o) : RowsAre h' cnt vs ms := by
  induction x with
  | nil => exact .nil
  | snoc _ r ih => exact .snoc ih (r.up k)
theorem RowsAre.length {h : Heap} {cnt : Str → Int} {vs : List Value} {ms : List Str} (x : RowsAre h cnt vs ms) : vs.length = ms.length := by
  induction x with
  | nil => rfl
  | snoc _ r ih => rw [List.length_append, List.length_append, ih]; rfl
noncomputable def All2 {α β : Type} (P : α → β → Prop) : List α → List β → Prop
  | [], [] => True
  | a :: as, b :: bs => P a b ∧ All2 P as bs
  | _, _ => False
theorem all2_c {α β : Type} {P : α → β → Prop} {as : List α} {b : β} {bs : List β} (h : All2 P as (b :: bs)) : ∃ a as', as = a :: as' ∧ P a b ∧ All2 P as' bs := by cases as with | nil => exact False.elim h | cons a as => exact ⟨a, as, rfl, h⟩
theorem all2_n {α β : Type} {P : α → β → Prop} {as : List α} (h : All2 P as []) : as = [] := by cases as with | nil => rfl | cons => exact False.elim h
theorem All2.snoc {α β : Type} {P : α → β → Prop} {a : α} {b : β} (x : P a b) : ∀ {as : List α} {bs : List β}, All2 P as bs → All2 P (as ++ [a]) (bs ++ [b]) := by
  intro as
  induction as with
  | nil => exact fun {bs} h => by cases bs with | nil => exact ⟨x, trivial⟩ | cons => exact False.elim h
  | cons a as ih => exact fun {bs} h => by cases bs with | nil => exact False.elim h | cons b bs => exact ⟨h.1, ih h.2⟩
theorem RowsAre.all {h : Heap} {cnt : Str → Int} {vs : List Value} {ms : List Str} (x : RowsAre h cnt vs ms) : ∃ as : List Addr, vs = as.map .ref ∧ All2 (fun a m => Row h a m (cnt m)) as ms := by
  induction x with
  | nil => exact ⟨[], rfl, trivial⟩
  | @snoc vs ms a m _ r ih =>
    obtain ⟨as, rfl, z⟩ := ih
    exact ⟨as ++ [a], by rw [List.map_append]; rfl, All2.snoc (P := fun a m => Row h a m (cnt m)) r z⟩
noncomputable def m3 (i : Nat) : Str := match i with | 0 => S "ab" | 1 => S "c.d" | _ => S "f"
theorem m3_ne : ∀ i j, i < 3 → j < 3 → i ≠ j → m3 i ≠ m3 j := fun i j hi hj n => by
  have hi' : i = 0 ∨ i = 1 ∨ i = 2 := c3 (by assumption)
  have hj' : j = 0 ∨ j = 1 ∨ j = 2 := c3 (by assumption)
  rcases hi' with rfl | rfl | rfl <;> rcases hj' with rfl | rfl | rfl <;> first | exact absurd rfl n | decide +kernel
theorem due {ev : Addr} {vs : List Value} {ns : List Int} {fp : Str → Option Str} (D : Sl prog w h₀ h fs) (G : Gd w.params hK h₀) (hroom : A.depth + 3 < recursionLimit) (hu : A.units + 80 < 9900) (hA : A.handled = none) (hl : h₀.IsList ev vs.toArray) (hv : EvsAre h₀ ns vs) (hz : ns.length ≤ 30)
   (hf : ∀ m, m ∈ mods → ∃ r, pathsOf ns m = fp m :: r) (hfl : ∀ m p, m ∈ mods → fp m = some p → p.length ≤ 1000)
   (hk : (mods.filter fun m => keeps m (fp m)) = [m3 0, m3 1, m3 2])
   (k : ∀ D' h₁ h' t (q : Nat → Nat) (o : Nat → Addr), [q 0, q 1, q 2] ∈ perm3 → before (m3 (q 0)) (pathsOf ns (m3 (q 0))).length (m3 (q 1)) (pathsOf ns (m3 (q 1))).length = true → before (m3 (q 1)) (pathsOf ns (m3 (q 1))).length (m3 (q 2)) (pathsOf ns (m3 (q 2))).length = true → (∀ b o, h₀.get? b = some o → h₁.get? b = some o) → (∀ z, z < 3 → Cnt h₁ (o z) (m3 (q z)) (pathsOf ns (m3 (q z))).length) → Sl prog w h₁ h' ((D', .lst [.ref (o 0), .ref (o 1), .ref (o 2)]) :: fs) → R (.ok (.ret (.ref D'))) ⟨h', gs, d, t, os⟩) :
   codeAny (model prog w) A (.call (.ref 146) ⟨[.ref ev], []⟩) R ⟨h, gs, d, t, os⟩ := by
  refine r_callC (x := Str.ofString "events") D G (fn_146 w.params) (d00 hroom) (by kernel_rfl) (fun L => ⟨by kernel_rfl, by kernel_rfl⟩) (fun L h' t D => ?_)
  replace D : Sl prog w h₀ h' ((L, .frm [(Str.ofString "events", .ref ev)]) :: (L + 1, .cel none) :: fs) := D
  with_unfolding_all change wpAny _ _ (execs (_ :: _) _) _ _ _
  repeat' (first
  | walk_at "b W"
    | walk_at "b W2"
  | walk_at "b NC"
  | fail)
  have hvl := hv.length
  refine D.out (fun h₁ e1 e2 D => ?_)
  obtain ⟨X, D⟩ : ∃ X, Sl prog w h₁ h' ((X, .lst []) :: (L, .frm [(S "rows", .ref X), (S "events", .ref ev)]) :: (L + 1, .cel none) :: fs) := ⟨_, D⟩
  refine r_for (vs := [.str (S "a") _, .str (S "a.b") _, .str (S "ab") _, .str (S "c") _, .str (S "c.d") _, .str (S "e") _, .str (S "f") _]) (fun i hb fs' => (∀ b o, h₁.get? b = some o → hb.get? b = some o) ∧ ∃ fl cv rs, fs' = (X, .lst rs) :: (L, .frm fl) :: (L + 1, .cel cv) :: fs ∧ GetI fl (S "rows") (.ref X) ∧ GetI fl (S "events") (.ref ev) ∧ RowsAre hb (fun m => (pathsOf ns m).length) rs ((mods.take i).filter fun m => keeps m (fp m))) D hA (Heap.PlainList.isList e2) (fun _ _ => rfl) ⟨fun _ _ e => e, _, _, _, rfl, by walk_at "b GT", by walk_at "b GT", .nil⟩ ?_ ?_
  · rintro En i v I hb h _ t hvi ⟨up, fl, cv, rs, rfl, g1, g2, hrs⟩ hlb D
    obtain ⟨mm, um, hmi, rfl⟩ : ∃ m u, mods[i]? = some m ∧ v = .str m u := by
      have : i < 7 := (List.getElem?_eq_some_iff.mp hvi).1
      rcases seven _ this with rfl | rfl | rfl | rfl | rfl | rfl | rfl <;> exact ⟨_, _, rfl, (Option.some.inj hvi).symm⟩
    have hmm : mm ∈ mods := List.mem_of_getElem? hmi
    have G := G.keeps fun b o e => up _ _ (e1 _ _ e)
    have hlv : hb.IsList ev vs.toArray := IsList.kp (IsList.kp hl e1) up
    have hev : EvsAre hb ns vs := (hv.up e1).up up
    repeat' (first
  | walk_at "b W"
      | walk_at "b W2"
  | walk_at "b NC"
    | fail)
    refine r_lcA (cl := [(Str.ofString "module", L + 1)]) (by kernel_rfl) (by kernel_rfl) (by kernel_rfl) (by kernel_rfl) ?_ (fun _ => rfl)
    repeat' (first
  | walk_at "b W"
      | walk_at "b W2"
  | walk_at "b NC"
    | fail)
    refine i_list D hlv (fun I2 h' D => ?_)
    refine r_lcI (fun c hb' fs'' ys => ∃ i2, c + i2 = vs.length ∧ hb' = hb ∧ fs'' = (I2, .itr ev i2) :: (I, .itr a (i + 1)) :: (X, .lst rs) :: (L, .frm fl) :: (L + 1, .cel (some (.str mm um))) :: fs ∧ PathsAre ys (pathsOf (ns.take i2) mm)) (fun hb' fs'' ys => hb' = hb ∧ fs'' = (I, .itr a (i + 1)) :: (X, .lst rs) :: (L, .frm fl) :: (L + 1, .cel (some (.str mm um))) :: fs ∧ PathsAre ys (pathsOf ns mm)) vs.length D ⟨0, rfl, rfl, rfl, trivial⟩ (by kernel_rfl) (by kernel_rfl) ?_ ?_ ?_ ?_
    · rintro c _ _ ys ⟨i2, hn, rfl, rfl, hp⟩
      have := hp.length
      unfold pathsOf at this
      have h2 := List.length_filter_le (fun n => decide (evMod n = mm)) (ns.take i2)
      rw [List.length_map] at this
      rw [List.length_take] at h2
      omega
    · intro E' Q' h t C acc D q
      exact wpAny_pyIter_listiter (s := ⟨h, gs, d, t, os⟩) (D.at (.s (.s .z))) q
    · rintro En2 c _ h _ t lf ys C acc ⟨i2, hn, rfl, rfl, hp⟩ D
      refine n_itr D hA (.s (.s .z)) (IsList.kp hlv D.keep) (fun v h' e D => ?_) (fun h' e s => ?_)
      · obtain ⟨n, hni, aa, uu, pv, rfl, hea, hpi⟩ := hev.get e
        have hi2 : i2 < vs.length := (List.getElem?_eq_some_iff.mp e).1
        dsimp only [List.set_cons_zero, List.set_cons_succ] at D ⊢
        refine wpAny_letOwnedTupleGo_listiter (s := ⟨h', gs, d, t, os⟩) (D.at (.s (.s .z))) ?_
        repeat' (first
  | walk_at "b W"
          | walk_at "b W2"
  | walk_at "b NC"
        | ((with_reducible refine' r_unpack D (isTup_of hea) ?hA ?q1 ?q2 (fun h' D => ?_)); (case hA => exact hA); (case q1 => rfl); (case q2 => rfl))
        | with_reducible refine w_tests1 ?_
        | fail)
        have hts : ns.take (i2 + 1) = ns.take i2 ++ [n] := by rw [List.take_add_one, hni]; rfl
        refine iteB (fun hc => ?_) (fun hc => ?_)
        · repeat' (first
  | walk_at "b W"
            | walk_at "b NC"
          | fail)
          exact ⟨c - 1, _, _, _, _, _, s_lt hn hi2, rfl, ⟨i2 + 1, s_eq hn hi2, rfl, rfl, by rw [hts, paths_snoc, if_pos (eq_of_beq hc)]; exact hp.snoc hpi⟩, D⟩
        · exact ⟨c - 1, _, _, _, _, _, s_lt hn hi2, rfl, ⟨i2 + 1, s_eq hn hi2, rfl, rfl, by rw [hts, paths_snoc, if_neg (fun z => by rw [z, beq_self_eq_true] at hc; cases hc), List.append_nil]; exact hp⟩, D⟩
      · have hi2 : vs.length ≤ i2 := List.getElem?_eq_none_iff.mp e
        obtain rfl : i2 = vs.length := s_end hn hi2
        rw [hvl, List.take_length] at hp
        exact ⟨_, h', _, t, rfl, ⟨rfl, rfl, hp⟩, (D.front (.s (.s .z))).drop s⟩
    · rintro _ h _ t lf acc C ys ⟨rfl, rfl, hp⟩ D
      refine fin_some ?_
      repeat' (first
  | walk_at "b W"
        | walk_at "b W2"
  | walk_at "b NC"
      | fail)
      refine ⟨_, _, _, _, _, rfl, D, fun h' D => ?_⟩
      obtain ⟨pr, hpr⟩ := hf mm hmm
      have hpl : (pathsOf ns mm).length ≤ 30 := by
        unfold pathsOf
        rw [List.length_map]
        exact Nat.le_trans (List.length_filter_le ..) hz
      have hpl' := hp.length
      rw [hpr] at hp
      obtain ⟨v0, vr, rfl⟩ : ∃ v0 vr, ys = v0 :: vr := by cases ys with | nil => exact hp.elim | cons v0 vr => exact ⟨v0, vr, rfl⟩
      obtain ⟨hp0, hpt⟩ := hp
      repeat' (first
  | walk_at "b W"
      | walk_at "b W2"
  | walk_at "b NC"
    | with_reducible refine wpAny_isTrue_BoolOp ?_
    | with_reducible refine wpAny_allTrue_And_cons ?_
    | with_reducible refine wpAny_allTrue_And_nil ?_
    | ((with_reducible refine' r_llen D ?hi ?qz (fun u => ?_)); (case hi => walk_at "b AT"); (case qz => simp only [List.length_cons] at *; omega))
    | ((with_reducible refine' r_append D ?hi ?qz (fun h' D => ?_)); (case hi => walk_at "b AT"); (case qz => omega); dsimp only [List.set_cons_zero, List.set_cons_succ] at D)
    | ((with_reducible refine' r_litem D ?hi ?h0 ?h1 ?hx ?_ ?hs); (case hi => walk_at "b AT"); (case h0 => decide); (case h1 => decide); (case hx => exact rfl); (case hs => with_unfolding_all rfl))
    | ((with_reducible refine' r_neNilD D ?hu ?hi ?hj ?_); (case hu => (show A.units + 3 < 9900; omega)); (case hi => walk_at "b AT"); (case hj => walk_at "b AT"))
    | with_reducible refine wpAny_Slice ?_
    | with_reducible refine wpAny_evalPart_none ?_
    | with_reducible refine wpAny_evalPart_some ?_
    | ((with_reducible refine' r_slice D ?hi ?hz (fun h' t' t D => ?_) ?hs ?ht); (case hi => walk_at "b AT"); (case hz => assumption); (case hs => with_unfolding_all rfl); (case ht => intro _; with_unfolding_all rfl))
    | with_reducible refine PyProof.Rows.eq_str ?_
    | with_reducible refine r_isnot_n ?_
    | with_reducible refine r_isnot_s ?_
    | fail)
      refine D.out (fun h₂ e3 e4 D => ?_)
      have G := G.keeps e3
      refine r_notinW (ss := [S "a", S "a.b"]) D ⟨_, Heap.PlainList.isList e4, by repeat constructor⟩ ?_
      refine wpAny_truthy_bool ?_
      have up2 : ∀ b o, h₁.get? b = some o → h₂.get? b = some o := fun b o e => e3 _ _ (up _ _ e)
      have hlb2 := IsList.kp hlb e3
      have hrs2 := hrs.up e3
      have htk : mods.take (i + 1) = mods.take i ++ [mm] := by rw [List.take_add_one, hmi]; rfl
      have hrl : rs.length ≤ 7 := by
        rw [hrs.length]
        refine Nat.le_trans (List.length_filter_le ..) ?_
        rw [List.length_take]
        exact Nat.min_le_right ..
      refine iteB (fun hw => ?_) (fun hw => ?_)
      · cases hfm : fp mm with
        | none =>
          rw [hfm] at hp0
          obtain rfl : v0 = .none := hp0
          repeat' (first
  | walk_at "b W"
      | walk_at "b W2"
  | walk_at "b NC"
    | with_reducible refine wpAny_isTrue_BoolOp ?_
    | with_reducible refine wpAny_allTrue_And_cons ?_
    | with_reducible refine wpAny_allTrue_And_nil ?_
    | ((with_reducible refine' r_llen D ?hi ?qz (fun u => ?_)); (case hi => walk_at "b AT"); (case qz => simp only [List.length_cons] at *; omega))
    | ((with_reducible refine' r_append D ?hi ?qz (fun h' D => ?_)); (case hi => walk_at "b AT"); (case qz => omega); dsimp only [List.set_cons_zero, List.set_cons_succ] at D)
    | ((with_reducible refine' r_litem D ?hi ?h0 ?h1 ?hx ?_ ?hs); (case hi => walk_at "b AT"); (case h0 => decide); (case h1 => decide); (case hx => exact rfl); (case hs => with_unfolding_all rfl))
    | ((with_reducible refine' r_neNilD D ?hu ?hi ?hj ?_); (case hu => (show A.units + 3 < 9900; omega)); (case hi => walk_at "b AT"); (case hj => walk_at "b AT"))
    | with_reducible refine wpAny_Slice ?_
    | with_reducible refine wpAny_evalPart_none ?_
    | with_reducible refine wpAny_evalPart_some ?_
    | ((with_reducible refine' r_slice D ?hi ?hz (fun h' t' t D => ?_) ?hs ?ht); (case hi => walk_at "b AT"); (case hz => assumption); (case hs => with_unfolding_all rfl); (case ht => intro _; with_unfolding_all rfl))
    | with_reducible refine PyProof.Rows.eq_str ?_
    | with_reducible refine r_isnot_n ?_
    | with_reducible refine r_isnot_s ?_
    | fail)
          exact ⟨h₂, _, _, _, rfl, ⟨up2, _, _, rs, rfl, by walk_at "b GT", by walk_at "b GT", by rw [htk, List.filter_append, List.filter_cons_of_neg (by (unfold keeps; rw [hfm, Bool.and_false]; exact Bool.false_ne_true)), List.filter_nil, List.append_nil]; exact hrs2⟩, hlb2, D.tail.tail⟩
        | some p =>
          rw [hfm] at hp0
          obtain ⟨up0, rfl⟩ : ∃ u, v0 = .str p u := hp0
          have hpz := hfl mm p hmm hfm
          repeat' (first
  | walk_at "b W"
      | walk_at "b W2"
  | walk_at "b NC"
    | with_reducible refine wpAny_isTrue_BoolOp ?_
    | with_reducible refine wpAny_allTrue_And_cons ?_
    | with_reducible refine wpAny_allTrue_And_nil ?_
    | ((with_reducible refine' r_llen D ?hi ?qz (fun u => ?_)); (case hi => walk_at "b AT"); (case qz => simp only [List.length_cons] at *; omega))
    | ((with_reducible refine' r_append D ?hi ?qz (fun h' D => ?_)); (case hi => walk_at "b AT"); (case qz => omega); dsimp only [List.set_cons_zero, List.set_cons_succ] at D)
    | ((with_reducible refine' r_litem D ?hi ?h0 ?h1 ?hx ?_ ?hs); (case hi => walk_at "b AT"); (case h0 => decide); (case h1 => decide); (case hx => exact rfl); (case hs => with_unfolding_all rfl))
    | ((with_reducible refine' r_neNilD D ?hu ?hi ?hj ?_); (case hu => (show A.units + 3 < 9900; omega)); (case hi => walk_at "b AT"); (case hj => walk_at "b AT"))
    | with_reducible refine wpAny_Slice ?_
    | with_reducible refine wpAny_evalPart_none ?_
    | with_reducible refine wpAny_evalPart_some ?_
    | ((with_reducible refine' r_slice D ?hi ?hz (fun h' t' t D => ?_) ?hs ?ht); (case hi => walk_at "b AT"); (case hz => assumption); (case hs => with_unfolding_all rfl); (case ht => intro _; with_unfolding_all rfl))
    | with_reducible refine PyProof.Rows.eq_str ?_
    | with_reducible refine r_isnot_n ?_
    | with_reducible refine r_isnot_s ?_
    | fail)
          refine iteB (fun hc => ?_) (fun hc => ?_)
          · repeat' (first
  | walk_at "b W"
      | walk_at "b W2"
  | walk_at "b NC"
    | with_reducible refine wpAny_isTrue_BoolOp ?_
    | with_reducible refine wpAny_allTrue_And_cons ?_
    | with_reducible refine wpAny_allTrue_And_nil ?_
    | ((with_reducible refine' r_llen D ?hi ?qz (fun u => ?_)); (case hi => walk_at "b AT"); (case qz => simp only [List.length_cons] at *; omega))
    | ((with_reducible refine' r_append D ?hi ?qz (fun h' D => ?_)); (case hi => walk_at "b AT"); (case qz => omega); dsimp only [List.set_cons_zero, List.set_cons_succ] at D)
    | ((with_reducible refine' r_litem D ?hi ?h0 ?h1 ?hx ?_ ?hs); (case hi => walk_at "b AT"); (case h0 => decide); (case h1 => decide); (case hx => exact rfl); (case hs => with_unfolding_all rfl))
    | ((with_reducible refine' r_neNilD D ?hu ?hi ?hj ?_); (case hu => (show A.units + 3 < 9900; omega)); (case hi => walk_at "b AT"); (case hj => walk_at "b AT"))
    | with_reducible refine wpAny_Slice ?_
    | with_reducible refine wpAny_evalPart_none ?_
    | with_reducible refine wpAny_evalPart_some ?_
    | ((with_reducible refine' r_slice D ?hi ?hz (fun h' t' t D => ?_) ?hs ?ht); (case hi => walk_at "b AT"); (case hz => assumption); (case hs => with_unfolding_all rfl); (case ht => intro _; with_unfolding_all rfl))
    | with_reducible refine PyProof.Rows.eq_str ?_
    | with_reducible refine r_isnot_n ?_
    | with_reducible refine r_isnot_s ?_
    | fail)
            refine D.out (fun h₃ e5 e6 D => ?_)
            refine ⟨h₃, _, _, _, rfl, ⟨fun b o e => e5 _ _ (up2 _ _ e), _, _, _, rfl, by walk_at "b GT", by walk_at "b GT", ?_⟩, IsList.kp hlb2 e5, D.tail.tail⟩
            rw [htk, List.filter_append, List.filter_cons_of_pos (by (unfold keeps; rw [hfm, hw, Bool.true_and]; exact hc)), List.filter_nil]
            exact .snoc (hrs2.up e5) ⟨_, _, by rw [← hpl']; exact e6⟩
          · repeat' (first
  | walk_at "b W"
      | walk_at "b W2"
  | walk_at "b NC"
    | with_reducible refine wpAny_isTrue_BoolOp ?_
    | with_reducible refine wpAny_allTrue_And_cons ?_
    | with_reducible refine wpAny_allTrue_And_nil ?_
    | ((with_reducible refine' r_llen D ?hi ?qz (fun u => ?_)); (case hi => walk_at "b AT"); (case qz => simp only [List.length_cons] at *; omega))
    | ((with_reducible refine' r_append D ?hi ?qz (fun h' D => ?_)); (case hi => walk_at "b AT"); (case qz => omega); dsimp only [List.set_cons_zero, List.set_cons_succ] at D)
    | ((with_reducible refine' r_litem D ?hi ?h0 ?h1 ?hx ?_ ?hs); (case hi => walk_at "b AT"); (case h0 => decide); (case h1 => decide); (case hx => exact rfl); (case hs => with_unfolding_all rfl))
    | ((with_reducible refine' r_neNilD D ?hu ?hi ?hj ?_); (case hu => (show A.units + 3 < 9900; omega)); (case hi => walk_at "b AT"); (case hj => walk_at "b AT"))
    | with_reducible refine wpAny_Slice ?_
    | with_reducible refine wpAny_evalPart_none ?_
    | with_reducible refine wpAny_evalPart_some ?_
    | ((with_reducible refine' r_slice D ?hi ?hz (fun h' t' t D => ?_) ?hs ?ht); (case hi => walk_at "b AT"); (case hz => assumption); (case hs => with_unfolding_all rfl); (case ht => intro _; with_unfolding_all rfl))
    | with_reducible refine PyProof.Rows.eq_str ?_
    | with_reducible refine r_isnot_n ?_
    | with_reducible refine r_isnot_s ?_
    | fail)
            exact ⟨h₂, _, _, _, rfl, ⟨up2, _, _, rs, rfl, by walk_at "b GT", by walk_at "b GT", by rw [htk, List.filter_append, List.filter_cons_of_neg (by (unfold keeps; rw [hfm, hw, Bool.true_and]; exact (by simpa using hc))), List.filter_nil, List.append_nil]; exact hrs2⟩, hlb2, D.tail.tail⟩
      · repeat' (first
  | walk_at "b W"
      | walk_at "b W2"
  | walk_at "b NC"
    | with_reducible refine wpAny_isTrue_BoolOp ?_
    | with_reducible refine wpAny_allTrue_And_cons ?_
    | with_reducible refine wpAny_allTrue_And_nil ?_
    | ((with_reducible refine' r_llen D ?hi ?qz (fun u => ?_)); (case hi => walk_at "b AT"); (case qz => simp only [List.length_cons] at *; omega))
    | ((with_reducible refine' r_append D ?hi ?qz (fun h' D => ?_)); (case hi => walk_at "b AT"); (case qz => omega); dsimp only [List.set_cons_zero, List.set_cons_succ] at D)
    | ((with_reducible refine' r_litem D ?hi ?h0 ?h1 ?hx ?_ ?hs); (case hi => walk_at "b AT"); (case h0 => decide); (case h1 => decide); (case hx => exact rfl); (case hs => with_unfolding_all rfl))
    | ((with_reducible refine' r_neNilD D ?hu ?hi ?hj ?_); (case hu => (show A.units + 3 < 9900; omega)); (case hi => walk_at "b AT"); (case hj => walk_at "b AT"))
    | with_reducible refine wpAny_Slice ?_
    | with_reducible refine wpAny_evalPart_none ?_
    | with_reducible refine wpAny_evalPart_some ?_
    | ((with_reducible refine' r_slice D ?hi ?hz (fun h' t' t D => ?_) ?hs ?ht); (case hi => walk_at "b AT"); (case hz => assumption); (case hs => with_unfolding_all rfl); (case ht => intro _; with_unfolding_all rfl))
    | with_reducible refine PyProof.Rows.eq_str ?_
    | with_reducible refine r_isnot_n ?_
    | with_reducible refine r_isnot_s ?_
    | fail)
        exact ⟨h₂, _, _, _, rfl, ⟨up2, _, _, rs, rfl, by walk_at "b GT", by walk_at "b GT", by rw [htk, List.filter_append, List.filter_cons_of_neg (by (unfold keeps; rw [hw, Bool.false_and]; exact Bool.false_ne_true)), List.filter_nil, List.append_nil]; exact hrs2⟩, hlb2, D.tail.tail⟩
  · rintro hb h _ t ⟨up, fl, cv, rs, rfl, g1, g2, hrs⟩ D
    have G := G.keeps fun b o e => up _ _ (e1 _ _ e)
    repeat' (first
  | walk_at "b W"
      | walk_at "b W2"
  | walk_at "b NC"
    | fail)
    replace hrs : RowsAre hb (fun m => ((pathsOf ns m).length : Int)) rs (mods.filter fun m => keeps m (fp m)) := hrs
    rw [hk] at hrs
    obtain ⟨as, rfl, hall⟩ := hrs.all
    obtain ⟨a0, as, rfl, r0, hall⟩ := all2_c hall
    obtain ⟨a1, as, rfl, r1, hall⟩ := all2_c hall
    obtain ⟨a2, as, rfl, r2, hall⟩ := all2_c hall
    obtain rfl := all2_n hall
    obtain ⟨u0, v0, r0⟩ := r0
    obtain ⟨u1, v1, r1⟩ := r1
    obtain ⟨u2, v2, r2⟩ := r2
    obtain ⟨o, o0, o1, o2⟩ : ∃ o : Nat → Addr, o 0 = a0 ∧ o 1 = a1 ∧ o 2 = a2 := ⟨fun i => [a0, a1, a2].getD i 0, rfl, rfl, rfl⟩
    obtain ⟨u, y0, y1, y2⟩ : ∃ o : Nat → Addr, o 0 = u0 ∧ o 1 = u1 ∧ o 2 = u2 := ⟨fun i => [u0, u1, u2].getD i 0, rfl, rfl, rfl⟩
    obtain ⟨v, z0, z1, z2⟩ : ∃ o : Nat → Addr, o 0 = v0 ∧ o 1 = v1 ∧ o 2 = v2 := ⟨fun i => [v0, v1, v2].getD i 0, rfl, rfl, rfl⟩
    subst o0 o1 o2 y0 y1 y2 z0 z1 z2
    have hrw : ∀ j, j < 3 → hb.get? (o j) = some (tupO [.int (-(pathsOf ns (m3 j)).length) (u j), .str (m3 j) (v j)]) := fun j hj => by
      have : j = 0 ∨ j = 1 ∨ j = 2 := c3 (by assumption)
      rcases this with rfl | rfl | rfl <;> assumption
    have hrow : ∀ j, j < 3 → Row hb (o j) (m3 j) (pathsOf ns (m3 j)).length := fun j hj => ⟨_, _, hrw j hj⟩
    replace D : Sl prog w hb h ((X, .lst [.ref (o 0), .ref (o 1), .ref (o 2)]) :: (L, .frm fl) :: (L + 1, .cel cv) :: fs) := D
    refine r_lc (cl := []) (by kernel_rfl) (by kernel_rfl) (by kernel_rfl) ?_ (fun _ => rfl)
    repeat' (first
  | walk_at "b W"
      | walk_at "b W2"
  | walk_at "b NC"
    | fail)
    refine r_sortedT (o := o) (m := m3) (n := fun j => (pathsOf ns (m3 j)).length) (u := u) (v := v) D (.s .z) (Heap.PlainList.isList (D.at .z)) (fun j hj => ?_) m3_ne (fun D2 h' t i j k' hp b1 b2 D => ?_)
    · exact isTup_of (hrw j hj)
    · repeat' (first
  | walk_at "b W"
        | walk_at "b W2"
  | walk_at "b NC"
      | fail)
      obtain ⟨q, q0, q1, q2⟩ : ∃ q : Nat → Nat, q 0 = i ∧ q 1 = j ∧ q 2 = k' := ⟨fun a => match a with | 0 => i | 1 => j | _ => k', rfl, rfl, rfl⟩
      subst q0 q1 q2
      refine D.out (fun h₂ e3 e4 D => ?_)
      have hq : ∀ j, j < 3 → q j < 3 := fun j hj => by
        have r4 := (p3 hp).1
        have : j = 0 ∨ j = 1 ∨ j = 2 := c3 (by assumption)
        rcases this with rfl | rfl | rfl <;> omega
      refine negrows (o := fun j => o (q j)) (m := fun j => m3 (q j)) (n := fun j => (pathsOf ns (m3 (q j))).length) D hA (Heap.PlainList.isList e4) (fun j hj => (hrow (q j) (hq j hj)).up e3) (fun acc2 h₃ h' t new e5 cs D => ?_)
      repeat' (first
  | walk_at "b W"
      | fail)
      exact k acc2 h₃ h' t q new hp b1 b2 (fun b o e => e5 _ _ (e3 _ _ (up _ _ (e1 _ _ e)))) cs (D.sub (List.Sublist.cons_cons _ ((List.sublist_cons_self ..).trans ((List.sublist_cons_self ..).trans (List.sublist_cons_self ..)))))
end
end Mine
end PDU
section PIG
namespace Mine
section
variable {prog : Program} {w : World} {A : Around} {h₀ h h' : Heap} {fs : List (Addr × Cl)} {gs : Array GenState} {d : Drawn} {t : Nat} {os : OsState} {E : Value → Shared → Prop} {R : Result → Shared → Prop} {env : Env}
theorem Sl.less {h₁ : Heap} (D : Sl prog w h₁ h fs) (up : ∀ b o, h₀.get? b = some o → h₁.get? b = some o) : Sl prog w h₀ h fs :=
  ⟨fun a o e => D.keep _ _ (up _ _ e), fun p hp => ⟨(D.ok p hp).1, by
    cases q : h₀.get? p.1 with
    | none => rfl
    | some o => have := (D.ok p hp).2; rw [up _ _ q] at this; cases this⟩, D.nd⟩
theorem r_sliceSN {value slice : Expr} {i : Nat} {L : Addr} {l : List (Str × Value)} {x : Str} {u ui : Tok} {a : Int} {Q : Value → Shared → Prop} (D : Sl prog w h₀ h fs) (hi : AtI fs i (L, .frm l)) (hz : x.length ≤ 1000) (k : ∀ h' t' t, Sl prog w h₀ h' fs → Q (.str (Txt.slice x (some a) none) t') ⟨h', gs, d, t, os⟩)
   (hs : subscripted slice false (.str x u) (.ref h.objs.size) = operate [.ref h.objs.size, .str x u] (getItem (.str x u) (.ref h.objs.size)) := by with_unfolding_all rfl) (ht : ∀ r, letTemporaryGo value (.str x u) r = pure () := by intro _; with_unfolding_all rfl) :
   wpAny (model prog w) A (subscriptTail value slice (.str x u) (.ref h.objs.size)) Q E ⟨h.push { cls := .type "slice", data := .fields #[.int a ui, .none, .none] }, gs, d, t, os⟩ :=
  slice_strN_sn (s := ⟨h, gs, d, t, os⟩) (D.fr hi) (news_others (ex := [])) (fun h' t' tk F N => k h' t' tk (D.same hi F N)) hs ht (zl (by assumption))
theorem r_sliceSS {value slice : Expr} {i : Nat} {L : Addr} {l : List (Str × Value)} {x : Str} {u ui uj : Tok} {a b : Int} {Q : Value → Shared → Prop} (D : Sl prog w h₀ h fs) (hi : AtI fs i (L, .frm l)) (hz : x.length ≤ 1000) (k : ∀ h' t' t, Sl prog w h₀ h' fs → Q (.str (Txt.slice x (some a) (some b)) t') ⟨h', gs, d, t, os⟩)
   (hs : subscripted slice false (.str x u) (.ref h.objs.size) = operate [.ref h.objs.size, .str x u] (getItem (.str x u) (.ref h.objs.size)) := by with_unfolding_all rfl) (ht : ∀ r, letTemporaryGo value (.str x u) r = pure () := by intro _; with_unfolding_all rfl) :
   wpAny (model prog w) A (subscriptTail value slice (.str x u) (.ref h.objs.size)) Q E ⟨h.push { cls := .type "slice", data := .fields #[.int a ui, .int b uj, .none] }, gs, d, t, os⟩ :=
  slice_strN_ss (s := ⟨h, gs, d, t, os⟩) (D.fr hi) (news_others (ex := [])) (fun h' t' tk F N => k h' t' tk (D.same hi F N)) hs ht (zl (by assumption))
theorem Sl.lst {a : Addr} {vs : List Value} (D : Sl prog w h₀ h ((a, .obj { cls := .type "list", data := .seq vs.toArray }) :: fs)) : Sl prog w h₀ h ((a, .lst vs) :: fs) :=
  ⟨D.keep, fun p hp => by
    rcases List.mem_cons.mp hp with rfl | hp
    · exact ⟨⟨_, (D.ok _ (.head _)).1⟩, (D.ok _ (.head _)).2⟩
    · exact D.ok p (.tail _ hp), D.nd⟩
theorem r_split {i : Nat} {L : Addr} {l : List (Str × Value)} {x y : Str} {u v : Tok} {Q : Value → Shared → Prop} (D : Sl prog w h₀ h fs) (hi : AtI fs i (L, .frm l)) (hz : x.length ≤ 1000) (hy : (y.length == 0) = false)
   (k : ∀ a zs h' t, zs.map (·.1) = Txt.split x y → Sl prog w h₀ h' ((a, .lst (strValues zs)) :: fs) → Q (.ref a) ⟨h', gs, d, t, os⟩) : wpAny (model prog w) A (call (.builtin "str.split") [.str x u, .str y v]) Q E ⟨h, gs, d, t, os⟩ :=
  splitN1 (s := ⟨h, gs, d, t, os⟩) (D.fr hi) (news_others (ex := [])) hy (fun zs h' tk e F N => k _ zs h' tk e (Sl.lst (D.back1 hi F N fun q hq => Heap.lt_size (mem_others.mp hq).2))) (by rw [sizeLine_eq]; exact Nat.le_trans (Nat.add_le_add_right hz 2) (Nat.le_of_ble_eq_true rfl))
theorem r_struth {x : Str} {u : Tok} {Q : Bool → Shared → Prop} (hz : x.length ≤ 1000) (k : Q ((x.length : Int) != 0) ⟨h, gs, d, t + 1 + 1, os⟩) : wpAny (model prog w) A (truthy (.str x u)) Q E ⟨h, gs, d, t, os⟩ := P.truthy_str (s := ⟨h, gs, d, t, os⟩) (by omega) k
theorem r_typestr {x : Str} {u : Tok} {Q : Value → Shared → Prop} {s : Shared} (k : Q (.type "str") s) : wpAny (model prog w) A (call (.type "type") [.str x u]) Q E s := call_type_of (typeIs_str _ _ _) (by decide +kernel) k
theorem r_istype {a b : String} {Q : Value → Shared → Prop} {s : Shared} (k : Q (.bool (Value.type a == Value.type b)) s) : wpAny (model prog w) A (compareOp .Is (.type a) (.type b)) Q E s := wpAny_is_plain rfl k
theorem r_tlen {a : Addr} {vs : List Value} {Q : Value → Shared → Prop} (D : Sl prog w h₀ h fs) (ht : h₀.get? a = some (tupO vs)) (hz : vs.length ≤ 1000) (k : ∀ u, Q (.int vs.length u) ⟨h, gs, d, t + 1 + 1, os⟩) : wpAny (model prog w) A (call (.builtin "len") [.ref a]) Q E ⟨h, gs, d, t, os⟩ :=
  PyProof.Rows.len_tuple (s := ⟨h, gs, d, t, os⟩) (isTup_of (D.keep _ _ ht)) (by rw [List.size_toArray]; omega) (by rw [List.size_toArray]; exact k _)
theorem r_dtruth {i : Nat} {a : Addr} {kv : List (Str × Value)} {Q : Bool → Shared → Prop} (D : Sl prog w h₀ h fs) (hi : AtI fs i (a, .dct kv)) (hs : ∃ o, h₀.get? sysModules = some o) (hz : kv.length ≤ 1000) (k : Q (!kv.isEmpty) ⟨h, gs, d, t + 1 + 1, os⟩) : wpAny (model prog w) A (truthy (.ref a)) Q E ⟨h, gs, d, t, os⟩ :=
  wpAny_truthy_dict (s := ⟨h, gs, d, t, os⟩) (by
    obtain ⟨o, e⟩ := hs
    refine beq_eq_false_iff_ne.mpr fun z => ?_
    rw [← z, (D.ok _ hi.mem).2] at e; cases e) (D.at hi : h.DictOf (strKind prog w) a kv) (by omega) k
theorem r_litemN {value slice : Expr} {i : Nat} {o : Addr} {vs : List Value} {k : Int} {u : Tok} {x : Value} {Q : Value → Shared → Prop} (D : Sl prog w h₀ h fs) (hi : AtI fs i (o, .lst vs)) (h0 : k < 0) (h1 : -(vs.length : Int) ≤ k) (hf : -(2 ^ 63) ≤ k) (hx : vs[(k + vs.length).toNat]? = some x)
    (q : Q x ⟨h, gs, d, t, os⟩) (hs : subscripted slice false (.ref o) (.int k u) = operate [.ref o, .int k u] (getItem (.ref o) (.int k u)) := by with_unfolding_all rfl) : wpAny (model prog w) A (subscriptTail value slice (.ref o) (.int k u)) Q E ⟨h, gs, d, t, os⟩ :=
  have hl : h.IsList o vs.toArray := Heap.PlainList.isList (D.at hi)
  tail_any (s := ⟨h, gs, d, t, os⟩) hl.typeIs slot_list_getitem.lookup (wpAny_getItem_list_neg hl h0 (by rw [List.size_toArray]; exact h1) hf (by rw [List.size_toArray]; simpa using hx) q) hs
theorem lst1 {vs : List Value} {x : Str} (h : StrsAre vs [x]) : ∃ u, vs = [.str x u] := by
  cases h with
  | cons _ u h => cases h; exact ⟨u, rfl⟩
theorem lst0 {vs : List Value} (h : StrsAre vs []) : vs = [] := PyProof.Rows.StrsAre.nil_inv h
theorem map_c {zs : List (Str × Tok)} {a : Str} {l : List Str} (h : zs.map (·.1) = a :: l) : ∃ u zs', zs = (a, u) :: zs' ∧ zs'.map (·.1) = l := by
  cases zs with
  | nil => cases h
  | cons p zs => injection h with e1 e2; subst e1; exact ⟨p.2, zs, rfl, e2⟩
theorem map4 {zs : List (Str × Tok)} {a b c d : Str} (h : zs.map (·.1) = [a, b, c, d]) : ∃ u0 u1 u2 u3, strValues zs = [.str a u0, .str b u1, .str c u2, .str d u3] := by
  obtain ⟨u0, z0, rfl, h0⟩ := map_c h
  obtain ⟨u1, z1, rfl, h1⟩ := map_c h0
  obtain ⟨u2, z2, rfl, h2⟩ := map_c h1
  obtain ⟨u3, z3, rfl, h3⟩ := map_c h2
  rw [List.map_eq_nil_iff.mp h3]
  exact ⟨u0, u1, u2, u3, rfl⟩
noncomputable def preN : Nat → List Str
  | 1 => [S "x"]
  | 2 => []
  | 0 => []
  | _ => [S "x"]
theorem kind {nv : Value} {p : Str} {u : Tok} (D : Sl prog w h₀ h fs) (G : Gd w.params hK h₀) (hroom : A.depth < recursionLimit)
   (k : ∀ h' u tk, Sl prog w h₀ h' fs → R (.ok (.ret (.str (S "") u))) ⟨h', gs, d, tk, os⟩) :
   codeAny (model prog w) A (.call (.ref 28) ⟨[nv, .str p u], []⟩) R ⟨h, gs, d, t, os⟩ := by
  refine r_call [(Str.ofString "name", nv), (Str.ofString "x", .str p u)] [(Str.ofString "x", .str p u), (Str.ofString "name", nv)] 2 D G (fn_28 w.params) hroom (by kernel_rfl) ⟨rfl, rfl⟩ (by kernel_rfl) (fun L h' D => ?_)
  with_unfolding_all change wpAny _ _ (execs (_ :: _) _) _ _ _
  repeat' (first
  | walk_at "b W"
    | walk_at "b W2"
    | with_reducible refine r_typestr ?_
  | with_reducible refine r_istype ?_
  | with_reducible refine wpAny_Slice ?_
  | with_reducible refine wpAny_evalPart_none ?_
  | with_reducible refine wpAny_evalPart_some ?_
  | ((with_reducible refine' r_slice D ?hi ?hz (fun h' t' t D => ?_) ?hs ?ht); (case hi => walk_at "b AT"); (case hz => decide +kernel); (case hs => with_unfolding_all rfl); (case ht => intro _; with_unfolding_all rfl))
  | ((with_reducible refine' r_sliceSN D ?hi ?hz (fun h' t' t D => ?_) ?hs ?ht); (case hi => walk_at "b AT"); (case hz => decide +kernel); (case hs => with_unfolding_all rfl); (case ht => intro _; with_unfolding_all rfl))
  | ((with_reducible refine' r_sliceSS D ?hi ?hz (fun h' t' t D => ?_) ?hs ?ht); (case hi => walk_at "b AT"); (case hz => decide +kernel); (case hs => with_unfolding_all rfl); (case ht => intro _; with_unfolding_all rfl))
  | with_reducible refine ne_str ?_
  | with_reducible refine isTrue_not ?_
  | with_reducible refine wpAny_isTrue_BoolOp ?_
  | with_reducible refine wpAny_allTrue_And_cons ?_
  | with_reducible refine wpAny_allTrue_And_nil ?_
  | ((with_reducible refine' r_ltruth D ?hi ?hz ?_); (case hi => walk_at "b AT"); (case hz => exact Nat.le_of_ble_eq_true rfl))
  | ((with_reducible refine' r_struth ?hz ?_); (case hz => decide +kernel))
  | with_reducible refine ite_pos (by decide +kernel) ?_
  | with_reducible refine ite_neg (by decide +kernel) ?_
  | with_reducible refine wpAny_allTrue_Or_cons ?_
  | with_reducible refine wpAny_allTrue_Or_nil ?_
  | ((with_reducible refine' ite_pos ?hc ?_); (case hc => rfl))
  | ((with_reducible refine' ite_neg ?hc ?_); (case hc => (intro z; cases z)))
  | fail)
  exact k _ _ _ D.tail
theorem splitroot {p : Str} {u : Tok} (hp : p = S "/x/../x/") (D : Sl prog w h₀ h fs) (G : Gd w.params hK h₀) (hroom : A.depth < recursionLimit)
   (k : ∀ h' u1 u2 u3 tp h₁ tk, (∀ b o, h₀.get? b = some o → h₁.get? b = some o) → h₁.get? tp = some (tupO [.str (S "") u1, .str (S "/") u2, .str (S "x/../x/") u3]) → Sl prog w h₁ h' fs → R (.ok (.ret (.ref tp))) ⟨h', gs, d, tk, os⟩) :
   codeAny (model prog w) A (.call (.ref 42) ⟨[.str p u], []⟩) R ⟨h, gs, d, t, os⟩ := by
  subst hp
  refine r_call [(Str.ofString "p", .str (S "/x/../x/") u)] [(Str.ofString "p", .str (S "/x/../x/") u)] 1 D G (fn_42 w.params) hroom (by kernel_rfl) ⟨rfl, rfl⟩ (by kernel_rfl) (fun L h' D => ?_)
  with_unfolding_all change wpAny _ _ (execs (_ :: _) _) _ _ _
  repeat' (first
  | walk_at "b W"
    | walk_at "b W2"
    | with_reducible refine r_typestr ?_
  | with_reducible refine r_istype ?_
  | with_reducible refine wpAny_Slice ?_
  | with_reducible refine wpAny_evalPart_none ?_
  | with_reducible refine wpAny_evalPart_some ?_
  | ((with_reducible refine' r_slice D ?hi ?hz (fun h' t' t D => ?_) ?hs ?ht); (case hi => walk_at "b AT"); (case hz => decide +kernel); (case hs => with_unfolding_all rfl); (case ht => intro _; with_unfolding_all rfl))
  | ((with_reducible refine' r_sliceSN D ?hi ?hz (fun h' t' t D => ?_) ?hs ?ht); (case hi => walk_at "b AT"); (case hz => decide +kernel); (case hs => with_unfolding_all rfl); (case ht => intro _; with_unfolding_all rfl))
  | ((with_reducible refine' r_sliceSS D ?hi ?hz (fun h' t' t D => ?_) ?hs ?ht); (case hi => walk_at "b AT"); (case hz => decide +kernel); (case hs => with_unfolding_all rfl); (case ht => intro _; with_unfolding_all rfl))
  | with_reducible refine ne_str ?_
  | with_reducible refine isTrue_not ?_
  | with_reducible refine wpAny_isTrue_BoolOp ?_
  | with_reducible refine wpAny_allTrue_And_cons ?_
  | with_reducible refine wpAny_allTrue_And_nil ?_
  | ((with_reducible refine' r_ltruth D ?hi ?hz ?_); (case hi => walk_at "b AT"); (case hz => exact Nat.le_of_ble_eq_true rfl))
  | ((with_reducible refine' r_struth ?hz ?_); (case hz => decide +kernel))
  | with_reducible refine ite_pos (by decide +kernel) ?_
  | with_reducible refine ite_neg (by decide +kernel) ?_
  | with_reducible refine wpAny_allTrue_Or_cons ?_
  | with_reducible refine wpAny_allTrue_Or_nil ?_
  | ((with_reducible refine' ite_pos ?hc ?_); (case hc => rfl))
  | ((with_reducible refine' ite_neg ?hc ?_); (case hc => (intro z; cases z)))
  | fail)
  refine D.out (fun h₁ e1 e2 D => ?_)
  rw [show Txt.slice (S "/x/../x/") (some 1) none = S "x/../x/" by decide +kernel] at e2
  exact k _ _ _ _ _ h₁ _ e1 e2 D.tail
theorem cpath {n1 n2 n3 : Value} {at_ ad : Addr} {p : Str} {u : Tok} (hp : p = S "/x/../x/") (D : Sl prog w h₀ h ((ad, .dct []) :: fs)) (G : Gd w.params hK h₀) (hroom : A.depth + 1 < recursionLimit) (hta : h₀.get? at_ = some (tupO [.str p u]))
   (k : ∀ h' tk, Sl prog w h₀ h' ((ad, .dct []) :: fs) → R (.ok (.ret (.str p u))) ⟨h', gs, d, tk, os⟩) :
   codeAny (model prog w) A (.call (.ref 35) ⟨[n1, n2, n3, .ref at_, .ref ad], []⟩) R ⟨h, gs, d, t, os⟩ := by
  subst hp
  refine r_call [(Str.ofString "name", n1), (Str.ofString "cname", n2), (Str.ofString "argname", n3), (Str.ofString "args", .ref at_), (Str.ofString "kwargs", .ref ad)] [(Str.ofString "kwargs", .ref ad), (Str.ofString "args", .ref at_), (Str.ofString "argname", n3), (Str.ofString "cname", n2), (Str.ofString "name", n1)] 5 D G (fn_35 w.params) (d00 hroom) (by kernel_rfl) ⟨rfl, rfl⟩ (by kernel_rfl) (fun L h' D => ?_)
  with_unfolding_all change wpAny _ _ (execs (_ :: _) _) _ _ _
  repeat' (first
  | walk_at "b W"
    | walk_at "b W2"
    | with_reducible refine r_typestr ?_
  | with_reducible refine r_istype ?_
  | with_reducible refine wpAny_Slice ?_
  | with_reducible refine wpAny_evalPart_none ?_
  | with_reducible refine wpAny_evalPart_some ?_
  | ((with_reducible refine' r_slice D ?hi ?hz (fun h' t' t D => ?_) ?hs ?ht); (case hi => walk_at "b AT"); (case hz => decide +kernel); (case hs => with_unfolding_all rfl); (case ht => intro _; with_unfolding_all rfl))
  | ((with_reducible refine' r_sliceSN D ?hi ?hz (fun h' t' t D => ?_) ?hs ?ht); (case hi => walk_at "b AT"); (case hz => decide +kernel); (case hs => with_unfolding_all rfl); (case ht => intro _; with_unfolding_all rfl))
  | ((with_reducible refine' r_sliceSS D ?hi ?hz (fun h' t' t D => ?_) ?hs ?ht); (case hi => walk_at "b AT"); (case hz => decide +kernel); (case hs => with_unfolding_all rfl); (case ht => intro _; with_unfolding_all rfl))
  | with_reducible refine ne_str ?_
  | with_reducible refine isTrue_not ?_
  | with_reducible refine wpAny_isTrue_BoolOp ?_
  | with_reducible refine wpAny_allTrue_And_cons ?_
  | with_reducible refine wpAny_allTrue_And_nil ?_
  | ((with_reducible refine' r_ltruth D ?hi ?hz ?_); (case hi => walk_at "b AT"); (case hz => exact Nat.le_of_ble_eq_true rfl))
  | ((with_reducible refine' r_struth ?hz ?_); (case hz => decide +kernel))
  | with_reducible refine ite_pos (by decide +kernel) ?_
  | with_reducible refine ite_neg (by decide +kernel) ?_
  | with_reducible refine wpAny_allTrue_Or_cons ?_
  | with_reducible refine wpAny_allTrue_Or_nil ?_
  | ((with_reducible refine' ite_pos ?hc ?_); (case hc => rfl))
  | ((with_reducible refine' ite_neg ?hc ?_); (case hc => (intro z; cases z)))
  | ((with_reducible refine' r_tlen D hta ?hz (fun ul => ?_)); (case hz => exact Nat.le_of_ble_eq_true rfl))
  | with_reducible refine PyProof.Rows.eq_int ?_
  | ((with_reducible refine' r_titem D ?ho ?a ?b ?c ?d ?_ ?e); (case ho => exact isTup_of hta); (case a => decide); (case b => decide); (case c => exact rfl); (case d => exact rfl); (case e => with_unfolding_all rfl))
  | ((with_reducible refine' r_dtruth D ?hi G.sm ?hz ?_); (case hi => walk_at "b AT"); (case hz => exact Nat.le_of_ble_eq_true rfl))
  | fail)
  show codeAny _ _ (.call (.ref 28) ⟨[n1, .str (S "/x/../x/") u], []⟩) _ _
  refine kind D G (by show A.depth + 1 < _; exact d0 hroom (Nat.le_of_ble_eq_true rfl)) (fun h' u t D => ?_)
  repeat' (first
  | walk_at "b W"
    | walk_at "b W2"
    | with_reducible refine r_typestr ?_
  | with_reducible refine r_istype ?_
  | with_reducible refine wpAny_Slice ?_
  | with_reducible refine wpAny_evalPart_none ?_
  | with_reducible refine wpAny_evalPart_some ?_
  | ((with_reducible refine' r_slice D ?hi ?hz (fun h' t' t D => ?_) ?hs ?ht); (case hi => walk_at "b AT"); (case hz => decide +kernel); (case hs => with_unfolding_all rfl); (case ht => intro _; with_unfolding_all rfl))
  | ((with_reducible refine' r_sliceSN D ?hi ?hz (fun h' t' t D => ?_) ?hs ?ht); (case hi => walk_at "b AT"); (case hz => decide +kernel); (case hs => with_unfolding_all rfl); (case ht => intro _; with_unfolding_all rfl))
  | ((with_reducible refine' r_sliceSS D ?hi ?hz (fun h' t' t D => ?_) ?hs ?ht); (case hi => walk_at "b AT"); (case hz => decide +kernel); (case hs => with_unfolding_all rfl); (case ht => intro _; with_unfolding_all rfl))
  | with_reducible refine ne_str ?_
  | with_reducible refine isTrue_not ?_
  | with_reducible refine wpAny_isTrue_BoolOp ?_
  | with_reducible refine wpAny_allTrue_And_cons ?_
  | with_reducible refine wpAny_allTrue_And_nil ?_
  | ((with_reducible refine' r_ltruth D ?hi ?hz ?_); (case hi => walk_at "b AT"); (case hz => exact Nat.le_of_ble_eq_true rfl))
  | ((with_reducible refine' r_struth ?hz ?_); (case hz => decide +kernel))
  | with_reducible refine ite_pos (by decide +kernel) ?_
  | with_reducible refine ite_neg (by decide +kernel) ?_
  | with_reducible refine wpAny_allTrue_Or_cons ?_
  | with_reducible refine wpAny_allTrue_Or_nil ?_
  | ((with_reducible refine' ite_pos ?hc ?_); (case hc => rfl))
  | ((with_reducible refine' ite_neg ?hc ?_); (case hc => (intro z; cases z)))
  | fail)
  exact k _ _ D.tail
theorem normp {p : Str} {u : Tok} (hp : p = S "/x/../x/") (D : Sl prog w h₀ h fs) (G : Gd w.params hK h₀) (hroom : A.depth + 1 < recursionLimit) (hA : A.handled = none)
   (k : ∀ h' u tk, Sl prog w h₀ h' fs → R (.ok (.ret (.str (S "/x") u))) ⟨h', gs, d, tk, os⟩) :
   codeAny (model prog w) A (.call (.ref 49) ⟨[.str p u], []⟩) R ⟨h, gs, d, t, os⟩ := by
  subst hp
  refine r_call [(Str.ofString "path", .str (S "/x/../x/") u)] [(Str.ofString "path", .str (S "/x/../x/") u)] 1 D G (fn_49 w.params) (d00 hroom) (by kernel_rfl) ⟨rfl, rfl⟩ (by kernel_rfl) (fun L h' D => ?_)
  with_unfolding_all change wpAny _ _ (execs (_ :: _) _) _ _ _
  repeat' (first
  | walk_at "b W"
    | walk_at "b W2"
    | with_reducible refine r_typestr ?_
  | with_reducible refine r_istype ?_
  | with_reducible refine wpAny_Slice ?_
  | with_reducible refine wpAny_evalPart_none ?_
  | with_reducible refine wpAny_evalPart_some ?_
  | ((with_reducible refine' r_slice D ?hi ?hz (fun h' t' t D => ?_) ?hs ?ht); (case hi => walk_at "b AT"); (case hz => decide +kernel); (case hs => with_unfolding_all rfl); (case ht => intro _; with_unfolding_all rfl))
  | ((with_reducible refine' r_sliceSN D ?hi ?hz (fun h' t' t D => ?_) ?hs ?ht); (case hi => walk_at "b AT"); (case hz => decide +kernel); (case hs => with_unfolding_all rfl); (case ht => intro _; with_unfolding_all rfl))
  | ((with_reducible refine' r_sliceSS D ?hi ?hz (fun h' t' t D => ?_) ?hs ?ht); (case hi => walk_at "b AT"); (case hz => decide +kernel); (case hs => with_unfolding_all rfl); (case ht => intro _; with_unfolding_all rfl))
  | with_reducible refine ne_str ?_
  | with_reducible refine isTrue_not ?_
  | with_reducible refine wpAny_isTrue_BoolOp ?_
  | with_reducible refine wpAny_allTrue_And_cons ?_
  | with_reducible refine wpAny_allTrue_And_nil ?_
  | ((with_reducible refine' r_ltruth D ?hi ?hz ?_); (case hi => walk_at "b AT"); (case hz => exact Nat.le_of_ble_eq_true rfl))
  | ((with_reducible refine' r_struth ?hz ?_); (case hz => decide +kernel))
  | with_reducible refine ite_pos (by decide +kernel) ?_
  | with_reducible refine ite_neg (by decide +kernel) ?_
  | with_reducible refine wpAny_allTrue_Or_cons ?_
  | with_reducible refine wpAny_allTrue_Or_nil ?_
  | ((with_reducible refine' ite_pos ?hc ?_); (case hc => rfl))
  | ((with_reducible refine' ite_neg ?hc ?_); (case hc => (intro z; cases z)))
  | fail)
  refine splitroot rfl D G (by show A.depth + 1 < _; exact d0 hroom (Nat.le_of_ble_eq_true rfl)) (fun h' u1 u2 u3 tp h₁ t e1 htp D => ?_)
  have G := G.keeps e1
  repeat' (first
  | walk_at "b W"
    | walk_at "b W2"
    | with_reducible refine r_typestr ?_
  | with_reducible refine r_istype ?_
  | with_reducible refine wpAny_Slice ?_
  | with_reducible refine wpAny_evalPart_none ?_
  | with_reducible refine wpAny_evalPart_some ?_
  | ((with_reducible refine' r_slice D ?hi ?hz (fun h' t' t D => ?_) ?hs ?ht); (case hi => walk_at "b AT"); (case hz => decide +kernel); (case hs => with_unfolding_all rfl); (case ht => intro _; with_unfolding_all rfl))
  | ((with_reducible refine' r_sliceSN D ?hi ?hz (fun h' t' t D => ?_) ?hs ?ht); (case hi => walk_at "b AT"); (case hz => decide +kernel); (case hs => with_unfolding_all rfl); (case ht => intro _; with_unfolding_all rfl))
  | ((with_reducible refine' r_sliceSS D ?hi ?hz (fun h' t' t D => ?_) ?hs ?ht); (case hi => walk_at "b AT"); (case hz => decide +kernel); (case hs => with_unfolding_all rfl); (case ht => intro _; with_unfolding_all rfl))
  | with_reducible refine ne_str ?_
  | with_reducible refine isTrue_not ?_
  | with_reducible refine wpAny_isTrue_BoolOp ?_
  | with_reducible refine wpAny_allTrue_And_cons ?_
  | with_reducible refine wpAny_allTrue_And_nil ?_
  | ((with_reducible refine' r_ltruth D ?hi ?hz ?_); (case hi => walk_at "b AT"); (case hz => exact Nat.le_of_ble_eq_true rfl))
  | ((with_reducible refine' r_struth ?hz ?_); (case hz => decide +kernel))
  | with_reducible refine ite_pos (by decide +kernel) ?_
  | with_reducible refine ite_neg (by decide +kernel) ?_
  | with_reducible refine wpAny_allTrue_Or_cons ?_
  | with_reducible refine wpAny_allTrue_Or_nil ?_
  | ((with_reducible refine' ite_pos ?hc ?_); (case hc => rfl))
  | ((with_reducible refine' ite_neg ?hc ?_); (case hc => (intro z; cases z)))
  | ((with_reducible refine' r_unpack D (isTup_of htp) ?hA ?q1 ?q2 (fun h' D => ?_)); (case hA => exact hA); (case q1 => rfl); (case q2 => rfl))
  | with_reducible refine GM.split ?_
  | ((with_reducible refine' r_split D ?hi ?hz ?hy (fun a zs h' t ez D => ?_)); (case hi => walk_at "b AT"); (case hz => decide +kernel); (case hy => decide +kernel))
  | fail)
  obtain ⟨v0, v1, v2, v3, ev⟩ := map4 (ez.trans (show Txt.split (S "x/../x/") (S "/") = [S "x", S "..", S "x", S ""] by decide +kernel))
  rw [ev] at D
  rename_i cm _ _
  obtain ⟨X, hX⟩ : ∃ X, X = a := ⟨_, rfl⟩
  subst hX
  refine (D.front (.s .z)).out (fun h₂ e3 e4 D => ?_)
  dsimp only [List.eraseIdx_cons_succ, List.eraseIdx_cons_zero] at D
  have G := G.keeps e3
  refine r_for (fun i hb fs' => hb = h₂ ∧ ∃ fl vs, fs' = (X, .lst vs) :: (L, .frm fl) :: fs ∧ GetI fl (S "new_comps") (.ref X) ∧ (∃ u, GetI fl (S "initial_slashes") (.str (S "/") u)) ∧ (∃ u, GetI fl (S "dot") (.str (S ".") u)) ∧ (∃ u, GetI fl (S "dotdot") (.str (S "..") u)) ∧ (∃ u, GetI fl (S "sep") (.str (S "/") u)) ∧ StrsAre vs (preN i)) D hA (Heap.PlainList.isList e4) (fun _ _ => rfl) ⟨rfl, _, _, rfl, by walk_at "b GT", ⟨_, by walk_at "b GT"⟩, ⟨_, by walk_at "b GT"⟩, ⟨_, by walk_at "b GT"⟩, ⟨_, by walk_at "b GT"⟩, .nil⟩ ?_ ?_
  · rintro En i v I hb h _ t hvi ⟨rfl, fl, vs, rfl, g1, ⟨_, g2⟩, ⟨_, g3⟩, ⟨_, g4⟩, ⟨_, g5⟩, hvs⟩ hlb D
    have : i = 0 ∨ i = 1 ∨ i = 2 ∨ i = 3 := by
      have := (List.getElem?_eq_some_iff.mp hvi).1
      simp only [List.length_cons, List.length_nil] at this
      omega
    rcases this with rfl | rfl | rfl | rfl
    · obtain rfl : Value.str (S "x") v0 = v := Option.some.inj hvi
      obtain rfl := lst0 hvs
      repeat' (first
  | walk_at "b W"
        | walk_at "b W2"
        | with_reducible refine r_typestr ?_
  | with_reducible refine r_istype ?_
  | with_reducible refine wpAny_Slice ?_
  | with_reducible refine wpAny_evalPart_none ?_
  | with_reducible refine wpAny_evalPart_some ?_
  | ((with_reducible refine' r_slice D ?hi ?hz (fun h' t' t D => ?_) ?hs ?ht); (case hi => walk_at "b AT"); (case hz => decide +kernel); (case hs => with_unfolding_all rfl); (case ht => intro _; with_unfolding_all rfl))
  | ((with_reducible refine' r_sliceSN D ?hi ?hz (fun h' t' t D => ?_) ?hs ?ht); (case hi => walk_at "b AT"); (case hz => decide +kernel); (case hs => with_unfolding_all rfl); (case ht => intro _; with_unfolding_all rfl))
  | ((with_reducible refine' r_sliceSS D ?hi ?hz (fun h' t' t D => ?_) ?hs ?ht); (case hi => walk_at "b AT"); (case hz => decide +kernel); (case hs => with_unfolding_all rfl); (case ht => intro _; with_unfolding_all rfl))
  | with_reducible refine ne_str ?_
  | with_reducible refine isTrue_not ?_
  | with_reducible refine wpAny_isTrue_BoolOp ?_
  | with_reducible refine wpAny_allTrue_And_cons ?_
  | with_reducible refine wpAny_allTrue_And_nil ?_
  | ((with_reducible refine' r_ltruth D ?hi ?hz ?_); (case hi => walk_at "b AT"); (case hz => exact Nat.le_of_ble_eq_true rfl))
  | ((with_reducible refine' r_struth ?hz ?_); (case hz => decide +kernel))
  | with_reducible refine ite_pos (by decide +kernel) ?_
  | with_reducible refine ite_neg (by decide +kernel) ?_
  | with_reducible refine wpAny_allTrue_Or_cons ?_
  | with_reducible refine wpAny_allTrue_Or_nil ?_
  | ((with_reducible refine' ite_pos ?hc ?_); (case hc => rfl))
  | ((with_reducible refine' ite_neg ?hc ?_); (case hc => (intro z; cases z)))
      | ((with_reducible refine' r_litemN D ?hi ?h0 ?h1 ?h2 ?hx ?_ ?hs); (case hi => walk_at "b AT"); (case h0 => decide); (case h1 => (simp only [List.length_cons, List.length_nil]; decide)); (case h2 => decide); (case hx => exact rfl); (case hs => with_unfolding_all rfl))
      | ((with_reducible refine' r_append D ?hi ?qz (fun h' D => ?_)); (case hi => walk_at "b AT"); (case qz => exact Nat.le_of_ble_eq_true rfl); dsimp only [List.set_cons_zero, List.set_cons_succ] at D)
      | ((with_reducible refine' r_mpop D ?hi ?_); (case hi => walk_at "b AT"))
      | with_reducible refine r_cw0 ?_
      | ((with_reducible refine' r_lpop D ?hi ?hj ?hij ?hz ?e (fun h' D => ?_)); (case hi => walk_at "b AT"); (case hj => walk_at "b AT"); (case hij => decide); (case hz => exact Nat.le_of_ble_eq_true rfl); (case e => exact rfl); dsimp only [List.set_cons_zero, List.set_cons_succ] at D)
      | with_reducible refine wpAny_Continue ?_
      | ((with_reducible refine' PyProof.Rows.join_list ?hl ?hs ?hk (fun t' t => ?_)); (case hl => exact Heap.PlainList.isList (D.at .z)); (case hs => (simpa using hvs)); (case hk => decide +kernel))
      | ((with_reducible refine r_sadd ?hq (fun t' t => ?_)); (case hq => decide +kernel))
      | with_reducible refine BoolOp_or ?_
      | with_reducible refine BoolOp_one ?_
      | fail)
      exact ⟨hb, h', _, _, rfl, ⟨rfl, _, _, rfl, .s (by kernel_rfl) g1, ⟨_, .s (by kernel_rfl) g2⟩, ⟨_, .s (by kernel_rfl) g3⟩, ⟨_, .s (by kernel_rfl) g4⟩, ⟨_, .s (by kernel_rfl) g5⟩, .cons _ _ .nil⟩, hlb, D⟩
    · obtain rfl : Value.str (S "..") v1 = v := Option.some.inj hvi
      obtain ⟨y, rfl⟩ := lst1 hvs
      repeat' (first
  | walk_at "b W"
        | walk_at "b W2"
        | with_reducible refine r_typestr ?_
  | with_reducible refine r_istype ?_
  | with_reducible refine wpAny_Slice ?_
  | with_reducible refine wpAny_evalPart_none ?_
  | with_reducible refine wpAny_evalPart_some ?_
  | ((with_reducible refine' r_slice D ?hi ?hz (fun h' t' t D => ?_) ?hs ?ht); (case hi => walk_at "b AT"); (case hz => decide +kernel); (case hs => with_unfolding_all rfl); (case ht => intro _; with_unfolding_all rfl))
  | ((with_reducible refine' r_sliceSN D ?hi ?hz (fun h' t' t D => ?_) ?hs ?ht); (case hi => walk_at "b AT"); (case hz => decide +kernel); (case hs => with_unfolding_all rfl); (case ht => intro _; with_unfolding_all rfl))
  | ((with_reducible refine' r_sliceSS D ?hi ?hz (fun h' t' t D => ?_) ?hs ?ht); (case hi => walk_at "b AT"); (case hz => decide +kernel); (case hs => with_unfolding_all rfl); (case ht => intro _; with_unfolding_all rfl))
  | with_reducible refine ne_str ?_
  | with_reducible refine isTrue_not ?_
  | with_reducible refine wpAny_isTrue_BoolOp ?_
  | with_reducible refine wpAny_allTrue_And_cons ?_
  | with_reducible refine wpAny_allTrue_And_nil ?_
  | ((with_reducible refine' r_ltruth D ?hi ?hz ?_); (case hi => walk_at "b AT"); (case hz => exact Nat.le_of_ble_eq_true rfl))
  | ((with_reducible refine' r_struth ?hz ?_); (case hz => decide +kernel))
  | with_reducible refine ite_pos (by decide +kernel) ?_
  | with_reducible refine ite_neg (by decide +kernel) ?_
  | with_reducible refine wpAny_allTrue_Or_cons ?_
  | with_reducible refine wpAny_allTrue_Or_nil ?_
  | ((with_reducible refine' ite_pos ?hc ?_); (case hc => rfl))
  | ((with_reducible refine' ite_neg ?hc ?_); (case hc => (intro z; cases z)))
      | ((with_reducible refine' r_litemN D ?hi ?h0 ?h1 ?h2 ?hx ?_ ?hs); (case hi => walk_at "b AT"); (case h0 => decide); (case h1 => (simp only [List.length_cons, List.length_nil]; decide)); (case h2 => decide); (case hx => exact rfl); (case hs => with_unfolding_all rfl))
      | ((with_reducible refine' r_append D ?hi ?qz (fun h' D => ?_)); (case hi => walk_at "b AT"); (case qz => exact Nat.le_of_ble_eq_true rfl); dsimp only [List.set_cons_zero, List.set_cons_succ] at D)
      | ((with_reducible refine' r_mpop D ?hi ?_); (case hi => walk_at "b AT"))
      | with_reducible refine r_cw0 ?_
      | ((with_reducible refine' r_lpop D ?hi ?hj ?hij ?hz ?e (fun h' D => ?_)); (case hi => walk_at "b AT"); (case hj => walk_at "b AT"); (case hij => decide); (case hz => exact Nat.le_of_ble_eq_true rfl); (case e => exact rfl); dsimp only [List.set_cons_zero, List.set_cons_succ] at D)
      | with_reducible refine wpAny_Continue ?_
      | ((with_reducible refine' PyProof.Rows.join_list ?hl ?hs ?hk (fun t' t => ?_)); (case hl => exact Heap.PlainList.isList (D.at .z)); (case hs => (simpa using hvs)); (case hk => decide +kernel))
      | ((with_reducible refine r_sadd ?hq (fun t' t => ?_)); (case hq => decide +kernel))
      | with_reducible refine BoolOp_or ?_
      | with_reducible refine BoolOp_one ?_
      | fail)
      exact ⟨hb, h', _, _, rfl, ⟨rfl, _, _, rfl, .s (by kernel_rfl) g1, ⟨_, .s (by kernel_rfl) g2⟩, ⟨_, .s (by kernel_rfl) g3⟩, ⟨_, .s (by kernel_rfl) g4⟩, ⟨_, .s (by kernel_rfl) g5⟩, .nil⟩, hlb, D⟩
    · obtain rfl : Value.str (S "x") v2 = v := Option.some.inj hvi
      obtain rfl := lst0 hvs
      repeat' (first
  | walk_at "b W"
        | walk_at "b W2"
        | with_reducible refine r_typestr ?_
  | with_reducible refine r_istype ?_
  | with_reducible refine wpAny_Slice ?_
  | with_reducible refine wpAny_evalPart_none ?_
  | with_reducible refine wpAny_evalPart_some ?_
  | ((with_reducible refine' r_slice D ?hi ?hz (fun h' t' t D => ?_) ?hs ?ht); (case hi => walk_at "b AT"); (case hz => decide +kernel); (case hs => with_unfolding_all rfl); (case ht => intro _; with_unfolding_all rfl))
  | ((with_reducible refine' r_sliceSN D ?hi ?hz (fun h' t' t D => ?_) ?hs ?ht); (case hi => walk_at "b AT"); (case hz => decide +kernel); (case hs => with_unfolding_all rfl); (case ht => intro _; with_unfolding_all rfl))
  | ((with_reducible refine' r_sliceSS D ?hi ?hz (fun h' t' t D => ?_) ?hs ?ht); (case hi => walk_at "b AT"); (case hz => decide +kernel); (case hs => with_unfolding_all rfl); (case ht => intro _; with_unfolding_all rfl))
  | with_reducible refine ne_str ?_
  | with_reducible refine isTrue_not ?_
  | with_reducible refine wpAny_isTrue_BoolOp ?_
  | with_reducible refine wpAny_allTrue_And_cons ?_
  | with_reducible refine wpAny_allTrue_And_nil ?_
  | ((with_reducible refine' r_ltruth D ?hi ?hz ?_); (case hi => walk_at "b AT"); (case hz => exact Nat.le_of_ble_eq_true rfl))
  | ((with_reducible refine' r_struth ?hz ?_); (case hz => decide +kernel))
  | with_reducible refine ite_pos (by decide +kernel) ?_
  | with_reducible refine ite_neg (by decide +kernel) ?_
  | with_reducible refine wpAny_allTrue_Or_cons ?_
  | with_reducible refine wpAny_allTrue_Or_nil ?_
  | ((with_reducible refine' ite_pos ?hc ?_); (case hc => rfl))
  | ((with_reducible refine' ite_neg ?hc ?_); (case hc => (intro z; cases z)))
      | ((with_reducible refine' r_litemN D ?hi ?h0 ?h1 ?h2 ?hx ?_ ?hs); (case hi => walk_at "b AT"); (case h0 => decide); (case h1 => (simp only [List.length_cons, List.length_nil]; decide)); (case h2 => decide); (case hx => exact rfl); (case hs => with_unfolding_all rfl))
      | ((with_reducible refine' r_append D ?hi ?qz (fun h' D => ?_)); (case hi => walk_at "b AT"); (case qz => exact Nat.le_of_ble_eq_true rfl); dsimp only [List.set_cons_zero, List.set_cons_succ] at D)
      | ((with_reducible refine' r_mpop D ?hi ?_); (case hi => walk_at "b AT"))
      | with_reducible refine r_cw0 ?_
      | ((with_reducible refine' r_lpop D ?hi ?hj ?hij ?hz ?e (fun h' D => ?_)); (case hi => walk_at "b AT"); (case hj => walk_at "b AT"); (case hij => decide); (case hz => exact Nat.le_of_ble_eq_true rfl); (case e => exact rfl); dsimp only [List.set_cons_zero, List.set_cons_succ] at D)
      | with_reducible refine wpAny_Continue ?_
      | ((with_reducible refine' PyProof.Rows.join_list ?hl ?hs ?hk (fun t' t => ?_)); (case hl => exact Heap.PlainList.isList (D.at .z)); (case hs => (simpa using hvs)); (case hk => decide +kernel))
      | ((with_reducible refine r_sadd ?hq (fun t' t => ?_)); (case hq => decide +kernel))
      | with_reducible refine BoolOp_or ?_
      | with_reducible refine BoolOp_one ?_
      | fail)
      exact ⟨hb, h', _, _, rfl, ⟨rfl, _, _, rfl, .s (by kernel_rfl) g1, ⟨_, .s (by kernel_rfl) g2⟩, ⟨_, .s (by kernel_rfl) g3⟩, ⟨_, .s (by kernel_rfl) g4⟩, ⟨_, .s (by kernel_rfl) g5⟩, .cons _ _ .nil⟩, hlb, D⟩
    · obtain rfl : Value.str (S "") v3 = v := Option.some.inj hvi
      repeat' (first
  | walk_at "b W"
        | walk_at "b W2"
        | with_reducible refine r_typestr ?_
  | with_reducible refine r_istype ?_
  | with_reducible refine wpAny_Slice ?_
  | with_reducible refine wpAny_evalPart_none ?_
  | with_reducible refine wpAny_evalPart_some ?_
  | ((with_reducible refine' r_slice D ?hi ?hz (fun h' t' t D => ?_) ?hs ?ht); (case hi => walk_at "b AT"); (case hz => decide +kernel); (case hs => with_unfolding_all rfl); (case ht => intro _; with_unfolding_all rfl))
  | ((with_reducible refine' r_sliceSN D ?hi ?hz (fun h' t' t D => ?_) ?hs ?ht); (case hi => walk_at "b AT"); (case hz => decide +kernel); (case hs => with_unfolding_all rfl); (case ht => intro _; with_unfolding_all rfl))
  | ((with_reducible refine' r_sliceSS D ?hi ?hz (fun h' t' t D => ?_) ?hs ?ht); (case hi => walk_at "b AT"); (case hz => decide +kernel); (case hs => with_unfolding_all rfl); (case ht => intro _; with_unfolding_all rfl))
  | with_reducible refine ne_str ?_
  | with_reducible refine isTrue_not ?_
  | with_reducible refine wpAny_isTrue_BoolOp ?_
  | with_reducible refine wpAny_allTrue_And_cons ?_
  | with_reducible refine wpAny_allTrue_And_nil ?_
  | ((with_reducible refine' r_ltruth D ?hi ?hz ?_); (case hi => walk_at "b AT"); (case hz => exact Nat.le_of_ble_eq_true rfl))
  | ((with_reducible refine' r_struth ?hz ?_); (case hz => decide +kernel))
  | with_reducible refine ite_pos (by decide +kernel) ?_
  | with_reducible refine ite_neg (by decide +kernel) ?_
  | with_reducible refine wpAny_allTrue_Or_cons ?_
  | with_reducible refine wpAny_allTrue_Or_nil ?_
  | ((with_reducible refine' ite_pos ?hc ?_); (case hc => rfl))
  | ((with_reducible refine' ite_neg ?hc ?_); (case hc => (intro z; cases z)))
      | ((with_reducible refine' r_litemN D ?hi ?h0 ?h1 ?h2 ?hx ?_ ?hs); (case hi => walk_at "b AT"); (case h0 => decide); (case h1 => (simp only [List.length_cons, List.length_nil]; decide)); (case h2 => decide); (case hx => exact rfl); (case hs => with_unfolding_all rfl))
      | ((with_reducible refine' r_append D ?hi ?qz (fun h' D => ?_)); (case hi => walk_at "b AT"); (case qz => exact Nat.le_of_ble_eq_true rfl); dsimp only [List.set_cons_zero, List.set_cons_succ] at D)
      | ((with_reducible refine' r_mpop D ?hi ?_); (case hi => walk_at "b AT"))
      | with_reducible refine r_cw0 ?_
      | ((with_reducible refine' r_lpop D ?hi ?hj ?hij ?hz ?e (fun h' D => ?_)); (case hi => walk_at "b AT"); (case hj => walk_at "b AT"); (case hij => decide); (case hz => exact Nat.le_of_ble_eq_true rfl); (case e => exact rfl); dsimp only [List.set_cons_zero, List.set_cons_succ] at D)
      | with_reducible refine wpAny_Continue ?_
      | ((with_reducible refine' PyProof.Rows.join_list ?hl ?hs ?hk (fun t' t => ?_)); (case hl => exact Heap.PlainList.isList (D.at .z)); (case hs => (simpa using hvs)); (case hk => decide +kernel))
      | ((with_reducible refine r_sadd ?hq (fun t' t => ?_)); (case hq => decide +kernel))
      | with_reducible refine BoolOp_or ?_
      | with_reducible refine BoolOp_one ?_
      | fail)
      exact ⟨hb, h', _, _, rfl, ⟨rfl, _, _, rfl, .s (by kernel_rfl) g1, ⟨_, .s (by kernel_rfl) g2⟩, ⟨_, .s (by kernel_rfl) g3⟩, ⟨_, .s (by kernel_rfl) g4⟩, ⟨_, .s (by kernel_rfl) g5⟩, hvs⟩, hlb, D⟩
  · rintro hb h _ t ⟨rfl, fl, vs, rfl, g1, ⟨_, g2⟩, ⟨_, g3⟩, ⟨_, g4⟩, ⟨_, g5⟩, hvs⟩ D
    replace hvs : StrsAre vs [S "x"] := hvs
    repeat' (first
  | walk_at "b W"
        | walk_at "b W2"
        | with_reducible refine r_typestr ?_
  | with_reducible refine r_istype ?_
  | with_reducible refine wpAny_Slice ?_
  | with_reducible refine wpAny_evalPart_none ?_
  | with_reducible refine wpAny_evalPart_some ?_
  | ((with_reducible refine' r_slice D ?hi ?hz (fun h' t' t D => ?_) ?hs ?ht); (case hi => walk_at "b AT"); (case hz => decide +kernel); (case hs => with_unfolding_all rfl); (case ht => intro _; with_unfolding_all rfl))
  | ((with_reducible refine' r_sliceSN D ?hi ?hz (fun h' t' t D => ?_) ?hs ?ht); (case hi => walk_at "b AT"); (case hz => decide +kernel); (case hs => with_unfolding_all rfl); (case ht => intro _; with_unfolding_all rfl))
  | ((with_reducible refine' r_sliceSS D ?hi ?hz (fun h' t' t D => ?_) ?hs ?ht); (case hi => walk_at "b AT"); (case hz => decide +kernel); (case hs => with_unfolding_all rfl); (case ht => intro _; with_unfolding_all rfl))
  | with_reducible refine ne_str ?_
  | with_reducible refine isTrue_not ?_
  | with_reducible refine wpAny_isTrue_BoolOp ?_
  | with_reducible refine wpAny_allTrue_And_cons ?_
  | with_reducible refine wpAny_allTrue_And_nil ?_
  | ((with_reducible refine' r_ltruth D ?hi ?hz ?_); (case hi => walk_at "b AT"); (case hz => exact Nat.le_of_ble_eq_true rfl))
  | ((with_reducible refine' r_struth ?hz ?_); (case hz => decide +kernel))
  | with_reducible refine ite_pos (by decide +kernel) ?_
  | with_reducible refine ite_neg (by decide +kernel) ?_
  | with_reducible refine wpAny_allTrue_Or_cons ?_
  | with_reducible refine wpAny_allTrue_Or_nil ?_
  | ((with_reducible refine' ite_pos ?hc ?_); (case hc => rfl))
  | ((with_reducible refine' ite_neg ?hc ?_); (case hc => (intro z; cases z)))
      | ((with_reducible refine' r_litemN D ?hi ?h0 ?h1 ?h2 ?hx ?_ ?hs); (case hi => walk_at "b AT"); (case h0 => decide); (case h1 => (simp only [List.length_cons, List.length_nil]; decide)); (case h2 => decide); (case hx => exact rfl); (case hs => with_unfolding_all rfl))
      | ((with_reducible refine' r_append D ?hi ?qz (fun h' D => ?_)); (case hi => walk_at "b AT"); (case qz => exact Nat.le_of_ble_eq_true rfl); dsimp only [List.set_cons_zero, List.set_cons_succ] at D)
      | ((with_reducible refine' r_mpop D ?hi ?_); (case hi => walk_at "b AT"))
      | with_reducible refine r_cw0 ?_
      | ((with_reducible refine' r_lpop D ?hi ?hj ?hij ?hz ?e (fun h' D => ?_)); (case hi => walk_at "b AT"); (case hj => walk_at "b AT"); (case hij => decide); (case hz => exact Nat.le_of_ble_eq_true rfl); (case e => exact rfl); dsimp only [List.set_cons_zero, List.set_cons_succ] at D)
      | with_reducible refine wpAny_Continue ?_
      | ((with_reducible refine' PyProof.Rows.join_list ?hl ?hs ?hk (fun t' t => ?_)); (case hl => exact Heap.PlainList.isList (D.at .z)); (case hs => (simpa using hvs)); (case hk => decide +kernel))
      | ((with_reducible refine r_sadd ?hq (fun t' t => ?_)); (case hq => decide +kernel))
      | with_reducible refine BoolOp_or ?_
      | with_reducible refine BoolOp_one ?_
      | fail)
    rw [show S "/" ++ Txt.join (S "/") [S "x"] = S "/x" by decide +kernel]
    exact k _ _ _ (D.tail.tail.less fun b o e => e3 _ _ (e1 _ _ e))
end
end Mine
end PIG
section PLD
open PySem PySem.W PyProof.Rows PySem.Spec PySem.Calls PySem.W.X
namespace Mine
structure Ld (h₀ h : Heap) (chg news : List (Addr × Obj)) : Prop where
  keep : ∀ b o, h₀.get? b = some o → (hasCls o || away chg b) = true → h.get? b = some o
  ch : ∀ p ∈ chg, h.get? p.1 = some p.2 ∧ ∃ o, h₀.get? p.1 = some o ∧ hasCls o = false
  nw : ∀ p ∈ news, h.get? p.1 = some p.2 ∧ h₀.get? p.1 = none
  nd : (news.map (·.1)).Nodup
variable {h₀ h : Heap} {chg news : List (Addr × Obj)}
theorem Ld.start (h : Heap) : Ld h h [] [] := ⟨fun _ _ e _ => e, fun _ hp => (nomatch hp), fun _ hp => (nomatch hp), List.nodup_nil⟩
theorem near {l : List (Addr × Obj)} {b : Addr} (n : ¬ away l b = true) : ∃ p ∈ l, p.1 = b :=
  Classical.byContradiction fun z => n (List.all_eq_true.mpr fun p hp => Bool.not_eq_true' _ |>.mpr (Bool.eq_false_iff.mpr fun w => z ⟨p, hp, Nat.eq_of_beq_eq_true w⟩))
theorem Ld.there (D : Ld h₀ h chg news) {b : Addr} {o : Obj} (e : h₀.get? b = some o) : ∃ o', h.get? b = some o' := by
  by_cases n : away chg b = true
  · exact ⟨o, D.keep b o e (by rw [n, Bool.or_true])⟩
  · obtain ⟨p, hp, rfl⟩ := near n
    exact ⟨p.2, (D.ch p hp).1⟩
theorem Ld.at (D : Ld h₀ h chg news) (i : Nat) {a : Addr} {o : Obj} (hi : news[i]? = some (a, o)) : h.get? a = some o := (D.nw _ (List.mem_of_getElem? hi)).1
theorem Ld.atC (D : Ld h₀ h chg news) (i : Nat) {a : Addr} {o : Obj} (hi : chg[i]? = some (a, o)) : h.get? a = some o := (D.ch _ (List.mem_of_getElem? hi)).1
theorem Ld.ne_old (D : Ld h₀ h chg news) (i : Nat) {a : Addr} {o : Obj} (hi : news[i]? = some (a, o)) {b : Addr} {ob : Obj} (e : h₀.get? b = some ob) : a ≠ b := by
  intro z; subst z
  have q := (D.nw _ (List.mem_of_getElem? hi)).2
  rw [e] at q; cases q
theorem Ld.ne (D : Ld h₀ h chg news) (i j : Nat) {a b : Addr} {oa ob : Obj} (hi : news[i]? = some (a, oa)) (hj : news[j]? = some (b, ob)) (ij : i ≠ j) : a ≠ b := by
  obtain ⟨li, ei⟩ := List.getElem?_eq_some_iff.mp hi
  obtain ⟨lj, ej⟩ := List.getElem?_eq_some_iff.mp hj
  intro z
  have nd := List.pairwise_iff_getElem.mp D.nd
  rcases Nat.lt_or_gt_of_ne ij with q | q
  · exact nd i j (by rw [List.length_map]; exact li) (by rw [List.length_map]; exact lj) q (by rw [List.getElem_map, List.getElem_map, ei, ej]; exact z)
  · exact nd j i (by rw [List.length_map]; exact lj) (by rw [List.length_map]; exact li) q (by rw [List.getElem_map, List.getElem_map, ei, ej]; exact z.symm)
theorem Ld.fresh (D : Ld h₀ h chg news) {a : Addr} (ha : h.get? a = none) : a ∉ news.map (·.1) ∧ h₀.get? a = none := by
  constructor
  · intro hm
    obtain ⟨p, hp, rfl⟩ := List.mem_map.mp hm
    have := (D.nw p hp).1
    rw [ha] at this; cases this
  · cases q : h₀.get? a with
    | none => rfl
    | some o => obtain ⟨o', e⟩ := D.there q; rw [ha] at e; cases e
theorem Ld.alloc (D : Ld h₀ h chg news) {o : Obj} (hf : o.isFreed = false) : Ld h₀ (h.push o) chg ((h.objs.size, o) :: news) := by
  have hn : h.get? h.objs.size = none := by
    cases q : h.get? h.objs.size with
    | none => rfl
    | some o' => exact absurd (Heap.lt_size q) (Nat.lt_irrefl _)
  obtain ⟨f1, f2⟩ := D.fresh hn
  refine ⟨fun b o' e q => Heap.get?_push_of_some _ (D.keep b o' e q), fun p hp => ⟨Heap.get?_push_of_some _ (D.ch p hp).1, (D.ch p hp).2⟩, fun p hp => ?_, ?_⟩
  · rcases List.mem_cons.mp hp with rfl | hp
    · exact ⟨Heap.get?_push_size _ hf, f2⟩
    · exact ⟨Heap.get?_push_of_some _ (D.nw p hp).1, (D.nw p hp).2⟩
  · exact List.nodup_cons.mpr ⟨f1, D.nd⟩
theorem Ld.update (D : Ld h₀ h chg news) {i : Nat} {a : Addr} {o o' : Obj} {f : Obj → Obj} (hi : news[i]? = some (a, o)) (e : f o = o') (hf : o'.isFreed = false) : Ld h₀ (h.update a f) chg (news.set i (a, o')) := by
  have ho := D.at i hi
  have z := D.nw (a, o) (List.mem_of_getElem? hi)
  have hs : Heap.SameBut a h (h.update a f) := Heap.SameBut.update ..
  have ge : (h.update a f).get? a = some o' := by
    have : (h.update a f).get? a = some (f o) := by first | exact Heap.get?_update_self f ho (e ▸ hf) | exact Heap.get?_update_self _ ho (e ▸ hf)
    rw [this, e]
  have ne : ∀ b o', h₀.get? b = some o' → b ≠ a := fun b o' e' z' => by subst z'; rw [e'] at z; cases z.2
  have em : (news.set i (a, o')).map (·.1) = news.map (·.1) := by
    rw [List.map_set]
    have : (news.map (·.1))[i]? = some a := by rw [List.getElem?_map, hi]; rfl
    exact set_same this
  refine ⟨fun b o' e' q => (hs.2 b (ne b o' e')).trans (D.keep b o' e' q), fun p hp => ?_, fun p hp => ?_, by rw [em]; exact D.nd⟩
  · obtain ⟨h1, o1, h2, h3⟩ := D.ch p hp
    exact ⟨(hs.2 p.1 (ne p.1 _ h2)).trans h1, o1, h2, h3⟩
  · obtain ⟨j, hj⟩ := List.mem_iff_getElem?.mp hp
    by_cases hij : i = j
    · subst hij
      have hl : i < news.length := (List.getElem?_eq_some_iff.mp hi).1
      rw [List.getElem?_set_self hl] at hj
      cases hj
      exact ⟨ge, z.2⟩
    · rw [List.getElem?_set_ne hij] at hj
      have y := D.nw p (List.mem_of_getElem? hj)
      have hne : p.1 ≠ a := D.ne j i (a := p.1) (oa := p.2) hj hi (Ne.symm hij)
      exact ⟨(hs.2 _ hne).trans y.1, y.2⟩
theorem Ld.turn (D : Ld h₀ h chg news) {a : Addr} {o o' : Obj} {f : Obj → Obj} (ho : h₀.get? a = some o) (hc : hasCls o = false) (hw : away chg a = true) (e : f o = o') (hf : o'.isFreed = false) : Ld h₀ (h.update a f) ((a, o') :: chg) news := by
  have hh : h.get? a = some o := D.keep a o ho (by rw [hw, Bool.or_true])
  have hs : Heap.SameBut a h (h.update a f) := Heap.SameBut.update ..
  have ge : (h.update a f).get? a = some o' := by
    have : (h.update a f).get? a = some (f o) := by first | exact Heap.get?_update_self f hh (e ▸ hf) | exact Heap.get?_update_self _ hh (e ▸ hf)
    rw [this, e]
  refine ⟨fun b ob e' q => ?_, fun p hp => ?_, fun p hp => ?_, D.nd⟩
  · have ne : b ≠ a := by
      rintro rfl
      rw [ho] at e'; cases e'
      rcases (Bool.or_eq_true _ _).mp q with q | q
      · rw [hc] at q; cases q
      · exact away_ne q (.head _) rfl
    refine (hs.2 b ne).trans (D.keep b ob e' ?_)
    have less : away ((a, o') :: chg) b = true → away chg b = true := fun z => (Bool.and_eq_true_iff.mp z).2
    exact Bool.or_eq_true_iff.mpr ((Bool.or_eq_true_iff.mp q).imp_right less)
  · rcases List.mem_cons.mp hp with rfl | hp
    · exact ⟨ge, o, ho, hc⟩
    · obtain ⟨h1, r⟩ := D.ch p hp
      exact ⟨(hs.2 _ (away_ne hw hp)).trans h1, r⟩
  · have ne : p.1 ≠ a := fun z => by have q := (D.nw p hp).2; rw [z, ho] at q; cases q
    exact ⟨(hs.2 _ ne).trans (D.nw p hp).1, (D.nw p hp).2⟩
theorem Ld.trans {h' : Heap} {news' : List (Addr × Obj)} (D : Ld h₀ h chg news) (D' : Mem h h' [] news') : Ld h₀ h' chg (news' ++ news) := by
  have up : ∀ b o, h.get? b = some o → h'.get? b = some o := fun b o e => D'.keep b o e (by show (hasCls o || true) = true; rw [Bool.or_true])
  refine ⟨fun b o e q => up _ _ (D.keep b o e q), fun p hp => ⟨up _ _ (D.ch p hp).1, (D.ch p hp).2⟩, fun p hp => ?_, ?_⟩
  · rcases List.mem_append.mp hp with hp | hp
    · exact ⟨(D'.nw p hp).1, (D.fresh (D'.nw p hp).2).2⟩
    · exact ⟨up _ _ (D.nw p hp).1, (D.nw p hp).2⟩
  · rw [List.map_append]
    refine List.nodup_append.mpr ⟨?_, D.nd, fun x hx y hy => ?_⟩
    · exact D'.ord.imp fun q => Nat.ne_of_gt q
    · obtain ⟨p, hp, rfl⟩ := List.mem_map.mp hx
      rintro rfl
      exact (D.fresh (D'.nw p hp).2).1 hy
theorem Ld.pick (D : Ld h₀ h chg news) (is : List Nat) (hn : is.Nodup) : Ld h₀ h chg (is.filterMap fun i => news[i]?) := by
  refine ⟨D.keep, D.ch, fun p hp => ?_, ?_⟩
  · obtain ⟨i, _, hi⟩ := List.mem_filterMap.mp hp
    exact D.nw p (List.mem_of_getElem? hi)
  · rw [List.map_filterMap]
    refine List.pairwise_filterMap.mpr (hn.imp ?_)
    intro i j hij x hx y hy
    obtain ⟨p, hp, rfl⟩ := Option.map_eq_some_iff.mp hx
    obtain ⟨q, hq, rfl⟩ := Option.map_eq_some_iff.mp hy
    exact D.ne i j (a := p.1) (oa := p.2) (b := q.1) (ob := q.2) hp hq hij
theorem Ld.rot (D : Ld h₀ h chg news) (k n : Nat) (hn : n ≤ k) : Ld h₀ h chg (news.drop k ++ news.take n) := by
  refine ⟨D.keep, D.ch, fun p hp => ?_, ?_⟩
  · rcases List.mem_append.mp hp with hp | hp
    · exact D.nw p (List.mem_of_mem_drop hp)
    · exact D.nw p (List.mem_of_mem_take hp)
  · rw [List.map_append, List.map_drop, List.map_take]
    have nd := D.nd
    generalize news.map (·.1) = l at nd
    have e : l = l.take n ++ (l.drop n) := (List.take_append_drop n l).symm
    have e2 : l.drop k = (l.drop n).drop (k - n) := by rw [List.drop_drop]; congr 1; omega
    rw [e] at nd
    obtain ⟨n1, n2, n3⟩ := List.nodup_append.mp nd
    refine List.nodup_append.mpr ⟨?_, n1, fun x hx y hy => ?_⟩
    · rw [e2]; exact n2.sublist (List.drop_sublist _ _)
    · rw [e2] at hx
      exact (n3 y hy x (List.mem_of_mem_drop hx)).symm
theorem Ld.rot1 {x : Addr × Obj} {r : List (Addr × Obj)} (D : Ld h₀ h chg (x :: r)) : Ld h₀ h chg (r ++ [x]) := Ld.rot D 1 1 (Nat.le_refl 1)
theorem Ld.rot2 {x y : Addr × Obj} {r : List (Addr × Obj)} (D : Ld h₀ h chg (x :: y :: r)) : Ld h₀ h chg (r ++ [x, y]) := Ld.rot D 2 2 (Nat.le_refl 2)
theorem Ld.rot3 {x y z : Addr × Obj} {r : List (Addr × Obj)} (D : Ld h₀ h chg (x :: y :: z :: r)) : Ld h₀ h chg (r ++ [x, y]) := Ld.rot D 3 2 (by decide)
theorem Ld.trans2 {h' : Heap} {news' : List (Addr × Obj)} (D : Ld h₀ h chg news) (D' : Ld h h' [] news') : Ld h₀ h' chg (news' ++ news) := by
  have up : ∀ b o, h.get? b = some o → h'.get? b = some o := fun b o e => D'.keep b o e (by show (hasCls o || true) = true; rw [Bool.or_true])
  refine ⟨fun b o e q => up _ _ (D.keep b o e q), fun p hp => ⟨up _ _ (D.ch p hp).1, (D.ch p hp).2⟩, fun p hp => ?_, ?_⟩
  · rcases List.mem_append.mp hp with hp | hp
    · exact ⟨(D'.nw p hp).1, (D.fresh (D'.nw p hp).2).2⟩
    · exact ⟨up _ _ (D.nw p hp).1, (D.nw p hp).2⟩
  · rw [List.map_append]
    refine List.nodup_append.mpr ⟨D'.nd, D.nd, fun x hx y hy => ?_⟩
    obtain ⟨p, hp, rfl⟩ := List.mem_map.mp hx
    rintro rfl
    exact (D.fresh (D'.nw p hp).2).1 hy
inductive Gate : {α : Type} → Sem α → Prop where
  | pure' {α a} : Gate (Sem.pure (α := α) a)
  | pure {α : Type} {a : α} : Gate (α := α) (Pure.pure a)
  | bind {α β : Type} {m : Sem β} {f : β → Sem α} : Gate (m >>= f)
  | bind' {α β : Type} {m : Sem β} {f : β → Sem α} : Gate (m.bind f)
  | load {α a p k} : Gate (Sem.load (α := α) a p k)
  | update {α a p f k} : Gate (Sem.update (α := α) a p f k)
  | alloc {α o k} : Gate (Sem.alloc (α := α) o k)
  | fresh {α k} : Gate (Sem.fresh (α := α) k)
  | ask {α k} : Gate (Sem.ask (α := α) k)
  | rule {α g k} : Gate (Sem.rule (α := α) g k)
  | at {α g k} : Gate (Sem.at (α := α) g k)
  | point {α g k} : Gate (Sem.point (α := α) g k)
  | call {α c h g l k} : Gate (Sem.call (α := α) c h g l k)
  | holding {α l} {m : Sem α} : Gate (holding l m)
  | onRaise {α} {m : Sem α} {k} : Gate (m.onRaise k)
  | tryC {α : Type} {m : Sem α} {k : Value → Sem α} : Gate (tryCatch m k)
  | nsGet {a n} : Gate (nsGet a n)
  | nsSet {a n v} : Gate (nsSet a n v)
  | nsSetV {a n v} : Gate (nsSetByValue a n v)
  | nsDel {a n} : Gate (nsDel a n)
  | slot {a n v} : Gate (setSlotAt a n v)
  | cls {a f} : Gate (updateCls a f)
  | enter : Gate enterFrame
  | fcode {a b c d e f g i} : Gate (functionCode a b c d e f g i)
theorem gate {α : Type} {M : Model} {A : Around} {t : Sem α} {Q : α → Shared → Prop} {E : Value → Shared → Prop} {s : Shared} (_ : Gate t) (x : wpAny M A t Q E s) : wpAny M A t Q E s := x
section
variable {α : Type} {M : Model} {A : Around} {Q : α → Shared → Prop} {E : Value → Shared → Prop} {g : Array GenState} {d : Drawn} {t : Nat} {os : OsState}
theorem m_load (i : Nat) {a : Addr} {p : Option Value} {k : Obj → Sem α} {o : Obj} (D : Ld h₀ h chg news) (hi : news[i]? = some (a, o)) (x : wpAny M A (k o) Q E ⟨h, g, d, t, os⟩) : wpAny M A (.load a p k) Q E ⟨h, g, d, t, os⟩ := nd_load (D.at i hi) x
theorem m_loadC (i : Nat) {a : Addr} {p : Option Value} {k : Obj → Sem α} {o : Obj} (D : Ld h₀ h chg news) (hi : chg[i]? = some (a, o)) (x : wpAny M A (k o) Q E ⟨h, g, d, t, os⟩) : wpAny M A (.load a p k) Q E ⟨h, g, d, t, os⟩ := nd_load (D.atC i hi) x
theorem m_old {a : Addr} {p : Option Value} {k : Obj → Sem α} {o : Obj} (D : Ld h₀ h chg news) (e : h₀.get? a = some o) (q : (hasCls o || away chg a) = true) (x : wpAny M A (k o) Q E ⟨h, g, d, t, os⟩) : wpAny M A (.load a p k) Q E ⟨h, g, d, t, os⟩ := nd_load (D.keep a o e q) x
theorem m_alloc {o : Obj} {k : Addr → Sem α} (D : Ld h₀ h chg news) (hf : o.isFreed = false) (x : ∀ a h', Ld h₀ h' chg ((a, o) :: news) → wpAny M A (k a) Q E ⟨h', g, d, t, os⟩) : wpAny M A (.alloc o k) Q E ⟨h, g, d, t, os⟩ := nd_alloc (x _ _ (D.alloc hf))
theorem m_update (i : Nat) {a : Addr} {p : Option Value} {f : Obj → Obj} {k : Unit → Sem α} {o o' : Obj} (D : Ld h₀ h chg news) (hi : news[i]? = some (a, o)) (e : f o = o') (hf : o'.isFreed = false) (x : ∀ h', Ld h₀ h' chg (news.set i (a, o')) → wpAny M A (k ()) Q E ⟨h', g, d, t, os⟩) : wpAny M A (.update a p f k) Q E ⟨h, g, d, t, os⟩ :=
  wpAny_bind (m := updatePart a p f) (f := k) (wpAny_updatePart (D.at i hi) (x _ (D.update hi e hf)))
theorem m_turn {a : Addr} {p : Option Value} {f : Obj → Obj} {k : Unit → Sem α} {o o' : Obj} (D : Ld h₀ h chg news) (ho : h₀.get? a = some o) (hc : hasCls o = false) (hw : away chg a = true) (e : f o = o') (hf : o'.isFreed = false) (x : ∀ h', Ld h₀ h' ((a, o') :: chg) news → wpAny M A (k ()) Q E ⟨h', g, d, t, os⟩) : wpAny M A (.update a p f k) Q E ⟨h, g, d, t, os⟩ :=
  wpAny_bind (m := updatePart a p f) (f := k) (wpAny_updatePart (D.keep a o ho (by rw [hw, Bool.or_true])) (x _ (D.turn ho hc hw e hf)))
@[irreducible] noncomputable def At (l : List (Addr × Obj)) (i : Nat) (x : Addr × Obj) : Prop := l[i]? = some x
theorem At.get {l : List (Addr × Obj)} {i : Nat} {x : Addr × Obj} (e : At l i x) : l[i]? = some x := by unfold At at e; exact e
theorem At.z {x : Addr × Obj} {l : List (Addr × Obj)} : At (x :: l) 0 x := by unfold At; rfl
theorem At.s {x y : Addr × Obj} {l : List (Addr × Obj)} {i : Nat} (e : At l i x) : At (y :: l) (i + 1) x := by unfold At at *; rw [List.getElem?_cons_succ]; exact e
theorem m_regrow (i : Nat) {a : Addr} {p : Option Value} {k : Unit → Sem α} {ps : Array Value} {pos : Pos} {v1 v2 v3 : Value} (D : Ld h₀ h chg news) (hi : news[i]? = some (a, tableObj ps)) (hc : codeAmong pos ps.toList = none)
   (x : ∀ h', Ld h₀ h' chg (news.set i (a, tableObj (ps ++ #[v1, v2, v3]))) → wpAny M A (k ()) Q E ⟨h', g, d, t, os⟩) : wpAny M A (.update a p (Obj.mapFields fun vs => if (codeAmong pos vs.toList).isSome = true then vs else vs ++ #[v1, v2, v3]) k) Q E ⟨h, g, d, t, os⟩ :=
  m_update i D hi (by unfold tableObj Obj.mapFields; dsimp only; rw [hc]; rfl) rfl x
theorem bindV {β : Type} {m : Sem β} {f : β → Sem α} {s : Shared} (x : ∀ Q' : β → Shared → Prop, (∀ a s', wpAny M A (f a) Q E s' → Q' a s') → wpAny M A m Q' E s) : wpAny M A (m >>= f) Q E s := wpAny_bind (x _ (fun _ _ e => e))
theorem nbindV {β : Type} {m : Sem β} {f : β → Sem α} {s : Shared} (x : ∀ Q' : β → Shared → Prop, (∀ a s', wpAny M A (f a) Q E s' → Q' a s') → wpAny M A m Q' E s) : wpAny M A (m.bind f) Q E s := nd_bind (x _ (fun _ _ e => e))
theorem onRaiseV {m : Sem α} {k : Value → Sem Unit} {s : Shared} (x : ∀ E' : Value → Shared → Prop, wpAny M A m Q E' s) : wpAny M A (m.onRaise k) Q E s := wpAny_onRaise (x _)
theorem m_fresh {k : Tok → Sem α} (x : wpAny M A (k t) Q E ⟨h, g, d, t + 1, os⟩) : wpAny M A (.fresh k) Q E ⟨h, g, d, t, os⟩ := x
theorem ite_no {c : Prop} [Decidable c] {a b : Sem α} {s : Shared} (hc : ¬ c) (x : wpAny M A b Q E s) : wpAny M A (if c then a else b) Q E s := by rw [if_neg hc]; exact x
theorem ite_yes {c : Prop} [Decidable c] {a b : Sem α} {s : Shared} (hc : c) (x : wpAny M A a Q E s) : wpAny M A (if c then a else b) Q E s := by rw [if_pos hc]; exact x
end
section
variable {prog : Program} {w : World} {A : Around} {E : Value → Shared → Prop} {gs : Array GenState} {d : Drawn} {t : Nat} {os : OsState}
theorem look_L {name : Str} {o : Obj} {c : Value} {dc : Option Addr} {es : List DictEntry} {n : Nat} {sl : Array (Option Value)} {r : Option Value} (ho : o = ⟨c, dc, .dict es.toArray n, sl⟩) (e : getL name es = some r) : nsLook name o = pure r := by
  subst ho
  refine nsLook_of ?_
  unfold getL at e
  unfold lookIn
  dsimp only
  exact e
theorem m_nsGet (i : Nat) {a : Addr} {name : Str} {c : Value} {dc : Option Addr} {es : List DictEntry} {n : Nat} {sl : Array (Option Value)} {r : Option Value} {Q : Option Value → Shared → Prop} (D : Ld h₀ h chg news) (hi : news[i]? = some (a, ⟨c, dc, .dict es.toArray n, sl⟩)) (e : getL name es = some r)
    (x : Q r ⟨h, gs, d, t, os⟩) : wpAny (model prog w) A (nsGet a name) Q E ⟨h, gs, d, t, os⟩ := by
  unfold nsGet
  refine wpAny_bind (wpAny_loadPart (D.at i hi) ?_)
  rw [look_L rfl e]
  exact wpAny_pure x
theorem m_nsGetO {a : Addr} {name : Str} {c : Value} {dc : Option Addr} {es : List DictEntry} {n : Nat} {sl : Array (Option Value)} {r : Option Value} {Q : Option Value → Shared → Prop} (D : Ld h₀ h chg news) (hi : h₀.get? a = some ⟨c, dc, .dict es.toArray n, sl⟩) (q : (hasCls ⟨c, dc, .dict es.toArray n, sl⟩ || away chg a) = true) (e : getL name es = some r)
    (x : Q r ⟨h, gs, d, t, os⟩) : wpAny (model prog w) A (nsGet a name) Q E ⟨h, gs, d, t, os⟩ := by
  unfold nsGet
  refine wpAny_bind (wpAny_loadPart (D.keep _ _ hi q) ?_)
  rw [look_L rfl e]
  exact wpAny_pure x
theorem nsPut {a : Addr} {k : Str} {v : Value} {c : Value} {dc : Option Addr} {es : List DictEntry} {n : Nat} {sl : Array (Option Value)} {Q : Unit → Shared → Prop} (o : h.get? a = some ⟨c, dc, .dict es.toArray n, sl⟩)
    (may : (!es.any (·.key.isStr k) && es.any (·.refKey)) = false) (x : Q () ⟨h.update a (Obj.putName k (PyData.keyHash w.params k) (.str k t) v), gs, d, t + 1, os⟩) : wpAny (model prog w) A (nsSet a k v) Q E ⟨h, gs, d, t, os⟩ := by
  have no : aRefKeyMayBeTheName k es.toArray = false := by rw [aRefKeyMayBeTheName_at]; simpa using may
  unfold nsSet
  refine wpAny_bind (wpAny_bind (wpAny_askSetting (wpAny_pure (wpAny_bind (wpAny_mkText (wpAny_bind (wpAny_loadPart o ?_)))))))
  simp only [no]
  exact wpAny_updatePart o x
theorem m_nsSet (i : Nat) {a : Addr} {k : Str} {v : Value} {c : Value} {dc : Option Addr} {es : List DictEntry} {n : Nat} {sl : Array (Option Value)} {Q : Unit → Shared → Prop} (D : Ld h₀ h chg news) (hi : news[i]? = some (a, ⟨c, dc, .dict es.toArray n, sl⟩)) (hs : (es.all fun e => !e.key.isStr k && !e.refKey) = true)
    (x : ∀ h', Ld h₀ h' chg (news.set i (a, (⟨c, dc, .dict (es ++ [(⟨PyData.keyHash w.params k, .str k t, v⟩ : DictEntry)]).toArray (n + 1), sl⟩ : Obj))) → Q () ⟨h', gs, d, t + 1, os⟩) : wpAny (model prog w) A (nsSet a k v) Q E ⟨h, gs, d, t, os⟩ := by
  have hs1 : ∀ e ∈ es, e.key.isStr k = false := fun e he => by have := List.all_eq_true.mp hs e he; revert this; cases e.key.isStr k <;> simp
  have hs2 : ∀ e ∈ es, e.refKey = false := fun e he => by have := List.all_eq_true.mp hs e he; revert this; cases e.refKey <;> simp
  have e : Obj.putName k (PyData.keyHash w.params k) (.str k t) v ⟨c, dc, .dict es.toArray n, sl⟩ = ⟨c, dc, .dict (es ++ [(⟨PyData.keyHash w.params k, .str k t, v⟩ : DictEntry)]).toArray (n + 1), sl⟩ := by
    rw [Obj.putName_eq]
    unfold Obj.putNameByArray
    have : es.toArray.findIdx? (fun x => x.key.isStr k) = none := by
      rw [List.findIdx?_toArray]
      exact List.findIdx?_eq_none_iff.mpr fun e he => by rw [hs1 e he]
    dsimp only
    rw [this]
    simp
  have Dh := D.at i hi
  exact nsPut Dh (Bool.and_eq_false_iff.mpr (.inr (List.any_eq_false.mpr fun e he => Bool.eq_false_iff.mp (hs2 e he)))) (x _ (D.update hi e rfl))
theorem m_nsRep (i j : Nat) {a : Addr} {k : Str} {v : Value} {c : Value} {dc : Option Addr} {es : List DictEntry} {n : Nat} {sl : Array (Option Value)} {Q : Unit → Shared → Prop} (D : Ld h₀ h chg news) (hi : news[i]? = some (a, ⟨c, dc, .dict es.toArray n, sl⟩)) (hj : es.findIdx? (fun e => e.key.isStr k) = some j)
    (x : ∀ h', Ld h₀ h' chg (news.set i (a, (⟨c, dc, .dict (es.modify j fun e => { e with val := v }).toArray n, sl⟩ : Obj))) → Q () ⟨h', gs, d, t + 1, os⟩) : wpAny (model prog w) A (nsSet a k v) Q E ⟨h, gs, d, t, os⟩ := by
  have e1 : es.any (·.key.isStr k) = true := by rw [← List.findIdx?_isSome, hj]; rfl
  have e : Obj.putName k (PyData.keyHash w.params k) (.str k t) v ⟨c, dc, .dict es.toArray n, sl⟩ = ⟨c, dc, .dict (es.modify j fun e => { e with val := v }).toArray n, sl⟩ := by
    rw [Obj.putName_eq]
    unfold Obj.putNameByArray
    have q : es.toArray.findIdx? (fun x => x.key.isStr k) = some j := by rw [List.findIdx?_toArray]; exact hj
    dsimp only
    rw [q]
    simp
  have Dh := D.at i hi
  exact nsPut Dh (by rw [e1]; rfl) (x _ (D.update hi e rfl))
theorem m_nsRep0 {a : Addr} {k : Str} {v : Value} {c : Value} {dc : Option Addr} {e : DictEntry} {es : List DictEntry} {n : Nat} {sl : Array (Option Value)} {rest : List (Addr × Obj)} {Q : Unit → Shared → Prop} (D : Ld h₀ h chg ((a, ⟨c, dc, .dict (e :: es).toArray n, sl⟩) :: rest)) (hj : e.key.isStr k = true)
    (x : ∀ h', Ld h₀ h' chg ((a, (⟨c, dc, .dict ((⟨e.hash, e.key, v⟩ : DictEntry) :: es).toArray n, sl⟩ : Obj)) :: rest) → Q () ⟨h', gs, d, t + 1, os⟩) : wpAny (model prog w) A (nsSet a k v) Q E ⟨h, gs, d, t, os⟩ :=
  m_nsRep 0 0 D rfl (by rw [List.findIdx?_cons, if_pos hj]) x
theorem m_nsSetV (i : Nat) {a : Addr} {k : Str} {v : Value} {c : Value} {dc : Option Addr} {es : List DictEntry} {n : Nat} {sl : Array (Option Value)} {Q : Unit → Shared → Prop} (D : Ld h₀ h chg news) (hi : news[i]? = some (a, ⟨c, dc, .dict es.toArray n, sl⟩)) (hs : (es.all fun e => !e.key.isStr k && !e.refKey) = true) (hz : es.length ≤ 1000)
    (x : ∀ h', Ld h₀ h' chg (news.set i (a, (⟨c, dc, .dict (es ++ [(⟨PyData.keyHash w.params k, .str k t, v⟩ : DictEntry)]).toArray (n + 1), sl⟩ : Obj))) → Q () ⟨h', gs, d, t + 1, os⟩) : wpAny (model prog w) A (nsSetByValue a k v) Q E ⟨h, gs, d, t, os⟩ := by
  unfold nsSetByValue
  refine wpAny_bind (wpAny_loadPart (D.at i hi) ?_)
  have : (decide (es.toArray.size > sizeLine) && noSuchName k es.toArray) = false := by
    rw [decide_eq_false (by rw [List.size_toArray, sizeLine_eq]; omega), Bool.false_and]
  simp only [this, Bool.false_eq_true, if_false]
  first | exact wpAny_bind (wpAny_pure (m_nsSet i D hi hs x)) | exact m_nsSet i D hi hs x
theorem m_nsDel (i j : Nat) {a : Addr} {k : Str} {c : Value} {dc : Option Addr} {es : List DictEntry} {n : Nat} {sl : Array (Option Value)} {Q : Bool → Shared → Prop} (D : Ld h₀ h chg news) (hi : news[i]? = some (a, ⟨c, dc, .dict es.toArray n, sl⟩)) (hj : es.findIdx? (fun e => e.key.isStr k) = some j)
    (x : ∀ h', Ld h₀ h' chg (news.set i (a, (⟨c, dc, .dict (es.eraseIdx j).toArray (n + 1), sl⟩ : Obj))) → Q true ⟨h', gs, d, t, os⟩) : wpAny (model prog w) A (nsDel a k) Q E ⟨h, gs, d, t, os⟩ := by
  have e : Obj.dropName k ⟨c, dc, .dict es.toArray n, sl⟩ = ⟨c, dc, .dict (es.eraseIdx j).toArray (n + 1), sl⟩ := by
    rw [Obj.dropName_eq]
    unfold Obj.dropNameByArray
    have q : es.toArray.findIdx? (fun x => x.key.isStr k) = some j := by rw [List.findIdx?_toArray]; exact hj
    dsimp only
    rw [q]
    simp
  have e1 : es.any (·.key.isStr k) = true := by
    rw [← List.findIdx?_isSome, hj]; rfl
  have Dh := D.at i hi
  unfold nsDel
  refine wpAny_bind (wpAny_loadPart Dh ?_)
  have eh : nsHas k ⟨c, dc, .dict es.toArray n, sl⟩ = pure true := by
    rw [nsHas_eq]
    unfold nsHasByArray
    dsimp only
    rw [← Array.any_toList, if_pos e1]
  rw [eh]
  refine wpAny_bind (wpAny_pure ?_)
  rw [if_pos rfl]
  exact wpAny_bind (wpAny_updatePart Dh (wpAny_pure (x _ (D.update hi e rfl))))
theorem m_slot (i : Nat) {a : Addr} {j : Nat} {v : Option Value} {c : Value} {dc : Option Addr} {dt : Data} {sl : List (Option Value)} {Q : Unit → Shared → Prop} (D : Ld h₀ h chg news) (hi : news[i]? = some (a, ⟨c, dc, dt, sl.toArray⟩)) (hj : j < 100) (hf : Obj.isFreed ⟨c, dc, dt, #[]⟩ = false)
    (x : ∀ h', Ld h₀ h' chg (news.set i (a, (⟨c, dc, dt, ((sl ++ List.replicate (j + 1 - sl.length) none).set j v).toArray⟩ : Obj))) → Q () ⟨h', gs, d, t, os⟩) : wpAny (model prog w) A (setSlotAt a j v) Q E ⟨h, gs, d, t, os⟩ := by
  have Dh := D.at i hi
  unfold setSlotAt
  have hjn : ¬ j ≥ sizeLine := by rw [sizeLine_eq]; omega
  rw [if_neg hjn]
  refine wpAny_bind (wpAny_pure ?_)
  refine wpAny_updatePart Dh (x _ (D.update hi ?_ ?_))
  · apply congrArg (fun z => (⟨c, dc, dt, z⟩ : Obj))
    apply Array.ext'
    simp
  · unfold Obj.isFreed at hf ⊢; cases dt <;> first | rfl | exact hf
theorem m_cls (i : Nat) {a : Addr} {f : ClassData → ClassData} {c : Value} {dc : Option Addr} {cd : ClassData} {sl : Array (Option Value)} {Q : Unit → Shared → Prop} (D : Ld h₀ h chg news) (hi : news[i]? = some (a, ⟨c, dc, .cls cd, sl⟩)) (hp : (Data.cls (f cd)).pastItsLine = none)
    (x : ∀ h', Ld h₀ h' chg (news.set i (a, (⟨c, dc, .cls (f cd), sl⟩ : Obj))) → Q () ⟨h', gs, d, t, os⟩) : wpAny (model prog w) A (updateCls a f) Q E ⟨h, gs, d, t, os⟩ := by
  have Dh := D.at i hi
  unfold updateCls
  refine wpAny_bind (wpAny_load Dh ?_)
  dsimp only
  have D' := D.update (f := Obj.mapCls f) hi (o' := ⟨c, dc, .cls (f cd), sl⟩) rfl rfl
  have hl : (news.set i (a, (⟨c, dc, .cls (f cd), sl⟩ : Obj)))[i]? = some (a, ⟨c, dc, .cls (f cd), sl⟩) := List.getElem?_set_self (List.getElem?_eq_some_iff.mp hi).1
  refine wpAny_bind (wpAny_update Dh ?_)
  exact wpAny_lookBehind (D'.at i hl) hp (x _ D')
theorem Ld.ns (D : Ld h₀ h chg news) {a : Addr} {m : Str → Option Value} (hn : h₀.Ns a m) (q : away chg a = true) : h.Ns a m :=
  let ⟨o, es, ep, ho, r⟩ := hn; ⟨o, es, ep, D.keep a o ho (by rw [q, Bool.or_true]), r⟩
theorem Ld.noLimit (D : Ld h₀ h chg news) (x : h₀.NoLimit) (q : away chg cStatics = true) : h.NoLimit := let ⟨mc, a, b⟩ := x; ⟨mc, D.ns a q, b⟩
theorem m_nsGetN {a : Addr} {name : Str} {m : Str → Option Value} {r : Option Value} {Q : Option Value → Shared → Prop} (D : Ld h₀ h chg news) (hn : h₀.Ns a m) (q : away chg a = true) (e : m name = r)
    (x : Q r ⟨h, gs, d, t, os⟩) : wpAny (model prog w) A (nsGet a name) Q E ⟨h, gs, d, t, os⟩ := wpAny_nsGet (D.ns hn q) (e ▸ x)
theorem m_nsGetK {K : Frag} {a : Addr} {name : Str} {r : Option Value} {Q : Option Value → Shared → Prop} (D : Ld h₀ h chg news) (X : K.In h₀) (q : away chg a = true) (e : nsIn K a name = some r)
    (x : Q r ⟨h, gs, d, t, os⟩) : wpAny (model prog w) A (nsGet a name) Q E ⟨h, gs, d, t, os⟩ := by
  cases hl : K.lookup a with
  | none => unfold nsIn at e; rw [hl] at e; cases e
  | some o =>
    have x1 : Frag.In [(a, o)] h := fun b o' eb => by
      rw [List.lookup_cons] at eb
      cases hb : (b == a) with
      | true =>
        rw [hb] at eb; cases eb
        rw [beq_iff_eq.mp hb]
        exact D.keep a o (X a o hl) (by rw [q, Bool.or_true])
      | false => rw [hb] at eb; cases eb
    have e1 : nsIn [(a, o)] a name = some r := by
      unfold nsIn at e ⊢
      rw [hl] at e
      rw [List.lookup_cons, beq_self_eq_true]
      exact e
    exact looks_nsIn (M := model prog w) x1 e1 A Q E ⟨h, gs, d, t, os⟩ (fun _ _ z => z) x
theorem m_enter {Q : Unit → Shared → Prop} (D : Ld h₀ h chg news) (x : h₀.NoLimit) (q : away chg cStatics = true) (hd : A.depth < recursionLimit) (k : Q () ⟨h, gs, d, t, os⟩) : wpAny (model prog w) A enterFrame Q E ⟨h, gs, d, t, os⟩ :=
  wpAny_enterFrame (D.noLimit x q) hd k
noncomputable def CodeBears (oK : Obj) (P : Addr) : Prop := ∃ vs file tf flags tg inF text tt, oK.cls = .type "code" ∧ oK.data = .fields vs ∧ vs.getD 11 .none = .ref P ∧ vs.getD 18 .none = .str file tf ∧
  vs.getD 7 .none = .int flags tg ∧ vs.getD 9 .none = .bool inF ∧ vs.getD 10 .none = .int text tt ∧ vs[11]? = some (.ref P)
noncomputable def CodeNamed (oc : Obj) (q : Str) : Prop := ∃ vs t, oc.data = .fields vs ∧ vs[1]? = some (.str q t)
theorem m_fcode (i j : Nat) {P ck : Addr} {oK : Obj} {ps : Array Value} {env : Env} {pos : Pos} {firstLine : Nat} {name qualname : Str} {p : Arguments} {scope : Scope} {body : FuncBody} {Q : Value → Shared → Prop}
    (hcode : env.code = .ref ck) (D : Ld h₀ h chg news) (hi : news[i]? = some (P, tableObj ps)) (hj : news[j]? = some (ck, oK)) (hK : CodeBears oK P) (htr : TriplesOk ps.toList) (hnf : codeAmong pos ps.toList = none)
    (x : ∀ c' oc h' tk, Ld h₀ h' chg ((c', oc) :: news.set i (P, tableObj (ps ++ #[rawInt pos.line, rawInt pos.col, .ref c']))) → CodeNamed oc qualname → Q (.ref c') ⟨h', gs, d, tk, os⟩) :
    wpAny (model prog w) A (functionCode env pos firstLine name qualname p scope body) Q E ⟨h, gs, d, t, os⟩ := by
  obtain ⟨vs, file, tf, flags, tg, inF, text, tt, k0, k1, k2, k3, k4, k5, k6, k7⟩ := hK
  have Di := D.at i hi
  have Dj := D.at j hj
  have hne : ck ≠ P := by
    rintro rfl
    rw [Di] at Dj
    have := congrArg Obj.cls (Option.some.inj Dj)
    rw [k0] at this
    cases this
  refine wpAny_functionCodeX hcode ⟨oK, vs, file, tf, flags, tg, inF, text, tt, tableObj ps, Dj, k1, k2, k3, k4, k5, k6, Di, rfl, htr, hne⟩ ⟨⟨oK, vs, Dj, k0, k1, k7⟩, Di⟩ hnf ?_
  intro c' h' tk hx hc1 hc2 hcd hrec htab _
  obtain ⟨c₂, o₂, vs₂, t₂, e₂, g₂, d₂, r₂⟩ := hrec
  cases e₂
  have hP0 : h₀.get? P = none := (D.nw _ (List.mem_of_getElem? hi)).2
  have hc0 : h.get? c' = none := by
    cases q : h.get? c' with
    | none => rfl
    | some o => exact absurd (Heap.lt_size q) (Nat.not_lt.mpr hc1)
  obtain ⟨f1, f2⟩ := D.fresh hc0
  have em : (news.set i (P, tableObj (ps ++ #[rawInt pos.line, rawInt pos.col, .ref c']))).map (·.1) = news.map (·.1) := by
    rw [List.map_set]
    have : (news.map (·.1))[i]? = some P := by rw [List.getElem?_map, hi]; rfl
    exact set_same this
  refine x c' o₂ h' tk ⟨fun b o e q => ?_, fun p hp => ?_, fun p hp => ?_, ?_⟩ ⟨vs₂, t₂, d₂, r₂⟩
  · exact hx b o (fun z => by rw [z, hP0] at e; cases e) (D.keep b o e q)
  · obtain ⟨a1, o1, a2, a3⟩ := D.ch p hp
    exact ⟨hx _ _ (fun z => by rw [z, hP0] at a2; cases a2) a1, o1, a2, a3⟩
  · rcases List.mem_cons.mp hp with rfl | hp
    · exact ⟨g₂, f2⟩
    · obtain ⟨m, hm⟩ := List.mem_iff_getElem?.mp hp
      by_cases him : i = m
      · subst him
        have hl : i < news.length := (List.getElem?_eq_some_iff.mp hi).1
        rw [List.getElem?_set_self hl] at hm
        cases hm
        exact ⟨htab.2, hP0⟩
      · rw [List.getElem?_set_ne him] at hm
        have y := D.nw p (List.mem_of_getElem? hm)
        have hnp : p.1 ≠ P := D.ne m i (a := p.1) (oa := p.2) hm hi (Ne.symm him)
        exact ⟨hx _ _ hnp y.1, y.2⟩
  · rw [List.map_cons, em]
    exact List.nodup_cons.mpr ⟨f1, D.nd⟩
theorem m_fcodeL (i j : Nat) {P ck : Addr} {oK : Obj} {l : List Value} {env : Env} {pos : Pos} {firstLine : Nat} {name qualname : Str} {p : Arguments} {scope : Scope} {body : FuncBody} {Q : Value → Shared → Prop}
    (hcode : env.code = .ref ck) (D : Ld h₀ h chg news) (hi : news[i]? = some (P, ⟨.none, none, .fields l.toArray, #[]⟩)) (hj : news[j]? = some (ck, oK)) (hK : CodeBears oK P) (htr : TriplesOk l = True) (hnf : codeAmong pos l = none)
    (x : ∀ c' oc h' tk, Ld h₀ h' chg ((c', oc) :: news.set i (P, (⟨.none, none, .fields (l ++ [Value.int pos.line 0, Value.int pos.col 0, Value.ref c']).toArray, #[]⟩ : Obj))) → CodeNamed oc qualname → Q (.ref c') ⟨h', gs, d, tk, os⟩) :
    wpAny (model prog w) A (functionCode env pos firstLine name qualname p scope body) Q E ⟨h, gs, d, t, os⟩ := by
  refine m_fcode i j (ps := l.toArray) hcode D hi hj hK (of_eq_true htr) hnf ?_
  intro c' oc h' tk D' n'
  refine x c' oc h' tk ?_ n'
  have e : (l.toArray ++ #[rawInt pos.line, rawInt pos.col, Value.ref c']) = (l ++ [Value.int pos.line 0, Value.int pos.col 0, Value.ref c']).toArray := by simp [rawInt]
  rw [e] at D'
  exact D'
theorem m_allocF {α : Type} {M : Model} {Q : α → Shared → Prop} {fd : FuncData} {k : Addr → Sem α} (D : Ld h₀ h chg news) (x : ∀ a o h', o = ({ cls := .type "function", data := .func fd } : Obj) → Ld h₀ h' chg ((a, o) :: news) → wpAny M A (k a) Q E ⟨h', gs, d, t, os⟩) : wpAny M A (.alloc { cls := .type "function", data := .func fd } k) Q E ⟨h, gs, d, t, os⟩ := nd_alloc (x _ _ _ rfl (D.alloc rfl))
theorem Ld.veil3 {x y : Addr × Obj} {ck P : Addr} {oK : Obj} {rest : List (Addr × Obj)} (D : Ld h₀ h chg (x :: y :: (ck, oK) :: rest)) (hb : CodeBears oK P) : ∃ o, CodeBears o P ∧ Ld h₀ h chg (x :: y :: (ck, o) :: rest) := ⟨oK, hb, D⟩
end
end Mine
end PLD
section PCC
open PySem PySem.W PyProof.Rows PySem.Spec PySem.Calls PySem.W.X
namespace Mine
noncomputable abbrev clsK (C ns b : Addr) (t2 t3 : Tok) : Obj := { cls := .type "type", data := .cls { name := Str.ofString "K", bases := [.type "object"], mro := [.ref C, .type "object"], ns := ns, qualname := Str.ofString "cmp_to_key.<locals>.K", hasDict := false, slotNames := [Str.ofString "obj"] }, slots := #[some (.ref b), none, some (.str (Str.ofString "K") t2), some (.str (Str.ofString "cmp_to_key.<locals>.K") t3), some (.builtin "object.__new__"), some (.bool false)] }
noncomputable abbrev supK (C : Addr) : Obj := { cls := .type "super", data := .fields #[.ref C, .ref C, .ref C] }
section
variable {prog : Program} {w : World} {A : Around} {h : Heap} {gs : Array GenState} {d : Drawn} {t : Nat} {os : OsState} {E : Value → Shared → Prop} {g : Bool} {l : List Value} {Q : Result → Shared → Prop}
theorem call_split {α : Type} {M : Model} {c : Code} {hd : Option Value} {k' : Result → Sem α} {Q : α → Shared → Prop} {s : Shared} (h : wpAny M A (.call c hd g l Sem.pure) (fun r s' => wpAny M A (k' r) Q E s') E s) : wpAny M A (.call c hd g l k') Q E s := wpAny_bind (m := Sem.call c hd g l Sem.pure) (f := k') h
set_option hygiene false in
local macro_rules | `(tactic| x_close) => `(tactic| first | exact k _ _ (by assumption) | exact k)
theorem c_collect {sl : Addr} {tk e : Nat} (hsl : h.get? sl = some { cls := .type "list", data := .seq #[.str (S "obj") tk] e })
  (k : ∀ a h', Mem h h' [] [(a, { cls := .type "list", data := .seq #[.str (S "obj") tk] 1 })] → Q (.ok (.ret (.ref a))) ⟨h', gs, d, t, os⟩) :
  wpAny (model prog w) A (.call (.builtin "proto.collect" ⟨[.ref sl], []⟩) none g l Sem.pure) Q E ⟨h, gs, d, t, os⟩ := by
  (try unfold clsK at hC)
  x_run
theorem c_super {C ns b : Addr} {t2 t3 : Tok} (hC : h.get? C = some (clsK C ns b t2 t3))
  (k : ∀ a h', Mem h h' [] [(a, supK C)] → Q (.ok (.ret (.ref a))) ⟨h', gs, d, t, os⟩) :
  wpAny (model prog w) A (.call (.call (.type "super") ⟨[.ref C, .ref C], []⟩) none g l Sem.pure) Q E ⟨h, gs, d, t, os⟩ := by
  (try unfold clsK at hC)
  x_run
theorem c_get {C ns b : Addr} {t2 t3 : Tok} (hC : h.get? C = some (clsK C ns b t2 t3))
  (k : ∀ a h', Mem h h' [] [(a, { cls := .type "builtin_function_or_method", data := .fields #[.builtin "object.__init_subclass__", .ref C] })] → Q (.ok (.ret (.ref a))) ⟨h', gs, d, t, os⟩) :
  wpAny (model prog w) A (.call (.call (.builtin "classmethod_descriptor.__get__") ⟨[.builtin "object.__init_subclass__", .none, .ref C], []⟩) none g l Sem.pure) Q E ⟨h, gs, d, t, os⟩ := by
  (try unfold clsK at hC)
  x_run
theorem c_initsub {C ns b a : Addr} {t2 t3 : Tok} (hC : h.get? C = some (clsK C ns b t2 t3))
  (ha : h.get? a = some { cls := .type "builtin_function_or_method", data := .fields #[.builtin "object.__init_subclass__", .ref C] })
  (k : Q (.ok (.ret .none)) ⟨h, gs, d, t, os⟩) :
  wpAny (model prog w) A (.call (.call (.ref a) ⟨[], []⟩) none g l Sem.pure) Q E ⟨h, gs, d, t, os⟩ := by
  (try unfold clsK at hC)
  x_run
end
end Mine
end PCC
section PCC2
open PySem PySem.W PyProof.Rows PySem.Spec PySem.Calls PySem.W.X
namespace Mine
section
variable {prog : Program} {w : World} {A : Around} {h : Heap} {gs : Array GenState} {d : Drawn} {t : Nat} {os : OsState} {E : Value → Shared → Prop} {g : Bool} {l : List Value} {Q : Result → Shared → Prop}
set_option hygiene false in
local macro_rules | `(tactic| x_close) => `(tactic| exact k _ _ (by assumption))
noncomputable abbrev prepM : Obj := { cls := .type "builtin_function_or_method", data := .fields #[.builtin "type.__prepare__", .type "type"] }
theorem c_prepget {u : Tok} (k : ∀ a h', Mem h h' [] [(a, prepM)] → Q (.ok (.ret (.ref a))) ⟨h', gs, d, t, os⟩) :
  wpAny (model prog w) A (.call (.call (.builtin "type.__getattribute__") ⟨[.type "type", .str (Str.ofString "__prepare__") u], []⟩) none g l Sem.pure) Q E ⟨h, gs, d, t, os⟩ := by
  x_run
theorem c_prep {a b : Addr} {u : Tok} (ha : h.get? a = some prepM) (k : ∀ a h', Mem h h' [] [(a, { cls := .type "dict", data := .dict #[] })] → Q (.ok (.ret (.ref a))) ⟨h', gs, d, t, os⟩) :
  wpAny (model prog w) A (.call (.call (.ref a) ⟨[.str (S "K") u, .ref b], []⟩) none g l Sem.pure) Q E ⟨h, gs, d, t, os⟩ := by
  unfold prepM at ha
  x_run
end
end Mine
end PCC2
section PSG
open PySem PySem.W PyProof.Rows PySem.Spec PySem.Calls PySem.W.X
namespace Mine
set_option hygiene false
theorem dw {v : Value} {l : List Value} : List.drop 1 (List.dropWhile (fun x => x != v) (v :: l)) = l := by simp
theorem sg_e1 : (toString "classmethod_descriptor" ++ toString "." ++ toString (Str.ofString "__get__").toString) = "classmethod_descriptor.__get__" := by kernel_rfl
theorem sg_e2 : (toString "object" ++ toString "." ++ toString (Str.ofString "__init_subclass__").toString) = "object.__init_subclass__" := by kernel_rfl
section
variable {prog : Program} {w : World} {A : Around} {h : Heap} {gs : Array GenState} {d : Drawn} {t : Nat} {os : OsState} {E : Value → Shared → Prop} {g : Bool} {l : List Value} {Q : Result → Shared → Prop}
theorem entry_sg : entryFor table "super.__getattribute__" = some Builtin.«super.__getattribute__» := PySem.F.ks_entry_super_ga
theorem c_sg {so C ns b : Addr} {t2 t3 u : Tok} (hS : h.get? so = some (supK C)) (hC : h.get? C = some (clsK C ns b t2 t3)) (h2 : h.get? cStatics = some { cls := .none, data := .dict #[] })
  (k : ∀ a h', Mem h h' [] [(a, { cls := .type "builtin_function_or_method", data := .fields #[.builtin "object.__init_subclass__", .ref C] })] → Q (.ok (.ret (.ref a))) ⟨h', gs, d, t, os⟩) :
  wpAny (model prog w) A (.call (.call (.builtin "super.__getattribute__") ⟨[.ref so, .str (Str.ofString "__init_subclass__") u], []⟩) none g l Sem.pure) Q E ⟨h, gs, d, t, os⟩ := by
  refine x_call (codeAny_call_builtin_code (plainId_quiet (by decide +kernel) _) ?_) (by intro h; cases h)
  have D := Ld.start h
  repeat (first | (with_reducible refine hQ9 _ _ ?_; clear hQ9 Q9) | with_reducible refine nd_pure ?_ | with_reducible refine bindV (fun Q9 hQ9 => ?_) | with_reducible refine nbindV (fun Q9 hQ9 => ?_) | with_reducible refine wpAny_pure ?_ | ((fail_if_success (with_reducible refine' gate ?gg ?_; (case gg => with_reducible constructor))); k_node) | with_reducible refine nd_rule ?_ | with_reducible refine nd_point ?_ | with_reducible refine nd_ask ?_ | with_reducible refine m_fresh ?_ | with_reducible refine x_at ?_ | with_reducible refine wpAny_holding ?_ | with_reducible refine onRaiseV (fun E9 => ?_) | with_reducible refine wpAny_tryCatch ?_ | ((with_reducible show wpAny _ _ (Sem.load _ _ _) _ _ _); (first | (refine m_load 0 D rfl ?_) | (refine m_load 1 D rfl ?_) | (refine m_load 2 D rfl ?_) | (refine m_load 3 D rfl ?_) | (refine m_load 4 D rfl ?_) | (refine m_load 5 D rfl ?_) | (refine m_old D (by with_reducible assumption) rfl ?_))) | ((with_reducible show wpAny _ _ (Sem.update _ _ _ _) _ _ _); (((first | refine m_update 0 D rfl rfl rfl ?_ | refine m_update 1 D rfl rfl rfl ?_ | refine m_update 2 D rfl rfl rfl ?_ | refine m_update 3 D rfl rfl rfl ?_); ((clear D; intro h' D; dsimp only [List.set_cons_zero, List.set_cons_succ, List.cons_append, List.nil_append, List.eraseIdx_cons_succ, List.eraseIdx_cons_zero, List.length_cons, List.length_nil, Nat.reduceAdd, Nat.reduceSub, List.replicate_zero, List.replicate_succ, List.append_nil] at D; skip))))) | ((with_reducible show wpAny _ _ (Sem.call _ _ _ _ _) _ _ _); (with_reducible refine call_split ?_); ((simp only [sg_e1, sg_e2, List.getElem_cons_succ, List.getElem_cons_zero, beq_self_eq_true, if_true]; refine c_get (C := C) hC (fun a h' D' => ?_)))) | ((with_reducible show wpAny _ _ (Sem.alloc _ _) _ _ _); ((with_reducible refine m_alloc D rfl ?_; clear D; intro a h' D; skip))) | (first | with_reducible refine ite_no (by decide +kernel) ?_ | with_reducible refine ite_yes (by decide +kernel) ?_ | (with_reducible refine' ite_no ?q1 ?_; (case q1 => ((with_reducible show ¬ (_ == _) = true); simp only [beq_iff_eq]; assumption)))) | (first | (simp only [List.getElem_toArray, List.getElem_cons_zero, dw]) | (first | ((with_reducible show wpAny _ _ (nsGet _ _) _ _ _); first | refine m_nsGet 0 D rfl (by k_get) ?_ | refine m_nsGet 1 D rfl (by k_get) ?_ | refine m_nsGet 2 D rfl (by k_get) ?_ | refine m_nsGet 3 D rfl (by k_get) ?_ | refine m_nsGetO D (by with_reducible assumption) rfl (by k_get) ?_) | ((with_reducible show wpAny _ _ (nsSet _ _ _) _ _ _); (first | refine m_nsSet 0 D rfl ?qk ?_ | refine m_nsSet 1 D rfl ?qk ?_ | refine m_nsSet 2 D rfl ?qk ?_ | refine m_nsSet 3 D rfl ?qk ?_); (case qk => kernel_rfl); ((clear D; intro h' D; dsimp only [List.set_cons_zero, List.set_cons_succ, List.cons_append, List.nil_append, List.eraseIdx_cons_succ, List.eraseIdx_cons_zero, List.length_cons, List.length_nil, Nat.reduceAdd, Nat.reduceSub, List.replicate_zero, List.replicate_succ, List.append_nil] at D; skip))) | ((with_reducible show wpAny _ _ (nsSetByValue _ _ _) _ _ _); (first | refine m_nsSetV 0 D rfl ?qk (by decide) ?_ | refine m_nsSetV 1 D rfl ?qk (by decide) ?_ | refine m_nsSetV 2 D rfl ?qk (by decide) ?_ | refine m_nsSetV 3 D rfl ?qk (by decide) ?_); (case qk => kernel_rfl); ((clear D; intro h' D; dsimp only [List.set_cons_zero, List.set_cons_succ, List.cons_append, List.nil_append, List.eraseIdx_cons_succ, List.eraseIdx_cons_zero, List.length_cons, List.length_nil, Nat.reduceAdd, Nat.reduceSub, List.replicate_zero, List.replicate_succ, List.append_nil] at D; skip))) | ((with_reducible show wpAny _ _ (setSlotAt _ _ _) _ _ _); (first | refine m_slot 0 D rfl (by decide) rfl ?_ | refine m_slot 1 D rfl (by decide) rfl ?_ | refine m_slot 2 D rfl (by decide) rfl ?_); ((clear D; intro h' D; dsimp only [List.set_cons_zero, List.set_cons_succ, List.cons_append, List.nil_append, List.eraseIdx_cons_succ, List.eraseIdx_cons_zero, List.length_cons, List.length_nil, Nat.reduceAdd, Nat.reduceSub, List.replicate_zero, List.replicate_succ, List.append_nil] at D; skip))) | ((with_reducible show wpAny _ _ (updateCls _ _) _ _ _); (first | refine m_cls 0 D rfl rfl ?_ | refine m_cls 1 D rfl rfl ?_ | refine m_cls 2 D rfl rfl ?_); ((clear D; intro h' D; dsimp only [List.set_cons_zero, List.set_cons_succ, List.cons_append, List.nil_append, List.eraseIdx_cons_succ, List.eraseIdx_cons_zero, List.length_cons, List.length_nil, Nat.reduceAdd, Nat.reduceSub, List.replicate_zero, List.replicate_succ, List.append_nil] at D; skip))))) | ((fail_if_success (with_reducible show wpAny _ _ (Sem.load _ _ _) _ _ _)); k_node) | (first | with_reducible refine ite_no (by decide +kernel) ?_ | with_reducible refine ite_yes (by decide +kernel) ?_))
  refine codeAny_builtin entry_sg ?_
  unfold Builtin.«super.__getattribute__»
  repeat (first | (with_reducible refine hQ9 _ _ ?_; clear hQ9 Q9) | with_reducible refine nd_pure ?_ | with_reducible refine bindV (fun Q9 hQ9 => ?_) | with_reducible refine nbindV (fun Q9 hQ9 => ?_) | with_reducible refine wpAny_pure ?_ | ((fail_if_success (with_reducible refine' gate ?gg ?_; (case gg => with_reducible constructor))); k_node) | with_reducible refine nd_rule ?_ | with_reducible refine nd_point ?_ | with_reducible refine nd_ask ?_ | with_reducible refine m_fresh ?_ | with_reducible refine x_at ?_ | with_reducible refine wpAny_holding ?_ | with_reducible refine onRaiseV (fun E9 => ?_) | with_reducible refine wpAny_tryCatch ?_ | ((with_reducible show wpAny _ _ (Sem.load _ _ _) _ _ _); (first | (refine m_load 0 D rfl ?_) | (refine m_load 1 D rfl ?_) | (refine m_load 2 D rfl ?_) | (refine m_load 3 D rfl ?_) | (refine m_load 4 D rfl ?_) | (refine m_load 5 D rfl ?_) | (refine m_old D (by with_reducible assumption) rfl ?_))) | ((with_reducible show wpAny _ _ (Sem.update _ _ _ _) _ _ _); (((first | refine m_update 0 D rfl rfl rfl ?_ | refine m_update 1 D rfl rfl rfl ?_ | refine m_update 2 D rfl rfl rfl ?_ | refine m_update 3 D rfl rfl rfl ?_); ((clear D; intro h' D; dsimp only [List.set_cons_zero, List.set_cons_succ, List.cons_append, List.nil_append, List.eraseIdx_cons_succ, List.eraseIdx_cons_zero, List.length_cons, List.length_nil, Nat.reduceAdd, Nat.reduceSub, List.replicate_zero, List.replicate_succ, List.append_nil] at D; skip))))) | ((with_reducible show wpAny _ _ (Sem.call _ _ _ _ _) _ _ _); (with_reducible refine call_split ?_); ((simp only [sg_e1, sg_e2, List.getElem_cons_succ, List.getElem_cons_zero, beq_self_eq_true, if_true]; refine c_get (C := C) hC (fun a h' D' => ?_)))) | ((with_reducible show wpAny _ _ (Sem.alloc _ _) _ _ _); ((with_reducible refine m_alloc D rfl ?_; clear D; intro a h' D; skip))) | (first | with_reducible refine ite_no (by decide +kernel) ?_ | with_reducible refine ite_yes (by decide +kernel) ?_ | (with_reducible refine' ite_no ?q1 ?_; (case q1 => ((with_reducible show ¬ (_ == _) = true); simp only [beq_iff_eq]; assumption)))) | (first | (simp only [List.getElem_toArray, List.getElem_cons_zero, dw]) | (first | ((with_reducible show wpAny _ _ (nsGet _ _) _ _ _); first | refine m_nsGet 0 D rfl (by k_get) ?_ | refine m_nsGet 1 D rfl (by k_get) ?_ | refine m_nsGet 2 D rfl (by k_get) ?_ | refine m_nsGet 3 D rfl (by k_get) ?_ | refine m_nsGetO D (by with_reducible assumption) rfl (by k_get) ?_) | ((with_reducible show wpAny _ _ (nsSet _ _ _) _ _ _); (first | refine m_nsSet 0 D rfl ?qk ?_ | refine m_nsSet 1 D rfl ?qk ?_ | refine m_nsSet 2 D rfl ?qk ?_ | refine m_nsSet 3 D rfl ?qk ?_); (case qk => kernel_rfl); ((clear D; intro h' D; dsimp only [List.set_cons_zero, List.set_cons_succ, List.cons_append, List.nil_append, List.eraseIdx_cons_succ, List.eraseIdx_cons_zero, List.length_cons, List.length_nil, Nat.reduceAdd, Nat.reduceSub, List.replicate_zero, List.replicate_succ, List.append_nil] at D; skip))) | ((with_reducible show wpAny _ _ (nsSetByValue _ _ _) _ _ _); (first | refine m_nsSetV 0 D rfl ?qk (by decide) ?_ | refine m_nsSetV 1 D rfl ?qk (by decide) ?_ | refine m_nsSetV 2 D rfl ?qk (by decide) ?_ | refine m_nsSetV 3 D rfl ?qk (by decide) ?_); (case qk => kernel_rfl); ((clear D; intro h' D; dsimp only [List.set_cons_zero, List.set_cons_succ, List.cons_append, List.nil_append, List.eraseIdx_cons_succ, List.eraseIdx_cons_zero, List.length_cons, List.length_nil, Nat.reduceAdd, Nat.reduceSub, List.replicate_zero, List.replicate_succ, List.append_nil] at D; skip))) | ((with_reducible show wpAny _ _ (setSlotAt _ _ _) _ _ _); (first | refine m_slot 0 D rfl (by decide) rfl ?_ | refine m_slot 1 D rfl (by decide) rfl ?_ | refine m_slot 2 D rfl (by decide) rfl ?_); ((clear D; intro h' D; dsimp only [List.set_cons_zero, List.set_cons_succ, List.cons_append, List.nil_append, List.eraseIdx_cons_succ, List.eraseIdx_cons_zero, List.length_cons, List.length_nil, Nat.reduceAdd, Nat.reduceSub, List.replicate_zero, List.replicate_succ, List.append_nil] at D; skip))) | ((with_reducible show wpAny _ _ (updateCls _ _) _ _ _); (first | refine m_cls 0 D rfl rfl ?_ | refine m_cls 1 D rfl rfl ?_ | refine m_cls 2 D rfl rfl ?_); ((clear D; intro h' D; dsimp only [List.set_cons_zero, List.set_cons_succ, List.cons_append, List.nil_append, List.eraseIdx_cons_succ, List.eraseIdx_cons_zero, List.length_cons, List.length_nil, Nat.reduceAdd, Nat.reduceSub, List.replicate_zero, List.replicate_succ, List.append_nil] at D; skip))))) | ((fail_if_success (with_reducible show wpAny _ _ (Sem.load _ _ _) _ _ _)); k_node) | (first | with_reducible refine ite_no (by decide +kernel) ?_ | with_reducible refine ite_yes (by decide +kernel) ?_))
  exact k _ _ D'
end
end Mine
end PSG
section PTN3
open PySem PySem.W PyProof.Rows PySem.Spec PySem.Calls PySem.W.X
namespace Mine
set_option hygiene false
noncomputable abbrev nsE (P : Params) (sl f0 f1 f2 f3 f4 f5 sa : Addr) (u : Nat → Tok) : List DictEntry :=
  [⟨PyData.keyHash P (S "__module__"), .str (S "__module__") (u 0), .str (S "cpy313.functools") (u 1)⟩,
   ⟨PyData.keyHash P (S "__qualname__"), .str (S "__qualname__") (u 2), .str (S "cmp_to_key.<locals>.K") (u 3)⟩,
   ⟨PyData.keyHash P (S "__firstlineno__"), .str (S "__firstlineno__") (u 4), .int 98 (u 5)⟩,
   ⟨PyData.keyHash P (S "__slots__"), .str (S "__slots__") (u 6), .ref sl⟩,
   ⟨PyData.keyHash P (S "__init__"), .str (S "__init__") (u 7), .ref f0⟩,
   ⟨PyData.keyHash P (S "__lt__"), .str (S "__lt__") (u 8), .ref f1⟩,
   ⟨PyData.keyHash P (S "__gt__"), .str (S "__gt__") (u 9), .ref f2⟩,
   ⟨PyData.keyHash P (S "__eq__"), .str (S "__eq__") (u 10), .ref f3⟩,
   ⟨PyData.keyHash P (S "__le__"), .str (S "__le__") (u 11), .ref f4⟩,
   ⟨PyData.keyHash P (S "__ge__"), .str (S "__ge__") (u 12), .ref f5⟩,
   ⟨PyData.keyHash P (S "__hash__"), .str (S "__hash__") (u 13), .none⟩,
   ⟨PyData.keyHash P (S "__static_attributes__"), .str (S "__static_attributes__") (u 14), .ref sa⟩]
theorem tn_id : Builtin.Slots.isIdentifier (S "obj") = some true := by decide +kernel
theorem tn_el {h} : (#[].push (S "obj"))[(#[].push (S "obj")).size - 1 - 0]'h = S "obj" := rfl
theorem tn_mangle : Builtin.Slots.mangle (S "K") (S "obj") = S "obj" := by decide +kernel
theorem tn_any {P : Params} {sl f0 f1 f2 f3 f4 f5 sa : Addr} {u : Nat → Tok} : ((nsE P sl f0 f1 f2 f3 f4 f5 sa u).toArray.any fun a => a.key.isStr (S "obj")) = false := by kernel_rfl
theorem tn_filt {a : Addr} : List.filter (fun x => x != Value.ref a) [Value.ref a, Value.type "object"] = [Value.type "object"] := by simp
theorem tn_mod {P : Params} {sl f0 f1 f2 f3 f4 f5 sa : Addr} {u : Nat → Tok} : ((nsE P sl f0 f1 f2 f3 f4 f5 sa u).toArray.any fun a => a.key.isStr (Str.ofString "__module__")) = true := by kernel_rfl
theorem tn_del {P : Params} {sl f0 f1 f2 f3 f4 f5 sa : Addr} {u : Nat → Tok} : ((nsE P sl f0 f1 f2 f3 f4 f5 sa u).toArray.any fun a => a.key.isStr (Str.ofString "__del__")) = false := by kernel_rfl
noncomputable abbrev mdK (C : Addr) (tk : Tok) : Obj := { cls := .type "member_descriptor", data := .fields #[.str (S "obj") tk, .ref C, .builtin "proto.slot", .builtin "proto.slot#set", .int 0 0] }
noncomputable abbrev nsK (P : Params) (sl f0 f1 f2 f3 f4 f5 sa md : Addr) (u : Nat → Tok) (t : Nat) : List DictEntry :=
  [⟨PyData.keyHash P (S "__module__"), .str (S "__module__") (u 0), .str (S "cpy313.functools") (u 1)⟩,
   ⟨PyData.keyHash P (S "__firstlineno__"), .str (S "__firstlineno__") (u 4), .int 98 (u 5)⟩,
   ⟨PyData.keyHash P (S "__slots__"), .str (S "__slots__") (u 6), .ref sl⟩,
   ⟨PyData.keyHash P (S "__init__"), .str (S "__init__") (u 7), .ref f0⟩,
   ⟨PyData.keyHash P (S "__lt__"), .str (S "__lt__") (u 8), .ref f1⟩,
   ⟨PyData.keyHash P (S "__gt__"), .str (S "__gt__") (u 9), .ref f2⟩,
   ⟨PyData.keyHash P (S "__eq__"), .str (S "__eq__") (u 10), .ref f3⟩,
   ⟨PyData.keyHash P (S "__le__"), .str (S "__le__") (u 11), .ref f4⟩,
   ⟨PyData.keyHash P (S "__ge__"), .str (S "__ge__") (u 12), .ref f5⟩,
   ⟨PyData.keyHash P (S "__hash__"), .str (S "__hash__") (u 13), .none⟩,
   ⟨PyData.keyHash P (S "__static_attributes__"), .str (S "__static_attributes__") (u 14), .ref sa⟩,
   ⟨PyData.keyHash P (S "obj"), .str (S "obj") (t + 1), .ref md⟩,
   ⟨PyData.keyHash P (S "__doc__"), .str (S "__doc__") (t + 2), .none⟩]
theorem tn_norm {h₀ h : Heap} {md C ns l b : Addr} {oM oC oN oL : Obj} {t2 t3 tk : Tok} {P : Params} {sl f0 f1 f2 f3 f4 f5 sa : Addr} {u : Nat → Tok} {t e : Nat} (D : Ld h₀ h [] [(md, oM), (C, oC), (ns, oN), (l, oL)]) (e1 : oM = mdK C tk) (e2 : oC = clsK C ns b t2 t3)
    (e3 : oN = { cls := .type "dict", data := .dict (nsK P sl f0 f1 f2 f3 f4 f5 sa md u t).toArray e }) : Ld h₀ h [] [(md, mdK C tk), (C, clsK C ns b t2 t3), (ns, { cls := .type "dict", data := .dict (nsK P sl f0 f1 f2 f3 f4 f5 sa md u t).toArray e }), (l, oL)] := by subst e1 e2 e3; exact D
noncomputable abbrev fnObj (fd : FuncData) : Obj := { cls := .type "function", data := .func fd }
theorem tn {prog : Program} {w : World} {A : Around} {h₀ : Heap} {gs : Array GenState} {d : Drawn} {t : Nat} {os : OsState} {b n sl f0 f1 f2 f3 f4 f5 sa : Addr} {u : Nat → Tok} {un : Tok} {e1 e2 e3 : Nat} {fd0 fd1 fd2 fd3 fd4 fd5 : FuncData} {Q : PySem.Fin → Shared → Prop} {E : Value → Shared → Prop}
   (hb : h₀.get? b = some { cls := .type "tuple", data := .seq #[.type "object"] e1 })
   (hn : h₀.get? n = some { cls := .type "dict", data := .dict (nsE w.params sl f0 f1 f2 f3 f4 f5 sa u).toArray e2 })
   (hsl : h₀.get? sl = some { cls := .type "list", data := .seq #[.str (S "obj") (u 15)] e3 })
   (h0 : h₀.get? f0 = some (fnObj fd0)) (h1 : h₀.get? f1 = some (fnObj fd1)) (h2 : h₀.get? f2 = some (fnObj fd2)) (h3 : h₀.get? f3 = some (fnObj fd3)) (h4 : h₀.get? f4 = some (fnObj fd4)) (h5 : h₀.get? f5 = some (fnObj fd5))
   (hsa : h₀.get? sa = some { cls := .type "tuple", data := .seq #[.str (S "obj") (u 16)] e3 })
   (hn2 : ¬ n = sysModules) (hcs : h₀.get? cStatics = some { cls := .none, data := .dict #[] })
   (k : ∀ x y md C ns l h', Ld h₀ h' [] [(x, { cls := .type "builtin_function_or_method", data := .fields #[.builtin "object.__init_subclass__", .ref C] }), (y, supK C), (md, mdK C t), (C, clsK C ns b un (u 3)), (ns, { cls := .type "dict", data := .dict (nsK w.params sl f0 f1 f2 f3 f4 f5 sa md u t).toArray 3 }), (l, { cls := .type "list", data := .seq #[.str (S "obj") (u 15)] 1 })] →
     Q (.done (.ret (.ref C))) ⟨h', gs, d, t + 4, os⟩) :
   wpAny (model prog w) A (Builtin.«type.__new__» ⟨[.type "type", .str (S "K") un, .ref b, .ref n], []⟩) Q E ⟨h₀, gs, d, t, os⟩ := by
  have D := Ld.start h₀
  unfold Builtin.«type.__new__»
  repeat ((first | (with_reducible refine hQ9 _ _ ?_; clear hQ9 Q9) | with_reducible refine nd_pure ?_ | with_reducible refine bindV (fun Q9 hQ9 => ?_) | with_reducible refine nbindV (fun Q9 hQ9 => ?_) | with_reducible refine wpAny_pure ?_ | ((fail_if_success (with_reducible refine' gate ?gg ?_; (case gg => with_reducible constructor))); k_node) | with_reducible refine nd_rule ?_ | with_reducible refine nd_point ?_ | with_reducible refine nd_ask ?_ | with_reducible refine m_fresh ?_ | with_reducible refine x_at ?_ | with_reducible refine wpAny_holding ?_ | with_reducible refine onRaiseV (fun E9 => ?_) | with_reducible refine wpAny_tryCatch ?_ | ((with_reducible show wpAny _ _ (Sem.load _ _ _) _ _ _); (first | (refine m_load 0 D rfl ?_) | (refine m_load 1 D rfl ?_) | (refine m_load 2 D rfl ?_) | (refine m_load 3 D rfl ?_) | (refine m_load 4 D rfl ?_) | (refine m_load 5 D rfl ?_) | (refine m_old D (by with_reducible assumption) rfl ?_))) | ((with_reducible show wpAny _ _ (Sem.update _ _ _ _) _ _ _); (((first | refine m_update 0 D rfl rfl rfl ?_ | refine m_update 1 D rfl rfl rfl ?_ | refine m_update 2 D rfl rfl rfl ?_ | refine m_update 3 D rfl rfl rfl ?_); ((clear D; intro h' D; dsimp only [List.set_cons_zero, List.set_cons_succ, List.cons_append, List.nil_append, List.eraseIdx_cons_succ, List.eraseIdx_cons_zero, List.length_cons, List.length_nil, Nat.reduceAdd, Nat.reduceSub, List.replicate_zero, List.replicate_succ, List.append_nil] at D; (try simp only [Option.getD_some, List.isEmpty_cons, Bool.false_eq_true, if_false, tn_del, Bool.false_or] at D)))))) | ((with_reducible show wpAny _ _ (Sem.call _ _ _ _ _) _ _ _); (with_reducible refine call_split ?_); (first | (refine c_collect (sl := sl) (Ld.keep D _ _ hsl rfl) (fun a h' D' => ?_); replace D := Ld.trans D D'; clear D'; dsimp only [List.cons_append, List.nil_append] at D) | ((replace D := tn_norm (b := b) (t2 := un) (t3 := u 3) (tk := t) (P := w.params) (sl := sl) (f0 := f0) (f1 := f1) (f2 := f2) (f3 := f3) (f4 := f4) (f5 := f5) (sa := sa) (u := u) (t := t) (e := 3) D (by kernel_rfl) (by kernel_rfl) (by kernel_rfl)); refine c_super (Ld.at D 1 rfl) (fun a h' D' => ?_); replace D := Ld.trans D D'; clear D'; dsimp only [List.cons_append, List.nil_append] at D) | (refine c_sg (Ld.at D 0 rfl) (Ld.at D 2 rfl) (Ld.keep D _ _ hcs rfl) (fun a h' D' => ?_); replace D := Ld.trans D D'; clear D'; dsimp only [List.cons_append, List.nil_append] at D) | refine c_initsub (Ld.at D 3 rfl) (Ld.at D 0 rfl) ?_)) | ((with_reducible show wpAny _ _ (Sem.alloc _ _) _ _ _); ((with_reducible refine m_alloc D rfl ?_; clear D; intro a h' D; (try simp only [Option.getD_some, List.isEmpty_cons, Bool.false_eq_true, if_false, tn_del, Bool.false_or] at D)))) | (first | with_reducible refine ite_no (by decide +kernel) ?_ | with_reducible refine ite_yes (by decide +kernel) ?_ | (with_reducible refine' ite_no ?q1 ?_; (case q1 => ((with_reducible show ¬ (_ == _) = true); simp only [beq_iff_eq]; assumption)))) | (first | (((with_reducible show wpAny _ _ (nsDel _ _) _ _ _); (refine m_nsDel 1 1 D rfl ?qk ?_); (case qk => kernel_rfl); ((clear D; intro h' D; dsimp only [List.set_cons_zero, List.set_cons_succ, List.cons_append, List.nil_append, List.eraseIdx_cons_succ, List.eraseIdx_cons_zero, List.length_cons, List.length_nil, Nat.reduceAdd, Nat.reduceSub, List.replicate_zero, List.replicate_succ, List.append_nil] at D; (try simp only [Option.getD_some, List.isEmpty_cons, Bool.false_eq_true, if_false, tn_del, Bool.false_or] at D))))) | (first | ((with_reducible show wpAny _ _ (nsGet _ _) _ _ _); first | refine m_nsGet 0 D rfl (by k_get) ?_ | refine m_nsGet 1 D rfl (by k_get) ?_ | refine m_nsGet 2 D rfl (by k_get) ?_ | refine m_nsGet 3 D rfl (by k_get) ?_ | refine m_nsGetO D (by with_reducible assumption) rfl (by k_get) ?_) | ((with_reducible show wpAny _ _ (nsSet _ _ _) _ _ _); (first | refine m_nsSet 0 D rfl ?qk ?_ | refine m_nsSet 1 D rfl ?qk ?_ | refine m_nsSet 2 D rfl ?qk ?_ | refine m_nsSet 3 D rfl ?qk ?_); (case qk => kernel_rfl); ((clear D; intro h' D; dsimp only [List.set_cons_zero, List.set_cons_succ, List.cons_append, List.nil_append, List.eraseIdx_cons_succ, List.eraseIdx_cons_zero, List.length_cons, List.length_nil, Nat.reduceAdd, Nat.reduceSub, List.replicate_zero, List.replicate_succ, List.append_nil] at D; (try simp only [Option.getD_some, List.isEmpty_cons, Bool.false_eq_true, if_false, tn_del, Bool.false_or] at D)))) | ((with_reducible show wpAny _ _ (nsSetByValue _ _ _) _ _ _); (first | refine m_nsSetV 0 D rfl ?qk (by decide) ?_ | refine m_nsSetV 1 D rfl ?qk (by decide) ?_ | refine m_nsSetV 2 D rfl ?qk (by decide) ?_ | refine m_nsSetV 3 D rfl ?qk (by decide) ?_); (case qk => kernel_rfl); ((clear D; intro h' D; dsimp only [List.set_cons_zero, List.set_cons_succ, List.cons_append, List.nil_append, List.eraseIdx_cons_succ, List.eraseIdx_cons_zero, List.length_cons, List.length_nil, Nat.reduceAdd, Nat.reduceSub, List.replicate_zero, List.replicate_succ, List.append_nil] at D; (try simp only [Option.getD_some, List.isEmpty_cons, Bool.false_eq_true, if_false, tn_del, Bool.false_or] at D)))) | ((with_reducible show wpAny _ _ (setSlotAt _ _ _) _ _ _); (first | refine m_slot 0 D rfl (by decide) rfl ?_ | refine m_slot 1 D rfl (by decide) rfl ?_ | refine m_slot 2 D rfl (by decide) rfl ?_); ((clear D; intro h' D; dsimp only [List.set_cons_zero, List.set_cons_succ, List.cons_append, List.nil_append, List.eraseIdx_cons_succ, List.eraseIdx_cons_zero, List.length_cons, List.length_nil, Nat.reduceAdd, Nat.reduceSub, List.replicate_zero, List.replicate_succ, List.append_nil] at D; (try simp only [Option.getD_some, List.isEmpty_cons, Bool.false_eq_true, if_false, tn_del, Bool.false_or] at D)))) | ((with_reducible show wpAny _ _ (updateCls _ _) _ _ _); (first | refine m_cls 0 D rfl rfl ?_ | refine m_cls 1 D rfl rfl ?_ | refine m_cls 2 D rfl rfl ?_); ((clear D; intro h' D; dsimp only [List.set_cons_zero, List.set_cons_succ, List.cons_append, List.nil_append, List.eraseIdx_cons_succ, List.eraseIdx_cons_zero, List.length_cons, List.length_nil, Nat.reduceAdd, Nat.reduceSub, List.replicate_zero, List.replicate_succ, List.append_nil] at D; (try simp only [Option.getD_some, List.isEmpty_cons, Bool.false_eq_true, if_false, tn_del, Bool.false_or] at D)))))) | ((fail_if_success (with_reducible show wpAny _ _ (Sem.load _ _ _) _ _ _)); k_node) | (first | (first | with_reducible refine ite_no (by decide +kernel) ?_ | with_reducible refine ite_yes (by decide +kernel) ?_ | (with_reducible refine' ite_no ?q1 ?_; (case q1 => (simp only [tn_mod, Bool.not_true, Bool.false_eq_true, not_false_eq_true]; done))) | simp -zeta only [tn_filt, tn_id, tn_el, tn_mangle, tn_any, Bool.false_and, Bool.false_eq_true, if_false]) | (first | with_reducible refine ite_no (by decide +kernel) ?_ | with_reducible refine ite_yes (by decide +kernel) ?_))))
  exact k _ _ _ _ _ _ _ D
end Mine
end PTN3
section PTC
open PySem PySem.W PyProof.Rows PySem.Spec PySem.Calls PySem.W.X
namespace Mine
set_option hygiene false
section
variable {prog : Program} {w : World} {A : Around} {h : Heap} {gs : Array GenState} {d : Drawn} {t : Nat} {os : OsState} {E : Value → Shared → Prop} {g : Bool} {l : List Value} {Q : Result → Shared → Prop}
local macro_rules | `(tactic| x_close) => `(tactic| exact k)
theorem c_init {C ns b b' n' : Addr} {t2 t3 un : Tok} (hC : h.get? C = some (clsK C ns b t2 t3)) (k : Q (.ok (.ret .none)) ⟨h, gs, d, t, os⟩) :
  wpAny (model prog w) A (.call (.call (.builtin "type.__init__") ⟨[.ref C, .str (S "K") un, .ref b', .ref n'], []⟩) none g l Sem.pure) Q E ⟨h, gs, d, t, os⟩ := by
  unfold clsK at hC
  x_run
end
theorem tc_e1 : (toString "type" ++ toString "." ++ toString (Str.ofString "__init__").toString) = "type.__init__" := by kernel_rfl
theorem entry_typecall : entryFor table "type.__call__" = some Builtin.«type.__call__» := PySem.F.entry_type_call
theorem entry_typenew : entryFor table "type.__new__" = some Builtin.«type.__new__» := entryFor_of_tree (by kernel_rfl)
theorem tc {prog : Program} {w : World} {A : Around} {h₀ : Heap} {gs : Array GenState} {d : Drawn} {t : Nat} {os : OsState} {b n sl f0 f1 f2 f3 f4 f5 sa : Addr} {u : Nat → Tok} {un : Tok} {e1 e2 e3 : Nat} {fd0 fd1 fd2 fd3 fd4 fd5 : FuncData} {Q : Result → Shared → Prop} {E : Value → Shared → Prop} {g : Bool} {lv : List Value}
   (hb : h₀.get? b = some { cls := .type "tuple", data := .seq #[.type "object"] e1 })
   (hn : h₀.get? n = some { cls := .type "dict", data := .dict (nsE w.params sl f0 f1 f2 f3 f4 f5 sa u).toArray e2 })
   (hsl : h₀.get? sl = some { cls := .type "list", data := .seq #[.str (S "obj") (u 15)] e3 })
   (h0 : h₀.get? f0 = some (fnObj fd0)) (h1 : h₀.get? f1 = some (fnObj fd1)) (h2 : h₀.get? f2 = some (fnObj fd2)) (h3 : h₀.get? f3 = some (fnObj fd3)) (h4 : h₀.get? f4 = some (fnObj fd4)) (h5 : h₀.get? f5 = some (fnObj fd5))
   (hsa : h₀.get? sa = some { cls := .type "tuple", data := .seq #[.str (S "obj") (u 16)] e3 })
   (hn2 : ¬ n = sysModules) (hcs : h₀.get? cStatics = some { cls := .none, data := .dict #[] })
   (k : ∀ x y md C ns l h', Ld h₀ h' [] [(x, { cls := .type "builtin_function_or_method", data := .fields #[.builtin "object.__init_subclass__", .ref C] }), (y, supK C), (md, mdK C t), (C, clsK C ns b un (u 3)), (ns, { cls := .type "dict", data := .dict (nsK w.params sl f0 f1 f2 f3 f4 f5 sa md u t).toArray 3 }), (l, { cls := .type "list", data := .seq #[.str (S "obj") (u 15)] 1 })] →
     Q (.ok (.ret (.ref C))) ⟨h', gs, d, t + 4, os⟩) :
   wpAny (model prog w) A (.call (.call (.type "type") ⟨[.str (S "K") un, .ref b, .ref n], []⟩) none g lv Sem.pure) Q E ⟨h₀, gs, d, t, os⟩ := by
  refine x_call (codeAny_of_tree ?_) (by intro h; cases h)
  have D := Ld.start h₀
  repeat ((first | (with_reducible refine hQ9 _ _ ?_; clear hQ9 Q9) | with_reducible refine nd_pure ?_ | with_reducible refine bindV (fun Q9 hQ9 => ?_) | with_reducible refine nbindV (fun Q9 hQ9 => ?_) | with_reducible refine wpAny_pure ?_ | ((fail_if_success (with_reducible refine' gate ?gg ?_; (case gg => with_reducible constructor))); k_node) | with_reducible refine nd_rule ?_ | with_reducible refine nd_point ?_ | with_reducible refine nd_ask ?_ | with_reducible refine m_fresh ?_ | with_reducible refine x_at ?_ | with_reducible refine wpAny_holding ?_ | with_reducible refine onRaiseV (fun E9 => ?_) | with_reducible refine wpAny_tryCatch ?_ | ((with_reducible show wpAny _ _ (Sem.load _ _ _) _ _ _); (first | (refine m_load 0 D rfl ?_) | (refine m_load 1 D rfl ?_) | (refine m_load 2 D rfl ?_) | (refine m_load 3 D rfl ?_) | (refine m_load 4 D rfl ?_) | (refine m_load 5 D rfl ?_) | (refine m_old D (by with_reducible assumption) rfl ?_))) | ((with_reducible show wpAny _ _ (Sem.update _ _ _ _) _ _ _); (((first | refine m_update 0 D rfl rfl rfl ?_ | refine m_update 1 D rfl rfl rfl ?_ | refine m_update 2 D rfl rfl rfl ?_ | refine m_update 3 D rfl rfl rfl ?_); ((clear D; intro h' D; dsimp only [List.set_cons_zero, List.set_cons_succ, List.cons_append, List.nil_append, List.eraseIdx_cons_succ, List.eraseIdx_cons_zero, List.length_cons, List.length_nil, Nat.reduceAdd, Nat.reduceSub, List.replicate_zero, List.replicate_succ, List.append_nil] at D; skip))))) | ((with_reducible show wpAny _ _ (Sem.call _ _ _ _ _) _ _ _); (with_reducible refine call_split ?_); ((simp only [tc_e1]; refine c_init (Ld.at D 3 rfl) ?_))) | ((with_reducible show wpAny _ _ (Sem.alloc _ _) _ _ _); ((with_reducible refine m_alloc D rfl ?_; clear D; intro a h' D; skip))) | (first | with_reducible refine ite_no (by decide +kernel) ?_ | with_reducible refine ite_yes (by decide +kernel) ?_ | (with_reducible refine' ite_no ?q1 ?_; (case q1 => ((with_reducible show ¬ (_ == _) = true); simp only [beq_iff_eq]; assumption)))) | (first | ((with_reducible show wpAny _ _ (nsGet _ _) _ _ _); first | refine m_nsGet 0 D rfl (by k_get) ?_ | refine m_nsGet 1 D rfl (by k_get) ?_ | refine m_nsGet 2 D rfl (by k_get) ?_ | refine m_nsGet 3 D rfl (by k_get) ?_ | refine m_nsGetO D (by with_reducible assumption) rfl (by k_get) ?_) | ((with_reducible show wpAny _ _ (nsSet _ _ _) _ _ _); (first | refine m_nsSet 0 D rfl ?qk ?_ | refine m_nsSet 1 D rfl ?qk ?_ | refine m_nsSet 2 D rfl ?qk ?_ | refine m_nsSet 3 D rfl ?qk ?_); (case qk => kernel_rfl); ((clear D; intro h' D; dsimp only [List.set_cons_zero, List.set_cons_succ, List.cons_append, List.nil_append, List.eraseIdx_cons_succ, List.eraseIdx_cons_zero, List.length_cons, List.length_nil, Nat.reduceAdd, Nat.reduceSub, List.replicate_zero, List.replicate_succ, List.append_nil] at D; skip))) | ((with_reducible show wpAny _ _ (nsSetByValue _ _ _) _ _ _); (first | refine m_nsSetV 0 D rfl ?qk (by decide) ?_ | refine m_nsSetV 1 D rfl ?qk (by decide) ?_ | refine m_nsSetV 2 D rfl ?qk (by decide) ?_ | refine m_nsSetV 3 D rfl ?qk (by decide) ?_); (case qk => kernel_rfl); ((clear D; intro h' D; dsimp only [List.set_cons_zero, List.set_cons_succ, List.cons_append, List.nil_append, List.eraseIdx_cons_succ, List.eraseIdx_cons_zero, List.length_cons, List.length_nil, Nat.reduceAdd, Nat.reduceSub, List.replicate_zero, List.replicate_succ, List.append_nil] at D; skip))) | ((with_reducible show wpAny _ _ (setSlotAt _ _ _) _ _ _); (first | refine m_slot 0 D rfl (by decide) rfl ?_ | refine m_slot 1 D rfl (by decide) rfl ?_ | refine m_slot 2 D rfl (by decide) rfl ?_); ((clear D; intro h' D; dsimp only [List.set_cons_zero, List.set_cons_succ, List.cons_append, List.nil_append, List.eraseIdx_cons_succ, List.eraseIdx_cons_zero, List.length_cons, List.length_nil, Nat.reduceAdd, Nat.reduceSub, List.replicate_zero, List.replicate_succ, List.append_nil] at D; skip))) | ((with_reducible show wpAny _ _ (updateCls _ _) _ _ _); (first | refine m_cls 0 D rfl rfl ?_ | refine m_cls 1 D rfl rfl ?_ | refine m_cls 2 D rfl rfl ?_); ((clear D; intro h' D; dsimp only [List.set_cons_zero, List.set_cons_succ, List.cons_append, List.nil_append, List.eraseIdx_cons_succ, List.eraseIdx_cons_zero, List.length_cons, List.length_nil, Nat.reduceAdd, Nat.reduceSub, List.replicate_zero, List.replicate_succ, List.append_nil] at D; skip)))) | ((fail_if_success (with_reducible show wpAny _ _ (Sem.load _ _ _) _ _ _)); k_node) | (first | with_reducible refine ite_no (by decide +kernel) ?_ | with_reducible refine ite_yes (by decide +kernel) ?_)))
  refine ⟨by kernel_rfl, codeAny_builtin entry_typecall ?_⟩
  unfold Builtin.«type.__call__»
  repeat ((first | (with_reducible refine hQ9 _ _ ?_; clear hQ9 Q9) | with_reducible refine nd_pure ?_ | with_reducible refine bindV (fun Q9 hQ9 => ?_) | with_reducible refine nbindV (fun Q9 hQ9 => ?_) | with_reducible refine wpAny_pure ?_ | ((fail_if_success (with_reducible refine' gate ?gg ?_; (case gg => with_reducible constructor))); k_node) | with_reducible refine nd_rule ?_ | with_reducible refine nd_point ?_ | with_reducible refine nd_ask ?_ | with_reducible refine m_fresh ?_ | with_reducible refine x_at ?_ | with_reducible refine wpAny_holding ?_ | with_reducible refine onRaiseV (fun E9 => ?_) | with_reducible refine wpAny_tryCatch ?_ | ((with_reducible show wpAny _ _ (Sem.load _ _ _) _ _ _); (first | (refine m_load 0 D rfl ?_) | (refine m_load 1 D rfl ?_) | (refine m_load 2 D rfl ?_) | (refine m_load 3 D rfl ?_) | (refine m_load 4 D rfl ?_) | (refine m_load 5 D rfl ?_) | (refine m_old D (by with_reducible assumption) rfl ?_))) | ((with_reducible show wpAny _ _ (Sem.update _ _ _ _) _ _ _); (((first | refine m_update 0 D rfl rfl rfl ?_ | refine m_update 1 D rfl rfl rfl ?_ | refine m_update 2 D rfl rfl rfl ?_ | refine m_update 3 D rfl rfl rfl ?_); ((clear D; intro h' D; dsimp only [List.set_cons_zero, List.set_cons_succ, List.cons_append, List.nil_append, List.eraseIdx_cons_succ, List.eraseIdx_cons_zero, List.length_cons, List.length_nil, Nat.reduceAdd, Nat.reduceSub, List.replicate_zero, List.replicate_succ, List.append_nil] at D; skip))))) | ((with_reducible show wpAny _ _ (Sem.call _ _ _ _ _) _ _ _); (with_reducible refine call_split ?_); ((simp only [tc_e1]; refine c_init (Ld.at D 3 rfl) ?_))) | ((with_reducible show wpAny _ _ (Sem.alloc _ _) _ _ _); ((with_reducible refine m_alloc D rfl ?_; clear D; intro a h' D; skip))) | (first | with_reducible refine ite_no (by decide +kernel) ?_ | with_reducible refine ite_yes (by decide +kernel) ?_ | (with_reducible refine' ite_no ?q1 ?_; (case q1 => ((with_reducible show ¬ (_ == _) = true); simp only [beq_iff_eq]; assumption)))) | (first | ((with_reducible show wpAny _ _ (nsGet _ _) _ _ _); first | refine m_nsGet 0 D rfl (by k_get) ?_ | refine m_nsGet 1 D rfl (by k_get) ?_ | refine m_nsGet 2 D rfl (by k_get) ?_ | refine m_nsGet 3 D rfl (by k_get) ?_ | refine m_nsGetO D (by with_reducible assumption) rfl (by k_get) ?_) | ((with_reducible show wpAny _ _ (nsSet _ _ _) _ _ _); (first | refine m_nsSet 0 D rfl ?qk ?_ | refine m_nsSet 1 D rfl ?qk ?_ | refine m_nsSet 2 D rfl ?qk ?_ | refine m_nsSet 3 D rfl ?qk ?_); (case qk => kernel_rfl); ((clear D; intro h' D; dsimp only [List.set_cons_zero, List.set_cons_succ, List.cons_append, List.nil_append, List.eraseIdx_cons_succ, List.eraseIdx_cons_zero, List.length_cons, List.length_nil, Nat.reduceAdd, Nat.reduceSub, List.replicate_zero, List.replicate_succ, List.append_nil] at D; skip))) | ((with_reducible show wpAny _ _ (nsSetByValue _ _ _) _ _ _); (first | refine m_nsSetV 0 D rfl ?qk (by decide) ?_ | refine m_nsSetV 1 D rfl ?qk (by decide) ?_ | refine m_nsSetV 2 D rfl ?qk (by decide) ?_ | refine m_nsSetV 3 D rfl ?qk (by decide) ?_); (case qk => kernel_rfl); ((clear D; intro h' D; dsimp only [List.set_cons_zero, List.set_cons_succ, List.cons_append, List.nil_append, List.eraseIdx_cons_succ, List.eraseIdx_cons_zero, List.length_cons, List.length_nil, Nat.reduceAdd, Nat.reduceSub, List.replicate_zero, List.replicate_succ, List.append_nil] at D; skip))) | ((with_reducible show wpAny _ _ (setSlotAt _ _ _) _ _ _); (first | refine m_slot 0 D rfl (by decide) rfl ?_ | refine m_slot 1 D rfl (by decide) rfl ?_ | refine m_slot 2 D rfl (by decide) rfl ?_); ((clear D; intro h' D; dsimp only [List.set_cons_zero, List.set_cons_succ, List.cons_append, List.nil_append, List.eraseIdx_cons_succ, List.eraseIdx_cons_zero, List.length_cons, List.length_nil, Nat.reduceAdd, Nat.reduceSub, List.replicate_zero, List.replicate_succ, List.append_nil] at D; skip))) | ((with_reducible show wpAny _ _ (updateCls _ _) _ _ _); (first | refine m_cls 0 D rfl rfl ?_ | refine m_cls 1 D rfl rfl ?_ | refine m_cls 2 D rfl rfl ?_); ((clear D; intro h' D; dsimp only [List.set_cons_zero, List.set_cons_succ, List.cons_append, List.nil_append, List.eraseIdx_cons_succ, List.eraseIdx_cons_zero, List.length_cons, List.length_nil, Nat.reduceAdd, Nat.reduceSub, List.replicate_zero, List.replicate_succ, List.append_nil] at D; skip)))) | ((fail_if_success (with_reducible show wpAny _ _ (Sem.load _ _ _) _ _ _)); k_node) | (first | with_reducible refine ite_no (by decide +kernel) ?_ | with_reducible refine ite_yes (by decide +kernel) ?_)))
  refine x_call (codeAny_call_builtin_code (by kernel_rfl) ?_) (by intro h; cases h)
  repeat ((first | (with_reducible refine hQ9 _ _ ?_; clear hQ9 Q9) | with_reducible refine nd_pure ?_ | with_reducible refine bindV (fun Q9 hQ9 => ?_) | with_reducible refine nbindV (fun Q9 hQ9 => ?_) | with_reducible refine wpAny_pure ?_ | ((fail_if_success (with_reducible refine' gate ?gg ?_; (case gg => with_reducible constructor))); k_node) | with_reducible refine nd_rule ?_ | with_reducible refine nd_point ?_ | with_reducible refine nd_ask ?_ | with_reducible refine m_fresh ?_ | with_reducible refine x_at ?_ | with_reducible refine wpAny_holding ?_ | with_reducible refine onRaiseV (fun E9 => ?_) | with_reducible refine wpAny_tryCatch ?_ | ((with_reducible show wpAny _ _ (Sem.load _ _ _) _ _ _); (first | (refine m_load 0 D rfl ?_) | (refine m_load 1 D rfl ?_) | (refine m_load 2 D rfl ?_) | (refine m_load 3 D rfl ?_) | (refine m_load 4 D rfl ?_) | (refine m_load 5 D rfl ?_) | (refine m_old D (by with_reducible assumption) rfl ?_))) | ((with_reducible show wpAny _ _ (Sem.update _ _ _ _) _ _ _); (((first | refine m_update 0 D rfl rfl rfl ?_ | refine m_update 1 D rfl rfl rfl ?_ | refine m_update 2 D rfl rfl rfl ?_ | refine m_update 3 D rfl rfl rfl ?_); ((clear D; intro h' D; dsimp only [List.set_cons_zero, List.set_cons_succ, List.cons_append, List.nil_append, List.eraseIdx_cons_succ, List.eraseIdx_cons_zero, List.length_cons, List.length_nil, Nat.reduceAdd, Nat.reduceSub, List.replicate_zero, List.replicate_succ, List.append_nil] at D; skip))))) | ((with_reducible show wpAny _ _ (Sem.call _ _ _ _ _) _ _ _); (with_reducible refine call_split ?_); ((simp only [tc_e1]; refine c_init (Ld.at D 3 rfl) ?_))) | ((with_reducible show wpAny _ _ (Sem.alloc _ _) _ _ _); ((with_reducible refine m_alloc D rfl ?_; clear D; intro a h' D; skip))) | (first | with_reducible refine ite_no (by decide +kernel) ?_ | with_reducible refine ite_yes (by decide +kernel) ?_ | (with_reducible refine' ite_no ?q1 ?_; (case q1 => ((with_reducible show ¬ (_ == _) = true); simp only [beq_iff_eq]; assumption)))) | (first | ((with_reducible show wpAny _ _ (nsGet _ _) _ _ _); first | refine m_nsGet 0 D rfl (by k_get) ?_ | refine m_nsGet 1 D rfl (by k_get) ?_ | refine m_nsGet 2 D rfl (by k_get) ?_ | refine m_nsGet 3 D rfl (by k_get) ?_ | refine m_nsGetO D (by with_reducible assumption) rfl (by k_get) ?_) | ((with_reducible show wpAny _ _ (nsSet _ _ _) _ _ _); (first | refine m_nsSet 0 D rfl ?qk ?_ | refine m_nsSet 1 D rfl ?qk ?_ | refine m_nsSet 2 D rfl ?qk ?_ | refine m_nsSet 3 D rfl ?qk ?_); (case qk => kernel_rfl); ((clear D; intro h' D; dsimp only [List.set_cons_zero, List.set_cons_succ, List.cons_append, List.nil_append, List.eraseIdx_cons_succ, List.eraseIdx_cons_zero, List.length_cons, List.length_nil, Nat.reduceAdd, Nat.reduceSub, List.replicate_zero, List.replicate_succ, List.append_nil] at D; skip))) | ((with_reducible show wpAny _ _ (nsSetByValue _ _ _) _ _ _); (first | refine m_nsSetV 0 D rfl ?qk (by decide) ?_ | refine m_nsSetV 1 D rfl ?qk (by decide) ?_ | refine m_nsSetV 2 D rfl ?qk (by decide) ?_ | refine m_nsSetV 3 D rfl ?qk (by decide) ?_); (case qk => kernel_rfl); ((clear D; intro h' D; dsimp only [List.set_cons_zero, List.set_cons_succ, List.cons_append, List.nil_append, List.eraseIdx_cons_succ, List.eraseIdx_cons_zero, List.length_cons, List.length_nil, Nat.reduceAdd, Nat.reduceSub, List.replicate_zero, List.replicate_succ, List.append_nil] at D; skip))) | ((with_reducible show wpAny _ _ (setSlotAt _ _ _) _ _ _); (first | refine m_slot 0 D rfl (by decide) rfl ?_ | refine m_slot 1 D rfl (by decide) rfl ?_ | refine m_slot 2 D rfl (by decide) rfl ?_); ((clear D; intro h' D; dsimp only [List.set_cons_zero, List.set_cons_succ, List.cons_append, List.nil_append, List.eraseIdx_cons_succ, List.eraseIdx_cons_zero, List.length_cons, List.length_nil, Nat.reduceAdd, Nat.reduceSub, List.replicate_zero, List.replicate_succ, List.append_nil] at D; skip))) | ((with_reducible show wpAny _ _ (updateCls _ _) _ _ _); (first | refine m_cls 0 D rfl rfl ?_ | refine m_cls 1 D rfl rfl ?_ | refine m_cls 2 D rfl rfl ?_); ((clear D; intro h' D; dsimp only [List.set_cons_zero, List.set_cons_succ, List.cons_append, List.nil_append, List.eraseIdx_cons_succ, List.eraseIdx_cons_zero, List.length_cons, List.length_nil, Nat.reduceAdd, Nat.reduceSub, List.replicate_zero, List.replicate_succ, List.append_nil] at D; skip)))) | ((fail_if_success (with_reducible show wpAny _ _ (Sem.load _ _ _) _ _ _)); k_node) | (first | with_reducible refine ite_no (by decide +kernel) ?_ | with_reducible refine ite_yes (by decide +kernel) ?_)))
  refine codeAny_builtin entry_typenew (tn hb hn hsl h0 h1 h2 h3 h4 h5 hsa hn2 hcs (fun x y md C ns l h' D => ?_))
  repeat ((first | (with_reducible refine hQ9 _ _ ?_; clear hQ9 Q9) | with_reducible refine nd_pure ?_ | with_reducible refine bindV (fun Q9 hQ9 => ?_) | with_reducible refine nbindV (fun Q9 hQ9 => ?_) | with_reducible refine wpAny_pure ?_ | ((fail_if_success (with_reducible refine' gate ?gg ?_; (case gg => with_reducible constructor))); k_node) | with_reducible refine nd_rule ?_ | with_reducible refine nd_point ?_ | with_reducible refine nd_ask ?_ | with_reducible refine m_fresh ?_ | with_reducible refine x_at ?_ | with_reducible refine wpAny_holding ?_ | with_reducible refine onRaiseV (fun E9 => ?_) | with_reducible refine wpAny_tryCatch ?_ | ((with_reducible show wpAny _ _ (Sem.load _ _ _) _ _ _); (first | (refine m_load 0 D rfl ?_) | (refine m_load 1 D rfl ?_) | (refine m_load 2 D rfl ?_) | (refine m_load 3 D rfl ?_) | (refine m_load 4 D rfl ?_) | (refine m_load 5 D rfl ?_) | (refine m_old D (by with_reducible assumption) rfl ?_))) | ((with_reducible show wpAny _ _ (Sem.update _ _ _ _) _ _ _); (((first | refine m_update 0 D rfl rfl rfl ?_ | refine m_update 1 D rfl rfl rfl ?_ | refine m_update 2 D rfl rfl rfl ?_ | refine m_update 3 D rfl rfl rfl ?_); ((clear D; intro h' D; dsimp only [List.set_cons_zero, List.set_cons_succ, List.cons_append, List.nil_append, List.eraseIdx_cons_succ, List.eraseIdx_cons_zero, List.length_cons, List.length_nil, Nat.reduceAdd, Nat.reduceSub, List.replicate_zero, List.replicate_succ, List.append_nil] at D; skip))))) | ((with_reducible show wpAny _ _ (Sem.call _ _ _ _ _) _ _ _); (with_reducible refine call_split ?_); ((simp only [tc_e1]; refine c_init (Ld.at D 3 rfl) ?_))) | ((with_reducible show wpAny _ _ (Sem.alloc _ _) _ _ _); ((with_reducible refine m_alloc D rfl ?_; clear D; intro a h' D; skip))) | (first | with_reducible refine ite_no (by decide +kernel) ?_ | with_reducible refine ite_yes (by decide +kernel) ?_ | (with_reducible refine' ite_no ?q1 ?_; (case q1 => ((with_reducible show ¬ (_ == _) = true); simp only [beq_iff_eq]; assumption)))) | (first | ((with_reducible show wpAny _ _ (nsGet _ _) _ _ _); first | refine m_nsGet 0 D rfl (by k_get) ?_ | refine m_nsGet 1 D rfl (by k_get) ?_ | refine m_nsGet 2 D rfl (by k_get) ?_ | refine m_nsGet 3 D rfl (by k_get) ?_ | refine m_nsGetO D (by with_reducible assumption) rfl (by k_get) ?_) | ((with_reducible show wpAny _ _ (nsSet _ _ _) _ _ _); (first | refine m_nsSet 0 D rfl ?qk ?_ | refine m_nsSet 1 D rfl ?qk ?_ | refine m_nsSet 2 D rfl ?qk ?_ | refine m_nsSet 3 D rfl ?qk ?_); (case qk => kernel_rfl); ((clear D; intro h' D; dsimp only [List.set_cons_zero, List.set_cons_succ, List.cons_append, List.nil_append, List.eraseIdx_cons_succ, List.eraseIdx_cons_zero, List.length_cons, List.length_nil, Nat.reduceAdd, Nat.reduceSub, List.replicate_zero, List.replicate_succ, List.append_nil] at D; skip))) | ((with_reducible show wpAny _ _ (nsSetByValue _ _ _) _ _ _); (first | refine m_nsSetV 0 D rfl ?qk (by decide) ?_ | refine m_nsSetV 1 D rfl ?qk (by decide) ?_ | refine m_nsSetV 2 D rfl ?qk (by decide) ?_ | refine m_nsSetV 3 D rfl ?qk (by decide) ?_); (case qk => kernel_rfl); ((clear D; intro h' D; dsimp only [List.set_cons_zero, List.set_cons_succ, List.cons_append, List.nil_append, List.eraseIdx_cons_succ, List.eraseIdx_cons_zero, List.length_cons, List.length_nil, Nat.reduceAdd, Nat.reduceSub, List.replicate_zero, List.replicate_succ, List.append_nil] at D; skip))) | ((with_reducible show wpAny _ _ (setSlotAt _ _ _) _ _ _); (first | refine m_slot 0 D rfl (by decide) rfl ?_ | refine m_slot 1 D rfl (by decide) rfl ?_ | refine m_slot 2 D rfl (by decide) rfl ?_); ((clear D; intro h' D; dsimp only [List.set_cons_zero, List.set_cons_succ, List.cons_append, List.nil_append, List.eraseIdx_cons_succ, List.eraseIdx_cons_zero, List.length_cons, List.length_nil, Nat.reduceAdd, Nat.reduceSub, List.replicate_zero, List.replicate_succ, List.append_nil] at D; skip))) | ((with_reducible show wpAny _ _ (updateCls _ _) _ _ _); (first | refine m_cls 0 D rfl rfl ?_ | refine m_cls 1 D rfl rfl ?_ | refine m_cls 2 D rfl rfl ?_); ((clear D; intro h' D; dsimp only [List.set_cons_zero, List.set_cons_succ, List.cons_append, List.nil_append, List.eraseIdx_cons_succ, List.eraseIdx_cons_zero, List.length_cons, List.length_nil, Nat.reduceAdd, Nat.reduceSub, List.replicate_zero, List.replicate_succ, List.append_nil] at D; skip)))) | ((fail_if_success (with_reducible show wpAny _ _ (Sem.load _ _ _) _ _ _)); k_node) | (first | with_reducible refine ite_no (by decide +kernel) ?_ | with_reducible refine ite_yes (by decide +kernel) ?_)))
  exact k _ _ _ _ _ _ _ D
end Mine
end PTC
section PMB
open PySem PySem.W PyProof.Rows PySem.Spec PySem.Calls PySem.W.X
namespace Mine
set_option hygiene false
section
variable {prog : Program} {w : World} {A : Around} {h₀ h h' : Heap} {fs : List (Addr × Cl)} {gs : Array GenState} {d : Drawn} {t : Nat} {os : OsState} {E : Value → Shared → Prop} {R : Result → Shared → Prop} {env : Env}
theorem Sl.addLd {news : List (Addr × Obj)} (D : Sl prog w h₀ h fs) (L : Ld h h' [] news) : Sl prog w h₀ h' (news.map (fun p => (p.1, Cl.obj p.2)) ++ fs) := by
  have kp : ∀ b o, h.get? b = some o → h'.get? b = some o := fun b o e => L.keep b o e (by rw [show away [] b = true from rfl, Bool.or_true])
  have nn : ∀ b, h.get? b = none → h₀.get? b = none := fun b e => by
    cases q : h₀.get? b with
    | none => rfl
    | some o => rw [D.keep _ _ q] at e; cases e
  refine ⟨fun a o e => kp _ _ (D.keep a o e), fun p hp => ?_, ?_⟩
  · rcases List.mem_append.mp hp with hp | hp
    · obtain ⟨q, hq, rfl⟩ := List.mem_map.mp hp
      exact ⟨(L.nw q hq).1, nn _ (L.nw q hq).2⟩
    · exact ⟨Cl.mv (D.ok p hp).1 fun o e => kp _ o e, (D.ok p hp).2⟩
  · rw [List.map_append, List.map_map]
    refine List.nodup_append.mpr ⟨L.nd, D.nd, fun a ha b hb z => ?_⟩
    obtain ⟨q, hq, e⟩ := List.mem_map.mp ha
    obtain ⟨p, hp, e2⟩ := List.mem_map.mp hb
    obtain ⟨o, e3⟩ := Cl.there (D.ok p hp).1
    rw [e2, ← z, ← e] at e3
    have := (L.nw q hq).2
    rw [show h.get? q.1 = some o from e3] at this
    cases this
theorem Sl.ld {i : Nat} {a : Addr} {o : Obj} (D : Sl prog w h₀ h fs) (hi : AtI fs i (a, .obj o)) : Ld (hideAll h [a]) h [] [(a, o)] :=
  ⟨fun b o e _ => of_hideAll _ e, fun p hp => (nomatch hp), fun p hp => by
    obtain rfl := List.mem_singleton.mp hp
    exact ⟨D.at hi, hideAll_none _ (.head _)⟩, by simp⟩
theorem Sl.ofLd {i : Nat} {a : Addr} {o o' : Obj} (D : Sl prog w h₀ h fs) (hi : AtI fs i (a, .obj o)) (L : Ld (hideAll h [a]) h' [] [(a, o')]) : Sl prog w h₀ h' (fs.set i (a, .obj o')) :=
  D.turn hi (fun b ob n e => L.keep b ob (hideAll_get _ e (by simpa using n)) (by rw [show away [] b = true from rfl, Bool.or_true])) (L.nw _ (.head _)).1
theorem s_nsSet {i : Nat} {a : Addr} {k : Str} {v : Value} {es : List DictEntry} {n : Nat} {Q : Unit → Shared → Prop} (D : Sl prog w h₀ h fs) (hi : AtI fs i (a, .obj { cls := .type "dict", data := .dict es.toArray n })) (hs : (es.all fun e => !e.key.isStr k && !e.refKey) = true)
    (x : ∀ h', Sl prog w h₀ h' (fs.set i (a, .obj { cls := .type "dict", data := .dict (es ++ [(⟨PyData.keyHash w.params k, .str k t, v⟩ : DictEntry)]).toArray (n + 1) })) → Q () ⟨h', gs, d, t + 1, os⟩) : wpAny (model prog w) A (nsSet a k v) Q E ⟨h, gs, d, t, os⟩ :=
  m_nsSet 0 (D.ld hi) rfl hs fun h' L => x h' (D.ofLd hi L)
theorem s_nsRep {i : Nat} {a : Addr} {k : Str} {v : Value} {e : DictEntry} {es : List DictEntry} {n : Nat} {Q : Unit → Shared → Prop} (D : Sl prog w h₀ h fs) (hi : AtI fs i (a, .obj { cls := .type "dict", data := .dict (e :: es).toArray n })) (hj : e.key.isStr k = true)
    (x : ∀ h', Sl prog w h₀ h' (fs.set i (a, .obj { cls := .type "dict", data := .dict ((⟨e.hash, e.key, v⟩ : DictEntry) :: es).toArray n })) → Q () ⟨h', gs, d, t + 1, os⟩) : wpAny (model prog w) A (nsSet a k v) Q E ⟨h, gs, d, t, os⟩ :=
  m_nsRep0 (D.ld hi) hj fun h' L => x h' (D.ofLd hi L)
theorem c_local {i : Nat} {a : Addr} {x : Str} {v : Value} {es : Array DictEntry} {n : Nat} {Q : Unit → Shared → Prop} (D : Sl prog w h₀ h fs) (hi : AtI fs i (a, .obj { cls := .type "dict", data := .dict es n })) (hst : storeName env x v = localSet env x v ∧ env.locals = a)
    (k : wpAny (model prog w) A (nsSet a x v) Q E ⟨h, gs, d, t, os⟩) : wpAny (model prog w) A (storeName env x v) Q E ⟨h, gs, d, t, os⟩ := by
  rw [hst.1]
  unfold localSet
  rw [hst.2]
  exact wpAny_bind (wpAny_load (s := ⟨h, gs, d, t, os⟩) (D.at hi) k)
theorem c_store {i : Nat} {a : Addr} {x : Str} {v : Value} {es : List DictEntry} {n : Nat} {Q : Unit → Shared → Prop} (D : Sl prog w h₀ h fs) (hi : AtI fs i (a, .obj { cls := .type "dict", data := .dict es.toArray n })) (hst : storeName env x v = localSet env x v ∧ env.locals = a) (hs : (es.all fun e => !e.key.isStr x && !e.refKey) = true)
    (k : ∀ h', Sl prog w h₀ h' (fs.set i (a, .obj { cls := .type "dict", data := .dict (es ++ [(⟨PyData.keyHash w.params x, .str x t, v⟩ : DictEntry)]).toArray (n + 1) })) → Q () ⟨h', gs, d, t + 1, os⟩) : wpAny (model prog w) A (storeName env x v) Q E ⟨h, gs, d, t, os⟩ :=
  c_local D hi hst (s_nsSet D hi hs k)
theorem c_restore {i : Nat} {a : Addr} {x : Str} {v : Value} {e : DictEntry} {es : List DictEntry} {n : Nat} {Q : Unit → Shared → Prop} (D : Sl prog w h₀ h fs) (hi : AtI fs i (a, .obj { cls := .type "dict", data := .dict (e :: es).toArray n })) (hst : storeName env x v = localSet env x v ∧ env.locals = a) (hj : e.key.isStr x = true)
    (k : ∀ h', Sl prog w h₀ h' (fs.set i (a, .obj { cls := .type "dict", data := .dict ((⟨e.hash, e.key, v⟩ : DictEntry) :: es).toArray n })) → Q () ⟨h', gs, d, t + 1, os⟩) : wpAny (model prog w) A (storeName env x v) Q E ⟨h, gs, d, t, os⟩ :=
  c_local D hi hst (s_nsRep D hi hj k)
noncomputable def tabL (c : Nat → Addr) : List Value := [.int 102 0, .int 8 0, .ref (c 0), .int 105 0, .int 8 0, .ref (c 1), .int 108 0, .int 8 0, .ref (c 2), .int 111 0, .int 8 0, .ref (c 3), .int 114 0, .int 8 0, .ref (c 4), .int 117 0, .int 8 0, .ref (c 5)]
noncomputable def TB (h : Heap) (k : Nat) (ps : List Value) : Prop := ∃ c : Nat → Addr, (∀ i, i < k → h.CodeRec (.ref (c i)) (kq i)) ∧ (ps = (tabL c).take (3 * k) ∨ (ps = tabL c ∧ ∀ i, i < 6 → h.CodeRec (.ref (c i)) (kq i)))
theorem TB.up {h h' : Heap} {k : Nat} {ps : List Value} (x : TB h k ps) (up : ∀ b o, h.get? b = some o → h'.get? b = some o) : TB h' k ps := by
  obtain ⟨c, z, y⟩ := x
  refine ⟨c, fun i hi => (z i hi).keeps up, ?_⟩
  rcases y with e | ⟨e, y⟩
  · exact .inl e
  · exact .inr ⟨e, fun i hi => (y i hi).keeps up⟩
theorem TB.full {h : Heap} {ps : List Value} (x : TB h 6 ps) : ∃ c, ps = tabL c ∧ ∀ i, i < 6 → h.CodeRec (.ref (c i)) (kq i) := by
  obtain ⟨c, z, y⟩ := x
  rcases y with e | ⟨e, y⟩
  · exact ⟨c, e, z⟩
  · exact ⟨c, e, y⟩
theorem trip_take (c : Nat → Addr) {k : Nat} (h : k < 6) : TriplesOk ((tabL c).take (3 * k)) := by
  rcases six _ h with rfl | rfl | rfl | rfl | rfl | rfl <;> exact trivial
theorem among_hit (c : Nat → Addr) {k : Nat} {pos : Pos} (h : k < 6) (hp : pos.line = 102 + 3 * k ∧ pos.col = 8) : codeAmong pos (tabL c) = some (.ref (c k)) := by
  obtain ⟨l, cc, el, ec⟩ := pos
  obtain ⟨rfl, rfl⟩ := hp
  rcases six _ h with rfl | rfl | rfl | rfl | rfl | rfl <;> rfl
theorem among_miss (c : Nat → Addr) {k : Nat} {pos : Pos} (h : k < 6) (hp : pos.line = 102 + 3 * k ∧ pos.col = 8) : codeAmong pos ((tabL c).take (3 * k)) = none := by
  obtain ⟨l, cc, el, ec⟩ := pos
  obtain ⟨rfl, rfl⟩ := hp
  rcases six _ h with rfl | rfl | rfl | rfl | rfl | rfl <;> rfl
theorem take_snoc (c : Nat → Addr) (c' : Addr) {k : Nat} {pos : Pos} (h : k < 6) (hp : pos.line = 102 + 3 * k ∧ pos.col = 8) : (tabL c).take (3 * k) ++ [rawInt pos.line, rawInt pos.col, .ref c'] = (tabL fun i => if i = k then c' else c i).take (3 * (k + 1)) := by
  obtain ⟨l, cc, el, ec⟩ := pos
  obtain ⟨rfl, rfl⟩ := hp
  rcases six _ h with rfl | rfl | rfl | rfl | rfl | rfl <;> rfl
theorem Sl.turnX (D : Sl prog w h₀ h fs) {i : Nat} {a : Addr} {c c' : Cl} (e : AtI fs i (a, c)) (k : Heap.ExtBut a h h') (x : c'.ok prog w h' a) : Sl prog w h₀ h' (fs.set i (a, c')) := D.turn e k x
structure Gm (P : Params) (h : Heap) : Prop where
  g : ∃ mg, h.Ns mainGlobals mg
  bm : ∃ ob : Obj, h.get? 4 = some ob ∧ ob.cls = .type "module" ∧ ob.dict = some builtinsNs ∧ ob.data = .plain
theorem gl_bm (P : Params) : nsIn (hK P) mainGlobals (Str.ofString "__builtins__") = some (some (.ref 4)) := by kernel_rfl
theorem gl_nm (P : Params) : nsIn (hK P) mainGlobals (Str.ofString "__name__") = some (some (.str (Str.ofString "law_oy0113_01") 362)) := by kernel_rfl
theorem r_mkfn {i : Nat} {TK cK : Addr} {ps : List Value} {name qual : Str} {params : Arguments} {body : List Stmt} {scope : Scope} {clos : List (Str × Addr)} {pos : Pos} {fl : Nat} {Q : Value → Shared → Prop} (D : Sl prog w h₀ h ((TK, .obj (tabObj ps.toArray)) :: fs)) (G : Gd w.params hK h₀) (M : Gm w.params h₀) (tb : TB h₀ i ps) (hi : i < 6)
   (hcode : env.code = .ref cK) (hd : CodeHd h₀ cK TK) (hp : pos.line = 102 + 3 * i ∧ pos.col = 8) (hcl : closureFor scope env = pure clos) (hge : env.globals = mainGlobals) (hq : qual = kq i) (hfd : ∀ doc c' ctv, fnX name qual params body scope clos .none .none doc (.str (Str.ofString "law_oy0113_01") 362) none (.ref c') ctv = fdK (i + 2) clos c' ctv doc)
   (k : ∀ f c' ctv doc h₁ h' tk ps', (∀ b o, h₀.get? b = some o → h₁.get? b = some o) → h₁.CodeRec (.ref c') (kq i) → TB h₁ (i + 1) ps' → Sl prog w h₁ h' ((f, .obj (fnO (fdK (i + 2) clos c' ctv doc))) :: (TK, .obj (tabObj ps'.toArray)) :: fs) → Q (.ref f) ⟨h', gs, d, tk, os⟩) :
   wpAny (model prog w) A (makeFunction name qual params (.stmts body) scope env [] [] [] pos fl) Q E ⟨h, gs, d, t, os⟩ := by
  obtain ⟨mg, hg⟩ := M.g
  obtain ⟨ob, b3, b4, b5, b6⟩ := M.bm
  have hP : h.get? TK = some (tabObj ps.toArray) := D.at .z
  have n0 := (D.ok _ (.head _)).2
  have ebm := mg_of (v := .ref 4) G.X hg (gl_bm w.params)
  have enm := mg_of G.X hg (gl_nm w.params)
  have hnm : (mg "__name__").getD .none = .str (Str.ofString "law_oy0113_01") 362 := by
    rw [show mg "__name__" = _ from enm]; rfl
  have hgP : mainGlobals ≠ TK := fun q => by
    obtain ⟨o, es, ep, e, hd, _⟩ := hg
    rw [q, n0] at e; cases e
  have hbP : (4 : Addr) ≠ TK := fun q => by rw [q, n0] at b3; cases b3
  have hg' := hg.keeps D.keep
  have hb : h.BuiltinsAt mg TK := ⟨4, ob, ebm, by decide, by decide, hbP, D.keep _ _ b3, b4, b5, b6⟩
  have C' := hd.keeps D.keep
  obtain ⟨c, z, y⟩ := tb
  rcases y with rfl | ⟨rfl, y⟩
  · refine makeFunction_K (s := ⟨h, gs, d, t, os⟩) hcl hge hg' hcode C' hP (by simpa using trip_take c hi) (by simpa using among_miss c hi hp) hgP hb fun c' ctv doc h' tk hx hge hlt hrec htb => ?_
    rw [hnm]
    unfold fnMade
    rw [hfd]
    have D1 := D.turn (c' := .obj (tabObj ((tabL fun j => if j = i then c' else c j).take (3 * (i + 1))).toArray)) .z hx (by rw [← take_snoc c c' hi hp]; show h'.get? TK = _; simpa using htb)
    have D2 := D1.push (o := fnO (fdK (i + 2) clos c' ctv doc)) (c := .obj (fnO (fdK (i + 2) clos c' ctv doc))) (Heap.get?_push_size _ rfl)
    obtain ⟨h₁, e1, e2, D3⟩ := D2.base
    have hrec2 : h₁.CodeRec (.ref c') qual := by
      obtain ⟨c₂, oc, vs, tt, q1, q2, q3, q4⟩ := hrec
      cases q1
      refine ⟨c', oc, vs, tt, rfl, e2 _ _ (Heap.get?_push_of_some _ q2) ?_, q3, q4⟩
      intro hm
      rcases List.mem_cons.mp hm with hm | hm
      · exact absurd hm (Nat.ne_of_lt hlt)
      · have hn : ∀ a ∈ (List.map (fun x => x.1) ((TK, Cl.obj (tabObj ((tabL c).take (3 * i)).toArray)) :: fs)), ∃ o, h.get? a = some o := fun a ha => by
          obtain ⟨p, hp, rfl⟩ := List.mem_map.mp ha
          exact Cl.there (D.ok p hp).1
        obtain ⟨o, e⟩ := hn c' hm
        exact absurd (Heap.lt_size e) (Nat.not_lt.mpr hge)
    rw [hq] at hrec2
    exact k _ c' ctv doc h₁ _ tk _ e1 hrec2 ⟨_, fun j hj => by
      by_cases q : j = i
      · subst q; rw [if_pos rfl]; exact hrec2
      · rw [if_neg q]; exact (z j (by omega)).keeps e1, .inl rfl⟩ D3
  · refine makeFunction_hit (s := ⟨h, gs, d, t, os⟩) (cv := .ref (c i)) hcl hge hg' hcode C' hP (by simp [tabL, TriplesOk]) (by simpa using among_hit c hi hp) hb fun ctv doc h' tk hx hsz => ?_
    rw [hnm]
    rw [hfd]
    have D2 := (D.grow hx).push (o := fnO (fdK (i + 2) clos (c i) ctv doc)) (c := .obj (fnO (fdK (i + 2) clos (c i) ctv doc))) (Heap.get?_push_size _ rfl)
    exact k _ (c i) ctv doc h₀ _ tk _ (fun _ _ e => e) (y i hi) ⟨c, fun j hj => y j (by omega), .inr ⟨rfl, y⟩⟩ D2
end
end Mine
end PMB
section PMC
open PySem PySem.W PyProof.Rows PySem.Spec PySem.Calls PySem.W.X
namespace Mine
set_option hygiene false
section
variable {prog : Program} {w : World} {A : Around} {h₀ h h' : Heap} {fs : List (Addr × Cl)} {gs : Array GenState} {d : Drawn} {t : Nat} {os : OsState} {E : Value → Shared → Prop} {R : Result → Shared → Prop} {env : Env}
theorem get89 {P : Params} {h : Heap} (X : (hK P).In h) : h.get? 89 = some (((hK P).lookup 89).getD default) := X 89 _ (by kernel_rfl)
theorem c_class {pos : Pos} {fl : Nat} {scope : Scope} {Q : Value → Shared → Prop} (X : (hK w.params).In h) (h85 : h.get? 85 = some (tableObj #[])) (hcode : env.code = .ref 89) (hp : pos.line = 98 ∧ pos.col = 4) (hf : scope.freeNames = [S "mycmp"])
   (k : ∀ cK TK oc a o1 h' tk, Ld h h' [(85, tableObj #[.int 98 0, .int 4 0, .ref cK])] [(cK, oc), (TK, tableObj #[]), (a, o1)] → CodeHd h' cK TK → Q (.ref cK) ⟨h', gs, d, tk, os⟩) :
   wpAny (model prog w) A (classCode env pos fl (S "K") (S "cmp_to_key.<locals>.K") scope) Q E ⟨h, gs, d, t, os⟩ := by
  obtain ⟨l, cc, el, ec⟩ := pos
  obtain ⟨rfl, rfl⟩ := hp
  have D := Ld.start h
  unfold classCode codeAt
  rw [hcode, hf]
  repeat ((first | (with_reducible refine hQ9 _ _ ?_; clear hQ9 Q9) | with_reducible refine nd_pure ?_ | with_reducible refine bindV (fun Q9 hQ9 => ?_) | with_reducible refine nbindV (fun Q9 hQ9 => ?_) | with_reducible refine wpAny_pure ?_ | ((fail_if_success (with_reducible refine' gate ?gg ?_; (case gg => with_reducible constructor))); k_node) | with_reducible refine nd_rule ?_ | with_reducible refine nd_point ?_ | with_reducible refine nd_ask ?_ | with_reducible refine m_fresh ?_ | with_reducible refine x_at ?_ | with_reducible refine wpAny_holding ?_ | with_reducible refine onRaiseV (fun E9 => ?_) | with_reducible refine wpAny_tryCatch ?_ | ((with_reducible show wpAny _ _ (Sem.load _ _ _) _ _ _); (first | (refine' m_load _ D (At.get ?hi) ?_; (case hi => (walk_at "b IDX"))) | (first | (first | (with_reducible refine' m_old D h85 ?qo ?_; (case qo => rfl)) | (with_reducible refine' m_loadC 0 D rfl ?_; skip) | refine m_old D (get89 X) rfl ?_) | (with_reducible refine m_old D (by with_reducible assumption) rfl ?_)) | (refine' m_load _ D (At.get ?hi) ?_; (case hi => (walk_at "b IDXD"))))) | ((with_reducible show wpAny _ _ (Sem.update _ _ _ _) _ _ _); (first | (first | (refine m_turn (o' := tableObj #[.int 98 0, .int 4 0, .ref a]) D h85 rfl rfl ?qe rfl ?_; (case qe => kernel_rfl); clear D; intro h' D; (try dsimp only [List.cons_append, List.nil_append, List.append_toArray] at D)) | (refine' m_update _ D (At.get ?hi) ?qe ?qr ?_; (case hi => (first | (walk_at "b IDX") | (walk_at "b IDXD"))); (case qe => rfl); (case qr => rfl); ((clear D; intro h' D; dsimp only [List.set_cons_zero, List.set_cons_succ, List.cons_append, List.nil_append, List.eraseIdx_cons_succ, List.eraseIdx_cons_zero, List.length_cons, List.length_nil, Nat.reduceAdd, Nat.reduceSub, List.replicate_zero, List.replicate_succ, List.append_nil] at D; (try dsimp only [List.cons_append, List.nil_append, List.append_toArray] at D))))) | ((refine' m_update _ D (At.get ?hi) ?qe ?qr ?_; (case hi => (first | (walk_at "b IDX") | (walk_at "b IDXD"))); (case qe => rfl); (case qr => rfl); ((clear D; intro h' D; dsimp only [List.set_cons_zero, List.set_cons_succ, List.cons_append, List.nil_append, List.eraseIdx_cons_succ, List.eraseIdx_cons_zero, List.length_cons, List.length_nil, Nat.reduceAdd, Nat.reduceSub, List.replicate_zero, List.replicate_succ, List.append_nil] at D; (try dsimp only [List.cons_append, List.nil_append, List.append_toArray] at D))))))) | ((with_reducible show wpAny _ _ (Sem.call _ _ _ _ _) _ _ _); (with_reducible refine call_split ?_); (fail)) | ((with_reducible show wpAny _ _ (Sem.alloc _ _) _ _ _); ((with_reducible refine m_alloc D rfl ?_; clear D; intro a h' D; (try dsimp only [List.cons_append, List.nil_append, List.append_toArray] at D)))) | (first | with_reducible refine ite_no (by decide +kernel) ?_ | with_reducible refine ite_yes (by decide +kernel) ?_ | (with_reducible refine' ite_no ?q1 ?_; (case q1 => ((with_reducible show ¬ (_ == _) = true); simp only [beq_iff_eq]; assumption)))) | (first | ((with_reducible show wpAny _ _ (nsGet _ _) _ _ _); refine' m_nsGet _ D (At.get ?hi) ?qe ?_; (case hi => (first | (walk_at "b IDX") | (walk_at "b IDXD"))); (case qe => k_get)) | ((with_reducible show wpAny _ _ (nsSet _ _ _) _ _ _); (refine' m_nsSet _ D (At.get ?hi) ?qk ?_; (case hi => (first | (walk_at "b IDX") | (walk_at "b IDXD"))); (case qk => kernel_rfl)); ((clear D; intro h' D; dsimp only [List.set_cons_zero, List.set_cons_succ, List.cons_append, List.nil_append, List.eraseIdx_cons_succ, List.eraseIdx_cons_zero, List.length_cons, List.length_nil, Nat.reduceAdd, Nat.reduceSub, List.replicate_zero, List.replicate_succ, List.append_nil] at D; (try dsimp only [List.cons_append, List.nil_append, List.append_toArray] at D)))) | ((with_reducible show wpAny _ _ (nsSetByValue _ _ _) _ _ _); (refine' m_nsSetV _ D (At.get ?hi) ?qk ?qd ?_; (case hi => (first | (walk_at "b IDX") | (walk_at "b IDXD"))); (case qk => kernel_rfl); (case qd => decide)); ((clear D; intro h' D; dsimp only [List.set_cons_zero, List.set_cons_succ, List.cons_append, List.nil_append, List.eraseIdx_cons_succ, List.eraseIdx_cons_zero, List.length_cons, List.length_nil, Nat.reduceAdd, Nat.reduceSub, List.replicate_zero, List.replicate_succ, List.append_nil] at D; (try dsimp only [List.cons_append, List.nil_append, List.append_toArray] at D)))) | ((with_reducible show wpAny _ _ (setSlotAt _ _ _) _ _ _); (refine' m_slot _ D (At.get ?hi) ?qd ?qr ?_; (case hi => (first | (walk_at "b IDX") | (walk_at "b IDXD"))); (case qd => decide); (case qr => rfl)); ((clear D; intro h' D; dsimp only [List.set_cons_zero, List.set_cons_succ, List.cons_append, List.nil_append, List.eraseIdx_cons_succ, List.eraseIdx_cons_zero, List.length_cons, List.length_nil, Nat.reduceAdd, Nat.reduceSub, List.replicate_zero, List.replicate_succ, List.append_nil] at D; (try dsimp only [List.cons_append, List.nil_append, List.append_toArray] at D)))) | ((with_reducible show wpAny _ _ (updateCls _ _) _ _ _); (refine' m_cls _ D (At.get ?hi) ?qr ?_; (case hi => (first | (walk_at "b IDX") | (walk_at "b IDXD"))); (case qr => rfl)); ((clear D; intro h' D; dsimp only [List.set_cons_zero, List.set_cons_succ, List.cons_append, List.nil_append, List.eraseIdx_cons_succ, List.eraseIdx_cons_zero, List.length_cons, List.length_nil, Nat.reduceAdd, Nat.reduceSub, List.replicate_zero, List.replicate_succ, List.append_nil] at D; (try dsimp only [List.cons_append, List.nil_append, List.append_toArray] at D))))) | ((fail_if_success (with_reducible show wpAny _ _ (Sem.load _ _ _) _ _ _)); k_node) | (first | with_reducible refine ite_no (by decide +kernel) ?_ | with_reducible refine ite_yes (by decide +kernel) ?_)))
  exact k _ _ _ _ _ _ _ D ⟨_, _, _, _, _, _, _, _, _, Ld.at D 0 rfl, rfl, rfl, rfl, rfl, rfl, rfl, rfl, rfl, Ld.ne D 0 1 rfl rfl (by decide)⟩
theorem Sl.addLdT {news : List (Addr × Obj)} {a : Addr} {o o' : Obj} (D : Sl prog w h₀ h ((a, .obj o) :: fs)) (L : Ld h h' [(a, o')] news) : Sl prog w h₀ h' (news.map (fun p => (p.1, Cl.obj p.2)) ++ (a, .obj o') :: fs) := by
  have n0 := (D.ok _ (.head _)).2
  have nd := D.nd
  rw [List.map_cons, List.nodup_cons] at nd
  have kp : ∀ b o, b ≠ a → h.get? b = some o → h'.get? b = some o := fun b o n e => L.keep b o e (by
    have : away [(a, o')] b = true := by
      have q : Nat.beq a b = false := by cases z : Nat.beq a b with | false => rfl | true => exact absurd (Nat.eq_of_beq_eq_true z).symm n
      simp [away, q]
    rw [this, Bool.or_true])
  have nn : ∀ b, h.get? b = none → h₀.get? b = none := fun b e => by
    cases q : h₀.get? b with
    | none => rfl
    | some o => rw [D.keep _ _ q] at e; cases e
  refine ⟨fun b ob e => kp _ _ (fun z => by rw [z, n0] at e; cases e) (D.keep b ob e), fun p hp => ?_, ?_⟩
  · rcases List.mem_append.mp hp with hp | hp
    · obtain ⟨q, hq, rfl⟩ := List.mem_map.mp hp
      exact ⟨(L.nw q hq).1, nn _ (L.nw q hq).2⟩
    · rcases List.mem_cons.mp hp with rfl | hp
      · exact ⟨(L.ch _ (.head _)).1, n0⟩
      · exact ⟨Cl.mv (D.ok p (.tail _ hp)).1 fun ob e => kp _ ob (fun z => nd.1 (List.mem_map.mpr ⟨p, hp, z⟩)) e, (D.ok p (.tail _ hp)).2⟩
  · rw [List.map_append, List.map_map]
    refine List.nodup_append.mpr ⟨L.nd, D.nd, fun b hb c hc z => ?_⟩
    obtain ⟨q, hq, e⟩ := List.mem_map.mp hb
    have hn := (L.nw q hq).2
    obtain ⟨p, hp, e2⟩ : ∃ p ∈ (a, Cl.obj o) :: fs, p.1 = c := by
      obtain ⟨p, hp, e2⟩ := List.mem_map.mp hc
      rcases List.mem_cons.mp hp with rfl | hp
      · exact ⟨_, .head _, e2⟩
      · exact ⟨p, .tail _ hp, e2⟩
    obtain ⟨ob, e3⟩ := Cl.there (D.ok p hp).1
    rw [e2, ← z, ← e] at e3
    rw [show h.get? q.1 = some ob from e3] at hn
    cases hn
inductive TSt (h : Heap) : Array Value → List (Addr × Cl) → Prop
  | no : TSt h #[] []
  | yes {cK TK : Addr} {ps : List Value} : CodeHd h cK TK → TB h 6 ps → TSt h #[.int 98 0, .int 4 0, .ref cK] [(TK, .obj (tabObj ps.toArray))]
theorem TSt.up {h h' : Heap} {p : Array Value} {tk : List (Addr × Cl)} (x : TSt h p tk) (k : ∀ b o, h.get? b = some o → h'.get? b = some o) : TSt h' p tk := by
  cases x with
  | no => exact .no
  | yes a b => exact .yes (a.keeps k) (b.up k)
theorem codeHd_base {h₁ : Heap} {c P : Addr} {o : Obj} (x : CodeHd h c P) (e : h.get? c = some o) (e' : h₁.get? c = some o) : CodeHd h₁ c P := by
  obtain ⟨o', vs, file, tf, flags, tg, inF, text, tt, e1, r⟩ := x
  rw [e] at e1
  cases e1
  exact ⟨o, vs, file, tf, flags, tg, inF, text, tt, e', r⟩
theorem r_class {p85 : Array Value} {tk : List (Addr × Cl)} {pos : Pos} {fl : Nat} {scope : Scope} {Q : Value → Shared → Prop} (D : Sl prog w h₀ h ((85, .obj (tabObj p85)) :: tk ++ fs)) (G : Gd w.params hK h₀) (st : TSt h₀ p85 tk) (hcode : env.code = .ref 89) (hp : pos.line = 98 ∧ pos.col = 4) (hf : scope.freeNames = [S "mycmp"])
   (k : ∀ cK TK ps h₁ h' tk, (∀ b o, h₀.get? b = some o → h₁.get? b = some o) → CodeHd h₁ cK TK → TB h₁ 0 ps → Sl prog w h₁ h' ((TK, .obj (tabObj ps.toArray)) :: (85, .obj (tabObj #[.int 98 0, .int 4 0, .ref cK])) :: fs) → Q (.ref cK) ⟨h', gs, d, tk, os⟩) :
   wpAny (model prog w) A (classCode env pos fl (S "K") (S "cmp_to_key.<locals>.K") scope) Q E ⟨h, gs, d, t, os⟩ := by
  have X := (G.keeps D.keep).X
  cases st with
  | no =>
    refine c_class X (D.at .z) hcode hp hf (fun cK TK oc a o1 h' tk L C => ?_)
    refine (D.addLdT L).out (fun h₁ e1 e2 D1 => ?_)
    replace D1 : Sl prog w h₁ h' ((TK, .obj (tabObj #[])) :: (a, .obj o1) :: (85, .obj (tabObj #[.int 98 0, .int 4 0, .ref cK])) :: fs) := D1
    exact k cK TK [] h₁ h' tk e1 (codeHd_base C (L.at 0 rfl) e2) ⟨fun _ => 0, fun i hi => absurd hi (Nat.not_lt_zero i), .inl rfl⟩ (D1.sub ((List.sublist_cons_self ..).cons_cons _))
  | @yes cK TK ps C tb =>
    obtain ⟨l, cc, el, ec⟩ := pos
    obtain ⟨rfl, rfl⟩ := hp
    have D : Sl prog w h₀ h ((85, .obj (tabObj #[.int 98 0, .int 4 0, .ref cK])) :: (TK, .obj (tabObj ps.toArray)) :: fs) := D
    have C89 : CodeHd h 89 85 := codeHd_of_K X (by kernel_rfl)
    refine wpAny_codeAt_hit (s := ⟨h, gs, d, t, os⟩) (c' := .ref cK) hcode (C89.code (D.at .z) trivial) rfl ?_
    obtain ⟨c, z, y⟩ := tb
    refine k cK TK ps h₀ h t (fun _ _ e => e) C ⟨c, fun i hi => absurd hi (Nat.not_lt_zero i), ?_⟩ (D.front (.s .z))
    rcases y with e | ⟨e, y⟩
    · exact .inr ⟨e, z⟩
    · exact .inr ⟨e, y⟩
end
end Mine
end PMC
section PMD
open PySem PySem.W PyProof.Rows PySem.Spec PySem.Calls PySem.W.X
namespace Mine
set_option hygiene false
section
variable {prog : Program} {w : World} {A : Around} {h₀ h h' : Heap} {fs : List (Addr × Cl)} {gs : Array GenState} {d : Drawn} {t : Nat} {os : OsState} {E : Value → Shared → Prop} {R : Result → Shared → Prop} {env : Env}
theorem fn_90 (P : Params) : FnOkC hK P 90 fd90 bd90 (fun L => [(Str.ofString "mycmp", L + 1)]) := ⟨by kernel_rfl, by kernel_rfl, by kernel_rfl, by kernel_rfl, by kernel_rfl, by kernel_rfl, by kernel_rfl, fun L => by kernel_rfl, fun L => List.nodup_cons.mpr ⟨List.not_mem_nil, List.nodup_nil⟩⟩
theorem gl_object (P : Params) : nsIn (hK P) 3 (Str.ofString "object") = some none := by kernel_rfl
theorem mk_e1 : (toString "type" ++ toString "." ++ toString (Str.ofString "__getattribute__").toString) = "type.__getattribute__" := by kernel_rfl
inductive Stop : {α : Type} → Sem α → Prop where
  | cls {env : Env} {pos : Pos} {fl : Nat} {n q : Str} {sc : Scope} : Stop (classCode env pos fl n q sc)
  | st {env : Env} {n : Str} {v : Value} : Stop (storeName env n v)
  | ex {b : List Stmt} {env : Env} : Stop (execs b env)
  | fd {n : Str} {ps : Arguments} {b : List Stmt} {ds : List Expr} {r : Option Expr} {tp : List TypeParam} {sc : Scope} {ts : Option Scope} {bd : Str} {pos : Pos} {env : Env} : Stop (exec (.FunctionDef n ps b ds r tp sc ts bd pos) env)
theorem stop {α : Type} {M : Model} {A : Around} {t : Sem α} {Q : α → Shared → Prop} {E : Value → Shared → Prop} {s : Shared} (_ : Stop t) (x : wpAny M A t Q E s) : wpAny M A t Q E s := x
theorem Gm.up {P : Params} {h h' : Heap} (x : Gm P h) (k : ∀ b o, h.get? b = some o → h'.get? b = some o) : Gm P h' := ⟨let ⟨mg, g⟩ := x.g; ⟨mg, g.keeps k⟩, let ⟨ob, e, r⟩ := x.bm; ⟨ob, k _ _ e, r⟩⟩
theorem Sl.ob (D : Sl prog w h₀ h fs) {i : Nat} {a : Addr} {o : Obj} (hi : AtI fs i (a, .obj o)) : h.get? a = some o := D.at hi
theorem Sl.ne_base (D : Sl prog w h₀ h fs) {i : Nat} {a b : Addr} {c : Cl} (hi : AtI fs i (a, c)) (e : ∃ o, h₀.get? b = some o) : ¬ a = b := fun z => by
  obtain ⟨o, e⟩ := e
  subst z
  rw [show h₀.get? a = none from (D.ok _ hi.mem).2] at e
  cases e
theorem Sl.pickR (D : Sl prog w h₀ h fs) (is : List Nat) (n : Nat) (hn : is.Nodup) (hl : ∀ i ∈ is, i < n) : Sl prog w h₀ h ((is.filterMap fun i => fs[i]?) ++ fs.drop n) := by
  have ne : ∀ (i j : Nat) (p q : Addr × Cl), fs[i]? = some p → fs[j]? = some q → i ≠ j → p.1 ≠ q.1 := fun i j p q hp hq hij => D.key hp hq hij
  refine ⟨D.keep, fun p hp => ?_, ?_⟩
  · rcases List.mem_append.mp hp with hp | hp
    · obtain ⟨i, _, hi⟩ := List.mem_filterMap.mp hp
      exact D.ok p (List.mem_of_getElem? hi)
    · exact D.ok p (List.mem_of_mem_drop hp)
  · rw [List.map_append, List.map_filterMap]
    refine List.nodup_append.mpr ⟨List.pairwise_filterMap.mpr (hn.imp ?_), D.nd.sublist ((List.drop_sublist n fs).map _), fun a ha b hb z => ?_⟩
    · intro i j hij x hx y hy
      obtain ⟨p, hp, rfl⟩ := Option.map_eq_some_iff.mp hx
      obtain ⟨q, hq, rfl⟩ := Option.map_eq_some_iff.mp hy
      exact ne i j p q hp hq hij
    · obtain ⟨i, hi, hx⟩ := List.mem_filterMap.mp ha
      obtain ⟨p, hp, rfl⟩ := Option.map_eq_some_iff.mp hx
      obtain ⟨q, hq, rfl⟩ := List.mem_map.mp hb
      obtain ⟨j, hj⟩ := List.mem_iff_getElem?.mp hq
      rw [List.getElem?_drop] at hj
      exact ne i (n + j) p q hp hj (by have := hl i hi; omega) z
theorem Sl.baseL {l : List (Addr × Obj)} (D : Sl prog w h₀ h (l.map (fun p => (p.1, Cl.obj p.2)) ++ fs)) : ∃ h₁, (∀ a o, h₀.get? a = some o → h₁.get? a = some o) ∧ (∀ p ∈ l, h₁.get? p.1 = some p.2) ∧ (l.map (·.1)).Nodup ∧ Sl prog w h₁ h fs := by
  have nd := D.nd
  rw [List.map_append, List.map_map] at nd
  obtain ⟨n1, n2, n3⟩ := List.nodup_append.mp nd
  obtain ⟨h₁, e1, e2, D1⟩ := (D.sub (List.sublist_append_right _ _)).base
  refine ⟨h₁, e1, fun p hp => e2 _ _ (D.ok (p.1, .obj p.2) (List.mem_append_left _ (List.mem_map_of_mem (f := fun p => (p.1, Cl.obj p.2)) hp))).1 (fun hm => n3 p.1 (List.mem_map.mpr ⟨p, hp, rfl⟩) p.1 hm rfl), n1, D1⟩
theorem s_alloc {α : Type} {o : Obj} {kk : Addr → Sem α} {Q : α → Shared → Prop} (D : Sl prog w h₀ h fs) (hf : o.isFreed = false) (x : ∀ a h', Sl prog w h₀ h' ((a, .obj o) :: fs) → wpAny (model prog w) A (kk a) Q E ⟨h', gs, d, t, os⟩) : wpAny (model prog w) A (.alloc o kk) Q E ⟨h, gs, d, t, os⟩ :=
  nd_alloc (x _ _ (D.push (Heap.get?_push_size _ hf)))
theorem mkLo {Q : Value → Shared → Prop} {vs : List Value} (D : Sl prog w h₀ h fs) (hz : vs.length ≤ 1000) (k : ∀ a h', Sl prog w h₀ h' ((a, .obj { cls := .type "list", data := .seq vs.toArray }) :: fs) → Q (.ref a) ⟨h', gs, d, t, os⟩) : MkL Q vs ⟨h, gs, d, t, os⟩ :=
  ⟨zl hz, k _ _ (D.push (Heap.get?_push_size _ rfl))⟩
theorem tcx {b n sl f0 f1 f2 f3 f4 f5 sa : Addr} {un : Tok} {e1 e2 e3 : Nat} {fd0 fd1 fd2 fd3 fd4 fd5 : FuncData} {Q : Result → Shared → Prop} {g : Bool} {lv : List Value} {u0 u1 u2 u3 u4 u5 u6 u7 u8 u9 u10 u11 u12 u13 u14 u15 u16 : Nat} {q : Str} {fl : Int} {h₀ : Heap}
   (hq : q = Str.ofString "cmp_to_key.<locals>.K") (hf : fl = 98)
   (hb : h₀.get? b = some { cls := .type "tuple", data := .seq #[.type "object"] e1 })
   (hn : h₀.get? n = some { cls := .type "dict", data := .dict [⟨PyData.keyHash w.params (Str.ofString "__module__"), .str (Str.ofString "__module__") u0, .str (Str.ofString "cpy313.functools") u1⟩,
   ⟨PyData.keyHash w.params (Str.ofString "__qualname__"), .str (Str.ofString "__qualname__") u2, .str q u3⟩,
   ⟨PyData.keyHash w.params (Str.ofString "__firstlineno__"), .str (Str.ofString "__firstlineno__") u4, .int fl u5⟩,
   ⟨PyData.keyHash w.params (Str.ofString "__slots__"), .str (Str.ofString "__slots__") u6, .ref sl⟩,
   ⟨PyData.keyHash w.params (Str.ofString "__init__"), .str (Str.ofString "__init__") u7, .ref f0⟩,
   ⟨PyData.keyHash w.params (Str.ofString "__lt__"), .str (Str.ofString "__lt__") u8, .ref f1⟩,
   ⟨PyData.keyHash w.params (Str.ofString "__gt__"), .str (Str.ofString "__gt__") u9, .ref f2⟩,
   ⟨PyData.keyHash w.params (Str.ofString "__eq__"), .str (Str.ofString "__eq__") u10, .ref f3⟩,
   ⟨PyData.keyHash w.params (Str.ofString "__le__"), .str (Str.ofString "__le__") u11, .ref f4⟩,
   ⟨PyData.keyHash w.params (Str.ofString "__ge__"), .str (Str.ofString "__ge__") u12, .ref f5⟩,
   ⟨PyData.keyHash w.params (Str.ofString "__hash__"), .str (Str.ofString "__hash__") u13, .none⟩,
   ⟨PyData.keyHash w.params (Str.ofString "__static_attributes__"), .str (Str.ofString "__static_attributes__") u14, .ref sa⟩].toArray e2 })
   (hsl : h₀.get? sl = some { cls := .type "list", data := .seq #[.str (S "obj") u15] e3 })
   (h0 : h₀.get? f0 = some (fnObj fd0)) (h1 : h₀.get? f1 = some (fnObj fd1)) (h2 : h₀.get? f2 = some (fnObj fd2)) (h3 : h₀.get? f3 = some (fnObj fd3)) (h4 : h₀.get? f4 = some (fnObj fd4)) (h5 : h₀.get? f5 = some (fnObj fd5))
   (hsa : h₀.get? sa = some { cls := .type "tuple", data := .seq #[.str (S "obj") u16] e3 })
   (hn2 : ¬ n = sysModules) (hcs : h₀.get? cStatics = some { cls := .none, data := .dict #[] })
   (k : ∀ u x y md C ns l h', Ld h₀ h' [] [(x, { cls := .type "builtin_function_or_method", data := .fields #[.builtin "object.__init_subclass__", .ref C] }), (y, supK C), (md, mdK C t), (C, clsK C ns b un (u 3)), (ns, { cls := .type "dict", data := .dict (nsK w.params sl f0 f1 f2 f3 f4 f5 sa md u t).toArray 3 }), (l, { cls := .type "list", data := .seq #[.str (S "obj") (u 15)] 1 })] →
     Q (.ok (.ret (.ref C))) ⟨h', gs, d, t + 4, os⟩) :
   wpAny (model prog w) A (.call (.call (.type "type") ⟨[.str (S "K") un, .ref b, .ref n], []⟩) none g lv Sem.pure) Q E ⟨h₀, gs, d, t, os⟩ := by
  subst hq hf
  exact tc (u := fun i => [u0, u1, u2, u3, u4, u5, u6, u7, u8, u9, u10, u11, u12, u13, u14, u15, u16].getD i 0) hb hn hsl h0 h1 h2 h3 h4 h5 hsa hn2 hcs (fun x y md C ns l h' D => k (fun i => [u0, u1, u2, u3, u4, u5, u6, u7, u8, u9, u10, u11, u12, u13, u14, u15, u16].getD i 0) x y md C ns l h' D)
theorem mkA {p85 : Array Value} {tk : List (Addr × Cl)} (D : Sl prog w h₀ h ((85, .obj (tabObj p85)) :: tk ++ fs)) (G : Gd w.params hK h₀) (GM : Gm w.params h₀) (st : TSt h₀ p85 tk) (hroom : A.depth + 3 < recursionLimit)
   (h4 : h₀.get? 4 = some { cls := .type "module", dict := some 0, data := .plain })
   (k : ∀ r h₁ h' t' cK TK ps, (∀ b o, h₀.get? b = some o → h₁.get? b = some o) → KOk w.params r h₁ → TSt h₁ #[.int 98 0, .int 4 0, .ref cK] [(TK, .obj (tabObj ps))] → Sl prog w h₁ h' ((85, .obj (tabObj #[.int 98 0, .int 4 0, .ref cK])) :: (TK, .obj (tabObj ps)) :: fs) → R (.ok (.ret (.ref r.C))) ⟨h', gs, d, t', os⟩) :
   codeAny (model prog w) A (.call (.ref 90) ⟨[.ref 158], []⟩) R ⟨h, gs, d, t, os⟩ := by
  refine r_callD (x := Str.ofString "mycmp") D G (fn_90 w.params) (d00 hroom) (by kernel_rfl) (by kernel_rfl) (fun L => by kernel_rfl) (fun L h' t D => ?_)
  with_unfolding_all change wpAny _ _ (execs (_ :: _) _) _ _ _
  refine wpAny_execs_cons ?_
  refine veil (fun Q1 E1 hQ1 => ?_)
  have D0 := D
  have X := (G.keeps D.keep).X
  obtain ⟨mb, hB, hbs⟩ := (G.keeps D.keep).bn
  have hb1 : mb (Str.ofString "__build_class__") = some (.builtin "__build_class__") := hbs _ (by decide +kernel)
  have hb2 : mb (Str.ofString "object") = some (.type "object") := hbs _ (by decide +kernel)
  have hlim := (G.keeps D.keep).lim
  obtain ⟨osm, hsm⟩ := (G.keeps D.keep).sm
  have h4' := D.keep _ _ h4
  clear D
  have D := Ld.start h'
  repeat ((fail_if_success (first | with_reducible refine' stop (Stop.cls) ?_ | with_reducible refine' stop (Stop.ex) ?_ | with_reducible refine' stop (Stop.st) ?_)); (first | (with_reducible refine hQ9 _ _ ?_; clear hQ9 Q9) | with_reducible refine nd_pure ?_ | with_reducible refine bindV (fun Q9 hQ9 => ?_) | with_reducible refine nbindV (fun Q9 hQ9 => ?_) | with_reducible refine wpAny_pure ?_ | ((fail_if_success (with_reducible refine' gate ?gg ?_; (case gg => with_reducible constructor))); k_node) | with_reducible refine nd_rule ?_ | with_reducible refine nd_point ?_ | with_reducible refine nd_ask ?_ | with_reducible refine m_fresh ?_ | with_reducible refine x_at ?_ | with_reducible refine wpAny_holding ?_ | with_reducible refine onRaiseV (fun E9 => ?_) | with_reducible refine wpAny_tryCatch ?_ | ((with_reducible show wpAny _ _ (Sem.load _ _ _) _ _ _); (first | (refine' m_load _ D (At.get ?hi) ?_; (case hi => (walk_at "b IDX"))) | (first | ((with_reducible refine' m_old D (by assumption) ?qo ?_; (case qo => rfl))) | (with_reducible refine m_old D (by with_reducible assumption) rfl ?_)) | (refine' m_load _ D (At.get ?hi) ?_; (case hi => (walk_at "b IDXD"))))) | ((with_reducible show wpAny _ _ (Sem.update _ _ _ _) _ _ _); ((refine' m_update _ D (At.get ?hi) ?qe ?qr ?_; (case hi => (first | (walk_at "b IDX") | (walk_at "b IDXD"))); (case qe => rfl); (case qr => rfl); ((clear D; intro h' D; dsimp only [List.set_cons_zero, List.set_cons_succ, List.cons_append, List.nil_append, List.eraseIdx_cons_succ, List.eraseIdx_cons_zero, List.length_cons, List.length_nil, Nat.reduceAdd, Nat.reduceSub, List.replicate_zero, List.replicate_succ, List.append_nil] at D; (try dsimp only [List.cons_append, List.nil_append, backToKw, keywordEach, List.map_nil, List.filterMap_nil, List.append_nil, Option.isSome_none, Bool.false_eq_true, reduceIte, List.append_toArray] at D)))))) | ((with_reducible show wpAny _ _ (Sem.call _ _ _ _ _) _ _ _); (with_reducible refine call_split ?_); (first | (simp only [mk_e1]; refine c_prepget (fun a h' D' => ?_); replace D := Ld.trans D D'; clear D'; dsimp only [List.cons_append, List.nil_append] at D) | (refine c_prep (Ld.at D 0 rfl) (fun a h' D' => ?_); replace D := Ld.trans D D'; clear D'; dsimp only [List.cons_append, List.nil_append] at D) | refine x_call (codeAny_body (by kernel_rfl) (by kernel_rfl) ?_) (by intro h; cases h))) | ((with_reducible show wpAny _ _ (Sem.alloc _ _) _ _ _); ((with_reducible refine m_alloc D rfl ?_; clear D; intro a h' D; (try dsimp only [List.cons_append, List.nil_append, backToKw, keywordEach, List.map_nil, List.filterMap_nil, List.append_nil, Option.isSome_none, Bool.false_eq_true, reduceIte, List.append_toArray] at D)))) | (first | with_reducible refine ite_no (by decide +kernel) ?_ | with_reducible refine ite_yes (by decide +kernel) ?_ | (with_reducible refine' ite_no ?q1 ?_; (case q1 => ((with_reducible show ¬ (_ == _) = true); simp only [beq_iff_eq]; assumption)))) | (first | (first | ((with_reducible show wpAny _ _ (nsGet _ _) _ _ _); refine m_nsGetO D hA rfl (by k_get) ?_) | ((with_reducible show wpAny _ _ (ite ((_ == sysModules) = true) _ _) _ _ _); with_reducible refine' ite_no ?q1 ?_; (case q1 => (simp only [beq_iff_eq]; exact Ld.ne_old D 0 rfl hsm))) | ((with_reducible show wpAny _ _ (nsGet _ (Str.ofString "__builtins__")) _ _ _); refine m_nsGetK D X rfl (gl_bm _) ?_) | ((with_reducible show wpAny _ _ (nsGet _ (Str.ofString "object")) _ _ _); first | refine m_nsGetK D X rfl (gl_object _) ?_ | refine m_nsGetN D hB rfl hb2 ?_) | ((with_reducible show wpAny _ _ (nsGet _ (Str.ofString "__name__")) _ _ _); refine m_nsGetK D X rfl (gl_nm _) ?_) | ((with_reducible show wpAny _ _ (nsGet _ (Str.ofString "__build_class__")) _ _ _); refine m_nsGetN D hB rfl hb1 ?_) | ((with_reducible show wpAny _ _ (enterFrame _) _ _ _); refine m_enter D hlim rfl ?dep ?_; (case dep => (show A.depth + 1 < _; omega)))) | (first | ((with_reducible show wpAny _ _ (nsGet _ _) _ _ _); refine' m_nsGet _ D (At.get ?hi) ?qe ?_; (case hi => (first | (walk_at "b IDX") | (walk_at "b IDXD"))); (case qe => k_get)) | ((with_reducible show wpAny _ _ (nsSet _ _ _) _ _ _); (refine' m_nsSet _ D (At.get ?hi) ?qk ?_; (case hi => (first | (walk_at "b IDX") | (walk_at "b IDXD"))); (case qk => kernel_rfl)); ((clear D; intro h' D; dsimp only [List.set_cons_zero, List.set_cons_succ, List.cons_append, List.nil_append, List.eraseIdx_cons_succ, List.eraseIdx_cons_zero, List.length_cons, List.length_nil, Nat.reduceAdd, Nat.reduceSub, List.replicate_zero, List.replicate_succ, List.append_nil] at D; (try dsimp only [List.cons_append, List.nil_append, backToKw, keywordEach, List.map_nil, List.filterMap_nil, List.append_nil, Option.isSome_none, Bool.false_eq_true, reduceIte, List.append_toArray] at D)))) | ((with_reducible show wpAny _ _ (nsSetByValue _ _ _) _ _ _); (refine' m_nsSetV _ D (At.get ?hi) ?qk ?qd ?_; (case hi => (first | (walk_at "b IDX") | (walk_at "b IDXD"))); (case qk => kernel_rfl); (case qd => decide)); ((clear D; intro h' D; dsimp only [List.set_cons_zero, List.set_cons_succ, List.cons_append, List.nil_append, List.eraseIdx_cons_succ, List.eraseIdx_cons_zero, List.length_cons, List.length_nil, Nat.reduceAdd, Nat.reduceSub, List.replicate_zero, List.replicate_succ, List.append_nil] at D; (try dsimp only [List.cons_append, List.nil_append, backToKw, keywordEach, List.map_nil, List.filterMap_nil, List.append_nil, Option.isSome_none, Bool.false_eq_true, reduceIte, List.append_toArray] at D)))) | ((with_reducible show wpAny _ _ (setSlotAt _ _ _) _ _ _); (refine' m_slot _ D (At.get ?hi) ?qd ?qr ?_; (case hi => (first | (walk_at "b IDX") | (walk_at "b IDXD"))); (case qd => decide); (case qr => rfl)); ((clear D; intro h' D; dsimp only [List.set_cons_zero, List.set_cons_succ, List.cons_append, List.nil_append, List.eraseIdx_cons_succ, List.eraseIdx_cons_zero, List.length_cons, List.length_nil, Nat.reduceAdd, Nat.reduceSub, List.replicate_zero, List.replicate_succ, List.append_nil] at D; (try dsimp only [List.cons_append, List.nil_append, backToKw, keywordEach, List.map_nil, List.filterMap_nil, List.append_nil, Option.isSome_none, Bool.false_eq_true, reduceIte, List.append_toArray] at D)))) | ((with_reducible show wpAny _ _ (updateCls _ _) _ _ _); (refine' m_cls _ D (At.get ?hi) ?qr ?_; (case hi => (first | (walk_at "b IDX") | (walk_at "b IDXD"))); (case qr => rfl)); ((clear D; intro h' D; dsimp only [List.set_cons_zero, List.set_cons_succ, List.cons_append, List.nil_append, List.eraseIdx_cons_succ, List.eraseIdx_cons_zero, List.length_cons, List.length_nil, Nat.reduceAdd, Nat.reduceSub, List.replicate_zero, List.replicate_succ, List.append_nil] at D; (try dsimp only [List.cons_append, List.nil_append, backToKw, keywordEach, List.map_nil, List.filterMap_nil, List.append_nil, Option.isSome_none, Bool.false_eq_true, reduceIte, List.append_toArray] at D)))))) | ((fail_if_success (with_reducible show wpAny _ _ (Sem.load _ _ _) _ _ _)); k_node) | (first | with_reducible refine ite_no (by decide +kernel) ?_ | with_reducible refine ite_yes (by decide +kernel) ?_)))
  have D1 := D0.addLd D
  clear D D0 hlim hsm hB X h4'
  rename_i b _ ap _
  obtain ⟨na, hna⟩ : ∃ x, x = a := ⟨_, rfl⟩
  subst hna
  replace D1 : Sl prog w h₀ _ ([(na, .obj { cls := .type "dict", data := .dict #[] }), (ap, .obj prepM), (b, .obj { cls := .type "tuple", data := .seq #[.type "object"] }), (L, .frm []), (L + 1, .cel (some (.ref 158)))] ++ ((85, .obj (tabObj p85)) :: tk ++ fs)) := D1
  have D1 := D1.perm (List.perm_append_comm_assoc _ _ _)
  refine r_class D1 G st rfl ⟨rfl, rfl⟩ (by kernel_rfl) (fun cK TK ps h₁ h' t e1 hcK tb D1 => ?_)
  replace D1 : Sl prog w h₁ h' ((TK, .obj (tabObj ps.toArray)) :: (85, .obj (tabObj #[.int 98 0, .int 4 0, .ref cK])) :: (na, .obj { cls := .type "dict", data := .dict #[] }) :: (ap, .obj prepM) :: (b, .obj { cls := .type "tuple", data := .seq #[.type "object"] }) :: (L, .frm []) :: (L + 1, .cel (some (.ref 158))) :: fs) := D1
  replace GM := GM.up e1
  have G := G.keeps e1
  have X := (G.keeps D1.keep).X
  obtain ⟨mb, hB, hbs⟩ := (G.keeps D1.keep).bn
  have hlim := (G.keeps D1.keep).lim
  obtain ⟨osm, hsm⟩ := (G.keeps D1.keep).sm
  have h4 := D1.keep _ _ (e1 _ _ h4)
  have hA : h'.get? na = some { cls := .type "dict", data := .dict ([] : List DictEntry).toArray } := D1.at (.s (.s .z))
  have D := Ld.start h'
  repeat ((fail_if_success (first | with_reducible refine' stop (Stop.cls) ?_ | with_reducible refine' stop (Stop.ex) ?_ | with_reducible refine' stop (Stop.st) ?_)); (first | (with_reducible refine hQ9 _ _ ?_; clear hQ9 Q9) | with_reducible refine nd_pure ?_ | with_reducible refine bindV (fun Q9 hQ9 => ?_) | with_reducible refine nbindV (fun Q9 hQ9 => ?_) | with_reducible refine wpAny_pure ?_ | ((fail_if_success (with_reducible refine' gate ?gg ?_; (case gg => with_reducible constructor))); k_node) | with_reducible refine nd_rule ?_ | with_reducible refine nd_point ?_ | with_reducible refine nd_ask ?_ | with_reducible refine m_fresh ?_ | with_reducible refine x_at ?_ | with_reducible refine wpAny_holding ?_ | with_reducible refine onRaiseV (fun E9 => ?_) | with_reducible refine wpAny_tryCatch ?_ | ((with_reducible show wpAny _ _ (Sem.load _ _ _) _ _ _); (first | (refine' m_load _ D (At.get ?hi) ?_; (case hi => (walk_at "b IDX"))) | (first | ((with_reducible refine' m_old D (by assumption) ?qo ?_; (case qo => rfl))) | (with_reducible refine m_old D (by with_reducible assumption) rfl ?_)) | (refine' m_load _ D (At.get ?hi) ?_; (case hi => (walk_at "b IDXD"))))) | ((with_reducible show wpAny _ _ (Sem.update _ _ _ _) _ _ _); ((refine' m_update _ D (At.get ?hi) ?qe ?qr ?_; (case hi => (first | (walk_at "b IDX") | (walk_at "b IDXD"))); (case qe => rfl); (case qr => rfl); ((clear D; intro h' D; dsimp only [List.set_cons_zero, List.set_cons_succ, List.cons_append, List.nil_append, List.eraseIdx_cons_succ, List.eraseIdx_cons_zero, List.length_cons, List.length_nil, Nat.reduceAdd, Nat.reduceSub, List.replicate_zero, List.replicate_succ, List.append_nil] at D; (try dsimp only [List.cons_append, List.nil_append, backToKw, keywordEach, List.map_nil, List.filterMap_nil, List.append_nil, Option.isSome_none, Bool.false_eq_true, reduceIte, List.append_toArray] at D)))))) | ((with_reducible show wpAny _ _ (Sem.call _ _ _ _ _) _ _ _); (with_reducible refine call_split ?_); (first | (simp only [mk_e1]; refine c_prepget (fun a h' D' => ?_); replace D := Ld.trans D D'; clear D'; dsimp only [List.cons_append, List.nil_append] at D) | (refine c_prep (Ld.at D 0 rfl) (fun a h' D' => ?_); replace D := Ld.trans D D'; clear D'; dsimp only [List.cons_append, List.nil_append] at D) | refine x_call (codeAny_body (by kernel_rfl) (by kernel_rfl) ?_) (by intro h; cases h))) | ((with_reducible show wpAny _ _ (Sem.alloc _ _) _ _ _); ((with_reducible refine m_alloc D rfl ?_; clear D; intro a h' D; (try dsimp only [List.cons_append, List.nil_append, backToKw, keywordEach, List.map_nil, List.filterMap_nil, List.append_nil, Option.isSome_none, Bool.false_eq_true, reduceIte, List.append_toArray] at D)))) | (first | with_reducible refine ite_no (by decide +kernel) ?_ | with_reducible refine ite_yes (by decide +kernel) ?_ | (with_reducible refine' ite_no ?q1 ?_; (case q1 => ((with_reducible show ¬ (_ == _) = true); simp only [beq_iff_eq]; assumption)))) | (first | (first | ((with_reducible show wpAny _ _ (nsGet _ _) _ _ _); refine m_nsGetO D hA rfl (by k_get) ?_) | ((with_reducible show wpAny _ _ (ite ((_ == sysModules) = true) _ _) _ _ _); with_reducible refine' ite_no ?q1 ?_; (case q1 => (simp only [beq_iff_eq]; exact Ld.ne_old D 0 rfl hsm))) | ((with_reducible show wpAny _ _ (nsGet _ (Str.ofString "__builtins__")) _ _ _); refine m_nsGetK D X rfl (gl_bm _) ?_) | ((with_reducible show wpAny _ _ (nsGet _ (Str.ofString "object")) _ _ _); first | refine m_nsGetK D X rfl (gl_object _) ?_ | refine m_nsGetN D hB rfl hb2 ?_) | ((with_reducible show wpAny _ _ (nsGet _ (Str.ofString "__name__")) _ _ _); refine m_nsGetK D X rfl (gl_nm _) ?_) | ((with_reducible show wpAny _ _ (nsGet _ (Str.ofString "__build_class__")) _ _ _); refine m_nsGetN D hB rfl hb1 ?_) | ((with_reducible show wpAny _ _ (enterFrame _) _ _ _); refine m_enter D hlim rfl ?dep ?_; (case dep => (show A.depth + 1 < _; omega)))) | (first | ((with_reducible show wpAny _ _ (nsGet _ _) _ _ _); refine' m_nsGet _ D (At.get ?hi) ?qe ?_; (case hi => (first | (walk_at "b IDX") | (walk_at "b IDXD"))); (case qe => k_get)) | ((with_reducible show wpAny _ _ (nsSet _ _ _) _ _ _); (refine' m_nsSet _ D (At.get ?hi) ?qk ?_; (case hi => (first | (walk_at "b IDX") | (walk_at "b IDXD"))); (case qk => kernel_rfl)); ((clear D; intro h' D; dsimp only [List.set_cons_zero, List.set_cons_succ, List.cons_append, List.nil_append, List.eraseIdx_cons_succ, List.eraseIdx_cons_zero, List.length_cons, List.length_nil, Nat.reduceAdd, Nat.reduceSub, List.replicate_zero, List.replicate_succ, List.append_nil] at D; (try dsimp only [List.cons_append, List.nil_append, backToKw, keywordEach, List.map_nil, List.filterMap_nil, List.append_nil, Option.isSome_none, Bool.false_eq_true, reduceIte, List.append_toArray] at D)))) | ((with_reducible show wpAny _ _ (nsSetByValue _ _ _) _ _ _); (refine' m_nsSetV _ D (At.get ?hi) ?qk ?qd ?_; (case hi => (first | (walk_at "b IDX") | (walk_at "b IDXD"))); (case qk => kernel_rfl); (case qd => decide)); ((clear D; intro h' D; dsimp only [List.set_cons_zero, List.set_cons_succ, List.cons_append, List.nil_append, List.eraseIdx_cons_succ, List.eraseIdx_cons_zero, List.length_cons, List.length_nil, Nat.reduceAdd, Nat.reduceSub, List.replicate_zero, List.replicate_succ, List.append_nil] at D; (try dsimp only [List.cons_append, List.nil_append, backToKw, keywordEach, List.map_nil, List.filterMap_nil, List.append_nil, Option.isSome_none, Bool.false_eq_true, reduceIte, List.append_toArray] at D)))) | ((with_reducible show wpAny _ _ (setSlotAt _ _ _) _ _ _); (refine' m_slot _ D (At.get ?hi) ?qd ?qr ?_; (case hi => (first | (walk_at "b IDX") | (walk_at "b IDXD"))); (case qd => decide); (case qr => rfl)); ((clear D; intro h' D; dsimp only [List.set_cons_zero, List.set_cons_succ, List.cons_append, List.nil_append, List.eraseIdx_cons_succ, List.eraseIdx_cons_zero, List.length_cons, List.length_nil, Nat.reduceAdd, Nat.reduceSub, List.replicate_zero, List.replicate_succ, List.append_nil] at D; (try dsimp only [List.cons_append, List.nil_append, backToKw, keywordEach, List.map_nil, List.filterMap_nil, List.append_nil, Option.isSome_none, Bool.false_eq_true, reduceIte, List.append_toArray] at D)))) | ((with_reducible show wpAny _ _ (updateCls _ _) _ _ _); (refine' m_cls _ D (At.get ?hi) ?qr ?_; (case hi => (first | (walk_at "b IDX") | (walk_at "b IDXD"))); (case qr => rfl)); ((clear D; intro h' D; dsimp only [List.set_cons_zero, List.set_cons_succ, List.cons_append, List.nil_append, List.eraseIdx_cons_succ, List.eraseIdx_cons_zero, List.length_cons, List.length_nil, Nat.reduceAdd, Nat.reduceSub, List.replicate_zero, List.replicate_succ, List.append_nil] at D; (try dsimp only [List.cons_append, List.nil_append, backToKw, keywordEach, List.map_nil, List.filterMap_nil, List.append_nil, Option.isSome_none, Bool.false_eq_true, reduceIte, List.append_toArray] at D)))))) | ((fail_if_success (with_reducible show wpAny _ _ (Sem.load _ _ _) _ _ _)); k_node) | (first | with_reducible refine ite_no (by decide +kernel) ?_ | with_reducible refine ite_yes (by decide +kernel) ?_)))
  have D2 := (D1.addLd D).tail
  replace D2 : Sl prog w h₁ _ ((TK, .obj (tabObj ps.toArray)) :: (85, .obj (tabObj #[.int 98 0, .int 4 0, .ref cK])) :: (na, .obj { cls := .type "dict", data := .dict ([] : List DictEntry).toArray }) :: (ap, .obj prepM) :: (b, .obj { cls := .type "tuple", data := .seq #[.type "object"] }) :: (L, .frm []) :: (L + 1, .cel (some (.ref 158))) :: fs) := D2
  clear D D1 X hB hlim hsm h4 hA
  have D := D2
  clear D2
  have e0 := e1
  clear e1
  repeat ((fail_if_success (with_reducible show wpAny _ _ (execs _ _) _ _ _)); (first
  | ((with_reducible show wpAny _ _ (storeName _ (Str.ofString "__module__") _) _ _ _); (with_reducible refine' c_restore D ?hi ?hst ?hs (fun h' D => ?_)); (case hi => walk_at "b AT"); (case hst => exact ⟨by kernel_rfl, rfl⟩); (case hs => kernel_rfl); dsimp only [List.set_cons_zero, List.set_cons_succ, List.cons_append, List.nil_append] at D)
  | ((with_reducible refine' c_store D ?hi ?hst ?hs (fun h' D => ?_)); (case hi => walk_at "b AT"); (case hst => exact ⟨by kernel_rfl, rfl⟩); (case hs => kernel_rfl); dsimp only [List.set_cons_zero, List.set_cons_succ, List.cons_append, List.nil_append] at D)
  | with_reducible refine wpAny_execs_cons ?_
  | with_reducible refine wpAny_execs_nil ?_
  | ((with_reducible refine' wpAny_Assign_Name ?_ ?qq); (case qq => rfl))
  | with_reducible refine wpAny_assign_Name ?_
  | with_reducible refine r_str ?_
  | with_reducible refine r_none ?_
  | with_reducible refine r_list ?_
  | with_reducible refine wpAny_items_nil ?_
  | ((with_reducible refine' wpAny_items_cons ?_ ?qq); (case qq => rfl))
  | ((with_reducible refine' mkLo D ?qz (fun sl h' D => ?_)); (case qz => exact Nat.le_of_ble_eq_true rfl))
  | ((fail_if_success (first | with_reducible refine' stop (Stop.ex) ?_ | with_reducible refine' stop (Stop.st) ?_ | with_reducible refine' stop (Stop.fd) ?_)); (first
    | (with_reducible refine hQ9 _ _ ?_; clear hQ9 Q9) | with_reducible refine nd_pure ?_ | with_reducible refine bindV (fun Q9 hQ9 => ?_) | with_reducible refine nbindV (fun Q9 hQ9 => ?_) | with_reducible refine wpAny_pure ?_
    | ((fail_if_success (with_reducible refine' gate ?gg ?_; (case gg => with_reducible constructor))); k_node)
    | with_reducible refine nd_rule ?_ | with_reducible refine nd_point ?_ | with_reducible refine nd_ask ?_ | with_reducible refine m_fresh ?_ | with_reducible refine x_at ?_
    | with_reducible refine wpAny_holding ?_ | with_reducible refine wpAny_onRaise ?_ | with_reducible refine wpAny_tryCatch ?_
    | ((with_reducible refine' s_alloc D ?qf (fun sa h' D => ?_)); (case qf => rfl))
    | ((with_reducible show wpAny _ _ (Sem.call _ _ _ _ _) _ _ _); (with_reducible refine call_split ?_); refine x_call (codeAny_body (by kernel_rfl) (by kernel_rfl) ?_) (by intro h; cases h))
    | (first | with_reducible refine ite_no (by decide +kernel) ?_ | with_reducible refine ite_yes (by decide +kernel) ?_ | (with_reducible refine' ite_no ?q1 ?_; (case q1 => ((with_reducible show ¬ (_ == _) = true); simp only [beq_iff_eq]; assumption))))
    | (first | with_reducible refine ite_no (by decide +kernel) ?_ | with_reducible refine ite_yes (by decide +kernel) ?_)))))
  refine veil (fun Q2 E2 hQ2 => ?_)
  repeat (first
  | ((with_reducible show wpAny _ _ (storeName _ (Str.ofString "__module__") _) _ _ _); (with_reducible refine' c_restore D ?hi ?hst ?hs (fun h' D => ?_)); (case hi => walk_at "b AT"); (case hst => exact ⟨by kernel_rfl, rfl⟩); (case hs => kernel_rfl); dsimp only [List.set_cons_zero, List.set_cons_succ, List.cons_append, List.nil_append] at D)
  | ((with_reducible refine' c_store D ?hi ?hst ?hs (fun h' D => ?_)); (case hi => walk_at "b AT"); (case hst => exact ⟨by kernel_rfl, rfl⟩); (case hs => kernel_rfl); dsimp only [List.set_cons_zero, List.set_cons_succ, List.cons_append, List.nil_append] at D)
  | with_reducible refine wpAny_execs_cons ?_
  | with_reducible refine wpAny_execs_nil ?_
  | ((with_reducible refine' wpAny_Assign_Name ?_ ?qq); (case qq => rfl))
  | with_reducible refine wpAny_assign_Name ?_
  | with_reducible refine r_str ?_
  | with_reducible refine r_none ?_
  | with_reducible refine r_list ?_
  | with_reducible refine wpAny_items_nil ?_
  | ((with_reducible refine' wpAny_items_cons ?_ ?qq); (case qq => rfl))
  | ((with_reducible refine' mkLo D ?qz (fun sl h' D => ?_)); (case qz => exact Nat.le_of_ble_eq_true rfl))
  | ((fail_if_success (first | with_reducible refine' stop (Stop.ex) ?_ | with_reducible refine' stop (Stop.st) ?_ | with_reducible refine' stop (Stop.fd) ?_)); (first
    | (with_reducible refine hQ9 _ _ ?_; clear hQ9 Q9) | with_reducible refine nd_pure ?_ | with_reducible refine bindV (fun Q9 hQ9 => ?_) | with_reducible refine nbindV (fun Q9 hQ9 => ?_) | with_reducible refine wpAny_pure ?_
    | ((fail_if_success (with_reducible refine' gate ?gg ?_; (case gg => with_reducible constructor))); k_node)
    | with_reducible refine nd_rule ?_ | with_reducible refine nd_point ?_ | with_reducible refine nd_ask ?_ | with_reducible refine m_fresh ?_ | with_reducible refine x_at ?_
    | with_reducible refine wpAny_holding ?_ | with_reducible refine wpAny_onRaise ?_ | with_reducible refine wpAny_tryCatch ?_
    | ((with_reducible refine' s_alloc D ?qf (fun sa h' D => ?_)); (case qf => rfl))
    | ((with_reducible show wpAny _ _ (Sem.call _ _ _ _ _) _ _ _); (with_reducible refine call_split ?_); refine x_call (codeAny_body (by kernel_rfl) (by kernel_rfl) ?_) (by intro h; cases h))
    | (first | with_reducible refine ite_no (by decide +kernel) ?_ | with_reducible refine ite_yes (by decide +kernel) ?_ | (with_reducible refine' ite_no ?q1 ?_; (case q1 => ((with_reducible show ¬ (_ == _) = true); simp only [beq_iff_eq]; assumption))))
    | (first | with_reducible refine ite_no (by decide +kernel) ?_ | with_reducible refine ite_yes (by decide +kernel) ?_))))
  refine nestDef_K rfl rfl rfl ?_
  replace D := D.front (.s .z)
  dsimp only [List.eraseIdx_cons_succ, List.eraseIdx_cons_zero] at D
  refine r_mkfn (clos := []) D G GM tb (by decide) rfl hcK ⟨rfl, rfl⟩ (by kernel_rfl) (by kernel_rfl) (by kernel_rfl) (fun _ _ _ => by kernel_rfl) (fun f0 c0 x0 d0 h₁ h' t ps e1 r0 tb D => ?_)
  replace G := G.keeps e1
  replace GM := GM.up e1
  replace hcK := hcK.keeps e1
  replace e0 := fun b o e => e1 _ _ (e0 b o e)
  clear e1
  repeat (first
  | ((with_reducible show wpAny _ _ (storeName _ (Str.ofString "__module__") _) _ _ _); (with_reducible refine' c_restore D ?hi ?hst ?hs (fun h' D => ?_)); (case hi => walk_at "b AT"); (case hst => exact ⟨by kernel_rfl, rfl⟩); (case hs => kernel_rfl); dsimp only [List.set_cons_zero, List.set_cons_succ, List.cons_append, List.nil_append] at D)
  | ((with_reducible refine' c_store D ?hi ?hst ?hs (fun h' D => ?_)); (case hi => walk_at "b AT"); (case hst => exact ⟨by kernel_rfl, rfl⟩); (case hs => kernel_rfl); dsimp only [List.set_cons_zero, List.set_cons_succ, List.cons_append, List.nil_append] at D)
  | with_reducible refine wpAny_execs_cons ?_
  | with_reducible refine wpAny_execs_nil ?_
  | ((with_reducible refine' wpAny_Assign_Name ?_ ?qq); (case qq => rfl))
  | with_reducible refine wpAny_assign_Name ?_
  | with_reducible refine r_str ?_
  | with_reducible refine r_none ?_
  | with_reducible refine r_list ?_
  | with_reducible refine wpAny_items_nil ?_
  | ((with_reducible refine' wpAny_items_cons ?_ ?qq); (case qq => rfl))
  | ((with_reducible refine' mkLo D ?qz (fun sl h' D => ?_)); (case qz => exact Nat.le_of_ble_eq_true rfl))
  | ((fail_if_success (first | with_reducible refine' stop (Stop.ex) ?_ | with_reducible refine' stop (Stop.st) ?_ | with_reducible refine' stop (Stop.fd) ?_)); (first
    | (with_reducible refine hQ9 _ _ ?_; clear hQ9 Q9) | with_reducible refine nd_pure ?_ | with_reducible refine bindV (fun Q9 hQ9 => ?_) | with_reducible refine nbindV (fun Q9 hQ9 => ?_) | with_reducible refine wpAny_pure ?_
    | ((fail_if_success (with_reducible refine' gate ?gg ?_; (case gg => with_reducible constructor))); k_node)
    | with_reducible refine nd_rule ?_ | with_reducible refine nd_point ?_ | with_reducible refine nd_ask ?_ | with_reducible refine m_fresh ?_ | with_reducible refine x_at ?_
    | with_reducible refine wpAny_holding ?_ | with_reducible refine wpAny_onRaise ?_ | with_reducible refine wpAny_tryCatch ?_
    | ((with_reducible refine' s_alloc D ?qf (fun sa h' D => ?_)); (case qf => rfl))
    | ((with_reducible show wpAny _ _ (Sem.call _ _ _ _ _) _ _ _); (with_reducible refine call_split ?_); refine x_call (codeAny_body (by kernel_rfl) (by kernel_rfl) ?_) (by intro h; cases h))
    | (first | with_reducible refine ite_no (by decide +kernel) ?_ | with_reducible refine ite_yes (by decide +kernel) ?_ | (with_reducible refine' ite_no ?q1 ?_; (case q1 => ((with_reducible show ¬ (_ == _) = true); simp only [beq_iff_eq]; assumption))))
    | (first | with_reducible refine ite_no (by decide +kernel) ?_ | with_reducible refine ite_yes (by decide +kernel) ?_))))
  refine nestDef_K rfl rfl rfl ?_
  replace D := D.front (.s .z)
  dsimp only [List.eraseIdx_cons_succ, List.eraseIdx_cons_zero] at D
  refine r_mkfn (clos := [(Str.ofString "mycmp", L + 1)]) D G GM tb (by decide) rfl hcK ⟨rfl, rfl⟩ (by kernel_rfl) (by kernel_rfl) (by kernel_rfl) (fun _ _ _ => by kernel_rfl) (fun f1 c1 x1 d1 h₁ h' t ps e1 r1 tb D => ?_)
  replace G := G.keeps e1
  replace GM := GM.up e1
  replace hcK := hcK.keeps e1
  replace r0 := r0.keeps e1
  replace e0 := fun b o e => e1 _ _ (e0 b o e)
  clear e1
  repeat (first
  | ((with_reducible show wpAny _ _ (storeName _ (Str.ofString "__module__") _) _ _ _); (with_reducible refine' c_restore D ?hi ?hst ?hs (fun h' D => ?_)); (case hi => walk_at "b AT"); (case hst => exact ⟨by kernel_rfl, rfl⟩); (case hs => kernel_rfl); dsimp only [List.set_cons_zero, List.set_cons_succ, List.cons_append, List.nil_append] at D)
  | ((with_reducible refine' c_store D ?hi ?hst ?hs (fun h' D => ?_)); (case hi => walk_at "b AT"); (case hst => exact ⟨by kernel_rfl, rfl⟩); (case hs => kernel_rfl); dsimp only [List.set_cons_zero, List.set_cons_succ, List.cons_append, List.nil_append] at D)
  | with_reducible refine wpAny_execs_cons ?_
  | with_reducible refine wpAny_execs_nil ?_
  | ((with_reducible refine' wpAny_Assign_Name ?_ ?qq); (case qq => rfl))
  | with_reducible refine wpAny_assign_Name ?_
  | with_reducible refine r_str ?_
  | with_reducible refine r_none ?_
  | with_reducible refine r_list ?_
  | with_reducible refine wpAny_items_nil ?_
  | ((with_reducible refine' wpAny_items_cons ?_ ?qq); (case qq => rfl))
  | ((with_reducible refine' mkLo D ?qz (fun sl h' D => ?_)); (case qz => exact Nat.le_of_ble_eq_true rfl))
  | ((fail_if_success (first | with_reducible refine' stop (Stop.ex) ?_ | with_reducible refine' stop (Stop.st) ?_ | with_reducible refine' stop (Stop.fd) ?_)); (first
    | (with_reducible refine hQ9 _ _ ?_; clear hQ9 Q9) | with_reducible refine nd_pure ?_ | with_reducible refine bindV (fun Q9 hQ9 => ?_) | with_reducible refine nbindV (fun Q9 hQ9 => ?_) | with_reducible refine wpAny_pure ?_
    | ((fail_if_success (with_reducible refine' gate ?gg ?_; (case gg => with_reducible constructor))); k_node)
    | with_reducible refine nd_rule ?_ | with_reducible refine nd_point ?_ | with_reducible refine nd_ask ?_ | with_reducible refine m_fresh ?_ | with_reducible refine x_at ?_
    | with_reducible refine wpAny_holding ?_ | with_reducible refine wpAny_onRaise ?_ | with_reducible refine wpAny_tryCatch ?_
    | ((with_reducible refine' s_alloc D ?qf (fun sa h' D => ?_)); (case qf => rfl))
    | ((with_reducible show wpAny _ _ (Sem.call _ _ _ _ _) _ _ _); (with_reducible refine call_split ?_); refine x_call (codeAny_body (by kernel_rfl) (by kernel_rfl) ?_) (by intro h; cases h))
    | (first | with_reducible refine ite_no (by decide +kernel) ?_ | with_reducible refine ite_yes (by decide +kernel) ?_ | (with_reducible refine' ite_no ?q1 ?_; (case q1 => ((with_reducible show ¬ (_ == _) = true); simp only [beq_iff_eq]; assumption))))
    | (first | with_reducible refine ite_no (by decide +kernel) ?_ | with_reducible refine ite_yes (by decide +kernel) ?_))))
  refine nestDef_K rfl rfl rfl ?_
  replace D := D.front (.s .z)
  dsimp only [List.eraseIdx_cons_succ, List.eraseIdx_cons_zero] at D
  refine r_mkfn (clos := [(Str.ofString "mycmp", L + 1)]) D G GM tb (by decide) rfl hcK ⟨rfl, rfl⟩ (by kernel_rfl) (by kernel_rfl) (by kernel_rfl) (fun _ _ _ => by kernel_rfl) (fun f2 c2 x2 d2 h₁ h' t ps e1 r2 tb D => ?_)
  replace G := G.keeps e1
  replace GM := GM.up e1
  replace hcK := hcK.keeps e1
  replace r0 := r0.keeps e1
  replace r1 := r1.keeps e1
  replace e0 := fun b o e => e1 _ _ (e0 b o e)
  clear e1
  repeat (first
  | ((with_reducible show wpAny _ _ (storeName _ (Str.ofString "__module__") _) _ _ _); (with_reducible refine' c_restore D ?hi ?hst ?hs (fun h' D => ?_)); (case hi => walk_at "b AT"); (case hst => exact ⟨by kernel_rfl, rfl⟩); (case hs => kernel_rfl); dsimp only [List.set_cons_zero, List.set_cons_succ, List.cons_append, List.nil_append] at D)
  | ((with_reducible refine' c_store D ?hi ?hst ?hs (fun h' D => ?_)); (case hi => walk_at "b AT"); (case hst => exact ⟨by kernel_rfl, rfl⟩); (case hs => kernel_rfl); dsimp only [List.set_cons_zero, List.set_cons_succ, List.cons_append, List.nil_append] at D)
  | with_reducible refine wpAny_execs_cons ?_
  | with_reducible refine wpAny_execs_nil ?_
  | ((with_reducible refine' wpAny_Assign_Name ?_ ?qq); (case qq => rfl))
  | with_reducible refine wpAny_assign_Name ?_
  | with_reducible refine r_str ?_
  | with_reducible refine r_none ?_
  | with_reducible refine r_list ?_
  | with_reducible refine wpAny_items_nil ?_
  | ((with_reducible refine' wpAny_items_cons ?_ ?qq); (case qq => rfl))
  | ((with_reducible refine' mkLo D ?qz (fun sl h' D => ?_)); (case qz => exact Nat.le_of_ble_eq_true rfl))
  | ((fail_if_success (first | with_reducible refine' stop (Stop.ex) ?_ | with_reducible refine' stop (Stop.st) ?_ | with_reducible refine' stop (Stop.fd) ?_)); (first
    | (with_reducible refine hQ9 _ _ ?_; clear hQ9 Q9) | with_reducible refine nd_pure ?_ | with_reducible refine bindV (fun Q9 hQ9 => ?_) | with_reducible refine nbindV (fun Q9 hQ9 => ?_) | with_reducible refine wpAny_pure ?_
    | ((fail_if_success (with_reducible refine' gate ?gg ?_; (case gg => with_reducible constructor))); k_node)
    | with_reducible refine nd_rule ?_ | with_reducible refine nd_point ?_ | with_reducible refine nd_ask ?_ | with_reducible refine m_fresh ?_ | with_reducible refine x_at ?_
    | with_reducible refine wpAny_holding ?_ | with_reducible refine wpAny_onRaise ?_ | with_reducible refine wpAny_tryCatch ?_
    | ((with_reducible refine' s_alloc D ?qf (fun sa h' D => ?_)); (case qf => rfl))
    | ((with_reducible show wpAny _ _ (Sem.call _ _ _ _ _) _ _ _); (with_reducible refine call_split ?_); refine x_call (codeAny_body (by kernel_rfl) (by kernel_rfl) ?_) (by intro h; cases h))
    | (first | with_reducible refine ite_no (by decide +kernel) ?_ | with_reducible refine ite_yes (by decide +kernel) ?_ | (with_reducible refine' ite_no ?q1 ?_; (case q1 => ((with_reducible show ¬ (_ == _) = true); simp only [beq_iff_eq]; assumption))))
    | (first | with_reducible refine ite_no (by decide +kernel) ?_ | with_reducible refine ite_yes (by decide +kernel) ?_))))
  refine nestDef_K rfl rfl rfl ?_
  replace D := D.front (.s .z)
  dsimp only [List.eraseIdx_cons_succ, List.eraseIdx_cons_zero] at D
  refine r_mkfn (clos := [(Str.ofString "mycmp", L + 1)]) D G GM tb (by decide) rfl hcK ⟨rfl, rfl⟩ (by kernel_rfl) (by kernel_rfl) (by kernel_rfl) (fun _ _ _ => by kernel_rfl) (fun f3 c3 x3 d3 h₁ h' t ps e1 r3 tb D => ?_)
  replace G := G.keeps e1
  replace GM := GM.up e1
  replace hcK := hcK.keeps e1
  replace r0 := r0.keeps e1
  replace r1 := r1.keeps e1
  replace r2 := r2.keeps e1
  replace e0 := fun b o e => e1 _ _ (e0 b o e)
  clear e1
  repeat (first
  | ((with_reducible show wpAny _ _ (storeName _ (Str.ofString "__module__") _) _ _ _); (with_reducible refine' c_restore D ?hi ?hst ?hs (fun h' D => ?_)); (case hi => walk_at "b AT"); (case hst => exact ⟨by kernel_rfl, rfl⟩); (case hs => kernel_rfl); dsimp only [List.set_cons_zero, List.set_cons_succ, List.cons_append, List.nil_append] at D)
  | ((with_reducible refine' c_store D ?hi ?hst ?hs (fun h' D => ?_)); (case hi => walk_at "b AT"); (case hst => exact ⟨by kernel_rfl, rfl⟩); (case hs => kernel_rfl); dsimp only [List.set_cons_zero, List.set_cons_succ, List.cons_append, List.nil_append] at D)
  | with_reducible refine wpAny_execs_cons ?_
  | with_reducible refine wpAny_execs_nil ?_
  | ((with_reducible refine' wpAny_Assign_Name ?_ ?qq); (case qq => rfl))
  | with_reducible refine wpAny_assign_Name ?_
  | with_reducible refine r_str ?_
  | with_reducible refine r_none ?_
  | with_reducible refine r_list ?_
  | with_reducible refine wpAny_items_nil ?_
  | ((with_reducible refine' wpAny_items_cons ?_ ?qq); (case qq => rfl))
  | ((with_reducible refine' mkLo D ?qz (fun sl h' D => ?_)); (case qz => exact Nat.le_of_ble_eq_true rfl))
  | ((fail_if_success (first | with_reducible refine' stop (Stop.ex) ?_ | with_reducible refine' stop (Stop.st) ?_ | with_reducible refine' stop (Stop.fd) ?_)); (first
    | (with_reducible refine hQ9 _ _ ?_; clear hQ9 Q9) | with_reducible refine nd_pure ?_ | with_reducible refine bindV (fun Q9 hQ9 => ?_) | with_reducible refine nbindV (fun Q9 hQ9 => ?_) | with_reducible refine wpAny_pure ?_
    | ((fail_if_success (with_reducible refine' gate ?gg ?_; (case gg => with_reducible constructor))); k_node)
    | with_reducible refine nd_rule ?_ | with_reducible refine nd_point ?_ | with_reducible refine nd_ask ?_ | with_reducible refine m_fresh ?_ | with_reducible refine x_at ?_
    | with_reducible refine wpAny_holding ?_ | with_reducible refine wpAny_onRaise ?_ | with_reducible refine wpAny_tryCatch ?_
    | ((with_reducible refine' s_alloc D ?qf (fun sa h' D => ?_)); (case qf => rfl))
    | ((with_reducible show wpAny _ _ (Sem.call _ _ _ _ _) _ _ _); (with_reducible refine call_split ?_); refine x_call (codeAny_body (by kernel_rfl) (by kernel_rfl) ?_) (by intro h; cases h))
    | (first | with_reducible refine ite_no (by decide +kernel) ?_ | with_reducible refine ite_yes (by decide +kernel) ?_ | (with_reducible refine' ite_no ?q1 ?_; (case q1 => ((with_reducible show ¬ (_ == _) = true); simp only [beq_iff_eq]; assumption))))
    | (first | with_reducible refine ite_no (by decide +kernel) ?_ | with_reducible refine ite_yes (by decide +kernel) ?_))))
  refine nestDef_K rfl rfl rfl ?_
  replace D := D.front (.s .z)
  dsimp only [List.eraseIdx_cons_succ, List.eraseIdx_cons_zero] at D
  refine r_mkfn (clos := [(Str.ofString "mycmp", L + 1)]) D G GM tb (by decide) rfl hcK ⟨rfl, rfl⟩ (by kernel_rfl) (by kernel_rfl) (by kernel_rfl) (fun _ _ _ => by kernel_rfl) (fun f4 c4 x4 d4 h₁ h' t ps e1 r4 tb D => ?_)
  replace G := G.keeps e1
  replace GM := GM.up e1
  replace hcK := hcK.keeps e1
  replace r0 := r0.keeps e1
  replace r1 := r1.keeps e1
  replace r2 := r2.keeps e1
  replace r3 := r3.keeps e1
  replace e0 := fun b o e => e1 _ _ (e0 b o e)
  clear e1
  repeat (first
  | ((with_reducible show wpAny _ _ (storeName _ (Str.ofString "__module__") _) _ _ _); (with_reducible refine' c_restore D ?hi ?hst ?hs (fun h' D => ?_)); (case hi => walk_at "b AT"); (case hst => exact ⟨by kernel_rfl, rfl⟩); (case hs => kernel_rfl); dsimp only [List.set_cons_zero, List.set_cons_succ, List.cons_append, List.nil_append] at D)
  | ((with_reducible refine' c_store D ?hi ?hst ?hs (fun h' D => ?_)); (case hi => walk_at "b AT"); (case hst => exact ⟨by kernel_rfl, rfl⟩); (case hs => kernel_rfl); dsimp only [List.set_cons_zero, List.set_cons_succ, List.cons_append, List.nil_append] at D)
  | with_reducible refine wpAny_execs_cons ?_
  | with_reducible refine wpAny_execs_nil ?_
  | ((with_reducible refine' wpAny_Assign_Name ?_ ?qq); (case qq => rfl))
  | with_reducible refine wpAny_assign_Name ?_
  | with_reducible refine r_str ?_
  | with_reducible refine r_none ?_
  | with_reducible refine r_list ?_
  | with_reducible refine wpAny_items_nil ?_
  | ((with_reducible refine' wpAny_items_cons ?_ ?qq); (case qq => rfl))
  | ((with_reducible refine' mkLo D ?qz (fun sl h' D => ?_)); (case qz => exact Nat.le_of_ble_eq_true rfl))
  | ((fail_if_success (first | with_reducible refine' stop (Stop.ex) ?_ | with_reducible refine' stop (Stop.st) ?_ | with_reducible refine' stop (Stop.fd) ?_)); (first
    | (with_reducible refine hQ9 _ _ ?_; clear hQ9 Q9) | with_reducible refine nd_pure ?_ | with_reducible refine bindV (fun Q9 hQ9 => ?_) | with_reducible refine nbindV (fun Q9 hQ9 => ?_) | with_reducible refine wpAny_pure ?_
    | ((fail_if_success (with_reducible refine' gate ?gg ?_; (case gg => with_reducible constructor))); k_node)
    | with_reducible refine nd_rule ?_ | with_reducible refine nd_point ?_ | with_reducible refine nd_ask ?_ | with_reducible refine m_fresh ?_ | with_reducible refine x_at ?_
    | with_reducible refine wpAny_holding ?_ | with_reducible refine wpAny_onRaise ?_ | with_reducible refine wpAny_tryCatch ?_
    | ((with_reducible refine' s_alloc D ?qf (fun sa h' D => ?_)); (case qf => rfl))
    | ((with_reducible show wpAny _ _ (Sem.call _ _ _ _ _) _ _ _); (with_reducible refine call_split ?_); refine x_call (codeAny_body (by kernel_rfl) (by kernel_rfl) ?_) (by intro h; cases h))
    | (first | with_reducible refine ite_no (by decide +kernel) ?_ | with_reducible refine ite_yes (by decide +kernel) ?_ | (with_reducible refine' ite_no ?q1 ?_; (case q1 => ((with_reducible show ¬ (_ == _) = true); simp only [beq_iff_eq]; assumption))))
    | (first | with_reducible refine ite_no (by decide +kernel) ?_ | with_reducible refine ite_yes (by decide +kernel) ?_))))
  refine nestDef_K rfl rfl rfl ?_
  replace D := D.front (.s .z)
  dsimp only [List.eraseIdx_cons_succ, List.eraseIdx_cons_zero] at D
  refine r_mkfn (clos := [(Str.ofString "mycmp", L + 1)]) D G GM tb (by decide) rfl hcK ⟨rfl, rfl⟩ (by kernel_rfl) (by kernel_rfl) (by kernel_rfl) (fun _ _ _ => by kernel_rfl) (fun f5 c5 x5 d5 h₁ h' t ps e1 r5 tb D => ?_)
  replace G := G.keeps e1
  replace GM := GM.up e1
  replace hcK := hcK.keeps e1
  replace r0 := r0.keeps e1
  replace r1 := r1.keeps e1
  replace r2 := r2.keeps e1
  replace r3 := r3.keeps e1
  replace r4 := r4.keeps e1
  replace e0 := fun b o e => e1 _ _ (e0 b o e)
  clear e1
  repeat (first
  | ((with_reducible show wpAny _ _ (storeName _ (Str.ofString "__module__") _) _ _ _); (with_reducible refine' c_restore D ?hi ?hst ?hs (fun h' D => ?_)); (case hi => walk_at "b AT"); (case hst => exact ⟨by kernel_rfl, rfl⟩); (case hs => kernel_rfl); dsimp only [List.set_cons_zero, List.set_cons_succ, List.cons_append, List.nil_append] at D)
  | ((with_reducible refine' c_store D ?hi ?hst ?hs (fun h' D => ?_)); (case hi => walk_at "b AT"); (case hst => exact ⟨by kernel_rfl, rfl⟩); (case hs => kernel_rfl); dsimp only [List.set_cons_zero, List.set_cons_succ, List.cons_append, List.nil_append] at D)
  | with_reducible refine wpAny_execs_cons ?_
  | with_reducible refine wpAny_execs_nil ?_
  | ((with_reducible refine' wpAny_Assign_Name ?_ ?qq); (case qq => rfl))
  | with_reducible refine wpAny_assign_Name ?_
  | with_reducible refine r_str ?_
  | with_reducible refine r_none ?_
  | with_reducible refine r_list ?_
  | with_reducible refine wpAny_items_nil ?_
  | ((with_reducible refine' wpAny_items_cons ?_ ?qq); (case qq => rfl))
  | ((with_reducible refine' mkLo D ?qz (fun sl h' D => ?_)); (case qz => exact Nat.le_of_ble_eq_true rfl))
  | ((fail_if_success (first | with_reducible refine' stop (Stop.ex) ?_ | with_reducible refine' stop (Stop.st) ?_ | with_reducible refine' stop (Stop.fd) ?_)); (first
    | (with_reducible refine hQ9 _ _ ?_; clear hQ9 Q9) | with_reducible refine nd_pure ?_ | with_reducible refine bindV (fun Q9 hQ9 => ?_) | with_reducible refine nbindV (fun Q9 hQ9 => ?_) | with_reducible refine wpAny_pure ?_
    | ((fail_if_success (with_reducible refine' gate ?gg ?_; (case gg => with_reducible constructor))); k_node)
    | with_reducible refine nd_rule ?_ | with_reducible refine nd_point ?_ | with_reducible refine nd_ask ?_ | with_reducible refine m_fresh ?_ | with_reducible refine x_at ?_
    | with_reducible refine wpAny_holding ?_ | with_reducible refine wpAny_onRaise ?_ | with_reducible refine wpAny_tryCatch ?_
    | ((with_reducible refine' s_alloc D ?qf (fun sa h' D => ?_)); (case qf => rfl))
    | ((with_reducible show wpAny _ _ (Sem.call _ _ _ _ _) _ _ _); (with_reducible refine call_split ?_); refine x_call (codeAny_body (by kernel_rfl) (by kernel_rfl) ?_) (by intro h; cases h))
    | (first | with_reducible refine ite_no (by decide +kernel) ?_ | with_reducible refine ite_yes (by decide +kernel) ?_ | (with_reducible refine' ite_no ?q1 ?_; (case q1 => ((with_reducible show ¬ (_ == _) = true); simp only [beq_iff_eq]; assumption))))
    | (first | with_reducible refine ite_no (by decide +kernel) ?_ | with_reducible refine ite_yes (by decide +kernel) ?_))))
  refine hQ2 _ _ ?_
  clear hQ2 Q2
  repeat (first
  | ((with_reducible show wpAny _ _ (storeName _ (Str.ofString "__module__") _) _ _ _); (with_reducible refine' c_restore D ?hi ?hst ?hs (fun h' D => ?_)); (case hi => walk_at "b AT"); (case hst => exact ⟨by kernel_rfl, rfl⟩); (case hs => kernel_rfl); dsimp only [List.set_cons_zero, List.set_cons_succ, List.cons_append, List.nil_append] at D)
  | ((with_reducible refine' c_store D ?hi ?hst ?hs (fun h' D => ?_)); (case hi => walk_at "b AT"); (case hst => exact ⟨by kernel_rfl, rfl⟩); (case hs => kernel_rfl); dsimp only [List.set_cons_zero, List.set_cons_succ, List.cons_append, List.nil_append] at D)
  | with_reducible refine wpAny_execs_cons ?_
  | with_reducible refine wpAny_execs_nil ?_
  | ((with_reducible refine' wpAny_Assign_Name ?_ ?qq); (case qq => rfl))
  | with_reducible refine wpAny_assign_Name ?_
  | with_reducible refine r_str ?_
  | with_reducible refine r_none ?_
  | with_reducible refine r_list ?_
  | with_reducible refine wpAny_items_nil ?_
  | ((with_reducible refine' wpAny_items_cons ?_ ?qq); (case qq => rfl))
  | ((with_reducible refine' mkLo D ?qz (fun sl h' D => ?_)); (case qz => exact Nat.le_of_ble_eq_true rfl))
  | ((fail_if_success (first | with_reducible refine' stop (Stop.ex) ?_ | with_reducible refine' stop (Stop.st) ?_ | with_reducible refine' stop (Stop.fd) ?_)); (first
    | (with_reducible refine hQ9 _ _ ?_; clear hQ9 Q9) | with_reducible refine nd_pure ?_ | with_reducible refine bindV (fun Q9 hQ9 => ?_) | with_reducible refine nbindV (fun Q9 hQ9 => ?_) | with_reducible refine wpAny_pure ?_
    | ((fail_if_success (with_reducible refine' gate ?gg ?_; (case gg => with_reducible constructor))); k_node)
    | with_reducible refine nd_rule ?_ | with_reducible refine nd_point ?_ | with_reducible refine nd_ask ?_ | with_reducible refine m_fresh ?_ | with_reducible refine x_at ?_
    | with_reducible refine wpAny_holding ?_ | with_reducible refine wpAny_onRaise ?_ | with_reducible refine wpAny_tryCatch ?_
    | ((with_reducible refine' s_alloc D ?qf (fun sa h' D => ?_)); (case qf => rfl))
    | ((with_reducible show wpAny _ _ (Sem.call _ _ _ _ _) _ _ _); (with_reducible refine call_split ?_); refine x_call (codeAny_body (by kernel_rfl) (by kernel_rfl) ?_) (by intro h; cases h))
    | (first | with_reducible refine ite_no (by decide +kernel) ?_ | with_reducible refine ite_yes (by decide +kernel) ?_ | (with_reducible refine' ite_no ?q1 ?_; (case q1 => ((with_reducible show ¬ (_ == _) = true); simp only [beq_iff_eq]; assumption))))
    | (first | with_reducible refine ite_no (by decide +kernel) ?_ | with_reducible refine ite_yes (by decide +kernel) ?_))))
  with_reducible refine call_split ?_
  refine tcx (by kernel_rfl) (by kernel_rfl) (D.ob (by walk_at "b AT")) (D.ob (by walk_at "b AT")) (D.ob (by walk_at "b AT")) (D.ob (by walk_at "b AT")) (D.ob (by walk_at "b AT")) (D.ob (by walk_at "b AT")) (D.ob (by walk_at "b AT")) (D.ob (by walk_at "b AT")) (D.ob (by walk_at "b AT")) (D.ob .z) (D.ne_base (by first | with_reducible exact AtI.z | with_reducible exact AtI.s AtI.z | with_reducible exact AtI.s (AtI.s AtI.z) | with_reducible exact AtI.s (AtI.s (AtI.s AtI.z)) | with_reducible exact AtI.s (AtI.s (AtI.s (AtI.s AtI.z))) | with_reducible exact AtI.s (AtI.s (AtI.s (AtI.s (AtI.s AtI.z)))) | with_reducible exact AtI.s (AtI.s (AtI.s (AtI.s (AtI.s (AtI.s AtI.z))))) | with_reducible exact AtI.s (AtI.s (AtI.s (AtI.s (AtI.s (AtI.s (AtI.s AtI.z)))))) | with_reducible exact AtI.s (AtI.s (AtI.s (AtI.s (AtI.s (AtI.s (AtI.s (AtI.s AtI.z))))))) | with_reducible exact AtI.s (AtI.s (AtI.s (AtI.s (AtI.s (AtI.s (AtI.s (AtI.s (AtI.s AtI.z)))))))) | with_reducible exact AtI.s (AtI.s (AtI.s (AtI.s (AtI.s (AtI.s (AtI.s (AtI.s (AtI.s (AtI.s AtI.z))))))))) | with_reducible exact AtI.s (AtI.s (AtI.s (AtI.s (AtI.s (AtI.s (AtI.s (AtI.s (AtI.s (AtI.s (AtI.s AtI.z)))))))))) | with_reducible exact AtI.s (AtI.s (AtI.s (AtI.s (AtI.s (AtI.s (AtI.s (AtI.s (AtI.s (AtI.s (AtI.s (AtI.s AtI.z)))))))))))) G.sm) ((G.keeps D.keep).X 2 _ (by kernel_rfl)) (fun u ax ay md C ns al h' D' => ?_)
  replace D := D.addLd D'
  clear D'
  repeat (first
  | ((with_reducible show wpAny _ _ (storeName _ (Str.ofString "__module__") _) _ _ _); (with_reducible refine' c_restore D ?hi ?hst ?hs (fun h' D => ?_)); (case hi => walk_at "b AT"); (case hst => exact ⟨by kernel_rfl, rfl⟩); (case hs => kernel_rfl); dsimp only [List.set_cons_zero, List.set_cons_succ, List.cons_append, List.nil_append] at D)
  | ((with_reducible refine' c_store D ?hi ?hst ?hs (fun h' D => ?_)); (case hi => walk_at "b AT"); (case hst => exact ⟨by kernel_rfl, rfl⟩); (case hs => kernel_rfl); dsimp only [List.set_cons_zero, List.set_cons_succ, List.cons_append, List.nil_append] at D)
  | with_reducible refine wpAny_execs_cons ?_
  | with_reducible refine wpAny_execs_nil ?_
  | ((with_reducible refine' wpAny_Assign_Name ?_ ?qq); (case qq => rfl))
  | with_reducible refine wpAny_assign_Name ?_
  | with_reducible refine r_str ?_
  | with_reducible refine r_none ?_
  | with_reducible refine r_list ?_
  | with_reducible refine wpAny_items_nil ?_
  | ((with_reducible refine' wpAny_items_cons ?_ ?qq); (case qq => rfl))
  | ((with_reducible refine' mkLo D ?qz (fun sl h' D => ?_)); (case qz => exact Nat.le_of_ble_eq_true rfl))
  | ((fail_if_success (first | with_reducible refine' stop (Stop.ex) ?_ | with_reducible refine' stop (Stop.st) ?_ | with_reducible refine' stop (Stop.fd) ?_)); (first
    | (with_reducible refine hQ9 _ _ ?_; clear hQ9 Q9) | with_reducible refine nd_pure ?_ | with_reducible refine bindV (fun Q9 hQ9 => ?_) | with_reducible refine nbindV (fun Q9 hQ9 => ?_) | with_reducible refine wpAny_pure ?_
    | ((fail_if_success (with_reducible refine' gate ?gg ?_; (case gg => with_reducible constructor))); k_node)
    | with_reducible refine nd_rule ?_ | with_reducible refine nd_point ?_ | with_reducible refine nd_ask ?_ | with_reducible refine m_fresh ?_ | with_reducible refine x_at ?_
    | with_reducible refine wpAny_holding ?_ | with_reducible refine wpAny_onRaise ?_ | with_reducible refine wpAny_tryCatch ?_
    | ((with_reducible refine' s_alloc D ?qf (fun sa h' D => ?_)); (case qf => rfl))
    | ((with_reducible show wpAny _ _ (Sem.call _ _ _ _ _) _ _ _); (with_reducible refine call_split ?_); refine x_call (codeAny_body (by kernel_rfl) (by kernel_rfl) ?_) (by intro h; cases h))
    | (first | with_reducible refine ite_no (by decide +kernel) ?_ | with_reducible refine ite_yes (by decide +kernel) ?_ | (with_reducible refine' ite_no ?q1 ?_; (case q1 => ((with_reducible show ¬ (_ == _) = true); simp only [beq_iff_eq]; assumption))))
    | (first | with_reducible refine ite_no (by decide +kernel) ?_ | with_reducible refine ite_yes (by decide +kernel) ?_))))
  replace D : Sl prog w _ _ ((L, .frm []) :: (C, .obj (clsK C ns b _ (u 3))) :: (md, .obj (mdK C _)) :: (ns, .obj { cls := .type "dict", data := .dict (nsK w.params _ f0 f1 f2 f3 f4 f5 _ md u _).toArray 3 }) :: (f0, _) :: (f1, _) :: (f2, _) :: (f3, _) :: (f4, _) :: (f5, _) :: (L + 1, .cel (some (.ref 158))) :: (85, _) :: (TK, _) :: fs) := D.pickR [19, 3, 2, 4, 13, 12, 11, 10, 9, 7, 20, 15, 8] 21 (by decide) (by decide)
  repeat (first
  | walk_at "b W"
    | walk_at "b NC"
  | (with_reducible refine hQ9 _ _ ?_; clear hQ9 Q9)
  | fail)
  repeat ((fail_if_success (first | with_reducible refine' stop (Stop.cls) ?_ | with_reducible refine' stop (Stop.ex) ?_ | with_reducible refine' stop (Stop.st) ?_)); (first | (with_reducible refine hQ9 _ _ ?_; clear hQ9 Q9) | with_reducible refine nd_pure ?_ | with_reducible refine bindV (fun Q9 hQ9 => ?_) | with_reducible refine nbindV (fun Q9 hQ9 => ?_) | with_reducible refine wpAny_pure ?_ | ((fail_if_success (with_reducible refine' gate ?gg ?_; (case gg => with_reducible constructor))); k_node) | with_reducible refine nd_rule ?_ | with_reducible refine nd_point ?_ | with_reducible refine nd_ask ?_ | with_reducible refine m_fresh ?_ | with_reducible refine x_at ?_ | with_reducible refine wpAny_holding ?_ | with_reducible refine onRaiseV (fun E9 => ?_) | with_reducible refine wpAny_tryCatch ?_ | ((with_reducible show wpAny _ _ (Sem.load _ _ _) _ _ _); (first | (refine' m_load _ D (At.get ?hi) ?_; (case hi => (walk_at "b IDX"))) | (first | ((with_reducible refine' m_old D (by assumption) ?qo ?_; (case qo => rfl))) | (with_reducible refine m_old D (by with_reducible assumption) rfl ?_)) | (refine' m_load _ D (At.get ?hi) ?_; (case hi => (walk_at "b IDXD"))))) | ((with_reducible show wpAny _ _ (Sem.update _ _ _ _) _ _ _); ((refine' m_update _ D (At.get ?hi) ?qe ?qr ?_; (case hi => (first | (walk_at "b IDX") | (walk_at "b IDXD"))); (case qe => rfl); (case qr => rfl); ((clear D; intro h' D; dsimp only [List.set_cons_zero, List.set_cons_succ, List.cons_append, List.nil_append, List.eraseIdx_cons_succ, List.eraseIdx_cons_zero, List.length_cons, List.length_nil, Nat.reduceAdd, Nat.reduceSub, List.replicate_zero, List.replicate_succ, List.append_nil] at D; (try dsimp only [List.cons_append, List.nil_append, backToKw, keywordEach, List.map_nil, List.filterMap_nil, List.append_nil, Option.isSome_none, Bool.false_eq_true, reduceIte, List.append_toArray] at D)))))) | ((with_reducible show wpAny _ _ (Sem.call _ _ _ _ _) _ _ _); (with_reducible refine call_split ?_); (first | (simp only [mk_e1]; refine c_prepget (fun a h' D' => ?_); replace D := Ld.trans D D'; clear D'; dsimp only [List.cons_append, List.nil_append] at D) | (refine c_prep (Ld.at D 0 rfl) (fun a h' D' => ?_); replace D := Ld.trans D D'; clear D'; dsimp only [List.cons_append, List.nil_append] at D) | refine x_call (codeAny_body (by kernel_rfl) (by kernel_rfl) ?_) (by intro h; cases h))) | ((with_reducible show wpAny _ _ (Sem.alloc _ _) _ _ _); ((with_reducible refine m_alloc D rfl ?_; clear D; intro a h' D; (try dsimp only [List.cons_append, List.nil_append, backToKw, keywordEach, List.map_nil, List.filterMap_nil, List.append_nil, Option.isSome_none, Bool.false_eq_true, reduceIte, List.append_toArray] at D)))) | (first | with_reducible refine ite_no (by decide +kernel) ?_ | with_reducible refine ite_yes (by decide +kernel) ?_ | (with_reducible refine' ite_no ?q1 ?_; (case q1 => ((with_reducible show ¬ (_ == _) = true); simp only [beq_iff_eq]; assumption)))) | (first | (first | ((with_reducible show wpAny _ _ (nsGet _ _) _ _ _); refine m_nsGetO D hA rfl (by k_get) ?_) | ((with_reducible show wpAny _ _ (ite ((_ == sysModules) = true) _ _) _ _ _); with_reducible refine' ite_no ?q1 ?_; (case q1 => (simp only [beq_iff_eq]; exact Ld.ne_old D 0 rfl hsm))) | ((with_reducible show wpAny _ _ (nsGet _ (Str.ofString "__builtins__")) _ _ _); refine m_nsGetK D X rfl (gl_bm _) ?_) | ((with_reducible show wpAny _ _ (nsGet _ (Str.ofString "object")) _ _ _); first | refine m_nsGetK D X rfl (gl_object _) ?_ | refine m_nsGetN D hB rfl hb2 ?_) | ((with_reducible show wpAny _ _ (nsGet _ (Str.ofString "__name__")) _ _ _); refine m_nsGetK D X rfl (gl_nm _) ?_) | ((with_reducible show wpAny _ _ (nsGet _ (Str.ofString "__build_class__")) _ _ _); refine m_nsGetN D hB rfl hb1 ?_) | ((with_reducible show wpAny _ _ (enterFrame _) _ _ _); refine m_enter D hlim rfl ?dep ?_; (case dep => (show A.depth + 1 < _; omega)))) | (first | ((with_reducible show wpAny _ _ (nsGet _ _) _ _ _); refine' m_nsGet _ D (At.get ?hi) ?qe ?_; (case hi => (first | (walk_at "b IDX") | (walk_at "b IDXD"))); (case qe => k_get)) | ((with_reducible show wpAny _ _ (nsSet _ _ _) _ _ _); (refine' m_nsSet _ D (At.get ?hi) ?qk ?_; (case hi => (first | (walk_at "b IDX") | (walk_at "b IDXD"))); (case qk => kernel_rfl)); ((clear D; intro h' D; dsimp only [List.set_cons_zero, List.set_cons_succ, List.cons_append, List.nil_append, List.eraseIdx_cons_succ, List.eraseIdx_cons_zero, List.length_cons, List.length_nil, Nat.reduceAdd, Nat.reduceSub, List.replicate_zero, List.replicate_succ, List.append_nil] at D; (try dsimp only [List.cons_append, List.nil_append, backToKw, keywordEach, List.map_nil, List.filterMap_nil, List.append_nil, Option.isSome_none, Bool.false_eq_true, reduceIte, List.append_toArray] at D)))) | ((with_reducible show wpAny _ _ (nsSetByValue _ _ _) _ _ _); (refine' m_nsSetV _ D (At.get ?hi) ?qk ?qd ?_; (case hi => (first | (walk_at "b IDX") | (walk_at "b IDXD"))); (case qk => kernel_rfl); (case qd => decide)); ((clear D; intro h' D; dsimp only [List.set_cons_zero, List.set_cons_succ, List.cons_append, List.nil_append, List.eraseIdx_cons_succ, List.eraseIdx_cons_zero, List.length_cons, List.length_nil, Nat.reduceAdd, Nat.reduceSub, List.replicate_zero, List.replicate_succ, List.append_nil] at D; (try dsimp only [List.cons_append, List.nil_append, backToKw, keywordEach, List.map_nil, List.filterMap_nil, List.append_nil, Option.isSome_none, Bool.false_eq_true, reduceIte, List.append_toArray] at D)))) | ((with_reducible show wpAny _ _ (setSlotAt _ _ _) _ _ _); (refine' m_slot _ D (At.get ?hi) ?qd ?qr ?_; (case hi => (first | (walk_at "b IDX") | (walk_at "b IDXD"))); (case qd => decide); (case qr => rfl)); ((clear D; intro h' D; dsimp only [List.set_cons_zero, List.set_cons_succ, List.cons_append, List.nil_append, List.eraseIdx_cons_succ, List.eraseIdx_cons_zero, List.length_cons, List.length_nil, Nat.reduceAdd, Nat.reduceSub, List.replicate_zero, List.replicate_succ, List.append_nil] at D; (try dsimp only [List.cons_append, List.nil_append, backToKw, keywordEach, List.map_nil, List.filterMap_nil, List.append_nil, Option.isSome_none, Bool.false_eq_true, reduceIte, List.append_toArray] at D)))) | ((with_reducible show wpAny _ _ (updateCls _ _) _ _ _); (refine' m_cls _ D (At.get ?hi) ?qr ?_; (case hi => (first | (walk_at "b IDX") | (walk_at "b IDXD"))); (case qr => rfl)); ((clear D; intro h' D; dsimp only [List.set_cons_zero, List.set_cons_succ, List.cons_append, List.nil_append, List.eraseIdx_cons_succ, List.eraseIdx_cons_zero, List.length_cons, List.length_nil, Nat.reduceAdd, Nat.reduceSub, List.replicate_zero, List.replicate_succ, List.append_nil] at D; (try dsimp only [List.cons_append, List.nil_append, backToKw, keywordEach, List.map_nil, List.filterMap_nil, List.append_nil, Option.isSome_none, Bool.false_eq_true, reduceIte, List.append_toArray] at D)))))) | ((fail_if_success (with_reducible show wpAny _ _ (Sem.load _ _ _) _ _ _)); k_node) | (first | with_reducible refine ite_no (by decide +kernel) ?_ | with_reducible refine ite_yes (by decide +kernel) ?_)))
  repeat (first
  | walk_at "b W"
    | walk_at "b NC"
  | (with_reducible refine hQ9 _ _ ?_; clear hQ9 Q9)
  | fail)
  refine hQ1 _ _ ?_
  repeat (first
  | walk_at "b W"
    | walk_at "b NC"
  | (with_reducible refine hQ9 _ _ ?_; clear hQ9 Q9)
  | fail)
  replace D := D.tail
  obtain ⟨h₂, e2, e3, nd, D⟩ := Sl.baseL (l := KA.frag w.params { C := C, md := md, ns := ns, cell := L + 1, b := b, sl := _, sa := _, f := fun i => [f0, f1, f2, f3, f4, f5].getD i 0, c := fun i => [c0, c1, c2, c3, c4, c5].getD i 0, x := fun i => [x0, x1, x2, x3, x4, x5].getD i .none, dc := fun i => [d0, d1, d2, d3, d4, d5].getD i .none, u := u, un := _, t := _ }) (fs := (L + 1, .cel (some (.ref 158))) :: (85, .obj (tabObj #[.int 98 0, .int 4 0, .ref cK])) :: (TK, _) :: fs) D
  refine D.out (fun h₃ e4 e5 D => ?_)
  have up : ∀ b o, h₁.get? b = some o → h₃.get? b = some o := fun b o e => e4 _ _ (e2 _ _ e)
  have hcod : ∀ i, i < 6 → h₃.CodeRec (.ref ([c0, c1, c2, c3, c4, c5].getD i 0)) (kq i) := fun i hi => by
    rcases six _ hi with rfl | rfl | rfl | rfl | rfl | rfl
    · exact r0.keeps up
    · exact r1.keeps up
    · exact r2.keeps up
    · exact r3.keeps up
    · exact r4.keeps up
    · exact r5.keeps up
  exact k { C := C, md := md, ns := ns, cell := L + 1, b := b, sl := _, sa := _, f := fun i => [f0, f1, f2, f3, f4, f5].getD i 0, c := fun i => [c0, c1, c2, c3, c4, c5].getD i 0, x := fun i => [x0, x1, x2, x3, x4, x5].getD i .none, dc := fun i => [d0, d1, d2, d3, d4, d5].getD i .none, u := u, un := _, t := _ } h₃ h' _ cK TK _ (fun b o e => up _ _ (e0 _ _ e)) ⟨fun p hp => e4 _ _ (e3 p hp), nd, hcod, e5⟩ (TSt.yes (hcK.keeps up) (tb.up up)) D
end
end Mine
end PMD
section PIS
open PySem PySem.W PyProof.Rows PySem.Spec PySem.Calls PySem.W.X
namespace Mine
set_option hygiene false
section
variable {prog : Program} {w : World} {A : Around} {h₀ h h' : Heap} {fs : List (Addr × Cl)} {gs : Array GenState} {d : Drawn} {t : Nat} {os : OsState} {E : Value → Shared → Prop} {R : Result → Shared → Prop} {env : Env}
theorem set_e1 : (toString "set" ++ toString "." ++ toString (Str.ofString "__new__").toString) = "set.__new__" := by kernel_rfl
theorem set_e2 : (toString "set" ++ toString "." ++ toString (Str.ofString "__init__").toString) = "set.__init__" := by kernel_rfl
theorem entry_setnew : entryFor table "set.__new__" = some Builtin.«set.__new__» := PySem.F.entry_set_new
theorem entry_setinit : entryFor table "set.__init__" = some Builtin.«set.__init__» := PySem.F.entry_set_init
theorem m_iter {h : Heap} {chg news : List (Addr × Obj)} {l : Addr} {vs : Array Value} {Q : Value → Shared → Prop} (D : Ld h₀ h chg news) (hl : h.IsList l vs) (x : ∀ I h', Ld h₀ h' chg ((I, { cls := .type "list_iterator", data := .fields #[.ref l, .int 0 0] }) :: news) → Q (.ref I) ⟨h', gs, d, t, os⟩) : wpAny (model prog w) A (pyIter (.ref l)) Q E ⟨h, gs, d, t, os⟩ :=
  wpAny_pyIter_list (s := ⟨h, gs, d, t, os⟩) hl (x _ _ (D.alloc rfl))
theorem m_next {h : Heap} {news : List (Addr × Obj)} {I l : Addr} {oI : Obj} {vs : Array Value} {i : Nat} {Q : Option Value → Shared → Prop} (D : Ld h₀ h [] ((I, oI) :: news)) (e1 : oI.cls = .type "list_iterator" ∧ oI.data = .fields #[.ref l, .int i 0]) (hl : h.IsList l vs) (v : Value) (hv : vs[i]? = some v)
   (x : ∀ oI h', Ld h₀ h' [] ((I, oI) :: news) → oI.cls = .type "list_iterator" ∧ oI.data = .fields #[.ref l, .int (i + 1 : Nat) 0] → Q (some v) ⟨h', gs, d, t, os⟩) : wpAny (model prog w) A (pyNext (.ref I)) Q E ⟨h, gs, d, t, os⟩ := by
  refine wpAny_pyNext_list_item (s := ⟨h, gs, d, t, os⟩) ⟨oI, D.at 0 rfl, e1.1, e1.2⟩ hl hv fun h' hit hs => ?_
  obtain ⟨o, ho, r⟩ := hit
  have nd := D.nd
  rw [List.map_cons, List.nodup_cons] at nd
  have n0 := (D.nw _ (.head _)).2
  refine x o h' ⟨fun b ob e q => hs.extBut b ob (fun z => by rw [z, n0] at e; cases e) (D.keep b ob e q), fun p hp => (nomatch hp), fun p hp => ?_, D.nd⟩ r
  rcases List.mem_cons.mp hp with rfl | hp
  · exact ⟨ho, n0⟩
  · exact ⟨hs.extBut _ _ (fun z => nd.1 (List.mem_map.mpr ⟨p, hp, z⟩)) (D.nw p (.tail _ hp)).1, (D.nw p (.tail _ hp)).2⟩
theorem lay1 (b : Bool) (hh : Int) (x : Value) : ∃ mk p mv pl wd gave, layNew (SetTable.fresh 0 0 b) #[] hh x = (#[(hh, x)], ⟨mk, #[p], #[], 0, b, mv, pl⟩, wd, gave) ∧ (mk = 7 ∨ mk = 8) := by
  unfold layNew
  cases (SetTable.fresh 0 0 b).freeSlot hh with
  | none => exact ⟨_, _, _, _, _, _, rfl, .inr rfl⟩
  | some q => obtain ⟨slot, wd⟩ := q; exact ⟨_, _, _, _, _, _, rfl, .inl rfl⟩
theorem m_end {h : Heap} {news : List (Addr × Obj)} {I l : Addr} {oI : Obj} {vs : Array Value} {i : Nat} {Q : Option Value → Shared → Prop} (D : Ld h₀ h [] ((I, oI) :: news)) (e1 : oI.cls = .type "list_iterator" ∧ oI.data = .fields #[.ref l, .int i 0]) (hA : A.handled = none) (hl : h.IsList l vs) (hv : vs[i]? = none)
   (x : ∀ h', Ld h₀ h' [] news → Q none ⟨h', gs, d, t, os⟩) : wpAny (model prog w) A (pyNext (.ref I)) Q E ⟨h, gs, d, t, os⟩ := by
  refine wpAny_pyNext_list_end (s := ⟨h, gs, d, t, os⟩) hA ⟨oI, D.at 0 rfl, e1.1, e1.2⟩ hl hv fun h' hs => ?_
  have nd := D.nd
  rw [List.map_cons, List.nodup_cons] at nd
  have n0 := (D.nw _ (.head _)).2
  exact x h' ⟨fun b ob e q => hs b ob (fun z => by rw [z, n0] at e; cases e) (D.keep b ob e q), fun p hp => (nomatch hp), fun p hp => ⟨hs _ _ (fun z => nd.1 (List.mem_map.mpr ⟨p, hp, z⟩)) (D.nw p (.tail _ hp)).1, (D.nw p (.tail _ hp)).2⟩, nd.2⟩
theorem m_pl {α : Type} {pl : Bool} {x : Str} {u : Tok} {K : Bool → Sem α} {Q : α → Shared → Prop} {s : Shared} (hk : pl = false → K true = K false) (hx : wpAny (model prog w) A (K false) Q E s) : wpAny (model prog w) A (if pl = true then (hashByValue 8 (.str x u) >>= K) else (pure true >>= K)) Q E s := by
  split
  · exact wpAny_bind (wpAny_of_eq (a := false) rfl hx)
  · rename_i e
    exact wpAny_bind (wpAny_pure (by rw [hk (by simpa using e)]; exact hx))
theorem setFull {mk p mv : Nat} {b pl : Bool} (h : mk = 7 ∨ mk = 8) : (⟨mk, #[p], #[], 0, b, mv, pl⟩ : SetTable).tooFull = false := by
  rcases h with rfl | rfl <;> rfl
theorem entry_setloop : entryFor table "set.update.loop" = some Builtin.«set.update.loop» := PyProof.Rows.F.entry_set_update_loop
theorem c_set {l : Addr} {u : Tok} {ep : Nat} {Q : Value → Shared → Prop} (hA : A.handled = none) (hl : h.get? l = some { cls := .type "list", data := .seq #[.str (S "a") u] ep }) (k : ∀ a o h' t, Ld h h' [] [(a, o)] → SetA prog w h' a → Q (.ref a) ⟨h', gs, d, t, os⟩) :
   wpAny (model prog w) A (call (.type "set") [.ref l]) Q E ⟨h, gs, d, t, os⟩ := by
  have D := Ld.start h
  refine wpAny_call (codeAny_of_tree ?_)
  repeat ((first | (with_reducible refine hQ9 _ _ ?_; clear hQ9 Q9) | with_reducible refine nd_pure ?_ | with_reducible refine bindV (fun Q9 hQ9 => ?_) | with_reducible refine nbindV (fun Q9 hQ9 => ?_) | with_reducible refine wpAny_pure ?_ | ((fail_if_success (with_reducible refine' gate ?gg ?_; (case gg => with_reducible constructor))); k_node) | with_reducible refine nd_rule ?_ | with_reducible refine nd_point ?_ | with_reducible refine nd_ask ?_ | with_reducible refine m_fresh ?_ | with_reducible refine x_at ?_ | with_reducible refine wpAny_holding ?_ | with_reducible refine onRaiseV (fun E9 => ?_) | with_reducible refine wpAny_tryCatch ?_ | ((with_reducible show wpAny _ _ (Sem.load _ _ _) _ _ _); (first | (refine' m_load _ D (At.get ?hi) ?_; (case hi => (walk_at "b IDX"))) | (with_reducible refine m_old D (by with_reducible assumption) rfl ?_) | (refine' m_load _ D (At.get ?hi) ?_; (case hi => (walk_at "b IDXD"))))) | ((with_reducible show wpAny _ _ (Sem.update _ _ _ _) _ _ _); ((refine' m_update _ D (At.get ?hi) ?qe ?qr ?_; (case hi => (first | (walk_at "b IDX") | (walk_at "b IDXD"))); (case qe => rfl); (case qr => rfl); ((clear D; intro h' D; dsimp only [List.set_cons_zero, List.set_cons_succ, List.cons_append, List.nil_append, List.eraseIdx_cons_succ, List.eraseIdx_cons_zero, List.length_cons, List.length_nil, Nat.reduceAdd, Nat.reduceSub, List.replicate_zero, List.replicate_succ, List.append_nil] at D; (try dsimp only [List.cons_append, List.nil_append, List.append_toArray] at D)))))) | ((with_reducible show wpAny _ _ (Sem.call _ _ _ _ _) _ _ _); (with_reducible refine call_split ?_); (fail)) | ((with_reducible show wpAny _ _ (Sem.alloc _ _) _ _ _); ((with_reducible refine m_alloc D rfl ?_; clear D; intro a h' D; (try dsimp only [List.cons_append, List.nil_append, List.append_toArray] at D)))) | (first | with_reducible refine ite_no (by decide +kernel) ?_ | with_reducible refine ite_yes (by decide +kernel) ?_ | (with_reducible refine' ite_no ?q1 ?_; (case q1 => ((with_reducible show ¬ (_ == _) = true); simp only [beq_iff_eq]; assumption)))) | (first | ((with_reducible show wpAny _ _ (nsGet _ _) _ _ _); refine' m_nsGet _ D (At.get ?hi) ?qe ?_; (case hi => (first | (walk_at "b IDX") | (walk_at "b IDXD"))); (case qe => k_get)) | ((with_reducible show wpAny _ _ (nsSet _ _ _) _ _ _); (refine' m_nsSet _ D (At.get ?hi) ?qk ?_; (case hi => (first | (walk_at "b IDX") | (walk_at "b IDXD"))); (case qk => kernel_rfl)); ((clear D; intro h' D; dsimp only [List.set_cons_zero, List.set_cons_succ, List.cons_append, List.nil_append, List.eraseIdx_cons_succ, List.eraseIdx_cons_zero, List.length_cons, List.length_nil, Nat.reduceAdd, Nat.reduceSub, List.replicate_zero, List.replicate_succ, List.append_nil] at D; (try dsimp only [List.cons_append, List.nil_append, List.append_toArray] at D)))) | ((with_reducible show wpAny _ _ (nsSetByValue _ _ _) _ _ _); (refine' m_nsSetV _ D (At.get ?hi) ?qk ?qd ?_; (case hi => (first | (walk_at "b IDX") | (walk_at "b IDXD"))); (case qk => kernel_rfl); (case qd => decide)); ((clear D; intro h' D; dsimp only [List.set_cons_zero, List.set_cons_succ, List.cons_append, List.nil_append, List.eraseIdx_cons_succ, List.eraseIdx_cons_zero, List.length_cons, List.length_nil, Nat.reduceAdd, Nat.reduceSub, List.replicate_zero, List.replicate_succ, List.append_nil] at D; (try dsimp only [List.cons_append, List.nil_append, List.append_toArray] at D)))) | ((with_reducible show wpAny _ _ (setSlotAt _ _ _) _ _ _); (refine' m_slot _ D (At.get ?hi) ?qd ?qr ?_; (case hi => (first | (walk_at "b IDX") | (walk_at "b IDXD"))); (case qd => decide); (case qr => rfl)); ((clear D; intro h' D; dsimp only [List.set_cons_zero, List.set_cons_succ, List.cons_append, List.nil_append, List.eraseIdx_cons_succ, List.eraseIdx_cons_zero, List.length_cons, List.length_nil, Nat.reduceAdd, Nat.reduceSub, List.replicate_zero, List.replicate_succ, List.append_nil] at D; (try dsimp only [List.cons_append, List.nil_append, List.append_toArray] at D)))) | ((with_reducible show wpAny _ _ (updateCls _ _) _ _ _); (refine' m_cls _ D (At.get ?hi) ?qr ?_; (case hi => (first | (walk_at "b IDX") | (walk_at "b IDXD"))); (case qr => rfl)); ((clear D; intro h' D; dsimp only [List.set_cons_zero, List.set_cons_succ, List.cons_append, List.nil_append, List.eraseIdx_cons_succ, List.eraseIdx_cons_zero, List.length_cons, List.length_nil, Nat.reduceAdd, Nat.reduceSub, List.replicate_zero, List.replicate_succ, List.append_nil] at D; (try dsimp only [List.cons_append, List.nil_append, List.append_toArray] at D))))) | ((fail_if_success (with_reducible show wpAny _ _ (Sem.load _ _ _) _ _ _)); k_node) | (first | with_reducible refine ite_no (by decide +kernel) ?_ | with_reducible refine ite_yes (by decide +kernel) ?_)))
  refine ⟨by kernel_rfl, codeAny_builtin entry_typecall ?_⟩
  unfold Builtin.«type.__call__»
  repeat ((first | (with_reducible refine hQ9 _ _ ?_; clear hQ9 Q9) | with_reducible refine nd_pure ?_ | with_reducible refine bindV (fun Q9 hQ9 => ?_) | with_reducible refine nbindV (fun Q9 hQ9 => ?_) | with_reducible refine wpAny_pure ?_ | ((fail_if_success (with_reducible refine' gate ?gg ?_; (case gg => with_reducible constructor))); k_node) | with_reducible refine nd_rule ?_ | with_reducible refine nd_point ?_ | with_reducible refine nd_ask ?_ | with_reducible refine m_fresh ?_ | with_reducible refine x_at ?_ | with_reducible refine wpAny_holding ?_ | with_reducible refine onRaiseV (fun E9 => ?_) | with_reducible refine wpAny_tryCatch ?_ | ((with_reducible show wpAny _ _ (Sem.load _ _ _) _ _ _); (first | (refine' m_load _ D (At.get ?hi) ?_; (case hi => (walk_at "b IDX"))) | (with_reducible refine m_old D (by with_reducible assumption) rfl ?_) | (refine' m_load _ D (At.get ?hi) ?_; (case hi => (walk_at "b IDXD"))))) | ((with_reducible show wpAny _ _ (Sem.update _ _ _ _) _ _ _); ((refine' m_update _ D (At.get ?hi) ?qe ?qr ?_; (case hi => (first | (walk_at "b IDX") | (walk_at "b IDXD"))); (case qe => rfl); (case qr => rfl); ((clear D; intro h' D; dsimp only [List.set_cons_zero, List.set_cons_succ, List.cons_append, List.nil_append, List.eraseIdx_cons_succ, List.eraseIdx_cons_zero, List.length_cons, List.length_nil, Nat.reduceAdd, Nat.reduceSub, List.replicate_zero, List.replicate_succ, List.append_nil] at D; (try dsimp only [List.cons_append, List.nil_append, List.append_toArray] at D)))))) | ((with_reducible show wpAny _ _ (Sem.call _ _ _ _ _) _ _ _); (with_reducible refine call_split ?_); (fail)) | ((with_reducible show wpAny _ _ (Sem.alloc _ _) _ _ _); ((with_reducible refine m_alloc D rfl ?_; clear D; intro a h' D; (try dsimp only [List.cons_append, List.nil_append, List.append_toArray] at D)))) | (first | with_reducible refine ite_no (by decide +kernel) ?_ | with_reducible refine ite_yes (by decide +kernel) ?_ | (with_reducible refine' ite_no ?q1 ?_; (case q1 => ((with_reducible show ¬ (_ == _) = true); simp only [beq_iff_eq]; assumption)))) | (first | ((with_reducible show wpAny _ _ (nsGet _ _) _ _ _); refine' m_nsGet _ D (At.get ?hi) ?qe ?_; (case hi => (first | (walk_at "b IDX") | (walk_at "b IDXD"))); (case qe => k_get)) | ((with_reducible show wpAny _ _ (nsSet _ _ _) _ _ _); (refine' m_nsSet _ D (At.get ?hi) ?qk ?_; (case hi => (first | (walk_at "b IDX") | (walk_at "b IDXD"))); (case qk => kernel_rfl)); ((clear D; intro h' D; dsimp only [List.set_cons_zero, List.set_cons_succ, List.cons_append, List.nil_append, List.eraseIdx_cons_succ, List.eraseIdx_cons_zero, List.length_cons, List.length_nil, Nat.reduceAdd, Nat.reduceSub, List.replicate_zero, List.replicate_succ, List.append_nil] at D; (try dsimp only [List.cons_append, List.nil_append, List.append_toArray] at D)))) | ((with_reducible show wpAny _ _ (nsSetByValue _ _ _) _ _ _); (refine' m_nsSetV _ D (At.get ?hi) ?qk ?qd ?_; (case hi => (first | (walk_at "b IDX") | (walk_at "b IDXD"))); (case qk => kernel_rfl); (case qd => decide)); ((clear D; intro h' D; dsimp only [List.set_cons_zero, List.set_cons_succ, List.cons_append, List.nil_append, List.eraseIdx_cons_succ, List.eraseIdx_cons_zero, List.length_cons, List.length_nil, Nat.reduceAdd, Nat.reduceSub, List.replicate_zero, List.replicate_succ, List.append_nil] at D; (try dsimp only [List.cons_append, List.nil_append, List.append_toArray] at D)))) | ((with_reducible show wpAny _ _ (setSlotAt _ _ _) _ _ _); (refine' m_slot _ D (At.get ?hi) ?qd ?qr ?_; (case hi => (first | (walk_at "b IDX") | (walk_at "b IDXD"))); (case qd => decide); (case qr => rfl)); ((clear D; intro h' D; dsimp only [List.set_cons_zero, List.set_cons_succ, List.cons_append, List.nil_append, List.eraseIdx_cons_succ, List.eraseIdx_cons_zero, List.length_cons, List.length_nil, Nat.reduceAdd, Nat.reduceSub, List.replicate_zero, List.replicate_succ, List.append_nil] at D; (try dsimp only [List.cons_append, List.nil_append, List.append_toArray] at D)))) | ((with_reducible show wpAny _ _ (updateCls _ _) _ _ _); (refine' m_cls _ D (At.get ?hi) ?qr ?_; (case hi => (first | (walk_at "b IDX") | (walk_at "b IDXD"))); (case qr => rfl)); ((clear D; intro h' D; dsimp only [List.set_cons_zero, List.set_cons_succ, List.cons_append, List.nil_append, List.eraseIdx_cons_succ, List.eraseIdx_cons_zero, List.length_cons, List.length_nil, Nat.reduceAdd, Nat.reduceSub, List.replicate_zero, List.replicate_succ, List.append_nil] at D; (try dsimp only [List.cons_append, List.nil_append, List.append_toArray] at D))))) | ((fail_if_success (with_reducible show wpAny _ _ (Sem.load _ _ _) _ _ _)); k_node) | (first | with_reducible refine ite_no (by decide +kernel) ?_ | with_reducible refine ite_yes (by decide +kernel) ?_)))
  simp only [set_e1]
  refine x_call (codeAny_call_builtin_code (by kernel_rfl) ?_) (by intro h; cases h)
  repeat ((first | (with_reducible refine hQ9 _ _ ?_; clear hQ9 Q9) | with_reducible refine nd_pure ?_ | with_reducible refine bindV (fun Q9 hQ9 => ?_) | with_reducible refine nbindV (fun Q9 hQ9 => ?_) | with_reducible refine wpAny_pure ?_ | ((fail_if_success (with_reducible refine' gate ?gg ?_; (case gg => with_reducible constructor))); k_node) | with_reducible refine nd_rule ?_ | with_reducible refine nd_point ?_ | with_reducible refine nd_ask ?_ | with_reducible refine m_fresh ?_ | with_reducible refine x_at ?_ | with_reducible refine wpAny_holding ?_ | with_reducible refine onRaiseV (fun E9 => ?_) | with_reducible refine wpAny_tryCatch ?_ | ((with_reducible show wpAny _ _ (Sem.load _ _ _) _ _ _); (first | (refine' m_load _ D (At.get ?hi) ?_; (case hi => (walk_at "b IDX"))) | (with_reducible refine m_old D (by with_reducible assumption) rfl ?_) | (refine' m_load _ D (At.get ?hi) ?_; (case hi => (walk_at "b IDXD"))))) | ((with_reducible show wpAny _ _ (Sem.update _ _ _ _) _ _ _); ((refine' m_update _ D (At.get ?hi) ?qe ?qr ?_; (case hi => (first | (walk_at "b IDX") | (walk_at "b IDXD"))); (case qe => rfl); (case qr => rfl); ((clear D; intro h' D; dsimp only [List.set_cons_zero, List.set_cons_succ, List.cons_append, List.nil_append, List.eraseIdx_cons_succ, List.eraseIdx_cons_zero, List.length_cons, List.length_nil, Nat.reduceAdd, Nat.reduceSub, List.replicate_zero, List.replicate_succ, List.append_nil] at D; (try dsimp only [List.cons_append, List.nil_append, List.append_toArray] at D)))))) | ((with_reducible show wpAny _ _ (Sem.call _ _ _ _ _) _ _ _); (with_reducible refine call_split ?_); (fail)) | ((with_reducible show wpAny _ _ (Sem.alloc _ _) _ _ _); ((with_reducible refine m_alloc D rfl ?_; clear D; intro a h' D; (try dsimp only [List.cons_append, List.nil_append, List.append_toArray] at D)))) | (first | with_reducible refine ite_no (by decide +kernel) ?_ | with_reducible refine ite_yes (by decide +kernel) ?_ | (with_reducible refine' ite_no ?q1 ?_; (case q1 => ((with_reducible show ¬ (_ == _) = true); simp only [beq_iff_eq]; assumption)))) | (first | ((with_reducible show wpAny _ _ (nsGet _ _) _ _ _); refine' m_nsGet _ D (At.get ?hi) ?qe ?_; (case hi => (first | (walk_at "b IDX") | (walk_at "b IDXD"))); (case qe => k_get)) | ((with_reducible show wpAny _ _ (nsSet _ _ _) _ _ _); (refine' m_nsSet _ D (At.get ?hi) ?qk ?_; (case hi => (first | (walk_at "b IDX") | (walk_at "b IDXD"))); (case qk => kernel_rfl)); ((clear D; intro h' D; dsimp only [List.set_cons_zero, List.set_cons_succ, List.cons_append, List.nil_append, List.eraseIdx_cons_succ, List.eraseIdx_cons_zero, List.length_cons, List.length_nil, Nat.reduceAdd, Nat.reduceSub, List.replicate_zero, List.replicate_succ, List.append_nil] at D; (try dsimp only [List.cons_append, List.nil_append, List.append_toArray] at D)))) | ((with_reducible show wpAny _ _ (nsSetByValue _ _ _) _ _ _); (refine' m_nsSetV _ D (At.get ?hi) ?qk ?qd ?_; (case hi => (first | (walk_at "b IDX") | (walk_at "b IDXD"))); (case qk => kernel_rfl); (case qd => decide)); ((clear D; intro h' D; dsimp only [List.set_cons_zero, List.set_cons_succ, List.cons_append, List.nil_append, List.eraseIdx_cons_succ, List.eraseIdx_cons_zero, List.length_cons, List.length_nil, Nat.reduceAdd, Nat.reduceSub, List.replicate_zero, List.replicate_succ, List.append_nil] at D; (try dsimp only [List.cons_append, List.nil_append, List.append_toArray] at D)))) | ((with_reducible show wpAny _ _ (setSlotAt _ _ _) _ _ _); (refine' m_slot _ D (At.get ?hi) ?qd ?qr ?_; (case hi => (first | (walk_at "b IDX") | (walk_at "b IDXD"))); (case qd => decide); (case qr => rfl)); ((clear D; intro h' D; dsimp only [List.set_cons_zero, List.set_cons_succ, List.cons_append, List.nil_append, List.eraseIdx_cons_succ, List.eraseIdx_cons_zero, List.length_cons, List.length_nil, Nat.reduceAdd, Nat.reduceSub, List.replicate_zero, List.replicate_succ, List.append_nil] at D; (try dsimp only [List.cons_append, List.nil_append, List.append_toArray] at D)))) | ((with_reducible show wpAny _ _ (updateCls _ _) _ _ _); (refine' m_cls _ D (At.get ?hi) ?qr ?_; (case hi => (first | (walk_at "b IDX") | (walk_at "b IDXD"))); (case qr => rfl)); ((clear D; intro h' D; dsimp only [List.set_cons_zero, List.set_cons_succ, List.cons_append, List.nil_append, List.eraseIdx_cons_succ, List.eraseIdx_cons_zero, List.length_cons, List.length_nil, Nat.reduceAdd, Nat.reduceSub, List.replicate_zero, List.replicate_succ, List.append_nil] at D; (try dsimp only [List.cons_append, List.nil_append, List.append_toArray] at D))))) | ((fail_if_success (with_reducible show wpAny _ _ (Sem.load _ _ _) _ _ _)); k_node) | (first | with_reducible refine ite_no (by decide +kernel) ?_ | with_reducible refine ite_yes (by decide +kernel) ?_)))
  refine codeAny_builtin entry_setnew ?_
  unfold Builtin.«set.__new__»
  repeat ((first | (with_reducible refine hQ9 _ _ ?_; clear hQ9 Q9) | with_reducible refine nd_pure ?_ | with_reducible refine bindV (fun Q9 hQ9 => ?_) | with_reducible refine nbindV (fun Q9 hQ9 => ?_) | with_reducible refine wpAny_pure ?_ | ((fail_if_success (with_reducible refine' gate ?gg ?_; (case gg => with_reducible constructor))); k_node) | with_reducible refine nd_rule ?_ | with_reducible refine nd_point ?_ | with_reducible refine nd_ask ?_ | with_reducible refine m_fresh ?_ | with_reducible refine x_at ?_ | with_reducible refine wpAny_holding ?_ | with_reducible refine onRaiseV (fun E9 => ?_) | with_reducible refine wpAny_tryCatch ?_ | ((with_reducible show wpAny _ _ (Sem.load _ _ _) _ _ _); (first | (refine' m_load _ D (At.get ?hi) ?_; (case hi => (walk_at "b IDX"))) | (with_reducible refine m_old D (by with_reducible assumption) rfl ?_) | (refine' m_load _ D (At.get ?hi) ?_; (case hi => (walk_at "b IDXD"))))) | ((with_reducible show wpAny _ _ (Sem.update _ _ _ _) _ _ _); ((refine' m_update _ D (At.get ?hi) ?qe ?qr ?_; (case hi => (first | (walk_at "b IDX") | (walk_at "b IDXD"))); (case qe => rfl); (case qr => rfl); ((clear D; intro h' D; dsimp only [List.set_cons_zero, List.set_cons_succ, List.cons_append, List.nil_append, List.eraseIdx_cons_succ, List.eraseIdx_cons_zero, List.length_cons, List.length_nil, Nat.reduceAdd, Nat.reduceSub, List.replicate_zero, List.replicate_succ, List.append_nil] at D; (try dsimp only [List.cons_append, List.nil_append, List.append_toArray] at D)))))) | ((with_reducible show wpAny _ _ (Sem.call _ _ _ _ _) _ _ _); (with_reducible refine call_split ?_); (fail)) | ((with_reducible show wpAny _ _ (Sem.alloc _ _) _ _ _); ((with_reducible refine m_alloc D rfl ?_; clear D; intro a h' D; (try dsimp only [List.cons_append, List.nil_append, List.append_toArray] at D)))) | (first | with_reducible refine ite_no (by decide +kernel) ?_ | with_reducible refine ite_yes (by decide +kernel) ?_ | (with_reducible refine' ite_no ?q1 ?_; (case q1 => ((with_reducible show ¬ (_ == _) = true); simp only [beq_iff_eq]; assumption)))) | (first | ((with_reducible show wpAny _ _ (nsGet _ _) _ _ _); refine' m_nsGet _ D (At.get ?hi) ?qe ?_; (case hi => (first | (walk_at "b IDX") | (walk_at "b IDXD"))); (case qe => k_get)) | ((with_reducible show wpAny _ _ (nsSet _ _ _) _ _ _); (refine' m_nsSet _ D (At.get ?hi) ?qk ?_; (case hi => (first | (walk_at "b IDX") | (walk_at "b IDXD"))); (case qk => kernel_rfl)); ((clear D; intro h' D; dsimp only [List.set_cons_zero, List.set_cons_succ, List.cons_append, List.nil_append, List.eraseIdx_cons_succ, List.eraseIdx_cons_zero, List.length_cons, List.length_nil, Nat.reduceAdd, Nat.reduceSub, List.replicate_zero, List.replicate_succ, List.append_nil] at D; (try dsimp only [List.cons_append, List.nil_append, List.append_toArray] at D)))) | ((with_reducible show wpAny _ _ (nsSetByValue _ _ _) _ _ _); (refine' m_nsSetV _ D (At.get ?hi) ?qk ?qd ?_; (case hi => (first | (walk_at "b IDX") | (walk_at "b IDXD"))); (case qk => kernel_rfl); (case qd => decide)); ((clear D; intro h' D; dsimp only [List.set_cons_zero, List.set_cons_succ, List.cons_append, List.nil_append, List.eraseIdx_cons_succ, List.eraseIdx_cons_zero, List.length_cons, List.length_nil, Nat.reduceAdd, Nat.reduceSub, List.replicate_zero, List.replicate_succ, List.append_nil] at D; (try dsimp only [List.cons_append, List.nil_append, List.append_toArray] at D)))) | ((with_reducible show wpAny _ _ (setSlotAt _ _ _) _ _ _); (refine' m_slot _ D (At.get ?hi) ?qd ?qr ?_; (case hi => (first | (walk_at "b IDX") | (walk_at "b IDXD"))); (case qd => decide); (case qr => rfl)); ((clear D; intro h' D; dsimp only [List.set_cons_zero, List.set_cons_succ, List.cons_append, List.nil_append, List.eraseIdx_cons_succ, List.eraseIdx_cons_zero, List.length_cons, List.length_nil, Nat.reduceAdd, Nat.reduceSub, List.replicate_zero, List.replicate_succ, List.append_nil] at D; (try dsimp only [List.cons_append, List.nil_append, List.append_toArray] at D)))) | ((with_reducible show wpAny _ _ (updateCls _ _) _ _ _); (refine' m_cls _ D (At.get ?hi) ?qr ?_; (case hi => (first | (walk_at "b IDX") | (walk_at "b IDXD"))); (case qr => rfl)); ((clear D; intro h' D; dsimp only [List.set_cons_zero, List.set_cons_succ, List.cons_append, List.nil_append, List.eraseIdx_cons_succ, List.eraseIdx_cons_zero, List.length_cons, List.length_nil, Nat.reduceAdd, Nat.reduceSub, List.replicate_zero, List.replicate_succ, List.append_nil] at D; (try dsimp only [List.cons_append, List.nil_append, List.append_toArray] at D))))) | ((fail_if_success (with_reducible show wpAny _ _ (Sem.load _ _ _) _ _ _)); k_node) | (first | with_reducible refine ite_no (by decide +kernel) ?_ | with_reducible refine ite_yes (by decide +kernel) ?_)))
  simp only [set_e2]
  refine x_call (codeAny_call_builtin_code (by kernel_rfl) ?_) (by intro h; cases h)
  repeat ((first | (with_reducible refine hQ9 _ _ ?_; clear hQ9 Q9) | with_reducible refine nd_pure ?_ | with_reducible refine bindV (fun Q9 hQ9 => ?_) | with_reducible refine nbindV (fun Q9 hQ9 => ?_) | with_reducible refine wpAny_pure ?_ | ((fail_if_success (with_reducible refine' gate ?gg ?_; (case gg => with_reducible constructor))); k_node) | with_reducible refine nd_rule ?_ | with_reducible refine nd_point ?_ | with_reducible refine nd_ask ?_ | with_reducible refine m_fresh ?_ | with_reducible refine x_at ?_ | with_reducible refine wpAny_holding ?_ | with_reducible refine onRaiseV (fun E9 => ?_) | with_reducible refine wpAny_tryCatch ?_ | ((with_reducible show wpAny _ _ (Sem.load _ _ _) _ _ _); (first | (refine' m_load _ D (At.get ?hi) ?_; (case hi => (walk_at "b IDX"))) | (with_reducible refine m_old D (by with_reducible assumption) rfl ?_) | (refine' m_load _ D (At.get ?hi) ?_; (case hi => (walk_at "b IDXD"))))) | ((with_reducible show wpAny _ _ (Sem.update _ _ _ _) _ _ _); ((refine' m_update _ D (At.get ?hi) ?qe ?qr ?_; (case hi => (first | (walk_at "b IDX") | (walk_at "b IDXD"))); (case qe => rfl); (case qr => rfl); ((clear D; intro h' D; dsimp only [List.set_cons_zero, List.set_cons_succ, List.cons_append, List.nil_append, List.eraseIdx_cons_succ, List.eraseIdx_cons_zero, List.length_cons, List.length_nil, Nat.reduceAdd, Nat.reduceSub, List.replicate_zero, List.replicate_succ, List.append_nil] at D; (try dsimp only [List.cons_append, List.nil_append, List.append_toArray] at D)))))) | ((with_reducible show wpAny _ _ (Sem.call _ _ _ _ _) _ _ _); (with_reducible refine call_split ?_); (fail)) | ((with_reducible show wpAny _ _ (Sem.alloc _ _) _ _ _); ((with_reducible refine m_alloc D rfl ?_; clear D; intro a h' D; (try dsimp only [List.cons_append, List.nil_append, List.append_toArray] at D)))) | (first | with_reducible refine ite_no (by decide +kernel) ?_ | with_reducible refine ite_yes (by decide +kernel) ?_ | (with_reducible refine' ite_no ?q1 ?_; (case q1 => ((with_reducible show ¬ (_ == _) = true); simp only [beq_iff_eq]; assumption)))) | (first | ((with_reducible show wpAny _ _ (nsGet _ _) _ _ _); refine' m_nsGet _ D (At.get ?hi) ?qe ?_; (case hi => (first | (walk_at "b IDX") | (walk_at "b IDXD"))); (case qe => k_get)) | ((with_reducible show wpAny _ _ (nsSet _ _ _) _ _ _); (refine' m_nsSet _ D (At.get ?hi) ?qk ?_; (case hi => (first | (walk_at "b IDX") | (walk_at "b IDXD"))); (case qk => kernel_rfl)); ((clear D; intro h' D; dsimp only [List.set_cons_zero, List.set_cons_succ, List.cons_append, List.nil_append, List.eraseIdx_cons_succ, List.eraseIdx_cons_zero, List.length_cons, List.length_nil, Nat.reduceAdd, Nat.reduceSub, List.replicate_zero, List.replicate_succ, List.append_nil] at D; (try dsimp only [List.cons_append, List.nil_append, List.append_toArray] at D)))) | ((with_reducible show wpAny _ _ (nsSetByValue _ _ _) _ _ _); (refine' m_nsSetV _ D (At.get ?hi) ?qk ?qd ?_; (case hi => (first | (walk_at "b IDX") | (walk_at "b IDXD"))); (case qk => kernel_rfl); (case qd => decide)); ((clear D; intro h' D; dsimp only [List.set_cons_zero, List.set_cons_succ, List.cons_append, List.nil_append, List.eraseIdx_cons_succ, List.eraseIdx_cons_zero, List.length_cons, List.length_nil, Nat.reduceAdd, Nat.reduceSub, List.replicate_zero, List.replicate_succ, List.append_nil] at D; (try dsimp only [List.cons_append, List.nil_append, List.append_toArray] at D)))) | ((with_reducible show wpAny _ _ (setSlotAt _ _ _) _ _ _); (refine' m_slot _ D (At.get ?hi) ?qd ?qr ?_; (case hi => (first | (walk_at "b IDX") | (walk_at "b IDXD"))); (case qd => decide); (case qr => rfl)); ((clear D; intro h' D; dsimp only [List.set_cons_zero, List.set_cons_succ, List.cons_append, List.nil_append, List.eraseIdx_cons_succ, List.eraseIdx_cons_zero, List.length_cons, List.length_nil, Nat.reduceAdd, Nat.reduceSub, List.replicate_zero, List.replicate_succ, List.append_nil] at D; (try dsimp only [List.cons_append, List.nil_append, List.append_toArray] at D)))) | ((with_reducible show wpAny _ _ (updateCls _ _) _ _ _); (refine' m_cls _ D (At.get ?hi) ?qr ?_; (case hi => (first | (walk_at "b IDX") | (walk_at "b IDXD"))); (case qr => rfl)); ((clear D; intro h' D; dsimp only [List.set_cons_zero, List.set_cons_succ, List.cons_append, List.nil_append, List.eraseIdx_cons_succ, List.eraseIdx_cons_zero, List.length_cons, List.length_nil, Nat.reduceAdd, Nat.reduceSub, List.replicate_zero, List.replicate_succ, List.append_nil] at D; (try dsimp only [List.cons_append, List.nil_append, List.append_toArray] at D))))) | ((fail_if_success (with_reducible show wpAny _ _ (Sem.load _ _ _) _ _ _)); k_node) | (first | with_reducible refine ite_no (by decide +kernel) ?_ | with_reducible refine ite_yes (by decide +kernel) ?_)))
  refine codeAny_builtin entry_setinit ?_
  unfold Builtin.«set.__init__»
  repeat (first | ((with_reducible refine' m_iter D ?hl (fun I h' D => ?_)); (case hl => exact ⟨_, D.keep _ _ hl rfl, rfl, _, rfl⟩)) | (first | (with_reducible refine hQ9 _ _ ?_; clear hQ9 Q9) | with_reducible refine nd_pure ?_ | with_reducible refine bindV (fun Q9 hQ9 => ?_) | with_reducible refine nbindV (fun Q9 hQ9 => ?_) | with_reducible refine wpAny_pure ?_ | ((fail_if_success (with_reducible refine' gate ?gg ?_; (case gg => with_reducible constructor))); k_node) | with_reducible refine nd_rule ?_ | with_reducible refine nd_point ?_ | with_reducible refine nd_ask ?_ | with_reducible refine m_fresh ?_ | with_reducible refine x_at ?_ | with_reducible refine wpAny_holding ?_ | with_reducible refine onRaiseV (fun E9 => ?_) | with_reducible refine wpAny_tryCatch ?_ | ((with_reducible show wpAny _ _ (Sem.load _ _ _) _ _ _); (first | (refine' m_load _ D (At.get ?hi) ?_; (case hi => (walk_at "b IDX"))) | (with_reducible refine m_old D (by with_reducible assumption) rfl ?_) | (refine' m_load _ D (At.get ?hi) ?_; (case hi => (walk_at "b IDXD"))))) | ((with_reducible show wpAny _ _ (Sem.update _ _ _ _) _ _ _); ((refine' m_update _ D (At.get ?hi) ?qe ?qr ?_; (case hi => (first | (walk_at "b IDX") | (walk_at "b IDXD"))); (case qe => rfl); (case qr => rfl); ((clear D; intro h' D; dsimp only [List.set_cons_zero, List.set_cons_succ, List.cons_append, List.nil_append, List.eraseIdx_cons_succ, List.eraseIdx_cons_zero, List.length_cons, List.length_nil, Nat.reduceAdd, Nat.reduceSub, List.replicate_zero, List.replicate_succ, List.append_nil] at D; (try dsimp only [List.cons_append, List.nil_append, List.append_toArray] at D)))))) | ((with_reducible show wpAny _ _ (Sem.call _ _ _ _ _) _ _ _); (with_reducible refine call_split ?_); (fail)) | ((with_reducible show wpAny _ _ (Sem.alloc _ _) _ _ _); ((with_reducible refine m_alloc D rfl ?_; clear D; intro a h' D; (try dsimp only [List.cons_append, List.nil_append, List.append_toArray] at D)))) | (first | with_reducible refine ite_no (by decide +kernel) ?_ | with_reducible refine ite_yes (by decide +kernel) ?_ | (with_reducible refine' ite_no ?q1 ?_; (case q1 => ((with_reducible show ¬ (_ == _) = true); simp only [beq_iff_eq]; assumption)))) | (first | ((with_reducible show wpAny _ _ (nsGet _ _) _ _ _); refine' m_nsGet _ D (At.get ?hi) ?qe ?_; (case hi => (first | (walk_at "b IDX") | (walk_at "b IDXD"))); (case qe => k_get)) | ((with_reducible show wpAny _ _ (nsSet _ _ _) _ _ _); (refine' m_nsSet _ D (At.get ?hi) ?qk ?_; (case hi => (first | (walk_at "b IDX") | (walk_at "b IDXD"))); (case qk => kernel_rfl)); ((clear D; intro h' D; dsimp only [List.set_cons_zero, List.set_cons_succ, List.cons_append, List.nil_append, List.eraseIdx_cons_succ, List.eraseIdx_cons_zero, List.length_cons, List.length_nil, Nat.reduceAdd, Nat.reduceSub, List.replicate_zero, List.replicate_succ, List.append_nil] at D; (try dsimp only [List.cons_append, List.nil_append, List.append_toArray] at D)))) | ((with_reducible show wpAny _ _ (nsSetByValue _ _ _) _ _ _); (refine' m_nsSetV _ D (At.get ?hi) ?qk ?qd ?_; (case hi => (first | (walk_at "b IDX") | (walk_at "b IDXD"))); (case qk => kernel_rfl); (case qd => decide)); ((clear D; intro h' D; dsimp only [List.set_cons_zero, List.set_cons_succ, List.cons_append, List.nil_append, List.eraseIdx_cons_succ, List.eraseIdx_cons_zero, List.length_cons, List.length_nil, Nat.reduceAdd, Nat.reduceSub, List.replicate_zero, List.replicate_succ, List.append_nil] at D; (try dsimp only [List.cons_append, List.nil_append, List.append_toArray] at D)))) | ((with_reducible show wpAny _ _ (setSlotAt _ _ _) _ _ _); (refine' m_slot _ D (At.get ?hi) ?qd ?qr ?_; (case hi => (first | (walk_at "b IDX") | (walk_at "b IDXD"))); (case qd => decide); (case qr => rfl)); ((clear D; intro h' D; dsimp only [List.set_cons_zero, List.set_cons_succ, List.cons_append, List.nil_append, List.eraseIdx_cons_succ, List.eraseIdx_cons_zero, List.length_cons, List.length_nil, Nat.reduceAdd, Nat.reduceSub, List.replicate_zero, List.replicate_succ, List.append_nil] at D; (try dsimp only [List.cons_append, List.nil_append, List.append_toArray] at D)))) | ((with_reducible show wpAny _ _ (updateCls _ _) _ _ _); (refine' m_cls _ D (At.get ?hi) ?qr ?_; (case hi => (first | (walk_at "b IDX") | (walk_at "b IDXD"))); (case qr => rfl)); ((clear D; intro h' D; dsimp only [List.set_cons_zero, List.set_cons_succ, List.cons_append, List.nil_append, List.eraseIdx_cons_succ, List.eraseIdx_cons_zero, List.length_cons, List.length_nil, Nat.reduceAdd, Nat.reduceSub, List.replicate_zero, List.replicate_succ, List.append_nil] at D; (try dsimp only [List.cons_append, List.nil_append, List.append_toArray] at D))))) | ((fail_if_success (with_reducible show wpAny _ _ (Sem.load _ _ _) _ _ _)); k_node) | (first | with_reducible refine ite_no (by decide +kernel) ?_ | with_reducible refine ite_yes (by decide +kernel) ?_)))
  refine x_call (codeAny_builtin entry_setloop ?_) (by intro h; cases h)
  unfold Builtin.«set.update.loop»
  repeat (first | ((with_reducible refine' m_next D ?e1 ?hl (.str (S "a") u) ?hv (fun oI h' D hoI => ?_)); (case e1 => exact ⟨rfl, rfl⟩); (case hl => exact ⟨_, D.keep _ _ hl rfl, rfl, _, rfl⟩); (case hv => exact rfl)) | with_reducible refine wpAny_pyHash_str ?_ | (first | (with_reducible refine hQ9 _ _ ?_; clear hQ9 Q9) | with_reducible refine nd_pure ?_ | with_reducible refine bindV (fun Q9 hQ9 => ?_) | with_reducible refine nbindV (fun Q9 hQ9 => ?_) | with_reducible refine wpAny_pure ?_ | ((fail_if_success (with_reducible refine' gate ?gg ?_; (case gg => with_reducible constructor))); k_node) | with_reducible refine nd_rule ?_ | with_reducible refine nd_point ?_ | with_reducible refine nd_ask ?_ | with_reducible refine m_fresh ?_ | with_reducible refine x_at ?_ | with_reducible refine wpAny_holding ?_ | with_reducible refine onRaiseV (fun E9 => ?_) | with_reducible refine wpAny_tryCatch ?_ | ((with_reducible show wpAny _ _ (Sem.load _ _ _) _ _ _); (first | (refine' m_load _ D (At.get ?hi) ?_; (case hi => (walk_at "b IDX"))) | (with_reducible refine m_old D (by with_reducible assumption) rfl ?_) | (refine' m_load _ D (At.get ?hi) ?_; (case hi => (walk_at "b IDXD"))))) | ((with_reducible show wpAny _ _ (Sem.update _ _ _ _) _ _ _); ((refine' m_update _ D (At.get ?hi) ?qe ?qr ?_; (case hi => (first | (walk_at "b IDX") | (walk_at "b IDXD"))); (case qe => rfl); (case qr => rfl); ((clear D; intro h' D; dsimp only [List.set_cons_zero, List.set_cons_succ, List.cons_append, List.nil_append, List.eraseIdx_cons_succ, List.eraseIdx_cons_zero, List.length_cons, List.length_nil, Nat.reduceAdd, Nat.reduceSub, List.replicate_zero, List.replicate_succ, List.append_nil] at D; (try dsimp only [List.cons_append, List.nil_append, List.append_toArray] at D)))))) | ((with_reducible show wpAny _ _ (Sem.call _ _ _ _ _) _ _ _); (with_reducible refine call_split ?_); (fail)) | ((with_reducible show wpAny _ _ (Sem.alloc _ _) _ _ _); ((with_reducible refine m_alloc D rfl ?_; clear D; intro a h' D; (try dsimp only [List.cons_append, List.nil_append, List.append_toArray] at D)))) | (first | with_reducible refine ite_no (by decide +kernel) ?_ | with_reducible refine ite_yes (by decide +kernel) ?_ | (with_reducible refine' ite_no ?q1 ?_; (case q1 => ((with_reducible show ¬ (_ == _) = true); simp only [beq_iff_eq]; assumption)))) | (first | ((with_reducible show wpAny _ _ (nsGet _ _) _ _ _); refine' m_nsGet _ D (At.get ?hi) ?qe ?_; (case hi => (first | (walk_at "b IDX") | (walk_at "b IDXD"))); (case qe => k_get)) | ((with_reducible show wpAny _ _ (nsSet _ _ _) _ _ _); (refine' m_nsSet _ D (At.get ?hi) ?qk ?_; (case hi => (first | (walk_at "b IDX") | (walk_at "b IDXD"))); (case qk => kernel_rfl)); ((clear D; intro h' D; dsimp only [List.set_cons_zero, List.set_cons_succ, List.cons_append, List.nil_append, List.eraseIdx_cons_succ, List.eraseIdx_cons_zero, List.length_cons, List.length_nil, Nat.reduceAdd, Nat.reduceSub, List.replicate_zero, List.replicate_succ, List.append_nil] at D; (try dsimp only [List.cons_append, List.nil_append, List.append_toArray] at D)))) | ((with_reducible show wpAny _ _ (nsSetByValue _ _ _) _ _ _); (refine' m_nsSetV _ D (At.get ?hi) ?qk ?qd ?_; (case hi => (first | (walk_at "b IDX") | (walk_at "b IDXD"))); (case qk => kernel_rfl); (case qd => decide)); ((clear D; intro h' D; dsimp only [List.set_cons_zero, List.set_cons_succ, List.cons_append, List.nil_append, List.eraseIdx_cons_succ, List.eraseIdx_cons_zero, List.length_cons, List.length_nil, Nat.reduceAdd, Nat.reduceSub, List.replicate_zero, List.replicate_succ, List.append_nil] at D; (try dsimp only [List.cons_append, List.nil_append, List.append_toArray] at D)))) | ((with_reducible show wpAny _ _ (setSlotAt _ _ _) _ _ _); (refine' m_slot _ D (At.get ?hi) ?qd ?qr ?_; (case hi => (first | (walk_at "b IDX") | (walk_at "b IDXD"))); (case qd => decide); (case qr => rfl)); ((clear D; intro h' D; dsimp only [List.set_cons_zero, List.set_cons_succ, List.cons_append, List.nil_append, List.eraseIdx_cons_succ, List.eraseIdx_cons_zero, List.length_cons, List.length_nil, Nat.reduceAdd, Nat.reduceSub, List.replicate_zero, List.replicate_succ, List.append_nil] at D; (try dsimp only [List.cons_append, List.nil_append, List.append_toArray] at D)))) | ((with_reducible show wpAny _ _ (updateCls _ _) _ _ _); (refine' m_cls _ D (At.get ?hi) ?qr ?_; (case hi => (first | (walk_at "b IDX") | (walk_at "b IDXD"))); (case qr => rfl)); ((clear D; intro h' D; dsimp only [List.set_cons_zero, List.set_cons_succ, List.cons_append, List.nil_append, List.eraseIdx_cons_succ, List.eraseIdx_cons_zero, List.length_cons, List.length_nil, Nat.reduceAdd, Nat.reduceSub, List.replicate_zero, List.replicate_succ, List.append_nil] at D; (try dsimp only [List.cons_append, List.nil_append, List.append_toArray] at D))))) | ((fail_if_success (with_reducible show wpAny _ _ (Sem.load _ _ _) _ _ _)); k_node) | (first | with_reducible refine ite_no (by decide +kernel) ?_ | with_reducible refine ite_yes (by decide +kernel) ?_)))
  refine ite_yes (by kernel_rfl) ?_
  unfold setAddByScan
  obtain ⟨mk, p, mv, pl, wd, gave, elay, hmk⟩ := lay1 (!(model prog w).w.params.followText "set-order") (hashStr w (S "a")) (.str (S "a") u)
  simp only [elay]
  repeat ((first | (with_reducible refine hQ9 _ _ ?_; clear hQ9 Q9) | with_reducible refine nd_pure ?_ | with_reducible refine bindV (fun Q9 hQ9 => ?_) | with_reducible refine nbindV (fun Q9 hQ9 => ?_) | with_reducible refine wpAny_pure ?_ | ((fail_if_success (with_reducible refine' gate ?gg ?_; (case gg => with_reducible constructor))); k_node) | with_reducible refine nd_rule ?_ | with_reducible refine nd_point ?_ | with_reducible refine nd_ask ?_ | with_reducible refine m_fresh ?_ | with_reducible refine x_at ?_ | with_reducible refine wpAny_holding ?_ | with_reducible refine onRaiseV (fun E9 => ?_) | with_reducible refine wpAny_tryCatch ?_ | ((with_reducible show wpAny _ _ (Sem.load _ _ _) _ _ _); (first | (refine' m_load _ D (At.get ?hi) ?_; (case hi => (walk_at "b IDX"))) | (with_reducible refine m_old D (by with_reducible assumption) rfl ?_) | (refine' m_load _ D (At.get ?hi) ?_; (case hi => (walk_at "b IDXD"))))) | ((with_reducible show wpAny _ _ (Sem.update _ _ _ _) _ _ _); ((refine' m_update _ D (At.get ?hi) ?qe ?qr ?_; (case hi => (first | (walk_at "b IDX") | (walk_at "b IDXD"))); (case qe => rfl); (case qr => rfl); ((clear D; intro h' D; dsimp only [List.set_cons_zero, List.set_cons_succ, List.cons_append, List.nil_append, List.eraseIdx_cons_succ, List.eraseIdx_cons_zero, List.length_cons, List.length_nil, Nat.reduceAdd, Nat.reduceSub, List.replicate_zero, List.replicate_succ, List.append_nil] at D; (try dsimp only [List.cons_append, List.nil_append, List.append_toArray] at D)))))) | ((with_reducible show wpAny _ _ (Sem.call _ _ _ _ _) _ _ _); (with_reducible refine call_split ?_); (fail)) | ((with_reducible show wpAny _ _ (Sem.alloc _ _) _ _ _); ((with_reducible refine m_alloc D rfl ?_; clear D; intro a h' D; (try dsimp only [List.cons_append, List.nil_append, List.append_toArray] at D)))) | (first | with_reducible refine ite_no (by decide +kernel) ?_ | with_reducible refine ite_yes (by decide +kernel) ?_ | (with_reducible refine' ite_no ?q1 ?_; (case q1 => ((with_reducible show ¬ (_ == _) = true); simp only [beq_iff_eq]; assumption)))) | (first | ((with_reducible show wpAny _ _ (nsGet _ _) _ _ _); refine' m_nsGet _ D (At.get ?hi) ?qe ?_; (case hi => (first | (walk_at "b IDX") | (walk_at "b IDXD"))); (case qe => k_get)) | ((with_reducible show wpAny _ _ (nsSet _ _ _) _ _ _); (refine' m_nsSet _ D (At.get ?hi) ?qk ?_; (case hi => (first | (walk_at "b IDX") | (walk_at "b IDXD"))); (case qk => kernel_rfl)); ((clear D; intro h' D; dsimp only [List.set_cons_zero, List.set_cons_succ, List.cons_append, List.nil_append, List.eraseIdx_cons_succ, List.eraseIdx_cons_zero, List.length_cons, List.length_nil, Nat.reduceAdd, Nat.reduceSub, List.replicate_zero, List.replicate_succ, List.append_nil] at D; (try dsimp only [List.cons_append, List.nil_append, List.append_toArray] at D)))) | ((with_reducible show wpAny _ _ (nsSetByValue _ _ _) _ _ _); (refine' m_nsSetV _ D (At.get ?hi) ?qk ?qd ?_; (case hi => (first | (walk_at "b IDX") | (walk_at "b IDXD"))); (case qk => kernel_rfl); (case qd => decide)); ((clear D; intro h' D; dsimp only [List.set_cons_zero, List.set_cons_succ, List.cons_append, List.nil_append, List.eraseIdx_cons_succ, List.eraseIdx_cons_zero, List.length_cons, List.length_nil, Nat.reduceAdd, Nat.reduceSub, List.replicate_zero, List.replicate_succ, List.append_nil] at D; (try dsimp only [List.cons_append, List.nil_append, List.append_toArray] at D)))) | ((with_reducible show wpAny _ _ (setSlotAt _ _ _) _ _ _); (refine' m_slot _ D (At.get ?hi) ?qd ?qr ?_; (case hi => (first | (walk_at "b IDX") | (walk_at "b IDXD"))); (case qd => decide); (case qr => rfl)); ((clear D; intro h' D; dsimp only [List.set_cons_zero, List.set_cons_succ, List.cons_append, List.nil_append, List.eraseIdx_cons_succ, List.eraseIdx_cons_zero, List.length_cons, List.length_nil, Nat.reduceAdd, Nat.reduceSub, List.replicate_zero, List.replicate_succ, List.append_nil] at D; (try dsimp only [List.cons_append, List.nil_append, List.append_toArray] at D)))) | ((with_reducible show wpAny _ _ (updateCls _ _) _ _ _); (refine' m_cls _ D (At.get ?hi) ?qr ?_; (case hi => (first | (walk_at "b IDX") | (walk_at "b IDXD"))); (case qr => rfl)); ((clear D; intro h' D; dsimp only [List.set_cons_zero, List.set_cons_succ, List.cons_append, List.nil_append, List.eraseIdx_cons_succ, List.eraseIdx_cons_zero, List.length_cons, List.length_nil, Nat.reduceAdd, Nat.reduceSub, List.replicate_zero, List.replicate_succ, List.append_nil] at D; (try dsimp only [List.cons_append, List.nil_append, List.append_toArray] at D))))) | ((fail_if_success (with_reducible show wpAny _ _ (Sem.load _ _ _) _ _ _)); k_node) | (first | with_reducible refine ite_no (by decide +kernel) ?_ | with_reducible refine ite_yes (by decide +kernel) ?_)))
  rw [show Array.findIdx? (fun x : Int × Value => x.snd.isStr (S "a")) #[] = none by simp]
  repeat ((first | (with_reducible refine hQ9 _ _ ?_; clear hQ9 Q9) | with_reducible refine nd_pure ?_ | with_reducible refine bindV (fun Q9 hQ9 => ?_) | with_reducible refine nbindV (fun Q9 hQ9 => ?_) | with_reducible refine wpAny_pure ?_ | ((fail_if_success (with_reducible refine' gate ?gg ?_; (case gg => with_reducible constructor))); k_node) | with_reducible refine nd_rule ?_ | with_reducible refine nd_point ?_ | with_reducible refine nd_ask ?_ | with_reducible refine m_fresh ?_ | with_reducible refine x_at ?_ | with_reducible refine wpAny_holding ?_ | with_reducible refine onRaiseV (fun E9 => ?_) | with_reducible refine wpAny_tryCatch ?_ | ((with_reducible show wpAny _ _ (Sem.load _ _ _) _ _ _); (first | (refine' m_load _ D (At.get ?hi) ?_; (case hi => (walk_at "b IDX"))) | (with_reducible refine m_old D (by with_reducible assumption) rfl ?_) | (refine' m_load _ D (At.get ?hi) ?_; (case hi => (walk_at "b IDXD"))))) | ((with_reducible show wpAny _ _ (Sem.update _ _ _ _) _ _ _); ((refine' m_update _ D (At.get ?hi) ?qe ?qr ?_; (case hi => (first | (walk_at "b IDX") | (walk_at "b IDXD"))); (case qe => rfl); (case qr => rfl); ((clear D; intro h' D; dsimp only [List.set_cons_zero, List.set_cons_succ, List.cons_append, List.nil_append, List.eraseIdx_cons_succ, List.eraseIdx_cons_zero, List.length_cons, List.length_nil, Nat.reduceAdd, Nat.reduceSub, List.replicate_zero, List.replicate_succ, List.append_nil] at D; (try dsimp only [List.cons_append, List.nil_append, List.append_toArray] at D)))))) | ((with_reducible show wpAny _ _ (Sem.call _ _ _ _ _) _ _ _); (with_reducible refine call_split ?_); (fail)) | ((with_reducible show wpAny _ _ (Sem.alloc _ _) _ _ _); ((with_reducible refine m_alloc D rfl ?_; clear D; intro a h' D; (try dsimp only [List.cons_append, List.nil_append, List.append_toArray] at D)))) | (first | with_reducible refine ite_no (by decide +kernel) ?_ | with_reducible refine ite_yes (by decide +kernel) ?_ | (with_reducible refine' ite_no ?q1 ?_; (case q1 => ((with_reducible show ¬ (_ == _) = true); simp only [beq_iff_eq]; assumption)))) | (first | ((with_reducible show wpAny _ _ (nsGet _ _) _ _ _); refine' m_nsGet _ D (At.get ?hi) ?qe ?_; (case hi => (first | (walk_at "b IDX") | (walk_at "b IDXD"))); (case qe => k_get)) | ((with_reducible show wpAny _ _ (nsSet _ _ _) _ _ _); (refine' m_nsSet _ D (At.get ?hi) ?qk ?_; (case hi => (first | (walk_at "b IDX") | (walk_at "b IDXD"))); (case qk => kernel_rfl)); ((clear D; intro h' D; dsimp only [List.set_cons_zero, List.set_cons_succ, List.cons_append, List.nil_append, List.eraseIdx_cons_succ, List.eraseIdx_cons_zero, List.length_cons, List.length_nil, Nat.reduceAdd, Nat.reduceSub, List.replicate_zero, List.replicate_succ, List.append_nil] at D; (try dsimp only [List.cons_append, List.nil_append, List.append_toArray] at D)))) | ((with_reducible show wpAny _ _ (nsSetByValue _ _ _) _ _ _); (refine' m_nsSetV _ D (At.get ?hi) ?qk ?qd ?_; (case hi => (first | (walk_at "b IDX") | (walk_at "b IDXD"))); (case qk => kernel_rfl); (case qd => decide)); ((clear D; intro h' D; dsimp only [List.set_cons_zero, List.set_cons_succ, List.cons_append, List.nil_append, List.eraseIdx_cons_succ, List.eraseIdx_cons_zero, List.length_cons, List.length_nil, Nat.reduceAdd, Nat.reduceSub, List.replicate_zero, List.replicate_succ, List.append_nil] at D; (try dsimp only [List.cons_append, List.nil_append, List.append_toArray] at D)))) | ((with_reducible show wpAny _ _ (setSlotAt _ _ _) _ _ _); (refine' m_slot _ D (At.get ?hi) ?qd ?qr ?_; (case hi => (first | (walk_at "b IDX") | (walk_at "b IDXD"))); (case qd => decide); (case qr => rfl)); ((clear D; intro h' D; dsimp only [List.set_cons_zero, List.set_cons_succ, List.cons_append, List.nil_append, List.eraseIdx_cons_succ, List.eraseIdx_cons_zero, List.length_cons, List.length_nil, Nat.reduceAdd, Nat.reduceSub, List.replicate_zero, List.replicate_succ, List.append_nil] at D; (try dsimp only [List.cons_append, List.nil_append, List.append_toArray] at D)))) | ((with_reducible show wpAny _ _ (updateCls _ _) _ _ _); (refine' m_cls _ D (At.get ?hi) ?qr ?_; (case hi => (first | (walk_at "b IDX") | (walk_at "b IDXD"))); (case qr => rfl)); ((clear D; intro h' D; dsimp only [List.set_cons_zero, List.set_cons_succ, List.cons_append, List.nil_append, List.eraseIdx_cons_succ, List.eraseIdx_cons_zero, List.length_cons, List.length_nil, Nat.reduceAdd, Nat.reduceSub, List.replicate_zero, List.replicate_succ, List.append_nil] at D; (try dsimp only [List.cons_append, List.nil_append, List.append_toArray] at D))))) | ((fail_if_success (with_reducible show wpAny _ _ (Sem.load _ _ _) _ _ _)); k_node) | (first | with_reducible refine ite_no (by decide +kernel) ?_ | with_reducible refine ite_yes (by decide +kernel) ?_)))
  refine wpAny_mono (Q := fun _ s' => s' = ⟨_, gs, d, _, os⟩) (by cases gave <;> ((repeat ((first | (with_reducible refine hQ9 _ _ ?_; clear hQ9 Q9) | with_reducible refine nd_pure ?_ | with_reducible refine bindV (fun Q9 hQ9 => ?_) | with_reducible refine nbindV (fun Q9 hQ9 => ?_) | with_reducible refine wpAny_pure ?_ | ((fail_if_success (with_reducible refine' gate ?gg ?_; (case gg => with_reducible constructor))); k_node) | with_reducible refine nd_rule ?_ | with_reducible refine nd_point ?_ | with_reducible refine nd_ask ?_ | with_reducible refine m_fresh ?_ | with_reducible refine x_at ?_ | with_reducible refine wpAny_holding ?_ | with_reducible refine onRaiseV (fun E9 => ?_) | with_reducible refine wpAny_tryCatch ?_ | ((with_reducible show wpAny _ _ (Sem.load _ _ _) _ _ _); (first | (refine' m_load _ D (At.get ?hi) ?_; (case hi => (walk_at "b IDX"))) | (with_reducible refine m_old D (by with_reducible assumption) rfl ?_) | (refine' m_load _ D (At.get ?hi) ?_; (case hi => (walk_at "b IDXD"))))) | ((with_reducible show wpAny _ _ (Sem.update _ _ _ _) _ _ _); ((refine' m_update _ D (At.get ?hi) ?qe ?qr ?_; (case hi => (first | (walk_at "b IDX") | (walk_at "b IDXD"))); (case qe => rfl); (case qr => rfl); ((clear D; intro h' D; dsimp only [List.set_cons_zero, List.set_cons_succ, List.cons_append, List.nil_append, List.eraseIdx_cons_succ, List.eraseIdx_cons_zero, List.length_cons, List.length_nil, Nat.reduceAdd, Nat.reduceSub, List.replicate_zero, List.replicate_succ, List.append_nil] at D; (try dsimp only [List.cons_append, List.nil_append, List.append_toArray] at D)))))) | ((with_reducible show wpAny _ _ (Sem.call _ _ _ _ _) _ _ _); (with_reducible refine call_split ?_); (fail)) | ((with_reducible show wpAny _ _ (Sem.alloc _ _) _ _ _); ((with_reducible refine m_alloc D rfl ?_; clear D; intro a h' D; (try dsimp only [List.cons_append, List.nil_append, List.append_toArray] at D)))) | (first | with_reducible refine ite_no (by decide +kernel) ?_ | with_reducible refine ite_yes (by decide +kernel) ?_ | (with_reducible refine' ite_no ?q1 ?_; (case q1 => ((with_reducible show ¬ (_ == _) = true); simp only [beq_iff_eq]; assumption)))) | (first | ((with_reducible show wpAny _ _ (nsGet _ _) _ _ _); refine' m_nsGet _ D (At.get ?hi) ?qe ?_; (case hi => (first | (walk_at "b IDX") | (walk_at "b IDXD"))); (case qe => k_get)) | ((with_reducible show wpAny _ _ (nsSet _ _ _) _ _ _); (refine' m_nsSet _ D (At.get ?hi) ?qk ?_; (case hi => (first | (walk_at "b IDX") | (walk_at "b IDXD"))); (case qk => kernel_rfl)); ((clear D; intro h' D; dsimp only [List.set_cons_zero, List.set_cons_succ, List.cons_append, List.nil_append, List.eraseIdx_cons_succ, List.eraseIdx_cons_zero, List.length_cons, List.length_nil, Nat.reduceAdd, Nat.reduceSub, List.replicate_zero, List.replicate_succ, List.append_nil] at D; (try dsimp only [List.cons_append, List.nil_append, List.append_toArray] at D)))) | ((with_reducible show wpAny _ _ (nsSetByValue _ _ _) _ _ _); (refine' m_nsSetV _ D (At.get ?hi) ?qk ?qd ?_; (case hi => (first | (walk_at "b IDX") | (walk_at "b IDXD"))); (case qk => kernel_rfl); (case qd => decide)); ((clear D; intro h' D; dsimp only [List.set_cons_zero, List.set_cons_succ, List.cons_append, List.nil_append, List.eraseIdx_cons_succ, List.eraseIdx_cons_zero, List.length_cons, List.length_nil, Nat.reduceAdd, Nat.reduceSub, List.replicate_zero, List.replicate_succ, List.append_nil] at D; (try dsimp only [List.cons_append, List.nil_append, List.append_toArray] at D)))) | ((with_reducible show wpAny _ _ (setSlotAt _ _ _) _ _ _); (refine' m_slot _ D (At.get ?hi) ?qd ?qr ?_; (case hi => (first | (walk_at "b IDX") | (walk_at "b IDXD"))); (case qd => decide); (case qr => rfl)); ((clear D; intro h' D; dsimp only [List.set_cons_zero, List.set_cons_succ, List.cons_append, List.nil_append, List.eraseIdx_cons_succ, List.eraseIdx_cons_zero, List.length_cons, List.length_nil, Nat.reduceAdd, Nat.reduceSub, List.replicate_zero, List.replicate_succ, List.append_nil] at D; (try dsimp only [List.cons_append, List.nil_append, List.append_toArray] at D)))) | ((with_reducible show wpAny _ _ (updateCls _ _) _ _ _); (refine' m_cls _ D (At.get ?hi) ?qr ?_; (case hi => (first | (walk_at "b IDX") | (walk_at "b IDXD"))); (case qr => rfl)); ((clear D; intro h' D; dsimp only [List.set_cons_zero, List.set_cons_succ, List.cons_append, List.nil_append, List.eraseIdx_cons_succ, List.eraseIdx_cons_zero, List.length_cons, List.length_nil, Nat.reduceAdd, Nat.reduceSub, List.replicate_zero, List.replicate_succ, List.append_nil] at D; (try dsimp only [List.cons_append, List.nil_append, List.append_toArray] at D))))) | ((fail_if_success (with_reducible show wpAny _ _ (Sem.load _ _ _) _ _ _)); k_node) | (first | with_reducible refine ite_no (by decide +kernel) ?_ | with_reducible refine ite_yes (by decide +kernel) ?_)))); exact rfl)) (fun _ s' es => ?_) (fun _ _ z => z)
  subst es
  repeat ((first | (with_reducible refine hQ9 _ _ ?_; clear hQ9 Q9) | with_reducible refine nd_pure ?_ | with_reducible refine bindV (fun Q9 hQ9 => ?_) | with_reducible refine nbindV (fun Q9 hQ9 => ?_) | with_reducible refine wpAny_pure ?_ | ((fail_if_success (with_reducible refine' gate ?gg ?_; (case gg => with_reducible constructor))); k_node) | with_reducible refine nd_rule ?_ | with_reducible refine nd_point ?_ | with_reducible refine nd_ask ?_ | with_reducible refine m_fresh ?_ | with_reducible refine x_at ?_ | with_reducible refine wpAny_holding ?_ | with_reducible refine onRaiseV (fun E9 => ?_) | with_reducible refine wpAny_tryCatch ?_ | ((with_reducible show wpAny _ _ (Sem.load _ _ _) _ _ _); (first | (refine' m_load _ D (At.get ?hi) ?_; (case hi => (walk_at "b IDX"))) | (with_reducible refine m_old D (by with_reducible assumption) rfl ?_) | (refine' m_load _ D (At.get ?hi) ?_; (case hi => (walk_at "b IDXD"))))) | ((with_reducible show wpAny _ _ (Sem.update _ _ _ _) _ _ _); ((refine' m_update _ D (At.get ?hi) ?qe ?qr ?_; (case hi => (first | (walk_at "b IDX") | (walk_at "b IDXD"))); (case qe => rfl); (case qr => rfl); ((clear D; intro h' D; dsimp only [List.set_cons_zero, List.set_cons_succ, List.cons_append, List.nil_append, List.eraseIdx_cons_succ, List.eraseIdx_cons_zero, List.length_cons, List.length_nil, Nat.reduceAdd, Nat.reduceSub, List.replicate_zero, List.replicate_succ, List.append_nil] at D; (try dsimp only [List.cons_append, List.nil_append, List.append_toArray] at D)))))) | ((with_reducible show wpAny _ _ (Sem.call _ _ _ _ _) _ _ _); (with_reducible refine call_split ?_); (fail)) | ((with_reducible show wpAny _ _ (Sem.alloc _ _) _ _ _); ((with_reducible refine m_alloc D rfl ?_; clear D; intro a h' D; (try dsimp only [List.cons_append, List.nil_append, List.append_toArray] at D)))) | (first | with_reducible refine ite_no (by decide +kernel) ?_ | with_reducible refine ite_yes (by decide +kernel) ?_ | (with_reducible refine' ite_no ?q1 ?_; (case q1 => ((with_reducible show ¬ (_ == _) = true); simp only [beq_iff_eq]; assumption)))) | (first | ((with_reducible show wpAny _ _ (nsGet _ _) _ _ _); refine' m_nsGet _ D (At.get ?hi) ?qe ?_; (case hi => (first | (walk_at "b IDX") | (walk_at "b IDXD"))); (case qe => k_get)) | ((with_reducible show wpAny _ _ (nsSet _ _ _) _ _ _); (refine' m_nsSet _ D (At.get ?hi) ?qk ?_; (case hi => (first | (walk_at "b IDX") | (walk_at "b IDXD"))); (case qk => kernel_rfl)); ((clear D; intro h' D; dsimp only [List.set_cons_zero, List.set_cons_succ, List.cons_append, List.nil_append, List.eraseIdx_cons_succ, List.eraseIdx_cons_zero, List.length_cons, List.length_nil, Nat.reduceAdd, Nat.reduceSub, List.replicate_zero, List.replicate_succ, List.append_nil] at D; (try dsimp only [List.cons_append, List.nil_append, List.append_toArray] at D)))) | ((with_reducible show wpAny _ _ (nsSetByValue _ _ _) _ _ _); (refine' m_nsSetV _ D (At.get ?hi) ?qk ?qd ?_; (case hi => (first | (walk_at "b IDX") | (walk_at "b IDXD"))); (case qk => kernel_rfl); (case qd => decide)); ((clear D; intro h' D; dsimp only [List.set_cons_zero, List.set_cons_succ, List.cons_append, List.nil_append, List.eraseIdx_cons_succ, List.eraseIdx_cons_zero, List.length_cons, List.length_nil, Nat.reduceAdd, Nat.reduceSub, List.replicate_zero, List.replicate_succ, List.append_nil] at D; (try dsimp only [List.cons_append, List.nil_append, List.append_toArray] at D)))) | ((with_reducible show wpAny _ _ (setSlotAt _ _ _) _ _ _); (refine' m_slot _ D (At.get ?hi) ?qd ?qr ?_; (case hi => (first | (walk_at "b IDX") | (walk_at "b IDXD"))); (case qd => decide); (case qr => rfl)); ((clear D; intro h' D; dsimp only [List.set_cons_zero, List.set_cons_succ, List.cons_append, List.nil_append, List.eraseIdx_cons_succ, List.eraseIdx_cons_zero, List.length_cons, List.length_nil, Nat.reduceAdd, Nat.reduceSub, List.replicate_zero, List.replicate_succ, List.append_nil] at D; (try dsimp only [List.cons_append, List.nil_append, List.append_toArray] at D)))) | ((with_reducible show wpAny _ _ (updateCls _ _) _ _ _); (refine' m_cls _ D (At.get ?hi) ?qr ?_; (case hi => (first | (walk_at "b IDX") | (walk_at "b IDXD"))); (case qr => rfl)); ((clear D; intro h' D; dsimp only [List.set_cons_zero, List.set_cons_succ, List.cons_append, List.nil_append, List.eraseIdx_cons_succ, List.eraseIdx_cons_zero, List.length_cons, List.length_nil, Nat.reduceAdd, Nat.reduceSub, List.replicate_zero, List.replicate_succ, List.append_nil] at D; (try dsimp only [List.cons_append, List.nil_append, List.append_toArray] at D))))) | ((fail_if_success (with_reducible show wpAny _ _ (Sem.load _ _ _) _ _ _)); k_node) | (first | with_reducible refine ite_no (by decide +kernel) ?_ | with_reducible refine ite_yes (by decide +kernel) ?_)))
  refine m_pl (fun e => by subst e; rfl) ?_
  simp only [Bool.false_eq_true, if_false, setFull hmk, Bool.and_false]
  repeat ((first | (with_reducible refine hQ9 _ _ ?_; clear hQ9 Q9) | with_reducible refine nd_pure ?_ | with_reducible refine bindV (fun Q9 hQ9 => ?_) | with_reducible refine nbindV (fun Q9 hQ9 => ?_) | with_reducible refine wpAny_pure ?_ | ((fail_if_success (with_reducible refine' gate ?gg ?_; (case gg => with_reducible constructor))); k_node) | with_reducible refine nd_rule ?_ | with_reducible refine nd_point ?_ | with_reducible refine nd_ask ?_ | with_reducible refine m_fresh ?_ | with_reducible refine x_at ?_ | with_reducible refine wpAny_holding ?_ | with_reducible refine onRaiseV (fun E9 => ?_) | with_reducible refine wpAny_tryCatch ?_ | ((with_reducible show wpAny _ _ (Sem.load _ _ _) _ _ _); (first | (refine' m_load _ D (At.get ?hi) ?_; (case hi => (walk_at "b IDX"))) | (with_reducible refine m_old D (by with_reducible assumption) rfl ?_) | (refine' m_load _ D (At.get ?hi) ?_; (case hi => (walk_at "b IDXD"))))) | ((with_reducible show wpAny _ _ (Sem.update _ _ _ _) _ _ _); ((refine' m_update _ D (At.get ?hi) ?qe ?qr ?_; (case hi => (first | (walk_at "b IDX") | (walk_at "b IDXD"))); (case qe => rfl); (case qr => rfl); ((clear D; intro h' D; dsimp only [List.set_cons_zero, List.set_cons_succ, List.cons_append, List.nil_append, List.eraseIdx_cons_succ, List.eraseIdx_cons_zero, List.length_cons, List.length_nil, Nat.reduceAdd, Nat.reduceSub, List.replicate_zero, List.replicate_succ, List.append_nil] at D; (try dsimp only [List.cons_append, List.nil_append, List.append_toArray] at D)))))) | ((with_reducible show wpAny _ _ (Sem.call _ _ _ _ _) _ _ _); (with_reducible refine call_split ?_); (fail)) | ((with_reducible show wpAny _ _ (Sem.alloc _ _) _ _ _); ((with_reducible refine m_alloc D rfl ?_; clear D; intro a h' D; (try dsimp only [List.cons_append, List.nil_append, List.append_toArray] at D)))) | (first | with_reducible refine ite_no (by decide +kernel) ?_ | with_reducible refine ite_yes (by decide +kernel) ?_ | (with_reducible refine' ite_no ?q1 ?_; (case q1 => ((with_reducible show ¬ (_ == _) = true); simp only [beq_iff_eq]; assumption)))) | (first | ((with_reducible show wpAny _ _ (nsGet _ _) _ _ _); refine' m_nsGet _ D (At.get ?hi) ?qe ?_; (case hi => (first | (walk_at "b IDX") | (walk_at "b IDXD"))); (case qe => k_get)) | ((with_reducible show wpAny _ _ (nsSet _ _ _) _ _ _); (refine' m_nsSet _ D (At.get ?hi) ?qk ?_; (case hi => (first | (walk_at "b IDX") | (walk_at "b IDXD"))); (case qk => kernel_rfl)); ((clear D; intro h' D; dsimp only [List.set_cons_zero, List.set_cons_succ, List.cons_append, List.nil_append, List.eraseIdx_cons_succ, List.eraseIdx_cons_zero, List.length_cons, List.length_nil, Nat.reduceAdd, Nat.reduceSub, List.replicate_zero, List.replicate_succ, List.append_nil] at D; (try dsimp only [List.cons_append, List.nil_append, List.append_toArray] at D)))) | ((with_reducible show wpAny _ _ (nsSetByValue _ _ _) _ _ _); (refine' m_nsSetV _ D (At.get ?hi) ?qk ?qd ?_; (case hi => (first | (walk_at "b IDX") | (walk_at "b IDXD"))); (case qk => kernel_rfl); (case qd => decide)); ((clear D; intro h' D; dsimp only [List.set_cons_zero, List.set_cons_succ, List.cons_append, List.nil_append, List.eraseIdx_cons_succ, List.eraseIdx_cons_zero, List.length_cons, List.length_nil, Nat.reduceAdd, Nat.reduceSub, List.replicate_zero, List.replicate_succ, List.append_nil] at D; (try dsimp only [List.cons_append, List.nil_append, List.append_toArray] at D)))) | ((with_reducible show wpAny _ _ (setSlotAt _ _ _) _ _ _); (refine' m_slot _ D (At.get ?hi) ?qd ?qr ?_; (case hi => (first | (walk_at "b IDX") | (walk_at "b IDXD"))); (case qd => decide); (case qr => rfl)); ((clear D; intro h' D; dsimp only [List.set_cons_zero, List.set_cons_succ, List.cons_append, List.nil_append, List.eraseIdx_cons_succ, List.eraseIdx_cons_zero, List.length_cons, List.length_nil, Nat.reduceAdd, Nat.reduceSub, List.replicate_zero, List.replicate_succ, List.append_nil] at D; (try dsimp only [List.cons_append, List.nil_append, List.append_toArray] at D)))) | ((with_reducible show wpAny _ _ (updateCls _ _) _ _ _); (refine' m_cls _ D (At.get ?hi) ?qr ?_; (case hi => (first | (walk_at "b IDX") | (walk_at "b IDXD"))); (case qr => rfl)); ((clear D; intro h' D; dsimp only [List.set_cons_zero, List.set_cons_succ, List.cons_append, List.nil_append, List.eraseIdx_cons_succ, List.eraseIdx_cons_zero, List.length_cons, List.length_nil, Nat.reduceAdd, Nat.reduceSub, List.replicate_zero, List.replicate_succ, List.append_nil] at D; (try dsimp only [List.cons_append, List.nil_append, List.append_toArray] at D))))) | ((fail_if_success (with_reducible show wpAny _ _ (Sem.load _ _ _) _ _ _)); k_node) | (first | with_reducible refine ite_no (by decide +kernel) ?_ | with_reducible refine ite_yes (by decide +kernel) ?_)))
  refine ⟨by kernel_rfl, codeAny_builtin entry_setloop ?_⟩
  unfold Builtin.«set.update.loop»
  repeat (first | ((with_reducible refine' m_end D ?e1 ?hA ?hl ?hv (fun h' D => ?_)); (case e1 => exact hoI); (case hA => exact hA); (case hl => exact ⟨_, D.keep _ _ hl rfl, rfl, _, rfl⟩); (case hv => exact rfl)) | (first | (with_reducible refine hQ9 _ _ ?_; clear hQ9 Q9) | with_reducible refine nd_pure ?_ | with_reducible refine bindV (fun Q9 hQ9 => ?_) | with_reducible refine nbindV (fun Q9 hQ9 => ?_) | with_reducible refine wpAny_pure ?_ | ((fail_if_success (with_reducible refine' gate ?gg ?_; (case gg => with_reducible constructor))); k_node) | with_reducible refine nd_rule ?_ | with_reducible refine nd_point ?_ | with_reducible refine nd_ask ?_ | with_reducible refine m_fresh ?_ | with_reducible refine x_at ?_ | with_reducible refine wpAny_holding ?_ | with_reducible refine onRaiseV (fun E9 => ?_) | with_reducible refine wpAny_tryCatch ?_ | ((with_reducible show wpAny _ _ (Sem.load _ _ _) _ _ _); (first | (refine' m_load _ D (At.get ?hi) ?_; (case hi => (walk_at "b IDX"))) | (with_reducible refine m_old D (by with_reducible assumption) rfl ?_) | (refine' m_load _ D (At.get ?hi) ?_; (case hi => (walk_at "b IDXD"))))) | ((with_reducible show wpAny _ _ (Sem.update _ _ _ _) _ _ _); ((refine' m_update _ D (At.get ?hi) ?qe ?qr ?_; (case hi => (first | (walk_at "b IDX") | (walk_at "b IDXD"))); (case qe => rfl); (case qr => rfl); ((clear D; intro h' D; dsimp only [List.set_cons_zero, List.set_cons_succ, List.cons_append, List.nil_append, List.eraseIdx_cons_succ, List.eraseIdx_cons_zero, List.length_cons, List.length_nil, Nat.reduceAdd, Nat.reduceSub, List.replicate_zero, List.replicate_succ, List.append_nil] at D; (try dsimp only [List.cons_append, List.nil_append, List.append_toArray] at D)))))) | ((with_reducible show wpAny _ _ (Sem.call _ _ _ _ _) _ _ _); (with_reducible refine call_split ?_); (fail)) | ((with_reducible show wpAny _ _ (Sem.alloc _ _) _ _ _); ((with_reducible refine m_alloc D rfl ?_; clear D; intro a h' D; (try dsimp only [List.cons_append, List.nil_append, List.append_toArray] at D)))) | (first | with_reducible refine ite_no (by decide +kernel) ?_ | with_reducible refine ite_yes (by decide +kernel) ?_ | (with_reducible refine' ite_no ?q1 ?_; (case q1 => ((with_reducible show ¬ (_ == _) = true); simp only [beq_iff_eq]; assumption)))) | (first | ((with_reducible show wpAny _ _ (nsGet _ _) _ _ _); refine' m_nsGet _ D (At.get ?hi) ?qe ?_; (case hi => (first | (walk_at "b IDX") | (walk_at "b IDXD"))); (case qe => k_get)) | ((with_reducible show wpAny _ _ (nsSet _ _ _) _ _ _); (refine' m_nsSet _ D (At.get ?hi) ?qk ?_; (case hi => (first | (walk_at "b IDX") | (walk_at "b IDXD"))); (case qk => kernel_rfl)); ((clear D; intro h' D; dsimp only [List.set_cons_zero, List.set_cons_succ, List.cons_append, List.nil_append, List.eraseIdx_cons_succ, List.eraseIdx_cons_zero, List.length_cons, List.length_nil, Nat.reduceAdd, Nat.reduceSub, List.replicate_zero, List.replicate_succ, List.append_nil] at D; (try dsimp only [List.cons_append, List.nil_append, List.append_toArray] at D)))) | ((with_reducible show wpAny _ _ (nsSetByValue _ _ _) _ _ _); (refine' m_nsSetV _ D (At.get ?hi) ?qk ?qd ?_; (case hi => (first | (walk_at "b IDX") | (walk_at "b IDXD"))); (case qk => kernel_rfl); (case qd => decide)); ((clear D; intro h' D; dsimp only [List.set_cons_zero, List.set_cons_succ, List.cons_append, List.nil_append, List.eraseIdx_cons_succ, List.eraseIdx_cons_zero, List.length_cons, List.length_nil, Nat.reduceAdd, Nat.reduceSub, List.replicate_zero, List.replicate_succ, List.append_nil] at D; (try dsimp only [List.cons_append, List.nil_append, List.append_toArray] at D)))) | ((with_reducible show wpAny _ _ (setSlotAt _ _ _) _ _ _); (refine' m_slot _ D (At.get ?hi) ?qd ?qr ?_; (case hi => (first | (walk_at "b IDX") | (walk_at "b IDXD"))); (case qd => decide); (case qr => rfl)); ((clear D; intro h' D; dsimp only [List.set_cons_zero, List.set_cons_succ, List.cons_append, List.nil_append, List.eraseIdx_cons_succ, List.eraseIdx_cons_zero, List.length_cons, List.length_nil, Nat.reduceAdd, Nat.reduceSub, List.replicate_zero, List.replicate_succ, List.append_nil] at D; (try dsimp only [List.cons_append, List.nil_append, List.append_toArray] at D)))) | ((with_reducible show wpAny _ _ (updateCls _ _) _ _ _); (refine' m_cls _ D (At.get ?hi) ?qr ?_; (case hi => (first | (walk_at "b IDX") | (walk_at "b IDXD"))); (case qr => rfl)); ((clear D; intro h' D; dsimp only [List.set_cons_zero, List.set_cons_succ, List.cons_append, List.nil_append, List.eraseIdx_cons_succ, List.eraseIdx_cons_zero, List.length_cons, List.length_nil, Nat.reduceAdd, Nat.reduceSub, List.replicate_zero, List.replicate_succ, List.append_nil] at D; (try dsimp only [List.cons_append, List.nil_append, List.append_toArray] at D))))) | ((fail_if_success (with_reducible show wpAny _ _ (Sem.load _ _ _) _ _ _)); k_node) | (first | with_reducible refine ite_no (by decide +kernel) ?_ | with_reducible refine ite_yes (by decide +kernel) ?_)))
  have e := D.at 0 rfl
  have hk : (strKind prog w).is (S "a") (.str (S "a") u) = true := strKind_is prog w _ u
  refine k a _ h' _ D ⟨⟨_, _, _, _, e, ⟨rfl, rfl, rfl⟩, rfl, fun x hx => ?_, fun y => ?_, (show 1 < scanBound by decide +kernel), ?_, rfl⟩, ⟨_, _, _, _, _, _, _, _, _, e, ?_⟩⟩
  · obtain rfl := List.mem_singleton.mp hx
    exact ⟨⟨S "a", hk, rfl⟩, by kernel_rfl⟩
  · constructor
    · intro hy
      obtain rfl := of_decide_eq_true hy
      exact ⟨_, .head _, hk⟩
    · rintro ⟨x, hx, hy⟩
      obtain rfl := List.mem_singleton.mp hx
      obtain ⟨u', e⟩ := str_of_key hy
      cases e
      exact decide_eq_true rfl
  · rcases hmk with rfl | rfl <;> rfl
  · rcases hmk with rfl | rfl <;> decide
theorem r_setA {i : Nat} {l : Addr} {u : Tok} {Q : Value → Shared → Prop} (D : Sl prog w h₀ h fs) (hA : A.handled = none) (hi : AtI fs i (l, .lst [.str (S "a") u])) (k : ∀ ms h₁ h' t, (∀ b o, h₀.get? b = some o → h₁.get? b = some o) → SetA prog w h₁ ms → Sl prog w h₁ h' fs → Q (.ref ms) ⟨h', gs, d, t, os⟩) :
   wpAny (model prog w) A (call (.type "set") [.ref l]) Q E ⟨h, gs, d, t, os⟩ := by
  obtain ⟨n, e⟩ := (D.at hi : h.PlainList l _)
  refine c_set hA e (fun a o h' t L X => ?_)
  refine (D.addLd L).out (fun h₁ e1 e2 D => ?_)
  refine k a h₁ h' t e1 ⟨?_, ?_⟩ D
  · obtain ⟨o', es, ep, tt, q, r⟩ := X.1
    rw [L.at 0 rfl] at q
    cases q
    exact ⟨_, es, ep, tt, e2, r⟩
  · obtain ⟨u, hh, ep, p, dm, fg, mv, pl, mk, q, r⟩ := X.2
    rw [L.at 0 rfl] at q
    cases q
    exact ⟨u, hh, ep, p, dm, fg, mv, pl, mk, e2, r⟩
end
end Mine
end PIS
section PIH
open PySem PySem.W PyProof.Rows PySem.Spec PySem.Calls PySem.W.X
namespace Mine
section
variable {prog : Program} {w : World} {A : Around} {h₀ h h' : Heap} {fs : List (Addr × Cl)} {gs : Array GenState} {d : Drawn} {t : Nat} {os : OsState} {E : Value → Shared → Prop} {R : Result → Shared → Prop} {env : Env}
theorem dct0_of {a : Addr} (e : h.get? a = some { cls := .type "dict", data := .dict #[] }) : h.DictOf (strKind prog w) a [] :=
  ⟨_, _, _, e, ⟨rfl, rfl, rfl⟩, rfl, fun x hx => by simp at hx, .nil, List.nodup_nil⟩
theorem Sl.dct0 {a : Addr} (D : Sl prog w h₀ h ((a, .obj { cls := .type "dict", data := .dict #[] }) :: fs)) : Sl prog w h₀ h ((a, .dct []) :: fs) :=
  ⟨D.keep, fun p hp => by
    rcases List.mem_cons.mp hp with rfl | hp
    · exact ⟨dct0_of (D.ok _ (.head _)).1, (D.ok _ (.head _)).2⟩
    · exact D.ok p (.tail _ hp), D.nd⟩
theorem r_dict0 {pos : Pos} {Q : Value → Shared → Prop} (D : Sl prog w h₀ h fs) (k : ∀ a h', Sl prog w h₀ h' ((a, .dct []) :: fs) → Q (.ref a) ⟨h', gs, d, t, os⟩) : wpAny (model prog w) A (eval (.Dict [] [] pos) env) Q E ⟨h, gs, d, t, os⟩ :=
  wpAny_Dict_empty (s := ⟨h, gs, d, t, os⟩) (k _ _ (D.push (o := { cls := .type "dict", data := .dict #[] }) (c := .obj { cls := .type "dict", data := .dict #[] }) (Heap.get?_push_size _ rfl)).dct0)
theorem normc {p : Str} {u : Tok} (hp : p = S "/x/../x/") (D : Sl prog w h₀ h fs) (G : Gd w.params hK h₀) (hroom : A.depth + 4 < recursionLimit) (hA : A.handled = none)
   (k : ∀ h' u tk, Sl prog w h₀ h' fs → R (.ok (.ret (.str (S "/x") u))) ⟨h', gs, d, tk, os⟩) :
   codeAny (model prog w) A (.call (.ref 56) ⟨[.str p u], []⟩) R ⟨h, gs, d, t, os⟩ := by
  have F := fn_56 w.params
  refine codeAny_call_function (by omega) (D.keep _ _ (G.X _ _ F.lk)) rfl rfl rfl F.body ((codeRec_of G.X F.code).keeps D.keep) ?_
  repeat ((fail_if_success (with_reducible refine wpAny_newFunctionEnv ?_ ?_ ?_ ?_)); (first
    | with_reducible refine nd_pure ?_ | with_reducible refine wpAny_bind ?_ | with_reducible refine nd_bind ?_ | with_reducible refine wpAny_pure ?_
    | ((fail_if_success (with_reducible refine' gate ?gg ?_; (case gg => with_reducible constructor))); k_node)
    | with_reducible refine nd_rule ?_ | with_reducible refine nd_point ?_ | with_reducible refine nd_ask ?_ | with_reducible refine m_fresh ?_ | with_reducible refine x_at ?_
    | with_reducible refine wpAny_holding ?_ | with_reducible refine wpAny_onRaise ?_ | with_reducible refine wpAny_tryCatch ?_
    | ((with_reducible refine' s_alloc D ?qf (fun sa h' D => ?_)); (case qf => rfl))
    | with_reducible refine ite_no (by decide +kernel) ?_ | with_reducible refine ite_yes (by decide +kernel) ?_))
  have p1 : fd56.params.posonlyargs = [] := by kernel_rfl
  have p2 : fd56.params.args = [] := by kernel_rfl
  have p3 : fd56.params.kwonlyargs = [] := by kernel_rfl
  rename_i at_ _ _
  simp only [p1, p2, p3, List.map_nil, List.append_nil, List.nil_append, List.length_nil, List.drop_zero, List.filterMap_nil] at D ⊢
  obtain ⟨ad, had⟩ : ∃ x, x = sa := ⟨_, rfl⟩
  subst had
  replace D : Sl prog w h₀ h' ((ad, .obj { cls := .type "dict", data := .dict #[] }) :: (at_, .obj (tupO [.str p u])) :: fs) := D
  refine (D.dct0.front (.s .z)).out (fun h₁ e1 e2 D => ?_)
  dsimp only [List.eraseIdx_cons_succ, List.eraseIdx_cons_zero] at D
  have G := G.keeps e1
  simp only [List.cons_append, List.nil_append]
  refine wpAny_newFunctionEnv (s := ⟨h', gs, d, t, os⟩) (fun x hx => by have := List.all_eq_true.mp F.cells x hx; simpa using this) (fun x hx => ?_) (fun h₂ hns hsb => ?_) F.kind
  · rcases List.mem_cons.mp hx with rfl | hx
    · kernel_rfl
    · obtain rfl := List.mem_singleton.mp hx
      kernel_rfl
  have D2 := D.new (c := .frm [(S "kwargs", .ref ad), (S "args", .ref at_)]) (h' := h₂) (push_none h') (fun b o e => hsb.extBut b o (Nat.ne_of_lt (Heap.lt_size e)) (Heap.get?_push_of_some _ e)) hns
  refine ⟨(G.keeps D2.keep).lim, codeAny_func ?_⟩
  repeat clear D
  clear hns hsb
  generalize h'.objs.size = L at D2 ⊢
  have D := D2
  clear D2
  show wpAny _ (A.deeper (callEnv fd56 L 56)) (execs bd56 (callEnv fd56 L 56)) _ _ _
  with_unfolding_all change wpAny _ _ (execs (_ :: _) _) _ _ _
  subst hp
  repeat' (first
  | walk_at "b W"
    | walk_at "b W2"
    | with_reducible refine r_typestr ?_
  | with_reducible refine r_istype ?_
  | with_reducible refine wpAny_Slice ?_
  | with_reducible refine wpAny_evalPart_none ?_
  | with_reducible refine wpAny_evalPart_some ?_
  | ((with_reducible refine' r_slice D ?hi ?hz (fun h' t' t D => ?_) ?hs ?ht); (case hi => walk_at "b AT"); (case hz => decide +kernel); (case hs => with_unfolding_all rfl); (case ht => intro _; with_unfolding_all rfl))
  | ((with_reducible refine' r_sliceSN D ?hi ?hz (fun h' t' t D => ?_) ?hs ?ht); (case hi => walk_at "b AT"); (case hz => decide +kernel); (case hs => with_unfolding_all rfl); (case ht => intro _; with_unfolding_all rfl))
  | ((with_reducible refine' r_sliceSS D ?hi ?hz (fun h' t' t D => ?_) ?hs ?ht); (case hi => walk_at "b AT"); (case hz => decide +kernel); (case hs => with_unfolding_all rfl); (case ht => intro _; with_unfolding_all rfl))
  | with_reducible refine ne_str ?_
  | with_reducible refine isTrue_not ?_
  | with_reducible refine wpAny_isTrue_BoolOp ?_
  | with_reducible refine wpAny_allTrue_And_cons ?_
  | with_reducible refine wpAny_allTrue_And_nil ?_
  | ((with_reducible refine' r_ltruth D ?hi ?hz ?_); (case hi => walk_at "b AT"); (case hz => exact Nat.le_of_ble_eq_true rfl))
  | ((with_reducible refine' r_struth ?hz ?_); (case hz => decide +kernel))
  | with_reducible refine ite_pos (by decide +kernel) ?_
  | with_reducible refine ite_neg (by decide +kernel) ?_
  | with_reducible refine wpAny_allTrue_Or_cons ?_
  | with_reducible refine wpAny_allTrue_Or_nil ?_
  | ((with_reducible refine' ite_pos ?hc ?_); (case hc => rfl))
  | ((with_reducible refine' ite_neg ?hc ?_); (case hc => (intro z; cases z)))
  | fail)
  have D := D.front (.s .z)
  dsimp only [List.eraseIdx_cons_succ, List.eraseIdx_cons_zero] at D
  refine cpath rfl D G (by show A.depth + 1 + 1 < _; exact dk hroom (Nat.le_of_ble_eq_true rfl)) e2 (fun h' t D => ?_)
  repeat' (first
  | walk_at "b W"
    | walk_at "b W2"
    | with_reducible refine r_typestr ?_
  | with_reducible refine r_istype ?_
  | with_reducible refine wpAny_Slice ?_
  | with_reducible refine wpAny_evalPart_none ?_
  | with_reducible refine wpAny_evalPart_some ?_
  | ((with_reducible refine' r_slice D ?hi ?hz (fun h' t' t D => ?_) ?hs ?ht); (case hi => walk_at "b AT"); (case hz => decide +kernel); (case hs => with_unfolding_all rfl); (case ht => intro _; with_unfolding_all rfl))
  | ((with_reducible refine' r_sliceSN D ?hi ?hz (fun h' t' t D => ?_) ?hs ?ht); (case hi => walk_at "b AT"); (case hz => decide +kernel); (case hs => with_unfolding_all rfl); (case ht => intro _; with_unfolding_all rfl))
  | ((with_reducible refine' r_sliceSS D ?hi ?hz (fun h' t' t D => ?_) ?hs ?ht); (case hi => walk_at "b AT"); (case hz => decide +kernel); (case hs => with_unfolding_all rfl); (case ht => intro _; with_unfolding_all rfl))
  | with_reducible refine ne_str ?_
  | with_reducible refine isTrue_not ?_
  | with_reducible refine wpAny_isTrue_BoolOp ?_
  | with_reducible refine wpAny_allTrue_And_cons ?_
  | with_reducible refine wpAny_allTrue_And_nil ?_
  | ((with_reducible refine' r_ltruth D ?hi ?hz ?_); (case hi => walk_at "b AT"); (case hz => exact Nat.le_of_ble_eq_true rfl))
  | ((with_reducible refine' r_struth ?hz ?_); (case hz => decide +kernel))
  | with_reducible refine ite_pos (by decide +kernel) ?_
  | with_reducible refine ite_neg (by decide +kernel) ?_
  | with_reducible refine wpAny_allTrue_Or_cons ?_
  | with_reducible refine wpAny_allTrue_Or_nil ?_
  | ((with_reducible refine' ite_pos ?hc ?_); (case hc => rfl))
  | ((with_reducible refine' ite_neg ?hc ?_); (case hc => (intro z; cases z)))
  | fail)
  refine normp rfl D G (by show A.depth + 1 + 1 < _; exact dk hroom (Nat.le_of_ble_eq_true rfl)) hA (fun h' u t D => ?_)
  repeat' (first
  | walk_at "b W"
    | walk_at "b W2"
    | with_reducible refine r_typestr ?_
  | with_reducible refine r_istype ?_
  | with_reducible refine wpAny_Slice ?_
  | with_reducible refine wpAny_evalPart_none ?_
  | with_reducible refine wpAny_evalPart_some ?_
  | ((with_reducible refine' r_slice D ?hi ?hz (fun h' t' t D => ?_) ?hs ?ht); (case hi => walk_at "b AT"); (case hz => decide +kernel); (case hs => with_unfolding_all rfl); (case ht => intro _; with_unfolding_all rfl))
  | ((with_reducible refine' r_sliceSN D ?hi ?hz (fun h' t' t D => ?_) ?hs ?ht); (case hi => walk_at "b AT"); (case hz => decide +kernel); (case hs => with_unfolding_all rfl); (case ht => intro _; with_unfolding_all rfl))
  | ((with_reducible refine' r_sliceSS D ?hi ?hz (fun h' t' t D => ?_) ?hs ?ht); (case hi => walk_at "b AT"); (case hz => decide +kernel); (case hs => with_unfolding_all rfl); (case ht => intro _; with_unfolding_all rfl))
  | with_reducible refine ne_str ?_
  | with_reducible refine isTrue_not ?_
  | with_reducible refine wpAny_isTrue_BoolOp ?_
  | with_reducible refine wpAny_allTrue_And_cons ?_
  | with_reducible refine wpAny_allTrue_And_nil ?_
  | ((with_reducible refine' r_ltruth D ?hi ?hz ?_); (case hi => walk_at "b AT"); (case hz => exact Nat.le_of_ble_eq_true rfl))
  | ((with_reducible refine' r_struth ?hz ?_); (case hz => decide +kernel))
  | with_reducible refine ite_pos (by decide +kernel) ?_
  | with_reducible refine ite_neg (by decide +kernel) ?_
  | with_reducible refine wpAny_allTrue_Or_cons ?_
  | with_reducible refine wpAny_allTrue_Or_nil ?_
  | ((with_reducible refine' ite_pos ?hc ?_); (case hc => rfl))
  | ((with_reducible refine' ite_neg ?hc ?_); (case hc => (intro z; cases z)))
  | fail)
  exact k _ _ _ (D.tail.tail.less e1)
end
end Mine
end PIH
section PII
open PySem PySem.W PyProof.Rows PySem.Spec PySem.Calls PySem.W.X
namespace Mine
section
variable {prog : Program} {w : World} {A : Around} {h₀ h h' : Heap} {fs : List (Addr × Cl)} {gs : Array GenState} {d : Drawn} {t : Nat} {os : OsState} {E : Value → Shared → Prop} {R : Result → Shared → Prop} {env : Env}
theorem r_iset {i j jx : Nat} {L x dx : Addr} {l : List (Str × Value)} {name : Str} {v : Value} {es : List DictEntry} {n : Nat} {Q : Unit → Shared → Prop} (D : Sl prog w h₀ h fs) (G : Gd w.params hK h₀) (hi : AtI fs i (L, .frm l)) (hj : AtI fs j (dx, .obj (dictOf es n))) (hx : AtI fs jx (x, .obj (instObj 79 dx))) (hij : i ≠ j)
   (ht : takerIn (hK w.params) 79 name = some none) (hl : (lookIn name (dictOf es n)).isSome = true) (hz : (putL name (PyData.keyHash w.params name) (.str name (t + 1)) v es).length ≤ 1000)
   (k : ∀ h', Sl prog w h₀ h' (fs.set j (dx, .obj (dictOf (putL name (PyData.keyHash w.params name) (.str name (t + 1)) v es) (putN name es n)))) → Q () ⟨h', gs, d, t + 1 + 1, os⟩) :
   wpAny (model prog w) A (setAttr (.ref x) name v) Q E ⟨h, gs, d, t, os⟩ := by
  have X := (G.keeps D.keep).X
  have I : InstAt h x (instObj 79 dx) 79 (some (dictOf es n)) := ⟨D.at hx, rfl, rfl, D.at hj⟩
  have F := D.fr hi
  have hd : h.get? dx = some (dictOf es n) := D.at hj
  have hxL : dx ≠ L := D.key hj.get hi.get (Ne.symm hij)
  have N : News noHeap L h ([] ++ (dx, dictOf es n) :: others h [L, dx]) := fun p hp => by
    rcases List.mem_cons.mp hp with rfl | hp
    · exact ⟨hd, hxL, noHeap_get _⟩
    · exact news_others (ex := [dx]) p hp
  exact set_plain (s := ⟨h, gs, d, t, os⟩) X I (by kernel_rfl) (osa_dict (s := ⟨h, gs, d, t + 1, os⟩) F N X I rfl (by kernel_rfl) ht (by kernel_rfl) hl (fun p hp => nomatch hp) (fun p hp z => (mem_others.mp hp).1 (z ▸ .tail _ (.head _))) (putName_dict ..) rfl hz fun h' F' N' => k h' (D.back hi hj hij F' N' (fun p hp => .tail _ hp) (N' (dx, _) (.head _)).1))
theorem r_dict1 {x : Str} {n : Int} {k1 k2 : Nat} {p1 p2 pos : Pos} {Q : Value → Shared → Prop} (D : Sl prog w h₀ h fs) (k : ∀ a u h' t', Sl prog w h₀ h' ((a, .dct [(x, .int n u)]) :: fs) → Q (.ref a) ⟨h', gs, d, t', os⟩) :
   wpAny (model prog w) A (eval (.Dict [some (.Constant (.str x) k1 p1)] [.Constant (.int n) k2 p2] pos) env) Q E ⟨h, gs, d, t, os⟩ := by
  refine wpAny_Dict_walk (s := ⟨h, gs, d, t, os⟩) (knd := strKind prog w) rfl rfl (by simp) (by simp) ?_
  show wpAny _ _ (evalPairs [(eval _ env, do let x ← eval _ env; standAt pos; pure x)]) _ _ _
  unfold evalPairs
  refine wpAny_bind (r_str ?_)
  refine wpAny_bind (wpAny_holding ?_)
  refine wpAny_bind (r_int (wpAny_bind (wpAny_standAt (wpAny_pure ?_))))
  refine wpAny_bind (wpAny_holding ?_)
  unfold evalPairs
  refine wpAny_pure (wpAny_pure ?_)
  refine ⟨[(x, .int n (t + 1))], ⟨strKind_is prog w x t, rfl, trivial⟩, dct0_of (Heap.get?_push_size _ rfl), fun h' hd hs => ?_⟩
  have D := D.push (o := { cls := .type "dict", data := .dict #[] }) (c := .obj { cls := .type "dict", data := .dict #[] }) (Heap.get?_push_size _ rfl)
  exact k _ _ _ _ (D.turn .z hs.extBut hd)
theorem r_btruth {l : Addr} {vs : List Value} {Q : Bool → Shared → Prop} (D : Sl prog w h₀ h fs) (hl : h₀.IsList l vs.toArray) (hz : vs.length ≤ 1000) (k : Q (!vs.isEmpty) ⟨h, gs, d, t + 1 + 1, os⟩) : wpAny (model prog w) A (truthy (.ref l)) Q E ⟨h, gs, d, t, os⟩ :=
  wpAny_truthy_list (s := ⟨h, gs, d, t, os⟩) (IsList.kp hl D.keep) (by rw [List.size_toArray]; omega) (by rw [List.isEmpty_toArray]; exact k)
end
end Mine
end PII
section PIN
open PySem PySem.W PyProof.Rows PySem.Spec PySem.Calls PySem.W.X
namespace Mine
section
variable {prog : Program} {w : World} {A : Around} {h₀ h h' : Heap} {fs : List (Addr × Cl)} {gs : Array GenState} {d : Drawn} {t : Nat} {os : OsState} {E : Value → Shared → Prop} {R : Result → Shared → Prop} {env : Env}
theorem dirsC {iter : Expr} {p1 p2 p3 p4 pos : Pos} {more : List (Str × Const)} {I l Lf : Addr} {ub : Tok} {Q : Value → Shared → Prop} (D : Sl prog w h₀ h ((I, .itr l 0) :: fs)) (G : Gd w.params hK h₀) (hroom : A.depth + 5 < recursionLimit) (hA : A.handled = none) (hl : h₀.IsList l [Value.str (S "/x/../x/") ub].toArray)
   (k : ∀ acc u h' t, Sl prog w h₀ h' ((acc, .lst [.str (S "/x") u]) :: fs) → Q (.ref acc) ⟨h', gs, d, t, os⟩) :
   LcNext prog w A (callEnv fd69 Lf 69) E (.ListComp (.Call (.Name (Str.ofString "normpath") p1) [.Name (Str.ofString "d") p2] [] p3) [⟨.Name (Str.ofString "d") p4, iter, [], 0⟩] ⟨.function, [(Str.ofString ".0", .local), (Str.ofString "d", .local), (Str.ofString "normpath", .globalImplicit)], false, false, more⟩ pos)
     ⟨.function, [(Str.ofString ".0", .local), (Str.ofString "d", .local), (Str.ofString "normpath", .globalImplicit)], false, false, more⟩ [] none Q (.ref I) ⟨h, gs, d, t, os⟩ := by
  refine r_lcI (fun c hb fs' ys => ∃ i, c + i = 1 ∧ hb = h₀ ∧ fs' = (I, .itr l i) :: fs ∧ StrsAre ys ([S "/x"].take i)) (fun hb fs' ys => hb = h₀ ∧ fs' = fs ∧ StrsAre ys [S "/x"]) 1 D ⟨0, rfl, rfl, rfl, .nil⟩ (by kernel_rfl) (by kernel_rfl) ?_ ?_ ?_ ?_
  · rintro c _ _ ys ⟨i, hn, rfl, rfl, hs⟩
    have : i = 0 ∨ i = 1 := by omega
    rcases this with rfl | rfl
    · rw [lst0 hs]; decide
    · obtain ⟨u, rfl⟩ := lst1 hs; exact Nat.le_of_ble_eq_true rfl
  · intro E' Q' h t C acc D q
    exact wpAny_pyIter_listiter (s := ⟨h, gs, d, t, os⟩) (D.at (.s (.s .z))) q
  · rintro En c _ h _ t lf ys C acc ⟨i, hn, rfl, rfl, hs⟩ D
    refine n_itr D hA (.s (.s .z)) (IsList.kp hl D.keep) (fun v h' e D => ?_) (fun h' e s => ?_)
    · have hi : i < 1 := (List.getElem?_eq_some_iff.mp e).1
      obtain rfl : i = 0 := by omega
      obtain rfl : Value.str (S "/x/../x/") ub = v := Option.some.inj e
      obtain rfl := lst0 hs
      dsimp only [List.set_cons_zero, List.set_cons_succ] at D ⊢
      repeat' (first
  | walk_at "b W"
        | walk_at "b W2"
  | walk_at "b NC"
      | fail)
      refine normc rfl D G (by show A.depth + 4 < _; exact d0 hroom (Nat.le_of_ble_eq_true rfl)) hA (fun h' u t D => ?_)
      repeat' (first
  | walk_at "b W"
        | walk_at "b W2"
  | walk_at "b NC"
      | fail)
      exact ⟨0, _, _, _, _, _, by omega, rfl, ⟨1, rfl, rfl, rfl, .cons _ _ .nil⟩, D⟩
    · have hi : 1 ≤ i := List.getElem?_eq_none_iff.mp e
      obtain rfl : i = 1 := s_end hn hi
      exact ⟨_, h', _, t, rfl, ⟨rfl, rfl, hs⟩, (D.front (.s (.s .z))).drop s⟩
  · rintro _ h _ t lf acc C _ ⟨rfl, rfl, hs⟩ D
    obtain ⟨u, rfl⟩ := lst1 hs
    exact fin_none D fun h' D => k acc u h' t D
theorem mkrd {la lb : Addr} {ua ub : Tok} (D : Sl prog w h₀ h ((lb, .lst [.str (S "/x/../x/") ub]) :: (la, .lst [.str (S "a") ua]) :: fs)) (G : Gd w.params hK h₀) (hroom : A.depth + 8 < recursionLimit) (hA : A.handled = none)
   (k : ∀ x ig u h₁ h' tk, (∀ b o, h₀.get? b = some o → h₁.get? b = some o) → RdAt prog w h₁ x ig → Sl prog w h₁ h' ((ig, .dct [(S "<string>", .int 1 u)]) :: fs) → R (.ok (.ret (.ref x))) ⟨h', gs, d, tk, os⟩) :
   codeAny (model prog w) A (.call (.ref 79) ⟨[.ref la, .ref lb], []⟩) R ⟨h, gs, d, t, os⟩ := by
  refine D.out (fun h₁ e1 hlb D => ?_)
  replace hlb : h₁.PlainList lb [.str (S "/x/../x/") ub].toArray := hlb
  have G := G.keeps e1
  have X := (G.keeps D.keep).X
  refine make_core (makes_of X (by kernel_rfl)) (looks_findIn (r := some (.ref 69)) X (by kernel_rfl)) (fun self => bind_fn X self (by kernel_rfl)) (.inl rfl) ?_
  have D2 := (D.push (o := emptyDict) (c := .obj (dictOf [] 0)) (Heap.get?_push_size _ rfl)).push (o := instObj 79 h.objs.size) (c := .obj (instObj 79 h.objs.size)) (Heap.get?_push_size _ rfl)
  clear X
  repeat clear D
  rw [Heap.size_push] at D2
  generalize h.objs.size = n at D2 ⊢
  generalize (h.push emptyDict).push (instObj 79 n) = h1 at D2 ⊢
  have D := D2
  clear D2
  refine r_callB [(Str.ofString "self", .ref (n + 1)), (Str.ofString "modules", .ref la), (Str.ofString "dirs", .ref lb)] [(Str.ofString "dirs", .ref lb), (Str.ofString "modules", .ref la), (Str.ofString "self", .ref (n + 1))] 3 D G (fn_69 w.params) (by show A.depth + 1 < _; exact d0 hroom (Nat.le_of_ble_eq_true rfl)) (binds_K (o := tupO [.none, .none]) (G.keeps D.keep).X rfl (by kernel_rfl) rfl rfl rfl) ⟨rfl, rfl⟩ (by kernel_rfl) (fun L h' D => ?_)
  with_unfolding_all change wpAny _ _ (execs (_ :: _) _) _ _ _
  repeat' (first
  | walk_at "b W"
    | walk_at "b W2"
    | with_reducible refine r_typestr ?_
  | with_reducible refine r_istype ?_
  | with_reducible refine wpAny_Slice ?_
  | with_reducible refine wpAny_evalPart_none ?_
  | with_reducible refine wpAny_evalPart_some ?_
  | ((with_reducible refine' r_slice D ?hi ?hz (fun h' t' t D => ?_) ?hs ?ht); (case hi => walk_at "b AT"); (case hz => decide +kernel); (case hs => with_unfolding_all rfl); (case ht => intro _; with_unfolding_all rfl))
  | ((with_reducible refine' r_sliceSN D ?hi ?hz (fun h' t' t D => ?_) ?hs ?ht); (case hi => walk_at "b AT"); (case hz => decide +kernel); (case hs => with_unfolding_all rfl); (case ht => intro _; with_unfolding_all rfl))
  | ((with_reducible refine' r_sliceSS D ?hi ?hz (fun h' t' t D => ?_) ?hs ?ht); (case hi => walk_at "b AT"); (case hz => decide +kernel); (case hs => with_unfolding_all rfl); (case ht => intro _; with_unfolding_all rfl))
  | with_reducible refine ne_str ?_
  | with_reducible refine isTrue_not ?_
  | with_reducible refine wpAny_isTrue_BoolOp ?_
  | with_reducible refine wpAny_allTrue_And_cons ?_
  | with_reducible refine wpAny_allTrue_And_nil ?_
  | ((with_reducible refine' r_ltruth D ?hi ?hz ?_); (case hi => walk_at "b AT"); (case hz => exact Nat.le_of_ble_eq_true rfl))
  | ((with_reducible refine' r_struth ?hz ?_); (case hz => decide +kernel))
  | with_reducible refine ite_pos (by decide +kernel) ?_
  | with_reducible refine ite_neg (by decide +kernel) ?_
  | with_reducible refine wpAny_allTrue_Or_cons ?_
  | with_reducible refine wpAny_allTrue_Or_nil ?_
  | ((with_reducible refine' ite_pos ?hc ?_); (case hc => rfl))
  | ((with_reducible refine' ite_neg ?hc ?_); (case hc => (intro z; cases z)))
  | ((with_reducible refine' plainObj_wpAny_Assign_Attribute ?_ ?qq); (case qq => rfl))
  | ((with_reducible refine' r_iset D G ?hi ?hj ?hx ?hij ?ht ?hl ?hz (fun h' D => ?_)); (case hi => walk_at "b AT"); (case hj => walk_at "b AT"); (case hx => walk_at "b AT"); (case hij => decide); (case ht => kernel_rfl); (case hl => kernel_rfl); (case hz => exact Nat.le_of_ble_eq_true (by kernel_rfl)); dsimp only [List.set_cons_zero, List.set_cons_succ] at D)
  | fail)
  refine r_setA D hA (by walk_at "b AT") (fun ms h₂ h' t e2 SA D => ?_)
  have G := G.keeps e2
  have hlb := IsList.kp (Heap.PlainList.isList hlb) e2
  repeat' (first | with_reducible refine r_dict1 D (fun ig ui h' t D => ?_) | (first
  | walk_at "b W"
    | walk_at "b W2"
  | walk_at "b NC"
    | with_reducible refine r_typestr ?_
  | with_reducible refine r_istype ?_
  | with_reducible refine wpAny_Slice ?_
  | with_reducible refine wpAny_evalPart_none ?_
  | with_reducible refine wpAny_evalPart_some ?_
  | ((with_reducible refine' r_slice D ?hi ?hz (fun h' t' t D => ?_) ?hs ?ht); (case hi => walk_at "b AT"); (case hz => decide +kernel); (case hs => with_unfolding_all rfl); (case ht => intro _; with_unfolding_all rfl))
  | ((with_reducible refine' r_sliceSN D ?hi ?hz (fun h' t' t D => ?_) ?hs ?ht); (case hi => walk_at "b AT"); (case hz => decide +kernel); (case hs => with_unfolding_all rfl); (case ht => intro _; with_unfolding_all rfl))
  | ((with_reducible refine' r_sliceSS D ?hi ?hz (fun h' t' t D => ?_) ?hs ?ht); (case hi => walk_at "b AT"); (case hz => decide +kernel); (case hs => with_unfolding_all rfl); (case ht => intro _; with_unfolding_all rfl))
  | with_reducible refine ne_str ?_
  | with_reducible refine isTrue_not ?_
  | with_reducible refine wpAny_isTrue_BoolOp ?_
  | with_reducible refine wpAny_allTrue_And_cons ?_
  | with_reducible refine wpAny_allTrue_And_nil ?_
  | ((with_reducible refine' r_ltruth D ?hi ?hz ?_); (case hi => walk_at "b AT"); (case hz => exact Nat.le_of_ble_eq_true rfl))
  | ((with_reducible refine' r_struth ?hz ?_); (case hz => decide +kernel))
  | with_reducible refine ite_pos (by decide +kernel) ?_
  | with_reducible refine ite_neg (by decide +kernel) ?_
  | with_reducible refine wpAny_allTrue_Or_cons ?_
  | with_reducible refine wpAny_allTrue_Or_nil ?_
  | ((with_reducible refine' ite_pos ?hc ?_); (case hc => rfl))
  | ((with_reducible refine' ite_neg ?hc ?_); (case hc => (intro z; cases z)))
  | ((with_reducible refine' plainObj_wpAny_Assign_Attribute ?_ ?qq); (case qq => rfl))
  | ((with_reducible refine' r_iset D G ?hi ?hj ?hx ?hij ?ht ?hl ?hz (fun h' D => ?_)); (case hi => walk_at "b AT"); (case hj => walk_at "b AT"); (case hx => walk_at "b AT"); (case hij => decide); (case ht => kernel_rfl); (case hl => kernel_rfl); (case hz => exact Nat.le_of_ble_eq_true (by kernel_rfl)); dsimp only [List.set_cons_zero, List.set_cons_succ] at D)
  | fail))
  refine r_btruth D hlb (Nat.le_of_ble_eq_true rfl) ?_
  repeat' (first | with_reducible refine r_dict1 D (fun ig ui h' t D => ?_) | (first
  | walk_at "b W"
    | walk_at "b W2"
  | walk_at "b NC"
    | with_reducible refine r_typestr ?_
  | with_reducible refine r_istype ?_
  | with_reducible refine wpAny_Slice ?_
  | with_reducible refine wpAny_evalPart_none ?_
  | with_reducible refine wpAny_evalPart_some ?_
  | ((with_reducible refine' r_slice D ?hi ?hz (fun h' t' t D => ?_) ?hs ?ht); (case hi => walk_at "b AT"); (case hz => decide +kernel); (case hs => with_unfolding_all rfl); (case ht => intro _; with_unfolding_all rfl))
  | ((with_reducible refine' r_sliceSN D ?hi ?hz (fun h' t' t D => ?_) ?hs ?ht); (case hi => walk_at "b AT"); (case hz => decide +kernel); (case hs => with_unfolding_all rfl); (case ht => intro _; with_unfolding_all rfl))
  | ((with_reducible refine' r_sliceSS D ?hi ?hz (fun h' t' t D => ?_) ?hs ?ht); (case hi => walk_at "b AT"); (case hz => decide +kernel); (case hs => with_unfolding_all rfl); (case ht => intro _; with_unfolding_all rfl))
  | with_reducible refine ne_str ?_
  | with_reducible refine isTrue_not ?_
  | with_reducible refine wpAny_isTrue_BoolOp ?_
  | with_reducible refine wpAny_allTrue_And_cons ?_
  | with_reducible refine wpAny_allTrue_And_nil ?_
  | ((with_reducible refine' r_ltruth D ?hi ?hz ?_); (case hi => walk_at "b AT"); (case hz => exact Nat.le_of_ble_eq_true rfl))
  | ((with_reducible refine' r_struth ?hz ?_); (case hz => decide +kernel))
  | with_reducible refine ite_pos (by decide +kernel) ?_
  | with_reducible refine ite_neg (by decide +kernel) ?_
  | with_reducible refine wpAny_allTrue_Or_cons ?_
  | with_reducible refine wpAny_allTrue_Or_nil ?_
  | ((with_reducible refine' ite_pos ?hc ?_); (case hc => rfl))
  | ((with_reducible refine' ite_neg ?hc ?_); (case hc => (intro z; cases z)))
  | ((with_reducible refine' plainObj_wpAny_Assign_Attribute ?_ ?qq); (case qq => rfl))
  | ((with_reducible refine' r_iset D G ?hi ?hj ?hx ?hij ?ht ?hl ?hz (fun h' D => ?_)); (case hi => walk_at "b AT"); (case hj => walk_at "b AT"); (case hx => walk_at "b AT"); (case hij => decide); (case ht => kernel_rfl); (case hl => kernel_rfl); (case hz => exact Nat.le_of_ble_eq_true (by kernel_rfl)); dsimp only [List.set_cons_zero, List.set_cons_succ] at D)
  | fail))
  refine r_lc (cl := []) (by kernel_rfl) (by kernel_rfl) (by kernel_rfl) ?_ (fun _ => rfl)
  repeat' (first | with_reducible refine r_dict1 D (fun ig ui h' t D => ?_) | (first
  | walk_at "b W"
    | walk_at "b W2"
  | walk_at "b NC"
    | with_reducible refine r_typestr ?_
  | with_reducible refine r_istype ?_
  | with_reducible refine wpAny_Slice ?_
  | with_reducible refine wpAny_evalPart_none ?_
  | with_reducible refine wpAny_evalPart_some ?_
  | ((with_reducible refine' r_slice D ?hi ?hz (fun h' t' t D => ?_) ?hs ?ht); (case hi => walk_at "b AT"); (case hz => decide +kernel); (case hs => with_unfolding_all rfl); (case ht => intro _; with_unfolding_all rfl))
  | ((with_reducible refine' r_sliceSN D ?hi ?hz (fun h' t' t D => ?_) ?hs ?ht); (case hi => walk_at "b AT"); (case hz => decide +kernel); (case hs => with_unfolding_all rfl); (case ht => intro _; with_unfolding_all rfl))
  | ((with_reducible refine' r_sliceSS D ?hi ?hz (fun h' t' t D => ?_) ?hs ?ht); (case hi => walk_at "b AT"); (case hz => decide +kernel); (case hs => with_unfolding_all rfl); (case ht => intro _; with_unfolding_all rfl))
  | with_reducible refine ne_str ?_
  | with_reducible refine isTrue_not ?_
  | with_reducible refine wpAny_isTrue_BoolOp ?_
  | with_reducible refine wpAny_allTrue_And_cons ?_
  | with_reducible refine wpAny_allTrue_And_nil ?_
  | ((with_reducible refine' r_ltruth D ?hi ?hz ?_); (case hi => walk_at "b AT"); (case hz => exact Nat.le_of_ble_eq_true rfl))
  | ((with_reducible refine' r_struth ?hz ?_); (case hz => decide +kernel))
  | with_reducible refine ite_pos (by decide +kernel) ?_
  | with_reducible refine ite_neg (by decide +kernel) ?_
  | with_reducible refine wpAny_allTrue_Or_cons ?_
  | with_reducible refine wpAny_allTrue_Or_nil ?_
  | ((with_reducible refine' ite_pos ?hc ?_); (case hc => rfl))
  | ((with_reducible refine' ite_neg ?hc ?_); (case hc => (intro z; cases z)))
  | ((with_reducible refine' plainObj_wpAny_Assign_Attribute ?_ ?qq); (case qq => rfl))
  | ((with_reducible refine' r_iset D G ?hi ?hj ?hx ?hij ?ht ?hl ?hz (fun h' D => ?_)); (case hi => walk_at "b AT"); (case hj => walk_at "b AT"); (case hx => walk_at "b AT"); (case hij => decide); (case ht => kernel_rfl); (case hl => kernel_rfl); (case hz => exact Nat.le_of_ble_eq_true (by kernel_rfl)); dsimp only [List.set_cons_zero, List.set_cons_succ] at D)
  | fail))
  refine i_list D hlb (fun I h' D => ?_)
  refine dirsC D G (by show A.depth + 1 + 1 + 5 < _; exact dk2 hroom (Nat.le_of_ble_eq_true rfl)) hA hlb (fun acc ud h' t D => ?_)
  repeat' (first | with_reducible refine r_dict1 D (fun ig ui h' t D => ?_) | (first
  | walk_at "b W"
    | walk_at "b W2"
  | walk_at "b NC"
    | with_reducible refine r_typestr ?_
  | with_reducible refine r_istype ?_
  | with_reducible refine wpAny_Slice ?_
  | with_reducible refine wpAny_evalPart_none ?_
  | with_reducible refine wpAny_evalPart_some ?_
  | ((with_reducible refine' r_slice D ?hi ?hz (fun h' t' t D => ?_) ?hs ?ht); (case hi => walk_at "b AT"); (case hz => decide +kernel); (case hs => with_unfolding_all rfl); (case ht => intro _; with_unfolding_all rfl))
  | ((with_reducible refine' r_sliceSN D ?hi ?hz (fun h' t' t D => ?_) ?hs ?ht); (case hi => walk_at "b AT"); (case hz => decide +kernel); (case hs => with_unfolding_all rfl); (case ht => intro _; with_unfolding_all rfl))
  | ((with_reducible refine' r_sliceSS D ?hi ?hz (fun h' t' t D => ?_) ?hs ?ht); (case hi => walk_at "b AT"); (case hz => decide +kernel); (case hs => with_unfolding_all rfl); (case ht => intro _; with_unfolding_all rfl))
  | with_reducible refine ne_str ?_
  | with_reducible refine isTrue_not ?_
  | with_reducible refine wpAny_isTrue_BoolOp ?_
  | with_reducible refine wpAny_allTrue_And_cons ?_
  | with_reducible refine wpAny_allTrue_And_nil ?_
  | ((with_reducible refine' r_ltruth D ?hi ?hz ?_); (case hi => walk_at "b AT"); (case hz => exact Nat.le_of_ble_eq_true rfl))
  | ((with_reducible refine' r_struth ?hz ?_); (case hz => decide +kernel))
  | with_reducible refine ite_pos (by decide +kernel) ?_
  | with_reducible refine ite_neg (by decide +kernel) ?_
  | with_reducible refine wpAny_allTrue_Or_cons ?_
  | with_reducible refine wpAny_allTrue_Or_nil ?_
  | ((with_reducible refine' ite_pos ?hc ?_); (case hc => rfl))
  | ((with_reducible refine' ite_neg ?hc ?_); (case hc => (intro z; cases z)))
  | ((with_reducible refine' plainObj_wpAny_Assign_Attribute ?_ ?qq); (case qq => rfl))
  | ((with_reducible refine' r_iset D G ?hi ?hj ?hx ?hij ?ht ?hl ?hz (fun h' D => ?_)); (case hi => walk_at "b AT"); (case hj => walk_at "b AT"); (case hx => walk_at "b AT"); (case hij => decide); (case ht => kernel_rfl); (case hl => kernel_rfl); (case hz => exact Nat.le_of_ble_eq_true (by kernel_rfl)); dsimp only [List.set_cons_zero, List.set_cons_succ] at D)
  | fail))
  refine And.intro rfl ?_
  have D := D.front (.s .z)
  dsimp only [List.eraseIdx_cons_succ, List.eraseIdx_cons_zero] at D
  refine D.out (fun h₃ e3 f3 D => ?_)
  have D := D.front (.s (.s .z))
  dsimp only [List.eraseIdx_cons_succ, List.eraseIdx_cons_zero] at D
  refine D.out (fun h₄ e4 f4 D => ?_)
  have D := D.front (.s (.s .z))
  dsimp only [List.eraseIdx_cons_succ, List.eraseIdx_cons_zero] at D
  refine D.out (fun h₅ e5 f5 D => ?_)
  have D := D.sub (List.Sublist.cons_cons _ ((List.sublist_cons_self ..).trans (List.sublist_cons_self ..)))
  have up : ∀ b o, h₂.get? b = some o → h₅.get? b = some o := fun b o e => e5 _ _ (e4 _ _ (e3 _ _ e))
  exact k _ _ _ h₅ _ _ (fun b o e => up _ _ (e2 _ _ (e1 _ _ e))) ⟨n, _, ms, acc, ud, e5 _ _ f4, f5, by kernel_rfl, by kernel_rfl, by kernel_rfl, by kernel_rfl, SA.up up, IsList.kp (IsList.kp (Heap.PlainList.isList f3) e4) e5⟩ D
end
end Mine
end PIN
section PMP
namespace Mine
noncomputable abbrev mapO (T : Addr) (f : Value) : Obj := { cls := .type "map", data := .fields #[.ref T, f] }
theorem map_mro : mroOf (.type "map") = pure [.type "map", .type "object"] := by rw [mroOf_type]; kernel_rfl
theorem map_new : typeLookup (.type "map") "__new__" = pure (some (.builtin "map.__new__")) := by rw [typeLookup_type, builtinLookup_eq_fast]; kernel_rfl
theorem map_slot_init : Slot "map" "__init__" "object.__init__" := .of (owner := "object") (n := "__init__") (by rw [typeLookup_type, builtinLookup_eq_fast]; kernel_rfl) (by decide +kernel) (by decide +kernel) (by decide +kernel)
    (by first | exact .inl (by decide +kernel) | exact .inr (by decide +kernel)) (by rw [isSubtype_type]; kernel_rfl)
theorem map_slot_iter : Slot "map" "__iter__" "map.__iter__" := .of (owner := "map") (n := "__iter__") (by rw [typeLookup_type, builtinLookup_eq_fast]; kernel_rfl) (by decide +kernel) (by decide +kernel) (by decide +kernel)
    (by first | exact .inl (by decide +kernel) | exact .inr (by decide +kernel)) (by rw [isSubtype_type]; kernel_rfl)
theorem map_slot_next : Slot "map" "__next__" "map.__next__" := .of (owner := "map") (n := "__next__") (by rw [typeLookup_type, builtinLookup_eq_fast]; kernel_rfl) (by decide +kernel) (by decide +kernel) (by decide +kernel)
    (by first | exact .inl (by decide +kernel) | exact .inr (by decide +kernel)) (by rw [isSubtype_type]; kernel_rfl)
theorem map_called : TypeCalled "map" "map.__new__" "object.__init__" :=
  ⟨by decide +kernel, by decide +kernel, ⟨_, _, map_mro⟩, madeBy_type map_mro map_new (by decide +kernel), by decide +kernel, by rw [isSubtype_type]; kernel_rfl, map_slot_init⟩
theorem map_typeCall (a b : Value) : checkTypeCall "map" ⟨[a, b], []⟩ = pure () := by kernel_rfl
theorem map_newCall (a b : Value) : checkBuiltinCall "map.__new__" ⟨[.type "map", a, b], []⟩ = pure () := by kernel_rfl
theorem map_entry_new : entryFor table "map.__new__" = some Builtin.«map.__new__» := entryFor_of_tree (by kernel_rfl)
theorem map_entry_next : entryFor table "map.__next__" = some Builtin.«map.__next__» := entryFor_of_tree (by kernel_rfl)
theorem map_entry_iter : entryFor table "map.__iter__" = some Builtin.«dict_keyiterator.__iter__» := entryFor_alias (id' := "dict_keyiterator.__iter__") (by rw [fastTable_eq_tree]; kernel_rfl) (by decide +kernel) (by decide +kernel) (by rw [fastTable_eq_tree]; kernel_rfl)
theorem map_args_iter (a : Value) : argsOk "map.__iter__" ⟨[a], []⟩ := by unfold argsOk; kernel_rfl
theorem map_args_next (a : Value) : argsOk "map.__next__" ⟨[a], []⟩ := by unfold argsOk; kernel_rfl
theorem map_sub : isSubtype (.type "map") (.type "map") = pure true := by rw [isSubtype_type]; kernel_rfl
theorem map_no_len : typeLookup (.type "map") "__len__" = pure none := by rw [typeLookup_type, builtinLookup_eq_fast]; kernel_rfl
theorem map_no_hint : typeLookup (.type "map") "__length_hint__" = pure none := by rw [typeLookup_type, builtinLookup_eq_fast]; kernel_rfl
noncomputable def mapH1 (h : Heap) (l : Addr) : Heap := h.push { cls := .type "list_iterator", data := .fields #[.ref l, .int 0 0] }
noncomputable def mapH2 (h : Heap) (l : Addr) : Heap := (mapH1 h l).push { cls := .type "tuple", data := .seq #[.ref h.objs.size] }
noncomputable def mapH3 (h : Heap) (l : Addr) (f : Value) : Heap := (mapH2 h l).push (mapO (mapH1 h l).objs.size f)
theorem map_meets (f : Value) (l : Addr) (xs : Array Value) :
    Meets (Builtin.«map.__new__» ⟨[.type "map", f, .ref l], []⟩) (fun _ R s => s.heap.IsList l xs ∧ R (.ok (.ret (.ref (mapH2 s.heap l).objs.size))) { s with heap := mapH3 s.heap l f }) :=
  .of_wp fun prog w A R s h => by
    obtain ⟨hp, g, d, tk, os⟩ := s
    obtain ⟨hl1, h⟩ := h
    have hsub := map_sub
    have hL1 : Heap.IsList (Shared.heap ⟨hp, g, d, tk, os⟩) l xs := hl1
    wp_walk using wpAny_pyIter_list hL1
    exact ⟨_, rfl, h⟩
section
variable {prog : Program} {w : World} {A : Around} {h₀ h h' : Heap} {fs : List (Addr × Cl)} {gs : Array GenState} {d : Drawn} {t : Nat} {os : OsState} {E : Value → Shared → Prop} {R : Result → Shared → Prop} {env : Env}
theorem r_map {f : Value} {l : Addr} {vs : List Value} {Q : Value → Shared → Prop} (D : Sl prog w h₀ h fs) (hl : h₀.IsList l vs.toArray)
   (k : ∀ m T I h', Sl prog w h₀ h' ((m, .obj (mapO T f)) :: (T, .obj (tupO [.ref I])) :: (I, .itr l 0) :: fs) → Q (.ref m) ⟨h', gs, d, t, os⟩) : wpAny (model prog w) A (call (.type "map") [f, .ref l]) Q E ⟨h, gs, d, t, os⟩ := by
  refine callType_new (s := ⟨h, gs, d, t, os⟩) map_called (by decide) (map_typeCall _ _) (map_newCall _ _) (fun obj => PySem.F.args_object_init_3 obj _ _) map_entry_new (map_meets f l vs.toArray) ⟨IsList.kp hl D.keep, ?_⟩
  have D1 := D.push (o := { cls := .type "list_iterator", data := .fields #[.ref l, .int 0 0] }) (c := .itr l 0) ⟨_, Heap.get?_push_size _ rfl, rfl, rfl⟩
  have D2 := D1.push (o := tupO [.ref h.objs.size]) (c := .obj (tupO [.ref h.objs.size])) (Heap.get?_push_size _ rfl)
  have D3 := D2.push (o := mapO (mapH1 h l).objs.size f) (c := .obj (mapO (mapH1 h l).objs.size f)) (Heap.get?_push_size _ rfl)
  exact ⟨⟨_, D3.at .z, rfl⟩, k _ _ _ _ D3⟩
end
end Mine
end PMP
section PMQ
namespace Mine
section
variable {prog : Program} {w : World} {A : Around} {h₀ h h' : Heap} {fs : List (Addr × Cl)} {gs : Array GenState} {d : Drawn} {t : Nat} {os : OsState} {E : Value → Shared → Prop} {R : Result → Shared → Prop} {env : Env}
theorem n_map {m T I l : Addr} {f : Value} {vs : List Value} {x : Value} {k i : Nat} {Q : Option Value → Shared → Prop} (D : Sl prog w h₀ h fs) (hm : h₀.get? m = some (mapO T f)) (hT : h₀.get? T = some (tupO [.ref I])) (hi : AtI fs i (I, .itr l k)) (hl : h₀.IsList l vs.toArray) (hx : vs[k]? = some x)
   (q : ∀ E' h', Sl prog w h₀ h' (fs.set i (I, .itr l (k + 1))) → wpAny (model prog w) A.in1 (call f [x]) (fun v s => Q (some v) s) E' ⟨h', gs, d, t, os⟩) : wpAny (model prog w) A (pyNext (.ref m)) Q E ⟨h, gs, d, t, os⟩ := by
  have hmh := D.keep _ _ hm
  have hTh := D.keep _ _ hT
  have hTT : Shared.TypeIs ⟨h, gs, d, t, os⟩ (.ref m) "map" := ⟨_, hmh, rfl⟩
  unfold pyNext
  refine wpAny_bind (wpAny_attempt (wpAny_callSpecial?_slot (name := Str.ofString "__next__") hTT map_slot_next (wpAny_call_entry map_slot_next hTT map_entry_next ?_ (map_args_next _))))
  show wpAny _ _ (field (.ref m) 0 >>= _) _ _ _
  refine wpAny_bind (wpAny_field hmh rfl (x := .ref T) rfl ?_)
  refine wpAny_bind (wpAny_seqItems hTh rfl ?_)
  dsimp only
  rw [← Array.forIn_toList]
  simp only [List.forIn_cons, List.forIn_nil]
  refine wpAny_bind (wpAny_bind (wpAny_bind (wpAny_holding ?_)))
  refine wpAny_nextOf_list_item (s := ⟨h, gs, d, t, os⟩) (D.at hi) (IsList.kp hl D.keep) (by simpa using hx) fun h' hit hs => ?_
  have D := D.turn (c' := .itr l (k + 1)) hi hs.extBut hit
  refine wpAny_pure (wpAny_pure (wpAny_bind (wpAny_field (D.keep _ _ hm) rfl (x := f) rfl ?_)))
  refine wpAny_bind (wpAny_holding (wpAny_mono (q _ h' D) (fun v s z => ?_) fun _ _ z => z))
  exact wpAny_bind (wpAny_letGo (wpAny_pure ⟨_, rfl, wpAny_pure z⟩))
theorem n_mapE {m T I l : Addr} {f : Value} {vs : List Value} {k i : Nat} {Q : Option Value → Shared → Prop} (D : Sl prog w h₀ h fs) (hA : A.handled = none) (hm : h₀.get? m = some (mapO T f)) (hT : h₀.get? T = some (tupO [.ref I])) (hi : AtI fs i (I, .itr l k)) (hl : h₀.IsList l vs.toArray) (hx : vs[k]? = none)
   (q : ∀ h', Heap.ExtBut I h h' → Q none ⟨h', gs, d, t, os⟩) : wpAny (model prog w) A (pyNext (.ref m)) Q E ⟨h, gs, d, t, os⟩ := by
  have hmh := D.keep _ _ hm
  have hTh := D.keep _ _ hT
  have hTT : Shared.TypeIs ⟨h, gs, d, t, os⟩ (.ref m) "map" := ⟨_, hmh, rfl⟩
  unfold pyNext
  refine wpAny_bind (wpAny_attempt (wpAny_callSpecial?_slot (name := Str.ofString "__next__") hTT map_slot_next (wpAny_call_entry map_slot_next hTT map_entry_next ?_ (map_args_next _))))
  show wpAny _ _ (field (.ref m) 0 >>= _) _ _ _
  refine wpAny_bind (wpAny_field hmh rfl (x := .ref T) rfl ?_)
  refine wpAny_bind (wpAny_seqItems hTh rfl ?_)
  dsimp only
  rw [← Array.forIn_toList]
  simp only [List.forIn_cons, List.forIn_nil]
  refine wpAny_bind (wpAny_bind (wpAny_bind (wpAny_holding ?_)))
  refine wpAny_nextOf_list_end (s := ⟨h, gs, d, t, os⟩) hA (D.at hi) (IsList.kp hl D.keep) (by simpa using hx) fun h' e he hc => ?_
  obtain ⟨o, ho, hc⟩ := hc
  refine wpAny_bind (wpAny_isInstance (T := "StopIteration") (b := true) ⟨o, ho, hc⟩ isSubtype_stop ?_)
  exact wpAny_pure (q h' he)
theorem i_map {m T : Addr} {f : Value} {Q : Value → Shared → Prop} (D : Sl prog w h₀ h fs) (hm : h₀.get? m = some (mapO T f)) (k : Q (.ref m) ⟨h, gs, d, t, os⟩) : wpAny (model prog w) A (pyIter (.ref m)) Q E ⟨h, gs, d, t, os⟩ := by
  have hTT : Shared.TypeIs ⟨h, gs, d, t, os⟩ (.ref m) "map" := ⟨_, D.keep _ _ hm, rfl⟩
  refine wpAny_pyIter_slot hTT map_slot_iter (wpAny_call_entry map_slot_iter hTT map_entry_iter ?_ (map_args_iter _))
  exact wpAny_pure ⟨_, rfl, _, _, hTT, map_slot_next.lookup, k⟩
theorem r_upd {S : Addr} {i : Nat} {vs : List Value} {g : Array Value → Array Value} {ws : List Value} {Q : Unit → Shared → Prop} (D : Sl prog w h₀ h fs) (hi : AtI fs i (S, .lst vs)) (hg : g vs.toArray = ws.toArray) (hz : vs.length ≤ 1000) (hz' : ws.length ≤ 1001)
   (k : ∀ h', Sl prog w h₀ h' (fs.set i (S, .lst ws)) → Q () ⟨h', gs, d, t, os⟩) : wpAny (model prog w) A (updateSeq S g) Q E ⟨h, gs, d, t, os⟩ := by
  obtain ⟨n, e⟩ := (D.at hi : h.PlainList S vs.toArray)
  have hs : Heap.SameBut S h (h.update S (Obj.mapSeq g)) := Heap.SameBut.update ..
  have hp : (h.update S (Obj.mapSeq g)).PlainList S ws.toArray := ⟨_, by rw [Heap.get?_update_self _ e rfl, ← hg]; rfl⟩
  exact wpAny_updateSeq (s := ⟨h, gs, d, t, os⟩) e rfl (k _ (D.turn (c' := .lst ws) hi hs.extBut hp)) (by rw [List.size_toArray, sizeLine_eq]; omega) (by rw [hg, List.size_toArray, sizeLine_eq]; omega)
theorem kloop {r : KA} {m T I l S : Addr} {o : Nat → Addr} (D : Sl prog w h₀ h ((S, .lst []) :: (I, .itr l 0) :: fs)) (G : Gd w.params hK h₀) (K : KOk w.params r h₀) (hroom : A.depth + 4 < recursionLimit) (hA : A.handled = none)
   (hm : h₀.get? m = some (mapO T (.ref r.C))) (hT : h₀.get? T = some (tupO [.ref I])) (hl : h₀.IsList l [Value.ref (o 0), .ref (o 1), .ref (o 2)].toArray)
   (k : ∀ (x : Nat → Addr) h₁ h' t, (∀ b o, h₀.get? b = some o → h₁.get? b = some o) → (∀ i, i < 3 → KObj r h₁ (x i) (o i)) → Sl prog w h₁ h' ((S, .lst [.ref (x 0), .ref (x 1), .ref (x 2)]) :: fs) → R (.ok (.ret .none)) ⟨h', gs, d, t, os⟩) :
   codeAny (model prog w) A (.builtin "list.extend.loop" ⟨[.ref S, .ref m, .none], []⟩) R ⟨h, gs, d, t, os⟩ := by
  refine codeAny_builtin PySem.F.entry_extend_loop ?_
  rw [Around.under_plainId PySem.F.plain_extend_loop _]
  show wpAny _ A.in1 (pyNext (.ref m) >>= _) _ _ _
  refine wpAny_bind (n_map (x := .ref (o 0)) D hm hT (.s .z) hl rfl (fun E' h' D => ?_))
  refine r_callv (knew D G K (by show A.depth + 2 < _; exact d0 hroom (Nat.le_of_ble_eq_true rfl)) (fun x0 ha h' t ka X0 D => ?_))
  show wpAny _ A.in1 (updateSeq S (·.push (.ref x0)) >>= _) _ _ _
  refine wpAny_bind (r_upd (ws := [.ref x0]) D .z (by rfl) (Nat.le_of_ble_eq_true rfl) (Nat.le_of_ble_eq_true rfl) (fun h' D => ?_))
  refine wpAny_pure ⟨plainId_quiet PySem.F.plain_extend_loop _, codeAny_builtin PySem.F.entry_extend_loop ?_⟩
  rw [Around.under_plainId PySem.F.plain_extend_loop _]
  show wpAny _ A.in1 (pyNext (.ref m) >>= _) _ _ _
  refine wpAny_bind (n_map (x := .ref (o 1)) D (ka _ _ hm) (ka _ _ hT) (.s .z) (IsList.kp hl ka) rfl (fun E' h' D => ?_))
  refine r_callv (knew D (G.keeps ka) (K.up ka) (by show A.depth + 2 < _; exact d0 hroom (Nat.le_of_ble_eq_true rfl)) (fun x1 hb h' t kb X1 D => ?_))
  show wpAny _ A.in1 (updateSeq S (·.push (.ref x1)) >>= _) _ _ _
  refine wpAny_bind (r_upd (ws := [.ref x0, .ref x1]) D .z (by rfl) (Nat.le_of_ble_eq_true rfl) (Nat.le_of_ble_eq_true rfl) (fun h' D => ?_))
  refine wpAny_pure ⟨plainId_quiet PySem.F.plain_extend_loop _, codeAny_builtin PySem.F.entry_extend_loop ?_⟩
  rw [Around.under_plainId PySem.F.plain_extend_loop _]
  show wpAny _ A.in1 (pyNext (.ref m) >>= _) _ _ _
  refine wpAny_bind (n_map (x := .ref (o 2)) D (kb _ _ (ka _ _ hm)) (kb _ _ (ka _ _ hT)) (.s .z) (IsList.kp (IsList.kp hl ka) kb) rfl (fun E' h' D => ?_))
  refine r_callv (knew D ((G.keeps ka).keeps kb) ((K.up ka).up kb) (by show A.depth + 2 < _; exact d0 hroom (Nat.le_of_ble_eq_true rfl)) (fun x2 hc h' t kc X2 D => ?_))
  show wpAny _ A.in1 (updateSeq S (·.push (.ref x2)) >>= _) _ _ _
  refine wpAny_bind (r_upd (ws := [.ref x0, .ref x1, .ref x2]) D .z (by rfl) (Nat.le_of_ble_eq_true rfl) (Nat.le_of_ble_eq_true rfl) (fun h' D => ?_))
  refine wpAny_pure ⟨plainId_quiet PySem.F.plain_extend_loop _, codeAny_builtin PySem.F.entry_extend_loop ?_⟩
  rw [Around.under_plainId PySem.F.plain_extend_loop _]
  show wpAny _ A.in1 (pyNext (.ref m) >>= _) _ _ _
  have up : ∀ b o, h₀.get? b = some o → hc.get? b = some o := fun b o e => kc _ _ (kb _ _ (ka _ _ e))
  refine wpAny_bind (n_mapE D hA (up _ _ hm) (up _ _ hT) (.s .z) (IsList.kp hl up) rfl (fun h' s => ?_))
  refine wpAny_pure (k (fun i => if i = 0 then x0 else if i = 1 then x1 else x2) hc h' _ up (fun i h => ?_) ((D.front (.s .z)).drop s))
  have : i = 0 ∨ i = 1 ∨ i = 2 := c3 (by assumption)
  rcases this with rfl | rfl | rfl
  · exact (X0.up kb).up kc
  · exact X1.up kc
  · exact X2
theorem r_listmap {r : KA} {m T I l : Addr} {o : Nat → Addr} {Q : Value → Shared → Prop} (D : Sl prog w h₀ h ((I, .itr l 0) :: fs)) (G : Gd w.params hK h₀) (K : KOk w.params r h₀) (hroom : A.depth + 4 < recursionLimit) (hA : A.handled = none)
   (hm : h₀.get? m = some (mapO T (.ref r.C))) (hT : h₀.get? T = some (tupO [.ref I])) (hl : h₀.IsList l [Value.ref (o 0), .ref (o 1), .ref (o 2)].toArray)
   (k : ∀ S (x : Nat → Addr) h₁ h' t, (∀ b o, h₀.get? b = some o → h₁.get? b = some o) → (∀ i, i < 3 → KObj r h₁ (x i) (o i)) → Sl prog w h₁ h' ((S, .lst [.ref (x 0), .ref (x 1), .ref (x 2)]) :: fs) → Q (.ref S) ⟨h', gs, d, t, os⟩) :
   wpAny (model prog w) A (call (.type "list") [.ref m]) Q E ⟨h, gs, d, t, os⟩ := by
  refine callType_codes (Q₁ := fun obj s₁ => ∃ S h', obj = .ref S ∧ s₁ = ⟨h', gs, d, t, os⟩ ∧ Sl prog w h₀ h' ((S, .lst []) :: (I, .itr l 0) :: fs)) PySem.F.called_list (PySem.F.typeCall_list_1 _) PySem.F.entry_list_init
    (code_list_new _ ⟨_, _, rfl, rfl, D.push ⟨_, Heap.get?_push_size _ rfl⟩⟩) fun obj s₁ h₁ => ?_
  obtain ⟨S, h', rfl, rfl, D⟩ := h₁
  obtain ⟨nS, eS⟩ := (D.at .z : h'.PlainList S _)
  refine ⟨⟨_, eS, rfl⟩, PySem.F.args_list_init_2 _ _, ?_⟩
  show wpAny _ A.in1.in1 (do let old ← Builtin.List.listItems (.ref S); Builtin.List.listUpdate (.ref S) (fun _ => #[]); letGo old.toList.reverse; Builtin.List.listExtendWith (.ref S) (.ref m) .none) _ _ _
  refine wpAny_bind ?_
  unfold Builtin.List.listItems
  refine wpAny_bind (wpAny_seqItems eS rfl (wpAny_pure ?_))
  show wpAny _ A.in1.in1 (updateSeq S (fun _ => #[]) >>= fun _ => letGo (#[] : Array Value).toList.reverse >>= fun _ => Builtin.List.listExtendWith (.ref S) (.ref m) .none) _ _ _
  refine wpAny_bind (r_upd (ws := []) D .z rfl (Nat.le_of_ble_eq_true rfl) (Nat.le_of_ble_eq_true rfl) (fun h' D => ?_))
  refine wpAny_bind (wpAny_letGo ?_)
  unfold Builtin.List.listExtendWith
  have hTT : ∀ {h'} {t}, (∀ b o, h₀.get? b = some o → h'.get? b = some o) → Shared.TypeIs ⟨h', gs, d, t, os⟩ (.ref m) "map" := fun k => ⟨_, k _ _ hm, rfl⟩
  have hSm : S ≠ m := fun z => by
    have := (D.ok _ (.head _)).2
    rw [z, hm] at this
    cases this
  refine wpAny_bind (wpAny_typeOf (hTT D.keep) ?_)
  have h1 : Builtin.List.listSameRef (.ref S) (.ref m) = false := by simp [Builtin.List.listSameRef, hSm]
  have h2 : (Value.type "map" == Value.type "list") = false := by decide
  have h3 : (Value.type "map" == Value.type "tuple") = false := by decide
  simp only [h1, h2, h3, Bool.or_false, Bool.false_eq_true, if_false]
  refine wpAny_bind (i_map D hm ?_)
  refine wpAny_bind (wpAny_holding ?_)
  unfold Builtin.List.listLengthHint
  refine wpAny_bind (wpAny_specialOf (hTT D.keep) map_no_len ?_)
  show wpAny _ A.in1.in1 (specialOf (Value.ref m) (Str.ofString "__length_hint__") >>= _) _ _ _
  refine wpAny_bind (wpAny_specialOf (hTT D.keep) map_no_hint ?_)
  refine wpAny_pure ?_
  show wpAny _ A.in1.in1 (rule "list.extend.makes-room" >>= fun _ => Builtin.List.listTouch (.ref S) >>= fun _ => again (.builtin "list.extend.loop" ⟨[.ref S, .ref m, .none], []⟩)) _ _ _
  refine wpAny_bind (wpAny_rule ?_)
  refine wpAny_bind ?_
  show wpAny _ A.in1.in1 (updateSeq S (·.push .none) >>= fun _ => updateSeq S (·.pop)) _ _ _
  refine wpAny_bind (r_upd (ws := [.none]) D .z rfl (Nat.le_of_ble_eq_true rfl) (Nat.le_of_ble_eq_true rfl) (fun h' D => ?_))
  refine r_upd (ws := []) D .z rfl (Nat.le_of_ble_eq_true rfl) (Nat.le_of_ble_eq_true rfl) (fun h' D => ?_)
  refine wpAny_pure ⟨plainId_quiet PySem.F.plain_extend_loop _, ?_⟩
  refine kloop D G K (by show A.depth + 4 < _; exact d0 hroom (Nat.le_of_ble_eq_true rfl)) hA hm hT hl (fun x h₁ h' t e1 X D => ⟨rfl, k S x h₁ h' t e1 X D⟩)
end
end Mine
end PMQ
section PN2
namespace Mine
section
variable {prog : Program} {w : World} {A : Around} {h₀ h h' : Heap} {fs : List (Addr × Cl)} {gs : Array GenState} {d : Drawn} {t : Nat} {os : OsState} {E : Value → Shared → Prop} {R : Result → Shared → Prop} {env : Env}
theorem turn0 (elt t0 i0 t1 i1 : Expr) (scope : Scope) (pos : Pos) (it acc : Value) (env : Env) :
   compTurn (.ListComp elt [⟨t0, i0, [], 0⟩, ⟨t1, i1, [], 0⟩] scope pos) 0 it acc env = (standAt i0.pos >>= fun _ => pyNext it >>= fun r => match r with
     | none => pure (.done .next)
     | some v => letOwnedTupleGo t0 it v >>= fun _ => assign t0 env v >>= fun _ =>
       eval i1 env >>= fun x => standAt i1.pos >>= fun _ => foldedSetIterable i1 env x >>= fun x => holding [x] (pyIter x) >>= fun j => runOwn (.compStart (.ListComp elt [⟨t0, i0, [], 0⟩, ⟨t1, i1, [], 0⟩] scope pos) 1 j acc env) env >>= fun _ =>
       again (.compLoop (.ListComp elt [⟨t0, i0, [], 0⟩, ⟨t1, i1, [], 0⟩] scope pos) 0 it acc env)) := by rfl
theorem turn1 (elt t0 i0 t1 i1 : Expr) (scope : Scope) (pos : Pos) (it acc : Value) (env : Env) :
   compTurn (.ListComp elt [⟨t0, i0, [], 0⟩, ⟨t1, i1, [], 0⟩] scope pos) 1 it acc env = (standAt i1.pos >>= fun _ => pyNext it >>= fun r => match r with
     | none => pure (.done .next)
     | some v => letOwnedTupleGo t1 it v >>= fun _ => assign t1 env v >>= fun _ =>
       (eval elt env >>= fun x => call (.builtin "list.append") [acc, x] >>= fun _ => pure ()) >>= fun _ =>
       again (.compLoop (.ListComp elt [⟨t0, i0, [], 0⟩, ⟨t1, i1, [], 0⟩] scope pos) 1 it acc env)) := by rfl
theorem start1 {elt t0 i0 t1 i1 : Expr} {scope : Scope} {pos : Pos} {it acc : Value} {s : Shared}
   (h0 : codeAny (model prog w) A (.compLoop (.ListComp elt [⟨t0, i0, [], 0⟩, ⟨t1, i1, [], 0⟩] scope pos) 1 it acc env) R s)
   (h : ∀ E', wpAny (model prog w) A (pyIter it) (fun it' s' => codeAny (model prog w) A (.compLoop (.ListComp elt [⟨t0, i0, [], 0⟩, ⟨t1, i1, [], 0⟩] scope pos) 1 it' acc env) R s') E' s) :
   codeAny (model prog w) A (.compStart (.ListComp elt [⟨t0, i0, [], 0⟩, ⟨t1, i1, [], 0⟩] scope pos) 1 it acc env) R s := by
  refine codeAny_of_tree (wpAny_notedAt (m := compStart (.ListComp elt [⟨t0, i0, [], 0⟩, ⟨t1, i1, [], 0⟩] scope pos) 1 it acc env) (pos := theWindowsPlace) ?_)
  unfold compStart
  refine wpAny_bind (wpAny_askSetting ?_)
  refine wpAny_ite ?_
  generalize (model prog w).w.params.followText "comprehension-iter-twice" = b
  cases b with
  | true => exact wpAny_pure ⟨rfl, h0⟩
  | false => exact wpAny_bind (wpAny_rule (wpAny_bind (wpAny_standAt (thenW (h _) fun _ _ y => wpAny_pure ⟨rfl, y⟩))))
theorem loop1 {elt t0 i0 t1 i1 : Expr} {scope : Scope} {pos : Pos} {it acc : Value} (I : Nat → Shared → Prop)
   (turn : ∀ (En : Value → Shared → Prop) n s, I n s → wpAny (model prog w) A (pyNext it) (fun r s₁ => match r with
     | none => R (.ok .next) s₁
     | some v => wpAny (model prog w) A (letOwnedTupleGo t1 it v) (fun _ s₁' => wpAny (model prog w) A (assign t1 env v) (fun _ s₂ => wpAny (model prog w) A (eval elt env) (fun x s₃ => wpAny (model prog w) A (call (.builtin "list.append") [acc, x]) (fun _ s₄ => ∃ m, m < n ∧ I m s₄) En s₃) En s₂) En s₁') En s₁) En s)
   (n : Nat) (s : Shared) (h : I n s) : codeAny (model prog w) A (.compLoop (.ListComp elt [⟨t0, i0, [], 0⟩, ⟨t1, i1, [], 0⟩] scope pos) 1 it acc env) R s := by
  refine codeAny_loop rfl I (fun n s hI => wpAny_noted (m := compTurn (.ListComp elt [⟨t0, i0, [], 0⟩, ⟨t1, i1, [], 0⟩] scope pos) 1 it acc env) ?_) n h
  rw [turn1]
  refine wpAny_bind (wpAny_standAt (thenW (turn _ n s hI) fun r _ y => ?_))
  cases r with
  | none => exact wpAny_pure y
  | some v => exact thenW y fun _ _ y => thenW y fun _ _ y => appW (g := id) y fun _ z => wpAny_pure ⟨rfl, z⟩
theorem loop0 {elt t0 i0 t1 i1 : Expr} {scope : Scope} {pos : Pos} {it acc : Value} (hf : ∀ x, foldedSetIterable i1 env x = pure x) (I : Nat → Shared → Prop)
   (turn : ∀ (En : Value → Shared → Prop) n s, I n s → wpAny (model prog w) A (pyNext it) (fun r s₁ => match r with
     | none => R (.ok .next) s₁
     | some v => wpAny (model prog w) A (letOwnedTupleGo t0 it v) (fun _ s₁' => wpAny (model prog w) A (assign t0 env v) (fun _ s₂ => wpAny (model prog w) A (eval i1 env) (fun x s₃ => wpAny (model prog w) A (pyIter x) (fun j s₄ =>
         codeAny (model prog w) A (.compStart (.ListComp elt [⟨t0, i0, [], 0⟩, ⟨t1, i1, [], 0⟩] scope pos) 1 j acc env) (fun r s' => match r with | .ok f => ∃ m, m < n ∧ I m s' | .error e => cameBackBy (model prog w) A env En e s') s₄) En s₃) En s₂) En s₁') En s₁) En s)
   (n : Nat) (s : Shared) (h : I n s) : codeAny (model prog w) A (.compLoop (.ListComp elt [⟨t0, i0, [], 0⟩, ⟨t1, i1, [], 0⟩] scope pos) 0 it acc env) R s := by
  refine codeAny_loop rfl I (fun n s hI => wpAny_noted (m := compTurn (.ListComp elt [⟨t0, i0, [], 0⟩, ⟨t1, i1, [], 0⟩] scope pos) 0 it acc env) ?_) n h
  rw [turn0]
  refine wpAny_bind (wpAny_standAt (thenW (turn _ n s hI) fun r _ y => ?_))
  cases r with
  | none => exact wpAny_pure y
  | some v =>
    refine thenW y fun _ _ y => thenW y fun _ _ y => thenW y fun x _ y => wpAny_bind (wpAny_standAt ?_)
    rw [hf x]
    refine wpAny_bind (wpAny_pure (wpAny_bind (wpAny_holding (wpAny_mono y (fun j _ y => wpAny_bind (wpAny_runOwn (codeAny_mono y fun r _ z => ?_))) fun _ _ e => e))))
    cases r with
    | ok f => exact wpAny_pure ⟨rfl, z⟩
    | error e => exact z
theorem r_lc2 {elt i0 i1 : Expr} {a b : Str} {pa pb : Pos} {scope : Scope} {pos : Pos} {cl : List (Str × Addr)} {I l : Addr} {vs : List Value} {use : Option (Value → Sem Unit)} {Q : Value → Shared → Prop} (K : Nat → Nat → Heap → List Value → Prop) (D : Sl prog w h₀ h ((I, .itr l 0) :: fs)) (hA : A.handled = none) (hl : h₀.IsList l vs.toArray) (k0 : K 0 0 h₀ [])
   (hcell : (scope.names.all fun x => x.2 != .cell) = true) (hkind : scope.kind = .function) (ha : ∀ C, (compEnvC scope cl C env).kindOf a = some .local) (hb : ∀ C, (compEnvC scope cl C env).kindOf b = some .local) (hab : (a == b) = false)
   (hf : ∀ C x, foldedSetIterable i1 (compEnvC scope cl C env) x = pure x) (hlen : ∀ i j hb ys, K i j hb ys → ys.length ≤ 1000)
   (row : ∀ i hb ys, i < vs.length → K i vs.length hb ys → K (i + 1) 0 hb ys)
   (inner : ∀ (E' : Value → Shared → Prop) (Q' : Value → Shared → Prop) h₁ h t C fs', (∀ b o, h₀.get? b = some o → h₁.get? b = some o) → Sl prog w h₁ h (fs' ++ fs) → Q' (.ref l) ⟨h, gs, d, t, os⟩ → wpAny (model prog w) A (eval i1 (compEnvC scope cl C env)) Q' E' ⟨h, gs, d, t, os⟩)
   (turn : ∀ (En : Value → Shared → Prop) i j hb h t lf ys va vb C acc I2, vs[i]? = some va → vs[j]? = some vb → (∀ b o, h₀.get? b = some o → hb.get? b = some o) → K i j hb ys → GetI lf a va → GetI lf b vb →
      Sl prog w hb h ((C, .frm lf) :: (acc, .lst ys) :: (I2, .itr l (j + 1)) :: (I, .itr l (i + 1)) :: fs) → wpAny (model prog w) A (eval elt (compEnvC scope cl C env)) (fun x s => ∃ hb' h' t', s = ⟨h', gs, d, t', os⟩ ∧ (∀ b o, hb.get? b = some o → hb'.get? b = some o) ∧ K i (j + 1) hb' (ys ++ [x]) ∧
        Sl prog w hb' h' ((C, .frm lf) :: (acc, .lst ys) :: (I2, .itr l (j + 1)) :: (I, .itr l (i + 1)) :: fs)) En ⟨h, gs, d, t, os⟩)
   (done : ∀ hb h t lf acc C ys, (∀ b o, h₀.get? b = some o → hb.get? b = some o) → K vs.length 0 hb ys → Sl prog w hb h ((C, .frm lf) :: (acc, .lst ys) :: fs) → compPost (model prog w) A E use Q (.ref acc) C (.ok .next) ⟨h, gs, d, t, os⟩) :
   LcNext prog w A env E (.ListComp elt [⟨.Name a pa, i0, [], 0⟩, ⟨.Name b pb, i1, [], 0⟩] scope pos) scope cl use Q (.ref I) ⟨h, gs, d, t, os⟩ := by
  unfold LcNext
  refine wpAny_newObj_type (wpAny_newFunctionEnv (fun x hx => by have := List.all_eq_true.mp hcell x hx; simpa using this) (by intro y hy; simp at hy) (fun h₁ hns₁ hsb₁ => ?_) hkind)
  have D := D.push (o := { cls := .type "list", data := .seq ([] : List Value).toArray }) (c := .lst []) ⟨_, Heap.get?_push_size _ rfl⟩
  dsimp only at hns₁ hsb₁ ⊢
  generalize h.objs.size = acc at D hns₁ hsb₁ ⊢
  generalize h.push { cls := .type "list", dict := none, data := .seq ([] : List Value).toArray } = H2 at D hns₁ hsb₁ ⊢
  have D := D.new (c := .frm []) (h' := h₁) (push_none H2) (fun b o e => hsb₁.extBut b o (Nat.ne_of_lt (Heap.lt_size e)) (Heap.get?_push_of_some _ e)) hns₁
  generalize H2.objs.size = C at D ⊢
  have loop : ∀ t, codeAny (model prog w) A (.compLoop (.ListComp elt [⟨.Name a pa, i0, [], 0⟩, ⟨.Name b pb, i1, [], 0⟩] scope pos) 0 (.ref I) (.ref acc) (compEnvC scope cl C env)) (compPost (model prog w) A E use Q (.ref acc) C) ⟨h₁, gs, d, t, os⟩ := fun t => by
    refine loop0 (hf C) (fun n s => ∃ i hb h t lf ys, n + i = vs.length ∧ s = ⟨h, gs, d, t, os⟩ ∧ (∀ b o, h₀.get? b = some o → hb.get? b = some o) ∧ K i 0 hb ys ∧ Sl prog w hb h ((C, .frm lf) :: (acc, .lst ys) :: (I, .itr l i) :: fs)) ?_ vs.length _ ⟨0, h₀, h₁, t, [], [], by omega, rfl, fun _ _ e => e, k0, D⟩
    rintro En n _ ⟨i, hb', h, t, lf, ys, hn, rfl, up, k, D⟩
    refine n_itr D hA (.s (.s .z)) (IsList.kp (IsList.kp hl up) D.keep) (fun va h' e D => ?_) (fun h' e s => ?_)
    · have hi : i < vs.length := (List.getElem?_eq_some_iff.mp e).1
      dsimp only [List.set_cons_zero, List.set_cons_succ] at D ⊢
      refine wpAny_of_eq rfl ?_
      refine wpAny_assign_Name (m_store D .z ⟨hkind, ha C⟩ (fun h' D => ?_))
      dsimp only [List.set_cons_zero, List.set_cons_succ] at D
      refine inner _ _ hb' _ _ C [(C, .frm ((a, va) :: lf)), (acc, .lst ys), (I, .itr l (i + 1))] up D ?_
      refine i_list D (IsList.kp hl up) (fun I2 h' D => ?_)
      have D : Sl prog w hb' h' ((C, .frm ((a, va) :: lf)) :: (acc, .lst ys) :: (I2, .itr l 0) :: (I, .itr l (i + 1)) :: fs) := D.rot3
      have lp : ∀ t, codeAny (model prog w) A (.compLoop (.ListComp elt [⟨.Name a pa, i0, [], 0⟩, ⟨.Name b pb, i1, [], 0⟩] scope pos) 1 (.ref I2) (.ref acc) (compEnvC scope cl C env)) (fun r s' => match r with | .ok f => ∃ m, m < n ∧ ∃ i hb h t lf ys, m + i = vs.length ∧ s' = ⟨h, gs, d, t, os⟩ ∧ (∀ b o, h₀.get? b = some o → hb.get? b = some o) ∧ K i 0 hb ys ∧ Sl prog w hb h ((C, .frm lf) :: (acc, .lst ys) :: (I, .itr l i) :: fs) | .error e => cameBackBy (model prog w) A (compEnvC scope cl C env) En e s') ⟨h', gs, d, t, os⟩ := fun t => by
        refine loop1 (fun n s => ∃ j hb h t lf ys, n + j = vs.length ∧ s = ⟨h, gs, d, t, os⟩ ∧ (∀ b o, h₀.get? b = some o → hb.get? b = some o) ∧ K i j hb ys ∧ GetI lf a va ∧ Sl prog w hb h ((C, .frm lf) :: (acc, .lst ys) :: (I2, .itr l j) :: (I, .itr l (i + 1)) :: fs)) ?_ vs.length _ ⟨0, hb', h', t, _, ys, by omega, rfl, up, k, .z, D⟩
        rintro En n2 _ ⟨j, hb2, h, t, lf2, ys2, hn2, rfl, up2, k2, ga, D⟩
        refine n_itr D hA (.s (.s .z)) (IsList.kp (IsList.kp hl up2) D.keep) (fun vb h' e2 D => ?_) (fun h' e2 s => ?_)
        · have hj : j < vs.length := (List.getElem?_eq_some_iff.mp e2).1
          dsimp only [List.set_cons_zero, List.set_cons_succ] at D ⊢
          refine wpAny_of_eq rfl ?_
          refine wpAny_assign_Name (m_store D .z ⟨hkind, hb C⟩ (fun h' D => ?_))
          dsimp only [List.set_cons_zero, List.set_cons_succ] at D
          refine wpAny_mono (turn _ i j hb2 _ _ _ ys2 va vb C acc I2 e e2 up2 k2 (.s hab ga) .z D) (fun x s z => ?_) (fun _ _ z => z)
          obtain ⟨hb3, h3, t3, rfl, up3, k3, D⟩ := z
          have := hlen _ _ _ _ k3
          rw [List.length_append] at this
          refine r_append D (.s .z) (Nat.le_trans (Nat.le_add_right _ _) this) (fun h' D => ?_)
          exact ⟨n2 - 1, s_lt hn2 hj, j + 1, hb3, h', _, _, _, s_eq hn2 hj, rfl, fun b o e => up3 _ _ (up2 _ _ e), k3, .s hab ga, D⟩
        · have hj : vs.length ≤ j := List.getElem?_eq_none_iff.mp e2
          obtain rfl : j = vs.length := s_end hn2 hj
          have D := (D.front (.s (.s .z))).drop s
          exact ⟨n - 1, s_lt hn hi, i + 1, hb2, h', _, _, _, s_eq hn hi, rfl, up2, row i hb2 ys2 hi k2, D⟩
      refine start1 (lp _) (fun E' => ?_)
      exact wpAny_pyIter_listiter (s := ⟨h', gs, d, _, os⟩) (D.at (.s (.s .z))) (lp _)
    · have hi : vs.length ≤ i := List.getElem?_eq_none_iff.mp e
      obtain rfl : i = vs.length := s_end hn hi
      exact done hb' h' t lf acc C ys up k ((D.front (.s (.s .z))).drop s)
  exact codeAny_compStart_list (loop _) (wpAny_pyIter_listiter (s := ⟨h₁, gs, d, _, os⟩) (D.at (.s (.s .z))) (loop _))
end
end Mine
end PN2
section PEM
namespace Mine
section
variable {prog : Program} {w : World} {A : Around} {h₀ h h' : Heap} {fs : List (Addr × Cl)} {gs : Array GenState} {d : Drawn} {t : Nat} {os : OsState} {E : Value → Shared → Prop} {R : Result → Shared → Prop} {env : Env}
theorem fn_151 (P : Params) : FnOkC hK P 151 fd151 bd151 (fun L => [(Str.ofString "heap", L + 1)]) := ⟨by kernel_rfl, by kernel_rfl, by kernel_rfl, by kernel_rfl, by kernel_rfl, by kernel_rfl, by kernel_rfl, fun L => by kernel_rfl, fun L => List.nodup_cons.mpr ⟨List.not_mem_nil, List.nodup_nil⟩⟩
theorem r_dgetB {value slice : Expr} {m : Str} {u : Tok} {c : Addr} {kvs : List (Str × Value)} {ep : Nat} {v : Value} {Q : Value → Shared → Prop} (D : Sl prog w h₀ h fs) (hd : h₀.DictAt (strKind prog w) c kvs ep) (hv : valueAt kvs m = some v)
    (k : Q v ⟨h, gs, d, t + 1, os⟩) (hs : subscripted slice false (.ref c) (.str m u) = operate [.ref c, .str m u] (getItem (.ref c) (.str m u)) := by with_unfolding_all rfl) : wpAny (model prog w) A (subscriptTail value slice (.ref c) (.str m u)) Q E ⟨h, gs, d, t, os⟩ :=
  have hd : h.DictOf (strKind prog w) c kvs := (hd.keep D.keep).dictOf
  tail_any (s := ⟨h, gs, d, t, os⟩) hd.typeIs slot_dict_getitem.lookup (wpAny_getItem_of (s := ⟨h, gs, d, t, os⟩) (strKind_is prog w m u) hd.mapOf hv k) hs
noncomputable def HL (B : Nat → Nat → Bool) : Nat → List Nat
  | 0 => []
  | 1 => [0]
  | 2 => if B 1 0 = true then [1, 0] else [0, 1]
  | _ => if B 1 0 = true then (if B 2 1 = true then [2, 0, 1] else [1, 0, 2]) else (if B 2 0 = true then [2, 1, 0] else [0, 1, 2])
theorem HL2 (B : Nat → Nat → Bool) : HL B 2 = if B 1 0 = true then [1, 0] else [0, 1] := rfl
theorem HL3 (B : Nat → Nat → Bool) : HL B 3 = if B 1 0 = true then (if B 2 1 = true then [2, 0, 1] else [1, 0, 2]) else (if B 2 0 = true then [2, 1, 0] else [0, 1, 2]) := rfl
theorem HL_pop (B : Nat → Nat → Bool) (tot : ∀ i j, i < 3 → j < 3 → i ≠ j → B j i = !B i j) (tr : ∀ i j k, i < 3 → j < 3 → k < 3 → B i j = true → B j k = true → B i k = true) :
    ∃ a b c, HL B 3 = [a, b, c] ∧ [a, b, c] ∈ perm3 ∧ B a b = true ∧ B a c = true := by
  unfold HL
  cases h10 : B 1 0 with
  | true =>
    cases h21 : B 2 1 with
    | true => exact ⟨2, 0, 1, rfl, by decide, tr 2 1 0 (by decide) (by decide) (by decide) h21 h10, h21⟩
    | false => exact ⟨1, 0, 2, rfl, by decide, h10, by rw [tot 2 1 (by decide) (by decide) (by decide), h21]; rfl⟩
  | false =>
    have h01 : B 0 1 = true := by rw [tot 1 0 (by decide) (by decide) (by decide), h10]; rfl
    cases h20 : B 2 0 with
    | true => exact ⟨2, 1, 0, rfl, by decide, tr 2 0 1 (by decide) (by decide) (by decide) h20 h01, h20⟩
    | false => exact ⟨0, 1, 2, rfl, by decide, h01, by rw [tot 2 0 (by decide) (by decide) (by decide), h20]; rfl⟩
theorem pushI {hp new : Addr} {m : Nat → Str} {n : Nat → Int} {r : Nat → Addr} (i : Nat) (hi : i < 3) (D : Sl prog w h₀ h ((hp, .lst ((HL (fun i j => before (m i) (n i) (m j) (n j)) i).map fun j => .ref (r j))) :: fs)) (G : Gd w.params hK h₀) (hroom : A.depth + 1 < recursionLimit) (hu : A.units + 40 < 9900)
   (rows : ∀ j, j < i → Row h₀ (r j) (m j) (n j)) (rn : Row h₀ new (m i) (n i))
   (k : ∀ h' tk, Sl prog w h₀ h' ((hp, .lst ((HL (fun i j => before (m i) (n i) (m j) (n j)) (i + 1)).map fun j => .ref (if j = i then new else r j))) :: fs) → R (.ok (.ret .none)) ⟨h', gs, d, tk, os⟩) :
   codeAny (model prog w) A (.call (.ref 106) ⟨[.ref hp, .ref new], []⟩) R ⟨h, gs, d, t, os⟩ := by
  have : i = 0 ∨ i = 1 ∨ i = 2 := c3 (by assumption)
  rcases this with rfl | rfl | rfl
  · exact push0 D G hroom hu k
  · refine push1 (a := r 0) (b := new) D G hroom hu (rows 0 (by decide)) rn (fun h' tk D => k h' tk ?_)
    rw [HL2]
    split at D
    · rename_i e; rw [if_pos e]; exact D
    · rename_i e; rw [if_neg e]; exact D
  · rw [HL2] at D
    rw [HL3] at k
    split at D
    · rename_i e
      refine push2 (a := r 1) (b := r 0) (z := new) D G hroom hu (rows 1 (by decide)) rn (fun h' tk D => k h' tk ?_)
      rw [if_pos e]
      split at D
      · rename_i e; rw [if_pos e]; exact D
      · rename_i e; rw [if_neg e]; exact D
    · rename_i e
      refine push2 (a := r 0) (b := r 1) (z := new) D G hroom hu (rows 0 (by decide)) rn (fun h' tk D => k h' tk ?_)
      rw [if_neg e]
      split at D
      · rename_i e; rw [if_pos e]; exact D
      · rename_i e; rw [if_neg e]; exact D
theorem HL_lt {B : Nat → Nat → Bool} {i j : Nat} (hi : i < 3) (h : j ∈ HL B i) : j < i := by
  have : i = 0 ∨ i = 1 ∨ i = 2 := c3 (by assumption)
  rcases this with rfl | rfl | rfl
  · cases h
  · simp [HL] at h; omega
  · rw [HL2] at h
    split at h <;> (simp at h; omega)
theorem emptied {cd : Addr} {m : Nat → Str} {n : Nat → Int} {v : Nat → Tok} {ep : Nat} (D : Sl prog w h₀ h fs) (G : Gd w.params hK h₀) (hroom : A.depth + 3 < recursionLimit) (hu : A.units + 80 < 9900) (hA : A.handled = none) (hc : (cd == sysModules) = false)
   (hd : h₀.DictAt (strKind prog w) cd [(m 0, .int (n 0) (v 0)), (m 1, .int (n 1) (v 1)), (m 2, .int (n 2) (v 2))] ep) (hne : ∀ i j, i < 3 → j < 3 → i ≠ j → m i ≠ m j)
   (k : ∀ D' h₁ h' t (q : Nat → Nat) (o : Nat → Addr), [q 0, q 1, q 2] ∈ perm3 → before (m (q 0)) (n (q 0)) (m (q 1)) (n (q 1)) = true → before (m (q 1)) (n (q 1)) (m (q 2)) (n (q 2)) = true → (∀ b o, h₀.get? b = some o → h₁.get? b = some o) → (∀ z, z < 3 → Cnt h₁ (o z) (m (q z)) (n (q z))) → Sl prog w h₁ h' ((D', .lst [.ref (o 0), .ref (o 1), .ref (o 2)]) :: fs) → R (.ok (.ret (.ref D'))) ⟨h', gs, d, t, os⟩) :
   codeAny (model prog w) A (.call (.ref 151) ⟨[.ref cd], []⟩) R ⟨h, gs, d, t, os⟩ := by
  refine r_callC (x := Str.ofString "counts") D G (fn_151 w.params) (d00 hroom) (by kernel_rfl) (fun L => ⟨by kernel_rfl, by kernel_rfl⟩) (fun L h' t D => ?_)
  replace D : Sl prog w h₀ h' ((L, .frm [(Str.ofString "counts", .ref cd)]) :: (L + 1, .cel none) :: fs) := D
  with_unfolding_all change wpAny _ _ (execs (_ :: _) _) _ _ _
  repeat' (first
  | walk_at "b W"
    | walk_at "b W2"
  | walk_at "b NC"
  | fail)
  have hval : ∀ i, i < 3 → valueAt [(m 0, Value.int (n 0) (v 0)), (m 1, .int (n 1) (v 1)), (m 2, .int (n 2) (v 2))] (m i) = some (.int (n i) (v i)) := fun i hi => by
    have : i = 0 ∨ i = 1 ∨ i = 2 := c3 (by assumption)
    rcases this with rfl | rfl | rfl
    · simp [valueAt]
    · simp [valueAt, hne 0 1]
    · simp [valueAt, hne 0 2, hne 1 2]
  refine r_forK (fun i hb fs' => (∀ b o, h₀.get? b = some o → hb.get? b = some o) ∧ ∃ fl r, fs' = (a, .lst ((HL (fun i j => before (m i) (n i) (m j) (n j)) i).map fun j => .ref (r j))) :: (L, .frm fl) :: (L + 1, .cel (some (.ref a))) :: fs ∧ GetI fl (S "counts") (.ref cd) ∧ ∀ j, j < i → Row hb (r j) (m j) (n j)) D hA hc hd (fun _ _ => rfl) ⟨fun _ _ e => e, _, fun _ => 0, rfl, by walk_at "b GT", fun j hj => absurd hj (Nat.not_lt_zero j)⟩ ?_ ?_
  · rintro En i m' v' u I hb h _ t e ⟨up, fl, r, rfl, g1, rows⟩ hdb D
    have hi : i < 3 := (List.getElem?_eq_some_iff.mp e).1
    have em : m' = m i ∧ v' = .int (n i) (v i) := by
      have : i = 0 ∨ i = 1 ∨ i = 2 := c3 (by assumption)
      rcases this with rfl | rfl | rfl <;> (cases e; exact ⟨rfl, rfl⟩)
    obtain ⟨rfl, rfl⟩ := em
    have G := G.keeps up
    repeat' (first
  | walk_at "b W"
      | walk_at "b W2"
  | walk_at "b NC"
    | ((with_reducible refine' r_dgetB D ?hd ?hv ?_ ?hs); (case hd => exact hdb); (case hv => exact hval i hi); (case hs => with_unfolding_all rfl))
    | fail)
    refine D.out (fun h₁ e1 e2 D => ?_)
    have D := D.front (.s .z)
    dsimp only [List.eraseIdx_cons_succ, List.eraseIdx_cons_zero] at D
    refine pushI i hi D (G.keeps e1) (by show A.depth + 1 + 1 < _; exact dk hroom (Nat.le_of_ble_eq_true rfl)) (by show A.units + 3 + 40 < _; exact dk hu (Nat.le_of_ble_eq_true rfl)) (fun j hj => (rows j hj).up e1) ⟨_, _, e2⟩ (fun h' t D => ?_)
    have D := D.front (.s .z)
    dsimp only [List.eraseIdx_cons_succ, List.eraseIdx_cons_zero] at D
    repeat' (first
  | walk_at "b W"
    | fail)
    refine ⟨h₁, h', _, t, rfl, ⟨fun b o e => e1 _ _ (up _ _ e), _, _, rfl, .s (by kernel_rfl) g1, fun j hj => ?_⟩, hdb.keep e1, D⟩
    by_cases q : j = i
    · subst q; rw [if_pos rfl]; exact ⟨_, _, e2⟩
    · rw [if_neg q]; exact (rows j (s_in hj q)).up e1
  · rintro hb h _ t ⟨up, fl, r, rfl, g1, rows⟩ hdb D
    have G := G.keeps up
    obtain ⟨x, y, z, hHL, hperm, hxy, hxz⟩ := HL_pop (fun i j => before (m i) (n i) (m j) (n j)) (fun i j a b c => before_tot (hne i j a b c)) (fun i j k _ _ _ => before_trans)
    change Sl prog w hb h ((a, .lst ((HL (fun i j => before (m i) (n i) (m j) (n j)) 3).map fun j => .ref (r j))) :: _) at D
    rw [hHL] at D
    replace D : Sl prog w hb h ((a, .lst [.ref (r x), .ref (r y), .ref (r z)]) :: (L, .frm fl) :: (L + 1, .cel (some (.ref a))) :: fs) := D
    repeat' (first
  | walk_at "b W"
    | fail)
    obtain ⟨p, q, hpq, hp3, hxp, hpq'⟩ : ∃ p q, (if before (m z) (n z) (m y) (n y) = true then [Value.ref (r z), .ref (r y)] else [.ref (r y), .ref (r z)]) = [.ref (r p), .ref (r q)] ∧ [x, p, q] ∈ perm3 ∧ before (m x) (n x) (m p) (n p) = true ∧ before (m p) (n p) (m q) (n q) = true := by
      have r3 := p3 hperm
      cases hzy : before (m z) (n z) (m y) (n y) with
      | true => exact ⟨z, y, rfl, r3.2.2, hxz, hzy⟩
      | false => exact ⟨y, z, rfl, hperm, hxy, by rw [before_tot (hne z y r3.1.2.2 r3.1.2.1 (Ne.symm r3.2.1.2.1)), hzy]; rfl⟩
    have r3 := (p3 hperm).1
    refine r_lcA (cl := [(Str.ofString "heap", L + 1)]) (by kernel_rfl) (by kernel_rfl) (by kernel_rfl) (by kernel_rfl) ?_ (fun _ => rfl)
    repeat' (first
  | walk_at "b W"
      | walk_at "b W2"
  | walk_at "b NC"
    | fail)
    refine i_dict D hc hdb (fun I h' D => ?_)
    obtain ⟨PL, pl0, pl1, pl2, pl3⟩ : ∃ PL : Nat → List Value, PL 0 = [.ref (r x), .ref (r y), .ref (r z)] ∧ PL 1 = [.ref (r p), .ref (r q)] ∧ PL 2 = [.ref (r q)] ∧ PL 3 = [] := ⟨fun i => match i with | 0 => _ | 1 => _ | 2 => _ | _ => _, rfl, rfl, rfl, rfl⟩
    refine r_lcI (fun c hb' fs' ys => ∃ i, c + i = 3 ∧ hb' = hb ∧ fs' = (I, .kit cd i 3 ep) :: (a, .lst (PL i)) :: (L, .frm fl) :: (L + 1, .cel (some (.ref a))) :: fs ∧ ys = [Value.ref (r x), .ref (r p), .ref (r q)].take i) (fun hb' fs' ys => hb' = hb ∧ fs' = (a, .lst []) :: (L, .frm fl) :: (L + 1, .cel (some (.ref a))) :: fs ∧ ys = [Value.ref (r x), .ref (r p), .ref (r q)]) 3 D ⟨0, rfl, rfl, by rw [pl0]; rfl, rfl⟩ (by kernel_rfl) (by kernel_rfl) ?_ ?_ ?_ ?_
    · rintro c _ _ _ ⟨i, hn, rfl, rfl, rfl⟩
      rw [List.length_take]
      show min i 3 ≤ 1000
      omega
    · intro E' Q' h t C acc D q
      exact wpAny_pyIter_keyiter (s := ⟨h, gs, d, t, os⟩) (D.at (.s (.s .z))) q
    · rintro En c _ h _ t l _ C acc ⟨i, hn, rfl, rfl, rfl⟩ D
      refine n_kit D hA (.s (.s .z)) (hdb.keep D.keep) (fun m' v' u h' e D => ?_) (fun h' e s => ?_)
      · have hi : i < 3 := (List.getElem?_eq_some_iff.mp e).1
        dsimp only [List.set_cons_zero, List.set_cons_succ] at D ⊢
        repeat' (first
  | walk_at "b W"
          | walk_at "b W2"
  | walk_at "b NC"
        | fail)
        have D := D.uncyc4
        have : i = 0 ∨ i = 1 ∨ i = 2 := c3 (by assumption)
        rcases this with rfl | rfl | rfl
        · rw [pl0] at D
          refine pop3 D G (by show A.depth + 1 + 2 < _; exact dk hroom (Nat.le_of_ble_eq_true rfl)) (by show A.units + 3 + 60 < _; exact dk hu (Nat.le_of_ble_eq_true rfl)) (rows z r3.2.2) (rows y r3.2.1) (fun h' t D => ?_)
          rw [hpq] at D
          exact ⟨2, _, _, _, _, _, by omega, rfl, ⟨1, rfl, rfl, by rw [pl1]; rfl, rfl⟩, D.cyc4⟩
        · rw [pl1] at D
          refine pop2 D G (by show A.depth + 1 + 2 < _; exact dk hroom (Nat.le_of_ble_eq_true rfl)) (by show A.units + 3 + 60 < _; exact dk hu (Nat.le_of_ble_eq_true rfl)) (fun h' t D => ?_)
          exact ⟨1, _, _, _, _, _, by omega, rfl, ⟨2, rfl, rfl, by rw [pl2]; rfl, rfl⟩, D.cyc4⟩
        · rw [pl2] at D
          refine pop1 D G (by show A.depth + 1 + 2 < _; exact dk hroom (Nat.le_of_ble_eq_true rfl)) (by show A.units + 3 + 60 < _; exact dk hu (Nat.le_of_ble_eq_true rfl)) (fun h' t D => ?_)
          exact ⟨0, _, _, _, _, _, by omega, rfl, ⟨3, rfl, rfl, by rw [pl3]; rfl, rfl⟩, D.cyc4⟩
      · have hi : 3 ≤ i := List.getElem?_eq_none_iff.mp e
        obtain rfl : i = 3 := s_end hn hi
        rw [pl3] at D
        exact ⟨_, h', _, t, rfl, ⟨rfl, rfl, rfl⟩, (D.front (.s (.s .z))).drop s⟩
    · rintro _ h _ t l acc C _ ⟨rfl, rfl, rfl⟩ D
      refine fin_some ?_
      repeat' (first
  | walk_at "b W"
        | walk_at "b W2"
  | walk_at "b NC"
      | fail)
      refine ⟨_, _, _, _, _, rfl, D, fun h' D => ?_⟩
      repeat' (first
  | walk_at "b W"
        | walk_at "b W2"
  | walk_at "b NC"
      | fail)
      refine D.out (fun h₁ e1 e2 D => ?_)
      refine r_lc (cl := []) (by kernel_rfl) (by kernel_rfl) (by kernel_rfl) ?_ (fun _ => rfl)
      repeat' (first
  | walk_at "b W"
        | walk_at "b W2"
  | walk_at "b NC"
      | fail)
      obtain ⟨o, ox, op, oq⟩ : ∃ o : Nat → Nat, o 0 = x ∧ o 1 = p ∧ o 2 = q := ⟨fun i => match i with | 0 => x | 1 => p | _ => q, rfl, rfl, rfl⟩
      have ho : ∀ j, j < 3 → o j < 3 := fun j hj => by
        have r4 := (p3 hp3).1
        have : j = 0 ∨ j = 1 ∨ j = 2 := c3 (by assumption)
        rcases this with rfl | rfl | rfl <;> omega
      refine negrows (o := fun j => r (o j)) (m := fun j => m (o j)) (n := fun j => n (o j)) D hA (by rw [ox, op, oq]; exact Heap.PlainList.isList e2) (fun j hj => (rows (o j) (ho j hj)).up e1) (fun acc2 h₂ h' t new e3 cs D => ?_)
      repeat' (first
  | walk_at "b W"
      | fail)
      exact k acc2 h₂ h' t o new (by rw [ox, op, oq]; exact hp3) (by rw [ox, op]; exact hxp) (by rw [op, oq]; exact hpq') (fun b o e => e3 _ _ (e1 _ _ (up _ _ e))) cs (D.sub (List.Sublist.cons_cons _ ((List.sublist_cons_self ..).trans ((List.sublist_cons_self ..).trans (List.sublist_cons_self ..)))))
end
end Mine
end PEM
section PNM
namespace Mine
section
variable {prog : Program} {w : World} {A : Around} {h₀ h : Heap} {fs : List (Addr × Cl)} {gs : Array GenState} {d : Drawn} {t : Nat} {os : OsState} {E : Value → Shared → Prop} {R : Result → Shared → Prop} {env : Env}
noncomputable def verdict (m : Str) (fo : Option Str) : Int := if m = S "a" then 1 else if Txt.startswith m (S "a" ++ S ".") = true then 1 else match fo with
  | none => 1
  | some f => if Txt.startswith f (S "/x" ++ S "/") = true then 1 else 0
noncomputable def Vals : List (Str × Value) → List (Str × Int) → Prop
  | [], [] => True
  | (m, v) :: l, (n, i) :: r => m = n ∧ (∃ u, v = .int i u) ∧ Vals l r
  | _, _ => False
theorem none_of {α : Type} {o : Option α} (h : o.isSome = false) : o = none := PyProof.V.eq_none_of_isSome_false h
theorem names {x ig : Addr} {fv : Value} {fo : Option Str} {m : Str} {um : Tok} {kv : List (Str × Value)} (D : Sl prog w h₀ h ((ig, .dct kv) :: fs)) (G : Gd w.params hK h₀) (hroom : A.depth + 1 < recursionLimit) (hA : A.handled = none)
   (RD : RdAt prog w h₀ x ig) (hf : PathIs fo fv) (hz : kv.length ≤ 100) (hm : m.length ≤ 3)
   (hit : ∀ v h' tk, valueAt kv m = some v → Sl prog w h₀ h' ((ig, .dct kv) :: fs) → R (.ok (.ret v)) ⟨h', gs, d, tk, os⟩)
   (miss : ∀ u u' h' tk, valueAt kv m = none → Sl prog w h₀ h' ((ig, .dct (stored kv m (.int (verdict m fo) u))) :: fs) → R (.ok (.ret (.int (verdict m fo) u'))) ⟨h', gs, d, tk, os⟩) :
   codeAny (model prog w) A (.call (.ref 76) ⟨[.ref x, fv, .str m um], []⟩) R ⟨h, gs, d, t, os⟩ := by
  obtain ⟨dx, od, ms, ds, ud, hx, hdx, l1, l2, l3, l4, SA, hds⟩ := RD
  refine r_call [(Str.ofString "self", .ref x), (Str.ofString "filename", fv), (Str.ofString "modulename", .str m um)] [(Str.ofString "modulename", .str m um), (Str.ofString "filename", fv), (Str.ofString "self", .ref x)] 3 D G (fn_76 w.params) (d00 hroom) (by kernel_rfl) ⟨rfl, rfl⟩ (by kernel_rfl) (fun L h' D => ?_)
  with_unfolding_all change wpAny _ _ (execs (_ :: _) _) _ _ _
  repeat' (first
  | walk_at "b W"
  | with_reducible refine r_rattr D G hx hdx l3 (by kernel_rfl) rfl ?_
  | with_reducible refine r_rattr D G hx hdx l2 (by kernel_rfl) rfl ?_
  | with_reducible refine r_rattr D G hx hdx l1 (by kernel_rfl) rfl ?_
  | ((with_reducible refine' r_din D ?hi G.sm ?_); (case hi => walk_at "b AT"))
  | ((with_reducible refine' r_dset D ?hi ?hq (fun h' D => ?_)); (case hi => walk_at "b AT"); (case hq => omega); dsimp only [List.set_cons_zero, List.set_cons_succ] at D)
  | with_reducible refine r_inA D SA ?_
  | with_reducible refine r_sadd (by decide +kernel) (fun t' t => ?_)
  | with_reducible refine iteB (fun hc => ?_) (fun hc => ?_)
  | fail)
  · obtain ⟨v, hv⟩ := Option.isSome_iff_exists.mp hc
    refine r_dget D (.s .z) hv ?_ (by with_unfolding_all rfl)
    exact hit v _ _ hv D.tail
  · have e : verdict m fo = 1 := by unfold verdict; rw [if_pos (of_decide_eq_true hc)]
    rw [e] at miss
    exact miss _ _ _ _ (none_of ‹(valueAt kv m).isSome = false›) D.tail
  · have hno := none_of ‹(valueAt kv m).isSome = false›
    have hma : ¬ m = S "a" := of_decide_eq_false hc
    refine r_forset (fun fs' => ∃ fl, fs' = (L, .frm fl) :: (ig, .dct kv) :: fs ∧ GetI fl (S "self") (.ref x) ∧ GetI fl (S "filename") fv ∧ GetI fl (S "modulename") (.str m um) ∧ Txt.startswith m (S "a" ++ S ".") = false) D hA SA (fun _ _ => rfl) ?_ ?_
    · intro En I o h u t D
      repeat' (first
  | walk_at "b W"
  | with_reducible refine r_rattr D G hx hdx l3 (by kernel_rfl) rfl ?_
  | with_reducible refine r_rattr D G hx hdx l2 (by kernel_rfl) rfl ?_
  | with_reducible refine r_rattr D G hx hdx l1 (by kernel_rfl) rfl ?_
  | ((with_reducible refine' r_din D ?hi G.sm ?_); (case hi => walk_at "b AT"))
  | ((with_reducible refine' r_dset D ?hi ?hq (fun h' D => ?_)); (case hi => walk_at "b AT"); (case hq => omega); dsimp only [List.set_cons_zero, List.set_cons_succ] at D)
  | with_reducible refine r_inA D SA ?_
  | with_reducible refine r_sadd (by decide +kernel) (fun t' t => ?_)
  | with_reducible refine iteB (fun hc => ?_) (fun hc => ?_)
  | fail)
      · have e : verdict m fo = 1 := by unfold verdict; rw [if_neg hma, if_pos hc]
        rw [e] at miss
        exact miss _ _ _ _ hno D.tail.tail
      · exact ⟨_, _, _, rfl, ⟨_, rfl, by walk_at "b GT", by walk_at "b GT", by walk_at "b GT", hc⟩, D⟩
    · cases fo with
      | none =>
        obtain rfl : fv = .none := hf
        rintro h _ t ⟨fl, rfl, g1, g2, g3, hsw⟩ D
        have e : verdict m none = 1 := by unfold verdict; rw [if_neg hma, if_neg (by rw [hsw]; decide)]
        rw [e] at miss
        repeat' (first
  | walk_at "b W"
  | with_reducible refine r_rattr D G hx hdx l3 (by kernel_rfl) rfl ?_
  | with_reducible refine r_rattr D G hx hdx l2 (by kernel_rfl) rfl ?_
  | with_reducible refine r_rattr D G hx hdx l1 (by kernel_rfl) rfl ?_
  | ((with_reducible refine' r_din D ?hi G.sm ?_); (case hi => walk_at "b AT"))
  | ((with_reducible refine' r_dset D ?hi ?hq (fun h' D => ?_)); (case hi => walk_at "b AT"); (case hq => omega); dsimp only [List.set_cons_zero, List.set_cons_succ] at D)
  | with_reducible refine r_inA D SA ?_
  | with_reducible refine r_sadd (by decide +kernel) (fun t' t => ?_)
  | with_reducible refine iteB (fun hc => ?_) (fun hc => ?_)
  | fail)
        exact miss _ _ _ _ hno D.tail
      | some f =>
        obtain ⟨uf, rfl⟩ : ∃ u, fv = .str f u := hf
        rintro h _ t ⟨fl, rfl, g1, g2, g3, hsw⟩ D
        repeat' (first
  | walk_at "b W"
  | with_reducible refine r_rattr D G hx hdx l3 (by kernel_rfl) rfl ?_
  | with_reducible refine r_rattr D G hx hdx l2 (by kernel_rfl) rfl ?_
  | with_reducible refine r_rattr D G hx hdx l1 (by kernel_rfl) rfl ?_
  | ((with_reducible refine' r_din D ?hi G.sm ?_); (case hi => walk_at "b AT"))
  | ((with_reducible refine' r_dset D ?hi ?hq (fun h' D => ?_)); (case hi => walk_at "b AT"); (case hq => omega); dsimp only [List.set_cons_zero, List.set_cons_succ] at D)
  | with_reducible refine r_inA D SA ?_
  | with_reducible refine r_sadd (by decide +kernel) (fun t' t => ?_)
  | with_reducible refine iteB (fun hc => ?_) (fun hc => ?_)
  | fail)
        refine r_for (fun i hb fs' => hb = h₀ ∧ ∃ fl, fs' = (L, .frm fl) :: (ig, .dct kv) :: fs ∧ GetI fl (S "self") (.ref x) ∧ GetI fl (S "filename") (.str f uf) ∧ GetI fl (S "modulename") (.str m um) ∧ (1 ≤ i → Txt.startswith f (S "/x" ++ S "/") = false)) D hA (vs := [.str (S "/x") ud]) hds (fun _ _ => rfl) ⟨rfl, _, rfl, g1, g2, g3, fun z => absurd z (by decide)⟩ ?_ ?_
        · rintro En i v I _ h _ t hvi ⟨rfl, fl, rfl, g1, g2, g3, hfw⟩ hlb D
          obtain ⟨rfl, rfl⟩ : i = 0 ∧ v = .str (S "/x") ud := by
            cases i with
            | zero => exact ⟨rfl, (Option.some.inj hvi).symm⟩
            | succ i => cases hvi
          repeat' (first
  | walk_at "b W"
  | with_reducible refine r_rattr D G hx hdx l3 (by kernel_rfl) rfl ?_
  | with_reducible refine r_rattr D G hx hdx l2 (by kernel_rfl) rfl ?_
  | with_reducible refine r_rattr D G hx hdx l1 (by kernel_rfl) rfl ?_
  | ((with_reducible refine' r_din D ?hi G.sm ?_); (case hi => walk_at "b AT"))
  | ((with_reducible refine' r_dset D ?hi ?hq (fun h' D => ?_)); (case hi => walk_at "b AT"); (case hq => omega); dsimp only [List.set_cons_zero, List.set_cons_succ] at D)
  | with_reducible refine r_inA D SA ?_
  | with_reducible refine r_sadd (by decide +kernel) (fun t' t => ?_)
  | with_reducible refine iteB (fun hc => ?_) (fun hc => ?_)
  | fail)
          · have e : verdict m (some f) = 1 := by unfold verdict; rw [if_neg hma, if_neg (by rw [hsw]; decide)]; exact if_pos hc
            rw [e] at miss
            exact miss _ _ _ _ hno D.tail.tail
          · exact ⟨_, _, _, _, rfl, ⟨rfl, _, rfl, .s (by kernel_rfl) g1, .s (by kernel_rfl) g2, .s (by kernel_rfl) g3, fun _ => hc⟩, hlb, D⟩
        · rintro _ h _ t ⟨rfl, fl, rfl, g1, g2, g3, hfw⟩ D
          have e : verdict m (some f) = 0 := by unfold verdict; rw [if_neg hma, if_neg (by rw [hsw]; decide)]; exact if_neg (by rw [hfw (Nat.le_refl 1)]; decide)
          rw [e] at miss
          repeat' (first
  | walk_at "b W"
  | with_reducible refine r_rattr D G hx hdx l3 (by kernel_rfl) rfl ?_
  | with_reducible refine r_rattr D G hx hdx l2 (by kernel_rfl) rfl ?_
  | with_reducible refine r_rattr D G hx hdx l1 (by kernel_rfl) rfl ?_
  | ((with_reducible refine' r_din D ?hi G.sm ?_); (case hi => walk_at "b AT"))
  | ((with_reducible refine' r_dset D ?hi ?hq (fun h' D => ?_)); (case hi => walk_at "b AT"); (case hq => omega); dsimp only [List.set_cons_zero, List.set_cons_succ] at D)
  | with_reducible refine r_inA D SA ?_
  | with_reducible refine r_sadd (by decide +kernel) (fun t' t => ?_)
  | with_reducible refine iteB (fun hc => ?_) (fun hc => ?_)
  | fail)
          exact miss _ _ _ _ hno D.tail
end
end Mine
end PNM
section PCO
namespace Mine
section
variable {prog : Program} {w : World} {A : Around} {h₀ h : Heap} {fs : List (Addr × Cl)} {gs : Array GenState} {d : Drawn} {t : Nat} {os : OsState} {E : Value → Shared → Prop} {R : Result → Shared → Prop} {env : Env}
noncomputable def vb (m : Str) (fo : Option Str) : Bool := verdict m fo = 1
theorem vb_of (m : Str) (fo : Option Str) : verdict m fo = if vb m fo then 1 else 0 := by
  unfold vb verdict
  repeat' split
  all_goals simp_all
noncomputable def bitT (b : Bool) : Str := Str.ofString (if b then "1" else "0")
noncomputable def bitsT : List Bool → Str := List.foldl (fun s b => s ++ bitT b) (Str.ofString "")
noncomputable def stepB (kl : List (Str × Bool)) (m : Str) (fo : Option Str) : Bool := (look kl m).getD (vb m fo)
noncomputable def stepK (kl : List (Str × Bool)) (m : Str) (fo : Option Str) : List (Str × Bool) := if (look kl m).isSome then kl else put kl m (vb m fo)
noncomputable def stepC (cl : List (Str × Int)) (m : Str) (b : Bool) : List (Str × Int) := if b then cl else put cl m ((look cl m).getD 0 + 1)
theorem r_cget {i : Nat} {m : Str} {u u0 : Tok} {dd : Addr} {cv : List (Str × Value)} {cl : List (Str × Int)} {Q : Value → Shared → Prop} (D : Sl prog w h₀ h fs) (hi : AtI fs i (dd, .dct cv)) (hs : ∃ o, h₀.get? sysModules = some o) (VC : Rel IV cv cl)
   (k : ∀ u, Q (.int ((look cl m).getD 0) u) ⟨h, gs, d, t + 1, os⟩) : wpAny (model prog w) A (call (.builtin "dict.get") [.ref dd, .str m u, .int 0 u0]) Q E ⟨h, gs, d, t, os⟩ := by
  refine r_dgetd D hi hs ?_
  rcases VC.look m with ⟨e, e'⟩ | ⟨v, a, e, e', u', rfl⟩
  · rw [e]; rw [e'] at k; exact k u0
  · rw [e]; rw [e'] at k; exact k u'
theorem bits_snoc (bs : List Bool) (b : Bool) : bitsT (bs ++ [b]) = bitsT bs ++ bitT b := by unfold bitsT; rw [List.foldl_append]; rfl
theorem bits_len (bs : List Bool) : (bitsT bs).length = bs.length := by
  have g : ∀ (bs : List Bool) (s : Str), (bs.foldl (fun s b => s ++ bitT b) s).length = s.length + bs.length := by
    intro bs
    induction bs with
    | nil => intro s; rfl
    | cons b bs ih =>
      intro s
      rw [List.foldl_cons, ih, PySem.Str.length_append, show (bitT b).length = 1 by cases b <;> decide +kernel, List.length_cons]
      omega
  rw [bitsT, g]; exact Nat.zero_add _
theorem names2 {x ig : Addr} {fv : Value} {fo : Option Str} {m : Str} {um : Tok} {kv : List (Str × Value)} {kl : List (Str × Bool)} (D : Sl prog w h₀ h ((ig, .dct kv) :: fs)) (G : Gd w.params hK h₀) (hroom : A.depth + 1 < recursionLimit) (hA : A.handled = none)
   (RD : RdAt prog w h₀ x ig) (hf : PathIs fo fv) (VK : Rel BV kv kl) (hz : kl.length ≤ 50) (hm : m.length ≤ 3)
   (k : ∀ kv' u h' tk, Rel BV kv' (stepK kl m fo) → Sl prog w h₀ h' ((ig, .dct kv') :: fs) → R (.ok (.ret (.int (if stepB kl m fo then 1 else 0) u))) ⟨h', gs, d, tk, os⟩) :
   codeAny (model prog w) A (.call (.ref 76) ⟨[.ref x, fv, .str m um], []⟩) R ⟨h, gs, d, t, os⟩ := by
  have hl := VK.len
  refine names D G hroom hA RD hf (by omega) hm (fun v h' tk e D => ?_) (fun u u' h' tk e D => ?_)
  · rcases VK.look m with ⟨e', _⟩ | ⟨v', b, e', hb, u, rfl⟩
    · rw [e] at e'; cases e'
    · rw [e] at e'; cases e'
      have := k kv u h' tk (by unfold stepK; rw [hb]; exact VK) D
      rwa [show stepB kl m fo = b by unfold stepB; rw [hb]; rfl] at this
  · rcases VK.look m with ⟨_, hb⟩ | ⟨v', b, e', _⟩
    · have := k _ u' h' tk (by unfold stepK; rw [hb]; exact VK.put ⟨u, by rw [← vb_of]⟩) D
      rwa [show stepB kl m fo = vb m fo by unfold stepB; rw [hb]; rfl, ← vb_of] at this
    · rw [e] at e'; cases e'
theorem counted {st ev x ig cd : Addr} {bs : List Bool} {ub um : Tok} {m : Str} {fv : Value} {fo : Option Str} {kv cv : List (Str × Value)} {kl : List (Str × Bool)} {cl : List (Str × Int)}
   (D : Sl prog w h₀ h ((ig, .dct kv) :: (cd, .dct cv) :: fs)) (G : Gd w.params hK h₀) (hroom : A.depth + 2 < recursionLimit) (hA : A.handled = none) (RD : RdAt prog w h₀ x ig)
   (hst : h₀.get? st = some (tupO [.ref x, .ref cd, .str (bitsT bs) ub])) (hev : h₀.get? ev = some (tupO [.str m um, fv])) (hf : PathIs fo fv) (VK : Rel BV kv kl) (VC : Rel IV cv cl) (hz : kl.length ≤ 50) (hz' : cl.length ≤ 50) (hb : bs.length ≤ 50) (hm : m.length ≤ 3)
   (k : ∀ h₁ h' tk st' kv' cv' u', (∀ b o, h₀.get? b = some o → h₁.get? b = some o) → h₁.get? st' = some (tupO [.ref x, .ref cd, .str (bitsT (bs ++ [stepB kl m fo])) u']) → Rel BV kv' (stepK kl m fo) → Rel IV cv' (stepC cl m (stepB kl m fo)) → Sl prog w h₁ h' ((ig, .dct kv') :: (cd, .dct cv') :: fs) → R (.ok (.ret (.ref st'))) ⟨h', gs, d, tk, os⟩) :
   codeAny (model prog w) A (.call (.ref 141) ⟨[.ref st, .ref ev], []⟩) R ⟨h, gs, d, t, os⟩ := by
  obtain ⟨dx, od, ms, ds, ud, hx, hdx, l1, l2, l3, l4, SA, hds⟩ := id RD
  refine r_call [(Str.ofString "state", .ref st), (Str.ofString "event", .ref ev)] [(Str.ofString "event", .ref ev), (Str.ofString "state", .ref st)] 2 D G (fn_141 w.params) (d00 hroom) (by kernel_rfl) ⟨rfl, rfl⟩ (by kernel_rfl) (fun L h' D => ?_)
  with_unfolding_all change wpAny _ _ (execs (_ :: _) _) _ _ _
  repeat' (first
  | walk_at "b W"
    | walk_at "b W2"
  | ((with_reducible refine' r_unpack D (isTup_of hst) ?hA ?q1 ?q2 (fun h' D => ?_)); (case hA => exact hA); (case q1 => rfl); (case q2 => rfl))
  | ((with_reducible refine' r_titem D ?ho ?a ?b ?c ?d ?_ ?e); (case ho => exact isTup_of hev); (case a => decide); (case b => decide); (case c => exact rfl); (case d => exact rfl); (case e => with_unfolding_all rfl))
  | ((with_reducible refine' r_meth (f := 76) D G hx hdx ?q1 ?q2 ?q3 ?q4 l4 ?_); (case q1 => kernel_rfl); (case q2 => kernel_rfl); (case q3 => kernel_rfl); (case q4 => kernel_rfl))
  | fail)
  have D2 := D.front (.s .z)
  dsimp only [List.eraseIdx_cons_succ, List.eraseIdx_cons_zero] at D2
  refine names2 D2 G (by show A.depth + 1 + 1 < _; exact dk hroom (Nat.le_of_ble_eq_true rfl)) hA RD hf VK hz hm (fun kv' un h' t VK' D => ?_)
  have hcl := VC.len
  generalize hb : stepB kl m fo = b at k ⊢
  repeat' (first
  | walk_at "b W"
    | walk_at "b W2"
  | with_reducible refine r_str01 (fun t' t => ?_)
  | ((with_reducible refine' r_titem D ?ho ?a ?b ?c ?d ?_ ?e); (case ho => exact isTup_of hev); (case a => decide); (case b => decide); (case c => exact rfl); (case d => exact rfl); (case e => with_unfolding_all rfl))
  | fail)
  have hbl := bits_len bs
  have h1 : ∀ b, (bitT b).length = 1 := fun b => by cases b <;> decide +kernel
  cases b
  · refine ite_pos (by decide +kernel) ?_
    repeat' (first
  | walk_at "b W"
    | ((with_reducible refine' r_cget D ?hi G.sm VC (fun u => ?_)); (case hi => walk_at "b AT"))
      | walk_at "b W2"
    | ((with_reducible refine r_sadd ?hq (fun t' t => ?_)); (case hq => show (bitsT bs).length + (bitT false).length ≤ _; rw [h1]; omega))
    | ((with_reducible refine' r_titem D ?ho ?a ?b ?c ?d ?_ ?e); (case ho => exact isTup_of hev); (case a => decide); (case b => decide); (case c => exact rfl); (case d => exact rfl); (case e => with_unfolding_all rfl))
    | fail)
    refine D.out (fun h₁ e1 e2 D => ?_)
    exact k h₁ _ _ _ _ _ _ e1 (by rw [bits_snoc]; exact e2) VK' (VC.put ⟨_, rfl⟩) (D.sub (List.Sublist.cons₂ _ (List.sublist_cons_self ..)))
  · refine ite_neg (by decide +kernel) ?_
    repeat' (first
  | walk_at "b W"
      | walk_at "b W2"
    | ((with_reducible refine r_sadd ?hq (fun t' t => ?_)); (case hq => show (bitsT bs).length + (bitT true).length ≤ _; rw [h1]; omega))
    | ((with_reducible refine' r_titem D ?ho ?a ?b ?c ?d ?_ ?e); (case ho => exact isTup_of hev); (case a => decide); (case b => decide); (case c => exact rfl); (case d => exact rfl); (case e => with_unfolding_all rfl))
    | fail)
    refine D.out (fun h₁ e1 e2 D => ?_)
    exact k h₁ _ _ _ _ _ _ e1 (by rw [bits_snoc]; exact e2) VK' VC (D.sub (List.Sublist.cons₂ _ (List.sublist_cons_self ..)))
end
end Mine
end PCO
section PRE
namespace Mine
section
variable {prog : Program} {w : World} {A : Around} {h₀ h : Heap} {fs : List (Addr × Cl)} {gs : Array GenState} {d : Drawn} {t : Nat} {os : OsState} {E : Value → Shared → Prop} {R : Result → Shared → Prop} {env : Env}
structure St where
  kl : List (Str × Bool)
  cl : List (Str × Int)
  bs : List Bool
noncomputable def St.step (s : St) (n : Int) : St := ⟨stepK s.kl (evMod n) (evPath n), stepC s.cl (evMod n) (stepB s.kl (evMod n) (evPath n)), s.bs ++ [stepB s.kl (evMod n) (evPath n)]⟩
noncomputable def St.run (s : St) (ns : List Int) : St := ns.foldl St.step s
theorem St.snoc (s : St) (ns : List Int) (n : Int) : s.run (ns ++ [n]) = (s.run ns).step n := by unfold St.run; rw [List.foldl_append]; rfl
theorem St.lens (s : St) (ns : List Int) : (s.run ns).kl.length ≤ s.kl.length + ns.length ∧ (s.run ns).cl.length ≤ s.cl.length + ns.length ∧ (s.run ns).bs.length = s.bs.length + ns.length := by
  induction ns generalizing s with
  | nil => exact ⟨Nat.le_refl _, Nat.le_refl _, rfl⟩
  | cons n ns ih =>
    have a := ih (s.step n)
    have h1 : (s.step n).kl.length ≤ s.kl.length + 1 := by unfold St.step stepK; dsimp only; split; omega; exact put_len ..
    have h2 : (s.step n).cl.length ≤ s.cl.length + 1 := by unfold St.step stepC; dsimp only; split; omega; exact put_len ..
    have h3 : (s.step n).bs.length = s.bs.length + 1 := by unfold St.step; simp
    rw [List.length_cons]
    refine ⟨?_, ?_, ?_⟩
    · exact Nat.le_trans a.1 (by omega)
    · exact Nat.le_trans a.2.1 (by omega)
    · exact a.2.2.trans (by omega)
noncomputable def StAt (hb : Heap) (st x cd : Addr) (s : St) (kv cv : List (Str × Value)) : Prop := (∃ u, hb.get? st = some (tupO [.ref x, .ref cd, .str (bitsT s.bs) u])) ∧ Rel BV kv s.kl ∧ Rel IV cv s.cl
theorem reduced {es st x ig cd : Addr} {ns : List Int} {vs : List Value} {s : St} {kv cv : List (Str × Value)} (D : Sl prog w h₀ h ((ig, .dct kv) :: (cd, .dct cv) :: fs)) (G : Gd w.params hK h₀) (hroom : A.depth + 3 < recursionLimit) (hA : A.handled = none) (RD : RdAt prog w h₀ x ig)
   (hl : h₀.IsList es vs.toArray) (hv : EvsAre h₀ ns vs) (S0 : StAt h₀ st x cd s kv cv) (hz : s.kl.length + ns.length ≤ 50) (hz' : s.cl.length + ns.length ≤ 50) (hz'' : s.bs.length + ns.length ≤ 50)
   (k : ∀ h₁ h' tk st' kv' cv', (∀ b o, h₀.get? b = some o → h₁.get? b = some o) → StAt h₁ st' x cd (s.run ns) kv' cv' → Sl prog w h₁ h' ((ig, .dct kv') :: (cd, .dct cv') :: fs) → R (.ok (.ret (.ref st'))) ⟨h', gs, d, tk, os⟩) :
   codeAny (model prog w) A (.call (.ref 99) ⟨[.ref 141, .ref es, .ref st], []⟩) R ⟨h, gs, d, t, os⟩ := by
  obtain ⟨⟨ub, hst⟩, VK, VC⟩ := id S0
  refine r_callB [(Str.ofString "function", .ref 141), (Str.ofString "sequence", .ref es), (Str.ofString "initial", .ref st)] [(Str.ofString "initial", .ref st), (Str.ofString "sequence", .ref es), (Str.ofString "function", .ref 141)] 3 D G (fn_99 w.params) (d00 hroom) (binds_K (o := tupO [.ref 91]) (G.keeps D.keep).X rfl (by kernel_rfl) rfl rfl rfl) ⟨rfl, rfl⟩ (by kernel_rfl) (fun L h' D => ?_)
  with_unfolding_all change wpAny _ _ (execs (_ :: _) _) _ _ _
  repeat' (first
  | walk_at "b W"
    | walk_at "b W2"
  | ((with_reducible refine' r_iter D ?hl (fun I h' D => ?_)); (case hl => exact hl))
  | ((with_reducible refine' r_isnot D hst ?hy ?q1 ?q2 ?_); (case hy => exact G.X 91 { cls := .type "object" } (by kernel_rfl)); (case q1 => exact fun z => absurd (Value.type.inj z) (by decide)); (case q2 => exact fun z => absurd (Value.type.inj z) (by decide)))
  | fail)
  have D := D.front (.s .z)
  dsimp only [List.eraseIdx_cons_succ, List.eraseIdx_cons_zero] at D
  have D := D.front (.s .z)
  dsimp only [List.eraseIdx_cons_succ, List.eraseIdx_cons_zero] at D
  refine r_forI (fun i hb fs' => (∀ b o, h₀.get? b = some o → hb.get? b = some o) ∧ ∃ fl st kv cv, fs' = (L, .frm fl) :: (ig, .dct kv) :: (cd, .dct cv) :: fs ∧ GetI fl (S "function") (.ref 141) ∧ GetI fl (S "value") (.ref st) ∧ StAt hb st x cd (s.run (ns.take i)) kv cv) D hA hl (fun _ => rfl) ⟨fun _ _ e => e, _, _, _, _, rfl, by walk_at "b GT", by walk_at "b GT", S0⟩ ?_ ?_
  · rintro En i v hb h _ t hvi ⟨up, fl, st, kv, cv, rfl, g1, g2, S1⟩ hlb D
    obtain ⟨n, hn, ev, um, fv, rfl, hev, hf⟩ := (hv.up up).get hvi
    have G := G.keeps up
    obtain ⟨⟨u1, hst⟩, VK, VC⟩ := id S1
    have lens := s.lens (ns.take i)
    have hi : i < ns.length := (List.getElem?_eq_some_iff.mp hn).1
    have hlt : (ns.take i).length = i := by rw [List.length_take]; omega
    rw [hlt] at lens
    repeat' (first
  | walk_at "b W"
      | walk_at "b W2"
    | fail)
    show codeAny _ _ (.call (.ref 141) ⟨[.ref st, .ref ev], []⟩) _ _
    refine counted D.half G (by show A.depth + 1 + 2 < _; exact dk hroom (Nat.le_of_ble_eq_true rfl)) hA (RD.up up) hst hev hf VK VC (by omega) (by omega) (by omega) (mods_len _) (fun h₁ h' t st' kv' cv' u' e1 hst' VK' VC' D => ?_)
    repeat' (first
  | walk_at "b W"
      | walk_at "b W2"
    | fail)
    exact ⟨h₁, _, _, _, rfl, ⟨fun b o e => e1 _ _ (up _ _ e), _, st', kv', cv', rfl, by walk_at "b GT", by walk_at "b GT", ⟨u', by rw [List.take_succ, hn]; exact (s.snoc _ n).symm ▸ hst'⟩, by rw [List.take_succ, hn]; exact (s.snoc _ n).symm ▸ VK', by rw [List.take_succ, hn]; exact (s.snoc _ n).symm ▸ VC'⟩, IsList.kp hlb e1, D.half⟩
  · rintro hb h _ t ⟨up, fl, st, kv, cv, rfl, g1, g2, S1⟩ D
    have hlen := hv.length
    rw [hlen, List.take_length] at S1
    repeat' (first
  | walk_at "b W"
      | walk_at "b W2"
    | fail)
    exact k hb _ _ st kv cv up S1 D.tail
end
end Mine
end PRE
section PLB
namespace Mine
section
variable {prog : Program} {w : World} {A : Around} {h₀ h h' : Heap} {fs : List (Addr × Cl)} {gs : Array GenState} {d : Drawn} {t : Nat} {os : OsState} {E : Value → Shared → Prop} {R : Result → Shared → Prop} {env : Env}
theorem r_ladd {a b : Addr} {vs ws : List Value} {Q : Value → Shared → Prop} (D : Sl prog w h₀ h fs) (ha : h.IsList a vs.toArray) (hb : h.IsList b ws.toArray) (hz : vs.length + ws.length ≤ 1000) (k : ∀ x h', Sl prog w h₀ h' ((x, .lst (vs ++ ws)) :: fs) → Q (.ref x) ⟨h', gs, d, t, os⟩) :
   wpAny (model prog w) A (binaryOp .Add (.ref a) (.ref b)) Q E ⟨h, gs, d, t, os⟩ := by
  obtain ⟨⟨cls, dd, data, sl⟩, ho, hc, n, hd⟩ := ha
  obtain ⟨⟨cls2, dd2, data2, sl2⟩, ho2, hc2, n2, hd2⟩ := hb
  simp only at hc hd hc2 hd2
  subst hc hd hc2 hd2
  refine concat_meets (s := ⟨h, gs, d, t, os⟩) ⟨_, ho, rfl⟩ ⟨_, ho2, rfl⟩ noFill_list_add seq_list_add PySem.F.slot_list_add PySem.F.entry_list_add (PySem.F.args_list_add_2 _ _) (list_addW a b vs.toArray ws.toArray n n2 dd dd2 sl sl2 (by rw [List.size_toArray, List.size_toArray, sizeLine_eq]; omega)) ⟨ho, ho2, ?_⟩
  rw [show vs.toArray ++ ws.toArray = (vs ++ ws).toArray by simp]
  exact k _ _ (D.push ⟨_, Heap.get?_push_size _ rfl⟩)
theorem pick_upto (vs : List Value) (n : Nat) : slicePick vs.toArray none (some (n : Int)) none = (vs.take n).toArray := by
  by_cases hn : n ≤ vs.length
  · rw [slicePick_upto _ _ (by simpa using hn)]
  · have e : sliceBounds none (some (n : Int)) none vs.toArray.size = sliceBounds none (some (vs.length : Int)) none vs.toArray.size := by
      simp only [sliceBounds, Option.getD_none, Option.getD_some, List.size_toArray]
      congr 1
      congr 1
      repeat' split
      all_goals omega
    have e2 := slicePick_upto vs.toArray vs.length (by simp)
    unfold slicePick at e2 ⊢
    rw [e, e2]
    simp [List.take_of_length_le (by omega : vs.length ≤ n)]
theorem r_lslice {value slice : Expr} {l : Addr} {vs : List Value} {n : Nat} {uj : Tok} {Q : Value → Shared → Prop} (D : Sl prog w h₀ h fs) (hl : h.IsList l vs.toArray) (hz : vs.length ≤ 1000) (k : ∀ x h', Sl prog w h₀ h' ((x, .lst (vs.take n)) :: fs) → Q (.ref x) ⟨h', gs, d, t, os⟩)
   (hs : subscripted slice false (.ref l) (.ref h.objs.size) = operate [.ref h.objs.size, .ref l] (getItem (.ref l) (.ref h.objs.size)) := by with_unfolding_all rfl) (ht : ∀ r, letTemporaryGo value (.ref l) r = pure () := by intro _; with_unfolding_all rfl) :
   wpAny (model prog w) A (subscriptTail value slice (.ref l) (.ref h.objs.size)) Q E ⟨h.push { cls := .type "slice", data := .fields #[.none, .int n uj, .none] }, gs, d, t, os⟩ := by
  refine subscriptTail_ops (s := ⟨h.push { cls := .type "slice", data := .fields #[.none, .int n uj, .none] }, gs, d, t, os⟩) (Heap.IsList.typeIs (hl.push _)) list_getitem_lookup
    (wpAny_getItem_list_slice (s := ⟨h.push { cls := .type "slice", data := .fields #[.none, .int n uj, .none] }, gs, d, t, os⟩) (hl.push _) (Heap.IsSliceOf.new ..) .none (.int _ _) .none (by simp) ?_ (by rw [List.size_toArray, sizeLine_eq]; omega)) hs ht
  rw [pick_upto]
  have D := D.push (o := { cls := .type "slice", data := .fields #[.none, .int n uj, .none] }) (c := .obj { cls := .type "slice", data := .fields #[.none, .int n uj, .none] }) (Heap.get?_push_size _ rfl)
  have D := D.push (o := { cls := .type "list", data := .seq (vs.take n).toArray }) (c := .lst (vs.take n)) ⟨_, Heap.get?_push_size _ rfl⟩
  exact k _ _ (D.sub (List.Sublist.cons_cons _ (List.sublist_cons_self ..)))
theorem eqCnt {s : Shared} {a b : Addr} {m m' : Str} {n n' : Int} (ha : Cnt s.heap a m n) (hb : Cnt s.heap b m' n') (hu : A.units < 9900) : SeqAt.EqAt A s (.ref a) (.ref b) (m == m' && n == n') := by
  obtain ⟨u, v, ea⟩ := ha
  obtain ⟨u', v', eb⟩ := hb
  by_cases e : a = b
  · subst e
    rw [ea] at eb
    have e2 := congrArg (fun o : Obj => match o.data with | .seq xs _ => xs.toList | _ => []) (Option.some.inj eb)
    have e3 : [Value.str m u, .int n v] = [.str m' u', .int n' v'] := e2
    cases e3
    rw [beq_self_eq_true, beq_self_eq_true]
    exact SeqAt.EqAt.same _
  · refine SeqAt.EqAt.of_refs e ?_
    have := SeqAt.RcAt.tuples (A := A) (s := s) (l := a) (b := b) (items := #[.str m u, .int n v]) (items2 := #[.str m' u', .int n' v']) (e := fun j => if j = 0 then m == m' else n == n') ⟨_, ea, rfl, _, rfl⟩ ⟨_, eb, rfl, _, rfl⟩ hu (fun j h1 h2 => by
      have : j = 0 ∨ j = 1 := by simp at h1; omega
      rcases this with rfl | rfl
      · exact SeqAt.EqAt.str_str _ _ _ _
      · exact SeqAt.EqAt.int_int _ _ _ _)
    simpa [List.range, List.range.loop] using this
theorem r_index {j : Nat} {x : Addr} {l : Addr} {o : Nat → Addr} {m : Nat → Str} {n : Nat → Int} {mx : Str} {nx : Int} {Q : Value → Shared → Prop} (D : Sl prog w h₀ h fs) (hl : h₀.IsList l [Value.ref (o 0), .ref (o 1), .ref (o 2)].toArray) (rows : ∀ i, i < 3 → Cnt h₀ (o i) (m i) (n i)) (hx : Cnt h₀ x mx nx) (hu : A.units + 3 < 9900)
   (hj : j < 3) (hit : (m j == mx && n j == nx) = true) (hno : ∀ i, i < j → (m i == mx && n i == nx) = false) (k : ∀ u, Q (.int j u) ⟨h, gs, d, t + 1, os⟩) : wpAny (model prog w) A (call (.builtin "list.index") [.ref l, .ref x]) Q E ⟨h, gs, d, t, os⟩ := by
  obtain ⟨⟨cls, dd, data, sl⟩, ho, hc, ne, hd⟩ := IsList.kp hl D.keep
  simp only at hc hd
  subst hc hd
  have rows := fun i hi => (rows i hi).up D.keep
  have hx := hx.up D.keep
  have g : ∀ i (hi : i < 3), ([Value.ref (o 0), .ref (o 1), .ref (o 2)].toArray)[i]'hi = .ref (o i) := fun i hi => by
    have : i = 0 ∨ i = 1 ∨ i = 2 := c3 (by assumption)
    rcases this with rfl | rfl | rfl <;> rfl
  have uniq : ∀ a m1 n1 m2 n2, Cnt h a m1 n1 → Cnt h a m2 n2 → m1 = m2 ∧ n1 = n2 := fun a m1 n1 m2 n2 x y => by
    obtain ⟨u, v, ea⟩ := x
    obtain ⟨u', v', eb⟩ := y
    rw [ea] at eb
    have e2 := congrArg (fun o : Obj => match o.data with | .seq xs _ => xs.toList | _ => []) (Option.some.inj eb)
    have e3 : [Value.str m1 u, .int n1 v] = [.str m2 u', .int n2 v'] := e2
    cases e3
    exact ⟨rfl, rfl⟩
  -- the answers by the value itself
  let e : Value → Bool := fun y => @decide (∃ i, i < 3 ∧ y = .ref (o i) ∧ (m i == mx && n i == nx) = true) (Classical.propDecidable _)
  have ee : ∀ i, i < 3 → e (.ref (o i)) = (m i == mx && n i == nx) := fun i hi => by
    show @decide _ (Classical.propDecidable _) = _
    cases q : (m i == mx && n i == nx) with
    | true => exact @decide_eq_true _ (Classical.propDecidable _) ⟨i, hi, rfl, q⟩
    | false =>
      refine @decide_eq_false _ (Classical.propDecidable _) ?_
      rintro ⟨i', hi', e', q'⟩
      have e' : o i = o i' := Value.ref.inj e'
      obtain ⟨r1, r2⟩ := uniq _ _ _ _ _ (rows i hi) (e' ▸ rows i' hi')
      rw [r1, r2, q'] at q
      cases q
  refine call_meets (s := ⟨h, gs, d, t, os⟩) PySem.F.slot_list_index ⟨_, ho, rfl⟩ PySem.F.entry_list_index (PySem.F.args_list_index_2 _ _)
    (SeqAt.list_indexAt l [Value.ref (o 0), .ref (o 1), .ref (o 2)].toArray ne dd sl (.ref x) e j hj (by omega) ?_ ?_) ⟨ho, fun y hy => ?_, k _⟩
  · rw [g j hj, ee j hj, hit]
  · intro i hi hij
    rw [g i hi, ee i hi, hno i hij]
  · have : ∃ i, i < 3 ∧ y = .ref (o i) := by
      simp only [List.mem_toArray, List.mem_cons, List.mem_nil_iff, or_false] at hy
      rcases hy with rfl | rfl | rfl
      · exact ⟨0, by decide, rfl⟩
      · exact ⟨1, by decide, rfl⟩
      · exact ⟨2, by decide, rfl⟩
    obtain ⟨i, hi, rfl⟩ := this
    rw [ee i hi]
    exact eqCnt (rows i hi) hx (by show A.units + 1 < _; exact d0 hu (Nat.le_of_ble_eq_true rfl))
end
end Mine
end PLB
section PLE2
namespace Mine
theorem All2.len {α β : Type} {P : α → β → Prop} : ∀ {as : List α} {bs : List β}, All2 P as bs → as.length = bs.length
  | [], [], _ => rfl
  | _ :: _, _ :: _, x => congrArg (· + 1) (All2.len x.2)
theorem All2.at {α β : Type} {P : α → β → Prop} : ∀ {as : List α} {bs : List β} {j : Nat} {a : α}, All2 P as bs → as[j]? = some a → ∃ b, bs[j]? = some b ∧ P a b := by
  intro as
  induction as with
  | nil => exact fun {bs j a} x e => by cases e
  | cons a as ih =>
    exact fun {bs j a'} x e => by
      cases bs with
      | nil => exact False.elim x
      | cons b bs => cases j with
        | zero => exact ⟨b, rfl, Option.some.inj e ▸ x.1⟩
        | succ j => exact ih (j := j) x.2 e
theorem All2.imp {α β : Type} {P P' : α → β → Prop} (k : ∀ a b, P a b → P' a b) : ∀ {as : List α} {bs : List β}, All2 P as bs → All2 P' as bs
  | [], [], _ => trivial
  | _ :: _, _ :: _, x => ⟨k _ _ x.1, All2.imp k x.2⟩
section
variable {prog : Program} {w : World} {A : Around} {h₀ h h' : Heap} {fs : List (Addr × Cl)} {gs : Array GenState} {d : Drawn} {t : Nat} {os : OsState} {E : Value → Shared → Prop} {R : Result → Shared → Prop} {env : Env} {s : Shared}
theorem eqLists {l1 l2 : Addr} {xs ys : List Value} (h1 : s.heap.IsList l1 xs.toArray) (h2 : s.heap.IsList l2 ys.toArray) (hlen : xs.length = ys.length) (he : ∀ (j : Nat) (x y : Value), xs[j]? = some x → ys[j]? = some y → SeqAt.EqAt A.in1 s x y true) (hu : A.units < 9900) :
   SeqAt.RcAt A s (.ref l1) (.ref l2) true ∧ SeqAt.RcNeAt A s (.ref l1) (.ref l2) false := by
  have he' : ∀ j (h1 : j < xs.toArray.size) (h2 : j < ys.toArray.size), SeqAt.EqAt A.in1 s xs.toArray[j] ys.toArray[j] ((fun _ => true) j) := fun j a b => he j _ _ (by simp at a; simp [a]) (by simp at b; simp [b])
  have e : (List.range xs.toArray.size).all (fun _ => true) = true := List.all_eq_true.mpr fun _ _ => rfl
  have z1 := SeqAt.RcAt.lists h1 h2 (by simpa using hlen) hu he'
  have z2 := SeqAt.RcNeAt.lists h1 h2 (by simpa using hlen) hu he'
  rw [e] at z1 z2
  exact ⟨z1, z2⟩
theorem eqRef {l1 l2 : Addr} (h : SeqAt.RcAt A s (.ref l1) (.ref l2) true) : SeqAt.EqAt A s (.ref l1) (.ref l2) true := by
  by_cases e : l1 = l2
  · subst e; exact SeqAt.EqAt.same _
  · exact SeqAt.EqAt.of_refs e h
theorem eqBools {l1 l2 : Addr} {bs : List Bool} (h1 : s.heap.IsList l1 (bs.map Value.bool).toArray) (h2 : s.heap.IsList l2 (bs.map Value.bool).toArray) (hu : A.units < 9900) : SeqAt.EqAt A s (.ref l1) (.ref l2) true :=
  eqRef (eqLists h1 h2 rfl (fun j x y e1 e2 => by
    rw [e1] at e2
    cases e2
    exact SeqAt.EqAt.same _) hu).1
theorem r_neGrid {l1 l2 : Addr} {as bs : List Addr} {gs1 : List (List Bool)} {Q : Value → Shared → Prop} (D : Sl prog w h₀ h fs) (h1 : h.IsList l1 (as.map Value.ref).toArray) (h2 : h.IsList l2 (bs.map Value.ref).toArray) (a1 : All2 (fun a g => h.IsList a (g.map Value.bool).toArray) as gs1) (b1 : All2 (fun a g => h.IsList a (g.map Value.bool).toArray) bs gs1)
   (hu : A.units + 2 < 9900) (k : Q (.bool false) ⟨h, gs, d, t, os⟩) : wpAny (model prog w) A (compareOp .NotEq (.ref l1) (.ref l2)) Q E ⟨h, gs, d, t, os⟩ := by
  refine (eqLists (s := ⟨h, gs, d, t, os⟩) h1 h2 (by rw [List.length_map, List.length_map, a1.len, b1.len]) (fun j x y e1 e2 => ?_) (by omega)).2 prog w E Q k
  rw [List.getElem?_map] at e1 e2
  obtain ⟨a, ea, rfl⟩ := Option.map_eq_some_iff.mp e1
  obtain ⟨b, eb, rfl⟩ := Option.map_eq_some_iff.mp e2
  obtain ⟨g1, eg1, z1⟩ := a1.at ea
  obtain ⟨g2, eg2, z2⟩ := b1.at eb
  rw [eg1] at eg2
  cases eg2
  exact eqBools (s := ⟨h, gs, d, t, os⟩) z1 z2 (by show A.units + 1 < _; exact d0 hu (Nat.le_of_ble_eq_true rfl))
theorem eqRows {l1 l2 : Addr} {a b : Nat → Addr} {m : Nat → Str} {n : Nat → Int} (h1 : s.heap.IsList l1 [Value.ref (a 0), .ref (a 1), .ref (a 2)].toArray) (h2 : s.heap.IsList l2 [Value.ref (b 0), .ref (b 1), .ref (b 2)].toArray)
   (r1 : ∀ i, i < 3 → Cnt s.heap (a i) (m i) (n i)) (r2 : ∀ i, i < 3 → Cnt s.heap (b i) (m i) (n i)) (hu : A.units + 2 < 9900) : SeqAt.RcAt A s (.ref l1) (.ref l2) true ∧ SeqAt.RcNeAt A s (.ref l1) (.ref l2) false := by
  refine eqLists h1 h2 rfl (fun j x y e1 e2 => ?_) (by omega)
  have hj : j < 3 := (List.getElem?_eq_some_iff.mp e1).1
  have : x = .ref (a j) ∧ y = .ref (b j) := by
    have : j = 0 ∨ j = 1 ∨ j = 2 := c3 (by assumption)
    rcases this with rfl | rfl | rfl <;> exact ⟨(Option.some.inj e1).symm, (Option.some.inj e2).symm⟩
  obtain ⟨rfl, rfl⟩ := this
  have z := eqCnt (A := A.in1) (r1 j hj) (r2 j hj) (by show A.units + 1 < _; exact d0 hu (Nat.le_of_ble_eq_true rfl))
  rwa [beq_self_eq_true, beq_self_eq_true] at z
theorem r_neRows {l1 l2 : Addr} {a b : Nat → Addr} {m : Nat → Str} {n : Nat → Int} {Q : Value → Shared → Prop} (D : Sl prog w h₀ h fs) (h1 : h.IsList l1 [Value.ref (a 0), .ref (a 1), .ref (a 2)].toArray) (h2 : h₀.IsList l2 [Value.ref (b 0), .ref (b 1), .ref (b 2)].toArray)
   (r1 : ∀ i, i < 3 → Cnt h₀ (a i) (m i) (n i)) (r2 : ∀ i, i < 3 → Cnt h₀ (b i) (m i) (n i)) (hu : A.units + 2 < 9900) (k : Q (.bool false) ⟨h, gs, d, t, os⟩) : wpAny (model prog w) A (compareOp .NotEq (.ref l1) (.ref l2)) Q E ⟨h, gs, d, t, os⟩ :=
  (eqRows (s := ⟨h, gs, d, t, os⟩) h1 (IsList.kp h2 D.keep) (fun i hi => (r1 i hi).up D.keep) (fun i hi => (r2 i hi).up D.keep) hu).2 prog w E Q k
theorem r_eqRows {l1 l2 : Addr} {a b : Nat → Addr} {m : Nat → Str} {n : Nat → Int} {Q : Value → Shared → Prop} (D : Sl prog w h₀ h fs) (h1 : h.IsList l1 [Value.ref (a 0), .ref (a 1), .ref (a 2)].toArray) (h2 : h₀.IsList l2 [Value.ref (b 0), .ref (b 1), .ref (b 2)].toArray)
   (r1 : ∀ i, i < 3 → Cnt h₀ (a i) (m i) (n i)) (r2 : ∀ i, i < 3 → Cnt h₀ (b i) (m i) (n i)) (hu : A.units + 2 < 9900) (k : Q (.bool true) ⟨h, gs, d, t, os⟩) : wpAny (model prog w) A (compareOp .Eq (.ref l1) (.ref l2)) Q E ⟨h, gs, d, t, os⟩ :=
  (eqRows (s := ⟨h, gs, d, t, os⟩) h1 (IsList.kp h2 D.keep) (fun i hi => (r1 i hi).up D.keep) (fun i hi => (r2 i hi).up D.keep) hu).1 prog w E Q k
end
end Mine
end PLE2
section PLK
namespace Mine
section
variable {prog : Program} {w : World} {A : Around} {h₀ h h' : Heap} {fs : List (Addr × Cl)} {gs : Array GenState} {d : Drawn} {t : Nat} {os : OsState} {E : Value → Shared → Prop} {R : Result → Shared → Prop} {env : Env} {use : Option (Value → Sem Unit)} {iter : Expr} {p1 p2 p3 p4 p5 p6 p7 p8 p9 pos : Pos} {more : List (Str × Const)} {k1 k2 : Nat}
theorem strs_snoc {v : Str} {u : Tok} : ∀ {vs : List Value} {xs : List Str}, StrsAre vs xs → StrsAre (vs ++ [.str v u]) (xs ++ [v]) := PySem.W.kct_snoc
theorem strs3 {vs : List Value} {a b c : Str} (h : StrsAre vs [a, b, c]) : ∃ u0 u1 u2, vs = [.str a u0, .str b u1, .str c u2] := by
  cases h with
  | cons _ u0 h => cases h with
    | cons _ u1 h => cases h with
      | cons _ u2 h => cases h; exact ⟨_, _, _, rfl⟩
theorem knownC {I l : Addr} {o : Nat → Addr} {m : Nat → Str} {n : Nat → Int} {Q : Value → Shared → Prop} (D : Sl prog w h₀ h ((I, .itr l 0) :: fs)) (hA : A.handled = none) (hl : h₀.IsList l [Value.ref (o 0), .ref (o 1), .ref (o 2)].toArray) (rows : ∀ j, j < 3 → Cnt h₀ (o j) (m j) (n j))
   (done : ∀ h t lf acc C u0 u1 u2, Sl prog w h₀ h ((C, .frm lf) :: (acc, .lst [.str (m 0) u0, .str (m 1) u1, .str (m 2) u2]) :: fs) → compPost (model prog w) A E use Q (.ref acc) C (.ok .next) ⟨h, gs, d, t, os⟩) :
   LcNext prog w A env E (.ListComp (.Name (Str.ofString "module") p1) [⟨.Tuple [.Name (Str.ofString "module") p2, .Name (Str.ofString "count") p3] 0 p4, iter, [], 0⟩] ⟨.function, [(Str.ofString ".0", .local), (Str.ofString "module", .local), (Str.ofString "count", .local)], false, false, more⟩ pos)
     ⟨.function, [(Str.ofString ".0", .local), (Str.ofString "module", .local), (Str.ofString "count", .local)], false, false, more⟩ [] use Q (.ref I) ⟨h, gs, d, t, os⟩ := by
  refine r_lcI (fun c hb fs' ys => ∃ i, c + i = 3 ∧ hb = h₀ ∧ fs' = (I, .itr l i) :: fs ∧ StrsAre ys ([m 0, m 1, m 2].take i)) (fun hb fs' ys => hb = h₀ ∧ fs' = fs ∧ StrsAre ys [m 0, m 1, m 2]) 3 D ⟨0, rfl, rfl, rfl, .nil⟩ (by kernel_rfl) rfl ?_ ?_ ?_ ?_
  · rintro c _ _ ys ⟨i, hn, rfl, rfl, hs⟩
    rw [hs.length, List.length_take]
    show min i 3 ≤ 1000
    omega
  · intro E' Q' h t C acc D q
    exact wpAny_pyIter_listiter (s := ⟨h, gs, d, t, os⟩) (D.at (.s (.s .z))) q
  · rintro En c _ h _ t lf ys C acc ⟨i, hn, rfl, rfl, hs⟩ D
    refine n_itr D hA (.s (.s .z)) (IsList.kp hl D.keep) (fun v h' e D => ?_) (fun h' e s => ?_)
    · have hi : i < 3 := (List.getElem?_eq_some_iff.mp e).1
      obtain ⟨rfl, ht⟩ : v = .ref (o i) ∧ [m 0, m 1, m 2].take (i + 1) = [m 0, m 1, m 2].take i ++ [m i] := by
        have : i = 0 ∨ i = 1 ∨ i = 2 := c3 (by assumption)
        rcases this with rfl | rfl | rfl <;> exact ⟨(Option.some.inj e).symm, rfl⟩
      obtain ⟨ur, vr, er⟩ := rows i hi
      dsimp only [List.set_cons_zero, List.set_cons_succ] at D ⊢
      refine wpAny_letOwnedTupleGo_listiter (s := ⟨h', gs, d, t, os⟩) (D.at (.s (.s .z))) ?_
      repeat' (first
  | walk_at "b W"
        | walk_at "b W2"
  | walk_at "b NC"
      | ((with_reducible refine' r_unpack D (isTup_of er) ?hA ?q1 ?q2 (fun h' D => ?_)); (case hA => exact hA); (case q1 => rfl); (case q2 => rfl))
      | fail)
      exact ⟨c - 1, _, _, _, _, _, s_lt hn hi, rfl, ⟨i + 1, s_eq hn hi, rfl, rfl, by rw [ht]; exact strs_snoc hs⟩, D⟩
    · have hi : 3 ≤ i := List.getElem?_eq_none_iff.mp e
      obtain rfl : i = 3 := s_end hn hi
      exact ⟨_, h', _, t, rfl, ⟨rfl, rfl, hs⟩, (D.front (.s (.s .z))).drop s⟩
  · rintro _ h _ t lf acc C ys ⟨rfl, rfl, hs⟩ D
    obtain ⟨u0, u1, u2, rfl⟩ := strs3 hs
    exact done h t lf acc C u0 u1 u2 D
theorem joinC {Lf c kn I ev : Addr} {ic : Nat} {ss : List Str} {vs : List Value} {ns : List Int} {Q : Value → Shared → Prop} (D : Sl prog w h₀ h ((I, .itr ev 0) :: fs)) (hA : A.handled = none) (hc : AtI fs ic (c, .cel (some (.ref kn)))) (hk : KTD.Words h₀ kn ss) (hl : h₀.IsList ev vs.toArray) (hv : EvsAre h₀ ns vs) (hz : ns.length ≤ 30)
   (done : ∀ h t lf acc C ys, StrsAre ys (ns.map fun n => if KTD.inWords (evMod n) ss = true then S "0" else S "1") → Sl prog w h₀ h ((C, .frm lf) :: (acc, .lst ys) :: fs) → compPost (model prog w) A E use Q (.ref acc) C (.ok .next) ⟨h, gs, d, t, os⟩) :
   LcNext prog w A (callEnvC fd163 Lf 163) E (.ListComp (.IfExp (.Compare (.Name (Str.ofString "module") p1) [.In] [.Name (Str.ofString "known") p2] p3) (.Constant (.str (Str.ofString "0")) k1 p4) (.Constant (.str (Str.ofString "1")) k2 p5) p6) [⟨.Tuple [.Name (Str.ofString "module") p7, .Name (Str.ofString "path") p8] 0 p9, iter, [], 0⟩] ⟨.function, [(Str.ofString ".0", .local), (Str.ofString "module", .local), (Str.ofString "path", .local), (Str.ofString "known", .free)], false, false, more⟩ pos)
     ⟨.function, [(Str.ofString ".0", .local), (Str.ofString "module", .local), (Str.ofString "path", .local), (Str.ofString "known", .free)], false, false, more⟩ [(Str.ofString "known", c)] use Q (.ref I) ⟨h, gs, d, t, os⟩ := by
  refine r_lcI (fun c hb fs' ys => ∃ i, c + i = vs.length ∧ hb = h₀ ∧ fs' = (I, .itr ev i) :: fs ∧ StrsAre ys ((ns.take i).map fun n => if KTD.inWords (evMod n) ss = true then S "0" else S "1")) (fun hb fs' ys => hb = h₀ ∧ fs' = fs ∧ StrsAre ys (ns.map fun n => if KTD.inWords (evMod n) ss = true then S "0" else S "1")) vs.length D ⟨0, by omega, rfl, rfl, .nil⟩ (by kernel_rfl) rfl ?_ ?_ ?_ ?_
  · rintro c _ _ ys ⟨i, hn, rfl, rfl, hs⟩
    rw [hs.length, List.length_map, List.length_take]
    omega
  · intro E' Q' h t C acc D q
    exact wpAny_pyIter_listiter (s := ⟨h, gs, d, t, os⟩) (D.at (.s (.s .z))) q
  · rintro En c' _ h _ t lf ys C acc ⟨i, hn, rfl, rfl, hs⟩ D
    refine n_itr D hA (.s (.s .z)) (IsList.kp hl D.keep) (fun v h' e D => ?_) (fun h' e s => ?_)
    · obtain ⟨n, hni, aa, uu, pv, rfl, hea, hpi⟩ := hv.get e
      have hi : i < vs.length := (List.getElem?_eq_some_iff.mp e).1
      have hts : ns.take (i + 1) = ns.take i ++ [n] := by rw [List.take_add_one, hni]; rfl
      dsimp only [List.set_cons_zero, List.set_cons_succ] at D ⊢
      refine wpAny_letOwnedTupleGo_listiter (s := ⟨h', gs, d, t, os⟩) (D.at (.s (.s .z))) ?_
      repeat' (first
  | walk_at "b W"
        | walk_at "b W2"
  | walk_at "b NC"
      | ((with_reducible refine' r_unpack D (isTup_of hea) ?hA ?q1 ?q2 (fun h' D => ?_)); (case hA => exact hA); (case q1 => rfl); (case q2 => rfl))
      | ((with_reducible refine' m_cell (c := c) (v := .ref kn) D ?hl (.s (.s (.s hc))) ?_); (case hl => exact ⟨rfl, by kernel_rfl, by kernel_rfl, by kernel_rfl⟩))
      | with_reducible refine r_inW D hk ?_
      | fail)
      refine iteB (fun hc => ?_) (fun hc => ?_)
      · repeat' (first
  | walk_at "b W"
        | fail)
        exact ⟨c' - 1, _, _, _, _, _, s_lt hn hi, rfl, ⟨i + 1, s_eq hn hi, rfl, rfl, by rw [hts, List.map_append, List.map_cons, if_pos hc]; exact strs_snoc hs⟩, D⟩
      · repeat' (first
  | walk_at "b W"
        | fail)
        exact ⟨c' - 1, _, _, _, _, _, s_lt hn hi, rfl, ⟨i + 1, s_eq hn hi, rfl, rfl, by rw [hts, List.map_append, List.map_cons, if_neg (by rw [hc]; exact Bool.false_ne_true)]; exact strs_snoc hs⟩, D⟩
    · have hi : vs.length ≤ i := List.getElem?_eq_none_iff.mp e
      obtain rfl : i = vs.length := s_end hn hi
      rw [hv.length, List.take_length] at hs
      exact ⟨_, h', _, t, rfl, ⟨rfl, rfl, hs⟩, (D.front (.s (.s .z))).drop s⟩
  · rintro _ h _ t lf acc C ys ⟨rfl, rfl, hs⟩ D
    exact done h t lf acc C ys hs D
noncomputable abbrev itmO (c : Addr) (i n ep : Nat) (ok ov : Value) : Obj := { cls := .type "dict_itemiterator", data := .fields #[.none, .bool false, .ref c, .int i 0, .int n 0, .int ep 0, ok, ov] }
noncomputable abbrev itmX (c : Addr) (i n ep : Nat) (ok ov : Value) (a : Addr) : Obj := { cls := .type "dict_itemiterator", data := .fields #[rawInt a, .bool false, .ref c, .int i 0, .int n 0, .int ep 0, ok, ov] }
theorem Sl.put {a : Addr} {c : Cl} (D : Sl prog w h₀ h fs) (n1 : a ∉ fs.map (·.1)) (n2 : h₀.get? a = none) (x : c.ok prog w h a) : Sl prog w h₀ h ((a, c) :: fs) :=
  ⟨D.keep, fun p hp => by
    rcases List.mem_cons.mp hp with rfl | hp
    · exact ⟨x, n2⟩
    · exact D.ok p hp, List.nodup_cons.mpr ⟨n1, D.nd⟩⟩
theorem r_mitems {c : Addr} {kv : List (Str × Value)} {ep : Nat} {pl : Sem Bool} {Q : Value × List Value → Shared → Prop} (D : Sl prog w h₀ h fs) (hd : h₀.DictAt (strKind prog w) c kv ep) (k : Q (.builtin "dict.items", [.ref c]) ⟨h, gs, d, t, os⟩) : wpAny (model prog w) A (getMethod (.ref c) (Str.ofString "items") pl) Q E ⟨h, gs, d, t, os⟩ :=
  have hd : h.DictOf (strKind prog w) c kv := (hd.keep D.keep).dictOf
  getMethod_builtin (s := ⟨h, gs, d, t, os⟩) hd.typeIs PySem.F.plainAttrs_dict PySem.F.slot_dict_items PySem.F.type_dict_items hd.mapOf.noDict k
theorem r_items {c : Addr} {kv : List (Str × Value)} {ep : Nat} {Q : Value → Shared → Prop} (D : Sl prog w h₀ h fs) (hc : (c == sysModules) = false) (hd : h₀.DictAt (strKind prog w) c kv ep) (k : ∀ v h', Sl prog w h₀ h' ((v, .obj { cls := .type "dict_items", data := .fields #[.ref c] }) :: fs) → Q (.ref v) ⟨h', gs, d, t, os⟩) :
   wpAny (model prog w) A (call (.builtin "dict.items") [.ref c]) Q E ⟨h, gs, d, t, os⟩ :=
  have hd : h.DictOf (strKind prog w) c kv := (hd.keep D.keep).dictOf
  call_meetsIn (s := ⟨h, gs, d, t, os⟩) PySem.F.slot_dict_items hd.typeIs PySem.F.entry_dict_items (PySem.F.args_dict_items_1 _) (meets_dict_items (strKind prog w) c hc) ⟨⟨_, hd⟩, k _ _ (D.push (Heap.get?_push_size _ rfl))⟩
theorem i_items {v c : Addr} {kv : List (Str × Value)} {ep : Nat} {Q : Value → Shared → Prop} (D : Sl prog w h₀ h ((v, .obj { cls := .type "dict_items", data := .fields #[.ref c] }) :: fs)) (hd : h₀.DictAt (strKind prog w) c kv ep) (k : ∀ I h', Sl prog w h₀ h' ((I, .obj (itmO c 0 kv.length ep .none .none)) :: fs) → Q (.ref I) ⟨h', gs, d, t, os⟩) :
   wpAny (model prog w) A (pyIter (.ref v)) Q E ⟨h, gs, d, t, os⟩ :=
  wpAny_pyIter_items (s := ⟨h, gs, d, t, os⟩) ⟨_, D.at .z, rfl, rfl⟩ (hd.keep D.keep) (k _ _ ((D.push (c := .obj (itmO c 0 kv.length ep .none .none)) (Heap.get?_push_size _ rfl)).sub (List.Sublist.cons_cons _ (List.sublist_cons_self ..))))
theorem n_items {I c : Addr} {kv : List (Str × Value)} {ep k i : Nat} {ok ov : Value} {Q : Option Value → Shared → Prop} (D : Sl prog w h₀ h fs) (hA : A.handled = none) (hi : AtI fs i (I, .obj (itmO c k kv.length ep ok ov))) (hd : h.DictAt (strKind prog w) c kv ep)
   (some_ : ∀ m v u a h', kv[k]? = some (m, v) → Sl prog w h₀ h' ((a, .obj (tupO [.str m u, v])) :: fs.set i (I, .obj (itmX c (k + 1) kv.length ep (.str m u) v a))) → Q (some (.ref a)) ⟨h', gs, d, t, os⟩) (none_ : ∀ h', kv[k]? = none → Heap.ExtBut I h h' → Q none ⟨h', gs, d, t, os⟩) : wpAny (model prog w) A (pyNext (.ref I)) Q E ⟨h, gs, d, t, os⟩ := by
  cases e : kv[k]? with
  | some p =>
    obtain ⟨m, v⟩ := p
    refine wpAny_pyNext_items_item (s := ⟨h, gs, d, t, os⟩) (D.at hi) hd e fun key h' hk hit ht hz kp => ?_
    obtain ⟨u, rfl⟩ := str_of_key hk
    have D' := D.turn (c' := .obj (itmX c (k + 1) kv.length ep (.str m u) v h.objs.size)) hi (fun b o n e => kp b o n e) hit
    obtain ⟨n1, n2⟩ := D.fresh (push_none h)
    refine some_ m v u _ h' e (D'.put ?_ n2 ht)
    intro hm
    obtain ⟨p, hp, ep⟩ := List.mem_map.mp hm
    obtain ⟨j, hj⟩ := List.mem_iff_getElem?.mp hp
    by_cases hij : i = j
    · subst hij
      rw [List.getElem?_set_self (List.getElem?_eq_some_iff.mp hi.get).1] at hj
      cases hj
      exact n1 (List.mem_map.mpr ⟨_, hi.mem, ep⟩)
    · rw [List.getElem?_set_ne hij] at hj
      exact n1 (List.mem_map.mpr ⟨p, List.mem_of_getElem? hj, ep⟩)
  | none => exact wpAny_pyNext_items_end (s := ⟨h, gs, d, t, os⟩) hA (D.at hi) hd e fun h' hs => none_ h' e hs
theorem g_items {I c a : Addr} {k n ep i : Nat} {ok ov : Value} {elts : List Expr} {x1 : Nat} {Q : Unit → Shared → Prop} (D : Sl prog w h₀ h fs) (hi : AtI fs i (I, .obj (itmX c k n ep ok ov a))) (q : ∀ h', Sl prog w h₀ h' (fs.set i (I, .obj (itmO c k n ep ok ov))) → Q () ⟨h', gs, d, t, os⟩) :
   wpAny (model prog w) A (letOwnedTupleGo (.Tuple elts x1 pos) (.ref I) (.ref a)) Q E ⟨h, gs, d, t, os⟩ :=
  wpAny_letOwnedTupleGo_items (s := ⟨h, gs, d, t, os⟩) (D.at hi) fun h' it s => q h' (D.turn (c' := .obj (itmO c k n ep ok ov)) hi s.extBut it)
theorem itm_entry : entryFor table "dict_itemiterator.__iter__" = some Builtin.«dict_keyiterator.__iter__» := PySem.W.kcp_entry
theorem itemsC {I cd : Addr} {ep : Nat} {m : Nat → Str} {n : Nat → Int} {v : Nat → Tok} {Q : Value → Shared → Prop} (D : Sl prog w h₀ h ((I, .obj (itmO cd 0 3 ep .none .none)) :: fs)) (hA : A.handled = none) (hd : h₀.DictAt (strKind prog w) cd [(m 0, .int (n 0) (v 0)), (m 1, .int (n 1) (v 1)), (m 2, .int (n 2) (v 2))] ep)
   (done : ∀ h₁ h t lf acc C (new : Nat → Addr), (∀ b o, h₀.get? b = some o → h₁.get? b = some o) → (∀ j, j < 3 → Cnt h₁ (new j) (m j) (n j)) → Sl prog w h₁ h ((C, .frm lf) :: (acc, .lst [.ref (new 0), .ref (new 1), .ref (new 2)]) :: fs) → compPost (model prog w) A E use Q (.ref acc) C (.ok .next) ⟨h, gs, d, t, os⟩) :
   LcNext prog w A env E (.ListComp (.Tuple [.Name (Str.ofString "module") p1, .Name (Str.ofString "count") p2] 0 p3) [⟨.Tuple [.Name (Str.ofString "module") p4, .Name (Str.ofString "count") p5] 0 p6, iter, [], 0⟩] ⟨.function, [(Str.ofString ".0", .local), (Str.ofString "module", .local), (Str.ofString "count", .local)], false, false, more⟩ pos)
     ⟨.function, [(Str.ofString ".0", .local), (Str.ofString "module", .local), (Str.ofString "count", .local)], false, false, more⟩ [] use Q (.ref I) ⟨h, gs, d, t, os⟩ := by
  refine r_lcI (fun c hb fs' ys => ∃ i, ∃ new : Nat → Addr, ∃ ok ov, c + i = 3 ∧ (∀ b o, h₀.get? b = some o → hb.get? b = some o) ∧ fs' = (I, .obj (itmO cd i 3 ep ok ov)) :: fs ∧ ys = ([0, 1, 2].take i).map (fun j => Value.ref (new j)) ∧ ∀ j, j < i → Cnt hb (new j) (m j) (n j)) (fun hb fs' ys => ∃ new : Nat → Addr, (∀ b o, h₀.get? b = some o → hb.get? b = some o) ∧ fs' = fs ∧ ys = [Value.ref (new 0), .ref (new 1), .ref (new 2)] ∧ ∀ j, j < 3 → Cnt hb (new j) (m j) (n j)) 3 D ⟨0, fun _ => 0, _, _, rfl, fun _ _ e => e, rfl, rfl, fun j hj => absurd hj (Nat.not_lt_zero j)⟩ (by kernel_rfl) rfl ?_ ?_ ?_ ?_
  · rintro c _ _ _ ⟨i, new, _, _, hn, _, rfl, rfl, _⟩
    rw [List.length_map, List.length_take]
    show min i 3 ≤ 1000
    omega
  · intro E' Q' h t C acc D q
    have hT : Shared.TypeIs ⟨h, gs, d, t, os⟩ (.ref I) "dict_itemiterator" := ⟨_, D.at (.s (.s .z)), rfl⟩
    refine wpAny_pyIter_slot hT PySem.F.slot_dict_itemiterator_iter (wpAny_call_entry PySem.F.slot_dict_itemiterator_iter hT itm_entry ?_ (PySem.F.args_dict_itemiterator_iter_1 _))
    exact wpAny_pure ⟨_, rfl, _, _, hT, PySem.F.slot_dict_itemiterator_next.lookup, q⟩
  · rintro En c hb h _ t lf _ C acc ⟨i, new, ok, ov, hn, up, rfl, rfl, cs⟩ D
    refine n_items (kv := [(m 0, .int (n 0) (v 0)), (m 1, .int (n 1) (v 1)), (m 2, .int (n 2) (v 2))]) D hA (.s (.s .z)) ((hd.keep up).keep D.keep) (fun m' v' u ta h' e D => ?_) (fun h' e s => ?_)
    · have hi : i < 3 := (List.getElem?_eq_some_iff.mp e).1
      obtain ⟨rfl, rfl⟩ : m' = m i ∧ v' = .int (n i) (v i) := by
        have : i = 0 ∨ i = 1 ∨ i = 2 := c3 (by assumption)
        rcases this with rfl | rfl | rfl <;> (cases e; exact ⟨rfl, rfl⟩)
      dsimp only [List.set_cons_zero, List.set_cons_succ] at D ⊢
      refine g_items D (.s (.s (.s .z))) (fun h' D => ?_)
      dsimp only [List.set_cons_zero, List.set_cons_succ] at D
      refine D.out (fun h₁ e1 e2 D => ?_)
      replace e2 : h₁.get? ta = some (tupO [.str (m i) u, .int (n i) (v i)]) := e2
      repeat' (first
  | walk_at "b W"
        | walk_at "b W2"
  | walk_at "b NC"
      | ((with_reducible refine' r_unpack D (isTup_of e2) ?hA ?q1 ?q2 (fun h' D => ?_)); (case hA => exact hA); (case q1 => rfl); (case q2 => rfl))
      | fail)
      refine D.out (fun h₂ e3 e4 D => ?_)
      refine ⟨c - 1, h₂, _, _, _, _, s_lt hn hi, rfl, ⟨i + 1, fun j => if j = i then a else new j, _, _, s_eq hn hi, fun b o e => e3 _ _ (e1 _ _ (up _ _ e)), rfl, ?_, fun j hj => ?_⟩, D⟩
      · have : i = 0 ∨ i = 1 ∨ i = 2 := c3 (by assumption)
        rcases this with rfl | rfl | rfl <;> rfl
      · by_cases q : j = i
        · subst q; dsimp only; rw [if_pos rfl]; exact ⟨_, _, e4⟩
        · dsimp only; rw [if_neg q]; exact ((cs j (s_in hj q)).up e1).up e3
    · have hi : 3 ≤ i := List.getElem?_eq_none_iff.mp e
      obtain rfl : i = 3 := s_end hn hi
      exact ⟨_, h', _, t, rfl, ⟨new, up, rfl, rfl, cs⟩, (D.front (.s (.s .z))).drop s⟩
  · rintro hb h _ t lf acc C _ ⟨new, up, rfl, rfl, cs⟩ D
    exact done hb h t lf acc C new up cs D
end
end Mine
end PLK
section PLG
namespace Mine
noncomputable def grid (f : Nat → Nat → List Bool) : List (List Bool) := [f 0 0, f 0 1, f 0 2, f 1 0, f 1 1, f 1 2, f 2 0, f 2 1, f 2 2]
theorem grid_take (f : Nat → Nat → List Bool) (i j : Nat) (hi : i < 3) (hj : j < 3) : (grid f).take (3 * i + (j + 1)) = (grid f).take (3 * i + j) ++ [f i j] := by
  have hi' : i = 0 ∨ i = 1 ∨ i = 2 := c3 (by assumption)
  have hj' : j = 0 ∨ j = 1 ∨ j = 2 := c3 (by assumption)
  rcases hi' with rfl | rfl | rfl <;> rcases hj' with rfl | rfl | rfl <;> rfl
noncomputable def kcell (m : Nat → Str) (n : Nat → Int) (i j : Nat) : List Bool := [opB .LtE (cmpT (m i) (n i) (m j) (n j)), opB .Eq (cmpT (m i) (n i) (m j) (n j)), opB .GtE (cmpT (m i) (n i) (m j) (n j)), opB .Gt (cmpT (m i) (n i) (m j) (n j))]
noncomputable def rcell (q : Nat → Int) (i j : Nat) : List Bool := [decide (q i ≤ q j), q i == q j, decide (q j ≤ q i), decide (q j < q i)]
noncomputable def KRow (r : KA) (h : Heap) (x : Addr) (m : Str) (n : Int) : Prop := ∃ o u v, KObj r h x o ∧ IsTup h o #[.str m u, .int n v]
theorem KRow.up {r : KA} {h h' : Heap} {x : Addr} {m : Str} {n : Int} (y : KRow r h x m n) (k : ∀ b o, h.get? b = some o → h'.get? b = some o) : KRow r h' x m n := y.imp fun o => Exists.imp fun u => Exists.imp fun v a => ⟨a.1.up k, a.2.keeps k⟩
noncomputable def GridOk (h : Heap) (f : Nat → Nat → List Bool) (k : Nat) (ys : List Value) : Prop := ∃ as : List Addr, ys = as.map .ref ∧ All2 (fun a (g : List Bool) => h.IsList a (g.map Value.bool).toArray) as ((grid f).take k)
theorem GridOk.up {h h' : Heap} {f : Nat → Nat → List Bool} {k : Nat} {ys : List Value} (x : GridOk h f k ys) (u : ∀ b o, h.get? b = some o → h'.get? b = some o) : GridOk h' f k ys := x.imp fun as e => ⟨e.1, All2.imp (fun _ _ z => IsList.kp z u) e.2⟩
theorem GridOk.len {h : Heap} {f : Nat → Nat → List Bool} {k : Nat} {ys : List Value} (x : GridOk h f k ys) : ys.length ≤ 9 := by
  obtain ⟨as, rfl, y⟩ := x
  rw [List.length_map, y.len, List.length_take]
  exact Nat.min_le_right k 9
theorem GridOk.add {h : Heap} {f : Nat → Nat → List Bool} {i j : Nat} {ys : List Value} {a : Addr} (x : GridOk h f (3 * i + j) ys) (hi : i < 3) (hj : j < 3) (e : h.IsList a ((f i j).map Value.bool).toArray) : GridOk h f (3 * i + (j + 1)) (ys ++ [.ref a]) := by
  obtain ⟨as, rfl, y⟩ := x
  refine ⟨as ++ [a], by rw [List.map_append]; rfl, ?_⟩
  rw [grid_take f i j hi hj]
  exact All2.snoc (P := fun a (g : List Bool) => h.IsList a (g.map Value.bool).toArray) e y
section
variable {prog : Program} {w : World} {A : Around} {h₀ h h' : Heap} {fs : List (Addr × Cl)} {gs : Array GenState} {d : Drawn} {t : Nat} {os : OsState} {E : Value → Shared → Prop} {R : Result → Shared → Prop} {env : Env} {use : Option (Value → Sem Unit)} {iter : Expr} {p1 p2 p3 p4 p5 p6 p7 p8 p9 p10 p11 p12 p13 p14 p15 p16 p17 pos : Pos} {more : List (Str × Const)} {k1 k2 : Nat}
theorem r_kle {r : KA} {a b : Addr} {m1 m2 : Str} {n1 n2 : Int} {Q : Value → Shared → Prop} (D : Sl prog w h₀ h fs) (G : Gd w.params hK h₀) (K : KOk w.params r h₀) (hroom : A.depth + 2 < recursionLimit) (hu : A.units + 20 < 9900) (xa : KRow r h₀ a m1 n1) (xb : KRow r h₀ b m2 n2) (k : ∀ h' t, Sl prog w h₀ h' fs → Q (.bool (opB .LtE (cmpT m1 n1 m2 n2))) ⟨h', gs, d, t, os⟩) : wpAny (model prog w) A (compareOp .LtE (.ref a) (.ref b)) Q E ⟨h, gs, d, t, os⟩ := by
  obtain ⟨oa, u1, v1, xa, ta⟩ := xa
  obtain ⟨ob, u2, v2, xb, tb⟩ := xb
  show wpAny _ _ (richCompare .LtE (.ref a) (.ref b)) _ _ _
  exact r_rich (op := .LtE) (i := 4) (by decide) D K (by kernel_rfl) (by show A.units < _; exact d00 hu) xa xb (kcmp4 D G K (d0 hroom (Nat.le_of_ble_eq_true rfl)) xa xb ta tb fun h' t D => ⟨_, rfl, k h' t D⟩)
theorem r_keq {r : KA} {a b : Addr} {m1 m2 : Str} {n1 n2 : Int} {Q : Value → Shared → Prop} (D : Sl prog w h₀ h fs) (G : Gd w.params hK h₀) (K : KOk w.params r h₀) (hroom : A.depth + 2 < recursionLimit) (hu : A.units + 20 < 9900) (xa : KRow r h₀ a m1 n1) (xb : KRow r h₀ b m2 n2) (k : ∀ h' t, Sl prog w h₀ h' fs → Q (.bool (opB .Eq (cmpT m1 n1 m2 n2))) ⟨h', gs, d, t, os⟩) : wpAny (model prog w) A (compareOp .Eq (.ref a) (.ref b)) Q E ⟨h, gs, d, t, os⟩ := by
  obtain ⟨oa, u1, v1, xa, ta⟩ := xa
  obtain ⟨ob, u2, v2, xb, tb⟩ := xb
  show wpAny _ _ (richCompare .Eq (.ref a) (.ref b)) _ _ _
  exact r_rich (op := .Eq) (i := 3) (by decide) D K (by kernel_rfl) (by show A.units < _; exact d00 hu) xa xb (kcmp3 D G K (d0 hroom (Nat.le_of_ble_eq_true rfl)) xa xb ta tb fun h' t D => ⟨_, rfl, k h' t D⟩)
theorem r_kge {r : KA} {a b : Addr} {m1 m2 : Str} {n1 n2 : Int} {Q : Value → Shared → Prop} (D : Sl prog w h₀ h fs) (G : Gd w.params hK h₀) (K : KOk w.params r h₀) (hroom : A.depth + 2 < recursionLimit) (hu : A.units + 20 < 9900) (xa : KRow r h₀ a m1 n1) (xb : KRow r h₀ b m2 n2) (k : ∀ h' t, Sl prog w h₀ h' fs → Q (.bool (opB .GtE (cmpT m1 n1 m2 n2))) ⟨h', gs, d, t, os⟩) : wpAny (model prog w) A (compareOp .GtE (.ref a) (.ref b)) Q E ⟨h, gs, d, t, os⟩ := by
  obtain ⟨oa, u1, v1, xa, ta⟩ := xa
  obtain ⟨ob, u2, v2, xb, tb⟩ := xb
  show wpAny _ _ (richCompare .GtE (.ref a) (.ref b)) _ _ _
  exact r_rich (op := .GtE) (i := 5) (by decide) D K (by kernel_rfl) (by show A.units < _; exact d00 hu) xa xb (kcmp5 D G K (d0 hroom (Nat.le_of_ble_eq_true rfl)) xa xb ta tb fun h' t D => ⟨_, rfl, k h' t D⟩)
theorem r_kgt {r : KA} {a b : Addr} {m1 m2 : Str} {n1 n2 : Int} {Q : Value → Shared → Prop} (D : Sl prog w h₀ h fs) (G : Gd w.params hK h₀) (K : KOk w.params r h₀) (hroom : A.depth + 2 < recursionLimit) (hu : A.units + 20 < 9900) (xa : KRow r h₀ a m1 n1) (xb : KRow r h₀ b m2 n2) (k : ∀ h' t, Sl prog w h₀ h' fs → Q (.bool (opB .Gt (cmpT m1 n1 m2 n2))) ⟨h', gs, d, t, os⟩) : wpAny (model prog w) A (compareOp .Gt (.ref a) (.ref b)) Q E ⟨h, gs, d, t, os⟩ := by
  obtain ⟨oa, u1, v1, xa, ta⟩ := xa
  obtain ⟨ob, u2, v2, xb, tb⟩ := xb
  show wpAny _ _ (richCompare .Gt (.ref a) (.ref b)) _ _ _
  exact r_rich (op := .Gt) (i := 2) (by decide) D K (by kernel_rfl) (by show A.units < _; exact d00 hu) xa xb (kcmp2 D G K (d0 hroom (Nat.le_of_ble_eq_true rfl)) xa xb ta tb fun h' t D => ⟨_, rfl, k h' t D⟩)
theorem ref3 {o : Nat → Addr} {i : Nat} {v : Value} (e : ([Value.ref (o 0), .ref (o 1), .ref (o 2)] : List Value)[i]? = some v) : i < 3 ∧ v = .ref (o i) := by
  have hi : i < 3 := (List.getElem?_eq_some_iff.mp e).1
  have : i = 0 ∨ i = 1 ∨ i = 2 := c3 (by assumption)
  rcases this with rfl | rfl | rfl <;> exact ⟨hi, (Option.some.inj e).symm⟩
theorem int3 {q : Nat → Int} {u : Nat → Tok} {i : Nat} {v : Value} (e : ([Value.int (q 0) (u 0), .int (q 1) (u 1), .int (q 2) (u 2)] : List Value)[i]? = some v) : i < 3 ∧ v = .int (q i) (u i) := by
  have hi : i < 3 := (List.getElem?_eq_some_iff.mp e).1
  have : i = 0 ∨ i = 1 ∨ i = 2 := c3 (by assumption)
  rcases this with rfl | rfl | rfl <;> exact ⟨hi, (Option.some.inj e).symm⟩
theorem gridK {r : KA} {Lf c I l : Addr} {ic : Nat} {x : Nat → Addr} {m : Nat → Str} {n : Nat → Int} {Q : Value → Shared → Prop} (D : Sl prog w h₀ h ((I, .itr l 0) :: fs)) (G : Gd w.params hK h₀) (K : KOk w.params r h₀) (hroom : A.depth + 2 < recursionLimit) (hu : A.units + 20 < 9900) (hA : A.handled = none) (hc : AtI fs ic (c, .cel (some (.ref l)))) (hl : h₀.IsList l [Value.ref (x 0), .ref (x 1), .ref (x 2)].toArray) (rows : ∀ i, i < 3 → KRow r h₀ (x i) (m i) (n i))
   (done : ∀ h₁ h t lf acc C ys, (∀ b o, h₀.get? b = some o → h₁.get? b = some o) → GridOk h₁ (kcell m n) 9 ys → Sl prog w h₁ h ((C, .frm lf) :: (acc, .lst ys) :: fs) → compPost (model prog w) A E use Q (.ref acc) C (.ok .next) ⟨h, gs, d, t, os⟩) :
   LcNext prog w A (callEnvC fd163 Lf 163) E (.ListComp (.List [.Compare (.Name (Str.ofString "a") p1) [.LtE] [.Name (Str.ofString "b") p2] p3, .Compare (.Name (Str.ofString "a") p4) [.Eq] [.Name (Str.ofString "b") p5] p6, .Compare (.Name (Str.ofString "a") p7) [.GtE] [.Name (Str.ofString "b") p8] p9, .Compare (.Name (Str.ofString "a") p10) [.Gt] [.Name (Str.ofString "b") p11] p12] p13) [⟨.Name (Str.ofString "a") p14, iter, [], 0⟩, ⟨.Name (Str.ofString "b") p15, .Name (Str.ofString "keys") p16, [], 0⟩] ⟨.function, [(Str.ofString ".0", .local), (Str.ofString "a", .local), (Str.ofString "b", .local), (Str.ofString "keys", .free)], false, false, more⟩ pos)
     ⟨.function, [(Str.ofString ".0", .local), (Str.ofString "a", .local), (Str.ofString "b", .local), (Str.ofString "keys", .free)], false, false, more⟩ [(Str.ofString "keys", c)] use Q (.ref I) ⟨h, gs, d, t, os⟩ := by
  refine r_lc2 (fun i j hb ys => GridOk hb (kcell m n) (3 * i + j) ys) D hA hl ⟨[], rfl, trivial⟩ (by kernel_rfl) rfl (fun _ => by kernel_rfl) (fun _ => by kernel_rfl) (by kernel_rfl) (fun _ _ => rfl) (fun i j hb ys x => by have := x.len; omega) (fun i hb ys hi x => by rw [show 3 * (i + 1) + 0 = 3 * i + 3 by omega]; exact x) ?_ ?_ ?_
  · intro E' Q' h₁ h t C fs' up D q
    refine m_cell (i := fs'.length + ic) (c := c) (v := .ref l) D ⟨rfl, by kernel_rfl, by kernel_rfl, by kernel_rfl⟩ ?_ q
    clear D
    induction fs' with
    | nil => rw [List.nil_append, List.length_nil, Nat.zero_add]; exact hc
    | cons p fs' ih => rw [List.cons_append, List.length_cons, Nat.add_right_comm]; exact .s ih
  · intro En i j hb h t lf ys va vb C acc I2 ea eb up k ga gb D
    obtain ⟨hi, rfl⟩ := ref3 ea
    obtain ⟨hj, rfl⟩ := ref3 eb
    have G := G.keeps up
    have K := K.up up
    have ri := (rows i hi).up up
    have rj := (rows j hj).up up
    repeat' (first
  | walk_at "b W"
      | walk_at "b NC"
    | with_reducible refine r_kle D G K hroom hu ri rj (fun h' t D => ?_)
    | with_reducible refine r_keq D G K hroom hu ri rj (fun h' t D => ?_)
    | with_reducible refine r_kge D G K hroom hu ri rj (fun h' t D => ?_)
    | with_reducible refine r_kgt D G K hroom hu ri rj (fun h' t D => ?_)
    | fail)
    refine D.out (fun h₁ e1 e2 D => ?_)
    exact ⟨h₁, _, _, rfl, e1, (k.up e1).add hi hj (Heap.PlainList.isList e2), D⟩
  · intro hb h t lf acc C ys up k D
    exact done hb h t lf acc C ys up k D
end
end Mine
end PLG
section PLR
namespace Mine
section
variable {prog : Program} {w : World} {A : Around} {h₀ h h' : Heap} {fs : List (Addr × Cl)} {gs : Array GenState} {d : Drawn} {t : Nat} {os : OsState} {E : Value → Shared → Prop} {R : Result → Shared → Prop} {env : Env} {use : Option (Value → Sem Unit)} {iter : Expr} {p1 p2 p3 p4 p5 p6 p7 p8 p9 p10 p11 p12 p13 p14 p15 p16 p17 pos : Pos} {more : List (Str × Const)} {k1 k2 : Nat}
theorem gridR {Lf c I l : Addr} {ic : Nat} {q : Nat → Int} {u : Nat → Tok} {Q : Value → Shared → Prop} (D : Sl prog w h₀ h ((I, .itr l 0) :: fs)) (hA : A.handled = none) (hc : AtI fs ic (c, .cel (some (.ref l)))) (hl : h₀.IsList l [Value.int (q 0) (u 0), .int (q 1) (u 1), .int (q 2) (u 2)].toArray)
   (done : ∀ h₁ h t lf acc C ys, (∀ b o, h₀.get? b = some o → h₁.get? b = some o) → GridOk h₁ (rcell q) 9 ys → Sl prog w h₁ h ((C, .frm lf) :: (acc, .lst ys) :: fs) → compPost (model prog w) A E use Q (.ref acc) C (.ok .next) ⟨h, gs, d, t, os⟩) :
   LcNext prog w A (callEnvC fd163 Lf 163) E (.ListComp (.List [.Compare (.Name (Str.ofString "a") p1) [.LtE] [.Name (Str.ofString "b") p2] p3, .Compare (.Name (Str.ofString "a") p4) [.Eq] [.Name (Str.ofString "b") p5] p6, .Compare (.Name (Str.ofString "a") p7) [.GtE] [.Name (Str.ofString "b") p8] p9, .Compare (.Name (Str.ofString "a") p10) [.Gt] [.Name (Str.ofString "b") p11] p12] p13) [⟨.Name (Str.ofString "a") p14, iter, [], 0⟩, ⟨.Name (Str.ofString "b") p15, .Name (Str.ofString "ranks") p16, [], 0⟩] ⟨.function, [(Str.ofString ".0", .local), (Str.ofString "a", .local), (Str.ofString "b", .local), (Str.ofString "ranks", .free)], false, false, more⟩ pos)
     ⟨.function, [(Str.ofString ".0", .local), (Str.ofString "a", .local), (Str.ofString "b", .local), (Str.ofString "ranks", .free)], false, false, more⟩ [(Str.ofString "ranks", c)] use Q (.ref I) ⟨h, gs, d, t, os⟩ := by
  refine r_lc2 (fun i j hb ys => GridOk hb (rcell q) (3 * i + j) ys) D hA hl ⟨[], rfl, trivial⟩ (by kernel_rfl) rfl (fun _ => by kernel_rfl) (fun _ => by kernel_rfl) (by kernel_rfl) (fun _ _ => rfl) (fun i j hb ys x => by have := x.len; omega) (fun i hb ys hi x => by rw [show 3 * (i + 1) + 0 = 3 * i + 3 by omega]; exact x) ?_ ?_ ?_
  · intro E' Q' h₁ h t C fs' up D q
    refine m_cell (i := fs'.length + ic) (c := c) (v := .ref l) D ⟨rfl, by kernel_rfl, by kernel_rfl, by kernel_rfl⟩ ?_ q
    clear D
    induction fs' with
    | nil => rw [List.nil_append, List.length_nil, Nat.zero_add]; exact hc
    | cons p fs' ih => rw [List.cons_append, List.length_cons, Nat.add_right_comm]; exact .s ih
  · intro En i j hb h t lf ys va vb C acc I2 ea eb up k ga gb D
    obtain ⟨hi, rfl⟩ := int3 ea
    obtain ⟨hj, rfl⟩ := int3 eb
    repeat' (first
  | walk_at "b W"
      | walk_at "b NC"
    | with_reducible refine PyProof.Rows.le_int ?_
    | with_reducible refine PyProof.Rows.eq_int ?_
    | with_reducible refine PyProof.Rows.ge_int ?_
    | with_reducible refine PyProof.Rows.gt_int ?_
    | fail)
    refine D.out (fun h₁ e1 e2 D => ?_)
    exact ⟨h₁, _, _, rfl, e1, (k.up e1).add hi hj (Heap.PlainList.isList e2), D⟩
  · intro hb h t lf acc C ys up k D
    exact done hb h t lf acc C ys up k D
theorem r_mindex {l : Addr} {vs : List Value} {pl : Sem Bool} {Q : Value × List Value → Shared → Prop} (D : Sl prog w h₀ h fs) (hl : h₀.PlainList l vs.toArray) (k : Q (.builtin "list.index", [.ref l]) ⟨h, gs, d, t, os⟩) : wpAny (model prog w) A (getMethod (.ref l) (Str.ofString "index") pl) Q E ⟨h, gs, d, t, os⟩ := by
  obtain ⟨n, e⟩ := hl
  have e := D.keep _ _ e
  exact getMethod_builtin (s := ⟨h, gs, d, t, os⟩) ⟨_, e, rfl⟩ PySem.F.plainAttrs_list PySem.F.slot_list_index PySem.F.type_list_index (fun a ha => by cases ha; exact ⟨_, e, rfl⟩) k
theorem ranksC {Lf c I l du : Addr} {ic : Nat} {x o : Nat → Addr} {m m' : Nat → Str} {n n' : Nat → Int} {q : Nat → Nat} {Q : Value → Shared → Prop} (D : Sl prog w h₀ h ((I, .itr l 0) :: fs)) (hA : A.handled = none) (hu : A.units + 3 < 9900) (hc : AtI fs ic (c, .cel (some (.ref du)))) (hl : h₀.IsList l [Value.ref (x 0), .ref (x 1), .ref (x 2)].toArray) (rows : ∀ i, i < 3 → Cnt h₀ (x i) (m i) (n i))
   (hd : h₀.PlainList du [Value.ref (o 0), .ref (o 1), .ref (o 2)].toArray) (dows : ∀ i, i < 3 → Cnt h₀ (o i) (m' i) (n' i)) (hq : ∀ i, i < 3 → q i < 3 ∧ (m' (q i) == m i && n' (q i) == n i) = true ∧ ∀ j, j < q i → (m' j == m i && n' j == n i) = false)
   (done : ∀ h t lf acc C (u : Nat → Tok), Sl prog w h₀ h ((C, .frm lf) :: (acc, .lst [.int (q 0) (u 0), .int (q 1) (u 1), .int (q 2) (u 2)]) :: fs) → compPost (model prog w) A E use Q (.ref acc) C (.ok .next) ⟨h, gs, d, t, os⟩) :
   LcNext prog w A (callEnvC fd163 Lf 163) E (.ListComp (.Call (.Attribute (.Name (Str.ofString "due") ⟨212, 67, 212, 70⟩) (Str.ofString "index") ⟨212, 67, 212, 76⟩) [.Name (Str.ofString "row") ⟨212, 77, 212, 80⟩] [] ⟨212, 67, 212, 81⟩) [⟨.Name (Str.ofString "row") p5, iter, [], 0⟩] ⟨.function, [(Str.ofString ".0", .local), (Str.ofString "row", .local), (Str.ofString "due", .free)], false, false, more⟩ pos)
     ⟨.function, [(Str.ofString ".0", .local), (Str.ofString "row", .local), (Str.ofString "due", .free)], false, false, more⟩ [(Str.ofString "due", c)] use Q (.ref I) ⟨h, gs, d, t, os⟩ := by
  refine r_lcI (fun c hb fs' ys => ∃ i, ∃ u : Nat → Tok, c + i = 3 ∧ hb = h₀ ∧ fs' = (I, .itr l i) :: fs ∧ ys = ([0, 1, 2].take i).map (fun j => Value.int (q j) (u j))) (fun hb fs' ys => ∃ u : Nat → Tok, hb = h₀ ∧ fs' = fs ∧ ys = [Value.int (q 0) (u 0), .int (q 1) (u 1), .int (q 2) (u 2)]) 3 D ⟨0, fun _ => 0, rfl, rfl, rfl, rfl⟩ (by kernel_rfl) rfl ?_ ?_ ?_ ?_
  · rintro c _ _ _ ⟨i, u, hn, rfl, rfl, rfl⟩
    rw [List.length_map, List.length_take]
    show min i 3 ≤ 1000
    omega
  · intro E' Q' h t C acc D q
    exact wpAny_pyIter_listiter (s := ⟨h, gs, d, t, os⟩) (D.at (.s (.s .z))) q
  · rintro En c' _ h _ t lf _ C acc ⟨i, u, hn, rfl, rfl, rfl⟩ D
    refine n_itr D hA (.s (.s .z)) (IsList.kp hl D.keep) (fun v h' e D => ?_) (fun h' e s => ?_)
    · obtain ⟨hi, rfl⟩ := ref3 e
      dsimp only [List.set_cons_zero, List.set_cons_succ] at D ⊢
      obtain ⟨q1, q2, q3⟩ := hq i hi
      repeat' (first
  | walk_at "b W"
        | walk_at "b W2"
  | walk_at "b NC"
      | ((with_reducible refine' m_cell (c := c) (v := .ref du) D ?hl (.s (.s (.s hc))) ?_); (case hl => exact ⟨rfl, by kernel_rfl, by kernel_rfl, by kernel_rfl⟩))
      | with_reducible refine r_mindex D hd ?_
      | with_reducible refine r_index (o := o) (m := m') (n := n') D (Heap.PlainList.isList hd) dows (rows i hi) hu q1 q2 q3 (fun u' => ?_)
      | fail)
      refine ⟨c' - 1, _, _, _, _, _, s_lt hn hi, rfl, ⟨i + 1, fun j => if j = i then u' else u j, s_eq hn hi, rfl, rfl, ?_⟩, D⟩
      have : i = 0 ∨ i = 1 ∨ i = 2 := c3 (by assumption)
      rcases this with rfl | rfl | rfl <;> rfl
    · have hi : 3 ≤ i := List.getElem?_eq_none_iff.mp e
      obtain rfl : i = 3 := s_end hn hi
      exact ⟨_, h', _, t, rfl, ⟨u, rfl, rfl, rfl⟩, (D.front (.s (.s .z))).drop s⟩
  · rintro _ h _ t lf acc C _ ⟨u, rfl, rfl, rfl⟩ D
    exact done h t lf acc C u D
theorem r_callkw {func arg kv : Expr} {kn : Str} {kp pos : Pos} {id : String} {Q : Value → Shared → Prop} {s : Shared} (h : wpAny (model prog w) A (eval func env) (fun f s₁ => f = .builtin id ∧ wpAny (model prog w) A (eval arg env) (fun x s₂ => wpAny (model prog w) A (eval kv env) (fun y s₃ => wpAny (model prog w) A (call (.builtin id) [x] [(kn, y)]) Q E s₃) E s₂) E s₁) E s)
   (he : eval (.Call func [arg] [⟨some kn, kv, kp⟩] pos) env = (do callWith pos (← eval func env) [] (backTo pos (starEach [arg] env)) (backToKw pos (keywordEach [⟨some kn, kv, kp⟩] env))) := by rfl)
   (ha : starEach [arg] env = [(false, eval arg env)] := by rfl) : wpAny (model prog w) A (eval (.Call func [arg] [⟨some kn, kv, kp⟩] pos) env) Q E s := by
  rw [he]
  refine wpAny_bind (wpAny_mono h (fun f s₁ z => ?_) fun _ _ z => z)
  obtain ⟨rfl, z⟩ := z
  refine callWith_kw ?_ (by rw [ha]; rfl) (by rw [ha]; rfl) (by rfl) (by rfl)
  refine wpAny_items_cons ?_ ha
  refine wpAny_mono z (fun x s₂ z => ?_) fun _ _ z => z
  refine wpAny_items_nil ?_
  show wpAny _ _ (evalAll [(do let v ← eval kv env; standAt pos; pure v)]) _ _ _
  refine evalAll_cons (wpAny_bind (wpAny_mono z (fun y s₃ z => ?_) fun _ _ z => z))
  exact wpAny_bind (wpAny_standAt (wpAny_pure (evalAll_nil z)))
end
end Mine
end PLR
section PPU
namespace Mine
noncomputable def st0 : St := ⟨[(S "<string>", true)], [], []⟩
noncomputable def written : List Int := [9, 3, 10, 11, 4, 19, 12, 8, 7, 2, 11, 13, 20]
noncomputable def kl1 : List (Str × Bool) := [(S "<string>", true), (S "ab", false), (S "c", true), (S "c.d", false), (S "e", true), (S "a.b", true), (S "a", true), (S "f", false)]
noncomputable def known3 : List Str := [m3 0, m3 1, m3 2]
noncomputable def bOf (n : Int) : Bool := !KTD.inWords (evMod n) known3
theorem st13 : st0.run written = ⟨kl1, [(S "ab", 2), (S "c.d", 3), (S "f", 2)], written.map bOf⟩ := by kernel_rfl
theorem ev7 (n : Int) : evMod n ∈ mods := by
  have := fmod_in (n := n) (m := 7) (by decide)
  unfold evMod
  generalize n.fmod 7 = k at this
  obtain ⟨j, rfl⟩ := Int.eq_ofNat_of_zero_le this.1
  rcases seven j (Int.ofNat_lt.mp this.2) with rfl | rfl | rfl | rfl | rfl | rfl | rfl <;> decide +kernel
theorem kl_all : ∀ m ∈ mods, look kl1 m = some (!KTD.inWords m known3) := by decide +kernel
theorem step1 (n : Int) (a b c : Int) (bs : List Bool) : St.step ⟨kl1, [(m3 0, a), (m3 1, b), (m3 2, c)], bs⟩ n =
   ⟨kl1, [(m3 0, a + if evMod n = m3 0 then 1 else 0), (m3 1, b + if evMod n = m3 1 then 1 else 0), (m3 2, c + if evMod n = m3 2 then 1 else 0)], bs ++ [bOf n]⟩ := by
  have h7 := ev7 n
  have hk := kl_all _ h7
  unfold St.step stepK stepB bOf
  dsimp only
  rw [hk]
  simp only [Option.isSome_some, if_true, Option.getD_some]
  generalize evMod n = m at h7
  simp only [mods, List.mem_cons, List.mem_nil_iff, or_false] at h7
  rcases h7 with rfl | rfl | rfl | rfl | rfl | rfl | rfl
  · rw [show (!KTD.inWords (Str.ofString "a") known3) = true by decide +kernel, if_neg (by decide +kernel), if_neg (by decide +kernel), if_neg (by decide +kernel)]; simp [stepC]
  · rw [show (!KTD.inWords (Str.ofString "a.b") known3) = true by decide +kernel, if_neg (by decide +kernel), if_neg (by decide +kernel), if_neg (by decide +kernel)]; simp [stepC]
  · rw [show (!KTD.inWords (Str.ofString "ab") known3) = false by decide +kernel, if_pos (by decide +kernel), if_neg (by decide +kernel), if_neg (by decide +kernel)]; simp only [Int.add_zero]; kernel_rfl
  · rw [show (!KTD.inWords (Str.ofString "c") known3) = true by decide +kernel, if_neg (by decide +kernel), if_neg (by decide +kernel), if_neg (by decide +kernel)]; simp [stepC]
  · rw [show (!KTD.inWords (Str.ofString "c.d") known3) = false by decide +kernel, if_neg (by decide +kernel), if_pos (by decide +kernel), if_neg (by decide +kernel)]; simp only [Int.add_zero]; kernel_rfl
  · rw [show (!KTD.inWords (Str.ofString "e") known3) = true by decide +kernel, if_neg (by decide +kernel), if_neg (by decide +kernel), if_neg (by decide +kernel)]; simp [stepC]
  · rw [show (!KTD.inWords (Str.ofString "f") known3) = false by decide +kernel, if_neg (by decide +kernel), if_neg (by decide +kernel), if_pos (by decide +kernel)]; simp only [Int.add_zero]; kernel_rfl
noncomputable def cnt (l : List Int) (i : Nat) : Int := (pathsOf l (m3 i)).length
theorem cnt_snoc (l : List Int) (n : Int) (i : Nat) : cnt (l ++ [n]) i = cnt l i + if evMod n = m3 i then 1 else 0 := by
  unfold cnt
  rw [paths_snoc, List.length_append]
  split <;> simp
theorem run_inv (xs pre : List Int) (e : st0.run pre = ⟨kl1, [(m3 0, cnt pre 0), (m3 1, cnt pre 1), (m3 2, cnt pre 2)], pre.map bOf⟩) :
   st0.run (pre ++ xs) = ⟨kl1, [(m3 0, cnt (pre ++ xs) 0), (m3 1, cnt (pre ++ xs) 1), (m3 2, cnt (pre ++ xs) 2)], (pre ++ xs).map bOf⟩ := by
  induction xs generalizing pre with
  | nil => rw [List.append_nil]; exact e
  | cons x xs ih =>
    have z := ih (pre ++ [x]) (by rw [St.snoc, e, step1, cnt_snoc, cnt_snoc, cnt_snoc, List.map_append]; rfl)
    rw [List.append_assoc] at z
    exact z
theorem runN (xs : List Int) : st0.run (written ++ xs) = ⟨kl1, [(m3 0, cnt (written ++ xs) 0), (m3 1, cnt (written ++ xs) 1), (m3 2, cnt (written ++ xs) 2)], (written ++ xs).map bOf⟩ :=
  run_inv xs written (by rw [st13]; kernel_rfl)
noncomputable def fp (m : Str) : Option Str := (pathsOf written m).headD none
theorem fp_ok (xs : List Int) (m : Str) (h : m ∈ mods) : ∃ r, pathsOf (written ++ xs) m = fp m :: r := by
  have : ∀ m ∈ mods, (pathsOf written m).isEmpty = false := by decide +kernel
  have e := this m h
  have z : pathsOf (written ++ xs) m = pathsOf written m ++ pathsOf xs m := by unfold pathsOf; rw [List.filter_append, List.map_append]
  unfold fp
  rw [z]
  cases q : pathsOf written m with
  | nil => rw [q] at e; cases e
  | cons a r => exact ⟨r ++ pathsOf xs m, rfl⟩
theorem fp_len : ∀ m p, m ∈ mods → fp m = some p → p.length ≤ 1000 := by
  have : ∀ m ∈ mods, ((fp m).map fun p => decide (p.length ≤ 1000)).getD true = true := by decide +kernel
  intro m p h e
  have z := this m h
  rw [e] at z
  exact of_decide_eq_true z
theorem fp_keeps : (mods.filter fun m => keeps m (fp m)) = [m3 0, m3 1, m3 2] := by decide +kernel
theorem app_e (x : Str) : x ++ S "" = x := Str.ext' (by show x.cps ++ (S "").cps = x.cps; rw [show (S "").cps = #[] by decide +kernel, Array.append_empty])
theorem e_app (x : Str) : S "" ++ x = x := Str.ext' (by show (S "").cps ++ x.cps = x.cps; rw [show (S "").cps = #[] by decide +kernel, Array.empty_append])
theorem bits_join0 (xs pre : List Bool) (e : bitsT pre = Str.join (S "") (pre.map bitT)) : bitsT (pre ++ xs) = Str.join (S "") ((pre ++ xs).map bitT) := by
  induction xs generalizing pre with
  | nil => rw [List.append_nil]; exact e
  | cons x xs ih =>
    have z := ih (pre ++ [x]) (by
      rw [bits_snoc, List.map_append, List.map_cons, List.map_nil, PyProof.Rows.FinIter.join_snoc]
      split
      · rename_i q
        cases pre with
        | nil => exact e_app _
        | cons _ _ => cases q
      · rw [app_e, e])
    rw [List.append_assoc] at z
    exact z
theorem bits_join (bs : List Bool) : bitsT bs = Txt.join (S "") (bs.map bitT) := by
  show _ = Builtin.Str.glued (S "") (bs.map bitT)
  rw [StrLaws.glued_eq_join]
  exact bits_join0 bs [] rfl
theorem inW_perm {i j k : Nat} (h : [i, j, k] ∈ perm3) (m : Str) : KTD.inWords m [m3 i, m3 j, m3 k] = KTD.inWords m known3 := by
  simp only [perm3, List.mem_cons, List.cons.injEq, List.mem_nil_iff, or_false, and_true] at h
  unfold known3
  rcases h with ⟨rfl, rfl, rfl⟩ | ⟨rfl, rfl, rfl⟩ | ⟨rfl, rfl, rfl⟩ | ⟨rfl, rfl, rfl⟩ | ⟨rfl, rfl, rfl⟩ | ⟨rfl, rfl, rfl⟩ <;> simp only [KTD.inWords, Bool.or_false] <;> (generalize decide (m = m3 0) = a; generalize decide (m = m3 1) = b; generalize decide (m = m3 2) = c; cases a <;> cases b <;> cases c <;> rfl)
end Mine
end PPU
section PPV
namespace Mine
noncomputable def sortedBy (lt : Nat → Nat → Bool) : List Nat → Bool
  | [i, j, k] => lt i j && lt j k
  | _ => false
noncomputable def posL (p : List Nat) (a : Nat) : Nat := p.idxOf a
theorem tab_all : ∀ x y z : Bool, (x = true → y = true → z = true) → (x = false → y = false → z = false) → ∀ p ∈ perm3, sortedBy (ltB x y z) p = true → (∀ p' ∈ perm3, sortedBy (ltB x y z) p' = true → p' = p) ∧
   (∀ a ∈ [0, 1, 2], ∀ b ∈ [0, 1, 2], a ≠ b → ltB x y z a b = decide (posL p a < posL p b)) := by decide +kernel
section
variable {lt : Nat → Nat → Bool} (tot : ∀ i j, i < 3 → j < 3 → i ≠ j → lt j i = !lt i j) (tr : ∀ i j k, i < 3 → j < 3 → k < 3 → lt i j = true → lt j k = true → lt i k = true)
include tot tr
theorem tab_eq : (∀ i j, i < 3 → j < 3 → i ≠ j → ltB (lt 1 0) (lt 2 1) (lt 2 0) i j = lt i j) ∧ (lt 1 0 = true → lt 2 1 = true → lt 2 0 = true) ∧ (lt 1 0 = false → lt 2 1 = false → lt 2 0 = false) := by
  refine ⟨fun i j hi hj n => ?_, fun a b => tr 2 1 0 (by decide) (by decide) (by decide) b a, fun a b => ?_⟩
  · have hi' : i = 0 ∨ i = 1 ∨ i = 2 := c3 (by assumption)
    have hj' : j = 0 ∨ j = 1 ∨ j = 2 := c3 (by assumption)
    rcases hi' with rfl | rfl | rfl <;> rcases hj' with rfl | rfl | rfl <;> first | exact absurd rfl n | rfl | exact (tot _ _ (by decide) (by decide) (by decide)).symm
  · cases q : lt 2 0 with
    | false => rfl
    | true =>
      have a' : lt 0 1 = true := by rw [tot 1 0 (by decide) (by decide) (by decide), a]; rfl
      have := tr 2 0 1 (by decide) (by decide) (by decide) q a'
      rw [b] at this; cases this
theorem sorted_tab {i j k : Nat} (h : [i, j, k] ∈ perm3) (b1 : lt i j = true) (b2 : lt j k = true) : sortedBy (ltB (lt 1 0) (lt 2 1) (lt 2 0)) [i, j, k] = true := by
  obtain ⟨e, _, _⟩ := tab_eq tot tr
  have r := p3 h
  show (ltB _ _ _ i j && ltB _ _ _ j k) = true
  rw [e i j r.1.1 r.1.2.1 r.2.1.1, e j k r.1.2.1 r.1.2.2 r.2.1.2.1, b1, b2]
  rfl
theorem sorted_uniq {i j k i' j' k' : Nat} (h : [i, j, k] ∈ perm3) (b1 : lt i j = true) (b2 : lt j k = true) (h' : [i', j', k'] ∈ perm3) (b1' : lt i' j' = true) (b2' : lt j' k' = true) : i' = i ∧ j' = j ∧ k' = k := by
  obtain ⟨e, t1, t2⟩ := tab_eq tot tr
  have := (tab_all _ _ _ t1 t2 _ h (sorted_tab tot tr h b1 b2)).1 _ h' (sorted_tab tot tr h' b1' b2')
  simp only [List.cons.injEq, and_true] at this
  exact this
theorem sorted_pos {i j k : Nat} (h : [i, j, k] ∈ perm3) (b1 : lt i j = true) (b2 : lt j k = true) {a b : Nat} (ha : a < 3) (hb : b < 3) (n : a ≠ b) : lt a b = decide (posL [i, j, k] a < posL [i, j, k] b) := by
  obtain ⟨e, t1, t2⟩ := tab_eq tot tr
  have := (tab_all _ _ _ t1 t2 _ h (sorted_tab tot tr h b1 b2)).2 a (by simp; omega) b (by simp; omega) n
  rw [e a b ha hb n] at this
  exact this
end
theorem cmp_ne {m1 m2 : Str} {n1 n2 : Int} (h : m1 ≠ m2) : cmpT m1 n1 m2 n2 ≠ 0 := by
  unfold cmpT
  by_cases e : n1 = n2
  · subst e
    rw [if_neg (by simp)]
    have h' : m1.cps.toList ≠ m2.cps.toList := fun z => h (by cases m1; cases m2; simp only [Str.mk.injEq]; exact Array.ext' z)
    by_cases a : m1.cps.toList < m2.cps.toList
    · rw [if_pos a]; decide
    · rw [if_neg a, if_pos]
      · decide
      · rcases List.le_iff_lt_or_eq.mp (List.not_lt.mp a) with q | q
        · exact q
        · exact absurd q.symm h'
  · rw [if_pos e]
    omega
theorem cmp_self (m : Str) (n : Int) : cmpT m n m n = 0 := by
  unfold cmpT
  have : ¬ m.cps.toList < m.cps.toList := List.lt_irrefl _
  simp [this]
theorem pos_inj {i j k : Nat} (h : [i, j, k] ∈ perm3) {a b : Nat} (ha : a < 3) (hb : b < 3) (n : a ≠ b) : posL [i, j, k] a ≠ posL [i, j, k] b := by
  have : ∀ p ∈ perm3, ∀ a ∈ [0, 1, 2], ∀ b ∈ [0, 1, 2], a ≠ b → posL p a ≠ posL p b := by decide +kernel
  exact this _ h a (by simp; omega) b (by simp; omega) n
theorem cells_eq {m : Nat → Str} {n : Nat → Int} {i j k : Nat} (hne : ∀ i j, i < 3 → j < 3 → i ≠ j → m i ≠ m j) (h : [i, j, k] ∈ perm3) (b1 : before (m i) (n i) (m j) (n j) = true) (b2 : before (m j) (n j) (m k) (n k) = true) {a b : Nat} (ha : a < 3) (hb : b < 3) :
   kcell m n a b = rcell (fun a => (posL [i, j, k] a : Int)) a b := by
  unfold kcell rcell
  by_cases e : a = b
  · subst e
    rw [cmp_self]
    simp [opB]
  · have z := sorted_pos (lt := fun i j => before (m i) (n i) (m j) (n j)) (fun i j a b c => before_tot (hne i j a b c)) (fun i j k _ _ _ => before_trans) h b1 b2 ha hb e
    have q := pos_inj h ha hb e
    have c := cmp_ne (n1 := n a) (n2 := n b) (hne a b ha hb e)
    rw [← before_cmp] at z
    unfold opB at z ⊢
    try dsimp only at z ⊢
    have z := decide_eq_decide.mp z
    generalize cmpT (m a) (n a) (m b) (n b) = x at z c ⊢
    have e1 : decide (x ≤ 0) = decide ((posL [i, j, k] a : Int) ≤ posL [i, j, k] b) := decide_eq_decide.mpr (by omega)
    have e2 : (x == 0) = ((posL [i, j, k] a : Int) == posL [i, j, k] b) := by rw [beq_eq_false_iff_ne.mpr c, beq_eq_false_iff_ne.mpr (by omega)]
    have e3 : decide (0 ≤ x) = decide ((posL [i, j, k] b : Int) ≤ posL [i, j, k] a) := decide_eq_decide.mpr (by omega)
    have e4 : decide (0 < x) = decide ((posL [i, j, k] b : Int) < posL [i, j, k] a) := decide_eq_decide.mpr (by omega)
    rw [e1, e2, e3, e4]
theorem grid_eq {f g : Nat → Nat → List Bool} (h : ∀ a b, a < 3 → b < 3 → f a b = g a b) : grid f = grid g := by
  unfold grid
  rw [h 0 0, h 0 1, h 0 2, h 1 0, h 1 1, h 1 2, h 2 0, h 2 1, h 2 2] <;> decide
theorem GridOk.cong {h : Heap} {f g : Nat → Nat → List Bool} {k : Nat} {ys : List Value} (e : grid f = grid g) (x : GridOk h f k ys) : GridOk h g k ys := let ⟨as, r, y⟩ := x; ⟨as, r, e ▸ y⟩
section
variable {prog : Program} {w : World} {A : Around} {h₀ h h' : Heap} {fs : List (Addr × Cl)} {gs : Array GenState} {d : Drawn} {t : Nat} {os : OsState} {E : Value → Shared → Prop}
theorem r_neG {l1 l2 : Addr} {f : Nat → Nat → List Bool} {ys zs : List Value} {Q : Value → Shared → Prop} (D : Sl prog w h₀ h fs) (h1 : h₀.IsList l1 ys.toArray) (h2 : h.IsList l2 zs.toArray) (g1 : GridOk h₀ f 9 ys) (g2 : GridOk h₀ f 9 zs) (hu : A.units + 2 < 9900) (k : Q (.bool false) ⟨h, gs, d, t, os⟩) : wpAny (model prog w) A (compareOp .NotEq (.ref l1) (.ref l2)) Q E ⟨h, gs, d, t, os⟩ := by
  obtain ⟨as1, rfl, ga⟩ := g1
  obtain ⟨as2, rfl, gb⟩ := g2
  exact r_neGrid (gs1 := (grid f).take 9) D (IsList.kp h1 D.keep) h2 (ga.imp fun _ _ z => IsList.kp z D.keep) (gb.imp fun _ _ z => IsList.kp z D.keep) hu k
end
noncomputable def pick3 (x y z : Nat) (i : Nat) : Nat := match i with | 0 => x | 1 => y | _ => z
theorem perm_lt {q : Nat → Nat} (hp : [q 0, q 1, q 2] ∈ perm3) {z : Nat} (hz : z < 3) : q z < 3 := by
  have r := (p3 hp).1
  rcases c3 hz with rfl | rfl | rfl
  · exact r.1
  · exact r.2.1
  · exact r.2.2
theorem Cnt.tup {h : Heap} {a : Addr} {m : Str} {n : Int} (x : Cnt h a m n) : ∃ u v, IsTup h a #[.str m u, .int n v] := let ⟨u, v, e⟩ := x; ⟨u, v, isTup_of e⟩
theorem perm_same {q p : Nat → Nat} (h : p 0 = q 0 ∧ p 1 = q 1 ∧ p 2 = q 2) {z : Nat} (hz : z < 3) : p z = q z := by
  rcases c3 hz with rfl | rfl | rfl
  · exact h.1
  · exact h.2.1
  · exact h.2.2
theorem rel3 {cv : List (Str × Value)} {a b c : Str} {x y z : Int} (h : Rel IV cv [(a, x), (b, y), (c, z)]) : ∃ v : Nat → Tok, cv = [(a, .int x (v 0)), (b, .int y (v 1)), (c, .int z (v 2))] := by
  cases h with
  | cons e0 h =>
    cases h with
    | cons e1 h =>
      cases h with
      | cons e2 h =>
        cases h
        obtain ⟨u0, rfl⟩ := e0
        obtain ⟨u1, rfl⟩ := e1
        obtain ⟨u2, rfl⟩ := e2
        exact ⟨fun i => match i with | 0 => u0 | 1 => u1 | _ => u2, rfl⟩
theorem rank_ok {m : Nat → Str} {n : Nat → Int} {i j k : Nat} (hne : ∀ i j, i < 3 → j < 3 → i ≠ j → m i ≠ m j) (h : [i, j, k] ∈ perm3) {o : Nat → Nat} (h0 : o 0 = i) (h1 : o 1 = j) (h2 : o 2 = k) {a : Nat} (ha : a < 3) :
   posL [i, j, k] a < 3 ∧ (m (o (posL [i, j, k] a)) == m a && n (o (posL [i, j, k] a)) == n a) = true ∧ ∀ b, b < posL [i, j, k] a → (m (o b) == m a && n (o b) == n a) = false := by
  have t : ∀ p ∈ perm3, ∀ a ∈ [0, 1, 2], posL p a < 3 ∧ p.getD (posL p a) 0 = a ∧ ∀ b ∈ [0, 1, 2], b < posL p a → p.getD b 0 ≠ a ∧ p.getD b 0 < 3 := by decide +kernel
  have t := t _ h a (by simp; omega)
  have g : ∀ b, b < 3 → o b = [i, j, k].getD b 0 := fun b hb => by
    have : b = 0 ∨ b = 1 ∨ b = 2 := c3 (by assumption)
    rcases this with rfl | rfl | rfl <;> assumption
  refine ⟨t.1, ?_, fun b hb => ?_⟩
  · rw [g _ t.1, t.2.1, beq_self_eq_true, beq_self_eq_true]; rfl
  · have hb3 : b < 3 := Nat.lt_trans hb t.1
    have z := t.2.2 b (by simp; omega) hb
    rw [g b hb3, beq_eq_false_iff_ne.mpr (hne _ _ z.2 ha z.1), Bool.false_and]
end Mine
end PPV
section PLW
namespace Mine
section
variable {prog : Program} {w : World} {A : Around} {h₀ h h' : Heap} {fs : List (Addr × Cl)} {gs : Array GenState} {d : Drawn} {t : Nat} {os : OsState} {E : Value → Shared → Prop} {R : Result → Shared → Prop} {env : Env}
theorem fn_163 (P : Params) : FnOkC hK P 163 fd163 bd163 (fun L => [(Str.ofString "ranks", L + 4), (Str.ofString "keys", L + 3), (Str.ofString "known", L + 2), (Str.ofString "due", L + 1)]) := ⟨by kernel_rfl, by kernel_rfl, by kernel_rfl, by kernel_rfl, by kernel_rfl, by kernel_rfl, by kernel_rfl, fun L => by kernel_rfl, fun L => by show [Str.ofString "ranks", Str.ofString "keys", Str.ofString "known", Str.ofString "due"].Nodup; decide +kernel⟩
theorem lawA {l : Addr} {vs : List Value} {ns : List Int} (D : Sl prog w h₀ h [(85, .obj (tabObj #[]))]) (G : Gd w.params hK h₀) (HG : Gm w.params h₀) (hroom : A.depth + 20 < recursionLimit) (hu : A.units + 200 < 9900) (hA : A.handled = none) (h4 : h₀.get? 4 = some { cls := .type "module", dict := some 0, data := .plain })
   (hl : h₀.IsList l vs.toArray) (hi : IntsAre vs ns) (hz : ns.length ≤ 63)
   (k : ∀ h' tk ps, (∀ b o, h₀.get? b = some o → h'.get? b = some o) → h'.get? 85 = some (tabObj ps) → R (.ok (.ret (.bool true))) ⟨h', gs, d, tk, os⟩) :
   codeAny (model prog w) A (.call (.ref 163) ⟨[.ref l], []⟩) R ⟨h, gs, d, t, os⟩ := by
  refine r_callC (x := Str.ofString "script") D G (fn_163 w.params) (d00 hroom) (by kernel_rfl) (fun L => ⟨by kernel_rfl, by kernel_rfl⟩) (fun L h' t D => ?_)
  replace D : Sl prog w h₀ h' ((L, .frm [(S "script", .ref l)]) :: (L + 4, .cel none) :: (L + 3, .cel none) :: (L + 2, .cel none) :: (L + 1, .cel none) :: (85, .obj (tabObj #[])) :: []) := D
  with_unfolding_all change wpAny _ _ (execs (_ :: _) _) _ _ _
  repeat' (first
  | walk_at "b W"
    | walk_at "b W2"
  | walk_at "b NC"
  | with_reducible refine wpAny_Slice ?_
  | with_reducible refine wpAny_evalPart_none ?_
  | with_reducible refine wpAny_evalPart_some ?_
  | fail)
  refine r_lslice D (IsList.kp hl D.keep) (by rw [hi.length]; omega) (fun x h' D => ?_) (by with_unfolding_all rfl) (fun _ => by with_unfolding_all rfl)
  refine r_ladd D (Heap.PlainList.isList (D.at (.s .z))) (Heap.PlainList.isList (D.at .z)) (by rw [List.length_take, hi.length]; simp only [List.length_cons, List.length_nil]; omega) (fun y h' D => ?_)
  refine D.out (fun h₁ e1 hy D => ?_)
  replace D := D.tail.tail
  have G := G.keeps e1
  repeat' (first
  | walk_at "b W"
    | walk_at "b W2"
  | walk_at "b NC"
  | fail)
  refine events (ns := written ++ ns.take 8) D G (by show A.depth + 1 + 1 < _; exact dk hroom (Nat.le_of_ble_eq_true rfl)) hA (Heap.PlainList.isList hy) (by exact IntsAre.append (ns := written) (.cons _ _ (.cons _ _ (.cons _ _ (.cons _ _ (.cons _ _ (.cons _ _ (.cons _ _ (.cons _ _ (.cons _ _ (.cons _ _ (.cons _ _ (.cons _ _ (.cons _ _ .nil))))))))))))) (hi.take 8)) (by rw [List.length_append, List.length_take]; show 13 + _ ≤ 30; omega) (fun h₂ h' t ev es e2 hev hes D => ?_)
  have G := G.keeps e2
  repeat' (first
  | walk_at "b W"
    | walk_at "b W2"
  | walk_at "b NC"
  | fail)
  refine mkrd D G (by show A.depth + 1 + 8 < _; exact dk hroom (Nat.le_of_ble_eq_true rfl)) hA (fun x ig ui h₃ h' t e3 RD D => ?_)
  have G := G.keeps e3
  repeat' (first | with_reducible refine r_dict0 D (fun cd h' D => ?_) | (first
  | walk_at "b W"
    | walk_at "b W2"
  | walk_at "b NC"
  | fail))
  refine D.out (fun h₄ e4 hst D => ?_)
  have D := D.front (.s .z)
  dsimp only [List.eraseIdx_cons_succ, List.eraseIdx_cons_zero] at D
  have G := G.keeps e4
  have hNl : (written ++ ns.take 8).length ≤ 21 := by rw [List.length_append, List.length_take]; show 13 + _ ≤ 21; omega
  refine reduced (ns := written ++ ns.take 8) (s := st0) D G (by show A.depth + 1 + 3 < _; exact dk hroom (Nat.le_of_ble_eq_true rfl)) hA (RD.up e4) (IsList.kp (IsList.kp hev e3) e4) ((hes.up e3).up e4) ⟨⟨_, hst⟩, .cons ⟨_, rfl⟩ .nil, .nil⟩ (by show 1 + _ ≤ 50; omega) (by show 0 + _ ≤ 50; omega) (by show 0 + _ ≤ 50; omega) (fun h₅ h' t st kv cv e5 ST D => ?_)
  have G := G.keeps e5
  refine ST.1.elim fun ua hst => ?_
  have VC : Rel IV cv [(m3 0, cnt (written ++ ns.take 8) 0), (m3 1, cnt (written ++ ns.take 8) 1), (m3 2, cnt (written ++ ns.take 8) 2)] := by
    have z := ST.2.2
    rw [runN] at z
    exact z
  repeat' (first
  | walk_at "b W"
    | walk_at "b W2"
  | walk_at "b NC"
  | ((with_reducible refine' r_unpack D (isTup_of hst) ?hA ?q1 ?q2 (fun h' D => ?_)); (case hA => exact hA); (case q1 => rfl); (case q2 => rfl))
  | fail)
  refine due (ns := written ++ ns.take 8) (fp := fp) D G (by show A.depth + 1 + 3 < _; exact dk hroom (Nat.le_of_ble_eq_true rfl)) (by show A.units + 3 + 80 < _; exact dk hu (Nat.le_of_ble_eq_true rfl)) hA (IsList.kp (IsList.kp (IsList.kp hev e3) e4) e5) (((hes.up e3).up e4).up e5) (by omega) (fun m hm => fp_ok _ m hm) fp_len fp_keeps (fun du h₆ h' t q o hp b1 b2 e6 dows D => ?_)
  have G := G.keeps e6
  refine D.out (fun h₇ e7 hdu D => ?_)
  have G := G.keeps e7
  repeat' (first
  | walk_at "b W"
    | walk_at "b W2"
  | walk_at "b NC"
  | fail)
  have hq : ∀ z, z < 3 → q z < 3 := fun z hz => perm_lt hp hz
  have hdu : h₇.PlainList du [Value.ref (o 0), .ref (o 1), .ref (o 2)].toArray := hdu
  have dows : ∀ z, z < 3 → Cnt h₇ (o z) (m3 (q z)) (cnt (written ++ ns.take 8) (q z)) := fun z hz => (dows z hz).up e7
  refine r_lc (cl := []) (by kernel_rfl) (by kernel_rfl) (by kernel_rfl) ?_ (fun _ => rfl)
  repeat' (first
  | walk_at "b W"
    | walk_at "b W2"
  | walk_at "b NC"
  | fail)
  refine i_list D (Heap.PlainList.isList hdu) (fun I h' D => ?_)
  refine knownC (o := o) (m := fun z => m3 (q z)) (n := fun z => cnt (written ++ ns.take 8) (q z)) D hA (Heap.PlainList.isList hdu) dows (fun h t lf acc C u0 u1 u2 D => ?_)
  refine fin_none D (fun h' D => ?_)
  refine D.out (fun h₈ e8 hkn D => ?_)
  have G := G.keeps e8
  have hkw : KTD.Words h₈ acc [m3 (q 0), m3 (q 1), m3 (q 2)] := ⟨_, Heap.PlainList.isList hkn, .cons _ _ (.cons _ _ (.cons _ _ .nil))⟩
  have up8 : ∀ b o, h₂.get? b = some o → h₈.get? b = some o := fun b o e => e8 _ _ (e7 _ _ (e6 _ _ (e5 _ _ (e4 _ _ (e3 _ _ e)))))
  repeat' (first
  | walk_at "b W"
    | walk_at "b W2"
  | walk_at "b NC"
  | fail)
  refine r_lc (cl := [(Str.ofString "known", L + 1 + 1)]) (by kernel_rfl) (by kernel_rfl) (by kernel_rfl) ?_ (fun _ => rfl)
  repeat' (first
  | walk_at "b W"
    | walk_at "b W2"
  | walk_at "b NC"
  | fail)
  refine i_list D (IsList.kp hev up8) (fun I h' D => ?_)
  refine joinC (ns := written ++ ns.take 8) D hA (.s (.s (.s (.s (.s .z))))) hkw (IsList.kp hev up8) (hes.up up8) (by omega) (fun h t lf acc C ys hys D => ?_)
  refine fin_none D (fun h' D => ?_)
  repeat' (first
  | walk_at "b W"
    | walk_at "b W2"
  | walk_at "b NC"
  | fail)
  refine PyProof.Rows.join_list (Heap.PlainList.isList (D.at .z)) hys ?_ (fun t' t => ?_)
  · have e1 : ∀ l : List Int, ((l.map fun n => if KTD.inWords (evMod n) [m3 (q 0), m3 (q 1), m3 (q 2)] = true then S "0" else S "1").map (·.length)).sum ≤ l.length := fun l => by
      induction l with
      | nil => exact Nat.le_refl _
      | cons n l ih =>
        have one : (if KTD.inWords (evMod n) [m3 (q 0), m3 (q 1), m3 (q 2)] = true then S "0" else S "1").length = 1 := by split <;> decide +kernel
        rw [List.map_cons, List.map_cons, List.sum_cons, one, List.length_cons]
        omega
    have e2 := e1 (written ++ ns.take 8)
    rw [show (S "").length = 0 by decide +kernel, Nat.mul_zero, Nat.add_zero]
    exact Nat.le_trans e2 (by omega)
  replace D := D.tail
  have hjoin : bitsT (st0.run (written ++ ns.take 8)).bs = Txt.join (S "") ((written ++ ns.take 8).map fun n => if KTD.inWords (evMod n) [m3 (q 0), m3 (q 1), m3 (q 2)] = true then S "0" else S "1") := by
    rw [runN, bits_join]
    show Txt.join _ (((written ++ ns.take 8).map bOf).map bitT) = _
    rw [List.map_map]
    congr 1
    refine List.map_congr_left fun n _ => ?_
    rw [inW_perm hp]
    show bitT (!KTD.inWords (evMod n) known3) = _
    cases KTD.inWords (evMod n) known3 <;> rfl
  refine ne_str ?_
  rw [← hjoin, bne_self_eq_false]
  repeat' (first
  | walk_at "b W"
    | walk_at "b W2"
  | walk_at "b NC"
  | fail)
  refine (rel3 VC).elim fun v ecv => ?_
  have hcs : (cd == sysModules) = false := by
    obtain ⟨osm, esm⟩ := G.sm
    refine beq_eq_false_iff_ne.mpr fun z => ?_
    have n0 := (D.ok _ (.tail _ (.head _))).2
    rw [show (_ : Addr) = sysModules from z, esm] at n0
    cases n0
  have D := D.front (.s .z)
  dsimp only [List.eraseIdx_cons_succ, List.eraseIdx_cons_zero] at D
  refine D.out (fun h₉ e9 hcd D => ?_)
  have G := G.keeps e9
  refine (Heap.DictOf.dictAt (show h₉.DictOf (strKind prog w) cd cv from hcd)).elim fun ep hcd => ?_
  rw [ecv] at hcd
  refine emptied (m := m3) (n := cnt (written ++ ns.take 8)) (v := v) D G (by show A.depth + 1 + 3 < _; exact dk hroom (Nat.le_of_ble_eq_true rfl)) (by show A.units + 3 + 80 < _; exact dk hu (Nat.le_of_ble_eq_true rfl)) hA hcs hcd m3_ne (fun em h₁₀ h' t q' o' hp' b1' b2' e10 cs' D => ?_)
  have hu3 := sorted_uniq (lt := fun i j => before (m3 i) (cnt (written ++ ns.take 8) i) (m3 j) (cnt (written ++ ns.take 8) j)) (fun i j a b c => before_tot (m3_ne i j a b c)) (fun i j k _ _ _ => before_trans) hp b1 b2 hp' b1' b2'
  repeat' (first
  | walk_at "b W"
    | walk_at "b W2"
  | walk_at "b NC"
  | fail)
  have up10 : ∀ b o, h₇.get? b = some o → h₁₀.get? b = some o := fun b o e => e10 _ _ (e9 _ _ (e8 _ _ e))
  refine r_neRows (a := o') (b := o) (m := fun z => m3 (q z)) (n := fun z => cnt (written ++ ns.take 8) (q z)) D (Heap.PlainList.isList (D.at .z)) (IsList.kp (Heap.PlainList.isList hdu) up10) (fun z hz => perm_same hu3 hz ▸ cs' z hz) (fun z hz => (dows z hz).up up10) (by show A.units + 3 + 2 < _; exact dk hu (Nat.le_of_ble_eq_true rfl)) ?_
  have G := G.keeps e10
  have D := D.tail
  repeat' (first
  | walk_at "b W"
    | walk_at "b W2"
  | walk_at "b NC"
  | fail)
  refine r_lcA (cl := []) (by kernel_rfl) (by kernel_rfl) (by kernel_rfl) (by kernel_rfl) ?_ (fun _ => rfl)
  repeat' (first
  | walk_at "b W"
    | walk_at "b W2"
  | walk_at "b NC"
  | with_reducible refine r_mitems D (hcd.keep e10) ?_
  | with_reducible refine r_cw0 ?_
  | with_reducible refine r_items D hcs (hcd.keep e10) (fun vw h' D => ?_)
  | fail)
  refine i_items D (hcd.keep e10) (fun I h' D => ?_)
  refine itemsC (m := m3) (n := cnt (written ++ ns.take 8)) (v := v) D hA (hcd.keep e10) (fun h₁₁ h t lf acc2 C row e11 rws D => ?_)
  have G := G.keeps e11
  refine fin_some ?_
  repeat' (first
  | walk_at "b W"
    | walk_at "b W2"
  | walk_at "b NC"
  | fail)
  refine ⟨_, _, _, _, _, rfl, D, fun h' D => ?_⟩
  refine D.out (fun h₁₂ e12 hrw D => ?_)
  have G := G.keeps e12
  replace hrw : h₁₂.PlainList acc2 [Value.ref (row 0), .ref (row 1), .ref (row 2)].toArray := hrw
  have rws := fun j hj => (rws j hj).up e12
  have D := D.tail
  repeat' (first
  | walk_at "b W"
    | walk_at "b W2"
  | walk_at "b NC"
  | fail)
  have up12 : ∀ b o, h₀.get? b = some o → h₁₂.get? b = some o := fun b o e => e12 _ _ (e11 _ _ (up10 _ _ (e7 _ _ (e6 _ _ (e5 _ _ (e4 _ _ (e3 _ _ (e2 _ _ (e1 _ _ e)))))))))
  have D := D.front (.s (.s (.s (.s (.s .z)))))
  dsimp only [List.eraseIdx_cons_succ, List.eraseIdx_cons_zero] at D
  refine mkA (p85 := #[]) (tk := []) D G (HG.up up12) .no (by show A.depth + 1 + 3 < _; exact dk hroom (Nat.le_of_ble_eq_true rfl)) (up12 _ _ h4) (fun r h₁₃ h' t cK TK ps e13 K TS D => ?_)
  have G := G.keeps e13
  repeat' (first
  | walk_at "b W"
    | walk_at "b W2"
  | walk_at "b NC"
  | with_reducible refine wpAny_Slice ?_
  | with_reducible refine wpAny_evalPart_none ?_
  | with_reducible refine wpAny_evalPart_some ?_
  | fail)
  refine r_lslice D (IsList.kp (IsList.kp (Heap.PlainList.isList hrw) e13) D.keep) (Nat.le_of_ble_eq_true rfl) (fun sl h' D => ?_) (by with_unfolding_all rfl) (fun _ => by with_unfolding_all rfl)
  refine D.out (fun h₁₄ e14 hsl D => ?_)
  have G := G.keeps e14
  replace hsl : h₁₄.PlainList sl [Value.ref (row 0), .ref (row 1), .ref (row 2)].toArray := hsl
  repeat' (first
  | walk_at "b W"
    | walk_at "b W2"
  | walk_at "b NC"
  | fail)
  refine r_map D (Heap.PlainList.isList hsl) (fun mp T I h' D => ?_)
  refine D.out (fun h₁₅ e15 hmp D => ?_)
  refine D.out (fun h₁₆ e16 hT D => ?_)
  have G := (G.keeps e15).keeps e16
  repeat' (first
  | walk_at "b W"
    | walk_at "b W2"
  | walk_at "b NC"
  | fail)
  have up16 : ∀ b o, h₁₃.get? b = some o → h₁₆.get? b = some o := fun b o e => e16 _ _ (e15 _ _ (e14 _ _ e))
  refine r_listmap (o := row) D G (K.up up16) (by show A.depth + 1 + 4 < _; exact dk hroom (Nat.le_of_ble_eq_true rfl)) hA (e16 _ _ hmp) hT (IsList.kp (IsList.kp (Heap.PlainList.isList hsl) e15) e16) (fun ks kx h₁₇ h' t e17 X D => ?_)
  have G := G.keeps e17
  refine D.out (fun h₁₈ e18 hks D => ?_)
  have G := G.keeps e18
  replace hks : h₁₈.PlainList ks [Value.ref (kx 0), .ref (kx 1), .ref (kx 2)].toArray := hks
  have up18 : ∀ b o, h₁₂.get? b = some o → h₁₈.get? b = some o := fun b o e => e18 _ _ (e17 _ _ (up16 _ _ (e13 _ _ e)))
  repeat' (first
  | walk_at "b W"
    | walk_at "b W2"
  | walk_at "b NC"
  | fail)
  refine r_lc (cl := [(Str.ofString "due", L + 1)]) (by kernel_rfl) (by kernel_rfl) (by kernel_rfl) ?_ (fun _ => rfl)
  repeat' (first
  | walk_at "b W"
    | walk_at "b W2"
  | walk_at "b NC"
  | with_reducible refine wpAny_Slice ?_
  | with_reducible refine wpAny_evalPart_none ?_
  | with_reducible refine wpAny_evalPart_some ?_
  | fail)
  refine r_lslice D (IsList.kp (IsList.kp (Heap.PlainList.isList hrw) up18) D.keep) (Nat.le_of_ble_eq_true rfl) (fun s2 h' D => ?_) (by with_unfolding_all rfl) (fun _ => by with_unfolding_all rfl)
  refine D.out (fun h₁₉ e19 hs2 D => ?_)
  have G := G.keeps e19
  replace hs2 : h₁₉.PlainList s2 [Value.ref (row 0), .ref (row 1), .ref (row 2)].toArray := hs2
  have up19 : ∀ b o, h₁₂.get? b = some o → h₁₉.get? b = some o := fun b o e => e19 _ _ (up18 _ _ e)
  have up7 : ∀ b o, h₇.get? b = some o → h₁₂.get? b = some o := fun b o e => e12 _ _ (e11 _ _ (up10 _ _ e))
  refine i_list D (Heap.PlainList.isList hs2) (fun I2 h' D => ?_)
  refine ranksC (x := row) (o := o) (m := m3) (n := cnt (written ++ ns.take 8)) (m' := fun z => m3 (q z)) (n' := fun z => cnt (written ++ ns.take 8) (q z)) (q := posL [q 0, q 1, q 2]) D hA (by show A.units + 3 + 3 < _; exact dk hu (Nat.le_of_ble_eq_true rfl)) (.s (.s (.s (.s (.s (.s .z)))))) (Heap.PlainList.isList hs2) (fun z hz => (rws z hz).up up19) (hdu.at fun o e => up19 _ _ (up7 _ _ e)) (fun z hz => (dows z hz).up fun b o e => up19 _ _ (up7 _ _ e)) (fun z hz => ?_) (fun h t lf acc3 C ur D => ?_)
  · exact rank_ok m3_ne hp rfl rfl rfl hz
  refine fin_none D (fun h' D => ?_)
  refine D.out (fun h₂₀ e20 hrk D => ?_)
  have G := G.keeps e20
  repeat' (first
  | walk_at "b W"
    | walk_at "b W2"
  | walk_at "b NC"
  | fail)
  refine D.out (fun h₂₁ e21 htp D => ?_)
  have G := G.keeps e21
  replace htp : h₂₁.get? a = some (tupO [.ref ks, .ref acc3]) := htp
  repeat' (first
  | walk_at "b W"
    | walk_at "b W2"
  | walk_at "b NC"
  | ((with_reducible refine' r_unpack D (isTup_of htp) ?hA ?q1 ?q2 (fun h' D => ?_)); (case hA => exact hA); (case q1 => rfl); (case q2 => rfl))
  | fail)
  have up21 : ∀ b o, h₁₈.get? b = some o → h₂₁.get? b = some o := fun b o e => e21 _ _ (e20 _ _ (e19 _ _ e))
  refine r_lc (cl := [(Str.ofString "keys", L + 3)]) (by kernel_rfl) (by kernel_rfl) (by kernel_rfl) ?_ (fun _ => rfl)
  repeat' (first
  | walk_at "b W"
    | walk_at "b W2"
  | walk_at "b NC"
  | fail)
  have hks' := hks.at fun o e => up21 _ _ e
  refine i_list D (Heap.PlainList.isList hks') (fun I3 h' D => ?_)
  have krows : ∀ z, z < 3 → KRow r h₂₁ (kx z) (m3 z) (cnt (written ++ ns.take 8) z) := fun z hz => by
    obtain ⟨uz, vz, ez⟩ := (rws z hz).up up18
    exact KRow.up (h := h₁₈) ⟨_, uz, vz, (X z hz).up e18, isTup_of ez⟩ up21
  have K21 : KOk w.params r h₂₁ := K.up fun b o e => up21 _ _ (e18 _ _ (e17 _ _ (up16 _ _ e)))
  refine gridK (x := kx) (m := m3) (n := cnt (written ++ ns.take 8)) D G K21 (by show A.depth + 1 + 2 < _; exact dk hroom (Nat.le_of_ble_eq_true rfl)) (by show A.units + 3 + 20 < _; exact dk hu (Nat.le_of_ble_eq_true rfl)) hA (.s (.s (.s (.s .z)))) (Heap.PlainList.isList hks') krows (fun h₂₂ h t lf acc4 C ys e22 gk D => ?_)
  have G := G.keeps e22
  refine fin_none D (fun h' D => ?_)
  refine D.out (fun h₂₃ e23 hg1 D => ?_)
  have G := G.keeps e23
  replace hg1 : h₂₃.PlainList acc4 ys.toArray := hg1
  have gk := gk.up e23
  repeat' (first
  | walk_at "b W"
    | walk_at "b W2"
  | walk_at "b NC"
  | fail)
  refine r_lc (cl := [(Str.ofString "ranks", L + 4)]) (by kernel_rfl) (by kernel_rfl) (by kernel_rfl) ?_ (fun _ => rfl)
  repeat' (first
  | walk_at "b W"
    | walk_at "b W2"
  | walk_at "b NC"
  | fail)
  have hrk' := hrk.at fun o e => e23 _ _ (e22 _ _ (e21 _ _ e))
  refine i_list D (Heap.PlainList.isList hrk') (fun I4 h' D => ?_)
  refine gridR (q := fun z => (posL [q 0, q 1, q 2] z : Int)) (u := ur) D hA (.s (.s (.s .z))) (Heap.PlainList.isList hrk') (fun h₂₄ h t lf acc5 C zs e24 gr D => ?_)
  have G := G.keeps e24
  refine fin_none D (fun h' D => ?_)
  have gr := gr.cong (grid_eq fun a b ha hb => (cells_eq (n := cnt (written ++ ns.take 8)) m3_ne hp b1 b2 ha hb).symm)
  refine r_neG D (IsList.kp (Heap.PlainList.isList hg1) e24) (Heap.PlainList.isList (D.at .z)) (gk.up e24) gr (by show A.units + 3 + 2 < _; exact dk hu (Nat.le_of_ble_eq_true rfl)) ?_
  have D := D.tail
  repeat' (first
  | walk_at "b W"
    | walk_at "b W2"
  | walk_at "b NC"
  | fail)
  refine r_callkw (id := "sorted") ?_ (by rfl) (by rfl)
  repeat' (first
  | walk_at "b W"
    | walk_at "b W2"
  | walk_at "b NC"
  | with_reducible refine And.intro rfl ?_
  | fail)
  have up24 : ∀ b o, h₁₃.get? b = some o → h₂₄.get? b = some o := fun b o e => e24 _ _ (e23 _ _ (e22 _ _ (up21 _ _ (e18 _ _ (e17 _ _ (up16 _ _ e))))))
  have up0 : ∀ b o, h₀.get? b = some o → h₂₄.get? b = some o := fun b o e => up24 _ _ (e13 _ _ (up12 _ _ e))
  refine mkA (tk := [(TK, .obj (tabObj ps))]) D G (HG.up up0) (TS.up up24) (by show A.depth + 1 + 3 < _; exact dk hroom (Nat.le_of_ble_eq_true rfl)) (up0 _ _ h4) (fun r2 h₂₅ h' t cK2 TK2 ps2 e25 K2 TS2 D => ?_)
  have G := G.keeps e25
  refine r_sortedK (o := row) (m := m3) (n := cnt (written ++ ns.take 8)) D (.s (.s .z)) G K2 (by show A.depth + 1 + 4 < _; exact dk hroom (Nat.le_of_ble_eq_true rfl)) (by show A.units + 3 + 20 < _; exact dk hu (Nat.le_of_ble_eq_true rfl)) (IsList.kp (Heap.PlainList.isList hrw) fun b o e => e25 _ _ (up24 _ _ (e13 _ _ e))) (fun z hz => Cnt.tup ((rws z hz).up fun b o e => e25 _ _ (up24 _ _ (e13 _ _ e)))) m3_ne (fun so h₂₆ h' t x1 x2 x3 hx c1 c2 e26 D => ?_)
  have hu4 := sorted_uniq (lt := fun i j => before (m3 i) (cnt (written ++ ns.take 8) i) (m3 j) (cnt (written ++ ns.take 8) j)) (fun i j a b c => before_tot (m3_ne i j a b c)) (fun i j k _ _ _ => before_trans) hp b1 b2 hx c1 c2
  repeat' (first
  | walk_at "b W"
    | walk_at "b NC"
  | fail)
  have up26 : ∀ b o, h₁₂.get? b = some o → h₂₆.get? b = some o := fun b o e => e26 _ _ (e25 _ _ (up24 _ _ (e13 _ _ e)))
  refine r_eqRows (a := fun z => row (pick3 x1 x2 x3 z)) (b := o) (m := fun z => m3 (q z)) (n := fun z => cnt (written ++ ns.take 8) (q z)) D (Heap.PlainList.isList (D.at .z)) (IsList.kp (Heap.PlainList.isList hdu) fun b o e => up26 _ _ (up7 _ _ e)) (fun z hz => by have e := perm_same (p := pick3 x1 x2 x3) hu4 hz; exact (e ▸ (rws (q z) (hq z hz)) : Cnt h₁₂ (row (pick3 x1 x2 x3 z)) _ _).up up26) (fun z hz => (dows z hz).up fun b o e => up26 _ _ (up7 _ _ e)) (by show A.units + 3 + 2 < _; exact dk hu (Nat.le_of_ble_eq_true rfl)) ?_
  exact k _ _ _ (fun b o e => D.keep _ _ (up26 _ _ (up12 _ _ e))) (D.at (.s .z))
end
end Mine
end PLW
section PWR2
namespace Mine
theorem cw : PySem.Challenge.rw_oy0113_01.Holds := hd (by
  k_fill
  intro w s₀ s₁ mg mb G Y fa o pm cd doc dV kV ho hd hcd hD hmg hg args vals as hpre hlay hrd hwl hlo
  have KX := km_in_of Y
  have h85 : s₁.heap.get? 85 = some (tabObj #[]) := km_tabs_of Y 85 (.head _)
  refine Ground.open G ?_
  intro T B D TE TW
  wrow_args hpre hlay hrd hwl hlo
  rename_i ns l vs hL _ _ _ hI hr hz _
  first | refine callC_kw (enter_call ?_) | refine enter_call ?_ | refine callC_kw (enter_callW ?_) | refine enter_callW ?_ | w_how
  w_top on
  have hT : TabsAt [(89, 85)] s₁.heap := fun q hq => by
    obtain rfl := List.mem_singleton.mp hq
    exact ⟨codeHd_of_K (c := 89) (P := 85) KX (by kernel_rfl), h85⟩
  refine kn_post hT ?_ ?_
  · intro a x; rfl
  have efa : fa = 163 := by
    have e := mg_of (n := Str.ofString "law") (v := .ref 163) KX T.g (by kernel_rfl)
    have e2 : mg (Str.ofString "law") = some (.ref fa) := hmg
    rw [e] at e2
    cases e2
    rfl
  subst efa
  obtain ⟨s1h, s1g, s1d, s1t, s1o⟩ := s₁
  dsimp only at *
  have KXg : (hK w.params).In (ghostOf s1h [(89, 85)]) := ghost_K hT KX (by kernel_rfl)
  refine lawA (h₀ := ghostOf s1h [(89, 85)]) ⟨fun a o e => of_hideAll _ e, fun p hp => ?_, by simp⟩ ⟨KXg, ?_, ⟨PySem.W.boot_o_1 w.params, KXg 1 _ (by kernel_rfl)⟩, ?_⟩ ⟨⟨mg, (ghost_top hT T).g⟩, ⟨{ cls := .type "module", dict := some 0, data := .plain }, KXg 4 _ (by kernel_rfl), rfl, rfl, rfl⟩⟩ (by decide) (by decide) rfl (KXg 4 _ (by kernel_rfl)) (ghost_list hT hL) hI (by omega) ?_
  · obtain rfl := List.mem_singleton.mp hp
    exact ⟨h85, hideAll_none _ (.head _)⟩
  · exact (ghost_top hT T).nolimit
  · exact ⟨mb, (ghost_top hT T).b, (ghost_top hT T).builtins⟩
  · intro h' tk ps kp e85
    exact ⟨⟨.inl ⟨_, _, _, rfl, fun _ => rfl, .bool true, by kernel_rfl, unshared_nil⟩, kp, rfl, hg⟩, ⟨ps, e85⟩, trivial⟩)
end Mine
end PWR2
theorem PySem.Challenge.cw_oy0113_01_holds : PySem.Challenge.rw_oy0113_01.Holds := by
  exact Mine.cw
