import PyProof.Rows.All
import Wide.All
import OpenK.AllK
import Wide.FinOn
import PySem.Challenge.RW_nb0193_01
set_option Elab.async false
set_option compiler.extract_closed false
section
open PySem PySem.W PyProof.Rows
set_option maxRecDepth 100000
set_option maxHeartbeats 0
namespace Mine
noncomputable section
noncomputable abbrev pw : Program := PySem.Challenge.pw_nb0193_01
/-- the text's statement -/
noncomputable def st (i : Nat) : Stmt := (pw.main.body[i]?).getD (.Pass default)
/-- a def's data, as the run lays it -/
noncomputable def fdOf (s : Stmt) (g : Addr) (dV pm cd : Value) : FuncData := match s with
  | .FunctionDef name args body _ _ _ scope _ _ _ => { name, qualname := name, params := args, body := .stmts body, scope, globals := g, closure := [], defaults := dV, kwdefaults := .none, pyModule := pm, code := cd }
  | _ => default
noncomputable def fd (i : Nat) (g : Addr) (dV pm cd : Value) : FuncData := fdOf (st i) g dV pm cd
noncomputable def kv (P : Params) (k : PySem.Str) (t : Tok) (v : Value) : DictEntry := ⟨PyData.keyHash P k, .str k t, v⟩
noncomputable def lst (l : List Value) (e : Nat) : Obj := ⟨.type "list", none, .seq l.toArray e, #[]⟩
noncomputable def dig (d : Nat) : Nat := if d < 10 then 48 + d else 55 + d
noncomputable def hexS (j : Nat) : PySem.Str := ⟨#[61, dig (j / 16), dig (j % 16)]⟩
noncomputable def hexes (k : Nat) : List Value := (List.range k).map fun j => Value.str (hexS j) (210 + 4 * j)
noncomputable def base256 : List Value := hexes 256
noncomputable def setCs (t0 : Nat) : List Nat → List Value → List Value
  | [], l => l
  | c :: r, l => setCs (t0 + 3) r (l.set c (.str ⟨#[c]⟩ t0))
noncomputable def hb : List Nat := [45, 33, 42, 43, 47] ++ (List.range 26).map (· + 97) ++ (List.range 26).map (· + 65) ++ (List.range 10).map (· + 48)
noncomputable def bb : List Nat := (List.range 29).map (· + 32) ++ (List.range 65).map (· + 62) ++ [9]
noncomputable def x3_0 (P : Params) : Obj := ⟨(.type "dict"), none, .dict #[kv P ⟨#[95, 95, 110, 97, 109, 101, 95, 95]⟩ 165 (.str ⟨#[95, 95, 109, 97, 105, 110, 95, 95]⟩ 164), kv P ⟨#[95, 95, 100, 111, 99, 95, 95]⟩ 166 .none, kv P ⟨#[95, 95, 112, 97, 99, 107, 97, 103, 101, 95, 95]⟩ 167 .none, kv P ⟨#[95, 95, 108, 111, 97, 100, 101, 114, 95, 95]⟩ 168 (.builtin "__main__.__loader__#opaque"), kv P ⟨#[95, 95, 115, 112, 101, 99, 95, 95]⟩ 169 .none, kv P ⟨#[95, 95, 97, 110, 110, 111, 116, 97, 116, 105, 111, 110, 115, 95, 95]⟩ 170 (.ref 6), kv P ⟨#[95, 95, 98, 117, 105, 108, 116, 105, 110, 115, 95, 95]⟩ 171 (.ref 4), kv P ⟨#[95, 95, 102, 105, 108, 101, 95, 95]⟩ 173 (.str ⟨#[47, 99, 108, 97, 105, 109, 47, 99, 117, 116, 46, 112, 121]⟩ 172), kv P ⟨#[95, 95, 99, 97, 99, 104, 101, 100, 95, 95]⟩ 174 .none] 9, #[]⟩
noncomputable def x11_0 (_ : Params) : Obj := ⟨(.type "tuple"), none, .seq #[] 0, #[]⟩
noncomputable def x12_0 (_ : Params) : Obj := ⟨.none, none, .fields #[], #[]⟩
noncomputable def x13_0 (_ : Params) : Obj := ⟨(.type "code"), none, .fields #[(.str ⟨#[60, 109, 111, 100, 117, 108, 101, 62]⟩ 182), (.str ⟨#[60, 109, 111, 100, 117, 108, 101, 62]⟩ 183), (.str ⟨#[47, 99, 108, 97, 105, 109, 47, 99, 117, 116, 46, 112, 121]⟩ 184), (.int 1 0), (.int 0 0), (.int 0 0), (.int 0 0), (.int 0 0), (.ref 11), (.bool false), (.int 181 0), (.ref 12), .none, .none, .none, .none, (.int 185 0), (.int 1 0), (.str ⟨#[47, 99, 108, 97, 105, 109, 47, 99, 117, 116, 46, 112, 121]⟩ 186)], #[]⟩
noncomputable def x14_0 (_ : Params) : Obj := ⟨(.type "frame"), none, .plain, #[(some (.ref 13)), (some (.ref 3)), (some (.ref 3)), none, (some (.str ⟨#[95, 95, 109, 97, 105, 110, 95, 95]⟩ 164)), none, (some (.ref 0))]⟩
noncomputable def trb (P : Params) : BT := (.node (boot_o_0 P) (.node (boot_o_1 P) (.node (x3_0 P) (.node (boot_o_7 P) .nil .nil) (.node (x11_0 P) .nil .nil)) (.node (boot_o_5 P) (.node (boot_o_9 P) .nil .nil) (.node (x13_0 P) .nil .nil))) (.node (boot_o_2 P) (.node (boot_o_4 P) (.node (boot_o_8 P) .nil .nil) (.node (x12_0 P) .nil .nil)) (.node (boot_o_6 P) (.node (boot_o_10 P) .nil .nil) (.node (x14_0 P) .nil .nil))))
noncomputable def Sb (w : World) (os : OsState) : SharedT := ⟨trb w.params, 15, {}, #[], {}, 187, os⟩
noncomputable def x3_1 (P : Params) : Obj := ⟨(.type "dict"), none, .dict #[kv P ⟨#[95, 95, 110, 97, 109, 101, 95, 95]⟩ 165 (.str ⟨#[99, 112, 121, 51, 49, 51, 46, 100, 105, 102, 102, 108, 105, 98]⟩ 187), kv P ⟨#[95, 95, 100, 111, 99, 95, 95]⟩ 166 .none, kv P ⟨#[95, 95, 112, 97, 99, 107, 97, 103, 101, 95, 95]⟩ 167 .none, kv P ⟨#[95, 95, 108, 111, 97, 100, 101, 114, 95, 95]⟩ 168 (.builtin "__main__.__loader__#opaque"), kv P ⟨#[95, 95, 115, 112, 101, 99, 95, 95]⟩ 169 .none, kv P ⟨#[95, 95, 97, 110, 110, 111, 116, 97, 116, 105, 111, 110, 115, 95, 95]⟩ 170 (.ref 6), kv P ⟨#[95, 95, 98, 117, 105, 108, 116, 105, 110, 115, 95, 95]⟩ 171 (.ref 4), kv P ⟨#[95, 95, 102, 105, 108, 101, 95, 95]⟩ 173 (.str ⟨#[47, 99, 108, 97, 105, 109, 47, 99, 117, 116, 46, 112, 121]⟩ 172), kv P ⟨#[95, 95, 99, 97, 99, 104, 101, 100, 95, 95]⟩ 174 .none, kv P ⟨#[114, 101, 115, 116, 111, 114, 101]⟩ 199 (.ref 21), kv P ⟨#[67, 82, 76, 70]⟩ 201 (.str ⟨#[13, 10]⟩ 200), kv P ⟨#[78, 76]⟩ 203 (.str ⟨#[10]⟩ 202)] 12, #[]⟩
noncomputable def x12_1 (_ : Params) : Obj := ⟨.none, none, .fields #[(.int 2 0), (.int 0 0), (.ref 20)], #[]⟩
noncomputable def x15_0 (_ : Params) : Obj := ⟨(.type "tuple"), none, .seq #[] 0, #[]⟩
noncomputable def x16_0 (_ : Params) : Obj := ⟨.none, none, .fields #[], #[]⟩
noncomputable def x17_0 (_ : Params) : Obj := ⟨(.type "tuple"), none, .seq #[(.str ⟨#[100, 101, 108, 116, 97]⟩ 192), (.str ⟨#[119, 104, 105, 99, 104]⟩ 193), (.str ⟨#[116, 97, 103]⟩ 194), (.str ⟨#[112, 114, 101, 102, 105, 120, 101, 115]⟩ 195), (.str ⟨#[108, 105, 110, 101]⟩ 196)] 0, #[]⟩
noncomputable def x18_0 (_ : Params) : Obj := ⟨(.type "tuple"), none, .seq #[] 0, #[]⟩
noncomputable def x19_0 (_ : Params) : Obj := ⟨.none, none, .func (fd 1 0 .none .none .none), #[]⟩
noncomputable def x20_0 (_ : Params) : Obj := ⟨(.type "code"), none, .fields #[(.str ⟨#[114, 101, 115, 116, 111, 114, 101]⟩ 189), (.str ⟨#[114, 101, 115, 116, 111, 114, 101]⟩ 190), (.str ⟨#[47, 99, 108, 97, 105, 109, 47, 99, 117, 116, 46, 112, 121]⟩ 191), (.int 2 0), (.int 2 0), (.int 0 0), (.int 0 0), (.int 35 0), (.ref 15), (.bool true), (.int 181 0), (.ref 16), .none, (.ref 17), (.ref 18), (.ref 19), (.int 197 0), (.int 2 0), (.str ⟨#[47, 99, 108, 97, 105, 109, 47, 99, 117, 116, 46, 112, 121]⟩ 198)], #[]⟩
noncomputable def x21_0 (_ : Params) : Obj := ⟨(.type "function"), none, .func (fd 1 3 .none (.str ⟨#[99, 112, 121, 51, 49, 51, 46, 100, 105, 102, 102, 108, 105, 98]⟩ 187) (.ref 20)), #[]⟩
noncomputable def tr3 (P : Params) : BT := (.node (boot_o_0 P) (.node (boot_o_1 P) (.node (x3_1 P) (.node (boot_o_7 P) (.node (x15_0 P) .nil .nil) .nil) (.node (x11_0 P) (.node (x19_0 P) .nil .nil) .nil)) (.node (boot_o_5 P) (.node (boot_o_9 P) (.node (x17_0 P) .nil .nil) .nil) (.node (x13_0 P) (.node (x21_0 P) .nil .nil) .nil))) (.node (boot_o_2 P) (.node (boot_o_4 P) (.node (boot_o_8 P) (.node (x16_0 P) .nil .nil) .nil) (.node (x12_1 P) (.node (x20_0 P) .nil .nil) .nil)) (.node (boot_o_6 P) (.node (boot_o_10 P) (.node (x18_0 P) .nil .nil) .nil) (.node (x14_0 P) .nil .nil))))
noncomputable def S3 (w : World) (os : OsState) : SharedT := ⟨tr3 w.params, 22, {}, #[], {}, 204, os⟩
noncomputable def x3_2 (P : Params) : Obj := ⟨(.type "dict"), none, .dict #[kv P ⟨#[95, 95, 110, 97, 109, 101, 95, 95]⟩ 165 (.str ⟨#[99, 112, 121, 51, 49, 51, 46, 100, 105, 102, 102, 108, 105, 98]⟩ 187), kv P ⟨#[95, 95, 100, 111, 99, 95, 95]⟩ 166 .none, kv P ⟨#[95, 95, 112, 97, 99, 107, 97, 103, 101, 95, 95]⟩ 167 .none, kv P ⟨#[95, 95, 108, 111, 97, 100, 101, 114, 95, 95]⟩ 168 (.builtin "__main__.__loader__#opaque"), kv P ⟨#[95, 95, 115, 112, 101, 99, 95, 95]⟩ 169 .none, kv P ⟨#[95, 95, 97, 110, 110, 111, 116, 97, 116, 105, 111, 110, 115, 95, 95]⟩ 170 (.ref 6), kv P ⟨#[95, 95, 98, 117, 105, 108, 116, 105, 110, 115, 95, 95]⟩ 171 (.ref 4), kv P ⟨#[95, 95, 102, 105, 108, 101, 95, 95]⟩ 173 (.str ⟨#[47, 99, 108, 97, 105, 109, 47, 99, 117, 116, 46, 112, 121]⟩ 172), kv P ⟨#[95, 95, 99, 97, 99, 104, 101, 100, 95, 95]⟩ 174 .none, kv P ⟨#[114, 101, 115, 116, 111, 114, 101]⟩ 199 (.ref 21), kv P ⟨#[67, 82, 76, 70]⟩ 201 (.str ⟨#[13, 10]⟩ 200), kv P ⟨#[78, 76]⟩ 203 (.str ⟨#[10]⟩ 202), kv P ⟨#[95, 81, 85, 79, 80, 82, 73, 95, 77, 65, 80]⟩ 1231 (.ref 24)] 13, #[]⟩
noncomputable def x22_0 (_ : Params) : Obj := ⟨(.type "range"), none, .fields #[(.int 0 205), (.int 256 204), (.int 1 206)], #[]⟩
noncomputable def x23_0 (_ : Params) : Obj := ⟨(.type "range_iterator"), none, .fields #[(.int 256 0), (.int 0 0), (.int 1 0)], #[]⟩
noncomputable def x24_0 (_ : Params) : Obj := lst base256 256
noncomputable def x25_0 (_ : Params) : Obj := ⟨(.type "dict"), none, .dict #[] 2, #[]⟩
noncomputable def x26_0 (_ : Params) : Obj := ⟨(.type "tuple"), none, .seq #[] 0, #[]⟩
noncomputable def x27_0 (_ : Params) : Obj := ⟨(.type "StopIteration"), none, .fields #[(.ref 26), .none, .none, .none, (.bool false), .none], #[]⟩
noncomputable def tr4 (P : Params) : BT := (.node (boot_o_0 P) (.node (boot_o_1 P) (.node (x3_2 P) (.node (boot_o_7 P) (.node (x15_0 P) .nil .nil) (.node (x23_0 P) .nil .nil)) (.node (x11_0 P) (.node (x19_0 P) .nil .nil) (.node (x27_0 P) .nil .nil))) (.node (boot_o_5 P) (.node (boot_o_9 P) (.node (x17_0 P) .nil .nil) (.node (x25_0 P) .nil .nil)) (.node (x13_0 P) (.node (x21_0 P) .nil .nil) .nil))) (.node (boot_o_2 P) (.node (boot_o_4 P) (.node (boot_o_8 P) (.node (x16_0 P) .nil .nil) (.node (x24_0 P) .nil .nil)) (.node (x12_1 P) (.node (x20_0 P) .nil .nil) .nil)) (.node (boot_o_6 P) (.node (boot_o_10 P) (.node (x18_0 P) .nil .nil) (.node (x26_0 P) .nil .nil)) (.node (x14_0 P) (.node (x22_0 P) .nil .nil) .nil))))
noncomputable def S4 (w : World) (os : OsState) : SharedT := ⟨tr4 w.params, 28, {}, #[], {}, 1232, os⟩
noncomputable def x3_3 (P : Params) : Obj := ⟨(.type "dict"), none, .dict #[kv P ⟨#[95, 95, 110, 97, 109, 101, 95, 95]⟩ 165 (.str ⟨#[99, 112, 121, 51, 49, 51, 46, 101, 109, 97, 105, 108, 46, 113, 117, 111, 112, 114, 105, 109, 105, 109, 101]⟩ 1247), kv P ⟨#[95, 95, 100, 111, 99, 95, 95]⟩ 166 .none, kv P ⟨#[95, 95, 112, 97, 99, 107, 97, 103, 101, 95, 95]⟩ 167 .none, kv P ⟨#[95, 95, 108, 111, 97, 100, 101, 114, 95, 95]⟩ 168 (.builtin "__main__.__loader__#opaque"), kv P ⟨#[95, 95, 115, 112, 101, 99, 95, 95]⟩ 169 .none, kv P ⟨#[95, 95, 97, 110, 110, 111, 116, 97, 116, 105, 111, 110, 115, 95, 95]⟩ 170 (.ref 6), kv P ⟨#[95, 95, 98, 117, 105, 108, 116, 105, 110, 115, 95, 95]⟩ 171 (.ref 4), kv P ⟨#[95, 95, 102, 105, 108, 101, 95, 95]⟩ 173 (.str ⟨#[47, 99, 108, 97, 105, 109, 47, 99, 117, 116, 46, 112, 121]⟩ 172), kv P ⟨#[95, 95, 99, 97, 99, 104, 101, 100, 95, 95]⟩ 174 .none, kv P ⟨#[114, 101, 115, 116, 111, 114, 101]⟩ 199 (.ref 21), kv P ⟨#[67, 82, 76, 70]⟩ 201 (.str ⟨#[13, 10]⟩ 200), kv P ⟨#[78, 76]⟩ 203 (.str ⟨#[10]⟩ 202), kv P ⟨#[95, 81, 85, 79, 80, 82, 73, 95, 77, 65, 80]⟩ 1231 (.ref 24), kv P ⟨#[95, 81, 85, 79, 80, 82, 73, 95, 72, 69, 65, 68, 69, 82, 95, 77, 65, 80]⟩ 1232 (.ref 29), kv P ⟨#[95, 81, 85, 79, 80, 82, 73, 95, 66, 79, 68, 89, 95, 77, 65, 80]⟩ 1233 (.ref 31), kv P ⟨#[97, 115, 99, 105, 105, 95, 108, 111, 119, 101, 114, 99, 97, 115, 101]⟩ 1235 (.str ⟨#[97, 98, 99, 100, 101, 102, 103, 104, 105, 106, 107, 108, 109, 110, 111, 112, 113, 114, 115, 116, 117, 118, 119, 120, 121, 122]⟩ 1234), kv P ⟨#[97, 115, 99, 105, 105, 95, 117, 112, 112, 101, 114, 99, 97, 115, 101]⟩ 1237 (.str ⟨#[65, 66, 67, 68, 69, 70, 71, 72, 73, 74, 75, 76, 77, 78, 79, 80, 81, 82, 83, 84, 85, 86, 87, 88, 89, 90]⟩ 1236), kv P ⟨#[97, 115, 99, 105, 105, 95, 108, 101, 116, 116, 101, 114, 115]⟩ 1239 (.str ⟨#[97, 98, 99, 100, 101, 102, 103, 104, 105, 106, 107, 108, 109, 110, 111, 112, 113, 114, 115, 116, 117, 118, 119, 120, 121, 122, 65, 66, 67, 68, 69, 70, 71, 72, 73, 74, 75, 76, 77, 78, 79, 80, 81, 82, 83, 84, 85, 86, 87, 88, 89, 90]⟩ 1238), kv P ⟨#[100, 105, 103, 105, 116, 115]⟩ 1241 (.str ⟨#[48, 49, 50, 51, 52, 53, 54, 55, 56, 57]⟩ 1240), kv P ⟨#[104, 101, 120, 100, 105, 103, 105, 116, 115]⟩ 1246 (.str ⟨#[48, 49, 50, 51, 52, 53, 54, 55, 56, 57, 97, 98, 99, 100, 101, 102, 65, 66, 67, 68, 69, 70]⟩ 1245)] 20, #[]⟩
noncomputable def x28_0 (_ : Params) : Obj := ⟨(.type "slice"), none, .fields #[.none, .none, .none], #[]⟩
noncomputable def x29_0 (_ : Params) : Obj := lst base256 0
noncomputable def x30_0 (_ : Params) : Obj := ⟨(.type "slice"), none, .fields #[.none, .none, .none], #[]⟩
noncomputable def x31_0 (_ : Params) : Obj := lst base256 0
noncomputable def tr12 (P : Params) : BT := (.node (boot_o_0 P) (.node (boot_o_1 P) (.node (x3_3 P) (.node (boot_o_7 P) (.node (x15_0 P) (.node (x31_0 P) .nil .nil) .nil) (.node (x23_0 P) .nil .nil)) (.node (x11_0 P) (.node (x19_0 P) .nil .nil) (.node (x27_0 P) .nil .nil))) (.node (boot_o_5 P) (.node (boot_o_9 P) (.node (x17_0 P) .nil .nil) (.node (x25_0 P) .nil .nil)) (.node (x13_0 P) (.node (x21_0 P) .nil .nil) (.node (x29_0 P) .nil .nil)))) (.node (boot_o_2 P) (.node (boot_o_4 P) (.node (boot_o_8 P) (.node (x16_0 P) .nil .nil) (.node (x24_0 P) .nil .nil)) (.node (x12_1 P) (.node (x20_0 P) .nil .nil) (.node (x28_0 P) .nil .nil))) (.node (boot_o_6 P) (.node (boot_o_10 P) (.node (x18_0 P) .nil .nil) (.node (x26_0 P) .nil .nil)) (.node (x14_0 P) (.node (x22_0 P) .nil .nil) (.node (x30_0 P) .nil .nil)))))
noncomputable def S12 (w : World) (os : OsState) : SharedT := ⟨tr12 w.params, 32, {}, #[], {}, 1249, os⟩
noncomputable def x3_4 (P : Params) : Obj := ⟨(.type "dict"), none, .dict #[kv P ⟨#[95, 95, 110, 97, 109, 101, 95, 95]⟩ 165 (.str ⟨#[99, 112, 121, 51, 49, 51, 46, 101, 109, 97, 105, 108, 46, 113, 117, 111, 112, 114, 105, 109, 105, 109, 101]⟩ 1247), kv P ⟨#[95, 95, 100, 111, 99, 95, 95]⟩ 166 .none, kv P ⟨#[95, 95, 112, 97, 99, 107, 97, 103, 101, 95, 95]⟩ 167 .none, kv P ⟨#[95, 95, 108, 111, 97, 100, 101, 114, 95, 95]⟩ 168 (.builtin "__main__.__loader__#opaque"), kv P ⟨#[95, 95, 115, 112, 101, 99, 95, 95]⟩ 169 .none, kv P ⟨#[95, 95, 97, 110, 110, 111, 116, 97, 116, 105, 111, 110, 115, 95, 95]⟩ 170 (.ref 6), kv P ⟨#[95, 95, 98, 117, 105, 108, 116, 105, 110, 115, 95, 95]⟩ 171 (.ref 4), kv P ⟨#[95, 95, 102, 105, 108, 101, 95, 95]⟩ 173 (.str ⟨#[47, 99, 108, 97, 105, 109, 47, 99, 117, 116, 46, 112, 121]⟩ 172), kv P ⟨#[95, 95, 99, 97, 99, 104, 101, 100, 95, 95]⟩ 174 .none, kv P ⟨#[114, 101, 115, 116, 111, 114, 101]⟩ 199 (.ref 21), kv P ⟨#[67, 82, 76, 70]⟩ 201 (.str ⟨#[13, 10]⟩ 200), kv P ⟨#[78, 76]⟩ 203 (.str ⟨#[10]⟩ 202), kv P ⟨#[95, 81, 85, 79, 80, 82, 73, 95, 77, 65, 80]⟩ 1231 (.ref 24), kv P ⟨#[95, 81, 85, 79, 80, 82, 73, 95, 72, 69, 65, 68, 69, 82, 95, 77, 65, 80]⟩ 1232 (.ref 29), kv P ⟨#[95, 81, 85, 79, 80, 82, 73, 95, 66, 79, 68, 89, 95, 77, 65, 80]⟩ 1233 (.ref 31), kv P ⟨#[97, 115, 99, 105, 105, 95, 108, 111, 119, 101, 114, 99, 97, 115, 101]⟩ 1235 (.str ⟨#[97, 98, 99, 100, 101, 102, 103, 104, 105, 106, 107, 108, 109, 110, 111, 112, 113, 114, 115, 116, 117, 118, 119, 120, 121, 122]⟩ 1234), kv P ⟨#[97, 115, 99, 105, 105, 95, 117, 112, 112, 101, 114, 99, 97, 115, 101]⟩ 1237 (.str ⟨#[65, 66, 67, 68, 69, 70, 71, 72, 73, 74, 75, 76, 77, 78, 79, 80, 81, 82, 83, 84, 85, 86, 87, 88, 89, 90]⟩ 1236), kv P ⟨#[97, 115, 99, 105, 105, 95, 108, 101, 116, 116, 101, 114, 115]⟩ 1239 (.str ⟨#[97, 98, 99, 100, 101, 102, 103, 104, 105, 106, 107, 108, 109, 110, 111, 112, 113, 114, 115, 116, 117, 118, 119, 120, 121, 122, 65, 66, 67, 68, 69, 70, 71, 72, 73, 74, 75, 76, 77, 78, 79, 80, 81, 82, 83, 84, 85, 86, 87, 88, 89, 90]⟩ 1238), kv P ⟨#[100, 105, 103, 105, 116, 115]⟩ 1241 (.str ⟨#[48, 49, 50, 51, 52, 53, 54, 55, 56, 57]⟩ 1240), kv P ⟨#[104, 101, 120, 100, 105, 103, 105, 116, 115]⟩ 1246 (.str ⟨#[48, 49, 50, 51, 52, 53, 54, 55, 56, 57, 97, 98, 99, 100, 101, 102, 65, 66, 67, 68, 69, 70]⟩ 1245), kv P ⟨#[99]⟩ 1257 (.int 57 1454)] 21, #[]⟩
noncomputable def x29_1 (_ : Params) : Obj := lst (setCs 1258 hb base256) 0
noncomputable def x32_0 (_ : Params) : Obj := ⟨(.type "bytes_iterator"), none, .fields #[.none, (.int 67 0)], #[]⟩
noncomputable def x33_0 (_ : Params) : Obj := ⟨(.type "tuple"), none, .seq #[] 0, #[]⟩
noncomputable def x34_0 (_ : Params) : Obj := ⟨(.type "StopIteration"), none, .fields #[(.ref 33), .none, .none, .none, (.bool false), .none], #[]⟩
noncomputable def tr13 (P : Params) : BT := (.node (boot_o_0 P) (.node (boot_o_1 P) (.node (x3_4 P) (.node (boot_o_7 P) (.node (x15_0 P) (.node (x31_0 P) .nil .nil) .nil) (.node (x23_0 P) .nil .nil)) (.node (x11_0 P) (.node (x19_0 P) .nil .nil) (.node (x27_0 P) .nil .nil))) (.node (boot_o_5 P) (.node (boot_o_9 P) (.node (x17_0 P) (.node (x33_0 P) .nil .nil) .nil) (.node (x25_0 P) .nil .nil)) (.node (x13_0 P) (.node (x21_0 P) .nil .nil) (.node (x29_1 P) .nil .nil)))) (.node (boot_o_2 P) (.node (boot_o_4 P) (.node (boot_o_8 P) (.node (x16_0 P) (.node (x32_0 P) .nil .nil) .nil) (.node (x24_0 P) .nil .nil)) (.node (x12_1 P) (.node (x20_0 P) .nil .nil) (.node (x28_0 P) .nil .nil))) (.node (boot_o_6 P) (.node (boot_o_10 P) (.node (x18_0 P) (.node (x34_0 P) .nil .nil) .nil) (.node (x26_0 P) .nil .nil)) (.node (x14_0 P) (.node (x22_0 P) .nil .nil) (.node (x30_0 P) .nil .nil)))))
noncomputable def S13 (w : World) (os : OsState) : SharedT := ⟨tr13 w.params, 35, {}, #[], {}, 1457, os⟩
noncomputable def x29_2 (_ : Params) : Obj := lst ((setCs 1258 hb base256).set 32 (.str ⟨#[95]⟩ 1457)) 0
noncomputable def tr14 (P : Params) : BT := (.node (boot_o_0 P) (.node (boot_o_1 P) (.node (x3_4 P) (.node (boot_o_7 P) (.node (x15_0 P) (.node (x31_0 P) .nil .nil) .nil) (.node (x23_0 P) .nil .nil)) (.node (x11_0 P) (.node (x19_0 P) .nil .nil) (.node (x27_0 P) .nil .nil))) (.node (boot_o_5 P) (.node (boot_o_9 P) (.node (x17_0 P) (.node (x33_0 P) .nil .nil) .nil) (.node (x25_0 P) .nil .nil)) (.node (x13_0 P) (.node (x21_0 P) .nil .nil) (.node (x29_2 P) .nil .nil)))) (.node (boot_o_2 P) (.node (boot_o_4 P) (.node (boot_o_8 P) (.node (x16_0 P) (.node (x32_0 P) .nil .nil) .nil) (.node (x24_0 P) .nil .nil)) (.node (x12_1 P) (.node (x20_0 P) .nil .nil) (.node (x28_0 P) .nil .nil))) (.node (boot_o_6 P) (.node (boot_o_10 P) (.node (x18_0 P) (.node (x34_0 P) .nil .nil) .nil) (.node (x26_0 P) .nil .nil)) (.node (x14_0 P) (.node (x22_0 P) .nil .nil) (.node (x30_0 P) .nil .nil)))))
noncomputable def S14 (w : World) (os : OsState) : SharedT := ⟨tr14 w.params, 35, {}, #[], {}, 1460, os⟩
noncomputable def x3_5 (P : Params) : Obj := ⟨(.type "dict"), none, .dict #[kv P ⟨#[95, 95, 110, 97, 109, 101, 95, 95]⟩ 165 (.str ⟨#[99, 112, 121, 51, 49, 51, 46, 101, 109, 97, 105, 108, 46, 113, 117, 111, 112, 114, 105, 109, 105, 109, 101]⟩ 1247), kv P ⟨#[95, 95, 100, 111, 99, 95, 95]⟩ 166 .none, kv P ⟨#[95, 95, 112, 97, 99, 107, 97, 103, 101, 95, 95]⟩ 167 .none, kv P ⟨#[95, 95, 108, 111, 97, 100, 101, 114, 95, 95]⟩ 168 (.builtin "__main__.__loader__#opaque"), kv P ⟨#[95, 95, 115, 112, 101, 99, 95, 95]⟩ 169 .none, kv P ⟨#[95, 95, 97, 110, 110, 111, 116, 97, 116, 105, 111, 110, 115, 95, 95]⟩ 170 (.ref 6), kv P ⟨#[95, 95, 98, 117, 105, 108, 116, 105, 110, 115, 95, 95]⟩ 171 (.ref 4), kv P ⟨#[95, 95, 102, 105, 108, 101, 95, 95]⟩ 173 (.str ⟨#[47, 99, 108, 97, 105, 109, 47, 99, 117, 116, 46, 112, 121]⟩ 172), kv P ⟨#[95, 95, 99, 97, 99, 104, 101, 100, 95, 95]⟩ 174 .none, kv P ⟨#[114, 101, 115, 116, 111, 114, 101]⟩ 199 (.ref 21), kv P ⟨#[67, 82, 76, 70]⟩ 201 (.str ⟨#[13, 10]⟩ 200), kv P ⟨#[78, 76]⟩ 203 (.str ⟨#[10]⟩ 202), kv P ⟨#[95, 81, 85, 79, 80, 82, 73, 95, 77, 65, 80]⟩ 1231 (.ref 24), kv P ⟨#[95, 81, 85, 79, 80, 82, 73, 95, 72, 69, 65, 68, 69, 82, 95, 77, 65, 80]⟩ 1232 (.ref 29), kv P ⟨#[95, 81, 85, 79, 80, 82, 73, 95, 66, 79, 68, 89, 95, 77, 65, 80]⟩ 1233 (.ref 31), kv P ⟨#[97, 115, 99, 105, 105, 95, 108, 111, 119, 101, 114, 99, 97, 115, 101]⟩ 1235 (.str ⟨#[97, 98, 99, 100, 101, 102, 103, 104, 105, 106, 107, 108, 109, 110, 111, 112, 113, 114, 115, 116, 117, 118, 119, 120, 121, 122]⟩ 1234), kv P ⟨#[97, 115, 99, 105, 105, 95, 117, 112, 112, 101, 114, 99, 97, 115, 101]⟩ 1237 (.str ⟨#[65, 66, 67, 68, 69, 70, 71, 72, 73, 74, 75, 76, 77, 78, 79, 80, 81, 82, 83, 84, 85, 86, 87, 88, 89, 90]⟩ 1236), kv P ⟨#[97, 115, 99, 105, 105, 95, 108, 101, 116, 116, 101, 114, 115]⟩ 1239 (.str ⟨#[97, 98, 99, 100, 101, 102, 103, 104, 105, 106, 107, 108, 109, 110, 111, 112, 113, 114, 115, 116, 117, 118, 119, 120, 121, 122, 65, 66, 67, 68, 69, 70, 71, 72, 73, 74, 75, 76, 77, 78, 79, 80, 81, 82, 83, 84, 85, 86, 87, 88, 89, 90]⟩ 1238), kv P ⟨#[100, 105, 103, 105, 116, 115]⟩ 1241 (.str ⟨#[48, 49, 50, 51, 52, 53, 54, 55, 56, 57]⟩ 1240), kv P ⟨#[104, 101, 120, 100, 105, 103, 105, 116, 115]⟩ 1246 (.str ⟨#[48, 49, 50, 51, 52, 53, 54, 55, 56, 57, 97, 98, 99, 100, 101, 102, 65, 66, 67, 68, 69, 70]⟩ 1245), kv P ⟨#[99]⟩ 1257 (.int 9 1743)] 21, #[]⟩
noncomputable def x31_1 (_ : Params) : Obj := lst (setCs 1463 bb base256) 0
noncomputable def x35_0 (_ : Params) : Obj := ⟨(.type "bytes_iterator"), none, .fields #[.none, (.int 95 0)], #[]⟩
noncomputable def x36_0 (_ : Params) : Obj := ⟨(.type "tuple"), none, .seq #[] 0, #[]⟩
noncomputable def x37_0 (_ : Params) : Obj := ⟨(.type "StopIteration"), none, .fields #[(.ref 36), .none, .none, .none, (.bool false), .none], #[]⟩
noncomputable def tr15 (P : Params) : BT := (.node (boot_o_0 P) (.node (boot_o_1 P) (.node (x3_5 P) (.node (boot_o_7 P) (.node (x15_0 P) (.node (x31_1 P) .nil .nil) .nil) (.node (x23_0 P) .nil .nil)) (.node (x11_0 P) (.node (x19_0 P) (.node (x35_0 P) .nil .nil) .nil) (.node (x27_0 P) .nil .nil))) (.node (boot_o_5 P) (.node (boot_o_9 P) (.node (x17_0 P) (.node (x33_0 P) .nil .nil) .nil) (.node (x25_0 P) .nil .nil)) (.node (x13_0 P) (.node (x21_0 P) (.node (x37_0 P) .nil .nil) .nil) (.node (x29_2 P) .nil .nil)))) (.node (boot_o_2 P) (.node (boot_o_4 P) (.node (boot_o_8 P) (.node (x16_0 P) (.node (x32_0 P) .nil .nil) .nil) (.node (x24_0 P) .nil .nil)) (.node (x12_1 P) (.node (x20_0 P) (.node (x36_0 P) .nil .nil) .nil) (.node (x28_0 P) .nil .nil))) (.node (boot_o_6 P) (.node (boot_o_10 P) (.node (x18_0 P) (.node (x34_0 P) .nil .nil) .nil) (.node (x26_0 P) .nil .nil)) (.node (x14_0 P) (.node (x22_0 P) .nil .nil) (.node (x30_0 P) .nil .nil)))))
noncomputable def S15 (w : World) (os : OsState) : SharedT := ⟨tr15 w.params, 38, {}, #[], {}, 1746, os⟩
noncomputable def x3_6 (P : Params) : Obj := ⟨(.type "dict"), none, .dict #[kv P ⟨#[95, 95, 110, 97, 109, 101, 95, 95]⟩ 165 (.str ⟨#[99, 112, 121, 51, 49, 51, 46, 101, 109, 97, 105, 108, 46, 113, 117, 111, 112, 114, 105, 109, 105, 109, 101]⟩ 1247), kv P ⟨#[95, 95, 100, 111, 99, 95, 95]⟩ 166 .none, kv P ⟨#[95, 95, 112, 97, 99, 107, 97, 103, 101, 95, 95]⟩ 167 .none, kv P ⟨#[95, 95, 108, 111, 97, 100, 101, 114, 95, 95]⟩ 168 (.builtin "__main__.__loader__#opaque"), kv P ⟨#[95, 95, 115, 112, 101, 99, 95, 95]⟩ 169 .none, kv P ⟨#[95, 95, 97, 110, 110, 111, 116, 97, 116, 105, 111, 110, 115, 95, 95]⟩ 170 (.ref 6), kv P ⟨#[95, 95, 98, 117, 105, 108, 116, 105, 110, 115, 95, 95]⟩ 171 (.ref 4), kv P ⟨#[95, 95, 102, 105, 108, 101, 95, 95]⟩ 173 (.str ⟨#[47, 99, 108, 97, 105, 109, 47, 99, 117, 116, 46, 112, 121]⟩ 172), kv P ⟨#[95, 95, 99, 97, 99, 104, 101, 100, 95, 95]⟩ 174 .none, kv P ⟨#[114, 101, 115, 116, 111, 114, 101]⟩ 199 (.ref 21), kv P ⟨#[67, 82, 76, 70]⟩ 201 (.str ⟨#[13, 10]⟩ 200), kv P ⟨#[78, 76]⟩ 203 (.str ⟨#[10]⟩ 202), kv P ⟨#[95, 81, 85, 79, 80, 82, 73, 95, 77, 65, 80]⟩ 1231 (.ref 24), kv P ⟨#[95, 81, 85, 79, 80, 82, 73, 95, 72, 69, 65, 68, 69, 82, 95, 77, 65, 80]⟩ 1232 (.ref 29), kv P ⟨#[95, 81, 85, 79, 80, 82, 73, 95, 66, 79, 68, 89, 95, 77, 65, 80]⟩ 1233 (.ref 31), kv P ⟨#[97, 115, 99, 105, 105, 95, 108, 111, 119, 101, 114, 99, 97, 115, 101]⟩ 1235 (.str ⟨#[97, 98, 99, 100, 101, 102, 103, 104, 105, 106, 107, 108, 109, 110, 111, 112, 113, 114, 115, 116, 117, 118, 119, 120, 121, 122]⟩ 1234), kv P ⟨#[97, 115, 99, 105, 105, 95, 117, 112, 112, 101, 114, 99, 97, 115, 101]⟩ 1237 (.str ⟨#[65, 66, 67, 68, 69, 70, 71, 72, 73, 74, 75, 76, 77, 78, 79, 80, 81, 82, 83, 84, 85, 86, 87, 88, 89, 90]⟩ 1236), kv P ⟨#[97, 115, 99, 105, 105, 95, 108, 101, 116, 116, 101, 114, 115]⟩ 1239 (.str ⟨#[97, 98, 99, 100, 101, 102, 103, 104, 105, 106, 107, 108, 109, 110, 111, 112, 113, 114, 115, 116, 117, 118, 119, 120, 121, 122, 65, 66, 67, 68, 69, 70, 71, 72, 73, 74, 75, 76, 77, 78, 79, 80, 81, 82, 83, 84, 85, 86, 87, 88, 89, 90]⟩ 1238), kv P ⟨#[100, 105, 103, 105, 116, 115]⟩ 1241 (.str ⟨#[48, 49, 50, 51, 52, 53, 54, 55, 56, 57]⟩ 1240), kv P ⟨#[104, 101, 120, 100, 105, 103, 105, 116, 115]⟩ 1246 (.str ⟨#[48, 49, 50, 51, 52, 53, 54, 55, 56, 57, 97, 98, 99, 100, 101, 102, 65, 66, 67, 68, 69, 70]⟩ 1245), kv P ⟨#[99]⟩ 1257 (.int 10 1765), kv P ⟨#[117, 110, 113, 117, 111, 116, 101]⟩ 1752 (.ref 44), kv P ⟨#[113, 117, 111, 116, 101]⟩ 1759 (.ref 51), kv P ⟨#[95, 81, 85, 79, 80, 82, 73, 95, 66, 79, 68, 89, 95, 69, 78, 67, 79, 68, 69, 95, 77, 65, 80]⟩ 1760 (.ref 53)] 24, #[]⟩
noncomputable def x12_2 (_ : Params) : Obj := ⟨.none, none, .fields #[(.int 2 0), (.int 0 0), (.ref 20), (.int 27 0), (.int 0 0), (.ref 43), (.int 29 0), (.int 0 0), (.ref 50)], #[]⟩
noncomputable def x38_0 (_ : Params) : Obj := ⟨(.type "tuple"), none, .seq #[] 0, #[]⟩
noncomputable def x39_0 (_ : Params) : Obj := ⟨.none, none, .fields #[], #[]⟩
noncomputable def x40_0 (_ : Params) : Obj := ⟨(.type "tuple"), none, .seq #[(.str ⟨#[115]⟩ 1749)] 0, #[]⟩
noncomputable def x41_0 (_ : Params) : Obj := ⟨(.type "tuple"), none, .seq #[] 0, #[]⟩
noncomputable def x42_0 (_ : Params) : Obj := ⟨.none, none, .func (fd 16 0 .none .none .none), #[]⟩
noncomputable def x43_0 (_ : Params) : Obj := ⟨(.type "code"), none, .fields #[(.str ⟨#[117, 110, 113, 117, 111, 116, 101]⟩ 1746), (.str ⟨#[117, 110, 113, 117, 111, 116, 101]⟩ 1747), (.str ⟨#[47, 99, 108, 97, 105, 109, 47, 99, 117, 116, 46, 112, 121]⟩ 1748), (.int 27 0), (.int 1 0), (.int 0 0), (.int 0 0), (.int 3 0), (.ref 38), (.bool true), (.int 181 0), (.ref 39), .none, (.ref 40), (.ref 41), (.ref 42), (.int 1750 0), (.int 27 0), (.str ⟨#[47, 99, 108, 97, 105, 109, 47, 99, 117, 116, 46, 112, 121]⟩ 1751)], #[]⟩
noncomputable def x44_0 (_ : Params) : Obj := ⟨(.type "function"), none, .func (fd 16 3 .none (.str ⟨#[99, 112, 121, 51, 49, 51, 46, 101, 109, 97, 105, 108, 46, 113, 117, 111, 112, 114, 105, 109, 105, 109, 101]⟩ 1247) (.ref 43)), #[]⟩
noncomputable def x45_0 (_ : Params) : Obj := ⟨(.type "tuple"), none, .seq #[] 0, #[]⟩
noncomputable def x46_0 (_ : Params) : Obj := ⟨.none, none, .fields #[], #[]⟩
noncomputable def x47_0 (_ : Params) : Obj := ⟨(.type "tuple"), none, .seq #[(.str ⟨#[99]⟩ 1756)] 0, #[]⟩
noncomputable def x48_0 (_ : Params) : Obj := ⟨(.type "tuple"), none, .seq #[] 0, #[]⟩
noncomputable def x49_0 (_ : Params) : Obj := ⟨.none, none, .func (fd 17 0 .none .none .none), #[]⟩
noncomputable def x50_0 (_ : Params) : Obj := ⟨(.type "code"), none, .fields #[(.str ⟨#[113, 117, 111, 116, 101]⟩ 1753), (.str ⟨#[113, 117, 111, 116, 101]⟩ 1754), (.str ⟨#[47, 99, 108, 97, 105, 109, 47, 99, 117, 116, 46, 112, 121]⟩ 1755), (.int 29 0), (.int 1 0), (.int 0 0), (.int 0 0), (.int 3 0), (.ref 45), (.bool true), (.int 181 0), (.ref 46), .none, (.ref 47), (.ref 48), (.ref 49), (.int 1757 0), (.int 29 0), (.str ⟨#[47, 99, 108, 97, 105, 109, 47, 99, 117, 116, 46, 112, 121]⟩ 1758)], #[]⟩
noncomputable def x51_0 (_ : Params) : Obj := ⟨(.type "function"), none, .func (fd 17 3 .none (.str ⟨#[99, 112, 121, 51, 49, 51, 46, 101, 109, 97, 105, 108, 46, 113, 117, 111, 112, 114, 105, 109, 105, 109, 101]⟩ 1247) (.ref 50)), #[]⟩
noncomputable def x52_0 (_ : Params) : Obj := ⟨(.type "slice"), none, .fields #[.none, .none, .none], #[]⟩
noncomputable def x53_0 (_ : Params) : Obj := lst (((setCs 1463 bb base256).set 13 (.str ⟨#[13]⟩ 1764)).set 10 (.str ⟨#[10]⟩ 1767)) 0
noncomputable def x54_0 (_ : Params) : Obj := ⟨(.type "bytes_iterator"), none, .fields #[.none, (.int 2 0)], #[]⟩
noncomputable def x55_0 (_ : Params) : Obj := ⟨(.type "tuple"), none, .seq #[] 0, #[]⟩
noncomputable def x56_0 (_ : Params) : Obj := ⟨(.type "StopIteration"), none, .fields #[(.ref 55), .none, .none, .none, (.bool false), .none], #[]⟩
noncomputable def tr19 (P : Params) : BT := (.node (boot_o_0 P) (.node (boot_o_1 P) (.node (x3_6 P) (.node (boot_o_7 P) (.node (x15_0 P) (.node (x31_1 P) .nil .nil) (.node (x47_0 P) .nil .nil)) (.node (x23_0 P) (.node (x39_0 P) .nil .nil) (.node (x55_0 P) .nil .nil))) (.node (x11_0 P) (.node (x19_0 P) (.node (x35_0 P) .nil .nil) (.node (x51_0 P) .nil .nil)) (.node (x27_0 P) (.node (x43_0 P) .nil .nil) .nil))) (.node (boot_o_5 P) (.node (boot_o_9 P) (.node (x17_0 P) (.node (x33_0 P) .nil .nil) (.node (x49_0 P) .nil .nil)) (.node (x25_0 P) (.node (x41_0 P) .nil .nil) .nil)) (.node (x13_0 P) (.node (x21_0 P) (.node (x37_0 P) .nil .nil) (.node (x53_0 P) .nil .nil)) (.node (x29_2 P) (.node (x45_0 P) .nil .nil) .nil)))) (.node (boot_o_2 P) (.node (boot_o_4 P) (.node (boot_o_8 P) (.node (x16_0 P) (.node (x32_0 P) .nil .nil) (.node (x48_0 P) .nil .nil)) (.node (x24_0 P) (.node (x40_0 P) .nil .nil) (.node (x56_0 P) .nil .nil))) (.node (x12_2 P) (.node (x20_0 P) (.node (x36_0 P) .nil .nil) (.node (x52_0 P) .nil .nil)) (.node (x28_0 P) (.node (x44_0 P) .nil .nil) .nil))) (.node (boot_o_6 P) (.node (boot_o_10 P) (.node (x18_0 P) (.node (x34_0 P) .nil .nil) (.node (x50_0 P) .nil .nil)) (.node (x26_0 P) (.node (x42_0 P) .nil .nil) .nil)) (.node (x14_0 P) (.node (x22_0 P) (.node (x38_0 P) .nil .nil) (.node (x54_0 P) .nil .nil)) (.node (x30_0 P) (.node (x46_0 P) .nil .nil) .nil)))))
noncomputable def S19 (w : World) (os : OsState) : SharedT := ⟨tr19 w.params, 57, {}, #[], {}, 1768, os⟩
noncomputable def x3_7 (P : Params) : Obj := ⟨(.type "dict"), none, .dict #[kv P ⟨#[95, 95, 110, 97, 109, 101, 95, 95]⟩ 165 (.str ⟨#[108, 97, 119, 95, 110, 98, 48, 49, 57, 51, 95, 48, 49]⟩ 1801), kv P ⟨#[95, 95, 100, 111, 99, 95, 95]⟩ 166 .none, kv P ⟨#[95, 95, 112, 97, 99, 107, 97, 103, 101, 95, 95]⟩ 167 .none, kv P ⟨#[95, 95, 108, 111, 97, 100, 101, 114, 95, 95]⟩ 168 (.builtin "__main__.__loader__#opaque"), kv P ⟨#[95, 95, 115, 112, 101, 99, 95, 95]⟩ 169 .none, kv P ⟨#[95, 95, 97, 110, 110, 111, 116, 97, 116, 105, 111, 110, 115, 95, 95]⟩ 170 (.ref 6), kv P ⟨#[95, 95, 98, 117, 105, 108, 116, 105, 110, 115, 95, 95]⟩ 171 (.ref 4), kv P ⟨#[95, 95, 102, 105, 108, 101, 95, 95]⟩ 173 (.str ⟨#[47, 99, 108, 97, 105, 109, 47, 99, 117, 116, 46, 112, 121]⟩ 172), kv P ⟨#[95, 95, 99, 97, 99, 104, 101, 100, 95, 95]⟩ 174 .none, kv P ⟨#[114, 101, 115, 116, 111, 114, 101]⟩ 199 (.ref 21), kv P ⟨#[67, 82, 76, 70]⟩ 201 (.str ⟨#[13, 10]⟩ 200), kv P ⟨#[78, 76]⟩ 203 (.str ⟨#[10]⟩ 202), kv P ⟨#[95, 81, 85, 79, 80, 82, 73, 95, 77, 65, 80]⟩ 1231 (.ref 24), kv P ⟨#[95, 81, 85, 79, 80, 82, 73, 95, 72, 69, 65, 68, 69, 82, 95, 77, 65, 80]⟩ 1232 (.ref 29), kv P ⟨#[95, 81, 85, 79, 80, 82, 73, 95, 66, 79, 68, 89, 95, 77, 65, 80]⟩ 1233 (.ref 31), kv P ⟨#[97, 115, 99, 105, 105, 95, 108, 111, 119, 101, 114, 99, 97, 115, 101]⟩ 1235 (.str ⟨#[97, 98, 99, 100, 101, 102, 103, 104, 105, 106, 107, 108, 109, 110, 111, 112, 113, 114, 115, 116, 117, 118, 119, 120, 121, 122]⟩ 1234), kv P ⟨#[97, 115, 99, 105, 105, 95, 117, 112, 112, 101, 114, 99, 97, 115, 101]⟩ 1237 (.str ⟨#[65, 66, 67, 68, 69, 70, 71, 72, 73, 74, 75, 76, 77, 78, 79, 80, 81, 82, 83, 84, 85, 86, 87, 88, 89, 90]⟩ 1236), kv P ⟨#[97, 115, 99, 105, 105, 95, 108, 101, 116, 116, 101, 114, 115]⟩ 1239 (.str ⟨#[97, 98, 99, 100, 101, 102, 103, 104, 105, 106, 107, 108, 109, 110, 111, 112, 113, 114, 115, 116, 117, 118, 119, 120, 121, 122, 65, 66, 67, 68, 69, 70, 71, 72, 73, 74, 75, 76, 77, 78, 79, 80, 81, 82, 83, 84, 85, 86, 87, 88, 89, 90]⟩ 1238), kv P ⟨#[100, 105, 103, 105, 116, 115]⟩ 1241 (.str ⟨#[48, 49, 50, 51, 52, 53, 54, 55, 56, 57]⟩ 1240), kv P ⟨#[104, 101, 120, 100, 105, 103, 105, 116, 115]⟩ 1246 (.str ⟨#[48, 49, 50, 51, 52, 53, 54, 55, 56, 57, 97, 98, 99, 100, 101, 102, 65, 66, 67, 68, 69, 70]⟩ 1245), kv P ⟨#[117, 110, 113, 117, 111, 116, 101]⟩ 1752 (.ref 44), kv P ⟨#[113, 117, 111, 116, 101]⟩ 1759 (.ref 51), kv P ⟨#[95, 81, 85, 79, 80, 82, 73, 95, 66, 79, 68, 89, 95, 69, 78, 67, 79, 68, 69, 95, 77, 65, 80]⟩ 1760 (.ref 53), kv P ⟨#[98, 111, 100, 121, 95, 101, 110, 99, 111, 100, 101]⟩ 1787 (.ref 64), kv P ⟨#[100, 101, 99, 111, 100, 101]⟩ 1800 (.ref 72), kv P ⟨#[95, 108, 97, 119, 95, 114, 111, 119]⟩ 1811 (.ref 79), kv P ⟨#[95, 108, 97, 119, 95, 113, 117, 111, 116, 101, 100]⟩ 1819 (.ref 86), kv P ⟨#[95, 108, 97, 119, 95, 108, 105, 110, 101, 115]⟩ 1825 (.ref 91), kv P ⟨#[95, 108, 97, 119, 95, 114, 101, 102, 117, 115, 101, 100]⟩ 1835 (.ref 98), kv P ⟨#[108, 97, 119]⟩ 1841 (.ref 103)] 32, #[]⟩
noncomputable def x12_3 (_ : Params) : Obj := ⟨.none, none, .fields #[(.int 2 0), (.int 0 0), (.ref 20), (.int 27 0), (.int 0 0), (.ref 43), (.int 29 0), (.int 0 0), (.ref 50), (.int 35 0), (.int 0 0), (.ref 63), (.int 73 0), (.int 0 0), (.ref 71), (.int 104 0), (.int 0 0), (.ref 78), (.int 108 0), (.int 0 0), (.ref 85), (.int 111 0), (.int 0 0), (.ref 90), (.int 123 0), (.int 0 0), (.ref 97), (.int 130 0), (.int 0 0), (.ref 102)], #[]⟩
noncomputable def x57_0 (_ : Params) : Obj := ⟨(.type "tuple"), none, .seq #[(.int 76 1768), (.str ⟨#[10]⟩ 202)] 0, #[]⟩
noncomputable def x58_0 (_ : Params) : Obj := ⟨(.type "tuple"), none, .seq #[] 0, #[]⟩
noncomputable def x59_0 (_ : Params) : Obj := ⟨.none, none, .fields #[], #[]⟩
noncomputable def x60_0 (_ : Params) : Obj := ⟨(.type "tuple"), none, .seq #[(.str ⟨#[98, 111, 100, 121]⟩ 1772), (.str ⟨#[109, 97, 120, 108, 105, 110, 101, 108, 101, 110]⟩ 1773), (.str ⟨#[101, 111, 108]⟩ 1774), (.str ⟨#[115, 111, 102, 116, 95, 98, 114, 101, 97, 107]⟩ 1775), (.str ⟨#[109, 97, 120, 108, 105, 110, 101, 108, 101, 110, 49]⟩ 1776), (.str ⟨#[101, 110, 99, 111, 100, 101, 100, 95, 98, 111, 100, 121]⟩ 1777), (.str ⟨#[97, 112, 112, 101, 110, 100]⟩ 1778), (.str ⟨#[108, 105, 110, 101]⟩ 1779), (.str ⟨#[115, 116, 97, 114, 116]⟩ 1780), (.str ⟨#[108, 97, 115, 116, 115, 116, 97, 114, 116]⟩ 1781), (.str ⟨#[115, 116, 111, 112]⟩ 1782), (.str ⟨#[114, 111, 111, 109]⟩ 1783), (.str ⟨#[113]⟩ 1784)] 0, #[]⟩
noncomputable def x61_0 (_ : Params) : Obj := ⟨(.type "tuple"), none, .seq #[] 0, #[]⟩
noncomputable def x62_0 (_ : Params) : Obj := ⟨.none, none, .func (fd 21 0 .none .none .none), #[]⟩
noncomputable def x63_0 (_ : Params) : Obj := ⟨(.type "code"), none, .fields #[(.str ⟨#[98, 111, 100, 121, 95, 101, 110, 99, 111, 100, 101]⟩ 1769), (.str ⟨#[98, 111, 100, 121, 95, 101, 110, 99, 111, 100, 101]⟩ 1770), (.str ⟨#[47, 99, 108, 97, 105, 109, 47, 99, 117, 116, 46, 112, 121]⟩ 1771), (.int 35 0), (.int 3 0), (.int 0 0), (.int 0 0), (.int 3 0), (.ref 58), (.bool true), (.int 181 0), (.ref 59), .none, (.ref 60), (.ref 61), (.ref 62), (.int 1785 0), (.int 35 0), (.str ⟨#[47, 99, 108, 97, 105, 109, 47, 99, 117, 116, 46, 112, 121]⟩ 1786)], #[]⟩
noncomputable def x64_0 (_ : Params) : Obj := ⟨(.type "function"), none, .func (fd 21 3 (.ref 57) (.str ⟨#[99, 112, 121, 51, 49, 51, 46, 101, 109, 97, 105, 108, 46, 113, 117, 111, 112, 114, 105, 109, 105, 109, 101]⟩ 1247) (.ref 63)), #[]⟩
noncomputable def x65_0 (_ : Params) : Obj := ⟨(.type "tuple"), none, .seq #[(.str ⟨#[10]⟩ 202)] 0, #[]⟩
noncomputable def x66_0 (_ : Params) : Obj := ⟨(.type "tuple"), none, .seq #[] 0, #[]⟩
noncomputable def x67_0 (_ : Params) : Obj := ⟨.none, none, .fields #[], #[]⟩
noncomputable def x68_0 (_ : Params) : Obj := ⟨(.type "tuple"), none, .seq #[(.str ⟨#[101, 110, 99, 111, 100, 101, 100]⟩ 1791), (.str ⟨#[101, 111, 108]⟩ 1792), (.str ⟨#[100, 101, 99, 111, 100, 101, 100]⟩ 1793), (.str ⟨#[108, 105, 110, 101]⟩ 1794), (.str ⟨#[105]⟩ 1795), (.str ⟨#[110]⟩ 1796), (.str ⟨#[99]⟩ 1797)] 0, #[]⟩
noncomputable def x69_0 (_ : Params) : Obj := ⟨(.type "tuple"), none, .seq #[] 0, #[]⟩
noncomputable def x70_0 (_ : Params) : Obj := ⟨.none, none, .func (fd 22 0 .none .none .none), #[]⟩
noncomputable def x71_0 (_ : Params) : Obj := ⟨(.type "code"), none, .fields #[(.str ⟨#[100, 101, 99, 111, 100, 101]⟩ 1788), (.str ⟨#[100, 101, 99, 111, 100, 101]⟩ 1789), (.str ⟨#[47, 99, 108, 97, 105, 109, 47, 99, 117, 116, 46, 112, 121]⟩ 1790), (.int 73 0), (.int 2 0), (.int 0 0), (.int 0 0), (.int 3 0), (.ref 66), (.bool true), (.int 181 0), (.ref 67), .none, (.ref 68), (.ref 69), (.ref 70), (.int 1798 0), (.int 73 0), (.str ⟨#[47, 99, 108, 97, 105, 109, 47, 99, 117, 116, 46, 112, 121]⟩ 1799)], #[]⟩
noncomputable def x72_0 (_ : Params) : Obj := ⟨(.type "function"), none, .func (fd 22 3 (.ref 65) (.str ⟨#[99, 112, 121, 51, 49, 51, 46, 101, 109, 97, 105, 108, 46, 113, 117, 111, 112, 114, 105, 109, 105, 109, 101]⟩ 1247) (.ref 71)), #[]⟩
noncomputable def x73_0 (_ : Params) : Obj := ⟨(.type "tuple"), none, .seq #[] 0, #[]⟩
noncomputable def x74_0 (_ : Params) : Obj := ⟨.none, none, .fields #[], #[]⟩
noncomputable def x75_0 (_ : Params) : Obj := ⟨(.type "tuple"), none, .seq #[(.str ⟨#[110]⟩ 1806), (.str ⟨#[98, 105, 116, 115]⟩ 1807), (.str ⟨#[113]⟩ 1808)] 0, #[]⟩
noncomputable def x76_0 (_ : Params) : Obj := ⟨(.type "tuple"), none, .seq #[] 0, #[]⟩
noncomputable def x77_0 (_ : Params) : Obj := ⟨.none, none, .func (fd 24 0 .none .none .none), #[]⟩
noncomputable def x78_0 (_ : Params) : Obj := ⟨(.type "code"), none, .fields #[(.str ⟨#[95, 108, 97, 119, 95, 114, 111, 119]⟩ 1803), (.str ⟨#[95, 108, 97, 119, 95, 114, 111, 119]⟩ 1804), (.str ⟨#[47, 99, 108, 97, 105, 109, 47, 99, 117, 116, 46, 112, 121]⟩ 1805), (.int 104 0), (.int 1 0), (.int 0 0), (.int 0 0), (.int 3 0), (.ref 73), (.bool true), (.int 181 0), (.ref 74), .none, (.ref 75), (.ref 76), (.ref 77), (.int 1809 0), (.int 104 0), (.str ⟨#[47, 99, 108, 97, 105, 109, 47, 99, 117, 116, 46, 112, 121]⟩ 1810)], #[]⟩
noncomputable def x79_0 (_ : Params) : Obj := ⟨(.type "function"), none, .func (fd 24 3 .none (.str ⟨#[108, 97, 119, 95, 110, 98, 48, 49, 57, 51, 95, 48, 49]⟩ 1801) (.ref 78)), #[]⟩
noncomputable def x80_0 (_ : Params) : Obj := ⟨(.type "tuple"), none, .seq #[] 0, #[]⟩
noncomputable def x81_0 (_ : Params) : Obj := ⟨.none, none, .fields #[], #[]⟩
noncomputable def x82_0 (_ : Params) : Obj := ⟨(.type "tuple"), none, .seq #[(.str ⟨#[115, 105, 103, 110]⟩ 1815), (.str ⟨#[102, 105, 103, 117, 114, 101, 115]⟩ 1816)] 0, #[]⟩
noncomputable def x83_0 (_ : Params) : Obj := ⟨(.type "tuple"), none, .seq #[] 0, #[]⟩
noncomputable def x84_0 (_ : Params) : Obj := ⟨.none, none, .func (fd 25 0 .none .none .none), #[]⟩
noncomputable def x85_0 (_ : Params) : Obj := ⟨(.type "code"), none, .fields #[(.str ⟨#[95, 108, 97, 119, 95, 113, 117, 111, 116, 101, 100]⟩ 1812), (.str ⟨#[95, 108, 97, 119, 95, 113, 117, 111, 116, 101, 100]⟩ 1813), (.str ⟨#[47, 99, 108, 97, 105, 109, 47, 99, 117, 116, 46, 112, 121]⟩ 1814), (.int 108 0), (.int 1 0), (.int 0 0), (.int 0 0), (.int 3 0), (.ref 80), (.bool true), (.int 181 0), (.ref 81), .none, (.ref 82), (.ref 83), (.ref 84), (.int 1817 0), (.int 108 0), (.str ⟨#[47, 99, 108, 97, 105, 109, 47, 99, 117, 116, 46, 112, 121]⟩ 1818)], #[]⟩
noncomputable def x86_0 (_ : Params) : Obj := ⟨(.type "function"), none, .func (fd 25 3 .none (.str ⟨#[108, 97, 119, 95, 110, 98, 48, 49, 57, 51, 95, 48, 49]⟩ 1801) (.ref 85)), #[]⟩
noncomputable def x87_0 (_ : Params) : Obj := ⟨(.type "tuple"), none, .seq #[] 0, #[]⟩
noncomputable def x88_0 (_ : Params) : Obj := ⟨.none, none, .fields #[], #[]⟩
noncomputable def x89_0 (_ : Params) : Obj := ⟨.none, none, .func (fd 26 0 .none .none .none), #[]⟩
noncomputable def x90_0 (_ : Params) : Obj := ⟨(.type "code"), none, .fields #[(.str ⟨#[95, 108, 97, 119, 95, 108, 105, 110, 101, 115]⟩ 1820), (.str ⟨#[95, 108, 97, 119, 95, 108, 105, 110, 101, 115]⟩ 1821), (.str ⟨#[47, 99, 108, 97, 105, 109, 47, 99, 117, 116, 46, 112, 121]⟩ 1822), (.int 111 0), (.int 2 0), (.int 0 0), (.int 0 0), (.int 3 0), (.ref 87), (.bool true), (.int 181 0), (.ref 88), .none, .none, .none, (.ref 89), (.int 1823 0), (.int 111 0), (.str ⟨#[47, 99, 108, 97, 105, 109, 47, 99, 117, 116, 46, 112, 121]⟩ 1824)], #[]⟩
noncomputable def x91_0 (_ : Params) : Obj := ⟨(.type "function"), none, .func (fd 26 3 .none (.str ⟨#[108, 97, 119, 95, 110, 98, 48, 49, 57, 51, 95, 48, 49]⟩ 1801) (.ref 90)), #[]⟩
noncomputable def x92_0 (_ : Params) : Obj := ⟨(.type "tuple"), none, .seq #[] 0, #[]⟩
noncomputable def x93_0 (_ : Params) : Obj := ⟨.none, none, .fields #[], #[]⟩
noncomputable def x94_0 (_ : Params) : Obj := ⟨(.type "tuple"), none, .seq #[(.str ⟨#[115, 111, 117, 114, 99, 101]⟩ 1829), (.str ⟨#[119, 105, 115, 104]⟩ 1830), (.str ⟨#[114, 111, 119]⟩ 1831), (.str ⟨#[101, 114, 114, 111, 114]⟩ 1832)] 0, #[]⟩
noncomputable def x95_0 (_ : Params) : Obj := ⟨(.type "tuple"), none, .seq #[] 0, #[]⟩
noncomputable def x96_0 (_ : Params) : Obj := ⟨.none, none, .func (fd 27 0 .none .none .none), #[]⟩
noncomputable def x97_0 (_ : Params) : Obj := ⟨(.type "code"), none, .fields #[(.str ⟨#[95, 108, 97, 119, 95, 114, 101, 102, 117, 115, 101, 100]⟩ 1826), (.str ⟨#[95, 108, 97, 119, 95, 114, 101, 102, 117, 115, 101, 100]⟩ 1827), (.str ⟨#[47, 99, 108, 97, 105, 109, 47, 99, 117, 116, 46, 112, 121]⟩ 1828), (.int 123 0), (.int 2 0), (.int 0 0), (.int 0 0), (.int 3 0), (.ref 92), (.bool true), (.int 181 0), (.ref 93), .none, (.ref 94), (.ref 95), (.ref 96), (.int 1833 0), (.int 123 0), (.str ⟨#[47, 99, 108, 97, 105, 109, 47, 99, 117, 116, 46, 112, 121]⟩ 1834)], #[]⟩
noncomputable def x98_0 (_ : Params) : Obj := ⟨(.type "function"), none, .func (fd 27 3 .none (.str ⟨#[108, 97, 119, 95, 110, 98, 48, 49, 57, 51, 95, 48, 49]⟩ 1801) (.ref 97)), #[]⟩
noncomputable def x99_0 (_ : Params) : Obj := ⟨(.type "tuple"), none, .seq #[] 0, #[]⟩
noncomputable def x100_0 (_ : Params) : Obj := ⟨.none, none, .fields #[], #[]⟩
noncomputable def x101_0 (_ : Params) : Obj := ⟨.none, none, .func (fd 28 0 .none .none .none), #[]⟩
noncomputable def x102_0 (_ : Params) : Obj := ⟨(.type "code"), none, .fields #[(.str ⟨#[108, 97, 119]⟩ 1836), (.str ⟨#[108, 97, 119]⟩ 1837), (.str ⟨#[47, 99, 108, 97, 105, 109, 47, 99, 117, 116, 46, 112, 121]⟩ 1838), (.int 130 0), (.int 1 0), (.int 0 0), (.int 0 0), (.int 3 0), (.ref 99), (.bool true), (.int 181 0), (.ref 100), .none, .none, .none, (.ref 101), (.int 1839 0), (.int 130 0), (.str ⟨#[47, 99, 108, 97, 105, 109, 47, 99, 117, 116, 46, 112, 121]⟩ 1840)], #[]⟩
noncomputable def x103_0 (_ : Params) : Obj := ⟨(.type "function"), none, .func (fd 28 3 .none (.str ⟨#[108, 97, 119, 95, 110, 98, 48, 49, 57, 51, 95, 48, 49]⟩ 1801) (.ref 102)), #[]⟩
noncomputable def tr28 (P : Params) : BT := (.node (boot_o_0 P) (.node (boot_o_1 P) (.node (x3_7 P) (.node (boot_o_7 P) (.node (x15_0 P) (.node (x31_1 P) (.node (x63_0 P) .nil .nil) (.node (x95_0 P) .nil .nil)) (.node (x47_0 P) (.node (x79_0 P) .nil .nil) .nil)) (.node (x23_0 P) (.node (x39_0 P) (.node (x71_0 P) .nil .nil) (.node (x103_0 P) .nil .nil)) (.node (x55_0 P) (.node (x87_0 P) .nil .nil) .nil))) (.node (x11_0 P) (.node (x19_0 P) (.node (x35_0 P) (.node (x67_0 P) .nil .nil) (.node (x99_0 P) .nil .nil)) (.node (x51_0 P) (.node (x83_0 P) .nil .nil) .nil)) (.node (x27_0 P) (.node (x43_0 P) (.node (x75_0 P) .nil .nil) .nil) (.node (x59_0 P) (.node (x91_0 P) .nil .nil) .nil)))) (.node (boot_o_5 P) (.node (boot_o_9 P) (.node (x17_0 P) (.node (x33_0 P) (.node (x65_0 P) .nil .nil) (.node (x97_0 P) .nil .nil)) (.node (x49_0 P) (.node (x81_0 P) .nil .nil) .nil)) (.node (x25_0 P) (.node (x41_0 P) (.node (x73_0 P) .nil .nil) .nil) (.node (x57_0 P) (.node (x89_0 P) .nil .nil) .nil))) (.node (x13_0 P) (.node (x21_0 P) (.node (x37_0 P) (.node (x69_0 P) .nil .nil) (.node (x101_0 P) .nil .nil)) (.node (x53_0 P) (.node (x85_0 P) .nil .nil) .nil)) (.node (x29_2 P) (.node (x45_0 P) (.node (x77_0 P) .nil .nil) .nil) (.node (x61_0 P) (.node (x93_0 P) .nil .nil) .nil))))) (.node (boot_o_2 P) (.node (boot_o_4 P) (.node (boot_o_8 P) (.node (x16_0 P) (.node (x32_0 P) (.node (x64_0 P) .nil .nil) (.node (x96_0 P) .nil .nil)) (.node (x48_0 P) (.node (x80_0 P) .nil .nil) .nil)) (.node (x24_0 P) (.node (x40_0 P) (.node (x72_0 P) .nil .nil) .nil) (.node (x56_0 P) (.node (x88_0 P) .nil .nil) .nil))) (.node (x12_3 P) (.node (x20_0 P) (.node (x36_0 P) (.node (x68_0 P) .nil .nil) (.node (x100_0 P) .nil .nil)) (.node (x52_0 P) (.node (x84_0 P) .nil .nil) .nil)) (.node (x28_0 P) (.node (x44_0 P) (.node (x76_0 P) .nil .nil) .nil) (.node (x60_0 P) (.node (x92_0 P) .nil .nil) .nil)))) (.node (boot_o_6 P) (.node (boot_o_10 P) (.node (x18_0 P) (.node (x34_0 P) (.node (x66_0 P) .nil .nil) (.node (x98_0 P) .nil .nil)) (.node (x50_0 P) (.node (x82_0 P) .nil .nil) .nil)) (.node (x26_0 P) (.node (x42_0 P) (.node (x74_0 P) .nil .nil) .nil) (.node (x58_0 P) (.node (x90_0 P) .nil .nil) .nil))) (.node (x14_0 P) (.node (x22_0 P) (.node (x38_0 P) (.node (x70_0 P) .nil .nil) (.node (x102_0 P) .nil .nil)) (.node (x54_0 P) (.node (x86_0 P) .nil .nil) .nil)) (.node (x30_0 P) (.node (x46_0 P) (.node (x78_0 P) .nil .nil) .nil) (.node (x62_0 P) (.node (x94_0 P) .nil .nil) .nil))))))
noncomputable def S28 (w : World) (os : OsState) : SharedT := ⟨tr28 w.params, 104, {}, #[], {}, 1842, os⟩
noncomputable def KK (P : Params) : Frag := [(2, boot_o_2 P), (3, x3_7 P), (6, boot_o_6 P), (15, x15_0 P), (17, x17_0 P), (18, x18_0 P), (20, x20_0 P), (21, x21_0 P), (24, x24_0 P), (29, x29_2 P), (31, x31_1 P), (38, x38_0 P), (40, x40_0 P), (41, x41_0 P), (43, x43_0 P), (44, x44_0 P), (45, x45_0 P), (47, x47_0 P), (48, x48_0 P), (50, x50_0 P), (51, x51_0 P), (53, x53_0 P), (57, x57_0 P), (58, x58_0 P), (60, x60_0 P), (61, x61_0 P), (63, x63_0 P), (64, x64_0 P), (65, x65_0 P), (66, x66_0 P), (68, x68_0 P), (69, x69_0 P), (71, x71_0 P), (72, x72_0 P), (73, x73_0 P), (75, x75_0 P), (76, x76_0 P), (78, x78_0 P), (79, x79_0 P), (80, x80_0 P), (82, x82_0 P), (83, x83_0 P), (85, x85_0 P), (86, x86_0 P), (87, x87_0 P), (90, x90_0 P), (91, x91_0 P), (92, x92_0 P), (94, x94_0 P), (95, x95_0 P), (97, x97_0 P), (98, x98_0 P), (99, x99_0 P), (102, x102_0 P), (103, x103_0 P)]
noncomputable def KA : List Addr := [2, 3, 6, 15, 17, 18, 20, 21, 24, 29, 31, 38, 40, 41, 43, 44, 45, 47, 48, 50, 51, 53, 57, 58, 60, 61, 63, 64, 65, 66, 68, 69, 71, 72, 73, 75, 76, 78, 79, 80, 82, 83, 85, 86, 87, 90, 91, 92, 94, 95, 97, 98, 99, 102, 103]
noncomputable def ps3 : Pos := ⟨12, 0, 12, 2⟩
noncomputable def ps4 : Pos := ⟨13, 0, 13, 11⟩
noncomputable def ps12 : Pos := ⟨21, 0, 21, 8⟩
noncomputable def ps13 : Pos := ⟨22, 9, 22, 74⟩
noncomputable def ps14 : Pos := ⟨24, 0, 24, 28⟩
noncomputable def ps15 : Pos := ⟨25, 9, 25, 110⟩
noncomputable def ps19 : Pos := ⟨32, 9, 32, 16⟩
noncomputable def ps28 : Pos := ⟨130, 0, 152, 92⟩

noncomputable def ann : Option Value := some (.ref 6)
noncomputable def envT : Env := { scope := pw.main.scope, locals := mainNs, globals := mainNs, cells := [], code := .ref 13, frame := some 14 }
noncomputable def cE : Code := .body (behindTheImports pw) envT
noncomputable def sl (i k : Nat) : List Stmt := (pw.main.body.drop i).take k
end
end Mine
end
section
open PySem PySem.W PyProof.Rows
set_option maxRecDepth 100000
set_option maxHeartbeats 0


namespace Mine
theorem p0 (w : World) (os : OsState) : segRunT treeTable pw w 11 ann 1 61 (Sb w os) (piecesOf (sl 0 4) envT cE default [topFrame default]) = some (.next, S3 w os, cE, ps3) := by
  rw [PySem.W.Fast.te10110043849684766642, PySem.W.Fast.te14364793385576792824]
  kernel_rfl
theorem p2 (w : World) (os : OsState) : segRunT treeTable pw w 11 ann 1 133 (S4 w os) (piecesOf (sl 5 8) envT cE ps4 [topFrame default]) = some (.next, S12 w os, cE, ps12) := by
  rw [PySem.W.Fast.te10110043849684766642, PySem.W.Fast.te14364793385576792824]
  kernel_rfl
theorem p4 (w : World) (os : OsState) : segRunT treeTable pw w 11 ann 1 25 (S13 w os) (piecesOf (sl 14 1) envT cE ps13 [topFrame default]) = some (.next, S14 w os, cE, ps14) := by
  rw [PySem.W.Fast.te10110043849684766642, PySem.W.Fast.te14364793385576792824]
  kernel_rfl
theorem p7 (w : World) (os : OsState) : segRunT treeTable pw w 11 ann 1 250 (S19 w os) (piecesOf (sl 20 9) envT cE ps19 [topFrame default]) = some (.next, S28 w os, cE, ps28) := by
  rw [PySem.W.Fast.te10110043849684766642, PySem.W.Fast.te14364793385576792824]
  kernel_rfl
end Mine
end
section
open PySem PySem.W PyProof.Rows
set_option maxRecDepth 100000
set_option maxHeartbeats 0


namespace Mine
theorem p6 (w : World) : ∀ os : OsState, segRunT treeTable pw w 11 ann 1 215 (S15 w os) (piecesOf (sl 16 4) envT cE ps15 [topFrame default]) = some (.next, S19 w os, cE, ps19) := by
  rw [PySem.W.Fast.te10110043849684766642, PySem.W.Fast.te14364793385576792824]
  revert w
  refine byRow2 "special-get-raises" (fun w os => ?_) (fun w os => ?_)
  · kernel_rfl
  · kernel_rfl
theorem ppre (w : World) (os : OsState) : topGo treeTable pw w 11 ann 12 ⟨boot_heap w.params, #[], boot_drawn, boot_toks, os⟩ (topStub pw) = some ((Sb w os).abs, ⟨denote treeTable cE, cE, default, [topFrame default]⟩) := by
  kernel_rfl
theorem pblk (w : World) (os : OsState) : segRun treeTable pw w 11 ann 1 1 (Sb w os).abs (blockOf (behindTheImports pw) envT cE default [topFrame default]) = some (.next, (Sb w os).abs, cE, default) := by
  kernel_rfl
theorem pfin (w : World) (os : OsState) : topRun treeTable pw w 11 ann 2 (S28 w os).abs ⟨doneF .next, cE, ps28, [topFrame default]⟩ = some (S28 w os).abs := by
  kernel_rfl
theorem psize (w : World) : ((boot_heap w.params).isNs mainGlobals && (#[] : Array GenState).size == 0, (boot_heap w.params).objs.size, (boot_heap w.params).nsMap mainGlobals "__annotations__") = (true, 11, ann) := by
  kernel_rfl
end Mine
end
section
open PySem PySem.W PyProof.Rows
set_option maxRecDepth 100000
set_option maxHeartbeats 0
namespace Mine
noncomputable section
section
variable {tb : String → Option Builtin} {p : Program} {w : World} {n₀ : Nat} {an : Option Value} {b : Nat}
theorem segRun_mono (k : Nat) : ∀ (n : Nat) (s : Shared) (t : Thread) (r : Flow × Shared × Code × Pos), segRun tb p w n₀ an b n s t = some r → segRun tb p w n₀ an b (n + k) s t = some r
  | 0, _, _, _, h => by simp [segRun] at h
  | n + 1, s, t, r, h => by
    rw [show n + 1 + k = n + k + 1 by omega]
    unfold segRun at h ⊢
    cases he : endAt b t with
    | some f => rw [he] at h; exact h
    | none =>
      rw [he] at h
      cases hk : stepOk n₀ an t with
      | false => rw [hk] at h; cases h
      | true =>
        rw [hk] at h
        cases hs : step (denote tb) p w s t with
        | halt o s' => rw [hs] at h; cases h
        | go s' t' => rw [hs] at h; exact segRun_mono k n s' t' r h
theorem loop_run {S : Nat → Shared} {T : Pos → Thread} {pe : Pos} {c m n : Nat} {r : Flow × Shared × Code × Pos} (turn : ∀ k, k < n → ∀ q, segGo tb p w n₀ an b c (S k) (T q) = some (S (k + 1), T pe))
    (last : ∀ q, segRun tb p w n₀ an b m (S n) (T q) = some r) : ∀ j, j ≤ n → ∀ q, segRun tb p w n₀ an b (c * j + m) (S (n - j)) (T q) = some r
  | 0, _, q => by rw [Nat.mul_zero, Nat.zero_add]; exact last q
  | j + 1, hj, q => by
    have h1 := turn (n - (j + 1)) (by omega) q
    rw [show n - (j + 1) + 1 = n - j by omega] at h1
    rw [show c * (j + 1) + m = c + (c * j + m) by rw [Nat.mul_succ]; omega]
    exact seg_go h1 (loop_run turn last j (by omega) pe)
end
noncomputable def AllB (P : Nat → Prop) : Nat → Prop
  | 0 => True
  | n + 1 => AllB P n ∧ P n
theorem AllB.get {P : Nat → Prop} : ∀ {n k : Nat}, AllB P n → k < n → P k
  | n + 1, k, h, hk => by
    by_cases e : k = n
    · exact e ▸ h.2
    · exact h.1.get (by omega)

theorem AllB.zero {P : Nat → Prop} : AllB P 0 := True.intro
theorem AllB.join {P : Nat → Prop} {m : Nat} (h : AllB P m) : ∀ {n : Nat}, AllB (fun j => P (m + j)) n → AllB P (m + n)
  | 0, _ => h
  | _ + 1, h' => ⟨h.join h'.1, h'.2⟩
/-- a frame without what is to come -/
noncomputable def noK : Frame → Frame
  | .ret _ h g l c p kp => .ret (fun _ => .unsupported "") h g l c p kp
  | f => f
noncomputable def seenT (r : SharedT × Thread) : SharedT × Sem Fin × Code × Pos × List Frame := (r.1, r.2.cur, r.2.code, r.2.pos, r.2.stack.map noK)
theorem noK_ret {f : Frame} {h : Option Value} {g : Bool} {l : List Value} {c : Code} {p : Pos} {kp : List Value} (e : noK f = .ret (fun _ => .unsupported "") h g l c p kp) : ∃ k, f = .ret k h g l c p kp := by
  cases f with
  | ret k h' g' l' c' p' kp' =>
    simp only [noK, Frame.ret.injEq, true_and] at e
    obtain ⟨rfl, rfl, rfl, rfl, rfl, rfl⟩ := e
    exact ⟨k, rfl⟩
  | gen => simp [noK] at e
theorem two_frames {r : Option (SharedT × Thread)} {S : SharedT} {cu : Sem Fin} {c c1 c2 : Code} {q p1 p2 : Pos} {h1 h2 : Option Value} {g1 g2 : Bool} {l1 l2 k1 k2 : List Value}
    (e : r.map seenT = some (S, cu, c, q, [.ret (fun _ => .unsupported "") h1 g1 l1 c1 p1 k1, .ret (fun _ => .unsupported "") h2 g2 l2 c2 p2 k2])) :
    ∃ a b, r = some (S, ⟨cu, c, q, [.ret a h1 g1 l1 c1 p1 k1, .ret b h2 g2 l2 c2 p2 k2]⟩) := by
  cases r with
  | none => cases e
  | some r =>
    obtain ⟨S', cu', c', q', fs⟩ := r
    have z := Option.some.inj e
    clear e
    dsimp only [seenT] at z
    injection z with e1 z
    injection z with e2 z
    injection z with e3 z
    injection z with e4 z
    subst e1 e2 e3 e4
    rcases fs with _ | ⟨f, _ | ⟨f', _ | ⟨f'', r⟩⟩⟩
    · cases z
    · injection z with _ z
      cases z
    · injection z with e1 z
      injection z with e2 z
      obtain ⟨a, rfl⟩ := noK_ret e1
      obtain ⟨b, rfl⟩ := noK_ret e2
      exact ⟨a, b, rfl⟩
    · injection z with _ z
      injection z with _ z
      cases z

/-! the comprehension -/
noncomputable def compE : Expr := match st 4 with
  | .Assign _ v _ => v
  | _ => .Constant .none 0 default
noncomputable def compS : Scope := match compE with
  | .ListComp _ _ s _ => s
  | _ => default
noncomputable def cC : Code := .compLoop compE 0 (.ref 23) (.ref 24) (compEnv compS 25 envT)
noncomputable def o23 (k : Nat) : Obj := ⟨.type "range_iterator", none, .fields #[.int (Int.ofNat k) 0, .int (Int.ofNat (256 - k)) 0, .int 1 0], #[]⟩
noncomputable def o25 (P : Params) (k : Nat) : Obj := match k with
  | 0 => ⟨.type "dict", none, .dict #[] 0, #[]⟩
  | k + 1 => ⟨.type "dict", none, .dict #[kv P ⟨#[99]⟩ 208 (.int (Int.ofNat k) (207 + 4 * k))] 1, #[]⟩
noncomputable def trC (P : Params) (k : Nat) : BT := (.node (boot_o_0 P) (.node (boot_o_1 P) (.node (x3_1 P) (.node (boot_o_7 P) (.node (x15_0 P) .nil .nil) (.node (o23 k) .nil .nil)) (.node (x11_0 P) (.node (x19_0 P) .nil .nil) .nil)) (.node (boot_o_5 P) (.node (boot_o_9 P) (.node (x17_0 P) .nil .nil) (.node (o25 P k) .nil .nil)) (.node (x13_0 P) (.node (x21_0 P) .nil .nil) .nil)))
  (.node (boot_o_2 P) (.node (boot_o_4 P) (.node (boot_o_8 P) (.node (x16_0 P) .nil .nil) (.node (lst (hexes k) k) .nil .nil)) (.node (x12_1 P) (.node (x20_0 P) .nil .nil) .nil)) (.node (boot_o_6 P) (.node (boot_o_10 P) (.node (x18_0 P) .nil .nil) .nil) (.node (x14_0 P) (.node (x22_0 P) .nil .nil) .nil))))
noncomputable def SC (w : World) (os : OsState) (k : Nat) : SharedT := ⟨trC w.params k, 26, {}, #[], {}, 207 + 4 * k, os⟩
noncomputable def TC (a b : Result → Sem Fin) (q : Pos) : Thread := ⟨denote treeTable cC, cC, q, [.ret a none true [.ref 25, .ref 24] cE ⟨13, 36, 13, 46⟩ [], .ret b none false [] (.builtin "claim.caller" {}) default []]⟩
noncomputable def peC : Pos := ⟨13, 15, 13, 26⟩
noncomputable def PC (w : World) (os : OsState) (a b : Result → Sem Fin) (j : Nat) : Prop := ∀ q, segGoT treeTable pw w 11 ann 1 296 (SC w os (8 * j)) (TC a b q) = some (SC w os (8 * (j + 1)), TC a b peC)
theorem turnsC0 (w : World) (os : OsState) (a b : Result → Sem Fin) : AllB (fun j => PC w os a b (0 + j)) 4 := by
  unfold PC TC
  rw [PySem.W.Fast.te10295753902157049106, PySem.W.Fast.te14364793385576792824, PySem.W.Fast.te11892475500146522536]
  repeat' (first | exact True.intro | refine And.intro ?_ ?_)
  all_goals (intro q; kernel_rfl)
theorem turnsC4 (w : World) (os : OsState) (a b : Result → Sem Fin) : AllB (fun j => PC w os a b (4 + j)) 4 := by
  unfold PC TC
  rw [PySem.W.Fast.te10295753902157049106, PySem.W.Fast.te14364793385576792824, PySem.W.Fast.te11892475500146522536]
  repeat' (first | exact True.intro | refine And.intro ?_ ?_)
  all_goals (intro q; kernel_rfl)
theorem turnsC8 (w : World) (os : OsState) (a b : Result → Sem Fin) : AllB (fun j => PC w os a b (8 + j)) 4 := by
  unfold PC TC
  rw [PySem.W.Fast.te10295753902157049106, PySem.W.Fast.te14364793385576792824, PySem.W.Fast.te11892475500146522536]
  repeat' (first | exact True.intro | refine And.intro ?_ ?_)
  all_goals (intro q; kernel_rfl)
theorem turnsC12 (w : World) (os : OsState) (a b : Result → Sem Fin) : AllB (fun j => PC w os a b (12 + j)) 4 := by
  unfold PC TC
  rw [PySem.W.Fast.te10295753902157049106, PySem.W.Fast.te14364793385576792824, PySem.W.Fast.te11892475500146522536]
  repeat' (first | exact True.intro | refine And.intro ?_ ?_)
  all_goals (intro q; kernel_rfl)
theorem turnsC16 (w : World) (os : OsState) (a b : Result → Sem Fin) : AllB (fun j => PC w os a b (16 + j)) 4 := by
  unfold PC TC
  rw [PySem.W.Fast.te10295753902157049106, PySem.W.Fast.te14364793385576792824, PySem.W.Fast.te11892475500146522536]
  repeat' (first | exact True.intro | refine And.intro ?_ ?_)
  all_goals (intro q; kernel_rfl)
theorem turnsC20 (w : World) (os : OsState) (a b : Result → Sem Fin) : AllB (fun j => PC w os a b (20 + j)) 4 := by
  unfold PC TC
  rw [PySem.W.Fast.te10295753902157049106, PySem.W.Fast.te14364793385576792824, PySem.W.Fast.te11892475500146522536]
  repeat' (first | exact True.intro | refine And.intro ?_ ?_)
  all_goals (intro q; kernel_rfl)
theorem turnsC24 (w : World) (os : OsState) (a b : Result → Sem Fin) : AllB (fun j => PC w os a b (24 + j)) 4 := by
  unfold PC TC
  rw [PySem.W.Fast.te10295753902157049106, PySem.W.Fast.te14364793385576792824, PySem.W.Fast.te11892475500146522536]
  repeat' (first | exact True.intro | refine And.intro ?_ ?_)
  all_goals (intro q; kernel_rfl)
theorem turnsC28 (w : World) (os : OsState) (a b : Result → Sem Fin) : AllB (fun j => PC w os a b (28 + j)) 4 := by
  unfold PC TC
  rw [PySem.W.Fast.te10295753902157049106, PySem.W.Fast.te14364793385576792824, PySem.W.Fast.te11892475500146522536]
  repeat' (first | exact True.intro | refine And.intro ?_ ?_)
  all_goals (intro q; kernel_rfl)
theorem turnsC (w : World) (os : OsState) (a b : Result → Sem Fin) : AllB (PC w os a b) 32 := ((((((((AllB.zero.join (turnsC0 w os a b)).join (turnsC4 w os a b)).join (turnsC8 w os a b)).join (turnsC12 w os a b)).join (turnsC16 w os a b)).join (turnsC20 w os a b)).join (turnsC24 w os a b)).join (turnsC28 w os a b))
/-- behind the last turn, with the frames that the beginning laid -/
noncomputable def endC (w : World) (os : OsState) (q : Pos) (r : Option (SharedT × Thread)) : Option (Flow × SharedT × Code × Pos) := match r with
  | some (_, ⟨_, _, _, [.ret a _ _ _ _ _ _, .ret b _ _ _ _ _ _]⟩) => segRunT treeTable pw w 11 ann 1 28 (SC w os 256) (TC a b q)
  | _ => none
noncomputable def begC (w : World) (os : OsState) (n : Nat) : Option (SharedT × Thread) := segGoT treeTable pw w 11 ann 1 n (S3 w os) (piecesOf (sl 4 1) envT cE ps3 [topFrame default])
noncomputable abbrev shC (w : World) (os : OsState) : Option (SharedT × Sem Fin × Code × Pos × List Frame) :=
  some (SC w os 0, denote treeTable cC, cC, ⟨13, 36, 13, 46⟩, [.ret (fun _ => .unsupported "") none true [.ref 25, .ref 24] cE ⟨13, 36, 13, 46⟩ [], .ret (fun _ => .unsupported "") none false [] (.builtin "claim.caller" {}) default []])
theorem begC1 (w : World) : ∀ os : OsState, (∃ n, (n = 52 ∨ n = 42) ∧ (begC w os n).map seenT = shC w os ∧ ∀ q, endC w os q (begC w os n) = some (.next, S4 w os, cE, ps4)) := by
  unfold endC TC begC shC
  rw [PySem.W.Fast.te10295753902157049106, PySem.W.Fast.te10110043849684766642, PySem.W.Fast.te14364793385576792824, PySem.W.Fast.te11892475500146522536]
  revert w
  refine byRow2 "special-get-raises" (fun w => ?_) (fun w => ?_)
  all_goals revert w
  all_goals refine byRow2 "comprehension-iter-twice" (fun w os => ?_) (fun w os => ?_)
  · exact ⟨52, .inl rfl, by kernel_rfl, fun q => by kernel_rfl⟩
  · exact ⟨42, .inr rfl, by kernel_rfl, fun q => by kernel_rfl⟩
  · exact ⟨52, .inl rfl, by kernel_rfl, fun q => by kernel_rfl⟩
  · exact ⟨42, .inr rfl, by kernel_rfl, fun q => by kernel_rfl⟩
theorem p1 (w : World) (os : OsState) : segRun treeTable pw w 11 ann 1 9560 (S3 w os).abs (piecesOf (sl 4 1) envT cE ps3 [topFrame default]) = some (.next, (S4 w os).abs, cE, ps4) := by
  obtain ⟨n, hn, e, h⟩ := begC1 w os
  obtain ⟨a, b, e⟩ := two_frames e
  have h' : ∀ q, segRunT treeTable pw w 11 ann 1 28 (SC w os 256) (TC a b q) = some (.next, S4 w os, cE, ps4) := fun q => by
    have := h q
    rw [e] at this
    exact this
  have l := loop_run (S := fun j => (SC w os (8 * j)).abs) (T := TC a b) (pe := peC) (c := 296) (m := 28) (n := 32) (fun k hk q => segGo_of ((turnsC w os a b).get hk q)) (fun q => segRun_of (h' q)) 32 (Nat.le_refl _) ⟨13, 36, 13, 46⟩
  have g := seg_go (segGo_of e) l
  rcases hn with rfl | rfl
  · exact segRun_mono 8 _ _ _ _ g
  · exact segRun_mono 18 _ _ _ _ g
end
end Mine
end
section
open PySem PySem.W PyProof.Rows
set_option maxRecDepth 100000
set_option maxHeartbeats 0
namespace Mine
noncomputable section
noncomputable def forOf (s : Stmt) (I : Addr) : Code := match s with
  | .For t _ b o _ => .forLoop t (.ref I) b o envT
  | _ => default
/-- the text's names with c -/
noncomputable def withC (P : Params) (o : Obj) (v t : Nat) : Obj := match o with
  | ⟨c, d, .dict es _, s⟩ => ⟨c, d, .dict (es.push (kv P ⟨#[99]⟩ 1257 (.int (Int.ofNat v) t))) 21, s⟩
  | o => o
noncomputable def bytesIt (l : List Nat) (t k : Nat) : Obj := ⟨.type "bytes_iterator", none, .fields #[.bytes (l.map UInt8.ofNat).toArray t, .int (Int.ofNat k) 0], #[]⟩
/-! the first loop -/
noncomputable def cH : Code := forOf (st 13) 32
noncomputable def x3H (P : Params) (k : Nat) : Obj := match k with
  | 0 => x3_3 P
  | k + 1 => withC P (x3_3 P) (hb.getD k 0) (1256 + 3 * k)
noncomputable def trH (P : Params) (k : Nat) : BT := (.node (boot_o_0 P) (.node (boot_o_1 P) (.node (x3H P k) (.node (boot_o_7 P) (.node (x15_0 P) (.node (x31_0 P) .nil .nil) .nil) (.node (x23_0 P) .nil .nil)) (.node (x11_0 P) (.node (x19_0 P) .nil .nil) (.node (x27_0 P) .nil .nil))) (.node (boot_o_5 P) (.node (boot_o_9 P) (.node (x17_0 P) .nil .nil) (.node (x25_0 P) .nil .nil)) (.node (x13_0 P) (.node (x21_0 P) .nil .nil) (.node (lst (setCs 1258 (hb.take k) base256) 0) .nil .nil))))
  (.node (boot_o_2 P) (.node (boot_o_4 P) (.node (boot_o_8 P) (.node (x16_0 P) (.node (bytesIt hb 1255 k) .nil .nil) .nil) (.node (x24_0 P) .nil .nil)) (.node (x12_1 P) (.node (x20_0 P) .nil .nil) (.node (x28_0 P) .nil .nil))) (.node (boot_o_6 P) (.node (boot_o_10 P) (.node (x18_0 P) .nil .nil) (.node (x26_0 P) .nil .nil)) (.node (x14_0 P) (.node (x22_0 P) .nil .nil) (.node (x30_0 P) .nil .nil)))))
noncomputable def SH (w : World) (os : OsState) (k : Nat) : SharedT := ⟨trH w.params k, 33, {}, #[], {}, 1256 + 3 * k, os⟩
noncomputable def TH (a b : Result → Sem Fin) (q : Pos) : Thread := ⟨denote treeTable cH, cH, q, [.ret a none false [] cE ⟨22, 9, 22, 74⟩ [], .ret b none false [] (.builtin "claim.caller" {}) default []]⟩
noncomputable def peH : Pos := ⟨23, 4, 23, 25⟩
noncomputable def PH (w : World) (os : OsState) (a b : Result → Sem Fin) (j : Nat) : Prop := ∀ q, segGoT treeTable pw w 11 ann 1 45 (SH w os j) (TH a b q) = some (SH w os (j + 1), TH a b peH)
theorem turnsH0 (w : World) (os : OsState) (a b : Result → Sem Fin) : AllB (fun j => PH w os a b (0 + j)) 17 := by
  unfold PH TH
  rw [PySem.W.Fast.te10295753902157049106, PySem.W.Fast.te14364793385576792824, PySem.W.Fast.te11892475500146522536]
  repeat' (first | exact True.intro | refine And.intro ?_ ?_)
  all_goals (intro q; kernel_rfl)
theorem turnsH17 (w : World) (os : OsState) (a b : Result → Sem Fin) : AllB (fun j => PH w os a b (17 + j)) 17 := by
  unfold PH TH
  rw [PySem.W.Fast.te10295753902157049106, PySem.W.Fast.te14364793385576792824, PySem.W.Fast.te11892475500146522536]
  repeat' (first | exact True.intro | refine And.intro ?_ ?_)
  all_goals (intro q; kernel_rfl)
theorem turnsH34 (w : World) (os : OsState) (a b : Result → Sem Fin) : AllB (fun j => PH w os a b (34 + j)) 17 := by
  unfold PH TH
  rw [PySem.W.Fast.te10295753902157049106, PySem.W.Fast.te14364793385576792824, PySem.W.Fast.te11892475500146522536]
  repeat' (first | exact True.intro | refine And.intro ?_ ?_)
  all_goals (intro q; kernel_rfl)
theorem turnsH51 (w : World) (os : OsState) (a b : Result → Sem Fin) : AllB (fun j => PH w os a b (51 + j)) 16 := by
  unfold PH TH
  rw [PySem.W.Fast.te10295753902157049106, PySem.W.Fast.te14364793385576792824, PySem.W.Fast.te11892475500146522536]
  repeat' (first | exact True.intro | refine And.intro ?_ ?_)
  all_goals (intro q; kernel_rfl)
theorem turnsH (w : World) (os : OsState) (a b : Result → Sem Fin) : AllB (PH w os a b) 67 := ((((AllB.zero.join (turnsH0 w os a b)).join (turnsH17 w os a b)).join (turnsH34 w os a b)).join (turnsH51 w os a b))
noncomputable def endH (w : World) (os : OsState) (q : Pos) (r : Option (SharedT × Thread)) : Option (Flow × SharedT × Code × Pos) := match r with
  | some (_, ⟨_, _, _, [.ret a _ _ _ _ _ _, .ret b _ _ _ _ _ _]⟩) => segRunT treeTable pw w 11 ann 1 18 (SH w os 67) (TH a b q)
  | _ => none
noncomputable def begH (w : World) (os : OsState) : Option (SharedT × Thread) := segGoT treeTable pw w 11 ann 1 44 (S12 w os) (piecesOf (sl 13 1) envT cE ps12 [topFrame default])
theorem begH1 (w : World) : ∀ os : OsState, (begH w os).map seenT =
    some (SH w os 0, denote treeTable cH, cH, ⟨22, 9, 22, 74⟩, [.ret (fun _ => .unsupported "") none false [] cE ⟨22, 9, 22, 74⟩ [], .ret (fun _ => .unsupported "") none false [] (.builtin "claim.caller" {}) default []]) ∧
    ∀ q, endH w os q (begH w os) = some (.next, S13 w os, cE, ps13) := by
  unfold endH TH begH
  rw [PySem.W.Fast.te10295753902157049106, PySem.W.Fast.te10110043849684766642, PySem.W.Fast.te14364793385576792824, PySem.W.Fast.te11892475500146522536]
  revert w
  refine byRow2 "special-get-raises" (fun w os => ?_) (fun w os => ?_)
  · exact ⟨by kernel_rfl, fun q => by kernel_rfl⟩
  · exact ⟨by kernel_rfl, fun q => by kernel_rfl⟩
theorem p3 (w : World) (os : OsState) : segRun treeTable pw w 11 ann 1 (44 + (45 * 67 + 18)) (S12 w os).abs (piecesOf (sl 13 1) envT cE ps12 [topFrame default]) = some (.next, (S13 w os).abs, cE, ps13) := by
  obtain ⟨e, h⟩ := begH1 w os
  obtain ⟨a, b, e⟩ := two_frames e
  have h' : ∀ q, segRunT treeTable pw w 11 ann 1 18 (SH w os 67) (TH a b q) = some (.next, S13 w os, cE, ps13) := fun q => by
    have := h q
    rw [e] at this
    exact this
  have l := loop_run (S := fun j => (SH w os j).abs) (T := TH a b) (pe := peH) (c := 45) (m := 18) (n := 67) (fun k hk q => segGo_of ((turnsH w os a b).get hk q)) (fun q => segRun_of (h' q)) 67 (Nat.le_refl _) ⟨22, 9, 22, 74⟩
  exact seg_go (segGo_of e) l
end
end Mine
end
section
open PySem PySem.W PyProof.Rows
set_option maxRecDepth 100000
set_option maxHeartbeats 0
namespace Mine
noncomputable section
/-! the second loop -/
noncomputable def cB : Code := forOf (st 15) 35
noncomputable def x3B (P : Params) (k : Nat) : Obj := match k with
  | 0 => x3_4 P
  | k + 1 => withC P (x3_3 P) (bb.getD k 0) (1461 + 3 * k)
noncomputable def trB (P : Params) (k : Nat) : BT := (.node (boot_o_0 P) (.node (boot_o_1 P) (.node (x3B P k) (.node (boot_o_7 P) (.node (x15_0 P) (.node (lst (setCs 1463 (bb.take k) base256) 0) .nil .nil) .nil) (.node (x23_0 P) .nil .nil)) (.node (x11_0 P) (.node (x19_0 P) (.node (bytesIt bb 1460 k) .nil .nil) .nil) (.node (x27_0 P) .nil .nil))) (.node (boot_o_5 P) (.node (boot_o_9 P) (.node (x17_0 P) (.node (x33_0 P) .nil .nil) .nil) (.node (x25_0 P) .nil .nil)) (.node (x13_0 P) (.node (x21_0 P) .nil .nil) (.node (x29_2 P) .nil .nil)))) (.node (boot_o_2 P) (.node (boot_o_4 P) (.node (boot_o_8 P) (.node (x16_0 P) (.node (x32_0 P) .nil .nil) .nil) (.node (x24_0 P) .nil .nil)) (.node (x12_1 P) (.node (x20_0 P) .nil .nil) (.node (x28_0 P) .nil .nil))) (.node (boot_o_6 P) (.node (boot_o_10 P) (.node (x18_0 P) (.node (x34_0 P) .nil .nil) .nil) (.node (x26_0 P) .nil .nil)) (.node (x14_0 P) (.node (x22_0 P) .nil .nil) (.node (x30_0 P) .nil .nil)))))
noncomputable def SB (w : World) (os : OsState) (k : Nat) : SharedT := ⟨trB w.params k, 36, {}, #[], {}, 1461 + 3 * k, os⟩
noncomputable def TB (a b : Result → Sem Fin) (q : Pos) : Thread := ⟨denote treeTable cB, cB, q, [.ret a none false [] cE ⟨25, 9, 25, 110⟩ [], .ret b none false [] (.builtin "claim.caller" {}) default []]⟩
noncomputable def peB : Pos := ⟨26, 4, 26, 23⟩
noncomputable def PB (w : World) (os : OsState) (a b : Result → Sem Fin) (j : Nat) : Prop := ∀ q, segGoT treeTable pw w 11 ann 1 45 (SB w os j) (TB a b q) = some (SB w os (j + 1), TB a b peB)
theorem turnsB0 (w : World) (os : OsState) (a b : Result → Sem Fin) : AllB (fun j => PB w os a b (0 + j)) 19 := by
  unfold PB TB
  rw [PySem.W.Fast.te10295753902157049106, PySem.W.Fast.te14364793385576792824, PySem.W.Fast.te11892475500146522536]
  repeat' (first | exact True.intro | refine And.intro ?_ ?_)
  all_goals (intro q; kernel_rfl)
theorem turnsB19 (w : World) (os : OsState) (a b : Result → Sem Fin) : AllB (fun j => PB w os a b (19 + j)) 19 := by
  unfold PB TB
  rw [PySem.W.Fast.te10295753902157049106, PySem.W.Fast.te14364793385576792824, PySem.W.Fast.te11892475500146522536]
  repeat' (first | exact True.intro | refine And.intro ?_ ?_)
  all_goals (intro q; kernel_rfl)
theorem turnsB38 (w : World) (os : OsState) (a b : Result → Sem Fin) : AllB (fun j => PB w os a b (38 + j)) 19 := by
  unfold PB TB
  rw [PySem.W.Fast.te10295753902157049106, PySem.W.Fast.te14364793385576792824, PySem.W.Fast.te11892475500146522536]
  repeat' (first | exact True.intro | refine And.intro ?_ ?_)
  all_goals (intro q; kernel_rfl)
theorem turnsB57 (w : World) (os : OsState) (a b : Result → Sem Fin) : AllB (fun j => PB w os a b (57 + j)) 19 := by
  unfold PB TB
  rw [PySem.W.Fast.te10295753902157049106, PySem.W.Fast.te14364793385576792824, PySem.W.Fast.te11892475500146522536]
  repeat' (first | exact True.intro | refine And.intro ?_ ?_)
  all_goals (intro q; kernel_rfl)
theorem turnsB76 (w : World) (os : OsState) (a b : Result → Sem Fin) : AllB (fun j => PB w os a b (76 + j)) 19 := by
  unfold PB TB
  rw [PySem.W.Fast.te10295753902157049106, PySem.W.Fast.te14364793385576792824, PySem.W.Fast.te11892475500146522536]
  repeat' (first | exact True.intro | refine And.intro ?_ ?_)
  all_goals (intro q; kernel_rfl)
theorem turnsB (w : World) (os : OsState) (a b : Result → Sem Fin) : AllB (PB w os a b) 95 := (((((AllB.zero.join (turnsB0 w os a b)).join (turnsB19 w os a b)).join (turnsB38 w os a b)).join (turnsB57 w os a b)).join (turnsB76 w os a b))
noncomputable def endB (w : World) (os : OsState) (q : Pos) (r : Option (SharedT × Thread)) : Option (Flow × SharedT × Code × Pos) := match r with
  | some (_, ⟨_, _, _, [.ret a _ _ _ _ _ _, .ret b _ _ _ _ _ _]⟩) => segRunT treeTable pw w 11 ann 1 18 (SB w os 95) (TB a b q)
  | _ => none
noncomputable def begB (w : World) (os : OsState) : Option (SharedT × Thread) := segGoT treeTable pw w 11 ann 1 10 (S14 w os) (piecesOf (sl 15 1) envT cE ps14 [topFrame default])
theorem begB1 (w : World) : ∀ os : OsState, (begB w os).map seenT =
    some (SB w os 0, denote treeTable cB, cB, ⟨25, 9, 25, 110⟩, [.ret (fun _ => .unsupported "") none false [] cE ⟨25, 9, 25, 110⟩ [], .ret (fun _ => .unsupported "") none false [] (.builtin "claim.caller" {}) default []]) ∧
    ∀ q, endB w os q (begB w os) = some (.next, S15 w os, cE, ps15) := by
  unfold endB TB begB
  rw [PySem.W.Fast.te10295753902157049106, PySem.W.Fast.te10110043849684766642, PySem.W.Fast.te14364793385576792824, PySem.W.Fast.te11892475500146522536]
  revert w
  refine byRow2 "special-get-raises" (fun w os => ?_) (fun w os => ?_)
  · exact ⟨by kernel_rfl, fun q => by kernel_rfl⟩
  · exact ⟨by kernel_rfl, fun q => by kernel_rfl⟩
theorem p5 (w : World) (os : OsState) : segRun treeTable pw w 11 ann 1 (10 + (45 * 95 + 18)) (S14 w os).abs (piecesOf (sl 15 1) envT cE ps14 [topFrame default]) = some (.next, (S15 w os).abs, cE, ps15) := by
  obtain ⟨e, h⟩ := begB1 w os
  obtain ⟨a, b, e⟩ := two_frames e
  have h' : ∀ q, segRunT treeTable pw w 11 ann 1 18 (SB w os 95) (TB a b q) = some (.next, S15 w os, cE, ps15) := fun q => by
    have := h q
    rw [e] at this
    exact this
  have l := loop_run (S := fun j => (SB w os j).abs) (T := TB a b) (pe := peB) (c := 45) (m := 18) (n := 95) (fun k hk q => segGo_of ((turnsB w os a b).get hk q)) (fun q => segRun_of (h' q)) 95 (Nat.le_refl _) ⟨25, 9, 25, 110⟩
  exact seg_go (segGo_of e) l
end
end Mine
end
section
open PySem PySem.W PyProof.Rows
set_option maxRecDepth 100000
set_option maxHeartbeats 0


namespace Mine
noncomputable section
theorem body_is : behindTheImports pw = sl 0 4 ++ (sl 4 1 ++ (sl 5 8 ++ (sl 13 1 ++ (sl 14 1 ++ (sl 15 1 ++ (sl 16 4 ++ (sl 20 9 ++ []))))))) := by kernel_rfl
noncomputable def MM : Nat := 12 + (1 + (61 + (9560 + (133 + ((44 + (45 * 67 + 18)) + (25 + ((10 + (45 * 95 + 18)) + (215 + (250 + 2)))))))))
noncomputable def HH (P : Params) : Heap := absHeap (tr28 P) 104 {}
theorem run (w : World) (os : OsState) : topRun treeTable pw w 11 ann MM ⟨boot_heap w.params, #[], boot_drawn, boot_toks, os⟩ (topStub pw) = some ⟨HH w.params, #[], {}, 1842, os⟩ := by
  refine go_top (ppre w os) (piece_block (pblk w os) ?_)
  rw [body_is]
  exact piece_app (segRun_of (p0 w os)) (piece_app (p1 w os) (piece_app (segRun_of (p2 w os)) (piece_app (p3 w os) (piece_app (segRun_of (p4 w os)) (piece_app (p5 w os) (piece_app (segRun_of (p6 w os)) (piece_app (segRun_of (p7 w os)) (piece_nil (pfin w os)))))))))
noncomputable def qv : Program := { pw with main := { pw.main with body := [st 28] } }
noncomputable def lo : List PySem.Str := ["restore", "CRLF", "NL", "_QUOPRI_MAP", "_QUOPRI_HEADER_MAP", "_QUOPRI_BODY_MAP", "ascii_lowercase", "ascii_uppercase", "ascii_letters", "digits", "hexdigits", "unquote", "quote", "_QUOPRI_BODY_ENCODE_MAP", "body_encode", "decode", "_law_row", "_law_quoted", "_law_lines", "_law_refused"]
noncomputable abbrev rr : OpenRow := PySem.Challenge.rw_nb0193_01.row
noncomputable abbrev xt (s : Shared) : Bool := xlAt qv [] s && recOk (RowW.records rr.toRowW) s
noncomputable def hk : Hook := kHook KK KA (fun _ => by rfl)
theorem look1 (w : World) (os : OsState) : (staticsOk (importedModules pw.main.body) (boot_heap w.params) (HH w.params) && namesBound pw (HH w.params) && gensDone ⟨HH w.params, #[], {}, 1842, os⟩ && laidKept (boot_heap w.params) (HH w.params)) = true := by
  kernel_rfl
theorem look3 (w : World) (os : OsState) : hk.obs ⟨HH w.params, #[], {}, 1842, os⟩ = hk.val w := by
  kernel_rfl
theorem look2 (w : World) (os : OsState) : openSeen qv lo (importedModules pw.main.body) xt true ⟨HH w.params, #[], {}, 1842, os⟩ = openGood qv lo := by
  unfold openSeen openGood
  refine looks_pair ?_ (looks_pair ?_ (looks_pair ?_ (looks_pair ?_ (looks_pair ?_ (looks_pair ?_ (looks_pair ?_ (looks_pair ?_ ?_)))))))
  · kernel_rfl
  · kernel_rfl
  · kernel_rfl
  · kernel_rfl
  · kernel_rfl
  · kernel_rfl
  · kernel_rfl
  · kernel_rfl
  · kernel_rfl
end
end Mine
end
section
open PySem PySem.W PyProof.Rows
set_option maxRecDepth 100000
set_option maxHeartbeats 0
namespace Mine
noncomputable section
theorem opens (w : World) : (fencedOpening treeTable pw w 30000).map (fun s => (s.heap, s.gens, s.drawn, s.toks)) = some (boot_heap w.params, #[], boot_drawn, boot_toks) := by
  have h : (importEnds treeTable (opening pw) w 600 (start (opening pw)).1 (start (opening pw)).2).map (fun s => (s.heap, s.gens, s.drawn, s.toks)) = some (boot_heap w.params, #[], boot_drawn, boot_toks) := by kernel_rfl
  have f : ∀ s, fenceModules? pw s = some s := fun s => by rfl
  obtain ⟨s, hs, hv⟩ := Option.map_eq_some_iff.mp h
  have m := importEnds_mono (30000 - 600) _ _ _ _ hs
  unfold fencedOpening
  rw [show (30000 : Nat) = 600 + (30000 - 600) from rfl, m]
  show ((fenceModules? pw s)).map _ = _
  rw [f s]
  exact congrArg some hv
theorem left : LeftO pw qv lo xt hk.obs hk.val 30000 :=
  LeftO.of_pieces (H₀ := boot_heap) (H₁ := HH) (gs₀ := #[]) (gs₁ := #[]) (d₀ := boot_drawn) (d₁ := {}) (k₀ := boot_toks) (k₁ := 1842) (m₀ := 11) (ann := ann) (M := MM)
    opens (psize) run (by decide +kernel)
    (fun w => by
      funext os
      exact looks_pair (look1 w os) (looks_pair (look2 w os) (look3 w os)))
theorem head (hc : ∀ d kwd, defOf qv PySem.Challenge.rw_nb0193_01.row.name = some (d, kwd) → WalkO qv lo (XL qv []) hk.says rr.toRowW d kwd fun f vs => PySem.call f vs) : PySem.Challenge.rw_nb0193_01.Holds := by
  o_law
  refine holds_open (q := qv) (loose := lo) (Xt := xt) (XP := XL qv []) (Yf := hk.obs) (Ya := hk.val) (YP := hk.says) (N := 30000) left hk.of hk.keeps (fun s e => xl_of s (Bool.and_eq_true_iff.mp e).1) XL.keeps
    (by rfl) (by rfl) (by rfl) (fun s e => recFacts_of (Bool.and_eq_true_iff.mp e).2) (by rfl) (by assumption) (by decide +kernel) ⟨rfl, rfl, rfl, rfl, rfl, by decide +kernel⟩ ?hw (hc _ _ (by rfl))
  case hw => w_witness2
end
end Mine
end
section
open PySem PySem.W PyProof.Rows
set_option linter.unusedVariables false
namespace Mine

noncomputable def Ext (h h' : Heap) : Prop := ∀ b o, h.get? b = some o → h'.get? b = some o
theorem Ext.refl {h : Heap} : Ext h h := fun _ _ e => e
theorem Ext.trans {h h' h'' : Heap} (a : Ext h h') (b : Ext h' h'') : Ext h h'' := fun x o e => b x o (a x o e)
theorem Ext.push {h : Heap} (o : Obj) : Ext h (h.push o) := fun _ _ e => Heap.get?_push_of_some _ e
theorem keptExt {h : Heap} : KeptH (fun h' => Ext h h') := fun _ ob a => a.trans (Ext.push ob)

/-- no dict, no cell: what a store under a name does not touch -/
noncomputable def ndB (o : Obj) : Bool := match o.data with | .dict .. => false | .cell .. => false | _ => true
noncomputable def nd (o : Obj) : Prop := ndB o = true
theorem nd_seq {o : Obj} {xs : Array Value} {n : Nat} (h : o.data = .seq xs n) : nd o := by unfold nd ndB; rw [h]
theorem nd_fields {o : Obj} {xs : Array Value} (h : o.data = .fields xs) : nd o := by unfold nd ndB; rw [h]
noncomputable def ExtD (h h' : Heap) : Prop := ∀ b o, h.get? b = some o → nd o → h'.get? b = some o
theorem Ext.toD {h h' : Heap} (e : Ext h h') : ExtD h h' := fun b o x _ => e b o x
theorem ExtD.refl {h : Heap} : ExtD h h := fun _ _ e _ => e
theorem ExtD.trans {h h' h'' : Heap} (a : ExtD h h') (b : ExtD h' h'') : ExtD h h'' := fun x o e n => b x o (a x o e n) n
/-- where an expression stands: the frame's base, its names; a look back at what stays; what turns -/
structure Cx where
  prog : Program
  w : World
  A : Around
  h₀ : Heap
  L : Addr
  m : PySem.Str → Option Value
  g : Heap
  mu : List (Addr × Obj)
/-- nothing that stays lies there -/
noncomputable def NoNd (g : Heap) (a : Addr) : Prop := ∀ o, g.get? a = some o → ¬ nd o
theorem NoNd.none {g : Heap} {a : Addr} (h : g.get? a = none) : NoNd g a := fun o e => by rw [h] at e; cases e
structure Cx.ok (c : Cx) (h : Heap) : Prop where
  fr : Fr c.h₀ c.L h c.m
  back : ExtD c.g h
  own : ∀ p ∈ c.mu, h.get? p.1 = some p.2 ∧ p.1 ≠ c.L ∧ c.h₀.get? p.1 = none ∧ NoNd c.g p.1
theorem Cx.ok.ext {c : Cx} {h h' : Heap} (k : c.ok h) (e : Ext h h') : c.ok h' :=
  ⟨⟨k.fr.ns.keeps e, fun b o x => e _ _ (k.fr.keep b o x), k.fr.above⟩, k.back.trans e.toD, fun p hp => ⟨e _ _ (k.own p hp).1, (k.own p hp).2⟩⟩
theorem Cx.ok.base {c : Cx} {h : Heap} (k : c.ok h) : Ext c.h₀ h := k.fr.keep

/-- a tree that ends, and all that stood stands -/
noncomputable def EvF (c : Cx) (pre : Heap → Prop) {α : Type} (t : Sem α) (R : α → Heap → Prop) : Prop :=
  ∀ (s : Shared) (Q : α → Shared → Prop) (E : Value → Shared → Prop), c.ok s.heap → pre s.heap →
    (∀ v h' tk, R v h' → Ext s.heap h' → Q v { s with heap := h', toks := tk }) → wpAny (model c.prog c.w) c.A t Q E s
/-- what is said of a value, and stays so -/
structure VP where
  p : Value → Heap → Prop
  st : ∀ {v h h'}, ExtD h h' → p v h → p v h'
noncomputable def IsS (x : PySem.Str) : VP := ⟨fun v _ => ∃ t, v = .str x t, fun _ h => h⟩
noncomputable def IsI (n : Int) : VP := ⟨fun v _ => ∃ t, v = .int n t, fun _ h => h⟩
noncomputable def IsV (u : Value) : VP := ⟨fun v _ => v = u, fun _ h => h⟩
noncomputable abbrev IsB (b : Bool) : VP := IsV (.bool b)
noncomputable abbrev Ev (c : Cx) (t : Sem Value) (P : VP) : Prop := EvF c (fun _ => True) t P.p
/-- a test's -/
noncomputable abbrev Tst (c : Cx) (t : Sem Bool) (b : Bool) : Prop := EvF c (fun _ => True) t (fun r _ => r = b)

section
variable {c : Cx} {env : Env}
theorem EvF.mono {α : Type} {pre : Heap → Prop} {t : Sem α} {R R' : α → Heap → Prop} (h : EvF c pre t R) (hr : ∀ v h, R v h → R' v h) : EvF c pre t R' :=
  fun s Q E k p f => h s Q E k p fun v h' tk r e => f v h' tk (hr v h' r) e
theorem EvF.at {α : Type} {pre : Heap → Prop} {t : Sem α} {R : α → Heap → Prop} (h : ∀ g, pre g → EvF c (fun g' => Ext g g') t R) : EvF c pre t R :=
  fun s Q E k p f => h s.heap p s Q E k Ext.refl f
/-- one behind the other -/
theorem seq2 {α β : Type} {pre : Heap → Prop} {t : Sem α} {f : α → Sem β} {R : α → Heap → Prop} {R' : β → Heap → Prop} (h : EvF c pre t R) (hf : ∀ v, EvF c (R v) (f v) R') : EvF c pre (t >>= f) R' :=
  fun s Q E k p g => wpAny_bind (h s _ E k p fun v h' tk r e => hf v _ Q E (k.ext e) r fun v' h'' tk' r' e' => g v' h'' tk' r' (e.trans e'))
theorem ev_pure {α : Type} {pre : Heap → Prop} {v : α} {R : α → Heap → Prop} (h : ∀ g, pre g → R v g) : EvF c pre (pure v) R :=
  fun s _ _ _ p k => wpAny_pure (k v s.heap s.toks (h _ p) Ext.refl)

theorem nm {x : PySem.Str} {pos : Pos} {v : Value} {P : VP} (hm : c.m x = some v) (hp : ∀ h, P.p v h) (hL : env.locals = c.L := by rfl) (hk : env.scope.kind = .function := by rfl) (hl : env.kindOf x = some .local := by rfl)
    (hd : (x == ("__debug__" : PySem.Str)) = false := by decide) : Ev c (eval (.Name x pos) env) P :=
  fun s _ _ k _ f => wpAny_Name (wpAny_loadName_local hk hl (hL ▸ k.fr.ns) hm (f v s.heap s.toks (hp _) Ext.refl)) hd
/-- a name whose value's fact is of the look back -/
theorem nmF {x : PySem.Str} {pos : Pos} {v : Value} {P : VP} (hm : c.m x = some v) (hp : P.p v c.g) (hL : env.locals = c.L := by rfl) (hk : env.scope.kind = .function := by rfl) (hl : env.kindOf x = some .local := by rfl)
    (hd : (x == ("__debug__" : PySem.Str)) = false := by decide) : Ev c (eval (.Name x pos) env) P :=
  fun s _ _ k _ f => wpAny_Name (wpAny_loadName_local hk hl (hL ▸ k.fr.ns) hm (f v s.heap s.toks (P.st k.back hp) Ext.refl)) hd
/-- a name whose value's fact is of what turns -/
theorem nmM {x : PySem.Str} {pos : Pos} {a : Addr} {o : Obj} {R : Value → Heap → Prop} (hm : c.m x = some (.ref a)) (ho : (a, o) ∈ c.mu) (hr : ∀ h, h.get? a = some o → R (.ref a) h) (hL : env.locals = c.L := by rfl) (hk : env.scope.kind = .function := by rfl) (hl : env.kindOf x = some .local := by rfl)
    (hd : (x == ("__debug__" : PySem.Str)) = false := by decide) : EvF c (fun _ => True) (eval (.Name x pos) env) R :=
  fun s _ _ k _ f => wpAny_Name (wpAny_loadName_local hk hl (hL ▸ k.fr.ns) hm (f _ s.heap s.toks (hr _ (k.own _ ho).1) Ext.refl)) hd
theorem gl {x : PySem.Str} {pos : Pos} {v : Value} {K : Frag} {p : Program} {loose : List PySem.Str} {mg mb : PySem.Str → Option Value} (X : K.In c.h₀) (T : TopRead p loose mg mb c.h₀) (e : nsIn K mainGlobals x = some (some v))
    (hg : env.globals = mainGlobals := by rfl) (hk : env.scope.kind = .function := by rfl) (hx : env.kindOf x = some .globalImplicit := by rfl) (hd : (x == ("__debug__" : PySem.Str)) = false := by decide) :
    Ev c (eval (.Name x pos) env) (IsV v) :=
  fun s _ _ k _ f => Calls.Name_function_global hk hx (Calls.loadGlobal_global (hg ▸ T.g.keeps k.base) (mg_of X T.g e) (f v s.heap s.toks rfl Ext.refl)) hd
theorem bl {x : PySem.Str} {pos : Pos} {v : Value} {K : Frag} {p : Program} {loose : List PySem.Str} {mg mb : PySem.Str → Option Value} (X : K.In c.h₀) (T : TopRead p loose mg mb c.h₀) (e : nsIn K mainGlobals x = some none) (hv : bootBuiltins x = some v)
    (hn : x ≠ "__name__" := by decide) (hg : env.globals = mainGlobals := by rfl) (hb : env.builtins = builtinsNs := by rfl) (hk : env.scope.kind = .function := by rfl) (hx : env.kindOf x = some .globalImplicit := by rfl)
    (hd : (x == ("__debug__" : PySem.Str)) = false := by decide) : Ev c (eval (.Name x pos) env) (IsV v) :=
  fun s _ _ k _ f => Calls.Name_function_global hk hx (Calls.loadGlobal_builtin (hg ▸ T.g.keeps k.base) (mg_none_of X T.g e) (hb ▸ T.b.keeps k.base) ((T.builtins x hn).trans hv) (f v s.heap s.toks rfl Ext.refl)) hd

theorem cI {i : Int} {k : Nat} {pos : Pos} : Ev c (eval (.Constant (.int i) k pos) env) (IsI i) :=
  fun s _ _ _ _ f => wpAny_Constant_int (f _ s.heap _ ⟨_, rfl⟩ Ext.refl)
theorem cS {x : PySem.Str} {k : Nat} {pos : Pos} : Ev c (eval (.Constant (.str x) k pos) env) (IsS x) :=
  fun s _ _ _ _ f => Calls.Constant_str (f _ s.heap _ ⟨_, rfl⟩ Ext.refl)

/-- two values, one behind the other -/
theorem two {α : Type} {t : Sem Value} {u : Sem Value} {g : Value → Value → Sem α} {P P' : VP} {R : α → Heap → Prop} {whole : Sem α} (hl : Ev c t P) (hr : Ev c u P') (ho : ∀ a b, EvF c (fun h => P.p a h ∧ P'.p b h) (g a b) R)
    (hw : ∀ (s : Shared) (Q : α → Shared → Prop) (E : Value → Shared → Prop), wpAny (model c.prog c.w) c.A t (fun a s₁ => wpAny (model c.prog c.w) c.A u (fun b s₂ => wpAny (model c.prog c.w) c.A (g a b) Q E s₂) E s₁) E s → wpAny (model c.prog c.w) c.A whole Q E s) :
    EvF c (fun _ => True) whole R :=
  fun s Q E k _ f => hw s Q E (hl s _ E k trivial fun a h' tk p e => hr _ _ E (k.ext e) trivial fun b h'' tk' p' e' => ho a b _ Q E ((k.ext e).ext e') ⟨P.st e'.toD p, p'⟩ fun r h₃ tk₃ q e₃ => f r h₃ tk₃ q ((e.trans e').trans e₃))
theorem bin {l r : Expr} {op : Operator} {pos : Pos} {P P' R : VP} (hl : Ev c (eval l env) P) (hr : Ev c (eval r env) P') (ho : ∀ a b, EvF c (fun h => P.p a h ∧ P'.p b h) (binaryOp op a b) R.p) : Ev c (eval (.BinOp l op r pos) env) R :=
  two hl hr ho fun _ _ _ h => wpAny_BinOp h
theorem addS {l r : Expr} {pos : Pos} {x y : PySem.Str} (hl : Ev c (eval l env) (IsS x)) (hr : Ev c (eval r env) (IsS y)) (hsz : x.length + y.length ≤ sizeLine) : Ev c (eval (.BinOp l .Add r pos) env) (IsS (x ++ y)) :=
  bin hl hr fun _ _ s _ _ _ ⟨⟨_, e⟩, ⟨_, e'⟩⟩ f => by subst e e'; exact add_str (fun t' tk => f _ s.heap _ ⟨t', rfl⟩ Ext.refl) hsz
theorem addI {l r : Expr} {pos : Pos} {x y : Int} (hl : Ev c (eval l env) (IsI x)) (hr : Ev c (eval r env) (IsI y)) : Ev c (eval (.BinOp l .Add r pos) env) (IsI (x + y)) :=
  bin hl hr fun _ _ s _ _ _ ⟨⟨_, e⟩, ⟨_, e'⟩⟩ f => by subst e e'; exact add_int (f _ s.heap _ ⟨_, rfl⟩ Ext.refl)
theorem subI {l r : Expr} {pos : Pos} {x y : Int} (hl : Ev c (eval l env) (IsI x)) (hr : Ev c (eval r env) (IsI y)) : Ev c (eval (.BinOp l .Sub r pos) env) (IsI (x - y)) :=
  bin hl hr fun _ _ s _ _ _ ⟨⟨_, e⟩, ⟨_, e'⟩⟩ f => by subst e e'; exact sub_int (f _ s.heap _ ⟨_, rfl⟩ Ext.refl)
theorem modI {l r : Expr} {pos : Pos} {x y : Int} (hy : y ≠ 0) (hl : Ev c (eval l env) (IsI x)) (hr : Ev c (eval r env) (IsI y)) : Ev c (eval (.BinOp l .Mod r pos) env) (IsI (Int.fmod x y)) :=
  bin hl hr fun _ _ s _ _ _ ⟨⟨_, e⟩, ⟨_, e'⟩⟩ f => by subst e e'; exact mod_int' hy (f _ s.heap _ ⟨_, rfl⟩ Ext.refl)
theorem divI {l r : Expr} {pos : Pos} {x y : Int} (hy : y ≠ 0) (hb : Builtin.divisionGoesByPylong x y = false) (hl : Ev c (eval l env) (IsI x)) (hr : Ev c (eval r env) (IsI y)) :
    Ev c (eval (.BinOp l .FloorDiv r pos) env) (IsI (Int.fdiv x y)) :=
  bin hl hr fun _ _ s _ _ _ ⟨⟨_, e⟩, ⟨_, e'⟩⟩ f => by subst e e'; exact floordiv_int hy (f _ s.heap _ ⟨_, rfl⟩ Ext.refl) (.inl hb)

/-! tests -/
theorem cmp {l r : Expr} {op : CmpOp} {pos : Pos} {whole : Sem Value} {P P' : VP} {b : Bool} (hl : Ev c (eval l env) P) (hr : Ev c (eval r env) P') (ho : ∀ u v, EvF c (fun h => P.p u h ∧ P'.p v h) (compareOp op u v) (IsB b).p)
    (hm : behindInMarks op r = false) : Tst c (PySem.isTrue (.Compare l [op] [r] pos) env whole) b :=
  fun s Q E k _ f => wpAny_isTrue_Compare1 (hl s _ E k trivial fun a h' tk p e => hr _ _ E (k.ext e) trivial fun d h'' tk' p' e' => ho a d _ _ E ((k.ext e).ext e') ⟨P.st e'.toD p, p'⟩ fun r h₃ tk₃ q e₃ => by
    cases q
    exact wpAny_truthy_bool (f b h₃ tk₃ rfl ((e.trans e').trans e₃))) hm
theorem ltI {l r : Expr} {pos : Pos} {whole : Sem Value} {x y : Int} (hl : Ev c (eval l env) (IsI x)) (hr : Ev c (eval r env) (IsI y)) (hm : behindInMarks .Lt r = false := by rfl) : Tst c (PySem.isTrue (.Compare l [.Lt] [r] pos) env whole) (decide (x < y)) :=
  cmp hl hr (fun _ _ s _ _ _ ⟨⟨_, e⟩, ⟨_, e'⟩⟩ f => by subst e e'; exact lt_int (f _ s.heap s.toks rfl Ext.refl)) hm
theorem leI {l r : Expr} {pos : Pos} {whole : Sem Value} {x y : Int} (hl : Ev c (eval l env) (IsI x)) (hr : Ev c (eval r env) (IsI y)) (hm : behindInMarks .LtE r = false := by rfl) : Tst c (PySem.isTrue (.Compare l [.LtE] [r] pos) env whole) (decide (x ≤ y)) :=
  cmp hl hr (fun _ _ s _ _ _ ⟨⟨_, e⟩, ⟨_, e'⟩⟩ f => by subst e e'; exact le_int (f _ s.heap s.toks rfl Ext.refl)) hm
theorem gtI {l r : Expr} {pos : Pos} {whole : Sem Value} {x y : Int} (hl : Ev c (eval l env) (IsI x)) (hr : Ev c (eval r env) (IsI y)) (hm : behindInMarks .Gt r = false := by rfl) : Tst c (PySem.isTrue (.Compare l [.Gt] [r] pos) env whole) (decide (y < x)) :=
  cmp hl hr (fun _ _ s _ _ _ ⟨⟨_, e⟩, ⟨_, e'⟩⟩ f => by subst e e'; exact gt_int (f _ s.heap s.toks rfl Ext.refl)) hm
theorem geI {l r : Expr} {pos : Pos} {whole : Sem Value} {x y : Int} (hl : Ev c (eval l env) (IsI x)) (hr : Ev c (eval r env) (IsI y)) (hm : behindInMarks .GtE r = false := by rfl) : Tst c (PySem.isTrue (.Compare l [.GtE] [r] pos) env whole) (decide (y ≤ x)) :=
  cmp hl hr (fun _ _ s _ _ _ ⟨⟨_, e⟩, ⟨_, e'⟩⟩ f => by subst e e'; exact ge_int (f _ s.heap s.toks rfl Ext.refl)) hm
theorem eqI {l r : Expr} {pos : Pos} {whole : Sem Value} {x y : Int} (hl : Ev c (eval l env) (IsI x)) (hr : Ev c (eval r env) (IsI y)) (hm : behindInMarks .Eq r = false := by rfl) : Tst c (PySem.isTrue (.Compare l [.Eq] [r] pos) env whole) (x == y) :=
  cmp hl hr (fun _ _ s _ _ _ ⟨⟨_, e⟩, ⟨_, e'⟩⟩ f => by subst e e'; exact eq_int (f _ s.heap s.toks rfl Ext.refl)) hm
theorem eqS {l r : Expr} {pos : Pos} {whole : Sem Value} {x y : PySem.Str} (hl : Ev c (eval l env) (IsS x)) (hr : Ev c (eval r env) (IsS y)) (hm : behindInMarks .Eq r = false := by rfl) : Tst c (PySem.isTrue (.Compare l [.Eq] [r] pos) env whole) (x == y) :=
  cmp hl hr (fun _ _ s _ _ _ ⟨⟨_, e⟩, ⟨_, e'⟩⟩ f => by subst e e'; exact eq_str (f _ s.heap s.toks rfl Ext.refl)) hm
theorem neS {l r : Expr} {pos : Pos} {whole : Sem Value} {x y : PySem.Str} (hl : Ev c (eval l env) (IsS x)) (hr : Ev c (eval r env) (IsS y)) (hm : behindInMarks .NotEq r = false := by rfl) : Tst c (PySem.isTrue (.Compare l [.NotEq] [r] pos) env whole) (x != y) :=
  cmp hl hr (fun _ _ s _ _ _ ⟨⟨_, e⟩, ⟨_, e'⟩⟩ f => by subst e e'; exact ne_str (f _ s.heap s.toks rfl Ext.refl)) hm
theorem inS {l r : Expr} {pos : Pos} {whole : Sem Value} {x y : PySem.Str} (hl : Ev c (eval l env) (IsS y)) (hr : Ev c (eval r env) (IsS x)) (hm : behindInMarks .In r = false := by rfl) : Tst c (PySem.isTrue (.Compare l [.In] [r] pos) env whole) (Txt.contains x y) :=
  cmp hl hr (fun _ _ s _ _ _ ⟨⟨_, e⟩, ⟨_, e'⟩⟩ f => by subst e e'; exact SB.contains (f _ s.heap s.toks rfl Ext.refl)) hm
theorem notInS {l r : Expr} {pos : Pos} {whole : Sem Value} {x y : PySem.Str} (hl : Ev c (eval l env) (IsS y)) (hr : Ev c (eval r env) (IsS x)) (hm : behindInMarks .NotIn r = false := by rfl) : Tst c (PySem.isTrue (.Compare l [.NotIn] [r] pos) env whole) (!Txt.contains x y) :=
  cmp hl hr (fun _ _ s _ _ _ ⟨⟨_, e⟩, ⟨_, e'⟩⟩ f => by subst e e'; exact SB.notContains (f _ s.heap s.toks rfl Ext.refl)) hm
/-- a text's truth -/
theorem tS {e : Expr} {x : PySem.Str} (he : Ev c (eval e env) (IsS x)) (hsz : x.length ≤ sizeLine)
    (h : PySem.isTrue e env (eval e env) = (do let v ← eval e env; standAt (Expr.pos e); holding [v] (truthy v)) := by rfl) : Tst c (PySem.isTrue e env (eval e env)) (x.length != 0) :=
  fun s Q E k _ f => isTrue_plain (he s _ E k trivial fun v h' tk ⟨t, q⟩ e => by
    subst q
    refine P.truthy_str ?_ ?_
    · have : sizeLine = 16777216 := rfl
      omega
    · have hb : ((x.length : Int) != 0) = (x.length != 0) := by
        cases hx : x.length with
        | zero => rfl
        | succ n => simp; omega
      rw [hb]
      exact f _ h' _ rfl e) h
theorem tNot {e : Expr} {pos : Pos} {whole : Sem Value} {b : Bool} (h : Tst c (PySem.isTrue e env (eval e env)) b) : Tst c (PySem.isTrue (.UnaryOp .Not e pos) env whole) (!b) :=
  fun s Q E k p f => isTrue_not (h s _ E k p fun r h' tk q e => by cases q; exact f _ h' tk rfl e)
/-- and: the right is looked at where the left holds alone -/
theorem tAnd {e₁ e₂ : Expr} {pos : Pos} {whole : Sem Value} {b₁ b₂ : Bool} (h₁ : Tst c (PySem.isTrue e₁ env (eval e₁ env)) b₁) (h₂ : b₁ = true → Tst c (PySem.isTrue e₂ env (eval e₂ env)) b₂) : Tst c (PySem.isTrue (.BoolOp .And [e₁, e₂] pos) env whole) (b₁ && b₂) :=
  fun s Q E k p f => by
    show wpAny _ _ (do match BoolOp.And, ← PySem.isTrue e₁ env (eval e₁ env) with
      | .And, false => pure false
      | .Or, true => pure true
      | _, _ => allTrue .And [e₂] env) Q E s
    refine wpAny_bind (h₁ s _ E k p fun r h' tk q e => ?_)
    cases q
    cases b₁ with
    | false => exact wpAny_pure (f false h' tk rfl e)
    | true =>
      show wpAny _ _ (do match BoolOp.And, ← PySem.isTrue e₂ env (eval e₂ env) with
        | .And, false => pure false
        | .Or, true => pure true
        | _, _ => allTrue .And [] env) Q E _
      refine wpAny_bind (h₂ rfl _ _ E (k.ext e) trivial fun r h'' tk' q e' => ?_)
      cases q
      cases b₂ with
      | false => exact wpAny_pure (f false h'' tk' rfl (e.trans e'))
      | true => exact wpAny_pure (f true h'' tk' rfl (e.trans e'))
theorem tAnd3 {e₁ e₂ e₃ : Expr} {pos : Pos} {whole : Sem Value} {b₁ b₂ b₃ : Bool} (h₁ : Tst c (PySem.isTrue e₁ env (eval e₁ env)) b₁) (h₂ : b₁ = true → Tst c (PySem.isTrue e₂ env (eval e₂ env)) b₂) (h₃ : b₁ = true → b₂ = true → Tst c (PySem.isTrue e₃ env (eval e₃ env)) b₃) :
    Tst c (PySem.isTrue (.BoolOp .And [e₁, e₂, e₃] pos) env whole) (b₁ && (b₂ && b₃)) :=
  fun s Q E k p f => by
    show wpAny _ _ (do match BoolOp.And, ← PySem.isTrue e₁ env (eval e₁ env) with
      | .And, false => pure false
      | .Or, true => pure true
      | _, _ => allTrue .And [e₂, e₃] env) Q E s
    refine wpAny_bind (h₁ s _ E k p fun r h' tk q e => ?_)
    cases q
    cases b₁ with
    | false => exact wpAny_pure (f false h' tk rfl e)
    | true =>
      show wpAny _ _ (PySem.isTrue (.BoolOp .And [e₂, e₃] pos) env whole) Q E _
      exact tAnd (h₂ rfl) (h₃ rfl) _ _ E (k.ext e) trivial fun r h'' tk' q e' => f r h'' tk' q (e.trans e')
theorem tOr {e₁ e₂ : Expr} {pos : Pos} {whole : Sem Value} {b₁ b₂ : Bool} (h₁ : Tst c (PySem.isTrue e₁ env (eval e₁ env)) b₁) (h₂ : b₁ = false → Tst c (PySem.isTrue e₂ env (eval e₂ env)) b₂) : Tst c (PySem.isTrue (.BoolOp .Or [e₁, e₂] pos) env whole) (b₁ || b₂) :=
  fun s Q E k p f => by
    show wpAny _ _ (do match BoolOp.Or, ← PySem.isTrue e₁ env (eval e₁ env) with
      | .And, false => pure false
      | .Or, true => pure true
      | _, _ => allTrue .Or [e₂] env) Q E s
    refine wpAny_bind (h₁ s _ E k p fun r h' tk q e => ?_)
    cases q
    cases b₁ with
    | true => exact wpAny_pure (f true h' tk rfl e)
    | false =>
      show wpAny _ _ (do match BoolOp.Or, ← PySem.isTrue e₂ env (eval e₂ env) with
        | .And, false => pure false
        | .Or, true => pure true
        | _, _ => allTrue .Or [] env) Q E _
      refine wpAny_bind (h₂ rfl _ _ E (k.ext e) trivial fun r h'' tk' q e' => ?_)
      cases q
      cases b₂ with
      | false => exact wpAny_pure (f false h'' tk' rfl (e.trans e'))
      | true => exact wpAny_pure (f true h'' tk' rfl (e.trans e'))

/-! cuts and places of a text -/
theorem subs {value slice : Expr} {pos : Pos} {P P' R : VP} (hv : Ev c (eval value env) P) (hs : Ev c (eval slice env) P') (ho : ∀ u v, EvF c (fun h => P.p u h ∧ P'.p v h) (subscriptTail value slice u v) R.p) : Ev c (eval (.Subscript value slice pos) env) R :=
  two hv hs ho fun _ _ _ h => Subscript_ h
theorem itS {value slice : Expr} {pos : Pos} {x : PySem.Str} {i : Int} (hv : Ev c (eval value env) (IsS x)) (hs : Ev c (eval slice env) (IsI i)) (hlo : -(x.length : Int) ≤ i) (hhi : i < (x.length : Int)) (hx : x.length ≤ sizeLine)
    (h1 : ∀ t u, subscripted slice false (Value.str x t) (Value.int i u) = operate [Value.str x t, Value.int i u] (getItem (Value.str x t) (Value.int i u)) := by intros; rfl) (h2 : ∀ t r, letTemporaryGo value (Value.str x t) r = pure () := by intros; rfl) :
    Ev c (eval (.Subscript value slice pos) env) (IsS (Txt.item x i)) :=
  subs hv hs fun _ _ s _ _ _ ⟨⟨_, e⟩, ⟨_, e'⟩⟩ f => by
    subst e e'
    have hf : fitsSsize i = true := by
      have : sizeLine = 16777216 := rfl
      unfold fitsSsize
      simp only [Bool.not_eq_true', Bool.or_eq_false_iff, decide_eq_false_iff_not]
      omega
    exact item_str hf hlo hhi (fun _ => f _ s.heap _ ⟨_, rfl⟩ Ext.refl) (h1 _ _) (h2 _)
theorem slSS {value a b : Expr} {p pos : Pos} {x : PySem.Str} {i j : Int} (hv : Ev c (eval value env) (IsS x)) (ha : Ev c (eval a env) (IsI i)) (hb : Ev c (eval b env) (IsI j)) (hx : x.length ≤ sizeLine) (h2 : ∀ t r, letTemporaryGo value (Value.str x t) r = pure () := by intros; rfl) :
    Ev c (eval (.Subscript value (.Slice (some a) (some b) none p) pos) env) (IsS (Txt.slice x (some i) (some j))) :=
  fun s Q E k _ f => Subscript_ (hv s _ E k trivial fun v h₁ tk₁ ⟨_, q⟩ e₁ => wpAny_Slice (evalPart_some_step (ha _ _ E (k.ext e₁) trivial fun u h₂ tk₂ ⟨_, q₂⟩ e₂ => evalPart_some_step (hb _ _ E ((k.ext e₁).ext e₂) trivial fun u' h₃ tk₃ ⟨_, q₃⟩ e₃ => evalPart_none_step (by
    subst q q₂ q₃
    exact tail_of_ItemOn (SBH.sliceItem_ss (s := { s with heap := h₃, toks := tk₃ }) keptExt (Ext.refl (h := h₃)) (fun h' t' k' a => f _ h' k' ⟨t', rfl⟩ (((e₁.trans e₂).trans e₃).trans a)) hx) (by rfl) (h2 _))))))
theorem slNS {value b : Expr} {p pos : Pos} {x : PySem.Str} {j : Int} (hv : Ev c (eval value env) (IsS x)) (hb : Ev c (eval b env) (IsI j)) (hx : x.length ≤ sizeLine) (h2 : ∀ t r, letTemporaryGo value (Value.str x t) r = pure () := by intros; rfl) :
    Ev c (eval (.Subscript value (.Slice none (some b) none p) pos) env) (IsS (Txt.slice x none (some j))) :=
  fun s Q E k _ f => Subscript_ (hv s _ E k trivial fun v h₁ tk₁ ⟨_, q⟩ e₁ => wpAny_Slice (evalPart_none_step (evalPart_some_step (hb _ _ E (k.ext e₁) trivial fun u' h₃ tk₃ ⟨_, q₃⟩ e₃ => evalPart_none_step (by
    subst q q₃
    exact tail_of_ItemOn (SBH.sliceItem_ns (s := { s with heap := h₃, toks := tk₃ }) keptExt (Ext.refl (h := h₃)) (fun h' t' k' a => f _ h' k' ⟨t', rfl⟩ ((e₁.trans e₃).trans a)) hx) (by rfl) (h2 _))))))
theorem slSN {value a : Expr} {p pos : Pos} {x : PySem.Str} {i : Int} (hv : Ev c (eval value env) (IsS x)) (ha : Ev c (eval a env) (IsI i)) (hx : x.length ≤ sizeLine) (h2 : ∀ t r, letTemporaryGo value (Value.str x t) r = pure () := by intros; rfl) :
    Ev c (eval (.Subscript value (.Slice (some a) none none p) pos) env) (IsS (Txt.slice x (some i) none)) :=
  fun s Q E k _ f => Subscript_ (hv s _ E k trivial fun v h₁ tk₁ ⟨_, q⟩ e₁ => wpAny_Slice (evalPart_some_step (ha _ _ E (k.ext e₁) trivial fun u h₂ tk₂ ⟨_, q₂⟩ e₂ => evalPart_none_step (evalPart_none_step (by
    subst q q₂
    exact tail_of_ItemOn (SBH.sliceItem_sn (s := { s with heap := h₂, toks := tk₂ }) keptExt (Ext.refl (h := h₂)) (fun h' t' k' a => f _ h' k' ⟨t', rfl⟩ ((e₁.trans e₂).trans a)) hx) (by rfl) (h2 _))))))
end
end Mine
end
section
open PySem PySem.W PyProof.Rows
set_option linter.unusedVariables false
namespace Mine
/-- a store -/
noncomputable def upd (m : PySem.Str → Option Value) (x : PySem.Str) (v : Value) : PySem.Str → Option Value := fun y => if y = x then some v else m y
theorem upd_same {m : PySem.Str → Option Value} {x : PySem.Str} {v : Value} : upd m x v x = some v := if_pos rfl
theorem upd_ne {m : PySem.Str → Option Value} {x y : PySem.Str} {v : Value} (h : y ≠ x) : upd m x v y = m y := if_neg h
noncomputable abbrev Cx.at (c : Cx) (m' : PySem.Str → Option Value) : Cx := { c with m := m' }
noncomputable abbrev Cx.atM (c : Cx) (m' : PySem.Str → Option Value) (mu' : List (Addr × Obj)) : Cx := { c with m := m', mu := mu' }
theorem ns_dict {h : Heap} {L : Addr} {m : PySem.Str → Option Value} (n : h.Ns L m) : ∃ o, h.get? L = some o ∧ ¬ nd o := by
  obtain ⟨o, es, ep, ho, hd, _⟩ := n
  exact ⟨o, ho, fun k => by unfold nd ndB at k; rw [hd] at k; cases k⟩
/-- what a store into the frame keeps -/
theorem store_keeps {h h' : Heap} {L : Addr} {m : PySem.Str → Option Value} (n : h.Ns L m) (hs : Heap.SameBut L h h') : ExtD h h' := fun b o e k => by
  obtain ⟨o', ho, hn⟩ := ns_dict n
  have hb : b ≠ L := fun q => by subst q; rw [ho] at e; cases e; exact hn k
  exact (hs.2 b hb).trans e
theorem Cx.ok.store {c : Cx} {h h' : Heap} {x : PySem.Str} {v : Value} (k : c.ok h) (hn : h'.Ns c.L (upd c.m x v)) (hs : Heap.SameBut c.L h h') : (c.at (upd c.m x v)).ok h' :=
  ⟨k.fr.set hn hs, k.back.trans (store_keeps k.fr.ns hs), fun p hp => ⟨(hs.2 _ (k.own p hp).2.1).trans (k.own p hp).1, (k.own p hp).2⟩⟩

section
variable {c : Cx} {env : Env} {hh : Heap} {gs : Array GenState} {dr : Drawn} {tk₀ : Nat} {os : OsState} {Q : Flow → Shared → Prop} {E : Value → Shared → Prop}
theorem st1 {x : PySem.Str} {v : Value} {Q : Unit → Shared → Prop} (k : c.ok hh) (h : ∀ h' tk, ExtD hh h' → (c.at (upd c.m x v)).ok h' → Q () ⟨h', gs, dr, tk, os⟩)
    (hL : env.locals = c.L) (hl : env.kindOf x = some .local) (hp : (env.scope.kind == .class || (env.scope.kind == .module && env.locals != env.globals)) = false) :
    wpAny (model c.prog c.w) c.A (storeName env x v) Q E ⟨hh, gs, dr, tk₀, os⟩ := by
  refine wpAny_storeName_local hl (hL ▸ k.fr.ns) (fun h'' hn hs => ?_) hp
  have hs' : Heap.SameBut c.L hh h'' := hL ▸ hs
  exact h h'' _ (store_keeps k.fr.ns hs') (k.store (hL ▸ hn) hs')

theorem sAssign {x : PySem.Str} {pos' pos : Pos} {value : Expr} {rest : List Stmt} {P : VP} (k : c.ok hh) (he : Ev c (eval value env) P)
    (h : ∀ v h' tk, P.p v h' → (c.at (upd c.m x v)).ok h' → wpAny (model c.prog c.w) c.A (execs rest env) Q E ⟨h', gs, dr, tk, os⟩)
    (hL : env.locals = c.L := by rfl) (hl : env.kindOf x = some .local := by rfl) (hp : (env.scope.kind == .class || (env.scope.kind == .module && env.locals != env.globals)) = false := by rfl)
    (hsw : swapsWith value (some (.Name x pos')) pos.line env = pure false := by rfl) :
    wpAny (model c.prog c.w) c.A (execs (.Assign [.Name x pos'] value pos :: rest) env) Q E ⟨hh, gs, dr, tk₀, os⟩ := by
  refine wpAny_execs_cons (wpAny_Assign_Name (he ⟨hh, gs, dr, tk₀, os⟩ _ E k trivial fun v h' tk p e => ?_) hsw)
  exact st1 (k.ext e) (fun h'' tk' d k' => h v h'' tk' (P.st d p) k') hL hl hp

/-- an int or a text grown in place -/
theorem sAugS {x : PySem.Str} {pos' pos : Pos} {value : Expr} {rest : List Stmt} {a b : PySem.Str} {t : Tok} (k : c.ok hh) (hm : c.m x = some (.str a t)) (he : Ev c (eval value env) (IsS b)) (hsz : a.length + b.length ≤ sizeLine)
    (h : ∀ t h' tk, (c.at (upd c.m x (.str (a ++ b) t))).ok h' → wpAny (model c.prog c.w) c.A (execs rest env) Q E ⟨h', gs, dr, tk, os⟩)
    (hL : env.locals = c.L := by rfl) (hk : env.scope.kind = .function := by rfl) (hl : env.kindOf x = some .local := by rfl) (hp : (env.scope.kind == .class || (env.scope.kind == .module && env.locals != env.globals)) = false := by rfl) :
    wpAny (model c.prog c.w) c.A (execs (.AugAssign (.Name x pos') .Add value pos :: rest) env) Q E ⟨hh, gs, dr, tk₀, os⟩ := by
  refine wpAny_execs_cons (wpAny_AugAssign_Name (wpAny_loadName_local hk hl (hL ▸ k.fr.ns) hm (he ⟨hh, gs, dr, tk₀, os⟩ _ E k trivial fun v h' tk ⟨t', q⟩ e => ?_)))
  subst q
  exact SB.iadd (fun t'' tk'' => st1 (k.ext e) (fun h'' tk' d k' => h t'' h'' tk' k') hL hl hp) hsz
theorem sAugI {x : PySem.Str} {pos' pos : Pos} {value : Expr} {rest : List Stmt} {a b : Int} {t : Tok} (k : c.ok hh) (hm : c.m x = some (.int a t)) (he : Ev c (eval value env) (IsI b))
    (h : ∀ t h' tk, (c.at (upd c.m x (.int (a + b) t))).ok h' → wpAny (model c.prog c.w) c.A (execs rest env) Q E ⟨h', gs, dr, tk, os⟩)
    (hL : env.locals = c.L := by rfl) (hk : env.scope.kind = .function := by rfl) (hl : env.kindOf x = some .local := by rfl) (hp : (env.scope.kind == .class || (env.scope.kind == .module && env.locals != env.globals)) = false := by rfl) :
    wpAny (model c.prog c.w) c.A (execs (.AugAssign (.Name x pos') .Add value pos :: rest) env) Q E ⟨hh, gs, dr, tk₀, os⟩ := by
  refine wpAny_execs_cons (wpAny_AugAssign_Name (wpAny_loadName_local hk hl (hL ▸ k.fr.ns) hm (he ⟨hh, gs, dr, tk₀, os⟩ _ E k trivial fun v h' tk ⟨t', q⟩ e => ?_)))
  subst q
  exact iadd_int (st1 (k.ext e) (fun h'' tk' d k' => h _ h'' tk' k') hL hl hp)
theorem sAugSubI {x : PySem.Str} {pos' pos : Pos} {value : Expr} {rest : List Stmt} {a b : Int} {t : Tok} (k : c.ok hh) (hm : c.m x = some (.int a t)) (he : Ev c (eval value env) (IsI b))
    (h : ∀ t h' tk, (c.at (upd c.m x (.int (a - b) t))).ok h' → wpAny (model c.prog c.w) c.A (execs rest env) Q E ⟨h', gs, dr, tk, os⟩)
    (hL : env.locals = c.L := by rfl) (hk : env.scope.kind = .function := by rfl) (hl : env.kindOf x = some .local := by rfl) (hp : (env.scope.kind == .class || (env.scope.kind == .module && env.locals != env.globals)) = false := by rfl) :
    wpAny (model c.prog c.w) c.A (execs (.AugAssign (.Name x pos') .Sub value pos :: rest) env) Q E ⟨hh, gs, dr, tk₀, os⟩ := by
  refine wpAny_execs_cons (wpAny_AugAssign_Name (wpAny_loadName_local hk hl (hL ▸ k.fr.ns) hm (he ⟨hh, gs, dr, tk₀, os⟩ _ E k trivial fun v h' tk ⟨t', q⟩ e => ?_)))
  subst q
  exact isub_int (st1 (k.ext e) (fun h'' tk' d k' => h _ h'' tk' k') hL hl hp)

/-- a branch -/
theorem sIf {test : Expr} {body orelse rest : List Stmt} {pos : Pos} {b : Bool} (k : c.ok hh) (ht : Tst c (PySem.isTrue test env (eval test env)) b)
    (hT : b = true → ∀ h' tk, c.ok h' → wpAny (model c.prog c.w) c.A (execs body env) (fun f s' => match f with | .next => wpAny (model c.prog c.w) c.A (execs rest env) Q E s' | f => Q f s') E ⟨h', gs, dr, tk, os⟩)
    (hF : b = false → ∀ h' tk, c.ok h' → wpAny (model c.prog c.w) c.A (execs orelse env) (fun f s' => match f with | .next => wpAny (model c.prog c.w) c.A (execs rest env) Q E s' | f => Q f s') E ⟨h', gs, dr, tk, os⟩) :
    wpAny (model c.prog c.w) c.A (execs (.If test body orelse pos :: rest) env) Q E ⟨hh, gs, dr, tk₀, os⟩ := by
  refine wpAny_execs_cons (wpAny_If (ht ⟨hh, gs, dr, tk₀, os⟩ _ E k trivial fun r h' tk q e => ?_))
  subst q
  cases r with
  | true => exact hT rfl h' tk (k.ext e)
  | false => exact hF rfl h' tk (k.ext e)
/-- the branch that the facts say -/
theorem sIfF {test : Expr} {body rest : List Stmt} {pos : Pos} {b : Bool} (k : c.ok hh) (ht : Tst c (PySem.isTrue test env (eval test env)) b) (hb : b = false)
    (h : ∀ h' tk, c.ok h' → wpAny (model c.prog c.w) c.A (execs rest env) Q E ⟨h', gs, dr, tk, os⟩) :
    wpAny (model c.prog c.w) c.A (execs (.If test body [] pos :: rest) env) Q E ⟨hh, gs, dr, tk₀, os⟩ :=
  sIf k ht (fun q => by rw [hb] at q; cases q) fun _ h' tk k' => wpAny_execs_nil (h h' tk k')
theorem sRet {e : Expr} {pos : Pos} {rest : List Stmt} {P : VP} (k : c.ok hh) (he : Ev c (eval e env) P) (h : ∀ v h' tk, P.p v h' → Ext hh h' → Q (.ret v) ⟨h', gs, dr, tk, os⟩) :
    wpAny (model c.prog c.w) c.A (execs (.Return (some e) pos :: rest) env) Q E ⟨hh, gs, dr, tk₀, os⟩ :=
  wpAny_execs_cons (wpAny_Return_some (he ⟨hh, gs, dr, tk₀, os⟩ _ E k trivial fun v h' tk p e => h v h' tk p e))
theorem sCont {pos : Pos} {rest : List Stmt} (h : Q .cont ⟨hh, gs, dr, tk₀, os⟩) : wpAny (model c.prog c.w) c.A (execs (.Continue pos :: rest) env)  Q E ⟨hh, gs, dr, tk₀, os⟩ := wpAny_execs_cons (wpAny_Continue h)
/-- a while by a word J and a number that falls -/
theorem sWhile {test : Expr} {body rest : List Stmt} {pos : Pos} (J : Nat → (PySem.Str → Option Value) → List (Addr × Obj) → Prop) {n₀ : Nat} (k : c.ok hh) (hJ : J n₀ c.m c.mu)
    (turn : ∀ n m₁ mu₁ h₁ tk₁, J n m₁ mu₁ → (c.atM m₁ mu₁).ok h₁ →
      wpAny (model c.prog c.w) c.A (PySem.isTrue test env (eval test env)) (fun b s₂ => if b = true then wpAny (model c.prog c.w) c.A (execs body env) (fun f s₃ => match f with
        | .next | .cont => ∃ h' tk m₂ mu₂ n', s₃ = ⟨h', gs, dr, tk, os⟩ ∧ (c.atM m₂ mu₂).ok h' ∧ n' < n ∧ J n' m₂ mu₂
        | .brk => False
        | .ret v => False) (fun _ _ => False) s₂
        else ∃ h' tk, s₂ = ⟨h', gs, dr, tk, os⟩ ∧ (c.atM m₁ mu₁).ok h' ∧ wpAny (model c.prog c.w) c.A (execs rest env) Q E ⟨h', gs, dr, tk, os⟩) (fun _ _ => False) ⟨h₁, gs, dr, tk₁, os⟩) :
    wpAny (model c.prog c.w) c.A (execs (.While test body [] pos :: rest) env) Q E ⟨hh, gs, dr, tk₀, os⟩ := by
  refine wpAny_execs_cons (wpAny_While (codeAny_whileLoop (fun n s' => ∃ h₁ tk₁ m₁ mu₁, s' = ⟨h₁, gs, dr, tk₁, os⟩ ∧ (c.atM m₁ mu₁).ok h₁ ∧ J n m₁ mu₁) ?_ n₀ ⟨hh, tk₀, c.m, c.mu, rfl, k, hJ⟩))
  rintro n s' ⟨h₁, tk₁, m₁, mu₁, rfl, k₁, J₁⟩
  refine wpAny_mono (turn n m₁ mu₁ h₁ tk₁ J₁ k₁) (fun b s₂ h₂ => ?_) fun _ _ e => e.elim
  cases b with
  | false =>
    simp only [Bool.false_eq_true, if_false] at h₂ ⊢
    obtain ⟨h', tk, rfl, _, h₂⟩ := h₂
    exact wpAny_execs_nil h₂
  | true =>
    simp only [if_true] at h₂ ⊢
    refine wpAny_mono h₂ (fun f s₃ h₃ => ?_) fun _ _ e => e.elim
    cases f with
    | next =>
      obtain ⟨h', tk, m₂, mu₂, n', rfl, k₂, hn, J₂⟩ := h₃
      exact ⟨n', hn, h', tk, m₂, mu₂, rfl, k₂, J₂⟩
    | cont =>
      obtain ⟨h', tk, m₂, mu₂, n', rfl, k₂, hn, J₂⟩ := h₃
      exact ⟨n', hn, h', tk, m₂, mu₂, rfl, k₂, J₂⟩
    | brk => exact h₃.elim
    | ret v => exact h₃.elim
end
end Mine
end
section
open PySem PySem.W PyProof.Rows
set_option linter.unusedVariables false
namespace Mine
section
variable {c : Cx} {env : Env}
theorem callB1 {f e : Expr} {pos : Pos} {id : String} {P : VP} {R : Value → Heap → Prop} (hf : Ev c (eval f env) (IsV (.builtin id))) (he : Ev c (eval e env) P) (hc : ∀ v, EvF c (P.p v) (call (.builtin id) [v]) R)
    (h1 : starEach [e] env = (false, eval e env) :: starEach [] env := by rfl)
    (h2 : eval (.Call f [e] [] pos) env = (do let fv ← eval f env; callWith pos fv [] (backTo pos (starEach [e] env)) (backToKw pos (keywordEach [] env))) := by rfl) : EvF c (fun _ => True) (eval (.Call f [e] [] pos) env) R :=
  fun s Q E k _ fin => Call_ (hf s _ E k trivial fun fv h' tk q e => by
    cases q
    exact PyProof.Rows.callWith_builtin1 (spliced_more (he _ _ E (k.ext e) trivial fun v h'' tk' p e' => spliced_none (hc v _ Q E ((k.ext e).ext e') p fun r h₃ tk₃ r' e₃ => fin r h₃ tk₃ r' ((e.trans e').trans e₃))) h1) h1 rfl) h2
theorem callT1 {f e : Expr} {pos : Pos} {T : String} {P : VP} {R : Value → Heap → Prop} (hf : Ev c (eval f env) (IsV (.type T))) (he : Ev c (eval e env) P) (hc : ∀ v, EvF c (P.p v) (call (.type T) [v]) R)
    (h1 : starEach [e] env = (false, eval e env) :: starEach [] env := by rfl)
    (h2 : eval (.Call f [e] [] pos) env = (do let fv ← eval f env; callWith pos fv [] (backTo pos (starEach [e] env)) (backToKw pos (keywordEach [] env))) := by rfl) : EvF c (fun _ => True) (eval (.Call f [e] [] pos) env) R :=
  fun s Q E k _ fin => Call_ (hf s _ E k trivial fun fv h' tk q e => by
    cases q
    exact Pv.callWith_type1 (spliced_more (he _ _ E (k.ext e) trivial fun v h'' tk' p e' => spliced_none (hc v _ Q E ((k.ext e).ext e') p fun r h₃ tk₃ r' e₃ => fin r h₃ tk₃ r' ((e.trans e').trans e₃))) h1) h1 rfl) h2
theorem callT2 {f e₁ e₂ : Expr} {pos : Pos} {T : String} {P P' : VP} {R : Value → Heap → Prop} (hf : Ev c (eval f env) (IsV (.type T))) (he : Ev c (eval e₁ env) P) (he' : Ev c (eval e₂ env) P') (hc : ∀ v v', EvF c (fun h => P.p v h ∧ P'.p v' h) (call (.type T) [v, v']) R)
    (h1 : starEach [e₁, e₂] env = (false, eval e₁ env) :: starEach [e₂] env := by rfl) (h1' : starEach [e₂] env = (false, eval e₂ env) :: starEach [] env := by rfl) (h3 : ((backTo pos (starEach [e₂] env)).any fun x => x.1) = false := by rfl)
    (h2 : eval (.Call f [e₁, e₂] [] pos) env = (do let fv ← eval f env; callWith pos fv [] (backTo pos (starEach [e₁, e₂] env)) (backToKw pos (keywordEach [] env))) := by rfl) : EvF c (fun _ => True) (eval (.Call f [e₁, e₂] [] pos) env) R :=
  fun s Q E k _ fin => Call_ (hf s _ E k trivial fun fv h' tk q e => by
    cases q
    exact Pv.callWith_type1 (spliced_more (he _ _ E (k.ext e) trivial fun v h'' tk' p e' => spliced_more (he' _ _ E ((k.ext e).ext e') trivial fun v' h₄ tk₄ p' e₄ => spliced_none (hc v v' _ Q E (((k.ext e).ext e').ext e₄) ⟨P.st e₄.toD p, p'⟩ fun r h₃ tk₃ r' e₃ => fin r h₃ tk₃ r' (((e.trans e').trans e₄).trans e₃))) h1') h1) h1 h3) h2

/-- a def of the text called -/
theorem callK1 {f e : Expr} {pos : Pos} {a : Addr} {K : Frag} {P : VP} {R : Value → Heap → Prop} (X : K.In c.h₀) (hk : keepIn K (.ref a) = true) (hf : Ev c (eval f env) (IsV (.ref a))) (he : Ev c (eval e env) P) (hc : ∀ v, EvF c (P.p v) (call (.ref a) [v]) R)
    (h1 : starEach [e] env = (false, eval e env) :: starEach [] env := by rfl)
    (h2 : eval (.Call f [e] [] pos) env = (do let fv ← eval f env; callWith pos fv [] (backTo pos (starEach [e] env)) (backToKw pos (keywordEach [] env))) := by rfl) : EvF c (fun _ => True) (eval (.Call f [e] [] pos) env) R :=
  fun s Q E k _ fin => Call_ (hf s _ E k trivial fun fv h' tk q e => by
    cases q
    exact callWith_K X hk (spliced_more (he _ _ E (k.ext e) trivial fun v h'' tk' p e' => spliced_none ⟨X.keeps ((k.ext e).ext e').base, hc v _ Q E ((k.ext e).ext e') p fun r h₃ tk₃ r' e₃ => fin r h₃ tk₃ r' ((e.trans e').trans e₃)⟩) h1) h1 rfl) h2
theorem callK2 {f e₁ e₂ : Expr} {pos : Pos} {a : Addr} {K : Frag} {P P' : VP} {R : Value → Heap → Prop} (X : K.In c.h₀) (hk : keepIn K (.ref a) = true) (hf : Ev c (eval f env) (IsV (.ref a))) (he : Ev c (eval e₁ env) P) (he' : Ev c (eval e₂ env) P') (hc : ∀ v v', EvF c (fun h => P.p v h ∧ P'.p v' h) (call (.ref a) [v, v']) R)
    (h1 : starEach [e₁, e₂] env = (false, eval e₁ env) :: starEach [e₂] env := by rfl) (h1' : starEach [e₂] env = (false, eval e₂ env) :: starEach [] env := by rfl) (h3 : ((backTo pos (starEach [e₂] env)).any fun x => x.1) = false := by rfl)
    (h2 : eval (.Call f [e₁, e₂] [] pos) env = (do let fv ← eval f env; callWith pos fv [] (backTo pos (starEach [e₁, e₂] env)) (backToKw pos (keywordEach [] env))) := by rfl) : EvF c (fun _ => True) (eval (.Call f [e₁, e₂] [] pos) env) R :=
  fun s Q E k _ fin => Call_ (hf s _ E k trivial fun fv h' tk q e => by
    cases q
    exact callWith_K X hk (spliced_more (he _ _ E (k.ext e) trivial fun v h'' tk' p e' => spliced_more (he' _ _ E ((k.ext e).ext e') trivial fun v' h₄ tk₄ p' e₄ => spliced_none ⟨X.keeps (((k.ext e).ext e').ext e₄).base, hc v v' _ Q E (((k.ext e).ext e').ext e₄) ⟨P.st e₄.toD p, p'⟩ fun r h₃ tk₃ r' e₃ => fin r h₃ tk₃ r' (((e.trans e').trans e₄).trans e₃)⟩) h1') h1) h1 h3) h2
theorem callK3 {f e₁ e₂ e₃ : Expr} {pos : Pos} {a : Addr} {K : Frag} {P P' P'' : VP} {R : Value → Heap → Prop} (X : K.In c.h₀) (hk : keepIn K (.ref a) = true) (hf : Ev c (eval f env) (IsV (.ref a))) (he : Ev c (eval e₁ env) P) (he' : Ev c (eval e₂ env) P') (he'' : Ev c (eval e₃ env) P'')
    (hc : ∀ v v' v'', EvF c (fun h => P.p v h ∧ P'.p v' h ∧ P''.p v'' h) (call (.ref a) [v, v', v'']) R)
    (h1 : starEach [e₁, e₂, e₃] env = (false, eval e₁ env) :: starEach [e₂, e₃] env := by rfl) (h1' : starEach [e₂, e₃] env = (false, eval e₂ env) :: starEach [e₃] env := by rfl) (h1'' : starEach [e₃] env = (false, eval e₃ env) :: starEach [] env := by rfl) (h3 : ((backTo pos (starEach [e₂, e₃] env)).any fun x => x.1) = false := by rfl)
    (h2 : eval (.Call f [e₁, e₂, e₃] [] pos) env = (do let fv ← eval f env; callWith pos fv [] (backTo pos (starEach [e₁, e₂, e₃] env)) (backToKw pos (keywordEach [] env))) := by rfl) : EvF c (fun _ => True) (eval (.Call f [e₁, e₂, e₃] [] pos) env) R :=
  fun s Q E k _ fin => Call_ (hf s _ E k trivial fun fv h' tk q e => by
    cases q
    exact callWith_K X hk (spliced_more (he _ _ E (k.ext e) trivial fun v h'' tk' p e' => spliced_more (he' _ _ E ((k.ext e).ext e') trivial fun v' h₄ tk₄ p' e₄ => spliced_more (he'' _ _ E (((k.ext e).ext e').ext e₄) trivial fun v'' h₅ tk₅ p'' e₅ => spliced_none
      ⟨X.keeps ((((k.ext e).ext e').ext e₄).ext e₅).base, hc v v' v'' _ Q E ((((k.ext e).ext e').ext e₄).ext e₅) ⟨P.st (e₄.trans e₅).toD p, P'.st e₅.toD p', p''⟩ fun r h₃ tk₃ r' e₃ => fin r h₃ tk₃ r' ((((e.trans e').trans e₄).trans e₅).trans e₃)⟩) h1'') h1') h1) h1 h3) h2

/-- a def's contract, said once: it ends with a value of which R holds, and keeps all -/
noncomputable def Ctr (prog : Program) (w : World) (A : Around) (h₀ : Heap) (t : Sem Value) (R : Value → Heap → Prop) : Prop :=
  ∀ (s : Shared) (Q : Value → Shared → Prop) (E : Value → Shared → Prop), Ext h₀ s.heap → (∀ v h' tk, R v h' → Ext s.heap h' → Q v { s with heap := h', toks := tk }) → wpAny (model prog w) A t Q E s
theorem Ctr.ev {t : Sem Value} {R : Value → Heap → Prop} {pre : Heap → Prop} (h : Ctr c.prog c.w c.A c.h₀ t R) : EvF c pre t R := fun s Q E k _ f => h s Q E k.base f

/-- a call of the text's def: its body, in a frame of its own -/
theorem ctr_fn {prog : Program} {w : World} {A : Around} {h₀ : Heap} {R : Value → Heap → Prop} {name qual : PySem.Str} {params : Arguments} {body : List Stmt} {scope : Scope} {dV kV doc pm cdv ct oc : Value} {an od : Option Addr} {osl : Array (Option Value)} {f : Addr} {pos : List Value} (binds : List (PySem.Str × Value))
    (ho : h₀.get? f = some ⟨oc, od, .func (fnOf name qual params body scope dV kV doc pm an cdv ct), osl⟩) (hcd : h₀.CodeRec cdv qual) (hlim : h₀.NoLimit) (hroom : A.depth < recursionLimit)
    (hbind : ∀ s : Shared, Ext h₀ s.heap → BindsTo s (fnOf name qual params body scope dV kV doc pm an cdv ct) ⟨pos, []⟩ binds)
    (hloc : (binds.all fun x => decide (scope.names.lookup x.1 = some .local)) = true) (hcell : (scope.names.all fun x => decide (x.2 ≠ .cell)) = true)
    (h : ∀ (hp : Heap) (gs : Array GenState) (dr : Drawn) (os : OsState) (h₁ : Heap) (tk : Nat) (Q : Flow → Shared → Prop), Ext h₀ hp → Ext hp h₁ → (Cx.mk prog w (A.deeper (envOf qual scope hp.objs.size f cdv)) hp hp.objs.size (fun y => binds.reverse.lookup y) hp []).ok h₁ →
      (∀ fl h' tk, R (match fl with | .ret v => v | _ => .none) h' → Ext hp h' → Q fl ⟨h', gs, dr, tk, os⟩) →
      wpAny (model prog w) (A.deeper (envOf qual scope hp.objs.size f cdv)) (execs body (envOf qual scope hp.objs.size f cdv)) Q (fun _ _ => False) ⟨h₁, gs, dr, tk, os⟩)
    (hco : scope.isCoroutine = false := by rfl) (hgen : scope.isGenerator = false := by rfl) (hk : scope.kind = .function := by rfl) :
    Ctr prog w A h₀ (call (.ref f) pos) R := by
  intro s Q E hx fin
  refine wpAny_call (codeAny_call_def (fd := fnOf name qual params body scope dV kV doc pm an cdv ct) (body := body) (binds := binds) hroom (hx _ _ ho) rfl (hlim.keeps hx) (hcd.keeps hx) rfl (hbind s hx)
    (fun x hx => of_decide_eq_true (List.all_eq_true.mp hcell x hx)) (locs hloc) (fun h₁ hns hk₁ => ?_) hco hgen hk)
  exact wpAny_mono (h s.heap s.gens s.drawn s.os h₁ _ (fun fl s' => Q (match fl with | .ret v => v | _ => .none) s') hx hk₁ ⟨⟨hns, hk₁, Nat.le_refl _⟩, fun b o e _ => hk₁ b o e, fun _ hp => nomatch hp⟩ fun fl h' tk r e => fin _ h' tk r e) (fun _ _ y => y) (fun _ _ y => y.elim)
end
end Mine
end
section
open PySem PySem.W PyProof.Rows PySem.Calls PySem.NumText
set_option linter.unusedVariables false
set_option maxRecDepth 100000
namespace Mine
theorem wp_text16 {M : Model} {A : Around} {E : Value → Shared → Prop} {s : Shared} {Q : Value → Shared → Prop} {v : Value} {text : List Nat} {n : Int}
    (hs : (text.takeWhile (· != 0)).length ≤ 640) (hr : (int_private% "readNumeral") 0 16 (text.takeWhile (· != 0)) = (int_private% "Numeral.value") n)
    (ha : ((text.takeWhile (· != 0)).length == text.length) = true) (h : Q (.int n s.toks) { s with toks := s.toks + 1 }) :
    wpAny M A ((int_private% "intFromText") v text 16) Q E s := by
  obtain ⟨hp, g, d, tk, os⟩ := s
  repeat (any_goals (first
    | assumption
    | (with_reducible refine wpAny_ite_true (decide_eq_true hs) ?_)
    | (with_reducible refine wpAny_ite_true (decide_eq_true ha) ?_)
    | wp_step))
  all_goals (try rw [hr])
  all_goals (try dsimp only)
  repeat (any_goals (first
    | assumption
    | (with_reducible refine wpAny_ite_true (decide_eq_true hs) ?_)
    | (with_reducible refine wpAny_ite_true (decide_eq_true ha) ?_)
    | wp_step))
theorem read16 (a b : Nat) (ha : a < 16) (hb : b < 16) : (int_private% "readNumeral") 0 16 ([dig a, dig b].takeWhile (· != 0)) = (int_private% "Numeral.value") (Int.ofNat (16 * a + b)) := by
  obtain rfl | rfl | rfl | rfl | rfl | rfl | rfl | rfl | rfl | rfl | rfl | rfl | rfl | rfl | rfl | rfl := (by omega : a = 0 ∨ a = 1 ∨ a = 2 ∨ a = 3 ∨ a = 4 ∨ a = 5 ∨ a = 6 ∨ a = 7 ∨ a = 8 ∨ a = 9 ∨ a = 10 ∨ a = 11 ∨ a = 12 ∨ a = 13 ∨ a = 14 ∨ a = 15)
  all_goals obtain rfl | rfl | rfl | rfl | rfl | rfl | rfl | rfl | rfl | rfl | rfl | rfl | rfl | rfl | rfl | rfl := (by omega : b = 0 ∨ b = 1 ∨ b = 2 ∨ b = 3 ∨ b = 4 ∨ b = 5 ∨ b = 6 ∨ b = 7 ∨ b = 8 ∨ b = 9 ∨ b = 10 ∨ b = 11 ∨ b = 12 ∨ b = 13 ∨ b = 14 ∨ b = 15)
  all_goals rfl
set_option maxHeartbeats 4000000 in
theorem gives16 {x : PySem.Str} {u u' : Tok} {n : Int} (hx : x.cps.all (· < 128) = true) (hs : (x.cps.toList.takeWhile (· != 0)).length ≤ 640) (hr : (int_private% "readNumeral") 0 16 (x.cps.toList.takeWhile (· != 0)) = (int_private% "Numeral.value") n)
    (ha : ((x.cps.toList.takeWhile (· != 0)).length == x.cps.toList.length) = true) : Gives (Builtin.«int.__new__» ⟨[.type "int", .str x u, .int 16 u'], []⟩) (.int n) :=
  .of_wp fun M A E s Q h => by
    obtain ⟨hp, g, d, tk, os⟩ := s
    have f1 := F.conv_sub_int
    have f2 := F.madeHere_int
    have f6 : typeOf (.str x u) = pure (.type "str") := rfl
    repeat (any_goals (first
      | assumption
      | ((with_reducible show wpAny _ _ ((int_private% "intFromText") _ _ _) _ _ _); refine wp_text16 hs hr ha ?_)
      | wp_step))
    rw [if_pos hx, show Int.toNat 16 = 16 from rfl, hr]
    dsimp only
    repeat (any_goals (first
      | assumption
      | (with_reducible refine wpAny_ite_true (decide_eq_true ha) ?_)
      | wp_step))
    all_goals trace_state
    all_goals first | exact ⟨_, rfl, h⟩ | skip
end Mine
end
section
open PySem PySem.W PyProof.Rows
set_option linter.unusedVariables false
set_option maxRecDepth 100000
namespace Mine
theorem args_init3 (a b d : Value) : argsOk "object.__init__" ⟨[a, b, d], []⟩ := by
  unfold argsOk; rw [signature?_of (id := "object.__init__") (n := ['_', '_', 't', 'i', 'n', 'i', '_', '_']) (o := ['t', 'c', 'e', 'j', 'b', 'o']) (by kernel_rfl) F.owner_object]; kernel_rfl
section
variable {prog : Program} {w : World} {A : Around} {E : Value → Shared → Prop} {s : Shared}
theorem call_int16 {a b : Nat} {t u : Tok} {Q : Value → Shared → Prop} (ha : a < 16) (hb : b < 16) (h : Q (.int (Int.ofNat (16 * a + b)) s.toks) { s with toks := s.toks + 1 }) :
    wpAny (model prog w) A (call (.type "int") [.str ⟨#[dig a, dig b]⟩ t, .int 16 u]) Q E s := by
  have hd : ∀ d, d < 16 → dig d ≠ 0 ∧ dig d < 128 := fun d hd => by unfold dig; split <;> omega
  have e : [dig a, dig b].takeWhile (· != 0) = [dig a, dig b] := by
    have h1 : (dig a != 0) = true := by simp [(hd a ha).1]
    have h2 : (dig b != 0) = true := by simp [(hd b hb).1]
    simp only [List.takeWhile, h1, h2]
  refine callType_new F.called_int F.newNe_int (by kernel_rfl) (by kernel_rfl) (fun obj => args_init3 obj _ _) F.entry_int_new
    (gives16 (x := ⟨#[dig a, dig b]⟩) (n := Int.ofNat (16 * a + b)) (by simp [(hd a ha).2, (hd b hb).2]) (by show ([dig a, dig b].takeWhile (· != 0)).length ≤ 640; rw [e]; show 2 ≤ 640; decide) (read16 a b ha hb) (by show (([dig a, dig b].takeWhile (· != 0)).length == [dig a, dig b].length) = true; rw [e]; rfl)).meets
    (show (Made.int _).post _ s from ⟨rfl, h⟩)
end
theorem evS_eq {c : Cx} {t : Sem Value} {x y : PySem.Str} (h : Ev c t (IsS x)) (e : x = y) : Ev c t (IsS y) := e ▸ h
theorem evI_eq {c : Cx} {t : Sem Value} {x y : Int} (h : Ev c t (IsI x)) (e : x = y) : Ev c t (IsI y) := e ▸ h
/-- what the text's top left -/
structure Gd (w : World) (h : Heap) : Prop where
  X : (KK w.params).In h
  T : ∃ p loose mg mb, TopRead p loose mg mb h
theorem Gd.ext {w : World} {h h' : Heap} (g : Gd w h) (e : Ext h h') : Gd w h' := ⟨g.X.keeps e, let ⟨p, l, a, b, t⟩ := g.T; ⟨p, l, a, b, t.keeps e⟩⟩

theorem unquote_ctr {prog : Program} {w : World} {A : Around} {h₀ : Heap} {a b : Nat} {t : Tok} (G : Gd w h₀) (hr : A.depth < recursionLimit) (ha : a < 16) (hb : b < 16) :
    Ctr prog w A h₀ (call (.ref 44) [.str ⟨#[61, dig a, dig b]⟩ t]) (IsS ⟨#[16 * a + b]⟩).p := by
  obtain ⟨p, lo, mg, mb, T₀⟩ := G.T
  refine ctr_fn [(Str.ofString "s", .str ⟨#[61, dig a, dig b]⟩ t)] (G.X 44 (x44_0 w.params) (by rfl)) (codeRec_of G.X (by rfl)) T₀.nolimit hr (fun s _ => BindsTo.of_eq (by rfl)) (by rfl) (by rfl) ?_
  intro hp gs dr os h₁ tk Q hx hx₁ k fin
  have X : (KK w.params).In hp := G.X.keeps hx
  have T := T₀.keeps hx
  refine sRet k ?_ (fun v h' tk p e => fin _ _ _ p (hx₁.trans e)) (P := IsS ⟨#[16 * a + b]⟩)
  refine callB1 (P := IsI (Int.ofNat (16 * a + b))) (bl X T (by rfl) boot_chr) ?_ ?_
  · refine callT2 (P := IsS ⟨#[dig a, dig b]⟩) (P' := IsI 16) (bl X T (by rfl) boot_int) ?_ cI ?_
    · exact evS_eq (slSS (x := ⟨#[61, dig a, dig b]⟩) (nm (P := IsS _) (v := .str ⟨#[61, dig a, dig b]⟩ t) rfl (fun _ => ⟨_, rfl⟩)) cI cI (by show 3 ≤ 16777216; decide)) (by rfl)
    · intro v v' s' Q' E' _ ⟨⟨_, e⟩, ⟨_, e'⟩⟩ f
      subst e e'
      exact call_int16 ha hb (f _ s'.heap _ ⟨_, rfl⟩ Ext.refl)
  · intro v s' Q' E' _ ⟨_, e⟩ f
    subst e
    exact chr_of_range (Int.natCast_nonneg _) (by simp only [Int.ofNat_eq_natCast]; omega) (f _ s'.heap _ ⟨_, rfl⟩ Ext.refl)
end Mine
end
section
open PySem PySem.W PyProof.Rows
set_option linter.unusedVariables false
namespace Mine
theorem isList_st {h h' : Heap} {a : Addr} {vs : Array Value} (e : ExtD h h') (x : h.IsList a vs) : h'.IsList a vs := by
  obtain ⟨o, ho, hc, n, hd⟩ := x
  exact ⟨o, e a o ho (nd_seq hd), hc, n, hd⟩
theorem isTup_st {h h' : Heap} {a : Addr} {vs : Array Value} (e : ExtD h h') (x : IsTup h a vs) : IsTup h' a vs := by
  obtain ⟨o, ho, hc, n, hd⟩ := x
  exact ⟨o, e a o ho (nd_seq hd), hc, n, hd⟩
/-- a list of these values -/
noncomputable def IsLst (vs : List Value) : VP := ⟨fun v h => ∃ a, v = .ref a ∧ h.IsList a vs.toArray, fun e ⟨a, q, x⟩ => ⟨a, q, isList_st e x⟩⟩
/-- a list of these texts -/
noncomputable def IsSs (xs : List PySem.Str) : VP := ⟨fun v h => ∃ a vs, v = .ref a ∧ h.IsList a vs.toArray ∧ StrsAre vs xs, by rintro v h h' e ⟨a, vs, q, x, y⟩; exact ⟨a, vs, q, isList_st e x, y⟩⟩
/-- a tuple of these texts -/
noncomputable def IsTs (xs : List PySem.Str) : VP := ⟨fun v h => ∃ a vs, v = .ref a ∧ IsTup h a vs.toArray ∧ StrsAre vs xs, by rintro v h h' e ⟨a, vs, q, x, y⟩; exact ⟨a, vs, q, isTup_st e x, y⟩⟩
theorem strsAre_get : ∀ {vs : List Value} {xs : List PySem.Str} {i : Nat} {x : PySem.Str}, StrsAre vs xs → xs[i]? = some x → ∃ t, vs[i]? = some (.str x t)
  | _, _, 0, _, .cons y t _, h => ⟨t, by simp at h; simp [h]⟩
  | _, _, i + 1, _, .cons y t r, h => by
    obtain ⟨t', ht⟩ := strsAre_get r (i := i) (by simpa using h)
    exact ⟨t', by simpa using ht⟩
theorem strsAre_len : ∀ {vs : List Value} {xs : List PySem.Str}, StrsAre vs xs → vs.length = xs.length
  | _, _, .nil => rfl
  | _, _, .cons _ _ r => by simp [strsAre_len r]
section
variable {c : Cx} {env : Env}
/-- a list of the text's top -/
theorem glL {x : PySem.Str} {pos : Pos} {a : Addr} {o : Obj} {vs : List Value} {n : Nat} {K : Frag} {p : Program} {loose : List PySem.Str} {mg mb : PySem.Str → Option Value} (X : K.In c.h₀) (T : TopRead p loose mg mb c.h₀) (e : nsIn K mainGlobals x = some (some (.ref a)))
    (hl : K.lookup a = some o) (hc : o.cls = .type "list") (hd : o.data = .seq vs.toArray n)
    (hg : env.globals = mainGlobals := by rfl) (hk : env.scope.kind = .function := by rfl) (hx : env.kindOf x = some .globalImplicit := by rfl) (hdb : (x == ("__debug__" : PySem.Str)) = false := by decide) :
    Ev c (eval (.Name x pos) env) (IsLst vs) :=
  fun s _ _ k _ f => Calls.Name_function_global hk hx (Calls.loadGlobal_global (hg ▸ T.g.keeps k.base) (mg_of X T.g e) (f _ s.heap s.toks ⟨a, rfl, o, k.base _ _ (X a o hl), hc, n, hd⟩ Ext.refl)) hdb
theorem itL {value slice : Expr} {pos : Pos} {vs : List Value} {i : Int} {v : Value} (hv : Ev c (eval value env) (IsLst vs)) (hs : Ev c (eval slice env) (IsI i)) (h0 : 0 ≤ i) (h1 : i < 2 ^ 63) (hx : vs[i.toNat]? = some v)
    (hq : ∀ a u, subscripted slice false (Value.ref a) (Value.int i u) = operate [Value.ref a, Value.int i u] (getItem (Value.ref a) (Value.int i u)) := by intros; rfl)
    (ht : ∀ a r, letTemporaryGo value (Value.ref a) r = pure () := by intros; rfl) : Ev c (eval (.Subscript value slice pos) env) (IsV v) :=
  subs hv hs fun _ _ s _ _ _ ⟨⟨a, e, l⟩, ⟨_, e'⟩⟩ f => by
    subst e e'
    exact tail_any l.typeIs slot_list_getitem.lookup (wpAny_getItem_list l h0 h1 (by simpa using hx) (f _ s.heap s.toks rfl Ext.refl)) (hq _ _)
theorem itSs {value slice : Expr} {pos : Pos} {xs : List PySem.Str} {i : Int} {x : PySem.Str} (hv : Ev c (eval value env) (IsSs xs)) (hs : Ev c (eval slice env) (IsI i)) (h0 : 0 ≤ i) (h1 : i < 2 ^ 63) (hx : xs[i.toNat]? = some x)
    (hq : ∀ a u, subscripted slice false (Value.ref a) (Value.int i u) = operate [Value.ref a, Value.int i u] (getItem (Value.ref a) (Value.int i u)) := by intros; rfl) : Ev c (eval (.Subscript value slice pos) env) (IsS x) :=
  subs hv hs fun _ _ s _ _ _ ⟨⟨a, vs, e, l, ss⟩, ⟨_, e'⟩⟩ f => by
    subst e e'
    obtain ⟨t, hv⟩ := strsAre_get ss hx
    exact tail_any l.typeIs slot_list_getitem.lookup (wpAny_getItem_list l h0 h1 (by simpa using hv) (f _ s.heap s.toks ⟨t, rfl⟩ Ext.refl)) (hq _ _)
/-- the items of a display -/
noncomputable abbrev Sp (c : Cx) (pos : Pos) (es : List Expr) (env : Env) (xs : List PySem.Str) : Prop := EvF c (fun _ => True) (spliced (backTo pos (starEach es env))) (fun vs _ => StrsAre vs xs)
theorem sp0 {pos : Pos} : Sp c pos [] env [] := fun s _ _ _ _ f => spliced_none (f _ s.heap s.toks .nil Ext.refl)
theorem sp1 {pos : Pos} {e : Expr} {es : List Expr} {x : PySem.Str} {xs : List PySem.Str} (he : Ev c (eval e env) (IsS x)) (hr : Sp c pos es env xs) (h1 : starEach (e :: es) env = (false, eval e env) :: starEach es env := by rfl) : Sp c pos (e :: es) env (x :: xs) :=
  fun s Q E k _ f => spliced_more (he s _ E k trivial fun v h' tk ⟨t, q⟩ e => hr _ _ E (k.ext e) trivial fun vs h'' tk' r e' => f _ h'' tk' (q ▸ .cons x t r) (e.trans e')) h1
theorem lsS {pos : Pos} {es : List Expr} {xs : List PySem.Str} (h : Sp c pos es env xs) (hn : xs.length ≤ sizeLine) : Ev c (eval (.List es pos) env) (IsSs xs) :=
  fun s Q E k _ f => List_ (h s _ E k trivial fun vs h' tk r e => wpAny_newObj_type (f _ _ tk ⟨_, vs, rfl, ⟨_, Heap.get?_push_size _ rfl, rfl, 0, rfl⟩, r⟩ (e.trans (Ext.push _))) (by show vs.toArray.size ≤ sizeLine; rw [List.size_toArray, strsAre_len r]; exact hn))
theorem tpS {pos : Pos} {n : Nat} {es : List Expr} {xs : List PySem.Str} (h : Sp c pos es env xs) (hn : xs.length ≤ sizeLine) : Ev c (eval (.Tuple es n pos) env) (IsTs xs) :=
  fun s Q E k _ f => Tuple_ (h s _ E k trivial fun vs h' tk r e => wpAny_newObj_type (f _ _ tk ⟨_, vs, rfl, ⟨_, Heap.get?_push_size _ rfl, rfl, 0, rfl⟩, r⟩ (e.trans (Ext.push _))) (by show vs.toArray.size ≤ sizeLine; rw [List.size_toArray, strsAre_len r]; exact hn))
/-- a text among a tuple's -/
theorem inTs {l r : Expr} {pos : Pos} {whole : Sem Value} {x : PySem.Str} {ys : List PySem.Str} (hl : Ev c (eval l env) (IsS x)) (hr : Ev c (eval r env) (IsTs ys)) (hm : behindInMarks .In r = false := by rfl) : Tst c (PySem.isTrue (.Compare l [.In] [r] pos) env whole) (ys.any (· == x)) :=
  cmp hl hr (fun _ _ s _ _ _ ⟨⟨_, e⟩, ⟨a, vs, e', ht, ss⟩⟩ f => by subst e e'; exact in_tuple_strs ht (by simpa using ss) (f _ s.heap s.toks rfl Ext.refl)) hm
theorem lenS {f e : Expr} {pos : Pos} {x : PySem.Str} (hf : Ev c (eval f env) (IsV (.builtin "len"))) (he : Ev c (eval e env) (IsS x)) (hx : x.length ≤ sizeLine) (h1 : starEach [e] env = (false, eval e env) :: starEach [] env := by rfl)
    (h2 : eval (.Call f [e] [] pos) env = (do let fv ← eval f env; callWith pos fv [] (backTo pos (starEach [e] env)) (backToKw pos (keywordEach [] env))) := by rfl) : Ev c (eval (.Call f [e] [] pos) env) (IsI x.length) :=
  callB1 hf he (fun v s Q E _ ⟨_, q⟩ f => by
    subst q
    exact len_str (by have : sizeLine = 16777216 := rfl; omega) (f _ s.heap _ ⟨_, rfl⟩ Ext.refl)) h1 h2

/-! a for over a list -/
variable {hh : Heap} {gs : Array GenState} {dr : Drawn} {tk₀ : Nat} {os : OsState} {Q : Flow → Shared → Prop} {E : Value → Shared → Prop}
theorem sForL {x : PySem.Str} {px pos : Pos} {iter : Expr} {body rest : List Stmt} {R : List Value → Prop} (J : Nat → (PySem.Str → Option Value) → List (Addr × Obj) → Prop) (k : c.ok hh) (hA : c.A.handled = none) (hit : ∀ g, EvF c (fun h => h = g) (eval iter env) (fun v h => ∃ a vs, v = .ref a ∧ h.IsList a vs.toArray ∧ R vs ∧ (c.mu = [] ∨ g.get? a = none))) (h0 : J 0 c.m c.mu)
    (turn : ∀ vs i v m₁ mu₁ g h tk, R vs → vs[i]? = some v → J i m₁ mu₁ → ExtD c.g g → ({ c with m := upd m₁ x v, mu := mu₁, g := g } : Cx).ok h →
      wpAny (model c.prog c.w) c.A (execs body env) (fun f s₃ => match f with
        | .next | .cont => ∃ h' tk' m₂ mu₂, s₃ = ⟨h', gs, dr, tk', os⟩ ∧ ({ c with m := m₂, mu := mu₂, g := g } : Cx).ok h' ∧ mu₂.map (·.1) = mu₁.map (·.1) ∧ J (i + 1) m₂ mu₂
        | .brk => False
        | .ret v => False) (fun _ _ => False) ⟨h, gs, dr, tk, os⟩)
    (done : ∀ vs m₁ mu₁ h tk, R vs → J vs.length m₁ mu₁ → (c.atM m₁ mu₁).ok h → wpAny (model c.prog c.w) c.A (execs rest env) Q E ⟨h, gs, dr, tk, os⟩)
    (hL : env.locals = c.L := by rfl) (hl : env.kindOf x = some .local := by rfl) (hp : (env.scope.kind == .class || (env.scope.kind == .module && env.locals != env.globals)) = false := by rfl) (hs : ∀ x, foldedSetIterable iter env x = pure x := by intro _; rfl) :
    wpAny (model c.prog c.w) c.A (execs (.For (.Name x px) iter body [] pos :: rest) env) Q E ⟨hh, gs, dr, tk₀, os⟩ := by
  refine wpAny_execs_cons (wpAny_For (hit hh _ _ E k rfl fun v h₁ tk₁ ⟨l, vs, q, il, hR, hfr⟩ e₁ => ?_) hs)
  subst q
  refine wpAny_pyIter_list il ?_
  have k₁ := k.ext e₁
  have e₂ : Ext h₁ (h₁.push { cls := .type "list_iterator", data := .fields #[.ref l, .int 0 0] }) := Ext.push _
  have k₂ := k₁.ext e₂
  dsimp only
  generalize hI : h₁.objs.size = I
  have itI : (h₁.push { cls := .type "list_iterator", data := .fields #[.ref l, .int 0 0] }).IsListIter I l 0 := hI ▸ ⟨_, Heap.get?_push_size _ rfl, rfl, rfl⟩
  have hlI : l ≠ I := by obtain ⟨o, ho, _⟩ := il; exact hI ▸ Nat.ne_of_lt (Heap.lt_size ho)
  have hmI : ∀ p ∈ c.mu, p.1 ≠ I := fun p hp => hI ▸ Nat.ne_of_lt (Heap.lt_size (k₁.own p hp).1)
  have hml : ∀ p ∈ c.mu, p.1 ≠ l := fun p hp z => by
    rcases hfr with hfr | hfr
    · rw [hfr] at hp; cases hp
    · have := (k.own p hp).1
      rw [z, hfr] at this; cases this
  have hgI : ∀ o, c.g.get? I = some o → ¬ nd o := fun o z1 z2 => absurd (Heap.lt_size (k₁.back _ _ z1 z2)) (by rw [hI]; exact Nat.lt_irrefl _)
  have hLI : c.L ≠ I := hI ▸ Nat.ne_of_lt k₁.fr.ns.lt
  have h0I : ∀ o, c.h₀.get? I ≠ some o := fun o z => absurd (Heap.lt_size (k₁.base _ _ z)) (by rw [hI]; exact Nat.lt_irrefl _)
  have il₂ := isList_st e₂.toD il
  generalize h₁.push { cls := .type "list_iterator", data := .fields #[.ref l, .int 0 0] } = H at k₂ itI il₂
  refine codeAny_forLoop (fun n s' => ∃ h tk m₁ mu₁ i, s' = ⟨h, gs, dr, tk, os⟩ ∧ h.IsListIter I l i ∧ h.IsList l vs.toArray ∧ (c.atM m₁ mu₁).ok h ∧ mu₁.map (·.1) = c.mu.map (·.1) ∧ J i m₁ mu₁ ∧ i ≤ vs.length ∧ n = vs.length + 1 - i) ?_ (vs.length + 1)
    ⟨H, tk₁, c.m, c.mu, 0, rfl, itI, il₂, k₂, rfl, h0, Nat.zero_le _, rfl⟩
  rintro n s' ⟨h, tk, m₁, mu₁, i, rfl, it, lst, k₃, ha, hJ, hi, rfl⟩
  have inMu : ∀ (Pr : Addr → Prop), (∀ p ∈ c.mu, Pr p.1) → ∀ p ∈ mu₁, Pr p.1 := fun Pr hP p hp => by
    have : p.1 ∈ c.mu.map (·.1) := ha ▸ List.mem_map.mpr ⟨p, hp, rfl⟩
    obtain ⟨q, hq, z⟩ := List.mem_map.mp this
    exact z ▸ hP q hq
  have okBut : ∀ h', Heap.ExtBut I h h' → (c.atM m₁ mu₁).ok h' := fun h' hs' =>
    ⟨⟨k₃.fr.ns.at' fun o e => hs' _ o hLI e, fun b o e => hs' b o (fun z => h0I o (z ▸ e)) (k₃.fr.keep b o e), k₃.fr.above⟩, fun b o e z => hs' b o (fun y => hgI o (y ▸ e) z) (k₃.back b o e z),
      fun p hp => ⟨hs' _ _ (inMu (· ≠ I) hmI p hp) (k₃.own p hp).1, (k₃.own p hp).2⟩⟩
  by_cases hlt : i < vs.length
  · refine wpAny_pyNext_list_item it lst (x := vs[i]) (by simp [hlt]) fun h' it' hs' => ?_
    dsimp only
    have k₄ := okBut h' hs'.extBut
    have lst' : h'.IsList l vs.toArray := lst.extBut hs'.extBut hlI
    refine wpAny_assign_Name (st1 (c := c.atM m₁ mu₁) k₄ (fun h'' tk'' d k₅ => ?_) hL hl hp)
    have nI : I ∉ mu₁.map (·.1) := fun z => by obtain ⟨p, hp, e⟩ := List.mem_map.mp z; exact inMu (· ≠ I) hmI p hp e
    have nl : l ∉ mu₁.map (·.1) := fun z => by obtain ⟨p, hp, e⟩ := List.mem_map.mp z; exact inMu (· ≠ l) hml p hp e
    have eg : ExtD c.g (hideAll h'' (mu₁.map (·.1))) := fun b o e z => hideAll_get _ (k₅.back b o e z) fun y => by
      obtain ⟨p, hp, e'⟩ := List.mem_map.mp y
      exact (k₅.own p hp).2.2.2 o (e' ▸ e) z
    refine wpAny_mono (turn vs i vs[i] m₁ mu₁ (hideAll h'' (mu₁.map (·.1))) h'' tk'' hR (by simp [hlt]) hJ eg ⟨k₅.fr, fun b o e _ => of_hideAll _ e, fun p hp => ⟨(k₅.own p hp).1, (k₅.own p hp).2.1, (k₅.own p hp).2.2.1, .none (hideAll_none _ (List.mem_map_of_mem hp))⟩⟩) (fun f s₃ h₃ => ?_) fun _ _ e => e.elim
    have fin : (∃ h₄ tk' m₂ mu₂, s₃ = ⟨h₄, gs, dr, tk', os⟩ ∧ ({ c with m := m₂, mu := mu₂, g := hideAll h'' (mu₁.map (·.1)) } : Cx).ok h₄ ∧ mu₂.map (·.1) = mu₁.map (·.1) ∧ J (i + 1) m₂ mu₂) →
        ∃ n', n' < vs.length + 1 - i ∧ ∃ h tk m₁ mu₁ i, s₃ = ⟨h, gs, dr, tk, os⟩ ∧ h.IsListIter I l i ∧ h.IsList l vs.toArray ∧ (c.atM m₁ mu₁).ok h ∧ mu₁.map (·.1) = c.mu.map (·.1) ∧ J i m₁ mu₁ ∧ i ≤ vs.length ∧ n' = vs.length + 1 - i := by
      rintro ⟨h₄, tk', m₂, mu₂, rfl, k₆, ha', hJ'⟩
      refine ⟨vs.length + 1 - (i + 1), by omega, h₄, tk', m₂, mu₂, i + 1, rfl, ?_, ?_, ⟨k₆.fr, eg.trans k₆.back, fun p hp => ⟨(k₆.own p hp).1, (k₆.own p hp).2.1, (k₆.own p hp).2.2.1, ?_⟩⟩, ha'.trans ha, hJ', hlt, rfl⟩
      · obtain ⟨o, ho, hc, hd⟩ := it'
        have ndo : nd o := nd_fields hd
        exact ⟨o, k₆.back I o (hideAll_get _ (d I o ho ndo) nI) ndo, hc, hd⟩
      · obtain ⟨o, ho, hc, m, hd⟩ := lst'
        have ndo : nd o := nd_seq hd
        exact ⟨o, k₆.back l o (hideAll_get _ (d l o ho ndo) nl) ndo, hc, m, hd⟩
      · have : p.1 ∈ mu₁.map (·.1) := ha' ▸ List.mem_map.mpr ⟨p, hp, rfl⟩
        obtain ⟨q, hq, z⟩ := List.mem_map.mp this
        exact z ▸ (k₅.own q hq).2.2.2
    cases f with
    | next => exact fin h₃
    | cont => exact fin h₃
    | brk => exact h₃.elim
    | ret v => exact h₃.elim
  · have hin : i = vs.length := by omega
    subst hin
    refine wpAny_pyNext_list_end hA it lst (by simp) fun h' he' => wpAny_execs_nil ?_
    exact done vs m₁ mu₁ h' _ hR hJ (okBut h' he')
end
end Mine
end
section
open PySem PySem.W PyProof.Rows
set_option linter.unusedVariables false
namespace Mine
section
variable {c : Cx} {env : Env}
/-- a text's method without arguments -/
theorem meth0 {o : Expr} {name : PySem.Str} {apos pos : Pos} {id : String} {x : PySem.Str} {R : Value → Heap → Prop} (ho : Ev c (eval o env) (IsS x)) (slot : Slot "str" name id) (ty : typeOf (.builtin id) = pure (.type "method_descriptor"))
    (hc : ∀ t, EvF c (fun _ => True) (call (.builtin id) [.str x t]) R) (hbase : attributeBase o name env (eval o env) = eval o env := by rfl) (hline : (apos.endLine == pos.line) = true := by rfl) :
    EvF c (fun _ => True) (eval (.Call (.Attribute o name apos) [] [] pos) env) R :=
  fun s Q E k _ f => Call_method0 hbase hline (ho s _ E k trivial fun v h' tk ⟨t, q⟩ e => by
    subst q
    exact ⟨"str", id, F.plainAttrs_str, slot, ty, typeIs_str _ _ _, (fun _ e => nomatch e), callWith_method0 (env := env) (hc t _ Q E (k.ext e) trivial fun r h₃ tk₃ r' e₃ => f r h₃ tk₃ r' (e.trans e₃))⟩)
theorem meth1 {o a : Expr} {name : PySem.Str} {apos pos : Pos} {id : String} {x : PySem.Str} {P : VP} {R : Value → Heap → Prop} (ho : Ev c (eval o env) (IsS x)) (ha : Ev c (eval a env) P) (slot : Slot "str" name id) (ty : typeOf (.builtin id) = pure (.type "method_descriptor"))
    (hc : ∀ t v, EvF c (P.p v) (call (.builtin id) [.str x t, v]) R) (hbase : attributeBase o name env (eval o env) = eval o env := by rfl) (hs : starEach [a] env = [(false, eval a env)] := by rfl) (hline : (apos.endLine == pos.line) = true := by rfl) :
    EvF c (fun _ => True) (eval (.Call (.Attribute o name apos) [a] [] pos) env) R :=
  fun s Q E k _ f => Call_method1 hbase hs hline (ho s _ E k trivial fun v h' tk ⟨t, q⟩ e => by
    subst q
    refine ⟨"str", id, F.plainAttrs_str, slot, ty, typeIs_str _ _ _, (fun _ e => nomatch e), Calls.callWith_builtin rfl (Calls.evalArgs_plain (Calls.spliced_cons (ha _ _ E (k.ext e) trivial fun v' h'' tk' p e' => Calls.spliced_nil ?_)))⟩
    exact hc t v' _ Q E ((k.ext e).ext e') p fun r h₃ tk₃ r' e₃ => f r h₃ tk₃ r' ((e.trans e').trans e₃))
theorem mRstrip {o : Expr} {apos pos : Pos} {x : PySem.Str} (ho : Ev c (eval o env) (IsS x)) (hx : x.length ≤ sizeLine) (hbase : attributeBase o "rstrip" env (eval o env) = eval o env := by rfl) (hline : (apos.endLine == pos.line) = true := by rfl) :
    Ev c (eval (.Call (.Attribute o "rstrip" apos) [] [] pos) env) (IsS (Txt.rstrip x)) :=
  meth0 ho F.slot_str_rstrip F.type_str_rstrip (fun t s Q E k _ f => SC.rstrip (fun t' k' => f _ s.heap k' ⟨t', rfl⟩ Ext.refl) hx) hbase hline
theorem strs_values (l : List (PySem.Str × Tok)) : StrsAre (strValues l) (l.map (·.1)) := strsAre_of_values l
theorem meth0g {o : Expr} {name : PySem.Str} {apos pos : Pos} {id : String} {x : PySem.Str} {g : Heap} {R : Value → Heap → Prop} (ho : Ev c (eval o env) (IsS x)) (slot : Slot "str" name id) (ty : typeOf (.builtin id) = pure (.type "method_descriptor"))
    (hc : ∀ t, EvF c (fun h => Ext g h) (call (.builtin id) [.str x t]) R) (hbase : attributeBase o name env (eval o env) = eval o env := by rfl) (hline : (apos.endLine == pos.line) = true := by rfl) :
    EvF c (fun h => h = g) (eval (.Call (.Attribute o name apos) [] [] pos) env) R :=
  fun s Q E k hg f => Call_method0 hbase hline (ho s _ E k trivial fun v h' tk ⟨t, q⟩ e => by
    subst q
    exact ⟨"str", id, F.plainAttrs_str, slot, ty, typeIs_str _ _ _, (fun _ e => nomatch e), callWith_method0 (env := env) (hc t _ Q E (k.ext e) (hg ▸ e) fun r h₃ tk₃ r' e₃ => f r h₃ tk₃ r' (e.trans e₃))⟩)
theorem fresh_of {g h : Heap} (e : Ext g h) : g.get? h.objs.size = none := by
  cases z : g.get? h.objs.size with
  | none => rfl
  | some o => exact absurd (Heap.lt_size (e _ _ z)) (Nat.lt_irrefl _)
/-- the lines of a text, a new list -/
theorem mLines {o : Expr} {apos pos : Pos} {x : PySem.Str} (ho : Ev c (eval o env) (IsS x)) (hx : x.length + 2 ≤ sizeLine) (hbase : attributeBase o "splitlines" env (eval o env) = eval o env := by rfl) (hline : (apos.endLine == pos.line) = true := by rfl) (g : Heap) :
    EvF c (fun h => h = g) (eval (.Call (.Attribute o "splitlines" apos) [] [] pos) env) (fun v h => ∃ a vs, v = .ref a ∧ h.IsList a vs.toArray ∧ StrsAre vs (Txt.lines x) ∧ g.get? a = none) := by
  refine meth0g ho F.slot_str_splitlines F.type_str_splitlines (fun t s Q E k e f => ?_) hbase hline
  refine call_meets F.slot_str_splitlines (typeIs_str _ _ _) F.entry_str_splitlines (F.args_str_splitlines_1 _) (meets_str_splitlines x t (by omega) (by have e := lineCuts_le x; omega)) ?_
  cases hw : lineCuts x == [(0, x.length)]
  · simp only [Bool.false_eq_true, if_false]
    rw [strsFrom_eq]
    have hl : (numbered s.toks (linesOf x)).map (·.1) = Txt.lines x := (numbered_texts _ _).trans (if_neg (ne_true_of_eq_false hw)).symm
    exact f _ _ _ ⟨_, _, rfl, ⟨_, Heap.get?_push_size _ rfl, rfl, 0, rfl⟩, hl ▸ strsAre_of_values _, fresh_of e⟩ (Ext.push _)
  · simp only [if_true]
    have hl : [(x, t)].map (·.1) = Txt.lines x := (if_pos hw).symm
    exact f _ _ s.toks ⟨_, _, rfl, ⟨_, Heap.get?_push_size _ rfl, rfl, 0, rfl⟩, hl ▸ strsAre_of_values [(x, t)], fresh_of e⟩ (Ext.push _)
theorem mEnds {o a : Expr} {apos pos : Pos} {x y : PySem.Str} {whole : Sem Value} (ho : Ev c (eval o env) (IsS x)) (ha : Ev c (eval a env) (IsS y)) (hbase : attributeBase o "endswith" env (eval o env) = eval o env := by rfl) (hs : starEach [a] env = [(false, eval a env)] := by rfl) (hline : (apos.endLine == pos.line) = true := by rfl) :
    Ev c (eval (.Call (.Attribute o "endswith" apos) [a] [] pos) env) (IsB (Txt.endswith x y)) :=
  meth1 ho ha F.slot_str_endswith F.type_str_endswith (fun t v s Q E k ⟨_, q⟩ f => by subst q; exact SC.endswith (f _ s.heap s.toks rfl Ext.refl)) hbase hs hline
theorem mJoin {o a : Expr} {apos pos : Pos} {x : PySem.Str} {ys : List PySem.Str} (ho : Ev c (eval o env) (IsS x)) (ha : Ev c (eval a env) (IsSs ys)) (hok : (ys.map (·.length)).sum + ys.length * x.length ≤ 16777216) (hbase : attributeBase o "join" env (eval o env) = eval o env := by rfl) (hs : starEach [a] env = [(false, eval a env)] := by rfl) (hline : (apos.endLine == pos.line) = true := by rfl) :
    Ev c (eval (.Call (.Attribute o "join" apos) [a] [] pos) env) (IsS (Txt.join x ys)) :=
  meth1 ho ha F.slot_str_join F.type_str_join (fun t v s Q E k ⟨a, vs, q, l, ss⟩ f => by subst q; exact join_list l (by simpa using ss) hok (fun t' k' => f _ s.heap k' ⟨t', rfl⟩ Ext.refl)) hbase hs hline
end
end Mine
end
section
open PySem PySem.W PyProof.Rows
set_option linter.unusedVariables false
namespace Mine
open PySem.Builtin.Str PySem.StrLaws
/-- a text of these signs -/
noncomputable def S (l : List Nat) : PySem.Str := ⟨l.toArray⟩
theorem S_add (a b : List Nat) : S a ++ S b = S (a ++ b) := Str.ext' (by simp [S, Str.cps_append])
theorem S_len (l : List Nat) : (S l).length = l.length := by simp [S, Str.length]
theorem S_list (l : List Nat) : (S l).cps.toList = l := by simp [S]
theorem S_inj {a b : List Nat} : S a = S b ↔ a = b := ⟨fun h => by have := congrArg (fun x : PySem.Str => x.cps.toList) h; simpa [S] using this, fun h => h ▸ rfl⟩
theorem S_beq (a b : List Nat) : (S a == S b) = (a == b) := by
  by_cases h : a = b
  · subst h; simp
  · have h1 : (S a == S b) = false := by simpa using fun e => h (S_inj.mp e)
    have h2 : (a == b) = false := by simpa using h
    rw [h1, h2]
theorem S_cps (x : PySem.Str) : S x.cps.toList = x := Str.ext' (by simp [S])
theorem item_S {l : List Nat} {i : Nat} {c : Nat} (h : l[i]? = some c) : Txt.item (S l) (i : Int) = S [c] := by
  unfold Txt.item Txt.charAt
  rw [StrLaws.at_nonneg (n := c) (Int.natCast_nonneg _) (by simpa [S] using h)]
  rfl
theorem item_last {l : List Nat} {c : Nat} (h : l.getLast? = some c) : Txt.item (S l) (-1) = S [c] := by
  have hl : l ≠ [] := fun e => by subst e; cases h
  have hp : 0 < l.length := List.length_pos_iff.mpr hl
  unfold Txt.item Txt.charAt
  rw [StrLaws.at_neg (n := c) (by decide) (by rw [S_len]; omega) (by
    rw [S_len, show ((-1 : Int) + (l.length : Int)).toNat = l.length - 1 by omega]
    rw [List.getLast?_eq_getElem?] at h
    simpa [S] using h)]
  rfl
theorem slice_S {l : List Nat} {a b : Nat} (hab : a ≤ b) (hb : b ≤ l.length) : Txt.slice (S l) (some (a : Int)) (some (b : Int)) = S ((l.drop a).take (b - a)) := by
  have := StrLaws.sliceText_plain (x := S l) (i := a) (j := b) ⟨by omega, by omega, by rw [S_list]; omega⟩
  rw [S_list] at this
  refine Eq.trans this ?_
  show S _ = S _
  congr 2 <;> omega
theorem slice_from {l : List Nat} {a : Nat} (ha : a ≤ l.length) : Txt.slice (S l) (some (a : Int)) none = S (l.drop a) := by
  have := StrLaws.sliceIdx_none_hi (some (a : Int)) (S l).length
  have e : Txt.slice (S l) (some (a : Int)) none = Txt.slice (S l) (some (a : Int)) (some ((S l).length : Int)) := by unfold Txt.slice; rw [this]
  rw [e, S_len, slice_S ha (Nat.le_refl _), List.take_of_length_le (by simp)]
theorem slice_to {l : List Nat} {b : Nat} : Txt.slice (S l) none (some (b : Int)) = S (l.take b) := by
  have e : Txt.slice (S l) none (some (b : Int)) = Txt.slice (S l) (some ((0 : Nat) : Int)) (some ((min b l.length : Nat) : Int)) := by
    have h : strSliceIndices none (some (b : Int)) 1 (S l).length = strSliceIndices (some ((0 : Nat) : Int)) (some ((min b l.length : Nat) : Int)) 1 (S l).length := by
      rw [StrLaws.sliceIdx_none_lo, S_len]
      have h1 : ¬ ((b : Int) < 0) := by omega
      have h2 : ¬ (((min b l.length : Nat) : Int) < 0) := by omega
      have h3 : max (0 : Int) (min (b : Int) (l.length : Int)) = max 0 (min ((min b l.length : Nat) : Int) (l.length : Int)) := by omega
      simp only [strSliceIndices, h1, h2, if_false, h3, Int.natCast_zero, show ((1 : Int) > 0) = True from by simp, if_true]
    unfold Txt.slice; rw [h]
  rw [e, slice_S (Nat.zero_le _) (Nat.min_le_right _ _), Nat.sub_zero, List.drop_zero]
  congr 1
  rw [List.take_eq_take_iff]; omega
/-- up to the last but one -/
theorem slice_butlast {l : List Nat} {a : Nat} (ha : a + 1 ≤ l.length) : Txt.slice (S l) (some (a : Int)) (some (-1)) = S ((l.drop a).dropLast) := by
  have e : Txt.slice (S l) (some (a : Int)) (some (-1)) = Txt.slice (S l) (some (a : Int)) (some ((l.length - 1 : Nat) : Int)) := by
    have := StrLaws.sliceText_neg_hi (S l) (some (a : Int)) (j := -1) (by decide) (by rw [S_len]; omega)
    rw [S_len, show (-1 : Int) + (l.length : Int) = ((l.length - 1 : Nat) : Int) by omega] at this
    exact this
  rw [e, slice_S (by omega) (by omega)]
  congr 1
  rw [List.dropLast_eq_take, List.length_drop]; congr 1; omega
theorem slice_tail1 (l : List Nat) : Txt.slice (S l) (some (-1)) none = S (l.drop (l.length - 1)) := by
  cases hl : l with
  | nil => rfl
  | cons y ys =>
    rw [← hl]
    have hp : 0 < l.length := by rw [hl]; simp
    have e : Txt.slice (S l) (some (-1)) none = Txt.slice (S l) (some ((l.length - 1 : Nat) : Int)) none := by
      have := StrLaws.sliceText_neg_lo (S l) none (i := -1) (by decide) (by rw [S_len]; omega)
      rw [S_len, show (-1 : Int) + (l.length : Int) = ((l.length - 1 : Nat) : Int) by omega] at this
      exact this
    rw [e, slice_from (by omega)]
theorem contains_S {l : List Nat} {c : Nat} : Txt.contains (S l) (S [c]) = decide (c ∈ l) := by
  have := StrLaws.found_one (S l) c
  rw [S_list] at this
  exact this
theorem sub_S (l : List Nat) (i j : Nat) : strSub (S l) i j = S ((l.drop i).take (j - i)) := by
  rw [← S_cps (strSub (S l) i j), StrLaws.strSub_toList, S_list]
theorem join_S (sep : List Nat) (ls : List (List Nat)) : Txt.join (S sep) (ls.map S) = S (List.intercalate sep ls) := by
    show glued _ _ = _
    rw [StrLaws.glued_eq_join]
    induction ls with
    | nil => rfl
    | cons x r ih =>
      cases r with
      | nil => simp [Str.join, List.intercalate]
      | cons y r' =>
        simp only [List.map_cons] at ih ⊢
        show S x ++ S sep ++ Str.join (S sep) (S y :: r'.map S) = _
        rw [ih, S_add, S_add]
        congr 1
        simp [List.intercalate, List.intersperse]
theorem join_empty (ls : List (List Nat)) : Txt.join (S []) (ls.map S) = S ls.flatten := by
  rw [join_S]; congr 1
  induction ls with
  | nil => rfl
  | cons x r ih => cases r with
    | nil => simp [List.intercalate]
    | cons y r' => simp [List.intercalate, List.intersperse] at ih ⊢; exact ih

/-! lines -/
theorem lines_eq (x : PySem.Str) : Txt.lines x = linesOf x := by
  unfold Txt.lines
  split
  · next h =>
    have h' : lineCuts x = [(0, x.length)] := by simpa using h
    unfold linesOf
    rw [h']
    show [x] = [strSub x 0 x.length]
    rw [← S_cps x, sub_S, S_len, List.drop_zero, Nat.sub_zero, List.take_length]
  · rfl
theorem ls_skip (s : PySem.Str) (acc : Array (Nat × Nat × Nat)) (st : Nat) : ∀ (m cur : Nat), (∀ i, cur ≤ i → i < cur + m → st ≤ i → Unicode.isLineBreak (s.cps.getD i 0) = false) →
    Id.run (forIn (m := Id) (List.range' cur m) ((acc, st) : LsSt) (lsBody s)) = (acc, st)
  | 0, cur, _ => rfl
  | m + 1, cur, h => by
    rw [List.range'_succ, List.forIn_cons]
    have hb : (decide (st ≤ cur) && Unicode.isLineBreak (s.cps.getD cur 0)) = false := by
      by_cases hs : st ≤ cur
      · rw [h cur (Nat.le_refl _) (by omega) hs]; simp
      · simp [hs]
    have hbody : lsBody s cur (acc, st) = pure (ForInStep.yield ((acc, st) : LsSt)) := by
      unfold lsBody; simp only [hb]; rfl
    rw [hbody]
    exact ls_skip s acc st m (cur + 1) fun i a b c => h i (by omega) (by omega) c
theorem ls_cat (s : PySem.Str) (a b : List Nat) (st : LsSt) : Id.run (forIn (m := Id) (a ++ b) st (lsBody s)) = Id.run (forIn (m := Id) b (Id.run (forIn (m := Id) a st (lsBody s))) (lsBody s)) := by
  induction a generalizing st with
  | nil => rfl
  | cons x r ih =>
    rw [List.cons_append, List.forIn_cons, List.forIn_cons]
    unfold lsBody
    split
    · exact ih _
    · exact ih _
/-- the ends of lines that are meant -/
noncomputable def Eol (e : List Nat) : Prop := e = [10] ∨ e = [13, 10]
noncomputable def spans (w : Nat) : Nat → List (List Nat) → List (Nat × Nat × Nat)
  | _, [] => []
  | a, l :: r => (a, a + l.length, a + l.length + w) :: spans w (a + l.length + w) r
theorem getD_S (l : List Nat) (i : Nat) : (S l).cps.getD i 0 = l.getD i 0 := by simp [S]
theorem lb10 : Unicode.isLineBreak 10 = true := by decide +kernel
theorem lb13 : Unicode.isLineBreak 13 = true := by decide +kernel
theorem ls_lines {e : List Nat} (he : Eol e) : ∀ (ls : List (List Nat)) (pre : List Nat) (acc : Array (Nat × Nat × Nat)), (∀ l ∈ ls, ∀ c ∈ l, Unicode.isLineBreak c = false) →
    Id.run (forIn (m := Id) (List.range' pre.length (ls.flatMap (· ++ e)).length) ((acc, pre.length) : LsSt) (lsBody (S (pre ++ ls.flatMap (· ++ e))))) = (acc ++ (spans e.length pre.length ls).toArray, pre.length + (ls.flatMap (· ++ e)).length)
  | [], pre, acc, _ => by simp [spans]
  | l :: r, pre, acc, h => by
    have hl : ∀ c ∈ l, Unicode.isLineBreak c = false := h l (by simp)
    have ih := ls_lines he r (pre ++ l ++ e) (acc.push (pre.length, pre.length + l.length, pre.length + l.length + e.length)) fun l' h' => h l' (by simp [h'])
    have htxt : pre ++ (l :: r).flatMap (· ++ e) = pre ++ l ++ e ++ r.flatMap (· ++ e) := by simp
    have hlen : ((l :: r).flatMap (· ++ e)).length = l.length + (e.length + (r.flatMap (· ++ e)).length) := by simp only [List.flatMap_cons, List.length_append]; omega
    rw [htxt, hlen]
    have hsplit : List.range' pre.length (l.length + (e.length + (r.flatMap (· ++ e)).length)) = List.range' pre.length l.length ++ (List.range' (pre.length + l.length) e.length ++ List.range' (pre.length + l.length + e.length) (r.flatMap (· ++ e)).length) := by
      rw [List.range'_append_1, List.range'_append_1]
    rw [hsplit, ls_cat, ls_cat, ls_skip _ acc pre.length l.length pre.length]
    · generalize hs : S (pre ++ l ++ e ++ r.flatMap (· ++ e)) = s at ih ⊢
      have at1 : s.cps.getD (pre.length + l.length) 0 = e.getD 0 0 := by
        rw [← hs, getD_S]
        have : e ≠ [] := by rcases he with rfl | rfl <;> simp
        obtain ⟨y, ys, rfl⟩ := List.exists_cons_of_ne_nil this
        simp [List.getD, List.getElem?_append, List.append_assoc]
      have mid : Id.run (forIn (m := Id) (List.range' (pre.length + l.length) e.length) ((acc, pre.length) : LsSt) (lsBody s)) = (acc.push (pre.length, pre.length + l.length, pre.length + l.length + e.length), pre.length + l.length + e.length) := by
        rcases he with rfl | rfl
        · show Id.run (forIn (m := Id) [pre.length + l.length] _ _) = _
          have hb : lsBody s (pre.length + l.length) (acc, pre.length) = pure (ForInStep.yield ((acc.push (pre.length, pre.length + l.length, pre.length + l.length + 1), pre.length + l.length + 1) : LsSt)) := by
            unfold lsBody lsNext
            rw [at1]
            simp [lb10]
          rw [List.forIn_cons, hb]; rfl
        · have at2 : s.cps[pre.length + l.length + 1]? = some 10 := by
            rw [← hs]
            have : (pre ++ l ++ [13, 10] ++ r.flatMap (· ++ [13, 10]))[(pre ++ l).length + 1]? = some 10 := by
              rw [List.append_assoc (pre ++ l), List.getElem?_append_right (by omega), Nat.add_sub_cancel_left]; rfl
            rw [List.length_append] at this
            simpa [S] using this
          show Id.run (forIn (m := Id) [pre.length + l.length, pre.length + l.length + 1] _ _) = _
          have hb : lsBody s (pre.length + l.length) (acc, pre.length) = pure (ForInStep.yield ((acc.push (pre.length, pre.length + l.length, pre.length + l.length + 2), pre.length + l.length + 2) : LsSt)) := by
            unfold lsBody lsNext
            rw [at1, at2]
            simp [lb13]
          have hb2 : lsBody s (pre.length + l.length + 1) (acc.push (pre.length, pre.length + l.length, pre.length + l.length + 2), pre.length + l.length + 2) = pure (ForInStep.yield ((acc.push (pre.length, pre.length + l.length, pre.length + l.length + 2), pre.length + l.length + 2) : LsSt)) := by
            unfold lsBody
            have : (decide (pre.length + l.length + 2 ≤ pre.length + l.length + 1)) = false := by simp
            simp only [this, Bool.false_and]; rfl
          rw [List.forIn_cons, hb]
          show Id.run (forIn (m := Id) [pre.length + l.length + 1] _ _) = _
          rw [List.forIn_cons, hb2]; rfl
      rw [mid]
      have e1 : (pre ++ l ++ e).length = pre.length + l.length + e.length := by rw [List.length_append, List.length_append]
      rw [e1] at ih
      rw [ih]
      refine Prod.ext ?_ (by omega)
      show _ = acc ++ (spans e.length pre.length (l :: r)).toArray
      simp [spans]
    · intro i h1 h2 _
      rw [getD_S]
      have : (pre ++ l ++ e ++ r.flatMap (· ++ e)).getD i 0 = l.getD (i - pre.length) 0 := by
        simp [List.getD, List.getElem?_append, List.append_assoc, h1, show i - pre.length < l.length by omega, Nat.not_lt.mpr h1]
      rw [this]
      have hi : i - pre.length < l.length := by omega
      rw [List.getD_eq_getElem?_getD, List.getElem?_eq_getElem hi]
      exact hl _ (List.getElem_mem hi)
theorem sub_spans {e : List Nat} : ∀ (ls : List (List Nat)) (pre : List Nat), ((spans e.length pre.length ls).map fun p => strSub (S (pre ++ ls.flatMap (· ++ e))) p.1 p.2.1) = ls.map S
  | [], pre => rfl
  | l :: r, pre => by
    have ih := sub_spans (e := e) r (pre ++ l ++ e)
    have htxt : pre ++ (l :: r).flatMap (· ++ e) = pre ++ l ++ e ++ r.flatMap (· ++ e) := by simp
    have e1 : (pre ++ l ++ e).length = pre.length + l.length + e.length := by rw [List.length_append, List.length_append]
    rw [e1] at ih
    rw [htxt]
    simp only [spans, List.map_cons]
    rw [ih, sub_S]
    congr 2
    simp [List.append_assoc]
theorem lines_S {e : List Nat} (he : Eol e) (ls : List (List Nat)) (h : ∀ l ∈ ls, ∀ c ∈ l, Unicode.isLineBreak c = false) : Txt.lines (S (ls.flatMap (· ++ e))) = ls.map S := by
  rw [lines_eq]
  unfold linesOf lineCuts
  rw [StrLaws.ls_eq, S_len]
  have := ls_lines he ls [] #[] h
  simp only [List.length_nil, List.nil_append, Nat.zero_add] at this
  rw [this]
  unfold lsEnd
  simp only [S_len, Nat.lt_irrefl, if_false]
  have h2 := sub_spans (e := e) ls []
  simp only [List.length_nil, List.nil_append] at h2
  rw [← h2]
  simp [List.map_map, Function.comp_def]
/-! split -/
theorem at_S {l y : List Nat} {i : Nat} (h : i + y.length ≤ l.length) : At (S l) (S y) (S l).length i ↔ (l.drop i).take y.length = y := by
  unfold At
  rw [StrLaws.subAt_eq, S_list, S_list, S_len, S_len]
  simp [h]
theorem parts_S {e : List Nat} (he : Eol e) : ∀ (ls : List (List Nat)) (pre : List Nat) (cuts : List Nat) (f : Nat), (∀ l ∈ ls, ∀ c ∈ l, c ≠ 10 ∧ c ≠ 13) →
    ChainG (S (pre ++ ls.flatMap (· ++ e))) (S e) (S (pre ++ ls.flatMap (· ++ e))).length pre.length cuts f → (∀ k, f ≤ k → ¬ At (S (pre ++ ls.flatMap (· ++ e))) (S e) (S (pre ++ ls.flatMap (· ++ e))).length k) →
    partsFrom (S (pre ++ ls.flatMap (· ++ e))) e.length pre.length cuts = (ls ++ [[]]).map S
  | [], pre, cuts, f, _, hc, hf => by
    have ep : 1 ≤ e.length := by rcases he with rfl | rfl <;> simp
    cases cuts with
    | nil => simp [partsFrom, sub_S, S_len]
    | cons c r =>
      obtain ⟨h1, ⟨h2, _⟩, _⟩ := hc
      simp only [S_len, List.flatMap_nil, List.append_nil] at h2
      omega
  | l :: r, pre, cuts, f, h, hc, hf => by
    have ep : 1 ≤ e.length := by rcases he with rfl | rfl <;> simp
    have hl := h l (by simp)
    have htxt : pre ++ (l :: r).flatMap (· ++ e) = pre ++ l ++ e ++ r.flatMap (· ++ e) := by simp
    rw [htxt] at hc hf ⊢
    have hat : At (S (pre ++ l ++ e ++ r.flatMap (· ++ e))) (S e) (S (pre ++ l ++ e ++ r.flatMap (· ++ e))).length (pre.length + l.length) := by
      rw [at_S (by simp only [List.length_append]; omega)]
      have : (pre ++ l ++ e ++ r.flatMap (· ++ e)).drop (pre.length + l.length) = e ++ r.flatMap (· ++ e) := by
        rw [List.append_assoc, ← List.length_append, List.drop_left]
      rw [this, List.take_left]
    have hno : ∀ k, pre.length ≤ k → k < pre.length + l.length → ¬ At (S (pre ++ l ++ e ++ r.flatMap (· ++ e))) (S e) (S (pre ++ l ++ e ++ r.flatMap (· ++ e))).length k := by
      intro k k1 k2 ha
      have hle : k + e.length ≤ (pre ++ l ++ e ++ r.flatMap (· ++ e)).length := by have := ha.1; simpa only [S_len] using this
      rw [at_S hle] at ha
      have hk : (pre ++ l ++ e ++ r.flatMap (· ++ e))[k]? = some l[k - pre.length] := by
        simp only [List.append_assoc]
        rw [List.getElem?_append_right k1, List.getElem?_append_left (by omega), List.getElem?_eq_getElem (by omega)]
      have h0 : e[0]? = (pre ++ l ++ e ++ r.flatMap (· ++ e))[k]? := by
        have z : ((List.drop k (pre ++ l ++ e ++ r.flatMap (· ++ e))).take e.length)[0]? = (pre ++ l ++ e ++ r.flatMap (· ++ e))[k]? := by
          rw [List.getElem?_take_of_lt (by omega), List.getElem?_drop]; rfl
        rw [ha] at z; exact z
      rw [hk] at h0
      have := hl _ (List.getElem_mem (show k - pre.length < l.length by omega))
      rcases he with rfl | rfl
      · simp at h0; omega
      · simp at h0; omega
    cases cuts with
    | nil =>
      have hfa : f = pre.length := hc
      exact absurd hat (hf _ (by omega))
    | cons c cs =>
      obtain ⟨h1, h2, h3, h4⟩ := hc
      have hcc : c = pre.length + l.length := by
        rcases Nat.lt_trichotomy c (pre.length + l.length) with hlt | heq | hgt
        · exact absurd h2 (hno c h1 hlt)
        · exact heq
        · exact absurd hat (h3 _ (by omega) hgt)
      subst hcc
      have ih := parts_S he r (pre ++ l ++ e) cs f (fun l' h' => h l' (by simp [h'])) (by
        have e1 : (pre ++ l ++ e).length = pre.length + l.length + (S e).length := by simp [S_len]; omega
        rw [e1]; exact h4) hf
      have e1 : (pre ++ l ++ e).length = pre.length + l.length + e.length := by rw [List.length_append, List.length_append]
      rw [e1] at ih
      simp only [partsFrom, List.cons_append, List.map_cons]
      rw [ih, sub_S]
      congr 2
      simp [List.append_assoc]
theorem split_S {e : List Nat} (he : Eol e) (ls : List (List Nat)) (hne : ls ≠ []) (h : ∀ l ∈ ls, ∀ c ∈ l, c ≠ 10 ∧ c ≠ 13) : Txt.split (S (ls.flatMap (· ++ e))) (S e) = (ls ++ [[]]).map S := by
  have ep : 1 ≤ e.length := by rcases he with rfl | rfl <;> simp
  obtain ⟨f, hc, hf⟩ := StrLaws.occ_tight (S (ls.flatMap (· ++ e))) (S e) (by rw [S_len]; exact ep)
  have hp := parts_S he ls [] (occurrences (S (ls.flatMap (· ++ e))) (S e) 0 (S (ls.flatMap (· ++ e))).length ((S (ls.flatMap (· ++ e))).length + 1)) f h (by simpa using hc) (by simpa using hf)
  simp only [List.length_nil, List.nil_append] at hp
  unfold Txt.split
  have h1 : decide ((S (ls.flatMap (· ++ e))).length < (S e).length) = false := by
    obtain ⟨y, ys, rfl⟩ := List.exists_cons_of_ne_nil hne
    simp [S_len]; omega
  have h2 : Builtin.Str.strKind (S e) = 1 := by rcases he with rfl | rfl <;> (unfold Builtin.Str.strKind; simp [S])
  have h3 : decide (Builtin.Str.strKind (S (ls.flatMap (· ++ e))) < Builtin.Str.strKind (S e)) = false := by
    rw [h2]; unfold Builtin.Str.strKind; split
    · rfl
    · split <;> rfl
  rw [h1, h3]
  simp only [Bool.or_self, Bool.false_eq_true, if_false]
  have hq : partsBetween (S (ls.flatMap (· ++ e))) (occurrences (S (ls.flatMap (· ++ e))) (S e) 0 (S (ls.flatMap (· ++ e))).length ((S (ls.flatMap (· ++ e))).length + 1)) (S e).length = (ls ++ [[]]).map S := by
    rw [← hp, S_len e]
    exact zip_parts _ _ _ _
  split
  · next hem =>
    rw [List.isEmpty_iff] at hem
    rw [hem] at hp
    rw [← hp]
    simp only [partsFrom, sub_S, S_len, List.drop_zero, Nat.sub_zero, List.take_length]
  · exact hq
end Mine
end
section
open PySem PySem.W PyProof.Rows
set_option linter.unusedVariables false
namespace Mine
noncomputable def HS (m : PySem.Str → Option Value) (x : PySem.Str) (s : List Nat) : Prop := ∃ t, m x = some (.str (S s) t)
noncomputable def HI (m : PySem.Str → Option Value) (x : PySem.Str) (n : Int) : Prop := ∃ t, m x = some (.int n t)
theorem HS.ne {m : PySem.Str → Option Value} {x y : PySem.Str} {s : List Nat} {v : Value} (h : HS m x s) (hn : x ≠ y := by decide) : HS (upd m y v) x s := let ⟨t, e⟩ := h; ⟨t, (upd_ne hn).trans e⟩
theorem HI.ne {m : PySem.Str → Option Value} {x y : PySem.Str} {s : Int} {v : Value} (h : HI m x s) (hn : x ≠ y := by decide) : HI (upd m y v) x s := let ⟨t, e⟩ := h; ⟨t, (upd_ne hn).trans e⟩
theorem HS.of {m : PySem.Str → Option Value} {x : PySem.Str} {s : List Nat} {v : Value} {h : Heap} (p : (IsS (S s)).p v h) : HS (upd m x v) x s := by obtain ⟨t, rfl⟩ := p; exact ⟨t, upd_same⟩
theorem HI.of {m : PySem.Str → Option Value} {x : PySem.Str} {s : Int} {v : Value} {h : Heap} (p : (IsI s).p v h) : HI (upd m x v) x s := by obtain ⟨t, rfl⟩ := p; exact ⟨t, upd_same⟩
theorem HS.str {m : PySem.Str → Option Value} {x : PySem.Str} {s : List Nat} {t : Tok} : HS (upd m x (.str (S s) t)) x s := ⟨t, upd_same⟩
theorem HI.int {m : PySem.Str → Option Value} {x : PySem.Str} {s : Int} {t : Tok} : HI (upd m x (.int s t)) x s := ⟨t, upd_same⟩
theorem HS.add {m : PySem.Str → Option Value} {x : PySem.Str} {a b : List Nat} {t : Tok} : HS (upd m x (.str (S a ++ S b) t)) x (a ++ b) := ⟨t, by rw [S_add]; exact upd_same⟩
theorem HI.eq {m : PySem.Str → Option Value} {x : PySem.Str} {a b : Int} (h : HI m x a) (e : a = b) : HI m x b := e ▸ h
theorem HS.eq {m : PySem.Str → Option Value} {x : PySem.Str} {a b : List Nat} (h : HS m x a) (e : a = b) : HS m x b := e ▸ h
section
variable {c : Cx} {env : Env}
theorem tst_eq {t : Sem Bool} {a b : Bool} (h : Tst c t a) (e : a = b) : Tst c t b := e ▸ h
theorem negI {e : Expr} {pos : Pos} {x : Int} (he : Ev c (eval e env) (IsI x)) : Ev c (eval (.UnaryOp .USub e pos) env) (IsI (-x)) :=
  fun s Q E k _ f => UnaryOp_ (he s _ E k trivial fun v h' tk ⟨t, q⟩ e => by subst q; exact PyProof.Rows.neg_int (f _ h' _ ⟨_, rfl⟩ e))
theorem nS {x : PySem.Str} {pos : Pos} {s : List Nat} (hm : HS c.m x s) (hL : env.locals = c.L := by rfl) (hk : env.scope.kind = .function := by rfl) (hl : env.kindOf x = some .local := by rfl)
    (hd : (x == ("__debug__" : PySem.Str)) = false := by decide) : Ev c (eval (.Name x pos) env) (IsS (S s)) := let ⟨_, e⟩ := hm; nm e (fun _ => ⟨_, rfl⟩) hL hk hl hd
theorem nI {x : PySem.Str} {pos : Pos} {s : Int} (hm : HI c.m x s) (hL : env.locals = c.L := by rfl) (hk : env.scope.kind = .function := by rfl) (hl : env.kindOf x = some .local := by rfl)
    (hd : (x == ("__debug__" : PySem.Str)) = false := by decide) : Ev c (eval (.Name x pos) env) (IsI s) := let ⟨_, e⟩ := hm; nm e (fun _ => ⟨_, rfl⟩) hL hk hl hd
theorem glS {x : PySem.Str} {pos : Pos} {y : PySem.Str} {K : Frag} {p : Program} {loose : List PySem.Str} {mg mb : PySem.Str → Option Value} (X : K.In c.h₀) (T : TopRead p loose mg mb c.h₀) (e : ∃ t, nsIn K mainGlobals x = some (some (.str y t)))
    (hg : env.globals = mainGlobals := by rfl) (hk : env.scope.kind = .function := by rfl) (hx : env.kindOf x = some .globalImplicit := by rfl) (hd : (x == ("__debug__" : PySem.Str)) = false := by decide) :
    Ev c (eval (.Name x pos) env) (IsS y) := let ⟨_, e'⟩ := e; (gl X T e' hg hk hx hd).mono fun v h q => ⟨_, q⟩
variable {hh : Heap} {gs : Array GenState} {dr : Drawn} {tk₀ : Nat} {os : OsState} {Q : Flow → Shared → Prop} {E : Value → Shared → Prop}
theorem sWhileT {test : Expr} {body rest : List Stmt} {pos : Pos} (J : Nat → (PySem.Str → Option Value) → List (Addr × Obj) → Prop) {n₀ : Nat} (k : c.ok hh) (hJ : J n₀ c.m c.mu)
    (turn : ∀ n m₁ mu₁, J n m₁ mu₁ → ∃ b, Tst (c.atM m₁ mu₁) (PySem.isTrue test env (eval test env)) b ∧
      (b = true → ∀ h' tk, (c.atM m₁ mu₁).ok h' → wpAny (model c.prog c.w) c.A (execs body env) (fun f s₃ => match f with
        | .next | .cont => ∃ h' tk m₂ mu₂ n', s₃ = ⟨h', gs, dr, tk, os⟩ ∧ (c.atM m₂ mu₂).ok h' ∧ n' < n ∧ J n' m₂ mu₂
        | .brk => False
        | .ret v => False) (fun _ _ => False) ⟨h', gs, dr, tk, os⟩) ∧
      (b = false → ∀ h' tk, (c.atM m₁ mu₁).ok h' → wpAny (model c.prog c.w) c.A (execs rest env) Q E ⟨h', gs, dr, tk, os⟩)) :
    wpAny (model c.prog c.w) c.A (execs (.While test body [] pos :: rest) env) Q E ⟨hh, gs, dr, tk₀, os⟩ := by
  refine sWhile J k hJ fun n m₁ mu₁ h₁ tk₁ j k₁ => ?_
  obtain ⟨b, ht, hT, hF⟩ := turn n m₁ mu₁ j
  refine ht ⟨h₁, gs, dr, tk₁, os⟩ _ _ k₁ trivial fun r h' tk q e => ?_
  subst q
  cases r with
  | true => simp only [if_true]; exact hT rfl h' tk (k₁.ext e)
  | false => simp only [Bool.false_eq_true, if_false]; exact ⟨h', tk, rfl, k₁.ext e, hF rfl h' tk (k₁.ext e)⟩
/-- a branch without else -/
theorem sIf1 {test : Expr} {body rest : List Stmt} {pos : Pos} {b : Bool} (k : c.ok hh) (ht : Tst c (PySem.isTrue test env (eval test env)) b)
    (hT : b = true → ∀ h' tk, c.ok h' → wpAny (model c.prog c.w) c.A (execs body env) (fun f s' => match f with | .next => wpAny (model c.prog c.w) c.A (execs rest env) Q E s' | f => Q f s') E ⟨h', gs, dr, tk, os⟩)
    (hF : b = false → ∀ h' tk, c.ok h' → wpAny (model c.prog c.w) c.A (execs rest env) Q E ⟨h', gs, dr, tk, os⟩) :
    wpAny (model c.prog c.w) c.A (execs (.If test body [] pos :: rest) env) Q E ⟨hh, gs, dr, tk₀, os⟩ :=
  sIf k ht hT fun q h' tk k' => wpAny_execs_nil (hF q h' tk k')
end
theorem sNil {prog : Program} {w : World} {A : Around} {env : Env} {hh : Heap} {gs : Array GenState} {dr : Drawn} {tk₀ : Nat} {os : OsState} {Q : Flow → Shared → Prop} {E : Value → Shared → Prop} (h : Q .next ⟨hh, gs, dr, tk₀, os⟩) : wpAny (model prog w) A (execs [] env) Q E ⟨hh, gs, dr, tk₀, os⟩ := wpAny_execs_nil h
theorem sCnt {prog : Program} {w : World} {A : Around} {env : Env} {pos : Pos} {rest : List Stmt} {hh : Heap} {gs : Array GenState} {dr : Drawn} {tk₀ : Nat} {os : OsState} {Q : Flow → Shared → Prop} {E : Value → Shared → Prop} (h : Q .cont ⟨hh, gs, dr, tk₀, os⟩) : wpAny (model prog w) A (execs (.Continue pos :: rest) env) Q E ⟨hh, gs, dr, tk₀, os⟩ := wpAny_execs_cons (wpAny_Continue h)
/-! what is left of a text at its right -/
theorem rstrip_S {l : List Nat} (h : ∀ x, l.getLast? = some x → Unicode.isSpace x = false) : Txt.rstrip (S l) = S l := by
  unfold Txt.rstrip Txt.stripBy
  refine if_pos ?_
  unfold stripSame stripLo stripHi
  simp only [Bool.false_eq_true, if_false, if_true, S_list, S_len, List.drop_zero]
  cases hl : l.reverse with
  | nil => simp
  | cons y ys =>
    have : l.getLast? = some y := by rw [List.getLast?_eq_head?_reverse, hl]; rfl
    simp [h y this]
end Mine
end
section
open PySem PySem.W PyProof.Rows
set_option linter.unusedVariables false
set_option maxRecDepth 100000
namespace Mine
inductive Tk | ch (c : Nat) | hx (n : Nat)
noncomputable def Tk.txt : Tk → List Nat | .ch c => [c] | .hx n => [61, dig (n / 16), dig (n % 16)]
noncomputable def Tk.val : Tk → Nat | .ch c => c | .hx n => n
noncomputable def Tk.ok : Tk → Prop | .ch c => c ≠ 61 | .hx n => n < 256
noncomputable abbrev txts (l : List Tk) : List Nat := l.flatMap Tk.txt
noncomputable abbrev vals (l : List Tk) : List Nat := l.map Tk.val
structure Ln where
  toks : List Tk
  soft : Bool
noncomputable def Ln.txt (l : Ln) : List Nat := txts l.toks ++ (if l.soft then [61] else [])
noncomputable def Ln.val (l : Ln) : List Nat := vals l.toks ++ (if l.soft then [] else [10])
structure Ln.ok (l : Ln) : Prop where
  toks : ∀ t ∈ l.toks, t.ok
  brk : ∀ x ∈ l.txt, Unicode.isLineBreak x = false
  last : ∀ x, l.txt.getLast? = some x → Unicode.isSpace x = false
theorem vals_le (l : List Tk) : (vals l).length ≤ (txts l).length := by
  induction l with
  | nil => simp
  | cons t r ih => cases t <;> simp [Tk.txt] at ih ⊢ <;> omega
theorem Ln.val_le (l : Ln) : l.val.length ≤ l.txt.length + 1 := by
  have := vals_le l.toks
  unfold Ln.val Ln.txt
  rw [List.length_append, List.length_append]
  cases l.soft <;> simp <;> simp at this <;> omega
noncomputable def hexd : List Nat := [48, 49, 50, 51, 52, 53, 54, 55, 56, 57, 97, 98, 99, 100, 101, 102, 65, 66, 67, 68, 69, 70]
theorem dig_in : ∀ a, a < 16 → dig a ∈ hexd := by decide
theorem dec_le {e : List Nat} (he : 1 ≤ e.length) : ∀ ls : List Ln, (ls.flatMap Ln.val).length ≤ (ls.flatMap fun l => l.txt ++ e).length
  | [] => by simp
  | l :: r => by
    have := dec_le he r
    have := l.val_le
    simp only [List.flatMap_cons, List.length_append]; omega
theorem mem_le {e : List Nat} {l : Ln} {ls : List Ln} (h : l ∈ ls) : l.txt.length ≤ (ls.flatMap fun l => l.txt ++ e).length := by
  induction ls with
  | nil => cases h
  | cons x r ih =>
    simp only [List.flatMap_cons, List.length_append]
    rcases List.mem_cons.mp h with rfl | h
    · omega
    · have := ih h; omega

section
variable {prog : Program} {w : World} {A : Around} {h₀ : Heap}
/-- a line is read, sign by sign -/
structure DJ (L : Ln) (enc acc : List Nat) (m : PySem.Str → Option Value) : Prop where
  line : HS m (Str.ofString "line") L.txt
  n : HI m (Str.ofString "n") L.txt.length
  eol : HS m (Str.ofString "eol") [10]
  enc : HS m (Str.ofString "encoded") enc
theorem DJ.upd {L : Ln} {enc acc : List Nat} {m : PySem.Str → Option Value} {x : PySem.Str} {v : Value} (d : DJ L enc acc m) (h1 : Str.ofString "line" ≠ x := by decide) (h2 : Str.ofString "n" ≠ x := by decide) (h3 : Str.ofString "eol" ≠ x := by decide) (h4 : Str.ofString "encoded" ≠ x := by decide) : DJ L enc acc (Mine.upd m x v) :=
  ⟨d.line.ne h1, d.n.ne h2, d.eol.ne h3, d.enc.ne h4⟩
inductive DP (L : Ln) (acc : List Nat) (m : PySem.Str → Option Value) : Nat → Prop
  | op (done rest : List Tk) (e : L.toks = done ++ rest) (hr : rest ≠ [] ∨ L.soft = true) (i : HI m (Str.ofString "i") (txts done).length) (d : HS m (Str.ofString "decoded") (acc ++ vals done)) : DP L acc m (rest.length + 1)
  | cl (i : HI m (Str.ofString "i") L.txt.length) (d : HS m (Str.ofString "decoded") (acc ++ L.val)) : DP L acc m 0
theorem unquote_n {n : Nat} {t : Tok} (G : Gd w h₀) (hr : A.depth < recursionLimit) (hn : n < 256) : Ctr prog w A h₀ (call (.ref 44) [.str (S [61, dig (n / 16), dig (n % 16)]) t]) (IsS (S [n])).p := by
  have z := unquote_ctr (prog := prog) (A := A) (t := t) G hr (show n / 16 < 16 by omega) (Nat.mod_lt n (by decide : 0 < 16))
  rw [show 16 * (n / 16) + n % 16 = n by omega] at z
  exact z
theorem decode_ctr {e : List Nat} {ls : List Ln} {t : Tok} (G : Gd w h₀) (hr : A.depth + 1 < recursionLimit) (hA : A.handled = none) (he : Eol e) (hok : ∀ l ∈ ls, l.ok) (hsz : (ls.flatMap fun l => l.txt ++ e).length ≤ 1000000) :
    Ctr prog w A h₀ (call (.ref 72) [.str (S (ls.flatMap fun l => l.txt ++ e)) t]) (IsS (S (ls.flatMap Ln.val))).p := by
  obtain ⟨p, lo, mg, mb, T₀⟩ := G.T
  have hS : sizeLine = 16777216 := rfl
  have he1 : 1 ≤ e.length := by rcases he with rfl | rfl <;> simp
  generalize hE : (ls.flatMap fun l => l.txt ++ e) = enc at hsz
  refine ctr_fn [(Str.ofString "encoded", .str (S enc) t), (Str.ofString "eol", .str ⟨#[10]⟩ 202)] (G.X 72 (x72_0 w.params) (by rfl)) (codeRec_of G.X (by rfl)) T₀.nolimit (by omega) (fun s hx => BindsTo.of_defaults (T := 65) rfl (hx _ _ (G.X 65 (x65_0 w.params) (by rfl))) rfl rfl (by rfl)) (by rfl) (by rfl) ?_
  intro hp gs dr os h₁ tk Q hx hx₁ k fin
  have X : (KK w.params).In hp := G.X.keeps hx
  have T := T₀.keeps hx
  have hmE : HS (fun y => ([(Str.ofString "encoded", Value.str (S enc) t), (Str.ofString "eol", .str ⟨#[10]⟩ 202)] : List (PySem.Str × Value)).reverse.lookup y) (Str.ofString "encoded") enc := ⟨t, rfl⟩
  refine sIf1 k (tNot (tS (nS hmE) (by rw [S_len]; omega))) ?_ ?_
  · intro hb h' tk' k'
    have h0 : enc = [] := by rw [S_len] at hb; cases enc with | nil => rfl | cons _ _ => simp at hb
    refine sRet k' (nS hmE) fun v h'' tk'' p e => ?_
    have hl : ls = [] := by
      cases ls with
      | nil => rfl
      | cons l r => rw [h0] at hE; have := congrArg List.length hE; simp only [List.flatMap_cons, List.length_append, List.length_nil] at this; omega
    refine fin _ _ _ ?_ (k'.base.trans e)
    subst hl
    subst h0
    exact p
  · intro hb h' tk' k'
    have h0 : enc ≠ [] := by rintro rfl; simp [S_len] at hb
    refine sAssign (P := IsS (S [])) k' cS fun v h₂ tk₂ p₂ k₂ => ?_
    have hd := HS.of (m := fun y => ([(Str.ofString "encoded", Value.str (S enc) t), (Str.ofString "eol", .str ⟨#[10]⟩ 202)] : List (PySem.Str × Value)).reverse.lookup y) (x := Str.ofString "decoded") p₂
    have hle : HS (fun y => ([(Str.ofString "encoded", Value.str (S enc) t), (Str.ofString "eol", .str ⟨#[10]⟩ 202)] : List (PySem.Str × Value)).reverse.lookup y) (Str.ofString "eol") [10] := ⟨202, rfl⟩
    dsimp only
    refine sForL (R := fun vs => StrsAre vs (ls.map fun l => S l.txt)) (fun i m mu => mu = [] ∧ HS m (Str.ofString "eol") [10] ∧ HS m (Str.ofString "encoded") enc ∧ HS m (Str.ofString "decoded") ((ls.take i).flatMap Ln.val)) k₂ hA ?_ ⟨rfl, hle.ne, hmE.ne, hd⟩ ?_ ?_
    · intro g
      refine (mLines (x := S enc) (nS (HS.ne hmE)) (by rw [S_len]; omega) (g := g)).mono ?_
      rintro v h ⟨a, vs, q, l, ss, fr⟩
      refine ⟨a, vs, q, l, ?_, .inr fr⟩
      have := lines_S he (ls.map Ln.txt) (by intro l hl; obtain ⟨l', hl', rfl⟩ := List.mem_map.mp hl; exact (hok l' hl').brk)
      rw [List.flatMap_map, hE, List.map_map] at this
      rw [this] at ss
      exact ss
    · intro vs i v m₁ mu₁ g h tk₃ hR hv ⟨hmu, j1, j2, j3⟩ eg k₃
      subst hmu
      have hi : i < ls.length := by
        have h1 := strsAre_len hR
        rw [List.length_map] at h1
        have h2 := (List.getElem?_eq_some_iff.mp hv).1
        omega
      obtain ⟨L, hL⟩ : ∃ L, ls[i]? = some L := ⟨_, List.getElem?_eq_getElem hi⟩
      have hLm : L ∈ ls := List.mem_of_getElem? hL
      obtain ⟨t', hv'⟩ := strsAre_get hR (i := i) (x := S L.txt) (by simp [hL])
      rw [hv] at hv'; cases hv'
      have hLo := hok L hLm
      have hLs : L.txt.length ≤ 1000000 := Nat.le_trans (mem_le (e := e) hLm) (hE ▸ hsz)
      have hacc : ((ls.take i).flatMap Ln.val).length ≤ 1000000 := by
        have h1 := dec_le he1 ls
        rw [hE] at h1
        have h2 : (ls.flatMap Ln.val).length = ((ls.take i).flatMap Ln.val).length + ((ls.drop i).flatMap Ln.val).length := by rw [← List.length_append, ← List.flatMap_append, List.take_append_drop]
        omega
      have hstep : (ls.take (i + 1)).flatMap Ln.val = (ls.take i).flatMap Ln.val ++ L.val := by
        rw [List.take_add_one, hL]; simp
      generalize (ls.take i).flatMap Ln.val = acc at j3 hacc hstep
      have hvl := L.val_le
      dsimp only
      refine sAssign (P := IsS (S L.txt)) k₃ (evS_eq (mRstrip (x := S L.txt) (nS HS.str) (by rw [S_len]; omega)) (rstrip_S hLo.last)) fun v h₂ tk₂ p₂ k₄ => ?_
      dsimp only at k₄ ⊢
      have q1 : HS (upd (upd m₁ (Str.ofString "line") (.str (S L.txt) t')) (Str.ofString "line") v) (Str.ofString "line") L.txt := HS.of p₂
      have q2 := (j1.ne (y := Str.ofString "line") (v := .str (S L.txt) t')).ne (y := Str.ofString "line") (v := v)
      have q3 := (j2.ne (y := Str.ofString "line") (v := .str (S L.txt) t')).ne (y := Str.ofString "line") (v := v)
      have q4 := (j3.ne (y := Str.ofString "line") (v := .str (S L.txt) t')).ne (y := Str.ofString "line") (v := v)
      generalize upd (upd m₁ (Str.ofString "line") (.str (S L.txt) t')) (Str.ofString "line") v = m₂ at k₄ q1 q2 q3 q4
      refine sIf1 k₄ (tNot (tS (nS q1) (by rw [S_len]; omega))) ?_ ?_
      · intro hb h' tk' k'
        have h0 : L.txt = [] := by rw [S_len] at hb; cases hh : L.txt with | nil => rfl | cons _ _ => rw [hh] at hb; simp at hb
        obtain ⟨td, hd⟩ := q4
        refine sAugS (a := S acc) (b := S [10]) k' hd (nS q2) (by rw [S_len]; simp [S_len]; omega) fun t h tk k => sCont ?_
        dsimp only at k ⊢
        refine ⟨_, _, _, _, rfl, k, rfl, rfl, q2.ne, q3.ne, ?_⟩
        rw [hstep]
        have : L.val = [10] := by
          unfold Ln.txt at h0
          obtain ⟨h1, h2⟩ := List.append_eq_nil_iff.mp h0
          have h3 : L.soft = false := by cases hs : L.soft <;> simp [hs] at h2 ⊢
          have h4 : L.toks = [] := by
            cases ht : L.toks with
            | nil => rfl
            | cons y ys => rw [ht] at h1; cases y <;> simp [Tk.txt] at h1
          simp [Ln.val, h3, h4]
        rw [this]
        exact HS.add
      · intro hb h' tk' k'
        have h0 : L.txt ≠ [] := by rintro h; rw [h] at hb; simp [S_len] at hb
        refine sAssign (P := IsI 0) k' cI fun v h₂ tk₂ p₃ k₅ => ?_
        dsimp only at k₅ ⊢
        refine sAssign (P := IsI L.txt.length) k₅ (evI_eq (lenS (x := S L.txt) (bl X T (by rfl) boot_len) (nS q1.ne) (by rw [S_len]; omega)) (by rw [S_len])) fun v' h₃ tk₃ p₄ k₆ => ?_
        dsimp only at k₆ ⊢
        have r1 : DJ L enc acc (upd (upd m₂ (Str.ofString "i") v) (Str.ofString "n") v') := ⟨q1.ne.ne, HI.of p₄, q2.ne.ne, q3.ne.ne⟩
        have r2 : HI (upd (upd m₂ (Str.ofString "i") v) (Str.ofString "n") v') (Str.ofString "i") 0 := (HI.of p₃).ne
        have r3 : HS (upd (upd m₂ (Str.ofString "i") v) (Str.ofString "n") v') (Str.ofString "decoded") acc := q4.ne.ne
        generalize upd (upd m₂ (Str.ofString "i") v) (Str.ofString "n") v' = m₃ at k₆ r1 r2 r3
        refine sWhileT (fun n m mu => mu = [] ∧ DJ L enc acc m ∧ DP L acc m n) k₆ ⟨rfl, r1, .op [] L.toks rfl ?_ r2 (by simpa using r3)⟩ ?_
        · cases hs : L.soft with
          | true => exact .inr rfl
          | false => left; intro z; exact h0 (by simp [Ln.txt, hs, z])
        rintro n m₄ mu₄ ⟨rfl, d, P⟩
        dsimp only
        cases P with
        | cl hi hd =>
          refine ⟨_, ltI (nI hi) (nI d.n), fun hb => by simp at hb, fun _ h' tk k => ?_⟩
          refine sNil ?_
          exact ⟨_, _, _, _, rfl, k, rfl, rfl, d.eol, d.enc, hstep ▸ hd⟩
        | op done rest hdr hne hi hd =>
          have hlt : (txts done).length < L.txt.length := by
            unfold Ln.txt
            rw [hdr]
            simp only [txts, List.flatMap_append, List.length_append]
            cases rest with
            | nil => rcases hne with h | h
                     · exact absurd rfl h
                     · simp [h]
            | cons y ys => cases y <;> simp [Tk.txt] <;> omega
          refine ⟨_, ltI (nI hi) (nI d.n), fun _ h' tk k => ?_, fun hb => by have := of_decide_eq_false hb; omega⟩
          have hS2 : L.txt = txts done ++ (txts rest ++ if L.soft then [61] else []) := by
            unfold Ln.txt; rw [hdr]; simp only [txts, List.flatMap_append, List.append_assoc]
          have hvd : (vals done).length ≤ L.txt.length := by
            have := vals_le done
            rw [hS2, List.length_append]; omega
          have hok' : ∀ t ∈ rest, t.ok := fun t ht => hLo.toks t (by rw [hdr]; exact List.mem_append_right _ ht)
          cases rest with
          | nil =>
            have hs : L.soft = true := by rcases hne with h | h; · exact absurd rfl h
                                          · exact h
            have hn : L.txt.length = (txts done).length + 1 := by rw [hS2, hs]; simp
            have hc : L.txt[(txts done).length]? = some 61 := by rw [hS2, hs]; simp
            refine sAssign (P := IsS (S [61])) k (evS_eq (itS (x := S L.txt) (nS d.line) (nI hi) (by omega) (by rw [S_len]; omega) (by rw [S_len]; omega)) (item_S hc)) fun v h₂ tk₂ p₂ k₂ => ?_
            dsimp only at k₂ ⊢
            refine sIf k₂ (neS (x := S [61]) (y := S [61]) (nS (HS.of p₂)) cS) (fun hb => by simp at hb) fun _ h₃ tk₃ k₃ => ?_
            refine sIf k₃ (eqI (addI (nI hi.ne) cI) (nI d.n.ne)) (fun _ h₄ tk₄ k₄ => ?_) fun hb => by rw [hn] at hb; simp at hb
            obtain ⟨ti, hi'⟩ := hi.ne (y := Str.ofString "c") (v := v)
            refine sAugI (b := 1) k₄ hi' cI fun t h tk k => sCont ?_
            dsimp only at k ⊢
            refine ⟨_, _, _, _, 0, rfl, k, by simp, rfl, d.upd.upd, .cl (HI.int.eq (by rw [hn]; rfl)) ?_⟩
            refine HS.eq hd.ne.ne ?_
            simp [Ln.val, hs, hdr]
          | cons t r =>
            have hS3 : L.txt = txts (done ++ [t]) ++ (txts r ++ if L.soft then [61] else []) := by
              rw [hS2]; simp [txts]
            have hdr' : L.toks = (done ++ [t]) ++ r := by rw [hdr]; simp
            -- behind a token: is the line at its end?
            have hend : ((txts (done ++ [t])).length = L.txt.length) → r = [] ∧ L.soft = false := fun z => by
              rw [hS3, List.length_append] at z
              have z2 : (txts r ++ if L.soft then [61] else []).length = 0 := by omega
              rw [List.length_append] at z2
              constructor
              · cases r with
                | nil => rfl
                | cons y ys => cases y <;> simp [Tk.txt] at z2
              · cases hs : L.soft <;> simp [hs] at z2 ⊢
            have fin1 : r = [] → L.soft = false → acc ++ vals (done ++ [t]) ++ [10] = acc ++ L.val := fun h1 h2 => by
              subst h1; simp [Ln.val, h2, hdr]
            have fin2 : (txts (done ++ [t])).length ≠ L.txt.length → r ≠ [] ∨ L.soft = true := fun z => by
              cases hs : L.soft with
              | true => exact .inr rfl
              | false => left; rintro rfl; exact z (by rw [hS3]; simp [hs])
            have hvt : (vals (done ++ [t])).length ≤ L.txt.length := by
              have := vals_le (done ++ [t])
              rw [hS3, List.length_append]; omega
            cases t with
            | ch c =>
              have hc61 : c ≠ 61 := hok' (.ch c) (by simp)
              have hc : L.txt[(txts done).length]? = some c := by rw [hS2]; simp [Tk.txt]
              have hil : (txts (done ++ [Tk.ch c])).length = (txts done).length + 1 := by simp [Tk.txt]
              refine sAssign (P := IsS (S [c])) k (evS_eq (itS (x := S L.txt) (nS d.line) (nI hi) (by omega) (by rw [S_len]; omega) (by rw [S_len]; omega)) (item_S hc)) fun v h₂ tk₂ p₂ k₂ => ?_
              dsimp only at k₂ ⊢
              refine sIf k₂ (neS (x := S [c]) (y := S [61]) (nS (HS.of p₂)) cS) (fun _ h₃ tk₃ k₃ => ?_) fun hb => by rw [bne, S_beq] at hb; simp at hb; exact absurd hb hc61
              obtain ⟨td, hd'⟩ := hd.ne (y := Str.ofString "c") (v := v)
              refine sAugS (a := S (acc ++ vals done)) (b := S [c]) k₃ hd' (nS (HS.of p₂)) (by simp only [S_len, List.length_append, List.length_cons, List.length_nil]; omega) fun t₄ h₄ tk₄ k₄ => ?_
              dsimp only at k₄ ⊢
              obtain ⟨ti, hi'⟩ := (hi.ne (y := Str.ofString "c") (v := v)).ne (y := Str.ofString "decoded") (v := .str (S (acc ++ vals done) ++ S [c]) t₄)
              refine sAugI (b := 1) k₄ hi' cI fun t₅ h₅ tk₅ k₅ => sNil ?_
              dsimp only at k₅ ⊢
              have d5 := ((d.upd (x := Str.ofString "c") (v := v)).upd (x := Str.ofString "decoded") (v := .str (S (acc ++ vals done) ++ S [c]) t₄)).upd (x := Str.ofString "i") (v := .int (((txts done).length : Int) + 1) t₅)
              have i5 : HI (upd (upd (upd m₄ (Str.ofString "c") v) (Str.ofString "decoded") (.str (S (acc ++ vals done) ++ S [c]) t₄)) (Str.ofString "i") (.int (((txts done).length : Int) + 1) t₅)) (Str.ofString "i") (txts (done ++ [Tk.ch c])).length := HI.int.eq (by rw [hil]; rfl)
              have s5 : HS (upd (upd (upd m₄ (Str.ofString "c") v) (Str.ofString "decoded") (.str (S (acc ++ vals done) ++ S [c]) t₄)) (Str.ofString "i") (.int (((txts done).length : Int) + 1) t₅)) (Str.ofString "decoded") (acc ++ vals (done ++ [Tk.ch c])) := (HS.add.ne).eq (by simp [Tk.val])
              generalize upd (upd (upd m₄ (Str.ofString "c") v) (Str.ofString "decoded") (.str (S (acc ++ vals done) ++ S [c]) t₄)) (Str.ofString "i") (.int (((txts done).length : Int) + 1) t₅) = m₅ at k₅ d5 i5 s5
              refine sIf1 k₅ (eqI (nI i5) (nI d5.n)) (fun hb h₆ tk₆ k₆ => ?_) fun hb h₆ tk₆ k₆ => sNil ?_
              · have hb' : (txts (done ++ [Tk.ch c])).length = L.txt.length := by have := eq_of_beq hb; omega
                obtain ⟨td, hd'⟩ := s5
                refine sAugS (a := S (acc ++ vals (done ++ [Tk.ch c]))) (b := S [10]) k₆ hd' (nS d5.eol) (by simp only [S_len, List.length_append, List.length_cons, List.length_nil]; omega) fun t₇ h₇ tk₇ k₇ => sNil (sNil ?_)
                dsimp only at k₇ ⊢
                exact ⟨_, _, _, _, 0, rfl, k₇, by simp, rfl, d5.upd, .cl (i5.ne.eq (by rw [hb'])) (HS.add.eq (fin1 (hend hb').1 (hend hb').2))⟩
              · have hb' : (txts (done ++ [Tk.ch c])).length ≠ L.txt.length := fun z => by rw [z] at hb; simp at hb
                exact ⟨_, _, _, _, r.length + 1, rfl, k₆, by simp, rfl, d5, .op _ r hdr' (fin2 hb') i5 s5⟩
            | hx n =>
              have hn256 : n < 256 := hok' (.hx n) (by simp)
              have hil : (txts (done ++ [Tk.hx n])).length = (txts done).length + 3 := by simp [Tk.txt]
              have hle3 : (txts done).length + 3 ≤ L.txt.length := by rw [hS3, List.length_append, hil]; omega
              have hc : L.txt[(txts done).length]? = some 61 := by rw [hS2]; simp [Tk.txt]
              have hc1 : L.txt[(txts done).length + 1]? = some (dig (n / 16)) := by rw [hS2, List.getElem?_append_right (by omega), Nat.add_sub_cancel_left]; simp [Tk.txt]
              have hc2 : L.txt[(txts done).length + 2]? = some (dig (n % 16)) := by rw [hS2, List.getElem?_append_right (by omega), Nat.add_sub_cancel_left]; simp [Tk.txt]
              have hc3 : (L.txt.drop (txts done).length).take 3 = [61, dig (n / 16), dig (n % 16)] := by rw [hS2, List.drop_left]; simp [Tk.txt]
              refine sAssign (P := IsS (S [61])) k (evS_eq (itS (x := S L.txt) (nS d.line) (nI hi) (by omega) (by rw [S_len]; omega) (by rw [S_len]; omega)) (item_S hc)) fun v h₂ tk₂ p₂ k₂ => ?_
              dsimp only at k₂ ⊢
              refine sIf k₂ (neS (x := S [61]) (y := S [61]) (nS (HS.of p₂)) cS) (fun hb => by simp at hb) fun _ h₃ tk₃ k₃ => ?_
              refine sIf k₃ (eqI (addI (nI hi.ne) cI) (nI d.n.ne)) (fun hb => by have := eq_of_beq hb; omega) fun _ h₃ tk₃ k₃ => ?_
              have hv16 : n / 16 < 16 := by omega
              refine sIf k₃ (tAnd3 (b₂ := true) (b₃ := true) (ltI (addI (nI hi.ne) cI) (nI d.n.ne)) (fun _ => ?_) fun _ _ => ?_) (fun _ h₄ tk₄ k₄ => ?_) fun hb => ?_
              · exact tst_eq (inS (x := S hexd) (y := S [dig (n / 16)]) (evS_eq (itS (x := S L.txt) (i := (((txts done).length + 1 : Nat) : Int)) (nS d.line.ne) (evI_eq (addI (nI hi.ne) cI) rfl) (by omega) (by rw [S_len]; omega) (by rw [S_len]; omega)) (item_S hc1)) (glS X T ⟨_, by rfl⟩)) (by rw [contains_S]; exact decide_eq_true (dig_in _ hv16))
              · exact tst_eq (inS (x := S hexd) (y := S [dig (n % 16)]) (evS_eq (itS (x := S L.txt) (i := (((txts done).length + 2 : Nat) : Int)) (nS d.line.ne) (evI_eq (addI (nI hi.ne) cI) rfl) (by omega) (by rw [S_len]; omega) (by rw [S_len]; omega)) (item_S hc2)) (glS X T ⟨_, by rfl⟩)) (by rw [contains_S]; exact decide_eq_true (dig_in _ (Nat.mod_lt _ (by decide))))
              · obtain ⟨td, hd'⟩ := hd.ne (y := Str.ofString "c") (v := v)
                refine sAugS (a := S (acc ++ vals done)) (b := S [n]) k₄ hd' (callK1 (a := 44) (P := IsS (S [61, dig (n / 16), dig (n % 16)])) X (by rfl) (gl X T (by rfl)) (evS_eq (slSS (x := S L.txt) (i := ((txts done).length : Int)) (j := (((txts done).length + 3 : Nat) : Int)) (nS d.line.ne) (nI hi.ne) (evI_eq (addI (nI hi.ne) cI) rfl) (by rw [S_len]; omega)) ?_) ?_) (by simp only [S_len, List.length_append, List.length_cons, List.length_nil]; omega) fun t₄ h₄ tk₄ k₄ => ?_
                · rw [slice_S (by omega) hle3, Nat.add_sub_cancel_left, hc3]
                · rintro v s' Q' E' k' ⟨t₀, rfl⟩ f
                  exact unquote_n (G.ext hx) hr hn256 s' Q' E' k'.base f
                dsimp only at k₄ ⊢
                obtain ⟨ti, hi'⟩ := (hi.ne (y := Str.ofString "c") (v := v)).ne (y := Str.ofString "decoded") (v := .str (S (acc ++ vals done) ++ S [n]) t₄)
                refine sAugI (b := 3) k₄ hi' cI fun t₅ h₅ tk₅ k₅ => sNil (sNil (sNil ?_))
                dsimp only at k₅ ⊢
                have d5 := ((d.upd (x := Str.ofString "c") (v := v)).upd (x := Str.ofString "decoded") (v := .str (S (acc ++ vals done) ++ S [n]) t₄)).upd (x := Str.ofString "i") (v := .int (((txts done).length : Int) + 3) t₅)
                have i5 : HI (upd (upd (upd m₄ (Str.ofString "c") v) (Str.ofString "decoded") (.str (S (acc ++ vals done) ++ S [n]) t₄)) (Str.ofString "i") (.int (((txts done).length : Int) + 3) t₅)) (Str.ofString "i") (txts (done ++ [Tk.hx n])).length := HI.int.eq (by rw [hil]; rfl)
                have s5 : HS (upd (upd (upd m₄ (Str.ofString "c") v) (Str.ofString "decoded") (.str (S (acc ++ vals done) ++ S [n]) t₄)) (Str.ofString "i") (.int (((txts done).length : Int) + 3) t₅)) (Str.ofString "decoded") (acc ++ vals (done ++ [Tk.hx n])) := (HS.add.ne).eq (by simp [Tk.val])
                generalize upd (upd (upd m₄ (Str.ofString "c") v) (Str.ofString "decoded") (.str (S (acc ++ vals done) ++ S [n]) t₄)) (Str.ofString "i") (.int (((txts done).length : Int) + 3) t₅) = m₅ at k₅ d5 i5 s5
                refine sIf1 k₅ (eqI (nI i5) (nI d5.n)) (fun hb h₆ tk₆ k₆ => ?_) fun hb h₆ tk₆ k₆ => sNil ?_
                · have hb' : (txts (done ++ [Tk.hx n])).length = L.txt.length := by have := eq_of_beq hb; omega
                  obtain ⟨td, hd'⟩ := s5
                  refine sAugS (a := S (acc ++ vals (done ++ [Tk.hx n]))) (b := S [10]) k₆ hd' (nS d5.eol) (by simp only [S_len, List.length_append, List.length_cons, List.length_nil]; omega) fun t₇ h₇ tk₇ k₇ => sNil (sNil ?_)
                  dsimp only at k₇ ⊢
                  exact ⟨_, _, _, _, 0, rfl, k₇, by simp, rfl, d5.upd, .cl (i5.ne.eq (by rw [hb'])) (HS.add.eq (fin1 (hend hb').1 (hend hb').2))⟩
                · have hb' : (txts (done ++ [Tk.hx n])).length ≠ L.txt.length := fun z => by rw [z] at hb; simp at hb
                  exact ⟨_, _, _, _, r.length + 1, rfl, k₆, by simp, rfl, d5, .op _ r hdr' (fin2 hb') i5 s5⟩
              · have : decide (((txts done).length : Int) + 2 < (L.txt.length : Int)) = true := decide_eq_true (by omega)
                rw [this] at hb; cases hb
    · intro vs m₁ mu₁ h tk₃ hR ⟨hmu, j1, j2, j3⟩ k₃
      subst hmu
      have hn : vs.length = ls.length := by rw [strsAre_len hR, List.length_map]
      rw [hn, List.take_length] at j3
      have hlast : ∃ x, enc.getLast? = some x ∧ x = 10 := by
        have hls : ls ≠ [] := by rintro rfl; exact h0 hE.symm
        refine ⟨10, ?_, rfl⟩
        rw [← hE, ← List.dropLast_concat_getLast hls, List.flatMap_append]
        rcases he with rfl | rfl <;> simp
      obtain ⟨x, hx1, rfl⟩ := hlast
      dsimp only
      have hel : 0 < enc.length := List.length_pos_iff.mpr h0
      refine sIf1 k₃ (b := false) (tst_eq (tAnd (b₁ := false) (b₂ := false) (tst_eq (notInS (x := S [13, 10]) (y := S [10]) (evS_eq (itS (x := S enc) (i := -1) (nS j2) ?_ (by rw [S_len]; omega) (by rw [S_len]; omega) (by rw [S_len]; omega)) (item_last hx1)) cS) ?_) (fun z => by cases z)) rfl) (fun z => by cases z) fun _ h' tk' k' => ?_
      · exact negI cI
      · rw [contains_S]; rfl
      · refine sRet k' (nS j3) fun v h'' tk'' p e => ?_
        exact fin _ _ _ p (k'.base.trans e)
end
end Mine
end
section
open PySem PySem.W PyProof.Rows
open PySem.Builtin.Str PySem.StrLaws
set_option linter.unusedVariables false
namespace Mine
section
variable {prog : Program} {w : World} {A : Around} {E : Value → Shared → Prop} {s : Shared}
theorem tableLookup_list {l : Addr} {items : Array Value} {c : Nat} {x : PySem.Str} {t : Tok} {Q : Mapped → Shared → Prop} (hl : s.heap.IsList l items) (hc : c < 1000000) (hx : items[c]? = some (.str x t))
    (h : Q (.text x) { s with toks := s.toks + 1 }) : wpAny (model prog w) A (tableLookup (.ref l) c) Q E s := by
  unfold tableLookup
  refine wpAny_bind (wpAny_attempt (wpAny_bind (wpAny_mkInt (wpAny_getItem_list hl (by omega) (by omega) (by simpa using hx) ?_))))
  dsimp only
  refine wpAny_bind (wpAny_of_eq (a := none) rfl ?_)
  dsimp only
  refine wpAny_bind (wpAny_of_eq (a := some x) rfl ?_)
  exact wpAny_pure h
end
end Mine
end
section
open PySem PySem.W PyProof.Rows
open PySem.Builtin.Str PySem.StrLaws
set_option linter.unusedVariables false
namespace Mine
noncomputable def glue (ps : List PySem.Str) : Array Nat := ps.reverse.foldl (fun acc p => acc ++ p.cps) #[]
theorem glue_cons (p : PySem.Str) (ps : List PySem.Str) : glue (p :: ps) = glue ps ++ p.cps := by simp [glue, List.foldl_append]
noncomputable def TrI (L : List Nat) (f : Nat → List Nat) (rest : List Nat) (b : List PySem.Str × Nat × Bool × List (Nat × Option Nat) × Bool) : Prop :=
  ∃ done, done ++ rest = L ∧ b.2.2.2.2 = false ∧ b.2.1 = (done.flatMap f).length ∧ (glue b.1).toList = done.flatMap f ∧ ∀ c a, b.2.2.2.1.lookup c = some a → ∃ y, a = some y ∧ f c = [y]
theorem TrI.step {L : List Nat} {f : Nat → List Nat} {c : Nat} {rest : List Nat} {ps : List PySem.Str} {tot : Nat} {fa fa' : Bool} {kn kn' : List (Nat × Option Nat)} {p : PySem.Str} {n : Nat} (h : TrI L f (c :: rest) (ps, tot, fa, kn, false))
    (hp : p.cps.toList = f c) (hn : n = tot + (f c).length) (hk : ∀ c a, kn'.lookup c = some a → ∃ y, a = some y ∧ f c = [y]) : TrI L f rest (p :: ps, n, fa', kn', false) := by
  obtain ⟨done, hd, _, h2, h3, h4⟩ := h
  refine ⟨done ++ [c], by simpa using hd, rfl, ?_, ?_, hk⟩
  · simp only at h2
    simp [hn, h2]
  · simp only at h3
    simp [glue_cons, h3, hp]
theorem flat_le {L : List Nat} {f : Nat → List Nat} {done rest : List Nat} (h : done ++ rest = L) : (done.flatMap f).length ≤ (L.flatMap f).length := by
  rw [← h, List.flatMap_append, List.length_append]; omega
theorem meets_translate (x : List Nat) (f : Nat → List Nat) (t : Tok) (l : Addr) (items : Array Value) (hne : x ≠ []) (hs : (x.flatMap f).length ≤ sizeLine) (hx : ∀ c ∈ x, c < 1000000 ∧ ∃ u, items[c]? = some (.str (S (f c)) u)) :
    Meets (Builtin.«str.translate» ⟨[.str (S x) t, .ref l], []⟩) (fun _ R s => s.heap.IsList l items ∧ ∀ u k, R (.ok (.ret (.str (S (x.flatMap f)) u))) { s with toks := k }) :=
  .of_wp fun prog w A R s ⟨hl, h⟩ => by
    obtain ⟨hp, g, d, tk, os⟩ := s
    unfold Builtin.«str.translate»
    refine wpAny_bind (wpAny_of_eq (a := (.str (S x) t, S x, .ref l)) rfl ?_)
    dsimp only
    have h0 : ((S x).length == 0) = false := by rw [S_len]; cases x with | nil => exact absurd rfl hne | cons _ _ => rfl
    rw [h0, if_neg Bool.false_ne_true]
    refine wpAny_bind (MeetsSeq2.wpAny_forIn_array _ (fun rest b s' => ∃ k, s' = ⟨hp, g, d, k, os⟩ ∧ TrI x f rest b) _ ?_ ?_ _ _ ?_)
    · rintro c rest ⟨ps, tot, fa, kn, af⟩ s' ⟨k, rfl, hI⟩
      have hI' := hI
      obtain ⟨done, hd, haf, h2, h3, h4⟩ := hI
      simp only at haf h2 h3 h4
      subst haf
      have hc : c ∈ x := by rw [← hd]; simp
      obtain ⟨hc1, u, hc2⟩ := hx c hc
      have hlong : tooLong tot = false := by
        have := flat_le (f := f) hd
        unfold tooLong
        rw [h2]
        exact decide_eq_false (by omega)
      simp only [hlong, Bool.false_eq_true, if_false]
      have hlook : ∀ {Q : Mapped → Shared → Prop} {E : Value → Shared → Prop} {k : Nat}, Q (.text (S (f c))) ⟨hp, g, d, k + 1, os⟩ → wpAny (model prog w) A.in1 (tableLookup (.ref l) c) Q E ⟨hp, g, d, k, os⟩ := fun hq => tableLookup_list (s := ⟨hp, g, d, _, os⟩) hl hc1 hc2 hq
      cases fa with
      | false =>
        simp only [Bool.false_eq_true, if_false]
        refine wpAny_bind (hlook ?_)
        exact wpAny_pure ⟨_, rfl, hI'.step (S_list _) (by rw [S_len]) h4⟩
      | true =>
        simp only [if_true]
        cases hk : kn.lookup c with
        | some a =>
          obtain ⟨y, rfl, hy⟩ := h4 c a hk
          refine wpAny_bind (wpAny_pure ?_)
          exact wpAny_pure ⟨_, rfl, hI'.step (by simp [hy]) (by rw [hy]; rfl) h4⟩
        | none =>
          refine wpAny_bind (hlook ?_)
          dsimp only
          cases hq : ((S (f c)).length == 1 && (S (f c)).cps.all fun x => decide (x < 128)) with
          | true =>
            simp only [if_true]
            have hq1 : (f c).length = 1 := by
              have := (Bool.and_eq_true_iff.mp hq).1
              rw [S_len] at this
              exact eq_of_beq this
            obtain ⟨y, hy⟩ := List.length_eq_one_iff.mp hq1
            have hz : (S (f c)).cps[0]? = some y := by rw [hy]; rfl
            rw [hz]
            refine wpAny_bind (wpAny_pure ?_)
            refine wpAny_pure ⟨_, rfl, hI'.step (by simp [hy]) (by rw [hy]; rfl) ?_⟩
            intro c' a' ha
            rw [List.lookup_cons] at ha
            split at ha
            · next e => cases ha; have := eq_of_beq e; subst this; exact ⟨y, rfl, hy⟩
            · exact h4 c' a' ha
          | false =>
            simp only [Bool.false_eq_true, if_false]
            refine wpAny_bind (wpAny_pure ?_)
            dsimp only
            refine wpAny_bind (wpAny_rule ?_)
            refine wpAny_bind (hlook ?_)
            exact wpAny_pure ⟨_, rfl, hI'.step (S_list _) (by rw [S_len]) h4⟩
    · rintro ⟨ps, tot, fa, kn, af⟩ s' ⟨k, rfl, done, hd, _, h2, h3, _⟩
      simp only at h2 h3 ⊢
      have hdx : done = x := by simpa using hd
      subst hdx
      have hlong : tooLong tot = false := by
        unfold tooLong
        rw [h2]
        exact decide_eq_false (by omega)
      simp only [hlong, Bool.false_eq_true, if_false]
      have e : (⟨List.foldl (fun acc p => acc ++ p.cps) #[] ps.reverse⟩ : PySem.Str) = S (done.flatMap f) := by
        have : (glue ps) = (done.flatMap f).toArray := by rw [← h3]
        unfold glue at this
        rw [this]; rfl
      rw [e]
      unfold retStr
      refine wpAny_bind (wpAny_mkStr ?_ (by rw [S_len]; exact hs))
      exact wpAny_pure ⟨_, rfl, h _ _⟩
    · refine ⟨tk, rfl, [], by simp [S], rfl, rfl, rfl, ?_⟩
      intro c a ha; cases ha
section
variable {c : Cx} {env : Env}
theorem mTrans {o a : Expr} {apos pos : Pos} {x : List Nat} {f : Nat → List Nat} {vs : List Value} (ho : Ev c (eval o env) (IsS (S x))) (ha : Ev c (eval a env) (IsLst vs)) (hne : x ≠ []) (hs : (x.flatMap f).length ≤ sizeLine) (hx : ∀ c ∈ x, c < 1000000 ∧ ∃ u, vs[c]? = some (.str (S (f c)) u))
    (hbase : attributeBase o "translate" env (eval o env) = eval o env := by rfl) (hst : starEach [a] env = [(false, eval a env)] := by rfl) (hline : (apos.endLine == pos.line) = true := by rfl) :
    Ev c (eval (.Call (.Attribute o "translate" apos) [a] [] pos) env) (IsS (S (x.flatMap f))) :=
  meth1 ho ha F.slot_str_translate F.type_str_translate (fun t v s Q E k ⟨l, q, hl⟩ fin => by
    subst q
    exact call_meets F.slot_str_translate (typeIs_str _ _ _) F.entry_str_translate (F.args_str_translate_2 _ _) (meets_translate x f t l vs.toArray hne hs (by simpa using hx)) ⟨hl, fun u k => fin _ s.heap k ⟨u, rfl⟩ Ext.refl⟩) hbase hst hline
end
end Mine
end
section
open PySem PySem.W PyProof.Rows
set_option linter.unusedVariables false
set_option maxRecDepth 100000
namespace Mine
theorem lk_md_get : Slot "method_descriptor" "__get__" "method_descriptor.__get__" :=
  Slot.of (owner := "method_descriptor") (n := "__get__") (by rw [typeLookup_type, builtinLookup_eq_fast]; kernel_rfl) (by kernel_rfl) (by kernel_rfl) (by kernel_rfl) (.inl (by kernel_rfl)) (by rw [isSubtype_type]; kernel_rfl)
theorem lk_md_set : typeLookup (.type "method_descriptor") "__set__" = pure none := by rw [typeLookup_type, builtinLookup_eq_fast]; kernel_rfl
theorem lk_md_del : typeLookup (.type "method_descriptor") "__delete__" = pure none := by rw [typeLookup_type, builtinLookup_eq_fast]; kernel_rfl
theorem entry_md_get : entryFor table "method_descriptor.__get__" = some Builtin.«method_descriptor.__get__» := entryFor_of_tree (by kernel_rfl)
theorem args_md_get (a b c : Value) : argsOk "method_descriptor.__get__" ⟨[a, b, c], []⟩ := by unfold argsOk; kernel_rfl
theorem told_append : Manifest.toldItsClass.contains "list.append" = false := by decide +kernel
theorem owner_append : ".".intercalate ("list.append".cutAt '.').dropLast = "list" := by decide +kernel
theorem sub_list_list : isSubtype (.type "list") (.type (".".intercalate ("list.append".cutAt '.').dropLast)) = pure true := by rw [owner_append, isSubtype_type]; kernel_rfl
noncomputable def boundApp (a : Addr) : Obj := { cls := .type "builtin_function_or_method", data := .fields #[.builtin "list.append", .ref a] }
section
variable {prog : Program} {w : World} {A : Around} {E : Value → Shared → Prop} {h : Heap} {g : Array GenState} {d : Drawn} {t : Nat} {os : OsState} {a : Addr} {o : Obj}
theorem app_get {R : Result → Shared → Prop} (hx : h.get? a = some o) (hc : o.cls = .type "list") (hq : R (.ok (.ret (.ref h.objs.size))) ⟨h.push (boundApp a), g, d, t, os⟩) :
    codeAny (model prog w) A (.call (.builtin "method_descriptor.__get__") ⟨[.builtin "list.append", .ref a, .type "list"], []⟩) R ⟨h, g, d, t, os⟩ := by
  have hT : (⟨h, g, d, t, os⟩ : Shared).TypeIs (.ref a) "list" := ⟨_, hx, hc⟩
  have hT5 : (⟨h, g, d, t, os⟩ : Shared).TypeIs (.builtin "list.append") "method_descriptor" := F.type_list_append
  have f8 := sub_list_list
  have f9 := told_append
  refine codeAny_call_builtin lk_md_get.plain entry_md_get (lk_md_get.check _ _ _ _ _ _ _ _ hT5 (args_md_get _ _ _) ?_)
  iterate 6 wp_step
  refine wpAny_pure ?_
  have g1 : (Value.ref a == Value.none) = false := rfl
  have g2 : (Value.type "list" == Value.none) = false := by decide
  simp only [g1, g2, Bool.false_eq_true, if_false]
  rw [if_neg (by rw [f9]; exact Bool.false_ne_true)]
  iterate 3 wp_step
  refine wpAny_bind (wpAny_of_eq (rfl : _ = pure (_, Value.type (".".intercalate ("list.append".cutAt '.').dropLast))) ?_)
  refine wpAny_bind (wpAny_isInstance hT f8 ?_)
  refine wpAny_pure ?_
  show wpAny _ _ (newObj _ _ >>= _) _ _ _
  exact wpAny_bind (wpAny_newObj_type (wpAny_pure hq) (by size_fits))
theorem app_entry {tk : Tok} {Q : Fin → Shared → Prop} {xs : Array Value} {k : Nat} (hx : h.get? a = some { cls := .type "list", dict := none, data := .seq xs k, slots := #[] }) (hq : Q (.done (.ret (.ref h.objs.size))) ⟨h.push (boundApp a), g, d, t, os⟩) :
    wpAny (model prog w) A (Builtin.«object.__getattribute__» ⟨[.ref a, .str "append" tk], []⟩) Q E ⟨h, g, d, t, os⟩ := by
  have hT : (⟨h, g, d, t, os⟩ : Shared).TypeIs (.ref a) "list" := ⟨_, hx, rfl⟩
  have hT5 : (⟨h, g, d, t, os⟩ : Shared).TypeIs (.builtin "list.append") "method_descriptor" := F.type_list_append
  have f4 := F.slot_list_append.lookup
  have f5 := F.type_list_append
  have f6 := lk_md_get.lookup
  have f7 := lk_md_set
  have f8 := lk_md_del
  repeat (any_goals (first | assumption | wp_step))
  refine app_get hx rfl ?_
  repeat (any_goals (first | assumption | wp_step))
theorem app_attr {Q : Value → Shared → Prop} {xs : Array Value} {k : Nat} (hx : h.get? a = some { cls := .type "list", dict := none, data := .seq xs k, slots := #[] }) (hq : Q (.ref h.objs.size) ⟨h.push (boundApp a), g, d, t + 1, os⟩) :
    wpAny (model prog w) A (getAttr (.ref a) "append" true) Q E ⟨h, g, d, t, os⟩ := by
  have hT : ∀ tk', (⟨h, g, d, tk', os⟩ : Shared).TypeIs (.ref a) "list" := fun _ => ⟨_, hx, rfl⟩
  have f3 := F.slot_list_getattribute.lookup
  have f4 := F.slot_list_getattribute.bind (.ref a)
  unfold getAttr getAttrBy
  repeat (any_goals (first | assumption | exact hT _ | ((with_reducible show wpAny _ _ (call (Value.builtin "list.__getattribute__") _ _) _ _ _); refine wpAny_call (codeAny_call_builtin F.slot_list_getattribute.plain F.entry_list_ga (F.slot_list_getattribute.check _ _ _ _ _ _ _ _ (hT _) (F.args_list_getattribute_2 _ _) (app_entry hx ?_)))) | wp_step))
end
end Mine
end
section
open PySem PySem.W PyProof.Rows
set_option linter.unusedVariables false
set_option maxRecDepth 100000
namespace Mine
noncomputable def sigApp : Manifest.Signature := ⟨.oneArg, "list.append", "append", .self, [⟨"object", .posOnly, true⟩]⟩
theorem sig_app : Manifest.signature? "list.append" = some sigApp := by
  rw [signature?_of (id := "list.append") (n := ['d', 'n', 'e', 'p', 'p', 'a']) (o := ['t', 's', 'i', 'l']) (by kernel_rfl) F.owner_list]; kernel_rfl
theorem check_app (a b : Value) : Bind.checkArgs "list.append" { sigApp with full := s!"{Bind.lastOf "list"}.{Bind.lastOf "list.append"}" } ⟨[a, b], []⟩ = pure () := by kernel_rfl
theorem kind_app : builtinKind "list.append" = some .method := by kernel_rfl
theorem vm_app : Manifest.varargsMethods.contains "list.append" = false := by decide +kernel
theorem sub_list_module : isSubtype (.type "list") (.type "module") = pure false := by rw [isSubtype_type]; kernel_rfl
section
variable {prog : Program} {w : World} {A : Around} {E : Value → Shared → Prop} {s : Shared} {a b : Addr}
theorem checkBound_app {v : Value} {xs : Array Value} {k : Nat} {Q : Unit → Shared → Prop} (hx : s.heap.get? a = some { cls := .type "list", dict := none, data := .seq xs k, slots := #[] }) (h : Q () s) :
    wpAny (model prog w) A (checkBoundCall "list.append" ⟨[.ref a, v], []⟩) Q E s := by
  have hT : s.TypeIs (.ref a) "list" := ⟨_, hx, rfl⟩
  unfold checkBoundCall
  simp only [sig_app, kind_app]
  rw [if_neg (by decide)]
  refine wpAny_bind (wpAny_isInstance hT sub_list_module ?_)
  rw [vm_app]
  rw [if_neg (by decide)]
  refine wpAny_bind ?_
  unfold isType loadHead
  refine wpAny_bind (wpAny_loadPart hx (wpAny_pure ?_))
  rw [if_neg (by exact Bool.false_ne_true)]
  refine wpAny_bind (wpAny_typeOf hT ?_)
  dsimp only
  exact wpAny_of_eq (check_app _ _) h
theorem call_bound {v : Value} {xs : Array Value} {k : Nat} {Q : Value → Shared → Prop} (hb : s.heap.get? b = some (boundApp a)) (hx : s.heap.get? a = some { cls := .type "list", dict := none, data := .seq xs k, slots := #[] })
    (hsz : xs.size ≤ sizeLine) (h : ∀ h', Heap.SameBut a s.heap h' → h'.get? a = some { cls := .type "list", data := .seq (xs.push v) (k + 1) } → Q .none { s with heap := h' }) :
    wpAny (model prog w) A (call (.ref b) [v]) Q E s := by
  refine wpAny_call (codeAny_of_tree ?_)
  show wpAny _ _ (callAny (.ref b) ⟨[v], []⟩) _ _ s
  unfold callAny
  refine wpAny_bind (wpAny_load hb ?_)
  show wpAny _ _ (do checkBoundCall "list.append" ⟨[.ref a, v], []⟩; again (.builtin "list.append" ⟨[.ref a, v], []⟩)) _ _ s
  refine wpAny_bind (checkBound_app hx ?_)
  refine wpAny_pure ⟨Code.quiet_builtin _ (by decide +kernel), codeAny_builtin F.entry_list_append ?_⟩
  show wpAny _ _ (updateSeq a (·.push v) >>= fun _ => ret .none) _ _ s
  refine wpAny_bind ?_
  refine wpAny_updateSeq hx rfl (wpAny_pure (h _ (Heap.SameBut.update ..) ?_))
  rw [Heap.get?_update_self _ hx (by rw [mapSeq_push]; rfl), mapSeq_push]
end
section
variable {c : Cx} {env : Env}
variable {hh : Heap} {gs : Array GenState} {dr : Drawn} {tk₀ : Nat} {os : OsState} {Q : Flow → Shared → Prop} {E : Value → Shared → Prop}
/-- a plain list that turns -/
noncomputable def plainL (vs : List Value) (n : Nat) : Obj := { cls := .type "list", dict := none, data := .seq vs.toArray n, slots := #[] }
theorem keeps_bound {M : Model} {b : Addr} (h : Heap) (X : h.get? b = some (boundApp a)) : ∃ k, (k = Keeper.frame ∨ k = Keeper.machine ∨ k = Keeper.boundFrame) ∧ Looks M h (keeperOf (.ref b)) k :=
  ⟨.machine, .inr (.inl rfl), (Looks.ld (part := none) X).andThen .now⟩
theorem Cx.ok.change {c : Cx} {h h' : Heap} {a : Addr} {o o' : Obj} {rest : List (Addr × Obj)} (k : c.ok h) (hmu : c.mu = (a, o) :: rest) (hne : ∀ p ∈ rest, p.1 ≠ a) (hs : Heap.SameBut a h h') (ho : h'.get? a = some o') : (c.atM c.m ((a, o') :: rest)).ok h' := by
  have hw := k.own (a, o) (by rw [hmu]; simp)
  refine ⟨⟨k.fr.ns.at' fun q e => hs.extBut _ _ (fun z => hw.2.1 z.symm) e, fun b q e => hs.extBut b q (fun z => by rw [z, hw.2.2.1] at e; cases e) (k.fr.keep b q e), k.fr.above⟩,
    fun b q e z => hs.extBut b q (fun y => hw.2.2.2 q (y ▸ e) z) (k.back b q e z), fun p hp => ?_⟩
  rcases List.mem_cons.mp hp with rfl | hp
  · exact ⟨ho, hw.2⟩
  · have := k.own p (by rw [hmu]; exact List.mem_cons_of_mem _ hp)
    exact ⟨hs.extBut _ _ (hne p hp) this.1, this.2⟩
/-- append by its own name, a statement -/
theorem sApp {x : PySem.Str} {px pc ps : Pos} {e : Expr} {rest : List Stmt} {P : VP} {a b : Addr} {vs : List Value} {n : Nat} {mr : List (Addr × Obj)} (k : c.ok hh) (hb : c.m x = some (.ref b)) (hg : c.g.get? b = some (boundApp a)) (hmu : c.mu = (a, plainL vs n) :: mr) (hne : ∀ p ∈ mr, p.1 ≠ a) (hsz : vs.length ≤ sizeLine) (he : Ev c (eval e env) P)
    (h : ∀ v h₁ h' tk, P.p v h₁ → Heap.SameBut a h₁ h' → (c.atM c.m ((a, plainL (vs ++ [v]) (n + 1)) :: mr)).ok h' → wpAny (model c.prog c.w) c.A (execs rest env) Q E ⟨h', gs, dr, tk, os⟩)
    (hL : env.locals = c.L := by rfl) (hk : env.scope.kind = .function := by rfl) (hl : env.kindOf x = some .local := by rfl) (hd : (x == ("__debug__" : PySem.Str)) = false := by decide) (hi : interactive env = false := by rfl) (hsw : swapsWith (.Call (.Name x px) [e] [] pc) none ps.line env = pure false := by rfl)
    (h1 : starEach [e] env = (false, eval e env) :: starEach [] env := by rfl)
    (h2 : eval (.Call (.Name x px) [e] [] pc) env = (do let fv ← eval (.Name x px) env; callWith pc fv [] (backTo pc (starEach [e] env)) (backToKw pc (keywordEach [] env))) := by rfl) :
    wpAny (model c.prog c.w) c.A (execs (.Expr (.Call (.Name x px) [e] [] pc) ps :: rest) env) Q E ⟨hh, gs, dr, tk₀, os⟩ := by
  refine wpAny_execs_cons (wpAny_Expr ?_ hi hsw)
  refine Call_ (wpAny_Name (wpAny_loadName_local hk hl (hL ▸ k.fr.ns) hb ?_) hd) h2
  have nb : nd (boundApp a) := rfl
  rw [h1]
  refine callWith_of (P := fun h => h.get? b = some (boundApp a)) rfl keeps_bound (Calls.evalArgs_plain ?_)
  refine Calls.spliced_cons (he ⟨hh, gs, dr, tk₀, os⟩ _ E k trivial fun v h' tk p e' => Calls.spliced_nil ?_)
  have k' := k.ext e'
  have hb' := k'.back _ _ hg nb
  have ho := (k'.own (a, plainL vs n) (by rw [hmu]; simp)).1
  refine ⟨hb', call_bound hb' ho (by simpa using hsz) fun h'' hs hx => h v h' h'' tk p hs (k'.change hmu hne hs ?_)⟩
  simpa [plainL] using hx
/-- append as a method of a named list -/
theorem sAppM {x : PySem.Str} {px pa pc ps : Pos} {e : Expr} {rest : List Stmt} {P : VP} {a : Addr} {vs : List Value} {n : Nat} {mr : List (Addr × Obj)} (k : c.ok hh) (hb : c.m x = some (.ref a)) (hmu : c.mu = (a, plainL vs n) :: mr) (hne : ∀ p ∈ mr, p.1 ≠ a) (hsz : vs.length ≤ sizeLine)
    (he : ∀ (Q : Value → Shared → Prop) E, (∀ v h' tk, P.p v h' → Ext hh h' → Q v ⟨h', gs, dr, tk, os⟩) → wpAny (model c.prog c.w) c.A (eval e env) Q E ⟨hh, gs, dr, tk₀, os⟩)
    (h : ∀ v h₁ h' tk, P.p v h₁ → Ext hh h₁ → Heap.SameBut a h₁ h' → (c.atM c.m ((a, plainL (vs ++ [v]) (n + 1)) :: mr)).ok h' → wpAny (model c.prog c.w) c.A (execs rest env) Q E ⟨h', gs, dr, tk, os⟩)
    (hL : env.locals = c.L := by rfl) (hk : env.scope.kind = .function := by rfl) (hl : env.kindOf x = some .local := by rfl) (hd : (x == ("__debug__" : PySem.Str)) = false := by decide) (hi : interactive env = false := by rfl) (hsw : swapsWith (.Call (.Attribute (.Name x px) "append" pa) [e] [] pc) none ps.line env = pure false := by rfl)
    (hbase : attributeBase (.Name x px) "append" env (eval (.Name x px) env) = eval (.Name x px) env := by rfl)
    (hfew : ((backTo pc (starEach [e] env)).all (fun x => !x.1) && (backToKw pc (keywordEach [] env)).all (fun x => x.1.isSome) && decide (([e] : List Expr).length + ([] : List Keyword).length + (if ([] : List Keyword).isEmpty then 0 else 1) < 30)) = true := by rfl)
    (hline : (pa.endLine == pc.line) = true := by rfl) (ht : backTo pc (starEach [e] env) = [(false, eval e env)] := by rfl) :
    wpAny (model c.prog c.w) c.A (execs (.Expr (.Call (.Attribute (.Name x px) "append" pa) [e] [] pc) ps :: rest) env) Q E ⟨hh, gs, dr, tk₀, os⟩ := by
  refine wpAny_execs_cons (wpAny_Expr ?_ hi hsw)
  refine wpAny_Call_append hbase hfew hline ht (wpAny_Name (wpAny_loadName_local hk hl (hL ▸ k.fr.ns) hb ?_) hd)
  have ho := (k.own (a, plainL vs n) (by rw [hmu]; simp)).1
  refine ⟨a, vs.toArray, rfl, ⟨_, n, ho, rfl, rfl, rfl⟩, ?_⟩
  refine he _ _ fun v h' tk p e' => ?_
  have k' := k.ext e'
  have ho' := (k'.own (a, plainL vs n) (by rw [hmu]; simp)).1
  refine append_at (s := ⟨h', gs, dr, tk, os⟩) (n := n) ho' (fun h'' hs hx => h v h' h'' tk p e' hs (k'.change hmu hne hs ?_)) (by simpa using hsz)
  simpa [plainL] using hx
/-- the method, kept under a name -/
theorem sBound {x y : PySem.Str} {px pa py ps : Pos} {rest : List Stmt} {a : Addr} {vs : List Value} {n : Nat} (k : c.ok hh) (hb : c.m x = some (.ref a)) (hmu : (a, plainL vs n) ∈ c.mu)
    (h : ∀ b h' tk, h'.get? b = some (boundApp a) → (c.at (upd c.m y (.ref b))).ok h' → wpAny (model c.prog c.w) c.A (execs rest env) Q E ⟨h', gs, dr, tk, os⟩)
    (hL : env.locals = c.L := by rfl) (hk : env.scope.kind = .function := by rfl) (hl : env.kindOf x = some .local := by rfl) (hly : env.kindOf y = some .local := by rfl) (hd : (x == ("__debug__" : PySem.Str)) = false := by decide) (hp : (env.scope.kind == .class || (env.scope.kind == .module && env.locals != env.globals)) = false := by rfl)
    (hsw : swapsWith (.Attribute (.Name x px) "append" pa) (some (.Name y py)) ps.line env = pure false := by rfl)
    (hE : eval (.Attribute (.Name x px) "append" pa) env = (do let o ← eval (.Name x px) env; standAt pa.atName; let r ← holding [o] (getAttr o "append" true); letTemporaryGo (.Name x px) o r; pure r) := by rfl) :
    wpAny (model c.prog c.w) c.A (execs (.Assign [.Name y py] (.Attribute (.Name x px) "append" pa) ps :: rest) env) Q E ⟨hh, gs, dr, tk₀, os⟩ := by
  refine wpAny_execs_cons (wpAny_Assign_Name ?_ hsw)
  rw [hE]
  refine wpAny_bind (wpAny_Name (wpAny_loadName_local hk hl (hL ▸ k.fr.ns) hb (wpAny_bind (wpAny_standAt (wpAny_bind (wpAny_holding (app_attr (k.own _ hmu).1 ?_)))))) hd)
  refine wpAny_bind (wpAny_of_eq (a := ()) rfl (wpAny_pure ?_))
  refine st1 (k.ext (Ext.push _)) (fun h'' tk' d k' => h _ h'' tk' (d _ _ (Heap.get?_push_size _ rfl) rfl) k') hL hly hp
end
end Mine
end
section
open PySem PySem.W PyProof.Rows
set_option linter.unusedVariables false
namespace Mine
/-- signs that stand as they are -/
noncomputable def plainSign (c : Nat) : Bool := c == 9 || (decide (32 ≤ c) && decide (c ≤ 126) && c != 61)
noncomputable def tok (c : Nat) : Tk := if plainSign c then .ch c else .hx c
noncomputable def blank (c : Nat) : Bool := c == 32 || c == 9
noncomputable def closeT (ts : List Tk) : List Tk := match ts.getLast? with
  | some (.ch c) => if blank c then ts.dropLast ++ [.hx c] else ts
  | _ => ts
noncomputable def cut : Nat → List Tk → List Tk × List Tk
  | _, [] => ([], [])
  | r, t :: ts => if t.txt.length ≤ r then (t :: (cut (r - t.txt.length) ts).1, (cut (r - t.txt.length) ts).2) else ([], t :: ts)
noncomputable def lnsF : Nat → Nat → List Tk → List Ln
  | 0, _, ts => [⟨closeT ts, false⟩]
  | f + 1, n, ts => if n < (txts (closeT ts)).length then ⟨(cut (n - 1) ts).1, true⟩ :: lnsF f n (cut (n - 1) ts).2 else [⟨closeT ts, false⟩]
noncomputable def lns (n : Nat) (ts : List Tk) : List Ln := lnsF ts.length n ts
theorem txt_len (t : Tk) : t.txt.length = 1 ∨ t.txt.length = 3 := by cases t <;> simp [Tk.txt]
theorem txts_append (a b : List Tk) : txts (a ++ b) = txts a ++ txts b := by simp [txts]
theorem txts_cons (t : Tk) (b : List Tk) : txts (t :: b) = t.txt ++ txts b := by simp [txts]
theorem cut_app : ∀ (r : Nat) (ts : List Tk), (cut r ts).1 ++ (cut r ts).2 = ts
  | _, [] => rfl
  | r, t :: ts => by
    unfold cut
    split
    · simp [cut_app]
    · rfl
theorem cut_len : ∀ (r : Nat) (ts : List Tk), (txts (cut r ts).1).length ≤ r
  | _, [] => by simp [cut]
  | r, t :: ts => by
    unfold cut
    split
    · rename_i h
      have := cut_len (r - t.txt.length) ts
      rw [txts_cons, List.length_append]
      omega
    · simp
theorem cut_next : ∀ (r : Nat) (ts : List Tk) (t : Tk) (b : List Tk), (cut r ts).2 = t :: b → r < (txts (cut r ts).1).length + t.txt.length
  | _, [], t, b, h => by simp [cut] at h
  | r, t' :: ts, t, b, h => by
    unfold cut at h ⊢
    split
    · rename_i hl
      rw [if_pos hl] at h
      have := cut_next (r - t'.txt.length) ts t b h
      rw [txts_cons, List.length_append]
      omega
    · rename_i hl
      rw [if_neg hl] at h
      simp at h
      rw [← h.1]
      simp
      omega
theorem cut_ne {r : Nat} {ts : List Tk} (hr : 3 ≤ r) (h : ts ≠ []) : (cut r ts).1 ≠ [] := by
  cases ts with
  | nil => exact absurd rfl h
  | cons t ts =>
    unfold cut
    rcases txt_len t with e | e <;> (rw [if_pos (by omega)]; simp)
theorem cut_all : ∀ (r : Nat) (ts : List Tk), (txts ts).length ≤ r → cut r ts = (ts, [])
  | _, [], _ => rfl
  | r, t :: ts, h => by
    rw [txts_cons, List.length_append] at h
    unfold cut
    rw [if_pos (by omega), cut_all _ ts (by omega)]
theorem cut_snoc : ∀ (r : Nat) (ts : List Tk) (t : Tk), (txts ts).length ≤ r → r < (txts ts).length + t.txt.length → cut r (ts ++ [t]) = (ts, [t])
  | r, [], t, _, h => by
    rw [List.nil_append]
    have h2 : r < t.txt.length := by simpa using h
    simp only [cut]
    rw [if_neg (by omega)]
  | r, t' :: ts, t, h, h' => by
    rw [txts_cons, List.length_append] at h h'
    rw [List.cons_append]
    unfold cut
    rw [if_pos (by omega), cut_snoc _ ts t (by omega) (by omega)]
theorem closeT_nil : closeT [] = [] := rfl
theorem closeT_blank {ts : List Tk} {c : Nat} (h : blank c = true) : closeT (ts ++ [.ch c]) = ts ++ [.hx c] := by
  unfold closeT; simp [h]
theorem closeT_other {ts : List Tk} (h : ∀ c, ts.getLast? = some (.ch c) → blank c = false) : closeT ts = ts := by
  unfold closeT
  split
  · rename_i c hc
    rw [h c hc]; rfl
  · rfl
theorem closeT_drop {a b : List Tk} (hb : b ≠ []) : closeT (a ++ b) = a ++ closeT b := by
  unfold closeT
  rw [List.getLast?_append]
  cases h : b.getLast? with
  | none => rw [List.getLast?_eq_none_iff] at h; exact absurd h hb
  | some x =>
    cases x with
    | hx n => simp
    | ch c =>
      simp only [Option.some_or]
      split
      · rw [List.dropLast_append_of_ne_nil hb, List.append_assoc]
      · rfl
theorem closeT_len_ge (ts : List Tk) : (txts ts).length ≤ (txts (closeT ts)).length := by
  rcases List.eq_nil_or_concat ts with rfl | ⟨a, t, rfl⟩
  · simp [closeT]
  · rw [List.concat_eq_append, closeT_drop (by simp), txts_append, txts_append, List.length_append, List.length_append]
    have : (txts [t]).length ≤ (txts (closeT [t])).length := by
      cases t with
      | hx n => simp [closeT]
      | ch c =>
        unfold closeT
        simp only [List.getLast?_singleton]
        split <;> simp [Tk.txt]
    omega
theorem closeT_length (ts : List Tk) : (closeT ts).length = ts.length := by
  rcases List.eq_nil_or_concat ts with rfl | ⟨a, t, rfl⟩
  · simp [closeT]
  · rw [List.concat_eq_append, closeT_drop (by simp), List.length_append, List.length_append]
    congr 1
    cases t with
    | hx n => simp [closeT]
    | ch c =>
      unfold closeT
      simp only [List.getLast?_singleton]
      split <;> simp
theorem cut_shorter {r : Nat} {ts : List Tk} (hr : 3 ≤ r) (h : ts ≠ []) : (cut r ts).2.length < ts.length := by
  have e := congrArg List.length (cut_app r ts)
  rw [List.length_append] at e
  have := List.length_pos_iff.mpr (cut_ne hr h)
  omega
theorem lnsF_any : ∀ (f f' n : Nat) (ts : List Tk), 4 ≤ n → ts.length ≤ f → ts.length ≤ f' → lnsF f n ts = lnsF f' n ts
  | 0, 0, n, ts, _, _, _ => rfl
  | 0, f' + 1, n, ts, hn, h, _ => by
    have : ts = [] := List.length_eq_zero_iff.mp (by omega)
    subst this
    simp [lnsF, closeT_nil]
  | f + 1, 0, n, ts, hn, _, h => by
    have : ts = [] := List.length_eq_zero_iff.mp (by omega)
    subst this
    simp [lnsF, closeT_nil]
  | f + 1, f' + 1, n, ts, hn, h, h' => by
    unfold lnsF
    split
    · rename_i hl
      have hne : ts ≠ [] := by rintro rfl; simp [closeT_nil] at hl
      have := cut_shorter (r := n - 1) (by omega) hne
      rw [lnsF_any f f' n _ hn (by omega) (by omega)]
    · rfl
theorem lns_soft {n : Nat} {ts : List Tk} (hn : 4 ≤ n) (h : n < (txts (closeT ts)).length) : lns n ts = ⟨(cut (n - 1) ts).1, true⟩ :: lns n (cut (n - 1) ts).2 := by
  have hne : ts ≠ [] := by rintro rfl; simp [closeT_nil] at h
  obtain ⟨t, r, rfl⟩ := List.exists_cons_of_ne_nil hne
  have := cut_shorter (r := n - 1) (by omega) hne
  unfold lns
  rw [List.length_cons, lnsF, if_pos h, lnsF_any _ _ n _ hn (by simp at this; omega) (Nat.le_refl _)]
theorem lns_hard {n : Nat} {ts : List Tk} (h : (txts (closeT ts)).length ≤ n) : lns n ts = [⟨closeT ts, false⟩] := by
  unfold lns
  cases ts with
  | nil => rfl
  | cons t r => rw [List.length_cons, lnsF, if_neg (by omega)]
theorem lns_nil {n : Nat} : lns n [] = [⟨[], false⟩] := lns_hard (by simp [closeT_nil])
/-- the end of a row that goes into the length -/
theorem lns_end_other {n : Nat} {ts : List Tk} (h : (txts ts).length ≤ n) (hb : ∀ c, ts.getLast? = some (.ch c) → blank c = false) : lns n ts = [⟨ts, false⟩] := by
  have := closeT_other hb
  rw [lns_hard (by rw [this]; exact h), this]
theorem txts_hx (a : List Tk) (c : Nat) : (txts (a ++ [.hx c])).length = (txts a).length + 3 := by simp [Tk.txt]
theorem txts_ch (a : List Tk) (c : Nat) : (txts (a ++ [.ch c])).length = (txts a).length + 1 := by simp [Tk.txt]
theorem lns_end3 {n : Nat} {a : List Tk} {c : Nat} (hb : blank c = true) (h : (txts a).length + 3 ≤ n) : lns n (a ++ [.ch c]) = [⟨a ++ [.hx c], false⟩] := by
  rw [lns_hard (by rw [closeT_blank hb, txts_hx]; exact h), closeT_blank hb]
theorem lns_end2 {n : Nat} {a : List Tk} {c : Nat} (hn : 4 ≤ n) (hb : blank c = true) (h : (txts a).length + 2 = n) : lns n (a ++ [.ch c]) = [⟨a ++ [.ch c], true⟩, ⟨[], false⟩] := by
  rw [lns_soft hn (by rw [closeT_blank hb, txts_hx]; omega), cut_all _ _ (by rw [txts_ch]; omega), lns_nil]
theorem lns_end1 {n : Nat} {a : List Tk} {c : Nat} (hn : 4 ≤ n) (hb : blank c = true) (h : (txts a).length + 1 = n) : lns n (a ++ [.ch c]) = [⟨a, true⟩, ⟨[.hx c], false⟩] := by
  rw [lns_soft hn (by rw [closeT_blank hb, txts_hx]; omega), cut_snoc _ _ _ (by omega) (by show n - 1 < (txts a).length + 1; omega)]
  have := lns_end3 (n := n) (a := []) (c := c) hb (by simp; omega)
  rw [List.nil_append, List.nil_append] at this
  rw [this]
/-! the signs before a cut -/
theorem dig_ne (d : Nat) (h : d < 16) : dig d ≠ 61 := by unfold dig; split <;> omega
theorem last_ne {a : List Tk} (hok : ∀ t ∈ a, t.ok) {x : Nat} (h : (txts a)[(txts a).length - 1]? = some x) (ha : a ≠ []) : x ≠ 61 := by
  rcases List.eq_nil_or_concat a with rfl | ⟨b, t, rfl⟩
  · exact absurd rfl ha
  · rw [List.concat_eq_append] at h hok
    have hto := hok t (by simp)
    rw [txts_append] at h
    cases t with
    | ch c =>
      simp [Tk.txt] at h
      subst h; exact hto
    | hx n =>
      simp [Tk.txt] at h
      subst h
      exact dig_ne _ (Nat.mod_lt _ (by decide))
theorem last2_ne {a : List Tk} (hok : ∀ t ∈ a, t.ok) {x : Nat} (h : (txts a)[(txts a).length - 2]? = some x) (ha : 2 ≤ (txts a).length) : x ≠ 61 := by
  rcases List.eq_nil_or_concat a with rfl | ⟨b, t, rfl⟩
  · simp at ha
  · rw [List.concat_eq_append] at h hok ha
    have hto := hok t (by simp)
    rw [txts_append] at h ha
    cases t with
    | ch c =>
      simp only [List.length_append, List.flatMap_cons, List.flatMap_nil, List.append_nil, Tk.txt, List.length_cons, List.length_nil] at h ha
      rw [List.getElem?_append_left (by omega)] at h
      refine last_ne (a := b) (fun t ht => hok t (by simp [ht])) ?_ (by rintro rfl; simp at ha)
      rw [← h]; congr 1
    | hx n =>
      simp only [List.length_append, List.flatMap_cons, List.flatMap_nil, List.append_nil, Tk.txt, List.length_cons, List.length_nil] at h ha
      rw [List.getElem?_append_right (by omega), show (txts b).length + (0 + 1 + 1 + 1) - 2 - (txts b).length = 1 by omega] at h
      simp at h
      subst h
      have : n < 256 := hto
      exact dig_ne _ (by omega)
/-! sizes -/
theorem txts_le3 (ts : List Tk) : (txts ts).length ≤ 3 * ts.length := by
  induction ts with
  | nil => simp
  | cons t r ih => rw [txts_cons, List.length_append, List.length_cons]; rcases txt_len t with e | e <;> omega
theorem lns_size {e : List Nat} (he : e.length ≤ 2) {n : Nat} (hn : 4 ≤ n) : ∀ (k : Nat) (ts : List Tk), ts.length ≤ k → ((lns n ts).flatMap fun l => l.txt ++ e).length ≤ 6 * ts.length + 2
  | k, ts, hk => by
    by_cases h : n < (txts (closeT ts)).length
    · have hne : ts ≠ [] := by rintro rfl; simp [closeT_nil] at h
      have hs := cut_shorter (r := n - 1) (by omega) hne
      have h1 := List.length_pos_iff.mpr hne
      cases k with
      | zero => omega
      | succ k =>
        have ih := lns_size he hn k (cut (n - 1) ts).2 (by omega)
        rw [lns_soft hn h]
        have e1 := congrArg List.length (cut_app (n - 1) ts)
        rw [List.length_append] at e1
        have h2 := List.length_pos_iff.mpr (cut_ne (r := n - 1) (by omega) hne)
        have h3 := txts_le3 (cut (n - 1) ts).1
        simp only [List.flatMap_cons, List.length_append, Ln.txt, if_true, List.length_cons, List.length_nil]
        simp only [Ln.txt] at ih
        omega
    · rw [lns_hard (by omega)]
      have h1 := txts_le3 (closeT ts)
      rw [closeT_length] at h1
      simp [Ln.txt]
      simp at h1
      omega
theorem tok_ok {c : Nat} (h : c < 256) : (tok c).ok := by
  unfold tok
  split
  · rename_i hp
    intro e; subst e; simp [plainSign] at hp
  · exact h
theorem tok_val (c : Nat) : (tok c).val = c := by unfold tok; split <;> rfl
end Mine
end
section
open PySem PySem.W PyProof.Rows
set_option linter.unusedVariables false
set_option maxRecDepth 100000
namespace Mine
noncomputable abbrev Cx.re (c : Cx) (m' : PySem.Str → Option Value) (mu' : List (Addr × Obj)) (g' : Heap) : Cx := { c with m := m', mu := mu', g := g' }
theorem Cx.ok.rebase {c : Cx} {h : Heap} (k : c.ok h) : ({ c with g := hideAll h (c.mu.map (·.1)) } : Cx).ok h ∧ ExtD c.g (hideAll h (c.mu.map (·.1))) :=
  ⟨⟨k.fr, fun b o e _ => of_hideAll _ e, fun p hp => ⟨(k.own p hp).1, (k.own p hp).2.1, (k.own p hp).2.2.1, .none (hideAll_none _ (List.mem_map_of_mem hp))⟩⟩,
   fun b o e z => hideAll_get _ (k.back b o e z) fun y => by
      obtain ⟨p, hp, e'⟩ := List.mem_map.mp y
      exact (k.own p hp).2.2.2 o (e' ▸ e) z⟩
section
variable {c : Cx} {env : Env}
variable {hh : Heap} {gs : Array GenState} {dr : Drawn} {tk₀ : Nat} {os : OsState} {Q : Flow → Shared → Prop} {E : Value → Shared → Prop}
/-- a new empty list under a name: it turns from now on -/
theorem sNewL {x : PySem.Str} {px pe ps : Pos} {rest : List Stmt} (k : c.ok hh)
    (h : ∀ a g' h' tk, ExtD c.g g' → (c.re (upd c.m x (.ref a)) ((a, plainL [] 0) :: c.mu) g').ok h' → (∀ p ∈ c.mu, p.1 ≠ a) → wpAny (model c.prog c.w) c.A (execs rest env) Q E ⟨h', gs, dr, tk, os⟩)
    (hL : env.locals = c.L := by rfl) (hl : env.kindOf x = some .local := by rfl) (hp : (env.scope.kind == .class || (env.scope.kind == .module && env.locals != env.globals)) = false := by rfl)
    (hsw : swapsWith (.List [] pe) (some (.Name x px)) ps.line env = pure false := by rfl) :
    wpAny (model c.prog c.w) c.A (execs (.Assign [.Name x px] (.List [] pe) ps :: rest) env) Q E ⟨hh, gs, dr, tk₀, os⟩ := by
  refine wpAny_execs_cons (wpAny_Assign_Name (List_ (spliced_none (wpAny_newObj_type ?_ (by show (#[] : Array Value).size ≤ sizeLine; decide)))) hsw)
  have e : Ext hh (hh.push (plainL [] 0)) := Ext.push _
  have ho : (hh.push (plainL [] 0)).get? hh.objs.size = some (plainL [] 0) := Heap.get?_push_size _ rfl
  have k₁ := k.ext e
  refine st1 k₁ (fun h'' tk' d k' => ?_) hL hl hp
  have nda : nd (plainL [] 0) := rfl
  have ho' := d _ _ ho nda
  have hne : ∀ p ∈ c.mu, p.1 ≠ hh.objs.size := fun p hp => Nat.ne_of_lt (Heap.lt_size (k.own p hp).1)
  have h0 : c.h₀.get? hh.objs.size = none := by
    cases z : c.h₀.get? hh.objs.size with
    | none => rfl
    | some o => exact absurd (Heap.lt_size (k.base _ _ z)) (Nat.lt_irrefl _)
  have hLa : hh.objs.size ≠ c.L := fun z => Nat.lt_irrefl _ (z ▸ k.fr.ns.lt)
  refine h hh.objs.size (hideAll h'' (hh.objs.size :: c.mu.map (·.1))) h'' tk' ?_ ⟨k'.fr, fun b o e _ => of_hideAll _ e, fun p hp => ?_⟩ hne
  · intro b o e z
    refine hideAll_get _ (k'.back b o e z) fun y => ?_
    rcases List.mem_cons.mp y with rfl | y
    · exact absurd (Heap.lt_size (k.back _ _ e z)) (Nat.lt_irrefl _)
    · obtain ⟨p, hp, e'⟩ := List.mem_map.mp y
      exact (k.own p hp).2.2.2 o (e' ▸ e) z
  · rcases List.mem_cons.mp hp with rfl | hp
    · exact ⟨ho', hLa, h0, .none (hideAll_none _ (by simp))⟩
    · have := k'.own p hp
      exact ⟨this.1, this.2.1, this.2.2.1, .none (hideAll_none _ (List.mem_cons_of_mem _ (List.mem_map_of_mem hp)))⟩
/-- the method kept under a name, and looked back at -/
theorem sBoundG {x y : PySem.Str} {px pa py ps : Pos} {rest : List Stmt} {a : Addr} {vs : List Value} {n : Nat} (k : c.ok hh) (hb : c.m x = some (.ref a)) (hmu : c.mu = [(a, plainL vs n)])
    (h : ∀ b g' h' tk, ExtD c.g g' → g'.get? b = some (boundApp a) → (c.re (upd c.m y (.ref b)) c.mu g').ok h' → wpAny (model c.prog c.w) c.A (execs rest env) Q E ⟨h', gs, dr, tk, os⟩)
    (hL : env.locals = c.L := by rfl) (hk : env.scope.kind = .function := by rfl) (hl : env.kindOf x = some .local := by rfl) (hly : env.kindOf y = some .local := by rfl) (hd : (x == ("__debug__" : PySem.Str)) = false := by decide) (hp : (env.scope.kind == .class || (env.scope.kind == .module && env.locals != env.globals)) = false := by rfl)
    (hsw : swapsWith (.Attribute (.Name x px) "append" pa) (some (.Name y py)) ps.line env = pure false := by rfl)
    (hE : eval (.Attribute (.Name x px) "append" pa) env = (do let o ← eval (.Name x px) env; standAt pa.atName; let r ← holding [o] (getAttr o "append" true); letTemporaryGo (.Name x px) o r; pure r) := by rfl) :
    wpAny (model c.prog c.w) c.A (execs (.Assign [.Name y py] (.Attribute (.Name x px) "append" pa) ps :: rest) env) Q E ⟨hh, gs, dr, tk₀, os⟩ := by
  refine sBound k hb (hmu ▸ List.mem_singleton.mpr rfl) (fun b h' tk hbo k' => ?_) hL hk hl hly hd hp hsw hE
  obtain ⟨k₂, e₂⟩ := k'.rebase
  refine h b _ h' tk e₂ (hideAll_get _ hbo fun z => ?_) k₂
  have hmu' : b ∈ c.mu.map (·.1) := z
  rw [hmu] at hmu'
  simp at hmu'
  subst hmu'
  have := (k'.own (b, plainL vs n) (by show _ ∈ c.mu; rw [hmu]; simp)).1
  rw [hbo] at this
  have hc : Value.type "builtin_function_or_method" = Value.type "list" := congrArg Obj.cls (Option.some.inj this)
  exact absurd hc (by decide)
end
section
variable {prog : Program} {w : World} {A : Around} {h₀ : Heap}
noncomputable def strAt (l : List Value) (c : Nat) (x : List Nat) : Bool := match l[c]? with | some (.str y _) => y.cps.toList == x | _ => false
theorem strAt_of {l : List Value} {c : Nat} {x : List Nat} (h : strAt l c x = true) : ∃ u, l[c]? = some (.str (S x) u) := by
  unfold strAt at h
  split at h
  · rename_i y t e
    have := eq_of_beq h
    exact ⟨t, by rw [e, ← this, S_cps]⟩
  · cases h
noncomputable def encS (c : Nat) : List Nat := if c == 10 || c == 13 then [c] else (tok c).txt
noncomputable def l53 : List Value := ((setCs 1463 bb base256).set 13 (.str ⟨#[13]⟩ 1764)).set 10 (.str ⟨#[10]⟩ 1767)
theorem enc_all : ((List.range 256).all fun c => strAt l53 c (encS c)) = true := by decide +kernel
theorem hex_all : ((List.range 256).all fun c => strAt base256 c (Tk.hx c).txt) = true := by decide +kernel
theorem enc_at {c : Nat} (h : c < 256) : ∃ u, l53[c]? = some (.str (S (encS c)) u) := strAt_of (List.all_eq_true.mp enc_all c (List.mem_range.mpr h))
theorem hex_at {c : Nat} (h : c < 256) : ∃ u, base256[c]? = some (.str (S (Tk.hx c).txt) u) := strAt_of (List.all_eq_true.mp hex_all c (List.mem_range.mpr h))
theorem quote_ctr {n : Nat} {t : Tok} (G : Gd w h₀) (hr : A.depth < recursionLimit) (hn : n < 256) : Ctr prog w A h₀ (call (.ref 51) [.str (S [n]) t]) (IsS (S (Tk.hx n).txt)).p := by
  obtain ⟨p, lo, mg, mb, T₀⟩ := G.T
  refine ctr_fn [(Str.ofString "c", .str (S [n]) t)] (G.X 51 (x51_0 w.params) (by rfl)) (codeRec_of G.X (by rfl)) T₀.nolimit hr (fun s _ => BindsTo.of_eq (by rfl)) (by rfl) (by rfl) ?_
  intro hp gs dr os h₁ tk Q hx hx₁ k fin
  have X : (KK w.params).In hp := G.X.keeps hx
  have T := T₀.keeps hx
  obtain ⟨u, hu⟩ := hex_at hn
  have hm : HS (fun y => ([(Str.ofString "c", Value.str (S [n]) t)] : List (PySem.Str × Value)).reverse.lookup y) (Str.ofString "c") [n] := ⟨t, rfl⟩
  refine sRet k ?_ (fun v h' tk p e => fin _ _ _ p (hx₁.trans e)) (P := IsS (S (Tk.hx n).txt))
  refine EvF.mono (itL (vs := base256) (i := (n : Int)) (v := .str (S (Tk.hx n).txt) u) (glL (a := 24) (o := x24_0 w.params) X T (by rfl) (by rfl) rfl rfl) ?_ (by omega) (by omega) (by simpa using hu)) (fun v h q => ⟨u, q⟩)
  refine callB1 (P := IsS (S [n])) (bl X T (by rfl) boot_ord) (nS hm) ?_
  intro v s' Q' E' _ ⟨_, e⟩ f
  subst e
  exact ord_of_one (by rw [S_len]; rfl) (f _ s'.heap _ ⟨_, rfl⟩ Ext.refl)
end
end Mine
end
section
open PySem PySem.W PyProof.Rows
set_option linter.unusedVariables false
namespace Mine
theorem take_one (l r : List Nat) (x : Nat) : (l ++ x :: r).take (l.length + 1) = l ++ [x] := by
  rw [List.take_append, List.take_of_length_le (by omega)]; simp
theorem cut_cases {n : Nat} {rest : List Tk} (hn : 4 ≤ n) (hok : ∀ t ∈ rest, t.ok) (h : n < (txts rest).length) :
    ∃ x y, (txts rest)[n - 3]? = some x ∧ (txts rest)[n - 2]? = some y ∧
      ((x = 61 ∧ (txts (cut (n - 1) rest).1).length = n - 3 ∧ (txts rest).take (n - 2) = txts (cut (n - 1) rest).1 ++ [61]) ∨
       (x ≠ 61 ∧ y = 61 ∧ (txts (cut (n - 1) rest).1).length = n - 2 ∧ (txts rest).take (n - 1) = txts (cut (n - 1) rest).1 ++ [61]) ∨
       (x ≠ 61 ∧ y ≠ 61 ∧ (txts (cut (n - 1) rest).1).length = n - 1 ∧ (txts rest).take (n - 1) = txts (cut (n - 1) rest).1)) := by
  have happ := cut_app (n - 1) rest
  have hle := cut_len (n - 1) rest
  have hnx := cut_next (n - 1) rest
  have hne : (cut (n - 1) rest).1 ≠ [] := cut_ne (by omega) (by rintro rfl; simp at h)
  generalize (cut (n - 1) rest).1 = a at *
  generalize (cut (n - 1) rest).2 = b at *
  subst happ
  rw [txts_append] at h ⊢
  rw [List.length_append] at h
  have hoka : ∀ t ∈ a, t.ok := fun t ht => hok t (by simp [ht])
  cases b with
  | nil => simp at h; simp at hle; omega
  | cons t b =>
    have h1 := hnx t b rfl
    rw [txts_cons]
    have fa : (txts a).length = n - 1 → ∃ x y, (txts a ++ (t.txt ++ txts b))[n - 3]? = some x ∧ (txts a ++ (t.txt ++ txts b))[n - 2]? = some y ∧ x ≠ 61 ∧ y ≠ 61 := fun hl => by
      have e1 : (txts a)[n - 3]? = some ((txts a)[n - 3]'(by omega)) := List.getElem?_eq_getElem _
      have e2 : (txts a)[n - 2]? = some ((txts a)[n - 2]'(by omega)) := List.getElem?_eq_getElem _
      refine ⟨_, _, by rw [List.getElem?_append_left (by omega)]; exact e1, by rw [List.getElem?_append_left (by omega)]; exact e2, ?_, ?_⟩
      · exact last2_ne hoka (by rw [show (txts a).length - 2 = n - 3 by omega]; exact e1) (by omega)
      · exact last_ne hoka (by rw [show (txts a).length - 1 = n - 2 by omega]; exact e2) hne
    cases t with
    | ch c =>
      have hl : (txts a).length = n - 1 := by simp [Tk.txt] at h1 hle ⊢; omega
      obtain ⟨x, y, e1, e2, e3, e4⟩ := fa hl
      exact ⟨x, y, e1, e2, .inr (.inr ⟨e3, e4, hl, by rw [← hl, List.take_left]⟩)⟩
    | hx v =>
      have hl : (txts a).length = n - 1 ∨ (txts a).length = n - 2 ∨ (txts a).length = n - 3 := by simp [Tk.txt] at h1 hle ⊢; omega
      rcases hl with hl | hl | hl
      · obtain ⟨x, y, e1, e2, e3, e4⟩ := fa hl
        exact ⟨x, y, e1, e2, .inr (.inr ⟨e3, e4, hl, by rw [← hl, List.take_left]⟩)⟩
      · clear fa
        have e1 : (txts a)[n - 3]? = some ((txts a)[n - 3]'(by omega)) := List.getElem?_eq_getElem _
        refine ⟨(txts a)[n - 3]'(by omega), 61, by rw [List.getElem?_append_left (by omega)]; exact e1, by rw [List.getElem?_append_right (by omega), hl, Nat.sub_self]; rfl, .inr (.inl ⟨?_, rfl, hl, ?_⟩)⟩
        · exact last_ne hoka (by rw [show (txts a).length - 1 = n - 3 by omega]; exact e1) hne
        · have e := take_one (txts a) ([dig (v / 16), dig (v % 16)] ++ txts b) 61
          have e' : n - 1 = (txts a).length + 1 := by omega
          rw [e']; exact e
      · clear fa
        refine ⟨61, dig (v / 16), by rw [List.getElem?_append_right (by omega), hl, Nat.sub_self]; rfl, by rw [List.getElem?_append_right (by omega), hl, show n - 2 - (n - 3) = 1 by omega]; rfl, .inl ⟨rfl, hl, ?_⟩⟩
        have e := take_one (txts a) ([dig (v / 16), dig (v % 16)] ++ txts b) 61
        have e' : n - 2 = (txts a).length + 1 := by omega
        rw [e']; exact e
theorem join_size {e : List Nat} : ∀ (xs : List (List Nat)), (((xs ++ [[]]).map S).map (fun x : PySem.Str => x.length)).sum + ((xs ++ [[]]).map S).length * (S e).length = (xs.flatMap (· ++ e)).length + e.length
  | [] => by simp [S_len]
  | x :: xs => by
    have ih := join_size (e := e) xs
    simp only [S_len, List.cons_append, List.map_cons, List.sum_cons, List.length_cons, List.flatMap_cons, List.length_append, Nat.add_mul, Nat.one_mul] at ih ⊢
    omega
theorem join_flat {e : List Nat} : ∀ (xs : List (List Nat)), List.intercalate e (xs ++ [[]]) = xs.flatMap (· ++ e)
  | [] => by simp [List.intercalate]
  | x :: xs => by
    have ih := join_flat (e := e) xs
    obtain ⟨y, ys, hy⟩ : ∃ y ys, xs ++ [[]] = y :: ys := by cases xs with | nil => exact ⟨_, _, rfl⟩ | cons a b => exact ⟨_, _, rfl⟩
    rw [List.cons_append, hy, List.flatMap_cons, ← ih, hy]
    simp [List.intercalate, List.intersperse]
end Mine
end
section
open PySem PySem.W PyProof.Rows
set_option linter.unusedVariables false
set_option maxRecDepth 100000
set_option maxHeartbeats 2000000
namespace Mine
noncomputable def lnsOf (n : Nat) (row : List Nat) : List Ln := lns n (row.map tok)
noncomputable abbrev flatE (e : List Nat) (ls : List Ln) : List Nat := ls.flatMap fun l => l.txt ++ e
theorem flat_snoc (e : List Nat) (xs : List (List Nat)) (x r : List Nat) : (xs ++ [x]).flatMap (· ++ e) ++ r = xs.flatMap (· ++ e) ++ ((x ++ e) ++ r) := by
  rw [List.flatMap_append, List.append_assoc]; simp
noncomputable def rowTxt (r : List Nat) : List Nat := txts (r.map tok)
theorem encS_row {r : List Nat} (h : ∀ c ∈ r, c ≠ 10 ∧ c ≠ 13) : r.flatMap encS = rowTxt r := by
  unfold rowTxt txts
  rw [List.flatMap_map]
  induction r with
  | nil => rfl
  | cons c r ih =>
    have := h c (by simp)
    rw [List.flatMap_cons, List.flatMap_cons, ih fun c hc => h c (by simp [hc])]
    congr 1
    unfold encS
    have e1 : (c == 10 || c == 13) = false := by simp [this.1, this.2]
    rw [e1]; rfl
theorem encS_rows : ∀ {rows : List (List Nat)} (h : ∀ r ∈ rows, ∀ c ∈ r, c ≠ 10 ∧ c ≠ 13), (rows.flatMap (· ++ [10])).flatMap encS = (rows.map rowTxt).flatMap (· ++ [10])
  | [], _ => rfl
  | r :: rows, h => by
    have ih := encS_rows (rows := rows) fun r hr => h r (by simp [hr])
    simp only [List.flatMap_cons, List.map_cons, List.flatMap_append]
    rw [ih, encS_row (h r (by simp))]
    simp [encS]
theorem nb_all : ((List.range 256).all fun c => (tok c).txt.all fun x => !Unicode.isLineBreak x) = true := by decide +kernel
theorem tok_nb {c x : Nat} (h : c < 256) (hx : x ∈ (tok c).txt) : Unicode.isLineBreak x = false := by
  have := List.all_eq_true.mp (List.all_eq_true.mp nb_all c (List.mem_range.mpr h)) x hx
  simpa using this
theorem row_nb {r : List Nat} (h : ∀ c ∈ r, c < 256) : ∀ x ∈ rowTxt r, Unicode.isLineBreak x = false := by
  intro x hx
  unfold rowTxt txts at hx
  rw [List.flatMap_map] at hx
  obtain ⟨c, hc, hx⟩ := List.mem_flatMap.mp hx
  exact tok_nb (h c hc) hx
structure Rows (rows : List (List Nat)) : Prop where
  ne : rows ≠ []
  len : rows.length ≤ 100
  row : ∀ r ∈ rows, r.length ≤ 100 ∧ ∀ c ∈ r, c < 256 ∧ c ≠ 10 ∧ c ≠ 13
theorem sum_le {α β : Type} (f : α → List β) (b : Nat) : ∀ l : List α, (∀ x ∈ l, (f x).length ≤ b) → (l.flatMap f).length ≤ b * l.length
  | [], _ => by simp
  | x :: l, h => by
    have := sum_le f b l fun y hy => h y (by simp [hy])
    have := h x (by simp)
    rw [List.flatMap_cons, List.length_append, List.length_cons, Nat.mul_succ]; omega
theorem rowTxt_len (r : List Nat) : (rowTxt r).length ≤ 3 * r.length := by have := txts_le3 (r.map tok); rwa [List.length_map] at this
/-- the names of body_encode that stay -/
structure BJ (e : List Nat) (n : Nat) (a b : Addr) (bt : List Nat) (m : PySem.Str → Option Value) : Prop where
  eol : HS m (Str.ofString "eol") e
  soft : HS m (Str.ofString "soft_break") ([61] ++ e)
  mx : HI m (Str.ofString "maxlinelen") n
  m1 : HI m (Str.ofString "maxlinelen1") ((n : Int) - 1)
  app : m (Str.ofString "append") = some (.ref b)
  enc : m (Str.ofString "encoded_body") = some (.ref a)
  body : HS m (Str.ofString "body") bt
theorem BJ.upd {e : List Nat} {n : Nat} {a b : Addr} {bt : List Nat} {m : PySem.Str → Option Value} {x : PySem.Str} {v : Value} (d : BJ e n a b bt m) (h1 : Str.ofString "eol" ≠ x := by decide) (h2 : Str.ofString "soft_break" ≠ x := by decide)
    (h3 : Str.ofString "maxlinelen" ≠ x := by decide) (h4 : Str.ofString "maxlinelen1" ≠ x := by decide) (h5 : Str.ofString "append" ≠ x := by decide) (h6 : Str.ofString "encoded_body" ≠ x := by decide) (h7 : Str.ofString "body" ≠ x := by decide) : BJ e n a b bt (Mine.upd m x v) :=
  ⟨d.eol.ne h1, d.soft.ne h2, d.mx.ne h3, d.m1.ne h4, (upd_ne h5).trans d.app, (upd_ne h6).trans d.enc, d.body.ne h7⟩
section
variable {prog : Program} {w : World} {A : Around} {h₀ : Heap}
theorem body_ctr {n : Nat} {e : List Nat} {rows : List (List Nat)} {t₁ t₂ t₃ : Tok} (G : Gd w h₀) (hr : A.depth + 1 < recursionLimit) (hA : A.handled = none) (he : Eol e) (hn : 4 ≤ n) (hn2 : n ≤ 1000) (hR : Rows rows) :
    Ctr prog w A h₀ (call (.ref 64) [.str (S (rows.flatMap (· ++ [10]))) t₁, .int n t₂, .str (S e) t₃]) (IsS (S (flatE e (rows.flatMap (lnsOf n))))).p := by
  obtain ⟨p, lo, mg, mb, T₀⟩ := G.T
  have hS : sizeLine = 16777216 := rfl
  have he1 : 1 ≤ e.length ∧ e.length ≤ 2 := by rcases he with rfl | rfl <;> simp
  have hb1 : (rows.flatMap (· ++ [10])).length ≤ 101 * rows.length := sum_le _ _ _ fun r hr => by have := (hR.row r hr).1; simp; omega
  have hb2 : ((rows.map rowTxt).flatMap (· ++ [10])).length ≤ 301 * rows.length := by
    have := sum_le (fun r : List Nat => r ++ [10]) 301 (rows.map rowTxt) fun r hr => by
      obtain ⟨q, hq, rfl⟩ := List.mem_map.mp hr
      have := (hR.row q hq).1
      have := rowTxt_len q
      simp; omega
    rwa [List.length_map] at this
  have hb3 : (flatE e (rows.flatMap (lnsOf n))).length ≤ 602 * rows.length := by
    show ((rows.flatMap (lnsOf n)).flatMap fun l => l.txt ++ e).length ≤ _
    rw [List.flatMap_assoc]
    exact sum_le _ _ _ fun r hr => by
      have h1 := lns_size (e := e) he1.2 hn _ (r.map tok) (Nat.le_refl _)
      have := (hR.row r hr).1
      rw [List.length_map] at h1
      unfold lnsOf; omega
  have hlen := hR.len
  have hbn : rows.flatMap (· ++ [10]) ≠ [] := by
    obtain ⟨r, rs, h⟩ := List.exists_cons_of_ne_nil hR.ne
    rw [h]; simp
  have hbt : (rows.flatMap (· ++ [10])).flatMap encS = (rows.map rowTxt).flatMap (· ++ [10]) := encS_rows fun r hr c hc => ((hR.row r hr).2 c hc).2
  refine ctr_fn [(Str.ofString "body", .str (S (rows.flatMap (· ++ [10]))) t₁), (Str.ofString "maxlinelen", .int n t₂), (Str.ofString "eol", .str (S e) t₃)] (G.X 64 (x64_0 w.params) (by rfl)) (codeRec_of G.X (by rfl)) T₀.nolimit (by omega) (fun s hx => BindsTo.of_defaults (T := 57) rfl (hx _ _ (G.X 57 (x57_0 w.params) (by rfl))) rfl rfl (by rfl)) (by rfl) (by rfl) ?_
  intro hp gs dr os h₁ tk Q hx hx₁ k fin
  have X : (KK w.params).In hp := G.X.keeps hx
  have T := T₀.keeps hx
  have m1 : HS (fun y => ([(Str.ofString "body", Value.str (S (rows.flatMap (· ++ [10]))) t₁), (Str.ofString "maxlinelen", .int n t₂), (Str.ofString "eol", .str (S e) t₃)] : List (PySem.Str × Value)).reverse.lookup y) (Str.ofString "body") (rows.flatMap (· ++ [10])) := ⟨t₁, rfl⟩
  have m2 : HI (fun y => ([(Str.ofString "body", Value.str (S (rows.flatMap (· ++ [10]))) t₁), (Str.ofString "maxlinelen", .int n t₂), (Str.ofString "eol", .str (S e) t₃)] : List (PySem.Str × Value)).reverse.lookup y) (Str.ofString "maxlinelen") n := ⟨t₂, rfl⟩
  have m3 : HS (fun y => ([(Str.ofString "body", Value.str (S (rows.flatMap (· ++ [10]))) t₁), (Str.ofString "maxlinelen", .int n t₂), (Str.ofString "eol", .str (S e) t₃)] : List (PySem.Str × Value)).reverse.lookup y) (Str.ofString "eol") e := ⟨t₃, rfl⟩
  generalize (fun y => ([(Str.ofString "body", Value.str (S (rows.flatMap (· ++ [10]))) t₁), (Str.ofString "maxlinelen", .int n t₂), (Str.ofString "eol", .str (S e) t₃)] : List (PySem.Str × Value)).reverse.lookup y) = m₀ at k m1 m2 m3
  refine sIfF k (ltI (nI m2) cI) (decide_eq_false (by omega)) fun h' tk' k' => ?_
  refine sIf1 k' (tNot (tS (nS m1) (by rw [S_len]; omega))) (fun hb => ?_) fun _ h₂ tk₂ k₂ => ?_
  · rw [S_len] at hb
    cases hq : rows.flatMap (· ++ [10]) with
    | nil => exact absurd hq hbn
    | cons _ _ => rw [hq] at hb; simp at hb
  refine sAssign (P := IsS (S ((rows.map rowTxt).flatMap (· ++ [10])))) k₂ (evS_eq (mTrans (f := encS) (vs := l53) (nS m1) (glL (a := 53) (o := x53_0 w.params) X T (by rfl) (by rfl) rfl rfl) hbn (by rw [hbt]; omega) ?_) (by rw [hbt])) fun v₃ h₃ tk₃ p₃ k₃ => ?_
  · intro c hc
    obtain ⟨r, hr1, hc⟩ := List.mem_flatMap.mp hc
    have h256 : c < 256 := by
      rcases List.mem_append.mp hc with hc | hc
      · exact ((hR.row r hr1).2 c hc).1
      · simp at hc; omega
    exact ⟨by omega, enc_at h256⟩
  dsimp only at k₃ ⊢
  refine sAssign (P := IsS (S ([61] ++ e))) k₃ (evS_eq (addS (x := S [61]) (y := S e) cS (nS m3.ne) (by rw [S_len, S_len]; simp; omega)) (S_add _ _)) fun v₄ h₄ tk₄ p₄ k₄ => ?_
  dsimp only at k₄ ⊢
  refine sAssign (P := IsI ((n : Int) - 1)) k₄ (subI (nI m2.ne.ne) cI) fun v₅ h₅ tk₅ p₅ k₅ => ?_
  dsimp only at k₅ ⊢
  refine sNewL k₅ fun a g₆ h₆ tk₆ _ k₆ _ => ?_
  dsimp only at k₆ ⊢
  refine sBoundG (a := a) k₆ (by unfold Cx.re; dsimp only; exact upd_same) rfl fun b g₇ h₇ tk₇ _ hb₇ k₇ => ?_
  dsimp only at k₇ ⊢
  have bj : BJ e n a b ((rows.map rowTxt).flatMap (· ++ [10])) (upd (upd (upd (upd (upd m₀ (Str.ofString "body") v₃) (Str.ofString "soft_break") v₄) (Str.ofString "maxlinelen1") v₅) (Str.ofString "encoded_body") (.ref a)) (Str.ofString "append") (.ref b)) :=
    ⟨m3.ne.ne.ne.ne.ne, (HS.of p₄).ne.ne.ne, m2.ne.ne.ne.ne.ne, (HI.of p₅).ne.ne, upd_same, (upd_ne (by decide)).trans upd_same, (HS.of p₃).ne.ne.ne.ne⟩
  generalize upd (upd (upd (upd (upd m₀ (Str.ofString "body") v₃) (Str.ofString "soft_break") v₄) (Str.ofString "maxlinelen1") v₅) (Str.ofString "encoded_body") (.ref a)) (Str.ofString "append") (.ref b) = m₇ at k₇ bj
  refine sForL (R := fun vs => StrsAre vs (rows.map fun r => S (rowTxt r))) (fun i m mu => BJ e n a b ((rows.map rowTxt).flatMap (· ++ [10])) m ∧ ∃ vs q xs, mu = [(a, plainL vs q)] ∧ StrsAre vs (xs.map S) ∧ xs.flatMap (· ++ e) = flatE e ((rows.take i).flatMap (lnsOf n))) k₇ hA ?_ ⟨bj, [], 0, [], rfl, .nil, rfl⟩ ?_ ?_
  · intro g
    refine (mLines (x := S ((rows.map rowTxt).flatMap (· ++ [10]))) (nS bj.body) (by rw [S_len]; omega) (g := g)).mono ?_
    rintro v h ⟨a, vs, q, l, ss, fr⟩
    refine ⟨a, vs, q, l, ?_, .inr fr⟩
    have := lines_S (e := [10]) (.inl rfl) (rows.map rowTxt) (by intro l hl; obtain ⟨l', hl', rfl⟩ := List.mem_map.mp hl; exact row_nb fun c hc => ((hR.row l' hl').2 c hc).1)
    rw [this, List.map_map] at ss
    exact ss
  · intro vs i v m₁ mu₁ g h tk₈ hRv hv ⟨j1, us, q, xs, hmu, hss, hfl⟩ eg k₈
    subst hmu
    have hi : i < rows.length := by
      have h1 := strsAre_len hRv
      rw [List.length_map] at h1
      have h2 := (List.getElem?_eq_some_iff.mp hv).1
      omega
    obtain ⟨row, hrow⟩ : ∃ r, rows[i]? = some r := ⟨_, List.getElem?_eq_getElem hi⟩
    have hrm : row ∈ rows := List.mem_of_getElem? hrow
    obtain ⟨t', hv'⟩ := strsAre_get hRv (i := i) (x := S (rowTxt row)) (by simp [hrow])
    rw [hv] at hv'; cases hv'
    have hro := hR.row row hrm
    have hstep : flatE e ((rows.take (i + 1)).flatMap (lnsOf n)) = flatE e ((rows.take i).flatMap (lnsOf n)) ++ flatE e (lnsOf n row) := by
      rw [List.take_add_one, hrow]; simp [List.flatMap_append]
    have hWl : (flatE e ((rows.take (i + 1)).flatMap (lnsOf n))).length ≤ 60200 := by
      have h2 : (flatE e (rows.flatMap (lnsOf n))).length = (flatE e ((rows.take (i + 1)).flatMap (lnsOf n))).length + (flatE e ((rows.drop (i + 1)).flatMap (lnsOf n))).length := by rw [← List.length_append, ← List.flatMap_append, ← List.flatMap_append, List.take_append_drop]
      omega
    have hbg : g.get? b = some (boundApp a) := eg b _ hb₇ rfl
    have hfl0 : xs.flatMap (· ++ e) ++ flatE e (lns n (row.map tok)) = flatE e ((rows.take (i + 1)).flatMap (lnsOf n)) := by rw [hstep, hfl]; rfl
    clear hfl hstep hb₇ eg
    generalize flatE e ((rows.take (i + 1)).flatMap (lnsOf n)) = W at hfl0 hWl ⊢
    have hpl : (row.map tok).length ≤ 100 := by rw [List.length_map]; exact hro.1
    have hok : ∀ t ∈ row.map tok, t.ok := fun t ht => by obtain ⟨c, hc, rfl⟩ := List.mem_map.mp ht; exact tok_ok (hro.2 c hc).1
    have hTl : (rowTxt row).length ≤ 300 := by have := rowTxt_len row; omega
    have hTe : rowTxt row = txts (row.map tok) := rfl
    have hvl : ∀ t ∈ row.map tok, t.val < 256 := fun t ht => by obtain ⟨c, hc, rfl⟩ := List.mem_map.mp ht; rw [tok_val]; exact (hro.2 c hc).1
    generalize row.map tok = ps at hfl0 hpl hok hTe hvl
    generalize rowTxt row = T' at hTl hTe k₈ hv
    subst hTe
    dsimp only at k₈ ⊢
    refine sAssign (P := IsI 0) k₈ cI fun v₁ h₉ tk₉ p₉ k₉ => ?_
    dsimp only at k₉ ⊢
    refine sAssign (P := IsI (((txts ps).length : Int) - 1 - n)) k₉ (subI (subI (evI_eq (lenS (x := S (txts ps)) (bl X T (by rfl) boot_len) (nS HS.str.ne) (by rw [S_len]; omega)) (by rw [S_len])) cI) (nI j1.upd.upd.mx)) fun v₂ h₁₀ tk₁₀ p₁₀ k₁₀ => ?_
    dsimp only at k₁₀ ⊢
    have q1 : HS (upd (upd (upd m₁ (Str.ofString "line") (.str (S (txts ps)) t')) (Str.ofString "start") v₁) (Str.ofString "laststart") v₂) (Str.ofString "line") (txts ps) := HS.str.ne.ne
    have q2 : HI (upd (upd (upd m₁ (Str.ofString "line") (.str (S (txts ps)) t')) (Str.ofString "start") v₁) (Str.ofString "laststart") v₂) (Str.ofString "start") 0 := (HI.of p₉).ne
    have q3 : HI (upd (upd (upd m₁ (Str.ofString "line") (.str (S (txts ps)) t')) (Str.ofString "start") v₁) (Str.ofString "laststart") v₂) (Str.ofString "laststart") (((txts ps).length : Int) - 1 - n) := HI.of p₁₀
    have q4 := ((j1.upd (x := Str.ofString "line") (v := .str (S (txts ps)) t')).upd (x := Str.ofString "start") (v := v₁)).upd (x := Str.ofString "laststart") (v := v₂)
    generalize upd (upd (upd m₁ (Str.ofString "line") (.str (S (txts ps)) t')) (Str.ofString "start") v₁) (Str.ofString "laststart") v₂ = m₂ at k₁₀ q1 q2 q3 q4
    refine sWhileT (fun k m mu => BJ e n a b ((rows.map rowTxt).flatMap (· ++ [10])) m ∧ HS m (Str.ofString "line") (txts ps) ∧ HI m (Str.ofString "laststart") (((txts ps).length : Int) - 1 - n) ∧
      ∃ done rest vs q xs, ps = done ++ rest ∧ (rest = [] → ps = []) ∧ HI m (Str.ofString "start") (txts done).length ∧ mu = [(a, plainL vs q)] ∧ StrsAre vs (xs.map S) ∧ xs.flatMap (· ++ e) ++ flatE e (lns n rest) = W ∧ k = rest.length) k₁₀
      ⟨q4, q1, q3, [], ps, us, q, xs, rfl, fun z => z, q2, rfl, hss, hfl0, rfl⟩ ?_
    rintro kk m₃ mu₃ ⟨r1, r2, r3, done, rest, vs', q', xs', hps, hrn, r4, rfl, hss', hfl', rfl⟩
    have hTd : txts ps = txts done ++ txts rest := by rw [hps, txts_append]
    have hTs : (txts ps).length = (txts done).length + (txts rest).length := by rw [hTd, List.length_append]
    have hvs : vs'.length ≤ 60200 := by
      rw [strsAre_len hss', List.length_map]
      have h1 : xs'.length ≤ (xs'.flatMap (· ++ e)).length := by
        clear hss' hfl'
        induction xs' with
        | nil => simp
        | cons x r ih => rw [List.flatMap_cons, List.length_append, List.length_append, List.length_cons]; omega
      have h2 := congrArg List.length hfl'
      rw [List.length_append] at h2
      omega
    dsimp only
    refine ⟨_, leI (nI r4) (nI r3), fun hb h' tk' k' => ?_, fun hb h' tk' k' => ?_⟩
    · have hlt : n < (txts rest).length := by have := of_decide_eq_true hb; omega
      have hokr : ∀ t ∈ rest, t.ok := fun t ht => hok t (by rw [hps]; exact List.mem_append_right _ ht)
      obtain ⟨x, y, hx1, hy1, hcase⟩ := cut_cases hn hokr hlt
      have happ := cut_app (n - 1) rest
      have hsoft : lns n rest = ⟨(cut (n - 1) rest).1, true⟩ :: lns n (cut (n - 1) rest).2 := lns_soft hn (Nat.lt_of_lt_of_le hlt (closeT_len_ge _))
      have hsh := cut_shorter (r := n - 1) (ts := rest) (by omega) (by rintro rfl; simp at hlt)
      have hcl := cut_len (n - 1) rest
      generalize (cut (n - 1) rest).1 = ca at *
      generalize (cut (n - 1) rest).2 = cb at *
      have hcb : cb ≠ [] := by rintro rfl; rw [List.append_nil] at happ; subst happ; omega
      have hT3 : (txts ps)[(txts done).length + (n - 3)]? = some x := by rw [hTd, List.getElem?_append_right (by omega), Nat.add_sub_cancel_left]; exact hx1
      have hT2 : (txts ps)[(txts done).length + (n - 2)]? = some y := by rw [hTd, List.getElem?_append_right (by omega), Nat.add_sub_cancel_left]; exact hy1
      have hdrop : (txts ps).drop (txts done).length = txts rest := by rw [hTd, List.drop_left]
      have hdl : (txts (done ++ ca)).length = (txts done).length + (txts ca).length := by rw [txts_append, List.length_append]
      have e1 : ps = (done ++ ca) ++ cb := by rw [hps, List.append_assoc, happ]
      have e2 : ∀ tv, StrsAre (vs' ++ [.str (S (txts ca ++ [61])) tv]) ((xs' ++ [txts ca ++ [61]]).map S) := fun tv => by rw [List.map_append]; exact StrsAre.append' hss' (.cons _ _ .nil)
      have e3 : (xs' ++ [txts ca ++ [61]]).flatMap (· ++ e) ++ flatE e (lns n cb) = W := by rw [← hfl', hsoft, flat_snoc]; rfl
      refine sAssign (P := IsI (((txts done).length : Int) + ((n : Int) - 1))) k' (addI (nI r4) (nI r1.m1)) fun v₃ h₁₁ tk₁₁ p₁₁ k₁₁ => ?_
      dsimp only at k₁₁ ⊢
      have s1 := r1.upd (x := Str.ofString "stop") (v := v₃)
      have s2 := r2.ne (y := Str.ofString "stop") (v := v₃)
      have s3 := r3.ne (y := Str.ofString "stop") (v := v₃)
      have s4 := r4.ne (y := Str.ofString "stop") (v := v₃)
      have s5 : HI (upd m₃ (Str.ofString "stop") v₃) (Str.ofString "stop") (((txts done).length : Int) + ((n : Int) - 1)) := HI.of p₁₁
      generalize upd m₃ (Str.ofString "stop") v₃ = m₄ at k₁₁ s1 s2 s3 s4 s5
      refine sIf k₁₁ (eqS (x := S [x]) (y := S [61]) (evS_eq (itS (x := S (txts ps)) (i := (((txts done).length + (n - 3) : Nat) : Int)) (nS s2) (evI_eq (subI (nI s5) cI) (by omega)) (by omega) (by rw [S_len]; omega) (by rw [S_len]; omega)) (item_S hT3)) cS) (fun hbx h₁₂ tk₁₂ k₁₂ => ?_) fun hbx h₁₂ tk₁₂ k₁₂ => ?_
      · rw [S_beq] at hbx
        have hx61 : x = 61 := by simpa using hbx
        have hc : (txts ca).length = n - 3 ∧ (txts rest).take (n - 2) = txts ca ++ [61] := by
          rcases hcase with h | h | h
          · exact h.2
          · exact absurd hx61 h.1
          · exact absurd hx61 h.1
        refine sApp (P := IsS (S (txts ca ++ [61]))) k₁₂ s1.app hbg rfl (fun _ z => nomatch z) (by omega) (evS_eq (slSS (x := S (txts ps)) (i := ((txts done).length : Int)) (j := (((txts done).length + (n - 2) : Nat) : Int)) (nS s2) (nI s4) (evI_eq (subI (nI s5) cI) (by omega)) (by rw [S_len]; omega)) ?_) fun v h₁ h₁₃ tk₁₃ p _ k₁₃ => ?_
        · rw [slice_S (by omega) (by omega), Nat.add_sub_cancel_left, hdrop, hc.2]
        obtain ⟨tv, rfl⟩ := p
        dsimp only at k₁₃ ⊢
        refine sAssign (P := IsI ((txts done).length + (txts ca).length : Nat)) k₁₃ (evI_eq (subI (nI s5) cI) (by omega)) fun v₆ h₁₄ tk₁₄ p₆ k₁₄ => sNil (sNil ?_)
        exact ⟨_, _, _, _, cb.length, rfl, k₁₄, hsh, s1.upd, s2.ne, s3.ne, done ++ ca, cb, _, _, xs' ++ [txts ca ++ [61]], e1, fun z => absurd z hcb, (HI.of p₆).eq (by rw [hdl]), rfl, e2 tv, e3, rfl⟩
      · rw [S_beq] at hbx
        have hx61 : x ≠ 61 := by simpa using hbx
        refine sIf k₁₂ (eqS (x := S [y]) (y := S [61]) (evS_eq (itS (x := S (txts ps)) (i := (((txts done).length + (n - 2) : Nat) : Int)) (nS s2) (evI_eq (subI (nI s5) cI) (by omega)) (by omega) (by rw [S_len]; omega) (by rw [S_len]; omega)) (item_S hT2)) cS) (fun hby h₁₂ tk₁₂ k₁₂ => ?_) fun hby h₁₂ tk₁₂ k₁₂ => ?_
        · rw [S_beq] at hby
          have hy61 : y = 61 := by simpa using hby
          have hc : (txts ca).length = n - 2 ∧ (txts rest).take (n - 1) = txts ca ++ [61] := by
            rcases hcase with h | h | h
            · exact absurd h.1 hx61
            · exact h.2.2
            · exact absurd hy61 h.2.1
          refine sApp (P := IsS (S (txts ca ++ [61]))) k₁₂ s1.app hbg rfl (fun _ z => nomatch z) (by omega) (evS_eq (slSS (x := S (txts ps)) (i := ((txts done).length : Int)) (j := (((txts done).length + (n - 1) : Nat) : Int)) (nS s2) (nI s4) (evI_eq (nI s5) (by omega)) (by rw [S_len]; omega)) ?_) fun v h₁ h₁₃ tk₁₃ p _ k₁₃ => ?_
          · rw [slice_S (by omega) (by omega), Nat.add_sub_cancel_left, hdrop, hc.2]
          obtain ⟨tv, rfl⟩ := p
          dsimp only at k₁₃ ⊢
          refine sAssign (P := IsI ((txts done).length + (txts ca).length : Nat)) k₁₃ (evI_eq (subI (nI s5) cI) (by omega)) fun v₆ h₁₄ tk₁₄ p₆ k₁₄ => sNil (sNil (sNil ?_))
          exact ⟨_, _, _, _, cb.length, rfl, k₁₄, hsh, s1.upd, s2.ne, s3.ne, done ++ ca, cb, _, _, xs' ++ [txts ca ++ [61]], e1, fun z => absurd z hcb, (HI.of p₆).eq (by rw [hdl]), rfl, e2 tv, e3, rfl⟩
        · rw [S_beq] at hby
          have hy61 : y ≠ 61 := by simpa using hby
          have hc : (txts ca).length = n - 1 ∧ (txts rest).take (n - 1) = txts ca := by
            rcases hcase with h | h | h
            · exact absurd h.1 hx61
            · exact absurd h.2.1 hy61
            · exact h.2.2
          refine sApp (P := IsS (S (txts ca ++ [61]))) k₁₂ s1.app hbg rfl (fun _ z => nomatch z) (by omega) (evS_eq (addS (x := S (txts ca)) (y := S [61]) (evS_eq (slSS (x := S (txts ps)) (i := ((txts done).length : Int)) (j := (((txts done).length + (n - 1) : Nat) : Int)) (nS s2) (nI s4) (evI_eq (nI s5) (by omega)) (by rw [S_len]; omega)) ?_) cS (by rw [S_len, S_len]; simp only [List.length_cons, List.length_nil]; omega)) (S_add _ _)) fun v h₁ h₁₃ tk₁₃ p _ k₁₃ => ?_
          · rw [slice_S (by omega) (by omega), Nat.add_sub_cancel_left, hdrop, hc.2]
          obtain ⟨tv, rfl⟩ := p
          dsimp only at k₁₃ ⊢
          refine sAssign (P := IsI ((txts done).length + (txts ca).length : Nat)) k₁₃ (evI_eq (nI s5) (by omega)) fun v₆ h₁₄ tk₁₄ p₆ k₁₄ => sNil (sNil (sNil ?_))
          exact ⟨_, _, _, _, cb.length, rfl, k₁₄, hsh, s1.upd, s2.ne, s3.ne, done ++ ca, cb, _, _, xs' ++ [txts ca ++ [61]], e1, fun z => absurd z hcb, (HI.of p₆).eq (by rw [hdl]), rfl, e2 tv, e3, rfl⟩
    · have hle : (txts rest).length ≤ n := by have := of_decide_eq_false hb; omega
      have hdrop : (txts ps).drop (txts done).length = txts rest := by rw [hTd, List.drop_left]
      by_cases hbl : ∃ c, rest.getLast? = some (.ch c) ∧ blank c = true
      · obtain ⟨c, hlc, hbc⟩ := hbl
        obtain ⟨init, rfl⟩ : ∃ init, rest = init ++ [.ch c] := by
          rcases List.eq_nil_or_concat rest with rfl | ⟨i, t, rfl⟩
          · cases hlc
          · rw [List.concat_eq_append, List.getLast?_concat] at hlc
            cases hlc
            exact ⟨i, List.concat_eq_append⟩
        have hil := txts_ch init c
        have hz : (txts ps).getLast? = some c := by rw [hTd, txts_append]; simp [Tk.txt]
        have hin : c ∈ ([32, 9] : List Nat) := by simpa [blank] using hbc
        have hc256 : c < 256 := by rcases List.mem_cons.mp hin with rfl | hin; · decide
                                   · simp at hin; omega
        have hinit : ((txts ps).drop (txts done).length).dropLast = txts init := by rw [hdrop, txts_append]; simp [Tk.txt]
        have hpl1 : 1 ≤ (txts ps).length := by omega
        have lastE : ∀ {env : Env} {cx : Cx} {p1 p2 p3 p4 : Pos}, HS cx.m (Str.ofString "line") (txts ps) → env.locals = cx.L → env.scope.kind = .function → env.kindOf (Str.ofString "line") = some .local →
            Ev cx (eval (.Subscript (.Name (Str.ofString "line") p1) (.UnaryOp .USub (.Constant (.int 1) 0 p2) p3) p4) env) (IsS (S [c])) := fun hm a1 a2 a3 =>
          evS_eq (itS (x := S (txts ps)) (i := -1) (nS hm a1 a2 a3) (negI cI) (by rw [S_len]; omega) (by rw [S_len]; omega) (by rw [S_len]; omega)) (item_last hz)
        refine sIf k' (b := true) (tst_eq (tAnd (b₂ := true) (tS (nS r2) (by rw [S_len]; omega)) (fun _ => tst_eq (inS (x := S [32, 9]) (y := S [c]) (lastE r2 rfl rfl rfl) cS) (by rw [contains_S]; exact decide_eq_true hin))) ?_) (fun _ h₁₁ tk₁₁ k₁₁ => ?_) (fun z => by cases z)
        · rw [S_len, Bool.and_true]; simp only [bne_iff_ne, ne_eq]; omega
        refine sAssign (P := IsI ((n : Int) - (txts init).length)) k₁₁ (evI_eq (subI (nI r4) (nI r3)) (by omega)) fun v₃ h₁₂ tk₁₂ p₁₂ k₁₂ => ?_
        dsimp only at k₁₂ ⊢
        have s1 := r1.upd (x := Str.ofString "room") (v := v₃)
        have s2 := r2.ne (y := Str.ofString "room") (v := v₃)
        have s4 := r4.ne (y := Str.ofString "room") (v := v₃)
        have s5 : HI (upd m₃ (Str.ofString "room") v₃) (Str.ofString "room") ((n : Int) - (txts init).length) := HI.of p₁₂
        generalize upd m₃ (Str.ofString "room") v₃ = m₄ at k₁₂ s1 s2 s4 s5
        -- the end: q is there
        have fin3 : ∀ (m : PySem.Str → Option Value) (mid : List Nat), xs'.flatMap (· ++ e) ++ ((txts init ++ mid) ++ e) = W →
            ∃ xs₂, xs₂ = xs' ++ [txts init ++ mid] ∧ xs₂.flatMap (· ++ e) = W ∧ ∀ tv, StrsAre (vs' ++ [.str (S (txts init ++ mid)) tv]) (xs₂.map S) := fun m mid hW =>
          ⟨_, rfl, by rw [← hW, ← List.append_nil (List.flatMap _ (xs' ++ _)), flat_snoc, List.append_nil], fun tv => by rw [List.map_append]; exact StrsAre.append' hss' (.cons _ _ .nil)⟩
        refine sIf k₁₂ (geI (nI s5) cI) (fun hb3 h₁₃ tk₁₃ k₁₃ => ?_) fun hb3 h₁₃ tk₁₃ k₁₃ => ?_
        · have hroom : (txts init).length + 3 ≤ n := by have := of_decide_eq_true hb3; omega
          refine sAssign (P := IsS (S (Tk.hx c).txt)) k₁₃ (callK1 (a := 51) (P := IsS (S [c])) X (by rfl) (gl X T (by rfl)) (lastE s2 rfl rfl rfl) ?_) fun v₄ h₁₄ tk₁₄ p₁₄ k₁₄ => sNil ?_
          · rintro v s' Q' E' k' ⟨t₀, rfl⟩ f
            exact quote_ctr (G.ext hx) hr hc256 s' Q' E' k'.base f
          dsimp only at k₁₄ ⊢
          obtain ⟨xs₂, hx2, hf2, hs2⟩ := fin3 m₄ (Tk.hx c).txt (by rw [← hfl', lns_end3 hbc hroom]; simp [Ln.txt])
          refine sApp (P := IsS (S (txts init ++ (Tk.hx c).txt))) k₁₄ (s1.upd (x := Str.ofString "q") (v := v₄)).app hbg rfl (fun _ z => nomatch z) (by omega) (evS_eq (addS (x := S (txts init)) (y := S (Tk.hx c).txt) (evS_eq (slSS (x := S (txts ps)) (i := ((txts done).length : Int)) (j := -1) (nS s2.ne) (nI s4.ne) (negI cI) (by rw [S_len]; omega)) ?_) (nS (HS.of p₁₄)) (by rw [S_len, S_len]; simp only [Tk.txt, List.length_cons, List.length_nil]; omega)) (S_add _ _)) fun v h₁ h₁₅ tk₁₅ p _ k₁₅ => sNil (sNil ?_)
          · rw [slice_butlast (by omega), hinit]
          obtain ⟨tv, rfl⟩ := p
          exact ⟨_, _, _, _, rfl, k₁₅, rfl, s1.upd, _, _, xs₂, rfl, hs2 tv, hf2⟩
        · have hroom : n < (txts init).length + 3 := by have := of_decide_eq_false hb3; omega
          refine sIf k₁₃ (eqI (nI s5) cI) (fun hb4 h₁₃ tk₁₃ k₁₃ => ?_) fun hb4 h₁₃ tk₁₃ k₁₃ => ?_
          · have hroom2 : (txts init).length + 2 = n := by have := eq_of_beq hb4; omega
            refine sAssign (P := IsS (S ([c] ++ ([61] ++ e)))) k₁₃ (evS_eq (addS (x := S [c]) (y := S ([61] ++ e)) (lastE s2 rfl rfl rfl) (nS s1.soft) (by rw [S_len, S_len]; simp only [List.length_append, List.length_cons, List.length_nil]; omega)) (S_add _ _)) fun v₄ h₁₄ tk₁₄ p₁₄ k₁₄ => sNil (sNil ?_)
            dsimp only at k₁₄ ⊢
            obtain ⟨xs₂, hx2, hf2, hs2⟩ := fin3 m₄ ([c] ++ ([61] ++ e)) (by rw [← hfl', lns_end2 hn hbc hroom2]; simp [Ln.txt, Tk.txt])
            refine sApp (P := IsS (S (txts init ++ ([c] ++ ([61] ++ e))))) k₁₄ (s1.upd (x := Str.ofString "q") (v := v₄)).app hbg rfl (fun _ z => nomatch z) (by omega) (evS_eq (addS (x := S (txts init)) (y := S ([c] ++ ([61] ++ e))) (evS_eq (slSS (x := S (txts ps)) (i := ((txts done).length : Int)) (j := -1) (nS s2.ne) (nI s4.ne) (negI cI) (by rw [S_len]; omega)) ?_) (nS (HS.of p₁₄)) (by rw [S_len, S_len]; simp only [List.length_append, List.length_cons, List.length_nil]; omega)) (S_add _ _)) fun v h₁ h₁₅ tk₁₅ p _ k₁₅ => sNil (sNil ?_)
            · rw [slice_butlast (by omega), hinit]
            obtain ⟨tv, rfl⟩ := p
            exact ⟨_, _, _, _, rfl, k₁₅, rfl, s1.upd, _, _, xs₂, rfl, hs2 tv, hf2⟩
          · have hroom2 : (txts init).length + 1 = n := by
              have hne : ¬ ((n : Int) - (txts init).length = 2) := fun z => by rw [z] at hb4; simp at hb4
              omega
            refine sAssign (P := IsS (S (([61] ++ e) ++ (Tk.hx c).txt))) k₁₃ (evS_eq (addS (x := S ([61] ++ e)) (y := S (Tk.hx c).txt) (nS s1.soft) (callK1 (a := 51) (P := IsS (S [c])) X (by rfl) (gl X T (by rfl)) (lastE s2 rfl rfl rfl) ?_) (by rw [S_len, S_len]; simp only [Tk.txt, List.length_append, List.length_cons, List.length_nil]; omega)) (S_add _ _)) fun v₄ h₁₄ tk₁₄ p₁₄ k₁₄ => sNil (sNil ?_)
            · rintro v s' Q' E' k' ⟨t₀, rfl⟩ f
              exact quote_ctr (G.ext hx) hr hc256 s' Q' E' k'.base f
            dsimp only at k₁₄ ⊢
            obtain ⟨xs₂, hx2, hf2, hs2⟩ := fin3 m₄ (([61] ++ e) ++ (Tk.hx c).txt) (by rw [← hfl', lns_end1 hn hbc hroom2]; simp [Ln.txt])
            refine sApp (P := IsS (S (txts init ++ (([61] ++ e) ++ (Tk.hx c).txt)))) k₁₄ (s1.upd (x := Str.ofString "q") (v := v₄)).app hbg rfl (fun _ z => nomatch z) (by omega) (evS_eq (addS (x := S (txts init)) (y := S (([61] ++ e) ++ (Tk.hx c).txt)) (evS_eq (slSS (x := S (txts ps)) (i := ((txts done).length : Int)) (j := -1) (nS s2.ne) (nI s4.ne) (negI cI) (by rw [S_len]; omega)) ?_) (nS (HS.of p₁₄)) (by rw [S_len, S_len]; simp only [Tk.txt, List.length_append, List.length_cons, List.length_nil]; omega)) (S_add _ _)) fun v h₁ h₁₅ tk₁₅ p _ k₁₅ => sNil (sNil ?_)
            · rw [slice_butlast (by omega), hinit]
            obtain ⟨tv, rfl⟩ := p
            exact ⟨_, _, _, _, rfl, k₁₅, rfl, s1.upd, _, _, xs₂, rfl, hs2 tv, hf2⟩
      · have hO : lns n rest = [⟨rest, false⟩] := lns_end_other hle fun c hc => by
          cases hq : blank c with
          | false => rfl
          | true => exact absurd ⟨c, hc, hq⟩ hbl
        refine sIf k' (b := false) (tst_eq (tAnd (b₂ := false) (tS (nS r2) (by rw [S_len]; omega)) (fun hb1 => ?_)) (Bool.and_false _)) (fun z => by cases z) (fun _ h₁₁ tk₁₁ k₁₁ => ?_)
        · have hps0 : rest ≠ [] := fun z => by
            have := hrn z
            rw [this] at hb1
            simp [S_len] at hb1
          obtain ⟨z, hz, hzb⟩ : ∃ z, (txts ps).getLast? = some z ∧ z ∉ ([32, 9] : List Nat) := by
            rcases List.eq_nil_or_concat rest with rfl | ⟨i, t, rfl⟩
            · exact absurd rfl hps0
            · rw [List.concat_eq_append] at hTd hbl
              cases t with
              | ch c =>
                refine ⟨c, by rw [hTd, txts_append]; simp [Tk.txt], fun hm => hbl ⟨c, by simp, ?_⟩⟩
                simpa [blank] using hm
              | hx v =>
                refine ⟨dig (v % 16), by rw [hTd, txts_append]; simp [Tk.txt], fun hm => ?_⟩
                have : v % 16 < 16 := Nat.mod_lt _ (by decide)
                have h1 : dig (v % 16) ≥ 48 := by unfold dig; split <;> omega
                simp at hm
                omega
          have hpl1 : 1 ≤ (txts ps).length := by cases hq : txts ps with | nil => rw [hq] at hz; cases hz | cons _ _ => simp
          exact tst_eq (inS (x := S [32, 9]) (y := S [z]) (evS_eq (itS (x := S (txts ps)) (i := -1) (nS r2) (negI cI) (by rw [S_len]; omega) (by rw [S_len]; omega) (by rw [S_len]; omega)) (item_last hz)) cS) (by rw [contains_S]; exact decide_eq_false hzb)
        refine sApp (P := IsS (S (txts rest))) k₁₁ r1.app hbg rfl (fun _ z => nomatch z) (by omega) (evS_eq (slSN (x := S (txts ps)) (i := ((txts done).length : Int)) (nS r2) (nI r4) (by rw [S_len]; omega)) ?_) fun v h₁ h₁₃ tk₁₃ p _ k₁₃ => sNil (sNil ?_)
        · rw [slice_from (by omega), hdrop]
        obtain ⟨tv, rfl⟩ := p
        exact ⟨_, _, _, _, rfl, k₁₃, rfl, r1, _, _, xs' ++ [txts rest], rfl, by rw [List.map_append]; exact StrsAre.append' hss' (.cons _ _ .nil), by rw [← hfl', hO, ← List.append_nil (List.flatMap _ (xs' ++ _)), flat_snoc]; simp [Ln.txt]⟩
  · intro vs m₁ mu₁ h tk₈ hRv ⟨j1, us, q, xs, hmu, hss, hfl⟩ k₈
    subst hmu
    dsimp only at k₈ ⊢
    have hn' : vs.length = rows.length := by rw [strsAre_len hRv, List.length_map]
    rw [hn', List.take_length] at hfl
    have hus : us.length ≤ 60200 := by
      rw [strsAre_len hss, List.length_map]
      have h1 : xs.length ≤ (xs.flatMap (· ++ e)).length := by
        clear hss hfl
        induction xs with
        | nil => simp
        | cons x r ih => rw [List.flatMap_cons, List.length_append, List.length_append, List.length_cons]; omega
      rw [hfl] at h1
      omega
    have hlast : ((rows.map rowTxt).flatMap (· ++ [10])).getLast? = some 10 := by
      have hq : rows.map rowTxt ≠ [] := by simpa using hR.ne
      rw [← List.dropLast_concat_getLast hq, List.flatMap_append]
      simp
    have hpos : 0 < ((rows.map rowTxt).flatMap (· ++ [10])).length := List.length_pos_iff.mpr fun z => by rw [z] at hlast; cases hlast
    refine sIf1 k₈ (b := true) (tst_eq (inS (x := S [13, 10]) (y := S [10]) (evS_eq (itS (x := S ((rows.map rowTxt).flatMap (· ++ [10]))) (i := -1) (nS j1.body) (negI cI) (by rw [S_len]; omega) (by rw [S_len]; omega) (by rw [S_len]; omega)) (item_last hlast)) (glS X T ⟨_, by rfl⟩)) (by rw [contains_S]; rfl)) (fun _ h' tk' k' => ?_) (fun z => by cases z)
    refine sApp (P := IsS (S [])) k' j1.app hb₇ rfl (fun _ z => nomatch z) (by omega) cS fun v h₁ h' tk p _ k'' => sNil ?_
    obtain ⟨tv, rfl⟩ := p
    dsimp only at k'' ⊢
    have hss2 : StrsAre (us ++ [.str (S []) tv]) ((xs ++ [[]]).map S) := by rw [List.map_append]; exact StrsAre.append' hss (.cons _ _ .nil)
    refine sRet k'' (P := IsS (S (flatE e (rows.flatMap (lnsOf n))))) (evS_eq (mJoin (x := S e) (ys := (xs ++ [[]]).map S) (nS j1.eol) (nmM j1.enc (List.mem_singleton.mpr rfl) fun h ho => ⟨a, _, rfl, ⟨_, ho, rfl, _, rfl⟩, hss2⟩) ?_) ?_) fun v h'' tk'' p e => fin _ _ _ p (k''.base.trans e)
    · have := join_size (e := e) xs
      rw [hfl] at this
      omega
    · rw [join_S, join_flat, hfl]
end
end Mine
end
section
open PySem PySem.W PyProof.Rows
set_option linter.unusedVariables false
set_option maxRecDepth 100000
set_option maxHeartbeats 400000
namespace Mine
theorem Cx.ok.rebaseD {c : Cx} {h : Heap} (k : c.ok h) (hmu : ∀ p ∈ c.mu, ¬ nd p.2) : ∃ g', ({ c with g := g' } : Cx).ok h ∧ ExtD c.g g' ∧ ExtD h g' := by
  obtain ⟨k', e'⟩ := k.rebase
  refine ⟨_, k', e', fun b o z nz => hideAll_get _ z fun y => ?_⟩
  obtain ⟨p, hp, rfl⟩ := List.mem_map.mp y
  have := (k.own p hp).1
  rw [z] at this; cases this
  exact hmu p hp nz
section
variable {c : Cx} {env : Env} {hh : Heap} {gs : Array GenState} {dr : Drawn} {tk₀ : Nat} {os : OsState} {Q : Flow → Shared → Prop} {E : Value → Shared → Prop}
theorem execs_gen {M : Model} {A : Around} {t : List Expr} {e : Expr} {ps : Pos} {rest : List Stmt} {s : Shared} (h : ∀ e', e' = e → wpAny M A (execs (.Assign t e' ps :: rest) env) Q E s) : wpAny M A (execs (.Assign t e ps :: rest) env) Q E s := h e rfl
theorem ret_gen {M : Model} {A : Around} {e : Expr} {ps : Pos} {rest : List Stmt} {s : Shared} (h : ∀ e', e' = e → wpAny M A (execs (.Return (some e') ps :: rest) env) Q E s) : wpAny M A (execs (.Return (some e) ps :: rest) env) Q E s := h e rfl
/-- a store, its fact looked back at -/
theorem sAssignG {x : PySem.Str} {pos' pos : Pos} {value : Expr} {rest : List Stmt} {P : VP} (k : c.ok hh) (hmu : ∀ p ∈ c.mu, ¬ nd p.2) (he : Ev c (eval value env) P)
    (h : ∀ v g' h' tk, P.p v g' → ExtD c.g g' → (c.re (upd c.m x v) c.mu g').ok h' → wpAny (model c.prog c.w) c.A (execs rest env) Q E ⟨h', gs, dr, tk, os⟩)
    (hL : env.locals = c.L := by rfl) (hl : env.kindOf x = some .local := by rfl) (hp : (env.scope.kind == .class || (env.scope.kind == .module && env.locals != env.globals)) = false := by rfl)
    (hsw : swapsWith value (some (.Name x pos')) pos.line env = pure false := by rfl) :
    wpAny (model c.prog c.w) c.A (execs (.Assign [.Name x pos'] value pos :: rest) env) Q E ⟨hh, gs, dr, tk₀, os⟩ :=
  sAssign k he (fun v h' tk p k' => by
    obtain ⟨g', k'', e', e''⟩ := k'.rebaseD hmu
    exact h v g' h' tk (P.st e'' p) e' k'') hL hl hp hsw
end
noncomputable def bitsL : List (List Nat) := [[], [32], [9], [97], [61], [45, 32], [43, 32], [32, 32], [233], [11], [98, 99], [133], [126], [63], [0], [45]]
noncomputable def codesL : List (List Nat) := [[45, 32], [43, 32], [32, 32], [63, 32], [45], []]
noncomputable def bitAt (i : Int) : List Nat := (bitsL[i.toNat]?).getD []
noncomputable def rowOf (n : Int) : List Nat := ((codesL[(Int.fmod n 6).toNat]?).getD [] ++ bitAt (Int.fmod (Int.fdiv n 6) 16)) ++ bitAt (Int.fmod (Int.fdiv (Int.fdiv n 6) 16) 16) ++ bitAt (Int.fmod (Int.fdiv (Int.fdiv n 6) 256) 16)
theorem fmod_lt {a b : Int} (hb : 0 < b) : 0 ≤ Int.fmod a b ∧ Int.fmod a b < b := ⟨Int.fmod_nonneg_of_pos a hb, Int.fmod_lt_of_pos a hb⟩
theorem noPy {x : Int} {y : Int} (h : (if y == 0 then 0 else y.natAbs.log2 / 30 + 1) ≤ 300) : Builtin.divisionGoesByPylong x y = false := by
  unfold Builtin.divisionGoesByPylong
  rw [Bool.and_eq_false_iff]
  left
  exact decide_eq_false (by show ¬ ((if y == 0 then 0 else y.natAbs.log2 / 30 + 1) > 300); omega)
theorem bits_short : ∀ l ∈ bitsL, l.length ≤ 2 := by decide
theorem bitAt_len (i : Int) : (bitAt i).length ≤ 2 := by
  unfold bitAt
  cases h : bitsL[i.toNat]? with
  | none => simp
  | some l => exact bits_short l (List.mem_of_getElem? h)
theorem bit_get {i : Int} (h : 0 ≤ i ∧ i < 16) : (bitsL.map S)[i.toNat]? = some (S (bitAt i)) := by
  have : i.toNat < bitsL.length := by show i.toNat < 16; omega
  unfold bitAt
  rw [List.getElem?_map, List.getElem?_eq_getElem this]; rfl
theorem code_get {i : Int} (h : 0 ≤ i ∧ i < 6) : (codesL.map S)[i.toNat]? = some (S ((codesL[i.toNat]?).getD [])) := by
  have : i.toNat < codesL.length := by show i.toNat < 6; omega
  rw [List.getElem?_map, List.getElem?_eq_getElem this]; rfl
theorem codes_short : ∀ l ∈ codesL, l.length ≤ 2 := by decide
theorem code_len (i : Nat) : ((codesL[i]?).getD []).length ≤ 2 := by
  cases h : codesL[i]? with
  | none => simp
  | some l => exact codes_short l (List.mem_of_getElem? h)
theorem cSl {c : Cx} {env : Env} {x : PySem.Str} {l : List Nat} {k : Nat} {pos : Pos} (h : x = S l) : Ev c (eval (.Constant (.str x) k pos) env) (IsS (S l)) := h ▸ cS
theorem bits_len : (bitsL.map S).length ≤ sizeLine := by rw [List.length_map]; decide
theorem codes_len : (codesL.map S).length ≤ sizeLine := by rw [List.length_map]; decide
section
variable {c : Cx} {env : Env}
/-- a display of written texts -/
noncomputable def txtsE : List (PySem.Str × Nat × Pos) → List Expr
  | [] => []
  | (x, k, p) :: r => .Constant (.str x) k p :: txtsE r
theorem spAll {pos : Pos} : ∀ (l : List (PySem.Str × Nat × Pos)), Sp c pos (txtsE l) env (l.map (·.1))
  | [] => sp0
  | (x, k, p) :: r => sp1 cS (spAll r) (by rfl)
theorem lsTxt {pos : Pos} (l : List (PySem.Str × Nat × Pos)) (h : (l.map (·.1)).length ≤ sizeLine) : Ev c (eval (.List (txtsE l) pos) env) (IsSs (l.map (·.1))) := lsS (spAll l) h
theorem lsTxt' {pos : Pos} (l : List (PySem.Str × Nat × Pos)) (es : List Expr) (xs : List PySem.Str) (he : es = txtsE l) (hx : l.map (·.1) = xs ∨ xs = l.map (·.1)) (hn : xs.length ≤ sizeLine) : Ev c (eval (.List es pos) env) (IsSs xs) := by
  have hx' : xs = l.map (·.1) := hx.elim Eq.symm id
  subst he hx'; exact lsTxt l hn
end
section
variable {c : Cx} {env : Env} {pos : Pos}
theorem ev_bits_eq {p1 p2 p3 p4 p5 p6 p7 p8 p9 p10 p11 p12 p13 p14 p15 p16 : Pos} : (([("", 0, p1), (" ", 0, p2), ("\t", 0, p3), ("a", 0, p4), ("=", 0, p5), ("- ", 0, p6), ("+ ", 0, p7), ("  ", 0, p8), ("é", 0, p9), ("\u000b", 0, p10), ("bc", 0, p11), ("\u0085", 0, p12), ("~", 0, p13), ("?", 0, p14), ("\u0000", 0, p15), ("-", 0, p16)] : List (PySem.Str × Nat × Pos)).map (·.1)) = bitsL.map S := by
  show (["", " ", "\t", "a", "=", "- ", "+ ", "  ", "é", "\u000b", "bc", "\u0085", "~", "?", "\u0000", "-"] : List PySem.Str) = bitsL.map S
  decide +kernel
theorem ev_bits_es {p1 p2 p3 p4 p5 p6 p7 p8 p9 p10 p11 p12 p13 p14 p15 p16 : Pos} : ([.Constant (.str "") 0 p1, .Constant (.str " ") 0 p2, .Constant (.str "\t") 0 p3, .Constant (.str "a") 0 p4, .Constant (.str "=") 0 p5, .Constant (.str "- ") 0 p6, .Constant (.str "+ ") 0 p7, .Constant (.str "  ") 0 p8, .Constant (.str "é") 0 p9, .Constant (.str "\u000b") 0 p10, .Constant (.str "bc") 0 p11, .Constant (.str "\u0085") 0 p12, .Constant (.str "~") 0 p13, .Constant (.str "?") 0 p14, .Constant (.str "\u0000") 0 p15, .Constant (.str "-") 0 p16] : List Expr) = txtsE [("", 0, p1), (" ", 0, p2), ("\t", 0, p3), ("a", 0, p4), ("=", 0, p5), ("- ", 0, p6), ("+ ", 0, p7), ("  ", 0, p8), ("é", 0, p9), ("\u000b", 0, p10), ("bc", 0, p11), ("\u0085", 0, p12), ("~", 0, p13), ("?", 0, p14), ("\u0000", 0, p15), ("-", 0, p16)] := by rfl
theorem ev_bits {p1 p2 p3 p4 p5 p6 p7 p8 p9 p10 p11 p12 p13 p14 p15 p16 : Pos} : Ev c (eval (.List [.Constant (.str "") 0 p1, .Constant (.str " ") 0 p2, .Constant (.str "\t") 0 p3, .Constant (.str "a") 0 p4, .Constant (.str "=") 0 p5, .Constant (.str "- ") 0 p6, .Constant (.str "+ ") 0 p7, .Constant (.str "  ") 0 p8, .Constant (.str "é") 0 p9, .Constant (.str "\u000b") 0 p10, .Constant (.str "bc") 0 p11, .Constant (.str "\u0085") 0 p12, .Constant (.str "~") 0 p13, .Constant (.str "?") 0 p14, .Constant (.str "\u0000") 0 p15, .Constant (.str "-") 0 p16] pos) env) (IsSs (bitsL.map S)) := by
  with_reducible exact lsTxt' [("", 0, p1), (" ", 0, p2), ("\t", 0, p3), ("a", 0, p4), ("=", 0, p5), ("- ", 0, p6), ("+ ", 0, p7), ("  ", 0, p8), ("é", 0, p9), ("\u000b", 0, p10), ("bc", 0, p11), ("\u0085", 0, p12), ("~", 0, p13), ("?", 0, p14), ("\u0000", 0, p15), ("-", 0, p16)] _ _ ev_bits_es (.inl ev_bits_eq) bits_len
theorem ev_codes_eq {p1 p2 p3 p4 p5 p6 : Pos} : (([("- ", 0, p1), ("+ ", 0, p2), ("  ", 0, p3), ("? ", 0, p4), ("-", 0, p5), ("", 0, p6)] : List (PySem.Str × Nat × Pos)).map (·.1)) = codesL.map S := by
  show (["- ", "+ ", "  ", "? ", "-", ""] : List PySem.Str) = codesL.map S
  decide +kernel
theorem ev_codes_es {p1 p2 p3 p4 p5 p6 : Pos} : ([.Constant (.str "- ") 0 p1, .Constant (.str "+ ") 0 p2, .Constant (.str "  ") 0 p3, .Constant (.str "? ") 0 p4, .Constant (.str "-") 0 p5, .Constant (.str "") 0 p6] : List Expr) = txtsE [("- ", 0, p1), ("+ ", 0, p2), ("  ", 0, p3), ("? ", 0, p4), ("-", 0, p5), ("", 0, p6)] := by rfl
theorem ev_codes {p1 p2 p3 p4 p5 p6 : Pos} : Ev c (eval (.List [.Constant (.str "- ") 0 p1, .Constant (.str "+ ") 0 p2, .Constant (.str "  ") 0 p3, .Constant (.str "? ") 0 p4, .Constant (.str "-") 0 p5, .Constant (.str "") 0 p6] pos) env) (IsSs (codesL.map S)) := by
  with_reducible exact lsTxt' [("- ", 0, p1), ("+ ", 0, p2), ("  ", 0, p3), ("? ", 0, p4), ("-", 0, p5), ("", 0, p6)] _ _ ev_codes_es (.inl ev_codes_eq) codes_len
end
section
variable {prog : Program} {w : World} {A : Around} {h₀ : Heap}
theorem row_ctr {n : Int} {t : Tok} (G : Gd w h₀) (hr : A.depth < recursionLimit) : Ctr prog w A h₀ (call (.ref 79) [.int n t]) (IsS (S (rowOf n))).p := by
  obtain ⟨p, lo, mg, mb, T₀⟩ := G.T
  have hS : sizeLine = 16777216 := rfl
  refine ctr_fn [(Str.ofString "n", .int n t)] (G.X 79 (x79_0 w.params) (by rfl)) (codeRec_of G.X (by rfl)) T₀.nolimit hr (fun s _ => BindsTo.of_eq (by rfl)) (by rfl) (by rfl) ?_
  intro hp gs dr os h₁ tk Q hx hx₁ k fin
  have hm : HI (fun y => ([(Str.ofString "n", Value.int n t)] : List (PySem.Str × Value)).reverse.lookup y) (Str.ofString "n") n := ⟨t, rfl⟩
  generalize (fun y => ([(Str.ofString "n", Value.int n t)] : List (PySem.Str × Value)).reverse.lookup y) = m₀ at k hm
  obtain ⟨bl, hbl⟩ : ∃ bl, bl = bitsL.map S := ⟨_, rfl⟩
  obtain ⟨cl, hcl⟩ : ∃ cl, cl = codesL.map S := ⟨_, rfl⟩
  refine execs_gen ?_
  intro e' he'
  refine sAssignG (P := IsSs bl) k (fun _ z => nomatch z) ?_ ?_ rfl rfl rfl (by rw [he']; rfl)
  · rw [hbl, he']
    with_reducible exact ev_bits
  clear he'
  intro vb g₂ h₂ tk₂ p₂ _ k₂
  dsimp only at k₂ ⊢
  refine sAssign (P := IsI (Int.fdiv n 6)) k₂ (divI (by decide) (noPy (by decide)) (nI hm.ne) cI) ?_
  intro vq h₃ tk₃ p₃ k₃
  dsimp only at k₃ ⊢
  have q1 : HI (upd (upd m₀ (Str.ofString "bits") vb) (Str.ofString "q") vq) (Str.ofString "n") n := hm.ne.ne
  have q2 : HI (upd (upd m₀ (Str.ofString "bits") vb) (Str.ofString "q") vq) (Str.ofString "q") (Int.fdiv n 6) := HI.of p₃
  have q3 : upd (upd m₀ (Str.ofString "bits") vb) (Str.ofString "q") vq (Str.ofString "bits") = some vb := (upd_ne (by decide)).trans upd_same
  generalize upd (upd m₀ (Str.ofString "bits") vb) (Str.ofString "q") vq = m₃ at k₃ q1 q2 q3
  have f1 := fmod_lt (a := n) (b := 6) (by decide)
  have f2 := fmod_lt (a := Int.fdiv n 6) (b := 16) (by decide)
  have f3 := fmod_lt (a := Int.fdiv (Int.fdiv n 6) 16) (b := 16) (by decide)
  have f4 := fmod_lt (a := Int.fdiv (Int.fdiv n 6) 256) (b := 16) (by decide)
  have l1 := code_len (Int.fmod n 6).toNat
  have l2 := bitAt_len (Int.fmod (Int.fdiv n 6) 16)
  have l3 := bitAt_len (Int.fmod (Int.fdiv (Int.fdiv n 6) 16) 16)
  have l4 := bitAt_len (Int.fmod (Int.fdiv (Int.fdiv n 6) 256) 16)
  refine ret_gen ?_
  intro e' he'
  refine sRet k₃ (P := IsS (S (rowOf n))) ?_ (fun v h' tk p e => fin _ _ _ p (k₃.base.trans e))
  rw [he']
  clear he'
  unfold rowOf
  rw [← S_add, ← S_add, ← S_add]
  refine addS (addS (addS (itSs (xs := codesL.map S) (i := Int.fmod n 6) ?_ (modI (by decide) (nI q1) cI) f1.1 (by omega) (code_get f1)) (itSs (xs := bl) (i := Int.fmod (Int.fdiv n 6) 16) (nmF q3 p₂) (modI (by decide) (nI q2) cI) f2.1 (by omega) (hbl ▸ bit_get f2)) (by rw [S_len, S_len]; omega))
    (itSs (xs := bl) (i := Int.fmod (Int.fdiv (Int.fdiv n 6) 16) 16) (nmF q3 p₂) (modI (by decide) (divI (by decide) (noPy (by decide)) (nI q2) cI) cI) f3.1 (by omega) (hbl ▸ bit_get f3)) (by rw [S_add, S_len, S_len, List.length_append]; omega))
    (itSs (xs := bl) (i := Int.fmod (Int.fdiv (Int.fdiv n 6) 256) 16) (nmF q3 p₂) (modI (by decide) (divI (by decide) (noPy (by decide)) (nI q2) cI) cI) f4.1 (by omega) (hbl ▸ bit_get f4)) (by rw [S_add, S_add, S_len, S_len, List.length_append, List.length_append]; omega)
  with_reducible exact ev_codes
theorem figs_item {d : Nat} (h : d < 16) : Txt.item (S [48, 49, 50, 51, 52, 53, 54, 55, 56, 57, 65, 66, 67, 68, 69, 70]) (d : Int) = S [dig d] := by
  refine item_S ?_
  obtain rfl | rfl | rfl | rfl | rfl | rfl | rfl | rfl | rfl | rfl | rfl | rfl | rfl | rfl | rfl | rfl := (by omega : d = 0 ∨ d = 1 ∨ d = 2 ∨ d = 3 ∨ d = 4 ∨ d = 5 ∨ d = 6 ∨ d = 7 ∨ d = 8 ∨ d = 9 ∨ d = 10 ∨ d = 11 ∨ d = 12 ∨ d = 13 ∨ d = 14 ∨ d = 15) <;> rfl
theorem quoted_ctr {n : Nat} {t : Tok} (G : Gd w h₀) (hr : A.depth < recursionLimit) (hn : n < 256) : Ctr prog w A h₀ (call (.ref 86) [.str (S [n]) t]) (IsS (S (Tk.hx n).txt)).p := by
  obtain ⟨p, lo, mg, mb, T₀⟩ := G.T
  have hS : sizeLine = 16777216 := rfl
  refine ctr_fn [(Str.ofString "sign", .str (S [n]) t)] (G.X 86 (x86_0 w.params) (by rfl)) (codeRec_of G.X (by rfl)) T₀.nolimit hr (fun s _ => BindsTo.of_eq (by rfl)) (by rfl) (by rfl) ?_
  intro hp gs dr os h₁ tk Q hx hx₁ k fin
  have X : (KK w.params).In hp := G.X.keeps hx
  have T := T₀.keeps hx
  have hm : HS (fun y => ([(Str.ofString "sign", Value.str (S [n]) t)] : List (PySem.Str × Value)).reverse.lookup y) (Str.ofString "sign") [n] := ⟨t, rfl⟩
  generalize (fun y => ([(Str.ofString "sign", Value.str (S [n]) t)] : List (PySem.Str × Value)).reverse.lookup y) = m₀ at k hm
  refine sAssign (P := IsS (S [48, 49, 50, 51, 52, 53, 54, 55, 56, 57, 65, 66, 67, 68, 69, 70])) k (cSl (by decide +kernel)) ?_
  intro v h₂ tk₂ p₂ k₂
  dsimp only at k₂ ⊢
  have q1 := hm.ne (y := Str.ofString "figures") (v := v)
  have q2 : HS (upd m₀ (Str.ofString "figures") v) (Str.ofString "figures") _ := HS.of p₂
  generalize upd m₀ (Str.ofString "figures") v = m₁ at k₂ q1 q2
  refine sRet k₂ (P := IsS (S (Tk.hx n).txt)) ?_ (fun v h' tk p e => fin _ _ _ p (k₂.base.trans e))
  have e1 : S (Tk.hx n).txt = S [61] ++ S [dig (n / 16)] ++ S [dig (n % 16)] := by rw [S_add, S_add]; rfl
  rw [e1]
  have hso : ∀ (cx : Cx) (env : Env) (p1 p2 p3 : Pos), Ev cx (eval (.Name (Str.ofString "ord") p1) env) (IsV (.builtin "ord")) → Ev cx (eval (.Name (Str.ofString "sign") p2) env) (IsS (S [n])) →
      Ev cx (eval (.Call (.Name (Str.ofString "ord") p1) [.Name (Str.ofString "sign") p2] [] p3) env) (IsI (n : Int)) := fun cx env p1 p2 p3 ho hs => by
    refine callB1 (P := IsS (S [n])) ho hs ?_
    intro v s' Q' E' _ ⟨_, e⟩ f
    subst e
    exact ord_of_one (by rw [S_len]; rfl) (f _ s'.heap _ ⟨_, rfl⟩ Ext.refl)
  refine addS (addS (x := S [61]) (y := S [dig (n / 16)]) cS (evS_eq (itS (i := ((n / 16 : Nat) : Int)) (nS q2) (evI_eq (divI (by decide) (noPy (by decide)) (hso _ _ _ _ _ (bl X T (by rfl) boot_ord) (nS q1)) cI) ?_) (by omega) ?_ ?_) (figs_item (by omega))) ?_) (evS_eq (itS (i := ((n % 16 : Nat) : Int)) (nS q2) (evI_eq (modI (by decide) (hso _ _ _ _ _ (bl X T (by rfl) boot_ord) (nS q1)) cI) ?_) (by omega) ?_ ?_) (figs_item (by omega))) ?_
  · rw [Int.fdiv_eq_ediv_of_nonneg _ (by decide)]; rfl
  · rw [S_len]; show ((n / 16 : Nat) : Int) < 16; omega
  · rw [S_len]; show 16 ≤ sizeLine; omega
  · rw [S_len, S_len]; show 1 + 1 ≤ sizeLine; omega
  · rw [Int.fmod_eq_emod_of_nonneg _ (by decide)]; rfl
  · rw [S_len]; show ((n % 16 : Nat) : Int) < 16; omega
  · rw [S_len]; show 16 ≤ sizeLine; omega
  · rw [S_add, S_len, S_len]; show 2 + 1 ≤ sizeLine; omega
end
end Mine
end
section
open PySem PySem.W PyProof.Rows
set_option linter.unusedVariables false
set_option maxRecDepth 100000
namespace Mine
/-- inside a comprehension: a frame of its own, all that stood stands -/
noncomputable abbrev Cx.cc (c : Cx) (C : Addr) (m : PySem.Str → Option Value) (g : Heap) : Cx := { c with L := C, m := m, g := g, mu := [] }
/-- what is walked: n items, the i-th as P says; R of them at the heap where they were told -/
noncomputable def Srcs (c : Cx) (t : Sem Value) (R : Nat → (Nat → Value → Prop) → Heap → Prop) : Prop :=
  ∀ (s : Shared) (Q : Value → Shared → Prop) (E : Value → Shared → Prop), c.ok s.heap →
    (∀ I fp n P St h₁ h₂ tk, Walks c.prog c.w c.A I fp [I] n P St → St 0 h₂ → (∀ b ∈ fp, b < h₂.objs.size) → n ≤ sizeLine → h₁.get? I = none → Ext s.heap h₁ → Ext h₁ h₂ → R n P h₁ → Q (.ref I) { s with heap := h₂, toks := tk }) →
    wpAny (model c.prog c.w) c.A t (fun v s₁ => wpAny (model c.prog c.w) c.A (pyIter v) Q E s₁) E s
theorem fresh_size {h : Heap} : h.get? h.objs.size = none := by
  cases z : h.get? h.objs.size with
  | none => rfl
  | some o => exact absurd (Heap.lt_size z) (Nat.lt_irrefl _)
theorem srcL {c : Cx} {t : Sem Value} {R : List Value → Heap → Prop} (hA : c.A.handled = none) (h : EvF c (fun _ => True) t (fun v h => ∃ a vs, v = .ref a ∧ h.IsList a vs.toArray ∧ R vs h)) (hsz : ∀ vs h, R vs h → vs.length ≤ sizeLine) :
    Srcs c t (fun n P h => ∃ vs, R vs h ∧ n = vs.length ∧ P = fun i v => vs[i]? = some v) :=
  fun s Q E k f => h s _ E k trivial fun v h₁ tk ⟨a, vs, q, l, r⟩ e => by
    subst q
    refine wpAny_pyIter_list l ?_
    have hlt : a < h₁.objs.size := by obtain ⟨o, ho, _⟩ := l; exact Heap.lt_size ho
    have W := Walks.list (prog := c.prog) (w := c.w) hA h₁.objs.size a (Nat.ne_of_lt hlt) vs.toArray
    refine f h₁.objs.size [h₁.objs.size, a] vs.toArray.size (fun i v => vs.toArray[i]? = some v) (fun i h => h.IsListIter h₁.objs.size a i ∧ h.IsList a vs.toArray) h₁ _ tk W ⟨⟨_, Heap.get?_push_size _ rfl, rfl, rfl⟩, l.push _⟩ ?_ (by simpa using hsz vs h₁ r) fresh_size e (Ext.push _) ⟨vs, r, by simp, by simp⟩
    intro b hb
    rw [Heap.size_push]
    rcases List.mem_cons.mp hb with rfl | hb
    · exact Nat.lt_succ_self _
    · have : b = a := by simpa using hb
      subst this; exact Nat.lt_succ_of_lt hlt
theorem srcS {c : Cx} {t : Sem Value} {l : List Nat} (hA : c.A.handled = none) (h : Ev c t (IsS (S l))) (hsz : l.length ≤ sizeLine) :
    Srcs c t (fun n P _ => n = l.length ∧ ∀ i v, P i v → ∃ x u, l[i]? = some x ∧ v = .str (S [x]) u) :=
  fun s Q E k f => h s _ E k trivial fun v h₁ tk ⟨u, q⟩ e => by
    subst q
    refine wpAny_pyIter_str fun o St W st => ?_
    have hn : (S l).cps.size = l.length := by simp [S]
    rw [hn] at W
    refine f _ _ l.length _ _ h₁ _ tk (W _ hA) st (fun b hb => by
      rw [Heap.size_push]
      have : b = h₁.objs.size := by simpa using hb
      subst this; exact Nat.lt_succ_self _) hsz fresh_size e (Ext.push _) ⟨rfl, ?_⟩
    rintro i v ⟨x, u', hx, rfl⟩
    exact ⟨x, u', by simpa [S] using hx, rfl⟩
section
variable {c : Cx} {env : Env} {scope : Scope} {cl : List (PySem.Str × Addr)} {x : PySem.Str} {ifs : List Expr} {elt iter : Expr}
/-- the test of an item -/
noncomputable def TestIs (cc : Cx) (ifs : List Expr) (env : Env) (b : Bool) : Prop := (ifs = [] ∧ b = true) ∨ ∃ t, ifs = [t] ∧ Tst cc (PySem.isTrue t env (eval t env)) b
structure Body (c : Cx) (env : Env) (scope : Scope) (cl : List (PySem.Str × Addr)) (x : PySem.Str) (ifs : List Expr) (elt : Expr) (h₁ : Heap) (P : Nat → Value → Prop) (p : Value → Bool) (F : Value → Value → Prop) : Prop where
  test : ∀ g C m i v, ExtD h₁ g → (∀ b o, h₁.get? b = some o → g.get? b = some o) → P i v → m x = some v → TestIs (c.cc C m g) ifs (compEnvC scope cl C env) (p v)
  elt : ∀ g C m i v, ExtD h₁ g → (∀ b o, h₁.get? b = some o → g.get? b = some o) → P i v → p v = true → m x = some v → EvF (c.cc C m g) (fun _ => True) (eval elt (compEnvC scope cl C env)) (fun y _ => F v y)
theorem quiet {I : Addr} {P : Nat → Value → Prop} {p : Value → Bool} {F : Value → Value → Prop} {h₁ : Heap} {s₂ : Shared} (k₁ : c.ok h₁) (hI : h₁.get? I = none) (e : Ext h₁ s₂.heap) (hb : Body c env scope cl x ifs elt h₁ P p F) :
    QuietOnC c.prog c.w c.A env scope cl x ifs elt [I] P p F s₂ := by
  have k₂ := k₁.ext e
  have hIh : ∀ o, c.h₀.get? I ≠ some o := fun o z => by have := k₁.base _ _ z; rw [hI] at this; cases this
  have eg : ∀ b o, h₁.get? b = some o → (hideAll s₂.heap [I]).get? b = some o := fun b o z => hideAll_get _ (e b o z) fun y => by
    have : b = I := by simpa using y
    rw [this, hI] at z; cases z
  have ok3 : ∀ C (s₃ : Shared) m₃, s₂.heap.objs.size ≤ C → s₃.heap.Ns C m₃ → (∀ b o, b ∉ [I] → s₂.heap.get? b = some o → s₃.heap.get? b = some o) → (c.cc C m₃ (hideAll s₂.heap [I])).ok s₃.heap := fun C s₃ m₃ hC hns hk =>
    ⟨⟨hns, fun b o z => hk b o (fun y => hIh o (by have : b = I := by simpa using y
                                                   rw [this] at z; exact z)) (k₂.base b o z), by
        have h1 := k₂.fr.above
        have h2 : c.L < s₂.heap.objs.size := k₂.fr.ns.lt
        exact Nat.le_trans h1 (Nat.le_trans (Nat.le_of_lt h2) hC)⟩,
      fun b o z nz => hk b o (fun y => by rw [hideAll_none _ y] at z; cases z) (of_hideAll _ z), fun _ hp => nomatch hp⟩
  constructor
  · intro C i v s₃ m₃ E' hC hP hns hm hk _
    have k₃ := ok3 C s₃ m₃ hC hns hk
    rcases hb.test (hideAll s₂.heap [I]) C m₃ i v (fun b o z _ => eg b o z) eg hP hm with ⟨rfl, hp⟩ | ⟨t, rfl, ht⟩
    · exact wpAny_pure ⟨hp.symm, _, _, rfl, fun _ _ z => z⟩
    · simp only [List.forIn_cons, List.forIn_nil]
      refine wpAny_bind ?_
      rw [if_pos trivial]
      refine wpAny_bind (ht s₃ _ E' k₃ trivial fun r h' tk hr e' => ?_)
      exact wpAny_pure (wpAny_pure ⟨hr, h', tk, rfl, e'⟩)
  · intro C i v s₃ m₃ E' hC hP hp hns hm hk _
    have k₃ := ok3 C s₃ m₃ hC hns hk
    exact hb.elt (hideAll s₂.heap [I]) C m₃ i v (fun b o z _ => eg b o z) eg hP hp hm s₃ _ E' k₃ trivial fun y h' tk hF e' => ⟨hF, h', tk, rfl, e'⟩
/-- what a comprehension's text must be, by looking -/
structure CompOk (scope : Scope) (env : Env) (cl : List (PySem.Str × Addr)) (x : PySem.Str) : Prop where
  clos : closureFor scope env = pure cl
  cell : (scope.names.all fun y => decide (y.2 ≠ .cell)) = true
  kind : scope.kind = .function
  names : (scope.names.all fun y => !decide (y.2 = .local) || decide (scope.names.lookup y.1 = some .local)) = true
  x : scope.names.lookup x = some .local
theorem CompOk.cell' (h : CompOk scope env cl x) : ∀ y ∈ scope.names, y.2 ≠ .cell := fun y hy => of_decide_eq_true (List.all_eq_true.mp h.cell y hy)
theorem CompOk.names' (h : CompOk scope env cl x) : ∀ y ∈ scope.names, y.2 = .local → scope.names.lookup y.1 = some .local := fun y hy hl => by
  have := List.all_eq_true.mp h.names y hy
  rw [hl] at this
  simpa using this
theorem evComp {px pos : Pos} {pre : Heap → Prop} {R : Nat → (Nat → Value → Prop) → Heap → Prop} (ok : CompOk scope env cl x) (hs : Srcs c (eval iter env) R) (p : Value → Bool) (F : Value → Value → Prop)
    (hb : ∀ h₀ n P h₁, pre h₀ → Ext h₀ h₁ → c.ok h₁ → R n P h₁ → Body c env scope cl x ifs elt h₁ P p F) (hf : ∀ x, foldedSetIterable iter env x = pure x := by intro _; rfl) :
    EvF c pre (eval (.ListComp elt [⟨.Name x px, iter, ifs, 0⟩] scope pos) env) (fun v h => ∃ (D : Addr) (ys : List Value) (n : Nat) (P : Nat → Value → Prop) (h₁ : Heap) (us : List Value), v = .ref D ∧ h.IsList D ys.toArray ∧ R n P h₁ ∧ Ext h₁ h ∧ us.length = n ∧ (∀ j v, us[j]? = some v → P j v) ∧ Paired F (us.filter p) ys) :=
  fun s Q E k hp f => by
    refine wpAny_ListComp_free p F ok.clos ok.cell' ok.kind ok.names' ok.x (hs s _ E k fun I fp n P St h₁ h₂ tk W st hfp hn hI e₁ e₂ r => ?_) hf
    refine ⟨I, fp, [I], n, P, St, rfl, W, hn, st, hfp, quiet (k.ext e₁) hI e₂ (hb s.heap n P h₁ hp e₁ (k.ext e₁) r), fun D h' tk' ys vs hD hl _ hlen hP hF hk => ?_⟩
    have e' : Ext h₁ h' := fun b o z => hk b o (fun y => by have : b = I := by simpa using y
                                                            rw [this, hI] at z; cases z) (e₂ b o z)
    exact f (.ref D) h' tk' ⟨D, ys.toList, n, P, h₁, vs, rfl, by simpa using hl, r, e', hlen, hP, hF⟩ (e₁.trans e')
variable {hh : Heap} {gs : Array GenState} {dr : Drawn} {tk₀ : Nat} {os : OsState} {Q : Flow → Shared → Prop} {E : Value → Shared → Prop}
theorem sComp {y : PySem.Str} {px py pos spos : Pos} {rest : List Stmt} {R : Nat → (Nat → Value → Prop) → Heap → Prop} (k : c.ok hh) (ok : CompOk scope env cl x) (hs : Srcs c (eval iter env) R) (p : Value → Bool) (F : Value → Value → Prop)
    (hb : ∀ n P h₁, Ext hh h₁ → c.ok h₁ → R n P h₁ → Body c env scope cl x ifs elt h₁ P p F)
    (h : ∀ (D : Addr) (ys : List Value) (n : Nat) (P : Nat → Value → Prop) (h₁ : Heap) (us : List Value) (h' : Heap) (tk : Nat), Ext hh h₁ → h'.IsList D ys.toArray → R n P h₁ → ExtD h₁ h' → us.length = n → (∀ j v, us[j]? = some v → P j v) → Paired F (us.filter p) ys →
      (c.at (upd c.m y (.ref D))).ok h' → wpAny (model c.prog c.w) c.A (execs rest env) Q E ⟨h', gs, dr, tk, os⟩)
    (hL : env.locals = c.L := by rfl) (hly : env.kindOf y = some .local := by rfl) (hp : (env.scope.kind == .class || (env.scope.kind == .module && env.locals != env.globals)) = false := by rfl)
    (hsw : swapsWith (.ListComp elt [⟨.Name x px, iter, ifs, 0⟩] scope pos) (some (.Name y py)) spos.line env = pure true := by rfl) (hf : ∀ x, foldedSetIterable iter env x = pure x := by intro _; rfl) :
    wpAny (model c.prog c.w) c.A (execs (.Assign [.Name y py] (.ListComp elt [⟨.Name x px, iter, ifs, 0⟩] scope pos) spos :: rest) env) Q E ⟨hh, gs, dr, tk₀, os⟩ := by
  refine wpAny_execs_cons (wpAny_Assign_ListComp_free p F hsw ok.clos ok.cell' ok.kind ok.names' ok.x hly hp (hs ⟨hh, gs, dr, tk₀, os⟩ _ E k fun I fp n P St h₁ h₂ tk W st hfp hn hI e₁ e₂ r => ?_) hf)
  have k₂ := (k.ext e₁).ext e₂
  have hLI : c.L ≠ I := fun z => by
    have := (k.ext e₁).fr.ns.lt
    have hI2 := hI
    rw [← z] at hI2
    obtain ⟨o, _, _, ho, _⟩ := (k.ext e₁).fr.ns
    rw [hI2] at ho; cases ho
  refine ⟨I, fp, [I], n, P, St, c.m, rfl, W, hn, st, hfp, by rw [hL]; simpa using hLI, hL ▸ k₂.fr.ns, quiet (k.ext e₁) hI e₂ (hb n P h₁ e₁ (k.ext e₁) r), fun D h' tk' ys vs hD hl _ hlen hP hF hns hk => ?_⟩
  rw [hL] at hns hk
  have hIb : ∀ b o, h₁.get? b = some o → b ∉ [I] := fun b o z y => by
    have : b = I := by simpa using y
    rw [this, hI] at z; cases z
  have kb : ∀ b o, b ≠ c.L → h₁.get? b = some o → h'.get? b = some o := fun b o hb z => hk b o hb (hIb b o z) (e₂ b o z)
  have k₁ := k.ext e₁
  have ndL : ∀ b o, h₁.get? b = some o → nd o → b ≠ c.L := fun b o z nz q => by
    obtain ⟨o', ho', hn'⟩ := ns_dict k₁.fr.ns
    rw [q, ho'] at z; cases z; exact hn' nz
  refine h D ys.toList n P h₁ vs h' tk' e₁ (by simpa using hl) r (fun b o z nz => kb b o (ndL b o z nz) z) hlen hP hF ⟨⟨hns, fun b o z => kb b o (fun q => ?_) (k₁.base b o z), k.fr.above⟩, fun b o z nz => kb b o (ndL b o (k₁.back b o z nz) nz) (k₁.back b o z nz), fun q hq => ?_⟩
  · have h1 := Heap.lt_size z
    rw [q] at h1
    exact absurd (Nat.lt_of_lt_of_le h1 k.fr.above) (Nat.lt_irrefl _)
  · have := k₁.own q hq
    exact ⟨kb _ _ this.2.1 this.1, this.2⟩
end
end Mine
end
section
open PySem PySem.W PyProof.Rows
set_option linter.unusedVariables false
set_option maxRecDepth 100000
namespace Mine
section
variable {c : Cx} {env : Env}
theorem evIf {t a b : Expr} {pos : Pos} {bv : Bool} {pre : Heap → Prop} {R : Value → Heap → Prop} (ht : Tst c (PySem.isTrue t env (eval t env)) bv) (hT : bv = true → EvF c (fun _ => True) (eval a env) R) (hF : bv = false → EvF c (fun _ => True) (eval b env) R) : EvF c pre (eval (.IfExp t a b pos) env) R :=
  fun s Q E k _ f => IfExp_ (ht s _ E k trivial fun r h' tk q e => by
    subst q
    cases r with
    | true => exact hT rfl _ Q E (k.ext e) trivial fun v h'' tk' p e' => f v h'' tk' p (e.trans e')
    | false => exact hF rfl _ Q E (k.ext e) trivial fun v h'' tk' p e' => f v h'' tk' p (e.trans e'))
theorem lt_one (a b : Nat) : (decide ((S [a]).cps.toList < (S [b]).cps.toList)) = decide (a < b) := by
  rw [S_list, S_list]
  by_cases h : a < b
  · rw [decide_eq_true h]; exact decide_eq_true (List.Lex.rel h)
  · rw [decide_eq_false h]
    refine decide_eq_false fun z => ?_
    cases z with
    | rel r => exact h r
    | cons r => cases r
/-- lo <= sign <= hi -/
theorem tBetween {l r₁ r₂ : Expr} {pos : Pos} {whole : Sem Value} {x y z : Nat} (hl : Ev c (eval l env) (IsS (S [x]))) (h1 : Ev c (eval r₁ env) (IsS (S [y]))) (h2 : Ev c (eval r₂ env) (IsS (S [z]))) (hm : lastMarks [.LtE, .LtE] [r₁, r₂] = false := by rfl) :
    Tst c (PySem.isTrue (.Compare l [.LtE, .LtE] [r₁, r₂] pos) env whole) (decide (x ≤ y) && decide (y ≤ z)) :=
  fun s Q E k _ f => isTrue_chain (hl s _ E k trivial fun a h₁ tk₁ ⟨t, q⟩ e₁ => test_link (h1 _ _ E (k.ext e₁) trivial fun b h₂ tk₂ ⟨u, q'⟩ e₂ => by
    subst q q'
    refine PySem.P.le_str (wpAny_truthy_bool ?_)
    have e1 : (!decide ((S [y]).cps.toList < (S [x]).cps.toList)) = decide (x ≤ y) := by rw [lt_one]; by_cases h : x ≤ y <;> simp [h] <;> omega
    rw [e1]
    by_cases h : x ≤ y
    · simp only [h, decide_true, if_true]
      refine test_last (h2 _ _ E ((k.ext e₁).ext e₂) trivial fun d h₃ tk₃ ⟨u', q''⟩ e₃ => ?_)
      subst q''
      refine PySem.P.le_str (wpAny_truthy_bool ?_)
      have e2 : (!decide ((S [z]).cps.toList < (S [y]).cps.toList)) = decide (y ≤ z) := by rw [lt_one]; by_cases h : y ≤ z <;> simp [h] <;> omega
      rw [e2]
      exact f _ h₃ tk₃ (by simp [h]) ((e₁.trans e₂).trans e₃)
    · simp only [h, decide_false, Bool.false_eq_true, if_false]
      exact f _ h₂ tk₂ (by simp [h]) (e₁.trans e₂))) hm
theorem strs_drop : ∀ {vs : List Value} {xs : List PySem.Str}, StrsAre vs xs → ∀ k : Nat, StrsAre (vs.drop k) (xs.drop k)
  | _, _, h, 0 => h
  | _, _, .nil, _ + 1 => .nil
  | _, _, .cons _ _ h, k + 1 => strs_drop h k
theorem strs_take : ∀ {vs : List Value} {xs : List PySem.Str}, StrsAre vs xs → ∀ k : Nat, StrsAre (vs.take k) (xs.take k)
  | _, _, _, 0 => .nil
  | _, _, .nil, _ + 1 => .nil
  | _, _, .cons n t h, k + 1 => .cons n t (strs_take h k)
/-- a cut of a list; what is said of its items -/
theorem slLw {value : Expr} {lo hi : Option Expr} {p pos : Pos} {pre : Heap → Prop} {R : Array Value → Prop} {R' : Array Value → Prop} {P1 P2 : Value → Prop} (hv : EvF c pre (eval value env) (fun v h => ∃ a vs, v = .ref a ∧ h.IsList a vs ∧ R vs))
    (h1 : EvF c (fun _ => True) (evalPart lo env) (fun v _ => P1 v)) (h2 : EvF c (fun _ => True) (evalPart hi env) (fun v _ => P2 v))
    (hr : ∀ vs vl vu, R vs → P1 vl → P2 vu → vs.size ≤ sizeLine ∧ ∃ i j, IsPart vl i ∧ IsPart vu j ∧ R' (slicePick vs i j none)) (ht : ∀ o r, letTemporaryGo value o r = pure () := by intro _ _; rfl) :
    EvF c pre (eval (.Subscript value (.Slice lo hi none p) pos) env) (fun v h => ∃ a vs, v = .ref a ∧ h.IsList a vs ∧ R' vs) :=
  fun s Q E k hp f => wpAny_Subscript_list_slice (hv s _ E k hp fun v h₁ tk₁ ⟨a, vs, q, l, r⟩ e₁ => h1 _ _ E (k.ext e₁) trivial fun vl h₂ tk₂ p₁ e₂ => h2 _ _ E ((k.ext e₁).ext e₂) trivial fun vu h₃ tk₃ p₂ e₃ => by
    subst q
    obtain ⟨hsz, i, j, pi, pj, r'⟩ := hr vs vl vu r p₁ p₂
    refine ⟨a, vs, i, j, rfl, isList_st (e₂.trans e₃).toD l, hsz, pi, pj, ?_⟩
    have hget : (((h₃.push { cls := .type "slice", data := .fields #[vl, vu, .none] }).push { cls := .type "list", data := .seq (slicePick vs i j none) }).get? (h₃.objs.size + 1)) = some { cls := .type "list", data := .seq (slicePick vs i j none) } := by
      have := Heap.get?_push_size (h := h₃.push { cls := .type "slice", data := .fields #[vl, vu, .none] }) (o := { cls := .type "list", data := .seq (slicePick vs i j none) }) rfl
      rw [Heap.size_push] at this
      exact this
    exact f _ _ tk₃ ⟨_, _, rfl, ⟨_, hget, rfl, 0, rfl⟩, r'⟩ (((e₁.trans e₂).trans e₃).trans ((Ext.push _).trans (Ext.push _)))) ht
theorem partN : EvF c (fun _ => True) (evalPart none env) (fun v _ => v = .none) := fun s Q E _ _ f => evalPart_none_step (f _ s.heap s.toks rfl Ext.refl)
theorem partI {e : Expr} {i : Int} (h : Ev c (eval e env) (IsI i)) : EvF c (fun _ => True) (evalPart (some e) env) (fun v _ => ∃ t, v = .int i t) := fun s Q E k _ f => evalPart_some_step (h s _ E k trivial fun v h' tk p e => f v h' tk p e)
theorem ssA {pre : Heap → Prop} {t : Sem Value} {xs : List PySem.Str} (h : EvF c pre t (IsSs xs).p) : EvF c pre t (fun v h => ∃ a vs, v = .ref a ∧ h.IsList a vs ∧ StrsAre vs.toList xs) := h.mono fun v h ⟨a, vs, q, l, s⟩ => ⟨a, vs.toArray, q, l, by simpa using s⟩
theorem ssB {pre : Heap → Prop} {t : Sem Value} {xs : List PySem.Str} (h : EvF c pre t (fun v h => ∃ a vs, v = .ref a ∧ h.IsList a vs ∧ StrsAre vs.toList xs)) : EvF c pre t (IsSs xs).p := h.mono fun v h ⟨a, vs, q, l, s⟩ => ⟨a, vs.toList, q, by simpa using l, s⟩
theorem slFrom {value a : Expr} {p pos : Pos} {xs : List PySem.Str} {i : Nat} (hv : Ev c (eval value env) (IsSs xs)) (ha : Ev c (eval a env) (IsI i)) (hsz : xs.length ≤ sizeLine) (ht : ∀ o r, letTemporaryGo value o r = pure () := by intro _ _; rfl) :
    Ev c (eval (.Subscript value (.Slice (some a) none none p) pos) env) (IsSs (xs.drop i)) :=
  ssB (slLw (ssA hv) (partI ha) partN (fun vs vl vu r ⟨t, e⟩ e' => by
    subst e e'
    have hl := strsAre_len r
    refine ⟨by rw [← Array.length_toList, hl]; exact hsz, _, _, .int _ _, .none, ?_⟩
    rw [slicePick_from']
    simpa using strs_drop r i) ht)
theorem slRun {value a b : Expr} {p pos : Pos} {xs : List PySem.Str} {i j : Nat} (hv : Ev c (eval value env) (IsSs xs)) (ha : Ev c (eval a env) (IsI i)) (hb : Ev c (eval b env) (IsI j)) (hij : i ≤ j) (hj : j ≤ xs.length) (hsz : xs.length ≤ sizeLine) (ht : ∀ o r, letTemporaryGo value o r = pure () := by intro _ _; rfl) :
    Ev c (eval (.Subscript value (.Slice (some a) (some b) none p) pos) env) (IsSs ((xs.drop i).take (j - i))) :=
  ssB (slLw (ssA hv) (partI ha) (partI hb) (fun vs vl vu r ⟨t, e⟩ ⟨t', e'⟩ => by
    subst e e'
    have hl := strsAre_len r
    refine ⟨by rw [← Array.length_toList, hl]; exact hsz, _, _, .int _ _, .int _ _, ?_⟩
    rw [slicePick_run _ _ _ (by rw [← Array.length_toList, hl]; exact hj) hij]
    simpa using strs_take (strs_drop r i) (j - i)) ht)
theorem slBut {value b : Expr} {p pos : Pos} {xs : List PySem.Str} (hv : Ev c (eval value env) (IsSs xs)) (hb : Ev c (eval b env) (IsI (-1))) (hsz : xs.length ≤ sizeLine) (ht : ∀ o r, letTemporaryGo value o r = pure () := by intro _ _; rfl) :
    Ev c (eval (.Subscript value (.Slice none (some b) none p) pos) env) (IsSs (xs.take (xs.length - 1))) :=
  ssB (slLw (ssA hv) partN (partI hb) (fun vs vl vu r e' ⟨t, e⟩ => by
    subst e e'
    have hl := strsAre_len r
    refine ⟨by rw [← Array.length_toList, hl]; exact hsz, _, _, .none, .int _ _, ?_⟩
    have hsp := slicePick_butLast vs 1 (Nat.le_refl _)
    rw [show (-((1 : Nat) : Int)) = -1 from rfl] at hsp
    rw [hsp]
    have := strs_take r (vs.size - 1)
    rw [show xs.length - 1 = vs.size - 1 by rw [← Array.length_toList, hl]]
    simpa using this) ht)
/-- lists glued -/
theorem addLw {a b : Addr} {vs ws : List Value} {s : Shared} {Q : Value → Shared → Prop} {E : Value → Shared → Prop} (hl : s.heap.IsList a vs.toArray) (hb : s.heap.IsList b ws.toArray) (hsz : vs.length + ws.length ≤ sizeLine)
    (h : Q (.ref s.heap.objs.size) { s with heap := s.heap.push { cls := .type "list", data := .seq (vs ++ ws).toArray } }) : wpAny (model c.prog c.w) c.A (binaryOp .Add (.ref a) (.ref b)) Q E s := by
  obtain ⟨⟨cls, dd, data, sl⟩, ho, hc, n, hd⟩ := id hl
  obtain ⟨⟨cls2, dd2, data2, sl2⟩, ho2, hc2, n2, hd2⟩ := id hb
  simp only at hc hd hc2 hd2
  subst hc hd hc2 hd2
  have e : vs.toArray ++ ws.toArray = (vs ++ ws).toArray := by simp
  refine concat_meets ⟨_, ho, rfl⟩ ⟨_, ho2, rfl⟩ noFill_list_add seq_list_add PySem.F.slot_list_add PySem.F.entry_list_add (PySem.F.args_list_add_2 _ _) (list_addW a b vs.toArray ws.toArray n n2 dd dd2 sl sl2 (by simpa using hsz)) ⟨ho, ho2, ?_⟩
  rw [e]
  exact h
theorem addLs {l r : Expr} {pos : Pos} {xs ys : List PySem.Str} (hl : Ev c (eval l env) (IsSs xs)) (hr : Ev c (eval r env) (IsSs ys)) (hsz : xs.length + ys.length ≤ sizeLine) : Ev c (eval (.BinOp l .Add r pos) env) (IsSs (xs ++ ys)) :=
  bin hl hr fun _ _ s _ _ _ ⟨⟨a, vs, q, l, sv⟩, ⟨b, ws, q', l', sw⟩⟩ f => by
    subst q q'
    exact addLw l l' (by rw [strsAre_len sv, strsAre_len sw]; exact hsz) (f _ _ s.toks ⟨_, _, rfl, ⟨_, Heap.get?_push_size _ rfl, rfl, 0, rfl⟩, StrsAre.append' sv sw⟩ (Ext.push _))
theorem lenSs {f e : Expr} {pos : Pos} {xs : List PySem.Str} (hf : Ev c (eval f env) (IsV (.builtin "len"))) (he : Ev c (eval e env) (IsSs xs)) (hx : xs.length ≤ sizeLine) (h1 : starEach [e] env = (false, eval e env) :: starEach [] env := by rfl)
    (h2 : eval (.Call f [e] [] pos) env = (do let fv ← eval f env; callWith pos fv [] (backTo pos (starEach [e] env)) (backToKw pos (keywordEach [] env))) := by rfl) : Ev c (eval (.Call f [e] [] pos) env) (IsI xs.length) :=
  callB1 hf he (fun v s Q E _ ⟨a, vs, q, l, sv⟩ f => by
    subst q
    have hl := strsAre_len sv
    have hS : sizeLine = 16777216 := rfl
    refine PyProof.Rows.len_list l (by simp; omega) ?_
    have : (vs.toArray.size : Int) = xs.length := by simp [hl]
    rw [this]
    exact f _ s.heap _ ⟨_, rfl⟩ Ext.refl) h1 h2
variable {hh : Heap} {gs : Array GenState} {dr : Drawn} {tk₀ : Nat} {os : OsState} {Q : Flow → Shared → Prop} {E : Value → Shared → Prop}
/-- two names at once, from a pair that is written: the second store comes first -/
theorem EvF.wk {α : Type} {pre : Heap → Prop} {t : Sem α} {R : α → Heap → Prop} (h : EvF c (fun _ => True) t R) : EvF c pre t R := fun s Q E k _ f => h s Q E k trivial f
theorem sPair {x y : PySem.Str} {p₁ p₂ tp vp pos : Pos} {k₁ k₂ : Nat} {e₁ e₂ : Expr} {rest : List Stmt} {P P' : VP} (k : c.ok hh) (hA : c.A.handled = none) (he : EvF c (fun h => h = hh) (eval e₁ env) P.p) (he' : Ev c (eval e₂ env) P')
    (h : ∀ v v' h' tk, P.p v h' → P'.p v' h' → (c.at (upd (upd c.m y v') x v)).ok h' → wpAny (model c.prog c.w) c.A (execs rest env) Q E ⟨h', gs, dr, tk, os⟩)
    (hL : env.locals = c.L := by rfl) (hlx : env.kindOf x = some .local := by rfl) (hly : env.kindOf y = some .local := by rfl) (hp : (env.scope.kind == .class || (env.scope.kind == .module && env.locals != env.globals)) = false := by rfl)
    (hs : swapsWithSole [.Tuple [.Name x p₁, .Name y p₂] k₁ tp] (.Tuple [e₁, e₂] k₂ vp) pos.line env = pure false := by rfl)
    (hw : swappedStores [.Tuple [.Name x p₁, .Name y p₂] k₁ tp] (.Tuple [e₁, e₂] k₂ vp) env = pure (some [x, y]) := by rfl)
    (h1 : starEach [e₁, e₂] env = (false, eval e₁ env) :: starEach [e₂] env := by rfl) (h2 : starEach [e₂] env = (false, eval e₂ env) :: starEach [] env := by rfl) :
    wpAny (model c.prog c.w) c.A (execs (.Assign [.Tuple [.Name x p₁, .Name y p₂] k₁ tp] (.Tuple [e₁, e₂] k₂ vp) pos :: rest) env) Q E ⟨hh, gs, dr, tk₀, os⟩ := by
  refine wpAny_execs_cons (Assign_Tuple_swapped (names := [x, y]) (Tuple_ (spliced_more (he ⟨hh, gs, dr, tk₀, os⟩ _ E k rfl fun v h₁ tk₁ p e₁' => spliced_more (he' _ _ E (k.ext e₁') trivial fun v' h₂ tk₂ p' e₂' => spliced_none (wpAny_newObj_type ?_ (by show 2 ≤ sizeLine; decide))) h2) h1)) hs hw)
  have k₂' := (k.ext e₁').ext e₂'
  refine unpackItems_tuple (items := #[v, v']) hA ⟨_, Heap.get?_push_size _ rfl, rfl, 0, rfl⟩ fun h₃ he₃ => ?_
  have e₃ : Ext h₂ h₃ := fun b o z => he₃ b o (fun q => by
    have hz := Heap.lt_size z
    rw [q, Heap.size_push] at hz
    exact absurd hz (Nat.not_lt.mpr (Nat.le_succ _))) (Heap.get?_push_of_some _ z)
  show wpAny _ _ (do holding [v] (bindName env y v'); assignInOrder [fun w => bindName env x w] [v]) _ _ _
  refine wpAny_bind (wpAny_holding (bindName_ (st1 (k₂'.ext e₃) (fun h₄ tk₄ d₄ k₄ => ?_) hL hly hp)))
  show wpAny _ _ (do holding [] (bindName env x v); assignInOrder [] []) _ _ _
  refine wpAny_bind (wpAny_holding (bindName_ (st1 (c := c.at (upd c.m y v')) k₄ (fun h₅ tk₅ d₅ k₅ => wpAny_pure ?_) hL hlx hp)))
  exact h v v' h₅ tk₅ (P.st (((e₂'.trans e₃).toD.trans d₄).trans d₅) p) (P'.st ((e₃.toD.trans d₄).trans d₅) p') k₅
/-- a list that is new, and turns from now on -/
noncomputable def IsNew (hh : Heap) : VP := ⟨fun v h => ∃ a, v = .ref a ∧ h.get? a = some (plainL [] 0) ∧ hh.get? a = none, fun e ⟨a, q, x, y⟩ => ⟨a, q, e _ _ x rfl, y⟩⟩
theorem evNew {pos : Pos} (g : Heap) : EvF c (fun h => h = g) (eval (.List [] pos) env) (IsNew g).p :=
  fun s Q E k e f => List_ (spliced_none (wpAny_newObj_type (f _ _ s.toks ⟨_, rfl, Heap.get?_push_size _ rfl, e ▸ fresh_size⟩ (Ext.push _)) (by show (#[] : Array Value).size ≤ sizeLine; decide)))
theorem Cx.ok.owned {c : Cx} {h h' : Heap} {m : PySem.Str → Option Value} {a : Addr} (k : c.ok h) (k' : (c.at m).ok h') (ho : h'.get? a = some (plainL [] 0)) (hn : h.get? a = none) :
    ∃ g', ExtD c.g g' ∧ (c.re m ((a, plainL [] 0) :: c.mu) g').ok h' ∧ ∀ p ∈ c.mu, p.1 ≠ a := by
  have hne : ∀ p ∈ c.mu, p.1 ≠ a := fun p hp z => by have := (k.own p hp).1; rw [z, hn] at this; cases this
  have h0 : c.h₀.get? a = none := by
    cases z : c.h₀.get? a with
    | none => rfl
    | some o => have := k.base _ _ z; rw [hn] at this; cases this
  have hLa : a ≠ c.L := fun z => by
    obtain ⟨o, _, _, ho', _⟩ := k.fr.ns
    rw [← z, hn] at ho'; cases ho'
  refine ⟨hideAll h' (a :: c.mu.map (·.1)), fun b o e z => ?_, ⟨k'.fr, fun b o e _ => of_hideAll _ e, fun p hp => ?_⟩, hne⟩
  · refine hideAll_get _ (k'.back b o e z) fun y => ?_
    rcases List.mem_cons.mp y with rfl | y
    · have := k.back _ _ e z; rw [hn] at this; cases this
    · obtain ⟨p, hp, e'⟩ := List.mem_map.mp y
      exact (k.own p hp).2.2.2 o (e' ▸ e) z
  · rcases List.mem_cons.mp hp with rfl | hp
    · exact ⟨ho, hLa, h0, .none (hideAll_none _ (by simp))⟩
    · have := k'.own p hp
      exact ⟨this.1, this.2.1, this.2.2.1, .none (hideAll_none _ (List.mem_cons_of_mem _ (List.mem_map_of_mem hp)))⟩
end
end Mine
end
section
open PySem PySem.W PyProof.Rows
set_option linter.unusedVariables false
set_option maxRecDepth 100000
set_option maxHeartbeats 1000000
namespace Mine
theorem Cx.ok.add {c : Cx} {m : PySem.Str → Option Value} {mu : List (Addr × Obj)} {hh h' : Heap} {b : Addr} {o : Obj} (k : c.ok hh) (k' : (c.atM m mu).ok h') (ho : h'.get? b = some o) (hn : hh.get? b = none) : (c.atM m (mu ++ [(b, o)])).ok h' := by
  refine ⟨k'.fr, k'.back, fun p hp => ?_⟩
  rcases List.mem_append.mp hp with hp | hp
  · exact k'.own p hp
  · have : p = (b, o) := by simpa using hp
    subst this
    refine ⟨ho, fun z => ?_, ?_, fun q e nq => ?_⟩
    · obtain ⟨o', _, _, ho', _⟩ := k.fr.ns
      have : c.L = b := z.symm
      rw [this, hn] at ho'; cases ho'
    · cases z : c.h₀.get? b with
      | none => rfl
      | some o' => have := k.base _ _ z; rw [hn] at this; cases this
    · have := k.back b q e nq
      rw [hn] at this; cases this
/-! a told line: a tuple of three texts -/
noncomputable def lnT (l : Ln) : List PySem.Str := [S l.txt, S (vals l.toks), S (if l.soft then [] else [10])]
noncomputable def tupO (us : List Value) : Obj := { cls := .type "tuple", data := .seq us.toArray }
noncomputable def LnV (h : Heap) (v : Value) (l : Ln) : Prop := ∃ b us, v = .ref b ∧ IsTup h b us.toArray ∧ StrsAre us (lnT l)
theorem LnV.st {h h' : Heap} (e : ExtD h h') {v : Value} {l : Ln} (x : LnV h v l) : LnV h' v l := let ⟨b, us, q, t, s⟩ := x; ⟨b, us, q, isTup_st e t, s⟩
theorem Paired.mono' {α β : Type} {F F' : α → β → Prop} (h : ∀ a b, F a b → F' a b) : ∀ {l₁ : List α} {l₂ : List β}, Paired F l₁ l₂ → Paired F' l₁ l₂
  | _, _, .nil => .nil
  | _, _, .cons x r => .cons (h _ _ x) (Paired.mono' h r)
theorem Paired.app {α β : Type} {F : α → β → Prop} : ∀ {l₁ m₁ : List α} {l₂ m₂ : List β}, Paired F l₁ l₂ → Paired F m₁ m₂ → Paired F (l₁ ++ m₁) (l₂ ++ m₂)
  | _, _, _, _, .nil, h => h
  | _, _, _, _, .cons x r, h => .cons x (Paired.app r h)
theorem Paired.len {α β : Type} {F : α → β → Prop} : ∀ {l₁ : List α} {l₂ : List β}, Paired F l₁ l₂ → l₁.length = l₂.length
  | _, _, .nil => rfl
  | _, _, .cons x r => by simp [Paired.len r]
noncomputable def IsLns (ls : List Ln) : VP := ⟨fun v h => ∃ a vs, v = .ref a ∧ h.IsList a vs.toArray ∧ Paired (LnV h) vs ls, by rintro v h h' e ⟨a, vs, q, l, p⟩; exact ⟨a, vs, q, isList_st e l, Paired.mono' (fun _ _ x => x.st e) p⟩⟩
noncomputable def IsLnsN (g : Heap) (ls : List Ln) : VP := ⟨fun v h => ∃ a vs, v = .ref a ∧ h.IsList a vs.toArray ∧ Paired (LnV h) vs ls ∧ g.get? a = none, by rintro v h h' e ⟨a, vs, q, l, p, n⟩; exact ⟨a, vs, q, isList_st e l, Paired.mono' (fun _ _ x => x.st e) p, n⟩⟩
noncomputable def LnM (tl : List (Addr × Obj)) (v : Value) (l : Ln) : Prop := ∃ b us, v = .ref b ∧ (b, tupO us) ∈ tl ∧ StrsAre us (lnT l)
/-! pieces -/
noncomputable def PT (ts : List Tk) : List PySem.Str := ts.map fun t => S t.txt
theorem join_PT (ts : List Tk) : Txt.join (S []) (PT ts) = S (txts ts) := by
  have := join_empty (ts.map Tk.txt)
  rw [List.map_map] at this
  unfold PT
  refine Eq.trans this ?_
  show _ = S (ts.flatMap Tk.txt)
  rw [List.flatMap_def]
theorem PT_len (ts : List Tk) : (PT ts).length = ts.length := by simp [PT]
theorem PT_sum (ts : List Tk) : ((PT ts).map (fun x : PySem.Str => x.length)).sum = (txts ts).length := by
  induction ts with
  | nil => rfl
  | cons t r ih => rw [txts_cons, List.length_append, ← ih]; simp [PT, S_len]
theorem vals_close (ts : List Tk) : vals (closeT ts) = vals ts := by
  rcases List.eq_nil_or_concat ts with rfl | ⟨a, t, rfl⟩
  · rfl
  · rw [List.concat_eq_append, closeT_drop (by simp)]
    unfold vals
    rw [List.map_append, List.map_append]
    congr 1
    cases t with
    | hx n => rfl
    | ch c => unfold closeT; simp only [List.getLast?_singleton]; split <;> simp [Tk.val]
theorem vals_tok (r : List Nat) : vals (r.map tok) = r := by
  unfold vals; rw [List.map_map]
  exact (List.map_congr_left fun c _ => tok_val c).trans (List.map_id r)
theorem drop_close {a b : List Tk} : (closeT (a ++ b)).drop a.length = closeT b := by
  by_cases h : b = []
  · subst h
    rw [List.append_nil, List.drop_of_length_le (by rw [closeT_length]; exact Nat.le_refl _)]; rfl
  · rw [closeT_drop h, List.drop_left]
theorem plain_test (x : Nat) : (S [x] == S [9] || (decide (32 ≤ x) && decide (x ≤ 126) && (S [x] != S [61]))) = plainSign x := by
  unfold plainSign
  rw [bne, S_beq, S_beq]
  simp [bne]
theorem paired_signs : ∀ {us ys : List Value} {row : List Nat}, Paired (fun v y => ∀ x u, v = Value.str (S [x]) u → ∃ u', y = Value.str (S (tok x).txt) u') us ys → us.length = row.length → (∀ (j : Nat) (v : Value), us[j]? = some v → ∃ x u, row[j]? = some x ∧ v = Value.str (S [x]) u) → StrsAre ys (PT (row.map tok))
  | _, _, [], .nil, _, _ => .nil
  | _, _, x :: row, .cons (a := a) h r, hl, hv => by
    obtain ⟨x', u, e, rfl⟩ := hv 0 a rfl
    have : x = x' := by simpa using e
    subst this
    obtain ⟨u', rfl⟩ := h x u rfl
    exact .cons _ _ (paired_signs r (by simpa using hl) fun j v hj => hv (j + 1) v (by simpa using hj))
theorem lns_count {n : Nat} (hn : 4 ≤ n) (ts : List Tk) : (lns n ts).length ≤ 6 * ts.length + 2 := by
  have h1 := lns_size (e := [10]) (by decide) hn _ ts (Nat.le_refl _)
  have h2 : ∀ ls : List Ln, ls.length ≤ (ls.flatMap fun l => l.txt ++ [10]).length := fun ls => by
    induction ls with
    | nil => simp
    | cons l r ih => rw [List.flatMap_cons, List.length_append, List.length_append, List.length_cons]; simp only [List.length_cons, List.length_nil]; omega
  exact Nat.le_trans (h2 _) h1
/-- the names of _law_lines that stay -/
structure LJ (row : List Nat) (n : Nat) (D a : Addr) (vc : Value) (m : PySem.Str → Option Value) : Prop where
  row : HS m (Str.ofString "row") row
  lim : HI m (Str.ofString "limit") n
  pcs : m (Str.ofString "pieces") = some (.ref D)
  cls : m (Str.ofString "closed") = some vc
  lns : m (Str.ofString "lines") = some (.ref a)
theorem LJ.upd {row : List Nat} {n : Nat} {D a : Addr} {vc : Value} {m : PySem.Str → Option Value} {x : PySem.Str} {v : Value} (d : LJ row n D a vc m) (h1 : Str.ofString "row" ≠ x := by decide) (h2 : Str.ofString "limit" ≠ x := by decide) (h3 : Str.ofString "pieces" ≠ x := by decide)
    (h4 : Str.ofString "closed" ≠ x := by decide) (h5 : Str.ofString "lines" ≠ x := by decide) : LJ row n D a vc (Mine.upd m x v) :=
  ⟨d.row.ne h1, d.lim.ne h2, (upd_ne h3).trans d.pcs, (upd_ne h4).trans d.cls, (upd_ne h5).trans d.lns⟩
noncomputable def IsTupN (hh : Heap) (xs : List PySem.Str) : VP := ⟨fun v h => ∃ b us, v = .ref b ∧ h.get? b = some (tupO us) ∧ StrsAre us xs ∧ hh.get? b = none, by rintro v h h' e ⟨b, us, q, o, s, n⟩; exact ⟨b, us, q, e _ _ o rfl, s, n⟩⟩
section
variable {c : Cx} {env : Env}
theorem evSs_eq {t : Sem Value} {xs ys : List PySem.Str} (h : Ev c t (IsSs xs)) (e : xs = ys) : Ev c t (IsSs ys) := e ▸ h
theorem evTupN {pos : Pos} {n : Nat} {es : List Expr} {xs : List PySem.Str} {hh : Heap} (h : Sp c pos es env xs) (hn : xs.length ≤ sizeLine) : EvF c (fun h => h = hh) (eval (.Tuple es n pos) env) (IsTupN hh xs).p :=
  fun s Q E k q f => Tuple_ (h s _ E k trivial fun vs h' tk r e => wpAny_newObj_type (f _ _ tk ⟨_, vs, rfl, Heap.get?_push_size _ rfl, r, fresh_of (q ▸ e)⟩ (e.trans (Ext.push _))) (by show vs.toArray.size ≤ sizeLine; rw [List.size_toArray, strsAre_len r]; exact hn))
theorem joinPT {o a : Expr} {apos pos : Pos} {ts : List Tk} (ho : Ev c (eval o env) (IsS (S []))) (ha : Ev c (eval a env) (IsSs (PT ts))) (hsz : (txts ts).length ≤ 16777216) (hbase : attributeBase o "join" env (eval o env) = eval o env := by rfl) (hs : starEach [a] env = [(false, eval a env)] := by rfl) (hline : (apos.endLine == pos.line) = true := by rfl) :
    Ev c (eval (.Call (.Attribute o "join" apos) [a] [] pos) env) (IsS (S (txts ts))) :=
  evS_eq (mJoin ho ha (by rw [S_len]; simp only [List.length_nil, Nat.mul_zero, Nat.add_zero]; rw [PT_sum]; exact hsz) hbase hs hline) (join_PT ts)
end
section
variable {prog : Program} {w : World} {A : Around} {h₀ : Heap}
theorem lines_ctr {n : Nat} {row : List Nat} {t₁ t₂ : Tok} (G : Gd w h₀) (hr : A.depth + 1 < recursionLimit) (hA : A.handled = none) (hn : 4 ≤ n) (hn2 : n ≤ 1000) (hrow : row.length ≤ 100 ∧ ∀ c ∈ row, c < 256) :
    Ctr prog w A h₀ (call (.ref 91) [.str (S row) t₁, .int n t₂]) (IsLnsN h₀ (lnsOf n row)).p := by
  obtain ⟨p, lo, mg, mb, T₀⟩ := G.T
  have hS : sizeLine = 16777216 := rfl
  refine ctr_fn [(Str.ofString "row", .str (S row) t₁), (Str.ofString "limit", .int n t₂)] (G.X 91 (x91_0 w.params) (by rfl)) (codeRec_of G.X (by rfl)) T₀.nolimit (by omega) (fun s _ => BindsTo.of_eq (by rfl)) (by rfl) (by rfl) ?_
  intro hp gs dr os h₁ tk Q hx hx₁ k fin
  have X : (KK w.params).In hp := G.X.keeps hx
  have T := T₀.keeps hx
  have m1 : HS (fun y => ([(Str.ofString "row", Value.str (S row) t₁), (Str.ofString "limit", .int n t₂)] : List (PySem.Str × Value)).reverse.lookup y) (Str.ofString "row") row := ⟨t₁, rfl⟩
  have m2 : HI (fun y => ([(Str.ofString "row", Value.str (S row) t₁), (Str.ofString "limit", .int n t₂)] : List (PySem.Str × Value)).reverse.lookup y) (Str.ofString "limit") n := ⟨t₂, rfl⟩
  generalize (fun y => ([(Str.ofString "row", Value.str (S row) t₁), (Str.ofString "limit", .int n t₂)] : List (PySem.Str × Value)).reverse.lookup y) = m₀ at k m1 m2
  refine sComp (cl := []) k ⟨by rfl, by rfl, by rfl, by rfl, by rfl⟩ (srcS hA (nS m1) (by omega)) (fun _ => true) (fun v y => ∀ x u, v = .str (S [x]) u → ∃ u', y = .str (S (tok x).txt) u') ?_ ?_
  · intro n' P h₁' e₁ k₁ ⟨hn', hP⟩
    refine ⟨fun g C m i v _ _ _ _ => .inl ⟨rfl, rfl⟩, fun g C m i v _ _ hPi _ hm => ?_⟩
    obtain ⟨x, u, hxi, rfl⟩ := hP i v hPi
    have hx256 : x < 256 := hrow.2 x (List.mem_of_getElem? hxi)
    have hms : HS m (Str.ofString "sign") [x] := ⟨u, hm⟩
    refine EvF.mono (R := (IsS (S (tok x).txt)).p) ?_ (fun v h ⟨u', q⟩ x' u'' e => ?_)
    · refine evIf (tst_eq (tOr (eqS (nS hms) cS) fun _ => tAnd (tBetween cS (nS hms) cS) fun _ => neS (nS hms) cS) (plain_test x)) (fun hb => ?_) fun hb => ?_
      · have : tok x = .ch x := by unfold tok; rw [hb]; rfl
        rw [this]
        exact nS hms
      · have : tok x = .hx x := by unfold tok; rw [hb]; rfl
        rw [this]
        refine callK1 (a := 86) (P := IsS (S [x])) X (by rfl) (gl X T (by rfl)) (nS hms) ?_
        rintro v s' Q' E' k' ⟨t₀, rfl⟩ f
        exact quoted_ctr (G.ext hx) (by show A.depth + 1 < recursionLimit; exact hr) hx256 s' Q' E' k'.base f
    · injection e with e1 e2
      have : x = x' := by have := S_inj.mp e1; simpa using this
      subst this
      exact ⟨u', q⟩
  intro D ys n' P h₁' us h' tk' e₁ hl ⟨hn', hP⟩ ed hus hPu hF k₁
  have hft : us.filter (fun _ => true) = us := List.filter_eq_self.mpr fun _ _ => rfl
  rw [hft] at hF
  have hys : StrsAre ys (PT (row.map tok)) := paired_signs hF (hus.trans hn') fun j v hj => hP j v (hPu j v hj)
  dsimp only at k₁ ⊢
  obtain ⟨g₁, k₂, _, eg₁⟩ := k₁.rebaseD fun _ z => nomatch z
  have pP : (IsSs (PT (row.map tok))).p (.ref D) g₁ := (IsSs _).st eg₁ ⟨D, ys, rfl, hl, hys⟩
  dsimp only at k₂
  clear hF hft hys hl ed eg₁ hPu hus hP hn'
  have n1 := m1.ne (y := Str.ofString "pieces") (v := .ref D)
  have n2 := m2.ne (y := Str.ofString "pieces") (v := .ref D)
  have n3 : upd m₀ (Str.ofString "pieces") (.ref D) (Str.ofString "pieces") = some (.ref D) := upd_same
  generalize upd m₀ (Str.ofString "pieces") (.ref D) = m₂ at k₂ n1 n2 n3
  have hpl : (row.map tok).length ≤ 100 := by rw [List.length_map]; exact hrow.1
  have hPl : (PT (row.map tok)).length ≤ sizeLine := by rw [PT_len]; omega
  have hcl : (txts (closeT (row.map tok))).length ≤ 300 := by have := txts_le3 (closeT (row.map tok)); rw [closeT_length] at this; omega
  refine sAssignG (P := IsSs (PT (closeT (row.map tok)))) k₂ (fun _ z => nomatch z) ?_ ?_
  · -- closed
    refine evIf (bv := ([S [32], S [9]] : List PySem.Str).any (· == S (row.drop (row.length - 1)))) (inTs (x := S (row.drop (row.length - 1))) (evS_eq (slSN (x := S row) (i := -1) (nS n1) (negI cI) (by rw [S_len]; omega)) (slice_tail1 row)) (tpS (sp1 cS (sp1 cS sp0)) (by show 2 ≤ sizeLine; omega))) (fun hb => ?_) fun hb => ?_
    · obtain ⟨init, x, rfl, hbx⟩ : ∃ init x, row = init ++ [x] ∧ blank x = true := by
        rcases List.eq_nil_or_concat row with rfl | ⟨i, x, rfl⟩
        · simp [S_beq] at hb
        · rw [List.concat_eq_append] at hb ⊢
          refine ⟨i, x, rfl, ?_⟩
          simp [S_beq] at hb
          unfold blank
          rcases hb with hb | hb <;> simp [← hb]
      have htx : tok x = .ch x := by
        have : x = 32 ∨ x = 9 := by simpa [blank] using hbx
        rcases this with rfl | rfl <;> rfl
      have hcx : closeT ((init ++ [x]).map tok) = init.map tok ++ [.hx x] := by
        rw [List.map_append, List.map_cons, List.map_nil, htx, closeT_blank hbx]
      have e1 : PT (closeT ((init ++ [x]).map tok)) = (PT ((init ++ [x]).map tok)).take ((PT ((init ++ [x]).map tok)).length - 1) ++ [S (Tk.hx x).txt] := by
        rw [hcx]; simp [PT]
      rw [e1]
      refine addLs (slBut (nmF n3 pP) (negI cI) hPl) (lsS (sp1 (callK1 (a := 86) (P := IsS (S [x])) X (by rfl) (gl X T (by rfl)) (evS_eq (itS (x := S (init ++ [x])) (i := -1) (nS n1) (negI cI) (by rw [S_len]; simp; omega) (by rw [S_len]; simp; omega) (by rw [S_len]; omega)) (item_last (by simp))) ?_) sp0) (by show 1 ≤ sizeLine; omega)) (by rw [List.length_take]; show _ + 1 ≤ _; omega)
      rintro v s' Q' E' k' ⟨t₀, rfl⟩ f
      exact quoted_ctr (G.ext hx) (by show A.depth + 1 < recursionLimit; exact hr) (hrow.2 x (by simp)) s' Q' E' k'.base f
    · have : closeT (row.map tok) = row.map tok := closeT_other fun x hlx => by
        rcases List.eq_nil_or_concat row with rfl | ⟨i, y, rfl⟩
        · cases hlx
        · rw [List.concat_eq_append] at hb hlx
          simp at hlx
          have hyx : y = x := by
            have := congrArg Tk.val hlx
            rw [tok_val] at this
            exact this
          subst hyx
          simp [S_beq] at hb
          unfold blank
          cases h1 : (y == 32) with
          | true => exact absurd (eq_of_beq h1).symm hb.1
          | false => cases h2 : (y == 9) with
            | true => exact absurd (eq_of_beq h2).symm hb.2
            | false => rfl
      rw [this]
      exact nmF n3 pP
  intro vc g₂ h₂ tk₂ pC eg₂ k₃
  have pP2 := (IsSs _).st eg₂ pP
  dsimp only at k₃ ⊢
  have o1 := n1.ne (y := Str.ofString "closed") (v := vc)
  have o2 := n2.ne (y := Str.ofString "closed") (v := vc)
  have o3 : upd m₂ (Str.ofString "closed") vc (Str.ofString "pieces") = some (.ref D) := (upd_ne (by decide)).trans n3
  have o4 : upd m₂ (Str.ofString "closed") vc (Str.ofString "closed") = some vc := upd_same
  generalize upd m₂ (Str.ofString "closed") vc = m₃ at k₃ o1 o2 o3 o4
  clear pP k₂ n1 n2 n3
  refine sPair (P := IsNew h₂) (P' := IsI 0) k₃ hA (evNew h₂) cI ?_
  rintro va v' h₃ tk₃ ⟨a, rfl, ho, hnone⟩ pz k₄
  obtain ⟨g₃, eg₃, k₅, _⟩ := k₃.owned k₄ ho hnone
  dsimp only at eg₃ k₅ ⊢
  have pP3 := (IsSs _).st eg₃ pP2
  have pC3 := (IsSs _).st eg₃ pC
  have lj : LJ row n D a vc (upd (upd m₃ (Str.ofString "at") v') (Str.ofString "lines") (.ref a)) := ⟨o1.ne.ne, o2.ne.ne, (upd_ne (by decide)).trans ((upd_ne (by decide)).trans o3), (upd_ne (by decide)).trans ((upd_ne (by decide)).trans o4), upd_same⟩
  have hat : HI (upd (upd m₃ (Str.ofString "at") v') (Str.ofString "lines") (.ref a)) (Str.ofString "at") 0 := (HI.of pz).ne
  generalize upd (upd m₃ (Str.ofString "at") v') (Str.ofString "lines") (.ref a) = m₄ at k₅ lj hat
  clear pP2 pC k₃ k₄ o1 o2 o3 o4 eg₃ eg₂ ho hnone
  have hLL : lnsOf n row = lns n (row.map tok) := rfl
  have hvr : vals (row.map tok) = row := vals_tok row
  have hLc := lns_count hn (row.map tok)
  rw [hLL] at fin
  have hpr : (row.map tok).length = row.length := List.length_map ..
  generalize hps : row.map tok = ps at pP3 pC3 hcl hpl hPl fin hvr hLc hpr
  clear hLL hps
  refine sWhileT (fun k m mu => LJ row n D a vc m ∧ ∃ done rest vs q tl ls, ps = done ++ rest ∧ HI m (Str.ofString "at") done.length ∧ mu = (a, plainL vs q) :: tl ∧ (∀ p ∈ tl, p.1 ≠ a) ∧ Paired (LnM tl) vs ls ∧ ls ++ lns n rest = lns n ps ∧ k = rest.length) k₅
    ⟨lj, [], ps, [], 0, [], [], rfl, hat, rfl, (fun _ z => nomatch z), .nil, rfl, rfl⟩ ?_
  rintro kk m₅ mu₅ ⟨j1, done, rest, vs, q, tl, ls, hdr, j2, rfl, hne, hpd, hll, rfl⟩
  have hvs : vs.length ≤ 602 := by
    rw [Paired.len hpd]
    have := congrArg List.length hll
    rw [List.length_append] at this
    omega
  have hcr : (PT (closeT ps)).drop done.length = PT (closeT rest) := by
    unfold PT; rw [← List.map_drop, hdr, drop_close]
  have hcrl : (txts (closeT rest)).length ≤ 300 := by
    have : closeT ps = (closeT ps).take done.length ++ closeT rest := by rw [← drop_close (a := done) (b := rest), ← hdr, List.take_append_drop]
    rw [this, txts_append, List.length_append] at hcl
    omega
  have hCl : (PT (closeT ps)).length ≤ sizeLine := by rw [PT_len, closeT_length]; omega
  dsimp only
  refine ⟨_, gtI (lenS (x := S (txts (closeT rest))) (bl X T (by rfl) boot_len) (joinPT cS (evSs_eq (slFrom (nmF j1.cls pC3) (nI j2) hCl) hcr) (by omega)) (by rw [S_len]; omega)) (nI j1.lim), fun hb h₅ tk₅ k₆ => ?_, fun hb h₅ tk₅ k₆ => ?_⟩
  · have hlt : n < (txts (closeT rest)).length := by have := of_decide_eq_true hb; rw [S_len] at this; omega
    have hsoft := lns_soft hn hlt
    have hrne : rest ≠ [] := by rintro rfl; simp [closeT_nil] at hlt
    have hsh := cut_shorter (r := n - 1) (ts := rest) (by omega) hrne
    have hcapp := cut_app (n - 1) rest
    have hcl1 := cut_len (n - 1) rest
    have hplen : ps.length = done.length + rest.length := by rw [hdr, List.length_append]
    refine sPair (P := IsI done.length) (P' := IsI ((n : Int) - 1)) k₆ hA (nI j2).wk (subI (nI j1.lim) cI) ?_
    intro ve vr h₆ tk₆ pe pr k₇
    dsimp only at k₇ ⊢
    have l1 := (j1.upd (x := Str.ofString "room") (v := vr)).upd (x := Str.ofString "end") (v := ve)
    have l2 := (j2.ne (y := Str.ofString "room") (v := vr)).ne (y := Str.ofString "end") (v := ve)
    have l3 : HI (upd (upd m₅ (Str.ofString "room") vr) (Str.ofString "end") ve) (Str.ofString "end") done.length := HI.of pe
    have l4 : HI (upd (upd m₅ (Str.ofString "room") vr) (Str.ofString "end") ve) (Str.ofString "room") ((n - 1 : Nat) : Int) := ((HI.of pr).ne).eq (by omega)
    generalize upd (upd m₅ (Str.ofString "room") vr) (Str.ofString "end") ve = m₆ at k₇ l1 l2 l3 l4
    refine sWhileT (fun k m mu => LJ row n D a vc m ∧ HI m (Str.ofString "at") done.length ∧ mu = (a, plainL vs q) :: tl ∧ ∃ mid r2 room, rest = mid ++ r2 ∧ HI m (Str.ofString "end") (done.length + mid.length : Nat) ∧ HI m (Str.ofString "room") (room : Nat) ∧
      cut (n - 1) rest = (mid ++ (cut room r2).1, (cut room r2).2) ∧ k = r2.length) k₇ ⟨l1, l2, rfl, [], rest, n - 1, rfl, l3, l4, rfl, rfl⟩ ?_
    rintro kk m₇ mu₇ ⟨i1, i2, rfl, mid, r2, room, hmr, i3, i4, hcut, rfl⟩
    dsimp only
    have hend : ps.length = done.length + (mid.length + r2.length) := by rw [hplen, hmr, List.length_append]
    refine ⟨(match r2 with | [] => false | t :: _ => decide (t.txt.length ≤ room)), ?_, fun hb h₇ tk₇ k₈ => ?_, fun hb h₇ tk₇ k₈ => ?_⟩
    · cases r2 with
      | nil =>
        refine tst_eq (tAnd (b₂ := false) (ltI (nI i3) (lenSs (bl X T (by rfl) boot_len) (nmF i1.pcs pP3) hPl)) fun hb1 => ?_) (Bool.and_false _)
        have := of_decide_eq_true hb1
        rw [PT_len] at this
        simp only [List.length_nil] at hend
        omega
      | cons t r3 =>
        have hget : (PT ps)[(((done.length + mid.length : Nat) : Int)).toNat]? = some (S t.txt) := by
          unfold PT
          rw [List.getElem?_map, hdr, hmr, Int.toNat_natCast, ← List.length_append, ← List.append_assoc, List.getElem?_append_right (Nat.le_refl _), Nat.sub_self]
          rfl
        refine tst_eq (tAnd (ltI (nI i3) (lenSs (bl X T (by rfl) boot_len) (nmF i1.pcs pP3) hPl)) fun hb1 => leI (lenS (x := S t.txt) (bl X T (by rfl) boot_len) (itSs (nmF i1.pcs pP3) (nI i3) (by omega) (by omega) hget) (by rw [S_len]; rcases txt_len t with e | e <;> omega)) (nI i4)) ?_
        have h1 : decide (((done.length + mid.length : Nat) : Int) < ((PT ps).length : Int)) = true := decide_eq_true (by rw [PT_len]; simp only [List.length_cons] at hend; omega)
        rw [h1, Bool.true_and, S_len]
        simp only [Int.ofNat_le]
    · cases r2 with
      | nil => cases hb
      | cons t r3 =>
        have hfit : t.txt.length ≤ room := of_decide_eq_true hb
        have hget : (PT ps)[(((done.length + mid.length : Nat) : Int)).toNat]? = some (S t.txt) := by
          unfold PT
          rw [List.getElem?_map, hdr, hmr, Int.toNat_natCast, ← List.length_append, ← List.append_assoc, List.getElem?_append_right (Nat.le_refl _), Nat.sub_self]
          rfl
        obtain ⟨tr, hroom⟩ := i4
        refine sAugSubI (b := (t.txt.length : Int)) k₈ hroom (evI_eq (lenS (x := S t.txt) (bl X T (by rfl) boot_len) (itSs (nmF i1.pcs pP3) (nI i3) (by omega) (by omega) hget) (by rw [S_len]; rcases txt_len t with e | e <;> omega)) (by rw [S_len])) fun t₃ h₈ tk₈ k₉ => ?_
        dsimp only at k₉ ⊢
        obtain ⟨te, hend'⟩ := i3.ne (y := Str.ofString "room") (v := .int ((room : Int) - t.txt.length) t₃)
        refine sAugI (b := 1) k₉ hend' cI fun t₄ h₉ tk₉ k₁₀ => sNil ?_
        dsimp only at k₁₀ ⊢
        refine ⟨_, _, _, _, r3.length, rfl, k₁₀, by simp, i1.upd.upd, i2.ne.ne, rfl, mid ++ [t], r3, room - t.txt.length, by rw [hmr]; simp, HI.int.eq (by simp; omega), (HI.int.ne).eq (by omega), ?_, rfl⟩
        rw [hcut]
        simp only [cut]
        rw [if_pos hfit]
        simp
    · have hc : cut (n - 1) rest = (mid, r2) := by
        rw [hcut]
        cases r2 with
        | nil => simp [cut]
        | cons t r3 =>
          have : ¬ t.txt.length ≤ room := of_decide_eq_false hb
          simp only [cut]
          rw [if_neg this]; simp
      rw [hc] at hsoft hsh hcapp hcl1
      dsimp only at hsoft hsh hcapp hcl1
      have hmidP : ((PT ps).drop done.length).take (done.length + mid.length - done.length) = PT mid := by
        unfold PT
        rw [← List.map_drop, ← List.map_take, hdr, List.drop_left, hmr, Nat.add_sub_cancel_left, List.take_left]
      have hmidR : (row.drop done.length).take (done.length + mid.length - done.length) = vals mid := by
        rw [← hvr, hdr, hmr]
        unfold vals
        rw [← List.map_drop, ← List.map_take, List.drop_left, Nat.add_sub_cancel_left, List.take_left]
      have ha8 := (k₈.own (a, plainL vs q) (List.mem_cons_self ..)).1
      refine sAppM (P := IsTupN h₇ (lnT ⟨mid, true⟩)) k₈ i1.lns rfl hne (by omega) (fun Q' E' f => evTupN (xs := lnT ⟨mid, true⟩) (hh := h₇) (sp1 ?_ (sp1 ?_ (sp1 cS sp0))) (by show 3 ≤ sizeLine; omega) ⟨h₇, gs, dr, tk₇, os⟩ Q' E' k₈ rfl f) ?_
      · refine evS_eq (addS (x := S (txts mid)) (y := S [61]) (joinPT cS (evSs_eq (slRun (nmF i1.pcs pP3) (nI i2) (nI i3) (by omega) (by rw [PT_len]; omega) hPl) hmidP) (by omega)) cS (by rw [S_len, S_len]; simp only [List.length_cons, List.length_nil]; omega)) ?_
        rw [S_add]; rfl
      · refine evS_eq (slSS (x := S row) (i := (done.length : Int)) (j := ((done.length + mid.length : Nat) : Int)) (nS i1.row) (nI i2) (nI i3) (by rw [S_len]; omega)) ?_
        rw [slice_S (by omega) (by omega), hmidR]
      rintro v h₈ h₉ tk₉ ⟨b, us, rfl, hbo, hss, hbn⟩ e₈ hs₉ k₉
      have hba : b ≠ a := fun z => by rw [z, ha8] at hbn; cases hbn
      have k₁₀ := k₈.add k₉ (hs₉.extBut _ _ hba hbo) hbn
      dsimp only at k₁₀ ⊢
      refine sAssign (P := IsI ((done.length + mid.length : Nat) : Int)) k₁₀ (nI i3) fun v h₁₀ tk₁₀ p₁₀ k₁₁ => sNil ?_
      dsimp only at k₁₁ ⊢
      refine ⟨_, _, _, _, r2.length, rfl, k₁₁, hsh, i1.upd, done ++ mid, r2, vs ++ [.ref b], q + 1, tl ++ [(b, tupO us)], ls ++ [⟨mid, true⟩], by rw [hdr, hmr, List.append_assoc], (HI.of p₁₀).eq (by rw [List.length_append]), rfl, ?_, ?_, ?_, rfl⟩
      · intro p hp
        rcases List.mem_append.mp hp with hp | hp
        · exact hne p hp
        · have : p = (b, tupO us) := by simpa using hp
          subst this; exact hba
      · refine Paired.app (Paired.mono' ?_ hpd) (.cons ⟨b, us, rfl, by simp, hss⟩ .nil)
        rintro v l ⟨b', us', q', hm, ss'⟩
        exact ⟨b', us', q', List.mem_append_left _ hm, ss'⟩
      · rw [← hll, hsoft, List.append_assoc]; rfl
  · have hle : (txts (closeT rest)).length ≤ n := by have := of_decide_eq_false hb; rw [S_len] at this; omega
    have hhard := lns_hard hle
    have hplen : ps.length = done.length + rest.length := by rw [hdr, List.length_append]
    have hrest : row.drop done.length = vals rest := by
      rw [← hvr, hdr]; unfold vals; rw [← List.map_drop, List.drop_left]
    refine sRet k₆ (P := IsLnsN h₀ (lns n ps)) ?_ fun v h'' tk'' p e => fin _ _ _ p (k₆.base.trans e)
    refine two (P := IsLst vs) (P' := ⟨fun v h => ∃ b w d us, v = .ref b ∧ h.IsList b #[w] ∧ w = .ref d ∧ IsTup h d us.toArray ∧ StrsAre us (lnT ⟨closeT rest, false⟩), by rintro v h h' e ⟨b, w, d, us, q, l, q', t, s⟩; exact ⟨b, w, d, us, q, isList_st e l, q', isTup_st e t, s⟩⟩)
      (nmM j1.lns (List.mem_cons_self ..) fun h ho => ⟨a, rfl, _, ho, rfl, _, rfl⟩) ?_ ?_ fun _ _ _ h => wpAny_BinOp h
    · intro s Q' E' k _ f
      refine List_ (spliced_more ?_)
      refine tpS (xs := lnT ⟨closeT rest, false⟩) ?_ (by show 3 ≤ sizeLine; omega) s _ E' k trivial fun v h' tk pv e => ?_
      · refine sp1 ?_ (sp1 ?_ (sp1 cS sp0))
        · exact evS_eq (joinPT cS (evSs_eq (slFrom (nmF j1.cls pC3) (nI j2) hCl) hcr) (by omega)) (by show S (txts (closeT rest)) = S (txts (closeT rest) ++ []); rw [List.append_nil])
        · refine evS_eq (slSN (x := S row) (i := (done.length : Int)) (nS j1.row) (nI j2) (by rw [S_len]; omega)) ?_
          rw [slice_from (by omega), hrest]
          show _ = S (vals (closeT rest))
          rw [vals_close]
      · obtain ⟨d, us, q, t, ss⟩ := pv
        refine spliced_none (wpAny_newObj_type ?_ (by show 1 ≤ sizeLine; omega))
        exact f _ _ tk ⟨_, v, d, us, rfl, ⟨_, Heap.get?_push_size _ rfl, rfl, 0, rfl⟩, q, isTup_st (Ext.push _).toD t, ss⟩ (e.trans (Ext.push _))
    · rintro x y s Q' E' k ⟨⟨a', q1, la⟩, ⟨b, w', d, us, q2, lb, q3, td, ss⟩⟩ f
      subst q1 q2 q3
      refine addLw (ws := [.ref d]) la lb (by simp; omega) (f _ _ s.toks ?_ (Ext.push _))
      refine ⟨_, _, rfl, ⟨_, Heap.get?_push_size _ rfl, rfl, 0, rfl⟩, ?_, fresh_of (hx.trans k.base)⟩
      rw [← hll, hhard]
      refine Paired.app ?_ (.cons ⟨d, us, rfl, isTup_st (Ext.push _).toD td, ss⟩ .nil)
      refine Paired.mono' ?_ hpd
      rintro v l ⟨b', us', q, hm, ss'⟩
      exact ⟨b', us', q, ⟨_, Heap.get?_push_of_some _ (k.own _ (List.mem_cons_of_mem _ hm)).1, rfl, 0, rfl⟩, ss'⟩
end
end Mine
end
section
open PySem PySem.W PyProof.Rows PySem.Calls PySem.NumText
set_option linter.unusedVariables false
set_option maxRecDepth 100000
namespace Mine
section
variable {c : Cx} {env : Env}
noncomputable abbrev tagD (p1 p2 p3 p4 dp : Pos) : Expr := .Dict [some (.Constant (.int 1) 0 p1), some (.Constant (.int 2) 0 p2)] [.Constant (.str "- ") 0 p3, .Constant (.str "+ ") 0 p4] dp
theorem dict_two {p1 p2 p3 p4 dp : Pos} {s : Shared} {Q : Value → Shared → Prop} {E : Value → Shared → Prop}
    (h : ∀ d t₁ t₂ h' tk, h'.DictOf (intKind c.prog c.w) d [(1, .str (S [45, 32]) t₁), (2, .str (S [43, 32]) t₂)] → Ext s.heap h' → s.heap.get? d = none → Q (.ref d) { s with heap := h', toks := tk }) :
    wpAny (model c.prog c.w) c.A (eval (tagD p1 p2 p3 p4 dp) env) Q E s := by
  refine wpAny_Dict_pairs (knd := intKind c.prog c.w) (pairs := [(eval (.Constant (.int 1) 0 p1) env, do let x ← eval (.Constant (.str "- ") 0 p3) env; standAt dp; pure x), (eval (.Constant (.int 2) 0 p2) env, do let x ← eval (.Constant (.str "+ ") 0 p4) env; standAt dp; pure x)]) rfl (by simp) (by simp) ?_
  refine evalPairs_cons (wpAny_Constant_int (wpAny_bind (Calls.Constant_str (wpAny_bind (wpAny_standAt (wpAny_pure ?_))))))
  refine evalPairs_cons (wpAny_Constant_int (wpAny_bind (Calls.Constant_str (wpAny_bind (wpAny_standAt (wpAny_pure ?_))))))
  refine evalPairs_nil ?_
  refine ⟨[(1, .str (S [45, 32]) _), (2, .str (S [43, 32]) _)], ⟨intKind_is _ _ _ _, rfl, intKind_is _ _ _ _, rfl, trivial⟩, Heap.DictOf.new _, fun h' hd hs => ?_⟩
  refine h _ _ _ h' _ hd (fun b o e => ?_) fresh_size
  exact hs.extBut b o (Nat.ne_of_lt (Heap.lt_size e)) (Heap.get?_push_of_some _ e)
noncomputable def WishOf (v : Value) (n : Int) : Prop := (∃ t, v = .int n t) ∨ ∃ l t, v = .str (S l) t ∧ PySem.intText? (S l) = some n ∧ l.length ≤ 640
theorem evInt {f e : Expr} {pos : Pos} {v : Value} {n : Int} (hf : Ev c (eval f env) (IsV (.type "int"))) (he : Ev c (eval e env) (IsV v)) (hw : WishOf v n) (h1 : starEach [e] env = (false, eval e env) :: starEach [] env := by rfl)
    (h2 : eval (.Call f [e] [] pos) env = (do let fv ← eval f env; callWith pos fv [] (backTo pos (starEach [e] env)) (backToKw pos (keywordEach [] env))) := by rfl) : Ev c (eval (.Call f [e] [] pos) env) (IsI n) := by
  refine callT1 hf he ?_ h1 h2
  intro v' s Q E _ q f
  have q' : v' = v := q
  subst q'
  rcases hw with ⟨t, rfl⟩ | ⟨l, t, rfl, hn, hl⟩
  · exact call_int_int (f _ s.heap s.toks ⟨_, rfl⟩ Ext.refl)
  · have hl' : (S l).length ≤ 640 := by rw [S_len]; exact hl
    generalize S l = x at hn hl' f ⊢
    exact KIN.call_text hn hl' (f _ s.heap _ ⟨_, rfl⟩ Ext.refl)
noncomputable def tagOf (n : Int) : List Nat := if n = 1 then [45, 32] else [43, 32]
theorem evTag {p1 p2 p3 p4 dp pos : Pos} {slice : Expr} {n : Int} (hn : n = 1 ∨ n = 2) (hs : Ev c (eval slice env) (IsI n)) (hq : ∀ a u, subscripted slice false (Value.ref a) (Value.int n u) = operate [Value.ref a, Value.int n u] (getItem (Value.ref a) (Value.int n u)) := by intros; rfl) :
    Ev c (eval (.Subscript (tagD p1 p2 p3 p4 dp) slice pos) env) (IsS (S (tagOf n))) := by
  intro s Q E k _ f
  refine Subscript_ ?_
  refine dict_two ?_
  intro d t₁ t₂ h₁ tk₁ hd e₁ _
  refine hs _ _ E (k.ext e₁) trivial ?_
  rintro v h₂ tk₂ ⟨u, rfl⟩ e₂
  have hd₂ : h₂.DictOf (intKind c.prog c.w) d [(1, .str (S [45, 32]) t₁), (2, .str (S [43, 32]) t₂)] := hd.keep e₂
  refine tail_any (s := { s with heap := h₂, toks := tk₂ }) hd₂.mapOf.typeIs slot_dict_getitem.lookup ?_ (hq _ _)
  rcases hn with rfl | rfl
  · exact wpAny_getItem_of (intKind_is _ _ _ _) hd₂.mapOf (v := .str (S [45, 32]) t₁) rfl (f _ h₂ _ ⟨_, rfl⟩ (e₁.trans e₂))
  · exact wpAny_getItem_of (intKind_is _ _ _ _) hd₂.mapOf (v := .str (S [43, 32]) t₂) rfl (f _ h₂ _ ⟨_, rfl⟩ (e₁.trans e₂))
end
end Mine
end
section
open PySem PySem.W PyProof.Rows
set_option linter.unusedVariables false
set_option maxRecDepth 100000
namespace Mine
section
variable {prog : Program} {w : World} {A : Around} {I S : Addr} {n : Nat} {P : Nat → Value → Prop} {St : Nat → Shared → Prop} {Fn : Shared → Prop}
/-- an iterator that leaves the list S alone -/
structure GW (prog : Program) (w : World) (A : Around) (I S : Addr) (n : Nat) (P : Nat → Value → Prop) (St : Nat → Shared → Prop) (Fn : Shared → Prop) : Prop where
  frame : ∀ i (s : Shared) h', St i s → (∀ b o, b ≠ S → s.heap.get? b = some o → h'.get? b = some o) → (∃ o, h'.get? S = some o ∧ nd o) → St i { s with heap := h' }
  item : ∀ i (s : Shared) (Q : Option Value → Shared → Prop) (E : Value → Shared → Prop), i < n → St i s → (∀ v s', P i v → St (i + 1) s' → (∀ o, s.heap.get? S = some o → s'.heap.get? S = some o) → Q (some v) s') → wpAny (model prog w) A (pyNext (.ref I)) Q E s
  done : ∀ (s : Shared) (Q : Option Value → Shared → Prop) (E : Value → Shared → Prop), St n s → (∀ s', Fn s' → (∀ o, s.heap.get? S = some o → s'.heap.get? S = some o) → Q none s') → wpAny (model prog w) A (pyNext (.ref I)) Q E s
theorem xloop {R : Result → Shared → Prop} (W : GW prog w A.in1 I S n P St Fn) (hn : n ≤ sizeLine) (res : Value) :
    ∀ (k i : Nat) (s : Shared) (acc : Array Value) (c : Nat), n - i = k → i ≤ n → St i s → s.heap.get? S = some { cls := .type "list", dict := none, data := .seq acc c, slots := #[] } → ItemsOf P acc i →
    (∀ s' acc' c', Fn s' → s'.heap.get? S = some { cls := .type "list", dict := none, data := .seq acc' c', slots := #[] } → ItemsOf P acc' n → R (.ok (.ret res)) s') →
    codeAny (model prog w) A (.builtin "list.extend.loop" ⟨[.ref S, .ref I, res], []⟩) R s := by
  intro k
  induction k with
  | zero =>
    intro i s acc c hk hi hst hS hacc hR
    have hin : i = n := by omega
    subst hin
    refine codeAny_builtin F.entry_extend_loop ?_
    rw [Around.under_plainId F.plain_extend_loop _]
    show wpAny _ A.in1 (pyNext (.ref I) >>= _) _ _ s
    refine wpAny_bind (W.done s _ _ hst fun s' hf hm => ?_)
    exact wpAny_pure (hR s' acc c hf (hm _ hS) hacc)
  | succ k ih =>
    intro i s acc c hk hi hst hS hacc hR
    have hlt : i < n := by omega
    refine codeAny_builtin F.entry_extend_loop ?_
    rw [Around.under_plainId F.plain_extend_loop _]
    show wpAny _ A.in1 (pyNext (.ref I) >>= _) _ _ s
    refine wpAny_bind (W.item i s _ _ hlt hst fun v s' hP hst' hm => ?_)
    have hS' := hm _ hS
    show wpAny _ A.in1 (updateSeq S (·.push v) >>= _) _ _ _
    have hoth : ∀ b o, b ≠ S → s'.heap.get? b = some o → (s'.heap.update S (Obj.mapSeq (·.push v))).get? b = some o := fun b o hb e => (Heap.get?_update_other _ _ (Ne.symm hb)).trans e
    exact wpAny_bind (wpAny_updateSeq hS' rfl (wpAny_pure ⟨plainId_quiet F.plain_extend_loop _, ih (i + 1) _ (acc.push v) _ (by omega) hlt (W.frame _ s' _ hst' hoth ⟨_, Heap.get?_update_self _ hS' rfl, rfl⟩) (Heap.get?_update_self _ hS' rfl) (hacc.push hP) hR⟩)
      (by rw [hacc.1]; omega) (by show (acc.push v).size ≤ sizeLine + 1; rw [Array.size_push, hacc.1]; omega))
theorem list_of_gen {E : Value → Shared → Prop} {Q : Value → Shared → Prop} {s : Shared} {gi : Nat} (hS : S = s.heap.objs.size) (W : GW prog w A.in1.in1 I S n P St Fn) (hG : s.heap.IsGen I gi) (hn : n ≤ sizeLine)
    (hst : St 0 { s with heap := s.heap.push { cls := .type "list", data := .seq #[] } })
    (hQ : ∀ s' acc' c', Fn s' → s'.heap.get? S = some { cls := .type "list", dict := none, data := .seq acc' c', slots := #[] } → ItemsOf P acc' n → Q (.ref S) s') :
    wpAny (model prog w) A (call (.type "list") [.ref I]) Q E s := by
  subst hS
  have hI : I ≠ s.heap.objs.size := by obtain ⟨o, _, _, ho, _⟩ := hG; exact Nat.ne_of_lt (Heap.lt_size ho)
  refine callType_codes (Q₁ := fun obj s₁ => obj = .ref s.heap.objs.size ∧ s₁ = { s with heap := s.heap.push { cls := .type "list", data := .seq #[] } }) F.called_list (F.typeCall_list_1 _) F.entry_list_init
    (code_list_new _ ⟨rfl, rfl⟩) fun obj s₁ h₁ => ?_
  obtain ⟨rfl, rfl⟩ := h₁
  have hS₀ : (s.heap.push { cls := .type "list", data := .seq #[] }).get? s.heap.objs.size = some { cls := .type "list", data := .seq #[] } := Heap.get?_push_size _ rfl
  refine ⟨⟨_, hS₀, rfl⟩, F.args_list_init_2 _ _, ?_⟩
  have hGen : (s.heap.push { cls := .type "list", data := .seq #[] }).IsGen I gi := hG.push _
  generalize (s.heap.push { cls := .type "list", data := .seq #[] }) = H at *
  generalize hSe : s.heap.objs.size = S at *
  clear hSe
  have f1 : ∀ (h : Heap) (f : Obj → Obj) b o, b ≠ S → h.get? b = some o → (h.update S f).get? b = some o := fun h f b o hb e => (Heap.get?_update_other _ _ (Ne.symm hb)).trans e
  show wpAny _ A.in1.in1 (do let old ← Builtin.List.listItems (.ref S); Builtin.List.listUpdate (.ref S) (fun _ => #[]); letGo old.toList.reverse; Builtin.List.listExtendWith (.ref S) (.ref I) .none) _ _ _
  refine wpAny_bind ?_
  unfold Builtin.List.listItems
  refine wpAny_bind (wpAny_seqItems hS₀ rfl (wpAny_pure ?_))
  show wpAny _ A.in1.in1 (updateSeq S (fun _ => #[]) >>= fun _ => letGo (#[] : Array Value).toList.reverse >>= fun _ => Builtin.List.listExtendWith (.ref S) (.ref I) .none) _ _ _
  refine wpAny_bind (wpAny_updateSeq hS₀ rfl ?_)
  have hS₁ := Heap.get?_update_self (Obj.mapSeq (fun _ => (#[] : Array Value))) hS₀ rfl
  have st₁ := W.frame 0 _ _ hst (f1 H (Obj.mapSeq fun _ => (#[] : Array Value))) ⟨_, hS₁, rfl⟩
  have g₁ : (H.update S (Obj.mapSeq fun _ => (#[] : Array Value))).IsGen I gi := hGen.extBut (fun b o hb e => f1 _ _ b o hb e) hI
  refine wpAny_bind (wpAny_letGo ?_)
  dsimp only at st₁ ⊢
  generalize H.update S (Obj.mapSeq fun _ => (#[] : Array Value)) = H₁ at st₁ hS₁ g₁
  have hT : (⟨H₁, s.gens, s.drawn, s.toks, s.os⟩ : Shared).TypeIs (.ref I) "generator" := g₁.typeIs (s := ⟨H₁, s.gens, s.drawn, s.toks, s.os⟩)
  unfold Builtin.List.listExtendWith
  refine wpAny_bind (wpAny_typeOf hT ?_)
  have h1 : Builtin.List.listSameRef (.ref S) (.ref I) = false := by simp [Builtin.List.listSameRef, Ne.symm hI]
  have h2 : (Value.type "generator" == Value.type "list") = false := by decide
  have h3 : (Value.type "generator" == Value.type "tuple") = false := by decide
  simp only [h1, h2, h3, Bool.or_false, Bool.false_eq_true, if_false]
  refine wpAny_bind (wpAny_pyIter_gen g₁ ?_)
  refine wpAny_bind (wpAny_holding ?_)
  unfold Builtin.List.listLengthHint
  refine wpAny_bind (wpAny_specialOf hT F.gen_no_len ?_)
  show wpAny _ A.in1.in1 (specialOf (Value.ref I) (Str.ofString "__length_hint__") >>= _) _ _ _
  refine wpAny_bind (wpAny_specialOf hT F.gen_no_hint ?_)
  refine wpAny_pure ?_
  show wpAny _ A.in1.in1 (rule "list.extend.makes-room" >>= fun _ => Builtin.List.listTouch (.ref S) >>= fun _ =>
    again (.builtin "list.extend.loop" ⟨[.ref S, .ref I, .none], []⟩)) _ _ _
  refine wpAny_bind (wpAny_rule ?_)
  refine wpAny_bind ?_
  show wpAny _ A.in1.in1 (updateSeq S (·.push .none) >>= fun _ => updateSeq S (·.pop)) _ _ _
  refine wpAny_bind (wpAny_updateSeq hS₁ rfl ?_)
  have hS₂ := Heap.get?_update_self (Obj.mapSeq (·.push Value.none)) hS₁ rfl
  have st₂ := W.frame 0 _ _ st₁ (f1 H₁ (Obj.mapSeq (·.push Value.none))) ⟨_, hS₂, rfl⟩
  dsimp only at st₂ ⊢
  generalize H₁.update S (Obj.mapSeq (·.push Value.none)) = H₂ at st₂ hS₂
  refine wpAny_updateSeq hS₂ rfl ?_
  have hS₃ := Heap.get?_update_self (Obj.mapSeq (·.pop)) hS₂ rfl
  have st₃ := W.frame 0 _ _ st₂ (f1 H₂ (Obj.mapSeq (·.pop))) ⟨_, hS₃, rfl⟩
  refine wpAny_pure ⟨plainId_quiet F.plain_extend_loop _, xloop W hn .none n 0 _ _ _ rfl (Nat.zero_le _) st₃ hS₃ (ItemsOf.nil P) fun s' acc' c' hf hS' hacc => ⟨rfl, hQ s' acc' c' hf hS' hacc⟩⟩
end
end Mine
end
section
open PySem PySem.W PyProof.Rows
set_option linter.unusedVariables false
set_option maxRecDepth 100000
namespace Mine
section
variable {M : Model} {A : Around} {R : GenEnd} {Y : Protocol} {n : Nat} {s₀ : Shared} {c : Code} {fs : List Frame} {s : Shared} {env : Env}
  {K : Flow → Sem Fin} {H : Value → Sem Fin} {gd : Bool → Bool} {lv : List Value → List Value}
theorem seg_plain {st : Stmt} {rest : List Stmt} (h : wpAny M (A.over c fs) (exec st env) (fun f s' => match f with | .next => Seg M A R Y n s₀ c ((execs rest env).wrap K H gd lv) fs s' | f => Seg M A R Y n s₀ c (K f) fs s') (fun x s' => Seg M A R Y n s₀ c (H x) fs s') s) :
    Seg M A R Y n s₀ c ((execs (st :: rest) env).wrap K H gd lv) fs s :=
  seg_execs_cons (seg_wrap (wpAny_mono h (fun f s' h' => by cases f <;> exact h') fun _ _ x => x))
theorem seg_if {test : Expr} {body orelse rest : List Stmt} {pos : Pos}
    (h : wpAny M (A.over c fs) (PySem.isTrue test env (eval test env)) (fun b s' => Seg M A R Y n s₀ c ((execs (if b = true then body else orelse) env).wrap (fun f => match f with | .next => (execs rest env).wrap K H gd lv | f => K f) H gd lv) fs s') (fun x s' => Seg M A R Y n s₀ c (H x) fs s') s) :
    Seg M A R Y n s₀ c ((execs (.If test body orelse pos :: rest) env).wrap K H gd lv) fs s := by
  refine seg_execs_cons ?_
  show Seg M A R Y n s₀ c ((standAt pos >>= fun _ => (PySem.isTrue test env (eval test env) >>= fun b => if b = true then execs body env else execs orelse env)).wrap _ H gd lv) fs s
  refine seg_bind_wrap (wpAny_standAt (seg_bind_wrap (wpAny_mono h (fun b s' h' => ?_) fun _ _ x => x)))
  cases b <;> exact h'
theorem seg_for {target iter : Expr} {body orelse rest : List Stmt} {pos : Pos} (hs : ∀ x, foldedSetIterable iter env x = pure x)
    (h : wpAny M (A.over c fs) (eval iter env) (fun x s₁ => wpAny M (A.over c fs) (pyIter x) (fun it s₂ => ∀ p, Seg M A R Y n s₀ (.forLoop target it body orelse env) (M.den (.forLoop target it body orelse env))
      (.ret (fun (r : Result) => ((match r with | .ok f => (.pure f : Sem Flow) | .error e => .raise e).onRaise fun (x : Value) => do
        if (← field x 1) == Value.none then unsupported "frame.own-activation:exception-without-traceback"
        setFlight x env.frame).wrap (fun (f : Flow) => match f with | .next => (execs rest env).wrap K H gd lv | f => K f) H gd lv) none (gd false) (lv []) c p [] :: fs) s₂) (fun x s' => Seg M A R Y n s₀ c (H x) fs s') s₁) (fun x s' => Seg M A R Y n s₀ c (H x) fs s') s) :
    Seg M A R Y n s₀ c ((execs (.For target iter body orelse pos :: rest) env).wrap K H gd lv) fs s := by
  refine seg_execs_cons ?_
  show Seg M A R Y n s₀ c ((standAt pos >>= fun _ => (eval iter env >>= fun x0 => foldedSetIterable iter env x0 >>= fun x => standAt iter.pos >>= fun _ => holding [x] (pyIter x) >>= fun it => runOwn (.forLoop target it body orelse env) env)).wrap _ H gd lv) fs s
  refine seg_bind_wrap (wpAny_standAt (seg_bind_wrap (wpAny_mono h (fun x s₁ h₁ => ?_) fun _ _ x => x)))
  refine seg_bind_wrap (wpAny_of_eq (hs x) (seg_bind_wrap (wpAny_standAt (seg_bind_wrap (wpAny_holding (wpAny_mono h₁ (fun it s₂ h₂ => ?_) fun _ _ x => x))))))
  exact seg_call h₂
end
section
variable {prog : Program} {w : World} {A : Around} {R : GenEnd} {Y : Protocol} {n : Nat} {s₀ : Shared} {fs : List Frame} {s : Shared} {env : Env}
theorem seg_forTurn {x : PySem.Str} {px : Pos} {it : Value} {body : List Stmt}
    (h : wpAny (model prog w) (A.over (.forLoop (.Name x px) it body [] env) fs) (pyNext it) (fun r s₁ => match r with
      | none => Seg (model prog w) A R Y n s₀ (.block [] env) ((model prog w).den (.block [] env)) fs s₁
      | some v => wpAny (model prog w) (A.over (.forLoop (.Name x px) it body [] env) fs) (assign (.Name x px) env v) (fun _ s₂ => Seg (model prog w) A R Y n s₀ (.forLoop (.Name x px) it body [] env) ((execs body env).wrap (fun f => match f with
            | .next | .cont => .pure (.again (.forLoop (.Name x px) it body [] env))
            | .brk => .pure (.done .next)
            | .ret v => .pure (.done (.ret v))) (fun e => (do noteFrame e env; theTreesLotGoes e : Sem Unit).wrap (fun _ => .raise e) .raise id id) id id) fs s₂) (fun _ _ => False) s₁) (fun _ _ => False) s) :
    Seg (model prog w) A R Y n s₀ (.forLoop (.Name x px) it body [] env) ((model prog w).den (.forLoop (.Name x px) it body [] env)) fs s := by
  show Seg _ A R Y n s₀ _ ((forTurn (.Name x px) it body [] env).onRaise (fun x => do noteFrame x env; theTreesLotGoes x)) fs s
  unfold forTurn
  rw [Sem.onRaise_eq_wrap]
  refine seg_bind_wrap (wpAny_standAt (seg_bind_wrap (wpAny_onRaise (wpAny_mono h (fun r s₁ h₁ => ?_) fun _ _ z => z.elim))))
  cases r with
  | none => exact seg_again rfl h₁
  | some v =>
    refine seg_bind_wrap (wpAny_of_eq (a := ()) rfl (seg_bind_wrap (wpAny_mono h₁ (fun _ s₂ h₂ => ?_) fun _ _ z => z.elim)))
    rw [Sem.bind_eq_wrap', Sem.wrap_wrap]
    rw [Sem.wrap_congr (execs body env) _ _ (K' := fun f => match f with
            | .next | .cont => .pure (.again (.forLoop (.Name x px) it body [] env))
            | .brk => .pure (.done .next)
            | .ret v => .pure (.done (.ret v))) (H' := (fun e => (do noteFrame e env; theTreesLotGoes e : Sem Unit).wrap (fun _ => .raise e) .raise id id))
        (fun f => by cases f <;> rfl)
        (fun e => by first | exact Sem.bind_eq_wrap _ _ | (show (do noteFrame e env; theTreesLotGoes e : Sem Unit).bind (fun _ => .raise e) = _; rw [Sem.bind_eq_wrap]))]
    exact h₂
theorem seg_block_nil (h : Seg (model prog w) A R Y n s₀ (.block [] env) (leafOf (.ok .next)) fs s) : Seg (model prog w) A R Y n s₀ (.block [] env) ((model prog w).den (.block [] env)) fs s := h
end
end Mine
end
section
open PySem PySem.W PyProof.Rows
set_option linter.unusedVariables false
set_option maxRecDepth 100000
set_option maxHeartbeats 1000000
namespace Mine
/-- which lines restore picks, and what it gives of them -/
noncomputable def pickL (tag x : List Nat) : Bool := x.take 2 == [32, 32] || x.take 2 == tag
noncomputable def outsOf (tag : List Nat) (xs : List (List Nat)) : List (List Nat) := (xs.filter (pickL tag)).map (·.drop 2)
theorem outs_cons (tag x : List Nat) (xs : List (List Nat)) : outsOf tag (x :: xs) = if pickL tag x then x.drop 2 :: outsOf tag xs else outsOf tag xs := by
  unfold outsOf
  rw [List.filter_cons]
  split <;> simp
theorem pick_len {tag x : List Nat} (ht : tag.length = 2) (h : pickL tag x = true) : 2 ≤ x.length := by
  unfold pickL at h
  rcases Bool.or_eq_true_iff.mp h with h | h
  · have := congrArg List.length (eq_of_beq h); simp at this; omega
  · have := congrArg List.length (eq_of_beq h); simp [ht] at this; omega
theorem pick_test (tag x : List Nat) : ([S [32, 32], S tag] : List PySem.Str).any (· == S (x.take 2)) = pickL tag x := by
  unfold pickL
  simp only [List.any_cons, List.any_nil, Bool.or_false]
  rw [S_beq, S_beq]
  congr 1 <;> exact BEq.comm
noncomputable abbrev rYield (q1 q2 q3 q4 q5 q6 : Pos) : Stmt := .Expr (.Yield (some (.Subscript (.Name (Str.ofString "line") q1) (.Slice (some (.Constant (.int 2) 0 q2)) none none q3) q4)) q5) q6
noncomputable abbrev rTest (q1 q2 q3 q4 q5 q6 : Pos) : Expr := .Compare (.Subscript (.Name (Str.ofString "line") q1) (.Slice none (some (.Constant (.int 2) 0 q2)) none q3) q4) [.In] [.Name (Str.ofString "prefixes") q5] q6
structure REnv (env : Env) (C : Addr) : Prop where
  L : env.locals = C
  kind : env.scope.kind = .function
  line : env.kindOf (Str.ofString "line") = some .local
  pre : env.kindOf (Str.ofString "prefixes") = some .local
  co : env.scope.isCoroutine = false
  inter : interactive env = false
  plain : (env.scope.kind == .class || (env.scope.kind == .module && env.locals != env.globals)) = false
/-- the generator's world: its base, its frame, its list and iterator; itself; the list that is filled -/
structure RW where
  hB : Heap
  C : Addr
  I : Addr
  l : Addr
  Sa : Addr
  G : Addr
  oG : Obj
  xs : List (List Nat)
  tag : List Nat
structure RW.ok (r : RW) : Prop where
  tag : r.tag.length = 2
  GC : r.G ≠ r.C
  GI : r.G ≠ r.I
  GS : r.G ≠ r.Sa
  SC : r.Sa ≠ r.C
  SI : r.Sa ≠ r.I
  Sl : r.Sa ≠ r.l
  SB : r.hB.get? r.Sa = none
  IB : r.hB.get? r.I = none
  CB : r.hB.get? r.C = none
  sz : ∀ x ∈ r.xs, x.length ≤ 1000000
/-- all of the base stands, and the generator itself -/
noncomputable def RW.Kr (r : RW) (h : Heap) : Prop := (∀ b o, r.hB.get? b = some o → h.get? b = some o) ∧ h.get? r.G = some r.oG
noncomputable def RW.Snc (r : RW) (s₀ s : Shared) : Prop := ∃ h' tk, s = { s₀ with heap := h', toks := tk } ∧ r.Kr h' ∧ ∀ o, s₀.heap.get? r.Sa = some o → h'.get? r.Sa = some o
structure RW.LI (r : RW) (i : Nat) (s : Shared) (m : PySem.Str → Option Value) : Prop where
  fr : Fr r.hB r.C s.heap m
  pre : ∃ T us, T ≠ r.Sa ∧ m (Str.ofString "prefixes") = some (.ref T) ∧ IsTup s.heap T us.toArray ∧ StrsAre us [S [32, 32], S r.tag]
  it : s.heap.IsListIter r.I r.l i
  lst : ∃ vs, s.heap.IsList r.l vs.toArray ∧ StrsAre vs (r.xs.map S)
theorem RW.Snc.step {r : RW} {s₀ s : Shared} (x : r.Snc s₀ s) {h' : Heap} {tk : Nat} (hK : r.Kr s.heap → r.Kr h') (hS : ∀ o, s.heap.get? r.Sa = some o → h'.get? r.Sa = some o) : r.Snc s₀ { s with heap := h', toks := tk } := by
  obtain ⟨h₁, tk₁, rfl, k₁, s₁⟩ := x
  exact ⟨h', tk, rfl, hK k₁, fun o e => hS o (s₁ o e)⟩
theorem RW.Kr.but {r : RW} {h h' : Heap} {I : Addr} (k : r.Kr h) (hI : r.hB.get? I = none) (hG : r.G ≠ I) (hs : Heap.ExtBut I h h') : r.Kr h' := ⟨fun b o e => hs b o (fun z => by rw [z, hI] at e; cases e) (k.1 b o e), hs _ _ hG k.2⟩
theorem RW.Kr.ext {r : RW} {h h' : Heap} (k : r.Kr h) (e : Ext h h') : r.Kr h' := ⟨fun b o z => e b o (k.1 b o z), e _ _ k.2⟩
noncomputable def RW.R (r : RW) : GenEnd := fun n s₀ x s₁ => x = .ok (.ret .none) ∧ n = 0 ∧ r.Snc s₀ s₁
noncomputable def RW.Y (r : RW) : Protocol := fun m s₀ v s kap => (∃ x u, (outsOf r.tag r.xs)[(outsOf r.tag r.xs).length - 1 - m]? = some x ∧ v = .str (S x) u) ∧ r.Snc s₀ s ∧
  ∀ s'' : Shared, (∀ b o, b ≠ r.Sa → s.heap.get? b = some o → s''.heap.get? b = some o) → kap (.send .none) s''
theorem outs_at {tag : List Nat} {xs : List (List Nat)} {i : Nat} {x : List Nat} (h : xs[i]? = some x) (hp : pickL tag x = true) :
    (outsOf tag xs)[(outsOf tag xs).length - 1 - (outsOf tag (xs.drop (i + 1))).length]? = some (x.drop 2) := by
  have hi : i < xs.length := (List.getElem?_eq_some_iff.mp h).1
  have e : outsOf tag xs = outsOf tag (xs.take i) ++ x.drop 2 :: outsOf tag (xs.drop (i + 1)) := by
    have h1 : xs = xs.take i ++ x :: xs.drop (i + 1) := by
      conv => lhs; rw [← List.take_append_drop i xs]
      rw [List.drop_eq_getElem_cons hi]
      rw [List.getElem?_eq_getElem hi] at h
      rw [Option.some.inj h]
    conv => lhs; rw [h1]
    unfold outsOf
    rw [List.filter_append, List.map_append, List.filter_cons_of_pos hp, List.map_cons]
  rw [e, List.length_append, List.length_cons]
  have : (outsOf tag (xs.take i)).length + ((outsOf tag (xs.drop (i + 1))).length + 1) - 1 - (outsOf tag (xs.drop (i + 1))).length = (outsOf tag (xs.take i)).length := by omega
  rw [this, List.getElem?_append_right (Nat.le_refl _), Nat.sub_self]; rfl
section
variable {prog : Program} {w : World} {A : Around} {env : Env} {fs : List Frame} {q1 q2 q3 q4 q5 q6 q7 a1 a2 a3 a4 a5 a6 px : Pos}
noncomputable abbrev rBody (q1 q2 q3 q4 q5 q6 q7 a1 a2 a3 a4 a5 a6 : Pos) : List Stmt := [.If (rTest a1 a2 a3 a4 a5 a6) [rYield q1 q2 q3 q4 q5 q6] [] q7]
theorem rloop (r : RW) (ok : r.ok) (re : REnv env r.C) (hh : A.handled = none) (hh' : (A.over (.forLoop (.Name (Str.ofString "line") px) (.ref r.I) (rBody q1 q2 q3 q4 q5 q6 q7 a1 a2 a3 a4 a5 a6) [] env) fs).handled = none) (hsp : splitAtGen fs = none) (hgu : fs.any Frame.guarded = false)
    (hend : ∀ s₀ s₁, r.Snc s₀ s₁ → Seg (model prog w) A r.R r.Y 0 s₀ (.block [] env) (leafOf (.ok .next)) fs s₁) :
    ∀ (k i : Nat) (s₀ s : Shared) (m : PySem.Str → Option Value), r.xs.length - i = k → i ≤ r.xs.length → r.LI i s m → r.Snc s₀ s →
      Seg (model prog w) A r.R r.Y (outsOf r.tag (r.xs.drop i)).length s₀ (.forLoop (.Name (Str.ofString "line") px) (.ref r.I) (rBody q1 q2 q3 q4 q5 q6 q7 a1 a2 a3 a4 a5 a6) [] env)
        ((model prog w).den (.forLoop (.Name (Str.ofString "line") px) (.ref r.I) (rBody q1 q2 q3 q4 q5 q6 q7 a1 a2 a3 a4 a5 a6) [] env)) fs s := by
  intro k
  induction k with
  | zero =>
    intro i s₀ s m hk hi li sn
    have hin : i = r.xs.length := by omega
    subst hin
    obtain ⟨vs, hl, hss⟩ := li.lst
    have hvl : vs.length = r.xs.length := by rw [strsAre_len hss, List.length_map]
    refine seg_forTurn (wpAny_pyNext_list_end hh' li.it hl (by simp [hvl]) fun h' he' => ?_)
    dsimp only
    refine seg_block_nil ?_
    have : (outsOf r.tag (r.xs.drop r.xs.length)).length = 0 := by rw [List.drop_length]; rfl
    rw [this]
    refine hend s₀ _ (sn.step (fun k => k.but ok.IB ok.GI he') fun o e => he' _ o ok.SI e)
  | succ k ih =>
    intro i s₀ s m hk hi li sn
    have hlt : i < r.xs.length := by omega
    obtain ⟨vs, hl, hss⟩ := li.lst
    have hvl : vs.length = r.xs.length := by rw [strsAre_len hss, List.length_map]
    obtain ⟨x, hx⟩ : ∃ x, r.xs[i]? = some x := ⟨_, List.getElem?_eq_getElem hlt⟩
    obtain ⟨t, hv⟩ := strsAre_get hss (i := i) (x := S x) (by simp [hx])
    have hxl := ok.sz x (List.mem_of_getElem? hx)
    have hS : sizeLine = 16777216 := rfl
    have hdrop : r.xs.drop i = x :: r.xs.drop (i + 1) := by
      rw [List.drop_eq_getElem_cons hlt]
      rw [List.getElem?_eq_getElem hlt] at hx
      rw [Option.some.inj hx]
    have hCI : r.C ≠ r.I := fun z => by
      obtain ⟨o, es, n, ho, hd, _⟩ := li.fr.ns
      obtain ⟨o', ho', _, hd'⟩ := li.it
      rw [z, ho'] at ho; cases ho; rw [hd'] at hd; cases hd
    have hlI : r.l ≠ r.I := fun z => by
      obtain ⟨o, ho, hc, _⟩ := hl
      obtain ⟨o', ho', hc', _⟩ := li.it
      rw [z, ho'] at ho; cases ho; rw [hc'] at hc; exact absurd hc (by decide)
    refine seg_forTurn (wpAny_pyNext_list_item li.it hl (x := .str (S x) t) (by simpa using hv) fun h₁ it₁ hs₁ => ?_)
    dsimp only
    obtain ⟨T, us, hTS, hT, hTt, hTs⟩ := li.pre
    have hTI : T ≠ r.I := fun z => by
      obtain ⟨o, ho, hc, _⟩ := hTt
      obtain ⟨o', ho', hc', _⟩ := li.it
      rw [z, ho'] at ho; cases ho; rw [hc'] at hc; exact absurd hc (by decide)
    have fr₁ : Fr r.hB r.C h₁ m := ⟨li.fr.ns.at' fun o e => hs₁.extBut _ o hCI e, fun b o e => hs₁.extBut b o (fun z => by rw [z, ok.IB] at e; cases e) (li.fr.keep b o e), li.fr.above⟩
    have hl₁ : h₁.IsList r.l vs.toArray := hl.extBut hs₁.extBut hlI
    have hTt₁ : IsTup h₁ T us.toArray := let ⟨o, ho, a, b⟩ := hTt; ⟨o, hs₁.extBut _ o hTI ho, a, b⟩
    have sn₁ : r.Snc s₀ { s with heap := h₁ } := sn.step (tk := s.toks) (fun k => k.but ok.IB ok.GI hs₁.extBut) fun o e => hs₁.extBut _ o ok.SI e
    refine wpAny_assign_Name (wpAny_storeName_local re.line (by rw [re.L]; exact fr₁.ns) (fun h₂ hn₂ hs₂ => ?_) re.plain)
    rw [re.L] at hn₂ hs₂
    have hns₂ : h₂.Ns r.C (upd m (Str.ofString "line") (.str (S x) t)) := hn₂
    have fr₂ : Fr r.hB r.C h₂ (upd m (Str.ofString "line") (.str (S x) t)) := fr₁.set hns₂ hs₂
    have hlC : r.l ≠ r.C := fun z => by
      obtain ⟨o, es, n, ho, hd, _⟩ := fr₁.ns
      obtain ⟨o', ho', _, n', hd'⟩ := hl₁
      rw [z, ho] at ho'; cases ho'; rw [hd] at hd'; cases hd'
    have hTC : T ≠ r.C := fun z => by
      obtain ⟨o, es, n, ho, hd, _⟩ := fr₁.ns
      obtain ⟨o', ho', _, n', hd'⟩ := hTt₁
      rw [z, ho] at ho'; cases ho'; rw [hd] at hd'; cases hd'
    have hl₂ : h₂.IsList r.l vs.toArray := hl₁.extBut hs₂.extBut hlC
    have hTt₂ : IsTup h₂ T us.toArray := let ⟨o, ho, a, b⟩ := hTt₁; ⟨o, hs₂.extBut _ o hTC ho, a, b⟩
    have it₂ : h₂.IsListIter r.I r.l (i + 1) := let ⟨o, ho, a, b⟩ := it₁; ⟨o, hs₂.extBut _ o (Ne.symm hCI) ho, a, b⟩
    have sn₂ : ∀ tk, r.Snc s₀ { s with heap := h₂, toks := tk } := fun tk => sn₁.step (tk := tk) (fun k => k.but ok.CB ok.GC hs₂.extBut) fun o e => hs₂.extBut _ o ok.SC e
    have hm1 : HS (upd m (Str.ofString "line") (.str (S x) t)) (Str.ofString "line") x := HS.str
    have hm2 : upd m (Str.ofString "line") (.str (S x) t) (Str.ofString "prefixes") = some (.ref T) := (upd_ne (by decide)).trans hT
    have k₂ : (Cx.mk prog w (A.over (.forLoop (.Name (Str.ofString "line") px) (.ref r.I) (rBody q1 q2 q3 q4 q5 q6 q7 a1 a2 a3 a4 a5 a6) [] env) fs) r.hB r.C (upd m (Str.ofString "line") (.str (S x) t)) h₂ []).ok h₂ := ⟨fr₂, ExtD.refl, fun _ z => nomatch z⟩
    have hdbl : (Str.ofString "line" == ("__debug__" : PySem.Str)) = false := by decide
    have hdbp : (Str.ofString "prefixes" == ("__debug__" : PySem.Str)) = false := by decide
    -- behind the line
    have next : ∀ (s₀' s' : Shared), r.Snc s₀' s' → (∀ b o, b ≠ r.Sa → h₂.get? b = some o → s'.heap.get? b = some o) → Seg (model prog w) A r.R r.Y (outsOf r.tag (r.xs.drop (i + 1))).length s₀' (.forLoop (.Name (Str.ofString "line") px) (.ref r.I) (rBody q1 q2 q3 q4 q5 q6 q7 a1 a2 a3 a4 a5 a6) [] env)
        (.pure (.again (.forLoop (.Name (Str.ofString "line") px) (.ref r.I) (rBody q1 q2 q3 q4 q5 q6 q7 a1 a2 a3 a4 a5 a6) [] env))) fs s' := fun s₀' s' sn' hk' => by
      refine seg_again rfl (ih (i + 1) s₀' s' _ (by omega) hlt ⟨⟨fr₂.ns.at' fun o e => hk' _ o (Ne.symm ok.SC) e, fun b o e => hk' b o (fun z => by rw [z, ok.SB] at e; cases e) (fr₂.keep b o e), fr₂.above⟩, ⟨T, us, hTS, hm2, ?_, hTs⟩, ?_, ⟨vs, ?_, hss⟩⟩ sn')
      · obtain ⟨o, ho, hc, q⟩ := hTt₂
        exact ⟨o, hk' _ o hTS ho, hc, q⟩
      · obtain ⟨o, ho, q⟩ := it₂
        exact ⟨o, hk' _ o (Ne.symm ok.SI) ho, q⟩
      · obtain ⟨o, ho, q⟩ := hl₂
        exact ⟨o, hk' _ o (Ne.symm ok.Sl) ho, q⟩
    rw [hdrop, outs_cons]
    refine seg_if ?_
    refine tst_eq (inTs (c := Cx.mk prog w (A.over (.forLoop (.Name (Str.ofString "line") px) (.ref r.I) (rBody q1 q2 q3 q4 q5 q6 q7 a1 a2 a3 a4 a5 a6) [] env) fs) r.hB r.C (upd m (Str.ofString "line") (.str (S x) t)) h₂ []) (x := S (x.take 2)) (ys := [S [32, 32], S r.tag]) (evS_eq (slNS (x := S x) (j := 2) (nS hm1 re.L re.kind re.line hdbl) cI (by rw [S_len]; omega)) (slice_to (b := 2))) (nmF hm2 (P := IsTs _) ⟨T, us, rfl, hTt₂, hTs⟩ re.L re.kind re.pre hdbp)) (pick_test r.tag x) ⟨h₂, s.gens, s.drawn, _, s.os⟩ _ _ k₂ trivial fun b h₃ tk₃ hb e₃ => ?_
    subst hb
    have sn₃ : ∀ tk, r.Snc s₀ { s with heap := h₃, toks := tk } := fun tk => (sn₂ s.toks).step (tk := tk) (fun k => k.ext e₃) fun o e => e₃ _ o e
    cases hp : pickL r.tag x with
    | false =>
      simp only [Bool.false_eq_true, if_false]
      exact seg_execs_nil (next s₀ _ (sn₃ tk₃) fun b o _ e => e₃ b o e)
    | true =>
      simp only [if_true, List.length_cons]
      refine seg_execs_cons (seg_Expr_Yield hsp rfl hgu ?_ re.co re.inter)
      have hx2 := pick_len ok.tag hp
      refine evS_eq (c := Cx.mk prog w (A.over (.forLoop (.Name (Str.ofString "line") px) (.ref r.I) (rBody q1 q2 q3 q4 q5 q6 q7 a1 a2 a3 a4 a5 a6) [] env) fs) r.hB r.C (upd m (Str.ofString "line") (.str (S x) t)) h₂ []) (slSN (x := S x) (i := 2) (nS hm1 re.L re.kind re.line hdbl) cI (by rw [S_len]; omega)) (slice_from (a := 2) hx2) ⟨h₃, s.gens, s.drawn, tk₃, s.os⟩ _ _ (k₂.ext e₃) trivial fun v h₄ tk₄ pv e₄ => ?_
      obtain ⟨u, rfl⟩ := pv
      intro kap hkap
      have sn₄ : r.Snc s₀ { s with heap := h₄, toks := tk₄ } := (sn₃ s.toks).step (tk := tk₄) (fun k => k.ext e₄) fun o e => e₄ _ o e
      refine ⟨⟨x.drop 2, u, outs_at hx hp, rfl⟩, sn₄, fun s'' hal => hkap .none s'' ?_⟩
      obtain ⟨h₄', tk₄', he₄, hK₄, hS₄⟩ := sn₄
      have hh4 : h₄ = h₄' := congrArg Shared.heap he₄
      refine seg_execs_nil (next s'' s'' ⟨s''.heap, s''.toks, rfl, (hh4 ▸ hK₄ : r.Kr h₄).but ok.SB ok.GS (fun b o hb e => hal b o hb e), fun _ e => e⟩ fun b o hb e => hal b o hb (e₄ b o (e₃ b o e)))
end
end Mine
end
section
open PySem PySem.W PyProof.Rows
set_option linter.unusedVariables false
set_option maxRecDepth 100000
set_option maxHeartbeats 1000000
namespace Mine
section
variable {c : Cx} {env : Env} {hh : Heap} {gs : Array GenState} {dr : Drawn} {tk₀ : Nat} {os : OsState} {Q : Flow → Shared → Prop} {E : Value → Shared → Prop}
theorem sAssignF {x : PySem.Str} {pos' pos : Pos} {value : Expr} {rest : List Stmt} {P : VP} (k : c.ok hh) (he : EvF c (fun h => h = hh) (eval value env) P.p)
    (h : ∀ v h' tk, P.p v h' → (c.at (upd c.m x v)).ok h' → wpAny (model c.prog c.w) c.A (execs rest env) Q E ⟨h', gs, dr, tk, os⟩)
    (hL : env.locals = c.L := by rfl) (hl : env.kindOf x = some .local := by rfl) (hp : (env.scope.kind == .class || (env.scope.kind == .module && env.locals != env.globals)) = false := by rfl)
    (hsw : swapsWith value (some (.Name x pos')) pos.line env = pure false := by rfl) :
    wpAny (model c.prog c.w) c.A (execs (.Assign [.Name x pos'] value pos :: rest) env) Q E ⟨hh, gs, dr, tk₀, os⟩ := by
  refine wpAny_execs_cons (wpAny_Assign_Name (he ⟨hh, gs, dr, tk₀, os⟩ _ E k rfl fun v h' tk p e => ?_) hsw)
  exact st1 (k.ext e) (fun h'' tk' d k' => h v h'' tk' (P.st d p) k') hL hl hp
end
theorem eAssignF {c : Cx} {env : Env} {hh : Heap} {gs : Array GenState} {dr : Drawn} {tk₀ : Nat} {os : OsState} {Q : Flow → Shared → Prop} {E : Value → Shared → Prop} {x : PySem.Str} {pos' pos : Pos} {value : Expr} {P : VP} (k : c.ok hh) (he : EvF c (fun h => h = hh) (eval value env) P.p)
    (h : ∀ v h' tk, P.p v h' → (c.at (upd c.m x v)).ok h' → Q .next ⟨h', gs, dr, tk, os⟩)
    (hL : env.locals = c.L := by rfl) (hl : env.kindOf x = some .local := by rfl) (hp : (env.scope.kind == .class || (env.scope.kind == .module && env.locals != env.globals)) = false := by rfl)
    (hsw : swapsWith value (some (.Name x pos')) pos.line env = pure false := by rfl) :
    wpAny (model c.prog c.w) c.A (exec (.Assign [.Name x pos'] value pos) env) Q E ⟨hh, gs, dr, tk₀, os⟩ := by
  refine wpAny_Assign_Name (he ⟨hh, gs, dr, tk₀, os⟩ _ E k rfl fun v h' tk p e => ?_) hsw
  exact st1 (k.ext e) (fun h'' tk' d k' => h v h'' tk' (P.st d p) k') hL hl hp
noncomputable def rSc : Scope := match st 1 with | .FunctionDef _ _ _ _ _ _ scope _ _ _ => scope | _ => default
noncomputable def rBd : List Stmt := match st 1 with | .FunctionDef _ _ body _ _ _ _ _ _ _ => body | _ => []
noncomputable def rEnv (C : Addr) : Env := envOf (Str.ofString "restore") rSc C 21 (.ref 20)
theorem rEnv_ok (C : Addr) : REnv (rEnv C) C := ⟨rfl, rfl, rfl, rfl, rfl, rfl, rfl⟩
/-- where the lines come from: a list, or an iterator at its start -/
noncomputable def SrcIs (h : Heap) (dv : Value) (l : Addr) : Prop := dv = .ref l ∨ ∃ I, dv = .ref I ∧ h.IsListIter I l 0
section
variable {prog : Program} {w : World} {A : Around}
theorem rstart (r : RW) (ok : r.ok) (G : Gd w r.hB) (hnG : nd r.oG) (hh : A.handled = none) {n : Int} (hn : n = 1 ∨ n = 2) (htag : r.tag = tagOf n) {dv wv : Value} (hw : WishOf wv n) {m : PySem.Str → Option Value} (hmd : m (Str.ofString "delta") = some dv) (hmw : m (Str.ofString "which") = some wv)
    {s : Shared} {oS : Obj} (hSa : s.heap.get? r.Sa = some oS) (hnS : nd oS) (fr : Fr r.hB r.C s.heap m) (kr : r.Kr s.heap) (hl : ∃ vs, s.heap.IsList r.l vs.toArray ∧ StrsAre vs (r.xs.map S)) (hsrc : dv = .ref r.l ∨ (dv = .ref r.I ∧ s.heap.IsListIter r.I r.l 0)) :
    Seg (model prog w) A r.R r.Y (outsOf r.tag r.xs).length s (.func rBd (rEnv r.C)) ((model prog w).den (.func rBd (rEnv r.C))) [] s := by
  obtain ⟨p, lo, mg, mb, T⟩ := G.T
  have X := G.X
  have hS : sizeLine = 16777216 := rfl
  refine seg_func ?_
  have k₀ : (Cx.mk prog w (A.over (.func rBd (rEnv r.C)) []) r.hB r.C m s.heap []).ok s.heap := ⟨fr, ExtD.refl, fun _ z => nomatch z⟩
  refine seg_plain (wpAny_Try_except ?_)
  refine sAssign (P := IsS (S (tagOf n))) (gs := s.gens) (dr := s.drawn) (os := s.os) (tk₀ := s.toks) k₀ ?_ ?_
  · refine evTag hn (evInt (bl X T (by rfl) boot_int) (nm hmw (P := IsV wv) fun _ => rfl) hw)
  intro v h₁ tk₁ pv k₁
  obtain ⟨u, rfl⟩ := pv
  refine wpAny_execs_nil ?_
  dsimp only
  refine wpAny_execs_nil ?_
  dsimp only
  have hS₁ : h₁.get? r.Sa = some oS := k₁.back _ _ hSa hnS
  have hG₁ : h₁.get? r.G = some r.oG := k₁.back _ _ kr.2 hnG
  have hl₁ : ∃ vs, h₁.IsList r.l vs.toArray ∧ StrsAre vs (r.xs.map S) := by
    obtain ⟨vs, ⟨o, ho, hc, n', hd⟩, q⟩ := hl
    exact ⟨vs, ⟨o, k₁.back _ _ ho (nd_seq hd), hc, n', hd⟩, q⟩
  have k₁' : (Cx.mk prog w (A.over (.func rBd (rEnv r.C)) []) r.hB r.C (upd m (Str.ofString "tag") (.str (S (tagOf n)) u)) h₁ []).ok h₁ := ⟨k₁.fr, ExtD.refl, fun _ z => nomatch z⟩
  refine seg_plain ?_
  refine eAssignF (P := IsTupN h₁ [S [32, 32], S (tagOf n)]) (gs := s.gens) (dr := s.drawn) (os := s.os) (tk₀ := tk₁) k₁' ?_ ?_
  · refine evTupN ?_ (by show 2 ≤ sizeLine; omega)
    exact sp1 cS (sp1 (nS HS.str) sp0)
  intro v h₂ tk₂ pv k₂
  obtain ⟨T, us, rfl, hTo, hTs, hTf⟩ := pv
  have hS₂ : h₂.get? r.Sa = some oS := k₂.back _ _ hS₁ hnS
  have hG₂ : h₂.get? r.G = some r.oG := k₂.back _ _ hG₁ hnG
  have hTS : T ≠ r.Sa := fun z => by rw [z, hS₁] at hTf; cases hTf
  have hl₂ : ∃ vs, h₂.IsList r.l vs.toArray ∧ StrsAre vs (r.xs.map S) := by
    obtain ⟨vs, ⟨o, ho, hc, n', hd⟩, q⟩ := hl₁
    exact ⟨vs, ⟨o, k₂.back _ _ ho (nd_seq hd), hc, n', hd⟩, q⟩
  have hit₂ : dv = .ref r.l ∨ (dv = .ref r.I ∧ h₂.IsListIter r.I r.l 0) := by
    rcases hsrc with e | ⟨e, o, ho, hc, hd⟩
    · exact .inl e
    · exact .inr ⟨e, o, k₂.back _ _ (k₁.back _ _ ho (nd_fields hd)) (nd_fields hd), hc, hd⟩
  dsimp only
  have hd₂ : upd (upd m (Str.ofString "tag") (.str (S (tagOf n)) u)) (Str.ofString "prefixes") (.ref T) (Str.ofString "delta") = some dv := (upd_ne (by decide)).trans ((upd_ne (by decide)).trans hmd)
  have kk₂ : (Cx.mk prog w (A.over (.func rBd (rEnv r.C)) []) r.hB r.C (upd (upd m (Str.ofString "tag") (.str (S (tagOf n)) u)) (Str.ofString "prefixes") (.ref T)) h₂ []).ok h₂ := ⟨k₂.fr, ExtD.refl, fun _ z => nomatch z⟩
  refine seg_for (fun _ => rfl) ?_
  refine (nm hd₂ (P := IsV dv) (fun _ => rfl) : Ev (Cx.mk prog w (A.over (.func rBd (rEnv r.C)) []) r.hB r.C (upd (upd m (Str.ofString "tag") (.str (S (tagOf n)) u)) (Str.ofString "prefixes") (.ref T)) h₂ []) _ _) ⟨h₂, s.gens, s.drawn, tk₂, s.os⟩ _ _ kk₂ trivial fun v h₃ tk₃ hv e₃ => ?_
  have hv' : v = dv := hv
  subst hv'
  have kr₃ : r.Kr h₃ := ⟨fun b o e => e₃ _ _ (k₂.fr.keep b o e), e₃ _ _ hG₂⟩
  have hl₃ : ∃ vs, h₃.IsList r.l vs.toArray ∧ StrsAre vs (r.xs.map S) := by
    obtain ⟨vs, ⟨o, ho, q'⟩, q⟩ := hl₂
    exact ⟨vs, ⟨o, e₃ _ _ ho, q'⟩, q⟩
  have hT₃ : ∃ T' us, T' ≠ r.Sa ∧ upd (upd m (Str.ofString "tag") (.str (S (tagOf n)) u)) (Str.ofString "prefixes") (.ref T) (Str.ofString "prefixes") = some (.ref T') ∧ IsTup h₃ T' us.toArray ∧ StrsAre us [S [32, 32], S r.tag] :=
    ⟨T, us, hTS, upd_same, ⟨_, e₃ _ _ hTo, rfl, _, rfl⟩, htag ▸ hTs⟩
  have sn₃ : ∀ h₄ tk, Ext h₃ h₄ → r.Snc s ⟨h₄, s.gens, s.drawn, tk, s.os⟩ := fun h₄ tk e => ⟨h₄, tk, rfl, kr₃.ext e, fun o z => e _ _ (e₃ _ _ (k₂.back _ _ (k₁.back _ _ z (by rw [hSa] at z; cases z; exact hnS)) (by rw [hSa] at z; cases z; exact hnS)))⟩
  have frx : ∀ h₄, Ext h₃ h₄ → Fr r.hB r.C h₄ (upd (upd m (Str.ofString "tag") (.str (S (tagOf n)) u)) (Str.ofString "prefixes") (.ref T)) := fun h₄ e => (kk₂.ext (Ext.trans e₃ e)).fr
  rcases hit₂ with rfl | ⟨rfl, hit⟩
  · obtain ⟨vs, hvl, hvs⟩ := hl₃
    refine wpAny_pyIter_list hvl ?_
    intro p
    have fre : h₃.get? h₃.objs.size = none := fresh_size
    have ne : ∀ {b o}, h₃.get? b = some o → b ≠ h₃.objs.size := fun e z => by rw [z, fre] at e; cases e
    have ok' : ({ r with I := h₃.objs.size } : RW).ok := { ok with
      GI := ne kr₃.2
      SI := ne (e₃ _ _ hS₂)
      IB := by
        show r.hB.get? h₃.objs.size = none
        cases hx : r.hB.get? h₃.objs.size with
        | none => rfl
        | some o => have := kr₃.1 _ o hx; rw [fre] at this; cases this }
    obtain ⟨T', us', a1, a2, a3, a4⟩ := hT₃
    refine rloop { r with I := h₃.objs.size } ok' (rEnv_ok r.C) hh ?_ ?_ ?_ ?_ r.xs.length 0 s _ _ rfl (Nat.zero_le _) ⟨frx _ (Ext.push _), ⟨T', us', a1, a2, ?_, a4⟩, ⟨_, Heap.get?_push_size _ rfl, rfl, rfl⟩, ⟨vs, hvl.push _, hvs⟩⟩ (sn₃ _ _ (Ext.push _))
    · exact hh
    · rfl
    · rfl
    · intro s₀ s₁ sn
      refine seg_leaf (.ok .next) ?_
      exact seg_end (.ok (.ret .none)) ⟨rfl, rfl, sn⟩
    · obtain ⟨o, ho, q⟩ := a3
      exact ⟨o, Ext.push _ _ _ ho, q⟩
  · refine wpAny_pyIter_listiter (i := 0) (l := r.l) (by obtain ⟨o, ho, q⟩ := hit; exact ⟨o, e₃ _ _ ho, q⟩) ?_
    intro p
    refine rloop r ok (rEnv_ok r.C) hh ?_ ?_ ?_ ?_ r.xs.length 0 s _ _ rfl (Nat.zero_le _) ⟨frx _ Ext.refl, hT₃, by obtain ⟨o, ho, q⟩ := hit; exact ⟨o, e₃ _ _ ho, q⟩, hl₃⟩ (sn₃ _ _ Ext.refl)
    · exact hh
    · rfl
    · rfl
    · intro s₀ s₁ sn
      refine seg_leaf (.ok .next) ?_
      exact seg_end (.ok (.ret .none)) ⟨rfl, rfl, sn⟩
end
end Mine
end
section
open PySem PySem.W PyProof.Rows
set_option linter.unusedVariables false
set_option maxRecDepth 100000
set_option maxHeartbeats 1000000
namespace Mine
section
variable {prog : Program} {w : World} {A : Around}
structure RSt (prog : Program) (w : World) (A : Around) (r : RW) (g : Nat) (dr : Drawn) (os : OsState) (gens₀ : Array GenState) (i : Nat) (s : Shared) : Prop where
  kr : r.Kr s.heap
  sa : ∃ o, s.heap.get? r.Sa = some o ∧ nd o
  dr : s.drawn = dr
  os : s.os = os
  on : GenOnly g gens₀ s.gens
  go : ∃ gs, s.gens[g]? = some gs ∧ ∀ s'' : Shared, (∀ b o, b ≠ r.Sa → s.heap.get? b = some o → s''.heap.get? b = some o) → (∃ o, s''.heap.get? r.Sa = some o ∧ nd o) → gs.Goes (model prog w) A.in1 r.R r.Y ((outsOf r.tag r.xs).length - i) (.send .none) s''
structure RFn (r : RW) (g : Nat) (dr : Drawn) (os : OsState) (gens₀ : Array GenState) (s : Shared) : Prop where
  kr : r.Kr s.heap
  dr : s.drawn = dr
  os : s.os = os
  on : GenOnly g gens₀ s.gens
  fin : s.gens[g]? = some .finished
theorem rGW (r : RW) (ok : r.ok) {g : Nat} {dr : Drawn} {os : OsState} {gens₀ : Array GenState} (hh : A.handled = none) (hroom : A.depth < recursionLimit) (hNL : r.hB.NoLimit) (hIG : ∀ h : Heap, h.get? r.G = some r.oG → h.IsGen r.G g) :
    GW prog w A r.G r.Sa (outsOf r.tag r.xs).length (fun i v => ∃ x u, (outsOf r.tag r.xs)[i]? = some x ∧ v = .str (S x) u) (RSt prog w A r g dr os gens₀) (RFn r g dr os gens₀) where
  frame := fun i s h' st hk hS => ⟨st.kr.but ok.SB ok.GS (fun b o hb e => hk b o hb e), hS, st.dr, st.os, st.on, by
    obtain ⟨gs, hg, hgo⟩ := st.go
    exact ⟨gs, hg, fun s'' hk'' hS'' => hgo s'' (fun b o hb e => hk'' b o hb (hk b o hb e)) hS''⟩⟩
  item := fun i s Q E hi st hQ => by
    obtain ⟨gs, hg, hgo⟩ := st.go
    obtain ⟨m, hm⟩ : ∃ m, (outsOf r.tag r.xs).length - i = m + 1 := ⟨(outsOf r.tag r.xs).length - i - 1, by omega⟩
    rw [hm] at hgo
    have hi' : (outsOf r.tag r.xs).length - 1 - m = i := by omega
    refine wpAny_pyNext_gen (g := g) (n := m + 1) (gs := gs) (P := fun n s₀ s₁ => n = 0 ∧ r.Snc s₀ s₁) (Y := r.Y) hh (hNL.keeps st.kr.1) hroom (hIG _ st.kr.2) hg (hgo (s.setGen g .running) (fun b o _ e => e) st.sa) ?_ ?_
    · intro v s₁ gs' hy
      obtain ⟨⟨x, u, hx, hv⟩, sn, hk⟩ := hy
      obtain ⟨h', tk, rfl, hK, hSa⟩ := sn
      have hx' : (outsOf r.tag r.xs)[i]? = some x := by
        have : m + 1 - 1 = m := rfl
        rw [this, hi'] at hx; exact hx
      refine hQ v _ ⟨x, u, hx', hv⟩ ⟨hK, ?_, st.dr, st.os, ?_, ?_⟩ fun o e => hSa o e
      · obtain ⟨o, ho, hn⟩ := st.sa
        exact ⟨o, hSa o ho, hn⟩
      · exact (st.on.trans (GenOnly.setGen s g .running)).trans (GenOnly.setGen _ g gs')
      · refine ⟨gs', setGen_self (gs := .running) (setGen_self hg), fun s'' hk'' _ => ?_⟩
        have e : (outsOf r.tag r.xs).length - (i + 1) = m := by omega
        rw [e]
        exact hk s'' fun b o hb e => hk'' b o hb e
    · intro s₁ hp
      exact absurd hp.1 (Nat.succ_ne_zero m)
  done := fun s Q E st hQ => by
    obtain ⟨gs, hg, hgo⟩ := st.go
    rw [Nat.sub_self] at hgo
    refine wpAny_pyNext_gen (g := g) (n := 0) (gs := gs) (P := fun n s₀ s₁ => n = 0 ∧ r.Snc s₀ s₁) (Y := r.Y) hh (hNL.keeps st.kr.1) hroom (hIG _ st.kr.2) hg (hgo (s.setGen g .running) (fun b o _ e => e) st.sa) ?_ ?_
    · intro v s₁ gs' hy
      exact (hy.2.2 s₁ fun b o _ e => e).elim
    · intro s₁ hp h' hk
      obtain ⟨_, h'', tk, rfl, hK, hSa⟩ := hp
      refine hQ _ ⟨hK.ext hk, st.dr, st.os, (st.on.trans (GenOnly.setGen s g .running)).trans (GenOnly.setGen _ g .finished), setGen_self (gs := .running) (setGen_self hg)⟩ fun o e => hk _ o (hSa o e)
end
end Mine
end
section
open PySem PySem.W PyProof.Rows
set_option linter.unusedVariables false
set_option maxRecDepth 100000
set_option maxHeartbeats 1000000
namespace Mine
noncomputable def genO (g : Nat) (t₁ t₂ : Tok) : Obj := { cls := .type "generator", data := .fields #[.int g 0, .str (Str.ofString "restore") t₁, .str (Str.ofString "restore") t₂] }
theorem genO_is {g : Nat} {t₁ t₂ : Tok} {h : Heap} {a : Addr} (e : h.get? a = some (genO g t₁ t₂)) : h.IsGen a g := ⟨_, _, _, e, rfl, rfl, rfl⟩
theorem nd_genO {g : Nat} {t₁ t₂ : Tok} : nd (genO g t₁ t₂) := rfl
noncomputable def rM (dv wv : Value) : PySem.Str → Option Value := fun y => [(Str.ofString "which", wv), (Str.ofString "delta", dv)].lookup y
section
variable {prog : Program} {w : World} {A : Around}
theorem restore_call {s : Shared} {dv wv : Value} {Q : Value → Shared → Prop} {E : Value → Shared → Prop} (G : Gd w s.heap) (hroom : A.depth < recursionLimit)
    (h : ∀ h₁ t₁ t₂ tk, h₁.Ns s.heap.objs.size (rM dv wv) → Ext s.heap h₁ → Q (.ref h₁.objs.size) { s with heap := h₁.push (genO s.gens.size t₁ t₂), gens := s.gens.push (.fresh (.func rBd (rEnv s.heap.objs.size))), toks := tk }) :
    wpAny (model prog w) A (call (.ref 21) [dv, wv]) Q E s := by
  obtain ⟨p, lo, mg, mb, T⟩ := G.T
  refine wpAny_call (codeAny_call_generator (body := rBd) hroom (G.X 21 (x21_0 w.params) (by rfl)) rfl rfl rfl rfl (codeRec_of G.X (by rfl)) ?_)
  refine BindsTo.of_eq (s := s) (binds := [(Str.ofString "delta", dv), (Str.ofString "which", wv)]) (by rfl) _ _ _ _ ?_
  refine wpAny_newFunctionEnv (by decide) (by
    intro x hx
    rcases List.mem_cons.mp hx with rfl | hx
    · rfl
    · rcases List.mem_cons.mp hx with rfl | hx
      · rfl
      · cases hx) ?_
  intro h₁ hns hsb
  refine ⟨T.nolimit.fresh _ hsb, ?_⟩
  exact h h₁ _ _ _ hns fun b o e => hsb.extBut b o (Nat.ne_of_lt (Heap.lt_size e)) (Heap.get?_push_of_some _ e)
end
end Mine
end
section
open PySem PySem.W PyProof.Rows
set_option linter.unusedVariables false
set_option maxRecDepth 100000
set_option maxHeartbeats 1000000
namespace Mine
theorem strsAre_of_items {xs : List (List Nat)} {acc : Array Value} (h : ItemsOf (fun i v => ∃ x u, xs[i]? = some x ∧ v = Value.str (S x) u) acc xs.length) : StrsAre acc.toList (xs.map S) := by
  suffices H : ∀ (vs : List Value) (xs : List (List Nat)), vs.length = xs.length → (∀ j v, vs[j]? = some v → ∃ x u, xs[j]? = some x ∧ v = Value.str (S x) u) → StrsAre vs (xs.map S) from
    H acc.toList xs (by simpa using h.1) fun j v e => h.2 j v (by simpa using e)
  intro vs
  induction vs with
  | nil => intro xs hl _; cases xs with | nil => exact .nil | cons _ _ => cases hl
  | cons v vs ih =>
    intro xs hl hv
    cases xs with
    | nil => cases hl
    | cons x xs =>
      obtain ⟨x', u, e, rfl⟩ := hv 0 v rfl
      cases e
      exact .cons _ _ (ih xs (by simpa using hl) fun j v e => hv (j + 1) v e)
theorem setGen_bare {g : Nat} {a b : Array GenState} (x : GenOnly g a b) (ha : ∀ k, k ≠ g → ∀ y, a[k]? = some y → y.bare = true) (hf : b[g]? = some .finished) : ∀ y ∈ b, y.bare = true := by
  intro y hy
  obtain ⟨k, hk, rfl⟩ := Array.mem_iff_getElem.mp hy
  by_cases e : k = g
  · subst e
    have : b[k]? = some b[k] := Array.getElem?_eq_getElem hk
    rw [hf] at this
    rw [← Option.some.inj this]; rfl
  · exact ha k e _ (by rw [← x.2 k e]; exact Array.getElem?_eq_getElem hk)
section
variable {prog : Program} {w : World} {A : Around}
theorem list_restore {s : Shared} {hB h₁ : Heap} {t₁ t₂ : Tok} {tk : Nat} {I l : Addr} {dv wv : Value} {n : Int} {xs : List (List Nat)} {vs : List Value} {Q : Value → Shared → Prop} {E : Value → Shared → Prop}
    (G : Gd w hB) (hBs : Ext hB s.heap) (hsz : hB.objs.size ≤ s.heap.objs.size) (hI : hB.get? I = none) (hIG : I ≠ h₁.objs.size) (hIS : I ≠ h₁.objs.size + 1) (hh : A.handled = none) (hroom : A.depth + 3 < recursionLimit)
    (hns : h₁.Ns s.heap.objs.size (rM dv wv)) (he : Ext s.heap h₁) (hn : n = 1 ∨ n = 2) (hw : WishOf wv n) (hl : s.heap.IsList l vs.toArray) (hvs : StrsAre vs (xs.map S)) (hsrc : dv = .ref l ∨ (dv = .ref I ∧ s.heap.IsListIter I l 0))
    (hx : ∀ x ∈ xs, x.length ≤ 1000000) (hxl : xs.length ≤ 1000000)
    (hQ : ∀ Sa h' gens' tk' acc c, Ext hB h' → s.heap.get? Sa = none → h'.get? Sa = some { cls := .type "list", dict := none, data := .seq acc c, slots := #[] } → StrsAre acc.toList ((outsOf (tagOf n) xs).map S) → ((∀ y ∈ s.gens, y.bare = true) → ∀ y ∈ gens', y.bare = true) → Q (.ref Sa) ⟨h', gens', s.drawn, tk', s.os⟩) :
    wpAny (model prog w) A (call (.type "list") [.ref h₁.objs.size]) Q E { s with heap := h₁.push (genO s.gens.size t₁ t₂), gens := s.gens.push (.fresh (.func rBd (rEnv s.heap.objs.size))), toks := tk } := by
  have hS : sizeLine = 16777216 := rfl
  have hg : (h₁.push (genO s.gens.size t₁ t₂)).get? h₁.objs.size = some (genO s.gens.size t₁ t₂) := Heap.get?_push_size _ rfl
  have hsp : (h₁.push (genO s.gens.size t₁ t₂)).objs.size = h₁.objs.size + 1 := by simp [Heap.push]
  have hC : s.heap.objs.size < h₁.objs.size := by obtain ⟨o, _, _, ho, _⟩ := hns; exact Heap.lt_size ho
  have hlS : @LT.lt Nat _ l s.heap.objs.size := by obtain ⟨o, ho, _⟩ := hl; exact Heap.lt_size ho
  have hout : ∀ b, s.heap.objs.size ≤ b → hB.get? b = none := fun b hb => by
    cases hx : hB.get? b with
    | none => rfl
    | some o =>
      have h3 : @LT.lt Nat _ b hB.objs.size := Heap.lt_size hx
      have h4 : @LE.le Nat _ s.heap.objs.size b := hb
      omega
  let r : RW := ⟨hB, s.heap.objs.size, I, l, h₁.objs.size + 1, h₁.objs.size, genO s.gens.size t₁ t₂, xs, tagOf n⟩
  have ok : r.ok := {
    tag := by show (tagOf n).length = 2; unfold tagOf; split <;> rfl
    GC := by show h₁.objs.size ≠ s.heap.objs.size; omega
    GI := Ne.symm hIG
    GS := by show h₁.objs.size ≠ h₁.objs.size + 1; omega
    SC := by show h₁.objs.size + 1 ≠ s.heap.objs.size; omega
    SI := Ne.symm hIS
    Sl := by exact fun z => by have z' : @Eq Nat (h₁.objs.size + 1) l := z; omega
    SB := hout _ (by show s.heap.objs.size ≤ h₁.objs.size + 1; omega)
    IB := hI
    CB := hout _ (Nat.le_refl _)
    sz := hx }
  obtain ⟨p, lo, mg, mb, T⟩ := G.T
  have W := rGW (prog := prog) (w := w) (A := A.in1.in1) r ok (g := s.gens.size) (dr := s.drawn) (os := s.os) (gens₀ := s.gens.push (.fresh (.func rBd (rEnv s.heap.objs.size)))) hh (by show A.depth < recursionLimit; omega) T.nolimit (fun h e => genO_is e)
  have hol : (outsOf (tagOf n) xs).length ≤ xs.length := by unfold outsOf; rw [List.length_map]; exact List.length_filter_le _ _
  refine list_of_gen (S := h₁.objs.size + 1) (gi := s.gens.size) (by rw [hsp]) W (genO_is hg) (by show (outsOf (tagOf n) xs).length ≤ sizeLine; omega) ?_ ?_
  · have hgs : (s.gens.push (.fresh (.func rBd (rEnv s.heap.objs.size))))[s.gens.size]? = some (.fresh (.func rBd (rEnv s.heap.objs.size))) := by simp
    have hSa₀ : ((h₁.push (genO s.gens.size t₁ t₂)).push { cls := .type "list", data := .seq #[] }).get? (h₁.objs.size + 1) = some { cls := .type "list", data := .seq #[] } := by rw [← hsp]; exact Heap.get?_push_size _ rfl
    have ext : Ext h₁ ((h₁.push (genO s.gens.size t₁ t₂)).push { cls := .type "list", data := .seq #[] }) := (Ext.push _).trans (Ext.push _)
    refine ⟨⟨fun b o e => ext b o (he b o (hBs b o e)), Ext.push _ _ _ hg⟩, ⟨{ cls := .type "list", data := .seq #[] }, hSa₀, rfl⟩, rfl, rfl, ⟨rfl, fun _ _ => rfl⟩, _, hgs, ?_⟩
    intro s'' hk hSa
    refine ⟨rfl, ?_⟩
    obtain ⟨oS, hoS, hnS⟩ := hSa
    have keep : ∀ b o, @LT.lt Nat _ b (h₁.objs.size + 1) → (h₁.push (genO s.gens.size t₁ t₂)).get? b = some o → s''.heap.get? b = some o := fun b o hb e => hk b o (fun z => by have z' : @Eq Nat b (h₁.objs.size + 1) := z; omega) (Ext.push _ _ _ e)
    have keep₁ : ∀ b o, h₁.get? b = some o → s''.heap.get? b = some o := fun b o e => keep b o (by have : @LT.lt Nat _ b h₁.objs.size := Heap.lt_size e; omega) (Ext.push _ _ _ e)
    have := rstart (prog := prog) (A := A.in1.in1.in1) r ok G nd_genO hh hn rfl hw (dv := dv) (m := rM dv wv) rfl rfl (s := s'') hoS hnS ⟨hns.keeps keep₁, fun b o e => keep₁ b o (he b o (hBs b o e)), hsz⟩ ⟨fun b o e => keep₁ b o (he b o (hBs b o e)), keep _ _ (Nat.lt_succ_self _) hg⟩
      ⟨vs, (by obtain ⟨o, ho, q⟩ := hl; exact ⟨o, keep₁ _ _ (he _ _ ho), q⟩), hvs⟩ (by
        rcases hsrc with e | ⟨e, o, ho, q⟩
        · exact .inl e
        · exact .inr ⟨e, o, keep₁ _ _ (he _ _ ho), q⟩)
    exact this
  · intro s' acc' c' fn hSa items
    obtain ⟨h', gens', dr', tk', os'⟩ := s'
    obtain ⟨kr, e1, e2, on, fin⟩ := fn
    cases e1
    cases e2
    refine hQ _ h' gens' tk' acc' c' kr.1 ?_ hSa (strsAre_of_items items) ?_
    · cases hx : s.heap.get? (h₁.objs.size + 1) with
      | none => rfl
      | some o =>
        have h3 : @LT.lt Nat _ (h₁.objs.size + 1) s.heap.objs.size := Heap.lt_size hx
        omega
    · intro hb
      refine setGen_bare on (fun k hk y e => ?_) fin
      rw [Array.getElem?_push] at e
      split at e
      · exact absurd (by assumption) hk
      · exact hb y (Array.mem_of_getElem? e)
end
end Mine
end
section
open PySem PySem.W PyProof.Rows
set_option linter.unusedVariables false
set_option maxRecDepth 100000
namespace Mine
/-- inside a comprehension, with all that stood at its start as base -/
noncomputable abbrev Cx.c2 (c : Cx) (C : Addr) (m : PySem.Str → Option Value) (g : Heap) : Cx := { c with h₀ := g, L := C, m := m, g := g, mu := [] }
/-- a cell of the frame holds v wherever the context holds -/
noncomputable def CellIs (c : Cx) (a : Addr) (v : Value) : Prop := ∀ h, c.ok h → h.IsCell a (some v)
noncomputable def cellO (v : Value) : Obj := { cls := .type "cell", data := .cell (some v) }
theorem CellIs.own {c : Cx} {a : Addr} {v : Value} {o : Obj} (h : (a, o) ∈ c.mu) (hd : o.data = .cell (some v)) : CellIs c a v := fun hh k => ⟨o, (k.own _ h).1, hd⟩
theorem CellIs.base {c : Cx} {a : Addr} {v : Value} (h : c.h₀.IsCell a (some v)) : CellIs c a v := fun hh k => h.keeps k.base
theorem nmC {c : Cx} {env : Env} {x : PySem.Str} {p : Pos} {a : Addr} {v : Value} (h : CellIs c a v) (hc : env.cells.lookup x = some a) (hk : env.scope.kind = .function := by rfl) (hl : env.kindOf x = some .cell := by rfl) (hd : (x == ("__debug__" : PySem.Str)) = false := by decide) :
    Ev c (eval (.Name x p) env) (IsV v) := fun s Q E k _ f => wpAny_Name (wpAny_loadName_cell hk hl hc (h s.heap k) (f v s.heap s.toks rfl Ext.refl)) hd
section
variable {c : Cx} {env : Env} {scope : Scope} {cl : List (PySem.Str × Addr)} {x : PySem.Str} {ifs : List Expr} {elt iter : Expr}
structure Body2 (c : Cx) (env : Env) (scope : Scope) (cl : List (PySem.Str × Addr)) (x : PySem.Str) (ifs : List Expr) (elt : Expr) (h₁ : Heap) (P : Nat → Value → Prop) (p : Value → Bool) (F : Value → Value → Prop) : Prop where
  test : ∀ g C m i v, ExtD h₁ g → (∀ b o, h₁.get? b = some o → g.get? b = some o) → P i v → m x = some v → TestIs (c.c2 C m g) ifs (compEnvC scope cl C env) (p v)
  elt : ∀ g C m i v, ExtD h₁ g → (∀ b o, h₁.get? b = some o → g.get? b = some o) → P i v → p v = true → m x = some v → EvF (c.c2 C m g) (fun _ => True) (eval elt (compEnvC scope cl C env)) (fun y _ => F v y)
theorem quiet2 {I : Addr} {P : Nat → Value → Prop} {p : Value → Bool} {F : Value → Value → Prop} {h₁ : Heap} {s₂ : Shared} (k₁ : c.ok h₁) (hI : h₁.get? I = none) (e : Ext h₁ s₂.heap) (hb : Body2 c env scope cl x ifs elt h₁ P p F) :
    QuietOnC c.prog c.w c.A env scope cl x ifs elt [I] P p F s₂ := by
  have k₂ := k₁.ext e
  have hIh : ∀ o, c.h₀.get? I ≠ some o := fun o z => by have := k₁.base _ _ z; rw [hI] at this; cases this
  have eg : ∀ b o, h₁.get? b = some o → (hideAll s₂.heap [I]).get? b = some o := fun b o z => hideAll_get _ (e b o z) fun y => by
    have : b = I := by simpa using y
    rw [this, hI] at z; cases z
  have ok3 : ∀ C (s₃ : Shared) m₃, s₂.heap.objs.size ≤ C → s₃.heap.Ns C m₃ → (∀ b o, b ∉ [I] → s₂.heap.get? b = some o → s₃.heap.get? b = some o) → (c.c2 C m₃ (hideAll s₂.heap [I])).ok s₃.heap := fun C s₃ m₃ hC hns hk =>
    ⟨⟨hns, fun b o z => hk b o (fun y => by rw [hideAll_none _ y] at z; cases z) (of_hideAll _ z), by
        show (hideAll s₂.heap [I]).objs.size ≤ C
        rw [hideAll_size]; exact hC⟩,
      fun b o z nz => hk b o (fun y => by rw [hideAll_none _ y] at z; cases z) (of_hideAll _ z), fun _ hp => nomatch hp⟩
  constructor
  · intro C i v s₃ m₃ E' hC hP hns hm hk _
    have k₃ := ok3 C s₃ m₃ hC hns hk
    rcases hb.test (hideAll s₂.heap [I]) C m₃ i v (fun b o z _ => eg b o z) eg hP hm with ⟨rfl, hp⟩ | ⟨t, rfl, ht⟩
    · exact wpAny_pure ⟨hp.symm, _, _, rfl, fun _ _ z => z⟩
    · simp only [List.forIn_cons, List.forIn_nil]
      refine wpAny_bind ?_
      rw [if_pos trivial]
      refine wpAny_bind (ht s₃ _ E' k₃ trivial fun r h' tk hr e' => ?_)
      exact wpAny_pure (wpAny_pure ⟨hr, h', tk, rfl, e'⟩)
  · intro C i v s₃ m₃ E' hC hP hp hns hm hk _
    have k₃ := ok3 C s₃ m₃ hC hns hk
    exact hb.elt (hideAll s₂.heap [I]) C m₃ i v (fun b o z _ => eg b o z) eg hP hp hm s₃ _ E' k₃ trivial fun y h' tk hF e' => ⟨hF, h', tk, rfl, e'⟩
theorem evComp2 {px pos : Pos} {pre : Heap → Prop} {R : Nat → (Nat → Value → Prop) → Heap → Prop} (ok : CompOk scope env cl x) (hs : Srcs c (eval iter env) R) (p : Value → Bool) (F : Value → Value → Prop)
    (hb : ∀ h₀ n P h₁, pre h₀ → Ext h₀ h₁ → c.ok h₁ → R n P h₁ → Body2 c env scope cl x ifs elt h₁ P p F) (hf : ∀ x, foldedSetIterable iter env x = pure x := by intro _; rfl) :
    EvF c pre (eval (.ListComp elt [⟨.Name x px, iter, ifs, 0⟩] scope pos) env) (fun v h => ∃ (D : Addr) (ys : List Value) (n : Nat) (P : Nat → Value → Prop) (h₁ : Heap) (us : List Value), v = .ref D ∧ h.IsList D ys.toArray ∧ R n P h₁ ∧ Ext h₁ h ∧ us.length = n ∧ (∀ j v, us[j]? = some v → P j v) ∧ Paired F (us.filter p) ys) :=
  fun s Q E k hp f => by
    refine wpAny_ListComp_free p F ok.clos ok.cell' ok.kind ok.names' ok.x (hs s _ E k fun I fp n P St h₁ h₂ tk W st hfp hn hI e₁ e₂ r => ?_) hf
    refine ⟨I, fp, [I], n, P, St, rfl, W, hn, st, hfp, quiet2 (k.ext e₁) hI e₂ (hb s.heap n P h₁ hp e₁ (k.ext e₁) r), fun D h' tk' ys vs hD hl _ hlen hP hF hk => ?_⟩
    have e' : Ext h₁ h' := fun b o z => hk b o (fun y => by have : b = I := by simpa using y
                                                            rw [this, hI] at z; cases z) (e₂ b o z)
    exact f (.ref D) h' tk' ⟨D, ys.toList, n, P, h₁, vs, rfl, by simpa using hl, r, e', hlen, hP, hF⟩ (e₁.trans e')
variable {hh : Heap} {gs : Array GenState} {dr : Drawn} {tk₀ : Nat} {os : OsState} {Q : Flow → Shared → Prop} {E : Value → Shared → Prop}
theorem sComp2 {y : PySem.Str} {px py pos spos : Pos} {rest : List Stmt} {R : Nat → (Nat → Value → Prop) → Heap → Prop} (k : c.ok hh) (ok : CompOk scope env cl x) (hs : Srcs c (eval iter env) R) (p : Value → Bool) (F : Value → Value → Prop)
    (hb : ∀ n P h₁, Ext hh h₁ → c.ok h₁ → R n P h₁ → Body2 c env scope cl x ifs elt h₁ P p F)
    (h : ∀ (D : Addr) (ys : List Value) (n : Nat) (P : Nat → Value → Prop) (h₁ : Heap) (us : List Value) (h' : Heap) (tk : Nat), Ext hh h₁ → h'.IsList D ys.toArray → R n P h₁ → ExtD h₁ h' → us.length = n → (∀ j v, us[j]? = some v → P j v) → Paired F (us.filter p) ys →
      (c.at (upd c.m y (.ref D))).ok h' → wpAny (model c.prog c.w) c.A (execs rest env) Q E ⟨h', gs, dr, tk, os⟩)
    (hL : env.locals = c.L := by rfl) (hly : env.kindOf y = some .local := by rfl) (hp : (env.scope.kind == .class || (env.scope.kind == .module && env.locals != env.globals)) = false := by rfl)
    (hsw : swapsWith (.ListComp elt [⟨.Name x px, iter, ifs, 0⟩] scope pos) (some (.Name y py)) spos.line env = pure true := by rfl) (hf : ∀ x, foldedSetIterable iter env x = pure x := by intro _; rfl) :
    wpAny (model c.prog c.w) c.A (execs (.Assign [.Name y py] (.ListComp elt [⟨.Name x px, iter, ifs, 0⟩] scope pos) spos :: rest) env) Q E ⟨hh, gs, dr, tk₀, os⟩ := by
  refine wpAny_execs_cons (wpAny_Assign_ListComp_free p F hsw ok.clos ok.cell' ok.kind ok.names' ok.x hly hp (hs ⟨hh, gs, dr, tk₀, os⟩ _ E k fun I fp n P St h₁ h₂ tk W st hfp hn hI e₁ e₂ r => ?_) hf)
  have k₂ := (k.ext e₁).ext e₂
  have hLI : c.L ≠ I := fun z => by
    have := (k.ext e₁).fr.ns.lt
    have hI2 := hI
    rw [← z] at hI2
    obtain ⟨o, _, _, ho, _⟩ := (k.ext e₁).fr.ns
    rw [hI2] at ho; cases ho
  refine ⟨I, fp, [I], n, P, St, c.m, rfl, W, hn, st, hfp, by rw [hL]; simpa using hLI, hL ▸ k₂.fr.ns, quiet2 (k.ext e₁) hI e₂ (hb n P h₁ e₁ (k.ext e₁) r), fun D h' tk' ys vs hD hl _ hlen hP hF hns hk => ?_⟩
  rw [hL] at hns hk
  have hIb : ∀ b o, h₁.get? b = some o → b ∉ [I] := fun b o z y => by
    have : b = I := by simpa using y
    rw [this, hI] at z; cases z
  have kb : ∀ b o, b ≠ c.L → h₁.get? b = some o → h'.get? b = some o := fun b o hb z => hk b o hb (hIb b o z) (e₂ b o z)
  have k₁ := k.ext e₁
  have ndL : ∀ b o, h₁.get? b = some o → nd o → b ≠ c.L := fun b o z nz q => by
    obtain ⟨o', ho', hn'⟩ := ns_dict k₁.fr.ns
    rw [q, ho'] at z; cases z; exact hn' nz
  refine h D ys.toList n P h₁ vs h' tk' e₁ (by simpa using hl) r (fun b o z nz => kb b o (ndL b o z nz) z) hlen hP hF ⟨⟨hns, fun b o z => kb b o (fun q => ?_) (k₁.base b o z), k.fr.above⟩, fun b o z nz => kb b o (ndL b o (k₁.back b o z nz) nz) (k₁.back b o z nz), fun q hq => ?_⟩
  · have h1 := Heap.lt_size z
    rw [q] at h1
    exact absurd (Nat.lt_of_lt_of_le h1 k.fr.above) (Nat.lt_irrefl _)
  · have := k₁.own q hq
    exact ⟨kb _ _ this.2.1 this.1, this.2⟩
end
end Mine
end
section
open PySem PySem.W PyProof.Rows
set_option linter.unusedVariables false
set_option maxRecDepth 100000
set_option maxHeartbeats 1000000
namespace Mine
theorem compTurn_in (elt target iter : Expr) (g : Comprehension) (scope : Scope) (pos : Pos) (it acc : Value) (env : Env) :
    compTurn (.ListComp elt [g, ⟨target, iter, [], 0⟩] scope pos) 1 it acc env = (standAt iter.pos >>= fun _ => pyNext it >>= fun r => match r with
      | none => pure (.done .next)
      | some v => letOwnedTupleGo target it v >>= fun _ => assign target env v >>= fun _ =>
        (eval elt env >>= fun x => call (.builtin "list.append") [acc, x] >>= fun _ => pure ()) >>= fun _ =>
          again (.compLoop (.ListComp elt [g, ⟨target, iter, [], 0⟩] scope pos) 1 it acc env)) := by rfl
theorem compTurn_out (elt target iter target' iter' : Expr) (scope : Scope) (pos : Pos) (it acc : Value) (env : Env) :
    compTurn (.ListComp elt [⟨target, iter, [], 0⟩, ⟨target', iter', [], 0⟩] scope pos) 0 it acc env = (standAt iter.pos >>= fun _ => pyNext it >>= fun r => match r with
      | none => pure (.done .next)
      | some v => letOwnedTupleGo target it v >>= fun _ => assign target env v >>= fun _ =>
        eval iter' env >>= fun x => standAt iter'.pos >>= fun _ => foldedSetIterable iter' env x >>= fun x => holding [x] (pyIter x) >>= fun j =>
          runOwn (.compStart (.ListComp elt [⟨target, iter, [], 0⟩, ⟨target', iter', [], 0⟩] scope pos) 1 j acc env) env >>= fun _ =>
          again (.compLoop (.ListComp elt [⟨target, iter, [], 0⟩, ⟨target', iter', [], 0⟩] scope pos) 0 it acc env)) := by rfl
section
variable {prog : Program} {w : World} {A : Around} {cenv : Env} {C D : Addr} {g : Comprehension} {iter : Expr} {scope : Scope} {pos py py' : Pos} {y : PySem.Str}
theorem inner_loop {J a : Addr} {vs : List Value} {R : Result → Shared → Prop} (hL : cenv.locals = C) (hk : cenv.scope.kind = .function) (hy : cenv.kindOf y = some .local) (hdb : (y == ("__debug__" : PySem.Str)) = false) (hh : A.handled = none)
    (hJC : J ≠ C) (hDC : D ≠ C) (hDJ : D ≠ J) (haJ : a ≠ J) (haC : a ≠ C) (haD : a ≠ D) :
    ∀ (k i : Nat) (s : Shared) (m : PySem.Str → Option Value) (acc : Array Value), vs.length - i = k → i ≤ vs.length → s.heap.IsListIter J a i → s.heap.IsList a vs.toArray → s.heap.IsList D acc → s.heap.Ns C m → acc.size + k ≤ sizeLine →
      (∀ h' tk m', h'.IsList D (acc ++ (vs.drop i).toArray) → h'.Ns C m' → (∀ z, z ≠ y → m' z = m z) → (∀ b o, b ≠ C → b ≠ J → b ≠ D → s.heap.get? b = some o → h'.get? b = some o) → R (.ok .next) { s with heap := h', toks := tk }) →
      codeAny (model prog w) A (.compLoop (.ListComp (.Name y py') [g, ⟨.Name y py, iter, [], 0⟩] scope pos) 1 (.ref J) (.ref D) cenv) R s := by
  intro k
  induction k with
  | zero =>
    intro i s m acc hki hi hit hl hD hns hsz hR
    have hin : i = vs.length := by omega
    subst hin
    refine codeAny_of_tree ?_
    show wpAny _ A ((compTurn _ 1 _ _ cenv).onRaise (fun x => do noteFrame x cenv; theTreesLotGoes x)) _ _ s
    refine wpAny_noted ?_
    rw [compTurn_in]
    refine wpAny_bind (wpAny_standAt (wpAny_bind (wpAny_pyNext_list_end hh hit hl (by simp) fun h' he' => ?_)))
    refine wpAny_pure (hR h' s.toks m ?_ (hns.extBut he' (Ne.symm hJC)) (fun _ _ => rfl) fun b o _ hb _ e => he' b o hb e)
    have := hD.extBut he' hDJ
    simpa using this
  | succ k ih =>
    intro i s m acc hki hi hit hl hD hns hsz hR
    have hlt : i < vs.length := by omega
    have hv : vs[i]? = some vs[i] := List.getElem?_eq_getElem hlt
    refine codeAny_of_tree ?_
    show wpAny _ A ((compTurn _ 1 _ _ cenv).onRaise (fun x => do noteFrame x cenv; theTreesLotGoes x)) _ _ s
    refine wpAny_noted ?_
    rw [compTurn_in]
    refine wpAny_bind (wpAny_standAt (wpAny_bind (wpAny_pyNext_list_item hit hl (x := vs[i]) (by simpa using hv) fun h₁ it₁ hs₁ => ?_)))
    refine wpAny_bind (wpAny_of_eq (a := ()) rfl ?_)
    refine wpAny_bind (wpAny_assign_Name (wpAny_storeName_local hy (by rw [hL]; exact hns.sameBut hs₁ (Ne.symm hJC)) (fun h₂ hn₂ hs₂ => ?_) (by rw [hk]; rfl)))
    rw [hL] at hn₂ hs₂
    refine wpAny_bind (wpAny_bind (wpAny_Name (wpAny_loadName_local (v := vs[i]) hk hy (by rw [hL]; exact hn₂) (by simp) ?_) hdb))
    have hD₂ : h₂.IsList D acc := (hD.extBut hs₁.extBut hDJ).extBut hs₂.extBut hDC
    refine wpAny_bind (wpAny_list_append (s := { s with heap := h₂, toks := _ }) hD₂ (fun h₃ hl₃ hs₃ => ?_) (by omega))
    refine wpAny_pure (wpAny_pure ⟨rfl, ?_⟩)
    have it₂ : h₂.IsListIter J a (i + 1) := it₁.extBut hs₂.extBut hJC
    have it₃ : h₃.IsListIter J a (i + 1) := it₂.extBut hs₃.extBut (Ne.symm hDJ)
    have hl₂ : h₂.IsList a vs.toArray := (hl.extBut hs₁.extBut haJ).extBut hs₂.extBut haC
    refine ih (i + 1) _ (fun z => if z = y then some vs[i] else m z) (acc.push vs[i]) (by omega) hlt it₃ (hl₂.extBut hs₃.extBut haD) hl₃ (hn₂.sameBut hs₃ (Ne.symm hDC)) (by rw [Array.size_push]; omega) fun h' tk m' hD' hn' hm' hk' => hR h' tk m' ?_ hn' (fun z hz => (hm' z hz).trans (if_neg hz)) fun b o hbC hbJ hbD e => hk' b o hbC hbJ hbD (hs₃.extBut b o hbD (hs₂.extBut b o hbC (hs₁.extBut b o hbJ e)))
    have : acc ++ (vs.drop i).toArray = acc.push vs[i] ++ (vs.drop (i + 1)).toArray := by
      rw [List.drop_eq_getElem_cons hlt]
      apply Array.ext'
      simp
    rw [this]; exact hD'
end
end Mine
end
section
open PySem PySem.W PyProof.Rows
set_option linter.unusedVariables false
set_option maxRecDepth 100000
set_option maxHeartbeats 1000000
namespace Mine
section
variable {prog : Program} {w : World} {A : Around} {R : Result → Shared → Prop} {s : Shared}
theorem compStart_in {elt target iter scope pos it acc env} {g : Comprehension}
    (h0 : codeAny (model prog w) A (.compLoop (.ListComp elt [g, ⟨target, iter, [], 0⟩] scope pos) 1 it acc env) R s)
    (h : wpAny (model prog w) A (pyIter it) (fun it' s' => codeAny (model prog w) A (.compLoop (.ListComp elt [g, ⟨target, iter, [], 0⟩] scope pos) 1 it' acc env) R s')
      (notedBy (model prog w) A env fun x s' => R (.error x) s') s) :
    codeAny (model prog w) A (.compStart (.ListComp elt [g, ⟨target, iter, [], 0⟩] scope pos) 1 it acc env) R s := by
  refine codeAny_of_tree ?_
  show wpAny _ _ ((compStart (.ListComp elt [g, ⟨target, iter, [], 0⟩] scope pos) 1 it acc env).onRaise (fun x => do noteFrame x env; standAt theWindowsPlace)) _ _ s
  refine wpAny_notedAt ?_
  unfold compStart
  show wpAny _ _ (ask >>= _) _ _ s
  refine wpAny_bind (wpAny_askSetting (wpAny_ite ?_))
  split
  · first
      | exact wpAny_bind (wpAny_pure (wpAny_pure (And.intro rfl h0)))
      | exact wpAny_pure (And.intro rfl h0)
  · first
      | exact wpAny_bind (wpAny_rule (wpAny_bind (wpAny_standAt (wpAny_bind (wpAny_mono h (fun it' s' h' => wpAny_pure (And.intro rfl h')) fun _ _ x => x)))))
      | (refine wpAny_bind (wpAny_rule ?_); show wpAny _ _ (standAt iter.pos >>= _) _ _ s; exact wpAny_bind (wpAny_standAt (wpAny_bind (wpAny_mono h (fun it' s' h' => wpAny_pure (And.intro rfl h')) fun _ _ x => x))))
end
/-- tuples stand -/
noncomputable def TupK (h h' : Heap) : Prop := ∀ b o, nd o → o.cls = .type "tuple" → h.get? b = some o → h'.get? b = some o
theorem TupK.trans {h h' h'' : Heap} (a : TupK h h') (b : TupK h' h'') : TupK h h'' := fun x o n c e => b x o n c (a x o n c e)
theorem Ext.tupK {h h' : Heap} (e : Ext h h') : TupK h h' := fun b o _ _ x => e b o x
theorem tupK_of {h h' : Heap} {C D J : Addr} {m : PySem.Str → Option Value} {acc : Array Value} {a : Addr} {i : Nat} (hC : h.Ns C m) (hD : h.IsList D acc) (hJ : h.IsListIter J a i) (hk : ∀ b o, b ≠ C → b ≠ J → b ≠ D → h.get? b = some o → h'.get? b = some o) : TupK h h' := fun b o hn hc e => by
  refine hk b o (fun z => ?_) (fun z => ?_) (fun z => ?_) e
  · obtain ⟨o', ho', hn'⟩ := ns_dict hC
    rw [z, ho'] at e; cases e; exact hn' hn
  · obtain ⟨o', ho', hc', _⟩ := hJ
    rw [z, ho'] at e; cases e; rw [hc] at hc'; exact absurd hc' (by decide)
  · obtain ⟨o', ho', hc', _⟩ := hD
    rw [z, ho'] at e; cases e; rw [hc] at hc'; exact absurd hc' (by decide)
section
variable {prog : Program} {w : World} {A : Around} {cenv : Env} {C D I ax : Addr} {iter iter' : Expr} {scope : Scope} {pos px py py' : Pos} {x y : PySem.Str} {us : List Value} {α : Type} {F : Heap → Value → α → Prop} {f : Nat → List α} {R : Result → Shared → Prop}
theorem outer_loop (s₀ : Shared) (hL : cenv.locals = C) (hk : cenv.scope.kind = .function) (hx : cenv.kindOf x = some .local) (hy : cenv.kindOf y = some .local) (hdb : (y == ("__debug__" : PySem.Str)) = false) (hxy : x ≠ y) (hh : A.handled = none)
    (hIC : I ≠ C) (hDC : D ≠ C) (hDI : D ≠ I) (haI : ax ≠ I) (haC : ax ≠ C) (haD : ax ≠ D) (hF : ∀ h h' v z, TupK h h' → F h v z → F h' v z) (hfs : ∀ v, foldedSetIterable iter' cenv v = pure v)
    (hsz : ((List.range us.length).flatMap f).length ≤ sizeLine)
    (hev : ∀ i v (s' : Shared) m' (Q' : Value → Shared → Prop) (E' : Value → Shared → Prop), us[i]? = some v → (∀ b o, b ≠ C → b ≠ I → b ≠ D → s₀.heap.get? b = some o → s'.heap.get? b = some o) → s'.heap.Ns C m' → m' x = some v →
      (∀ a vs h' tk, s'.heap.get? a = none → h'.IsList a vs.toArray → Paired (F h') vs (f i) → Ext s'.heap h' → Q' (.ref a) { s' with heap := h', toks := tk }) → wpAny (model prog w) A (eval iter' cenv) Q' E' s')
    (hR : ∀ h' tk m' acc, h'.IsList D acc → Paired (F h') acc.toList ((List.range us.length).flatMap f) → h'.Ns C m' → (∀ b o, b ≠ C → b ≠ I → b ≠ D → s₀.heap.get? b = some o → h'.get? b = some o) → R (.ok .next) { s₀ with heap := h', toks := tk }) :
    ∀ (k i : Nat) (h : Heap) (tk : Nat) (m : PySem.Str → Option Value) (acc : Array Value), us.length - i = k → i ≤ us.length → h.IsListIter I ax i → h.IsList ax us.toArray → h.IsList D acc → h.Ns C m → Paired (F h) acc.toList ((List.range i).flatMap f) → (∀ b o, b ≠ C → b ≠ I → b ≠ D → s₀.heap.get? b = some o → h.get? b = some o) →
      codeAny (model prog w) A (.compLoop (.ListComp (.Name y py') [⟨.Name x px, iter, [], 0⟩, ⟨.Name y py, iter', [], 0⟩] scope pos) 0 (.ref I) (.ref D) cenv) R { s₀ with heap := h, toks := tk } := by
  intro k
  induction k with
  | zero =>
    intro i h tk m acc hki hi hit hl hD hns hp hkeep
    have hin : i = us.length := by omega
    subst hin
    refine codeAny_of_tree ?_
    show wpAny _ A ((compTurn _ 0 _ _ cenv).onRaise (fun x => do noteFrame x cenv; theTreesLotGoes x)) _ _ _
    refine wpAny_noted ?_
    rw [compTurn_out]
    refine wpAny_bind (wpAny_standAt (wpAny_bind (wpAny_pyNext_list_end hh hit hl (by simp) fun h' he' => ?_)))
    refine wpAny_pure (hR h' tk m acc (hD.extBut he' hDI) ?_ (hns.extBut he' (Ne.symm hIC)) fun b o h1 h2 h3 e => he' b o h2 (hkeep b o h1 h2 h3 e))
    exact Paired.mono' (fun v z q => hF _ _ _ _ (tupK_of hns hD hit fun b o _ hb _ e => he' b o hb e) q) hp
  | succ k ih =>
    intro i h tk m acc hki hi hit hl hD hns hp hkeep
    have hlt : i < us.length := by omega
    have hv : us[i]? = some us[i] := List.getElem?_eq_getElem hlt
    refine codeAny_of_tree ?_
    show wpAny _ A ((compTurn _ 0 _ _ cenv).onRaise (fun x => do noteFrame x cenv; theTreesLotGoes x)) _ _ _
    refine wpAny_noted ?_
    rw [compTurn_out]
    refine wpAny_bind (wpAny_standAt (wpAny_bind (wpAny_pyNext_list_item hit hl (x := us[i]) (by simpa using hv) fun h₁ it₁ hs₁ => ?_)))
    refine wpAny_bind (wpAny_of_eq (a := ()) rfl ?_)
    refine wpAny_bind (wpAny_assign_Name (wpAny_storeName_local hx (by rw [hL]; exact hns.sameBut hs₁ (Ne.symm hIC)) (fun h₂ hn₂ hs₂ => ?_) (by rw [hk]; rfl)))
    rw [hL] at hn₂ hs₂
    have k₂ : ∀ b o, b ≠ C → b ≠ I → b ≠ D → h.get? b = some o → h₂.get? b = some o := fun b o h1 h2 _ e => hs₂.extBut b o h1 (hs₁.extBut b o h2 e)
    have hD₂ : h₂.IsList D acc := (hD.extBut hs₁.extBut hDI).extBut hs₂.extBut hDC
    have it₂ : h₂.IsListIter I ax (i + 1) := it₁.extBut hs₂.extBut hIC
    have hl₂ : h₂.IsList ax us.toArray := (hl.extBut hs₁.extBut haI).extBut hs₂.extBut haC
    have t₂ : TupK h h₂ := tupK_of hns hD hit fun b o h1 h2 h3 e => k₂ b o h1 h2 h3 e
    refine wpAny_bind (hev i us[i] _ _ _ _ hv (fun b o h1 h2 h3 e => k₂ b o h1 h2 h3 (hkeep b o h1 h2 h3 e)) hn₂ (by simp) fun a vs h₃ tk₃ ha hal hpa e₃ => ?_)
    refine wpAny_bind (wpAny_standAt (wpAny_bind (wpAny_of_eq (hfs _) (wpAny_bind (wpAny_holding (wpAny_pyIter_list hal ?_))))))
    refine wpAny_bind (wpAny_runOwn (h := none) ?_)
    have fre : h₃.get? h₃.objs.size = none := fresh_size
    have nJ : ∀ {b o}, h₃.get? b = some o → b ≠ h₃.objs.size := fun e z => by rw [z, fre] at e; cases e
    have haN : ∀ {b o}, h₂.get? b = some o → a ≠ b := fun e z => by
      have ha' : h₂.get? a = none := ha
      rw [z, e] at ha'; cases ha'
    obtain ⟨oC, eC, nC, hoC, rC⟩ := id hn₂
    obtain ⟨oD, hoD, rD⟩ := id hD₂
    obtain ⟨oI, hoI, rI⟩ := id it₂
    obtain ⟨oA, hoA, rA⟩ := id hal
    obtain ⟨oX, hoX, rX⟩ := id hl₂
    have e₄ : Ext h₃ (h₃.push { cls := .type "list_iterator", data := .fields #[.ref a, .int 0 0] }) := Ext.push _
    have e₂₄ : Ext h₂ (h₃.push { cls := .type "list_iterator", data := .fields #[.ref a, .int 0 0] }) := fun b o e => e₄ b o (e₃ b o e)
    have hpl : acc.size = ((List.range i).flatMap f).length := by have := Paired.len hp; simpa using this
    have hvl : vs.length = (f i).length := Paired.len hpa
    have hrange : (List.range (i + 1)).flatMap f = (List.range i).flatMap f ++ f i := by rw [List.range_succ, List.flatMap_append]; simp
    have hle : ((List.range (i + 1)).flatMap f).length ≤ ((List.range us.length).flatMap f).length := by
      have : List.range us.length = List.range (i + 1) ++ (List.range us.length).drop (i + 1) := by
        have e := List.take_append_drop (i + 1) (List.range us.length)
        rw [List.take_range, Nat.min_eq_left hlt] at e
        exact e.symm
      rw [this, List.flatMap_append, List.length_append]; omega
    have hbound : acc.size + vs.length ≤ sizeLine := by rw [hrange, List.length_append] at hle; omega
    have loop : codeAny (model prog w) A (.compLoop (.ListComp (.Name y py') [⟨.Name x px, iter, [], 0⟩, ⟨.Name y py, iter', [], 0⟩] scope pos) 1 (.ref h₃.objs.size) (.ref D) cenv) (fun r s' => match r with | .ok f' => wpAny (model prog w) A (again (.compLoop (.ListComp (.Name y py') [⟨.Name x px, iter, [], 0⟩, ⟨.Name y py, iter', [], 0⟩] scope pos) 0 (.ref I) (.ref D) cenv)) (fun fin s' => match fin with | .done f => R (.ok f) s' | .again c => c.quiet = true ∧ codeAny (model prog w) A c R s') (notedBy (model prog w) A cenv fun e s' => R (.error e) s') s' | .error e => cameBackBy (model prog w) A cenv (notedBy (model prog w) A cenv fun e s' => R (.error e) s') e s')
        { s₀ with heap := h₃.push { cls := .type "list_iterator", data := .fields #[.ref a, .int 0 0] }, toks := tk₃ } := by
      refine inner_loop (C := C) (J := h₃.objs.size) (a := a) (vs := vs) hL hk hy hdb hh (Ne.symm (nJ (e₃ _ _ hoC))) hDC (nJ (e₃ _ _ hoD)) (nJ hoA) (haN hoC) (haN hoD) vs.length 0 _ _ acc rfl (Nat.zero_le _) ⟨_, Heap.get?_push_size _ rfl, rfl, rfl⟩ (hal.push _) ⟨oD, e₂₄ _ _ hoD, rD⟩ (hn₂.keeps e₂₄) hbound ?_
      intro h' tk' m' hD' hn' hm' hk'
      refine wpAny_pure ⟨rfl, ?_⟩
      have kk : ∀ b o, b ≠ C → b ≠ D → h₃.get? b = some o → h'.get? b = some o := fun b o h1 h2 e => hk' b o h1 (nJ e) h2 (e₄ b o e)
      have k23 : ∀ b o, b ≠ C → b ≠ D → h₂.get? b = some o → h'.get? b = some o := fun b o h1 h2 e => kk b o h1 h2 (e₃ b o e)
      have t₃ : TupK h₃ h' := tupK_of (C := C) (D := D) (J := I) ⟨oC, eC, nC, e₃ _ _ hoC, rC⟩ ⟨oD, e₃ _ _ hoD, rD⟩ ⟨oI, e₃ _ _ hoI, rI⟩ fun b o h1 _ h3 e => kk b o h1 h3 e
      refine ih (i + 1) h' tk' m' _ (by omega) hlt ⟨oI, k23 _ _ hIC (Ne.symm hDI) hoI, rI⟩ ⟨oX, k23 _ _ haC haD hoX, rX⟩ hD' hn' ?_ fun b o h1 h2 h3 e => k23 b o h1 h3 (k₂ b o h1 h2 h3 (hkeep b o h1 h2 h3 e))
      rw [hrange]
      have : (acc ++ (vs.drop 0).toArray).toList = acc.toList ++ vs := by simp
      rw [this]
      exact Paired.app (Paired.mono' (fun v z q => hF _ _ _ _ ((t₂.trans (Ext.tupK e₃)).trans t₃) q) hp) (Paired.mono' (fun v z q => hF _ _ _ _ t₃ q) hpa)
    exact compStart_in loop (wpAny_pyIter_listiter ⟨_, Heap.get?_push_size _ rfl, rfl, rfl⟩ loop)
end
end Mine
end
section
open PySem PySem.W PyProof.Rows
set_option linter.unusedVariables false
set_option maxRecDepth 100000
set_option maxHeartbeats 1000000
namespace Mine
theorem tupK_same {h h' : Heap} {C : Addr} {m : PySem.Str → Option Value} (hC : h.Ns C m) (hs : Heap.SameBut C h h') : TupK h h' := fun b o hn hc e => hs.extBut b o (fun z => by
  obtain ⟨o', ho', hn'⟩ := ns_dict hC
  rw [z, ho'] at e; cases e; exact hn' hn) e
section
variable {prog : Program} {w : World} {A : Around} {env : Env} {iter iter' : Expr} {scope : Scope} {cl : List (PySem.Str × Addr)} {pos px py py' spos pz : Pos} {x y z : PySem.Str} {α : Type} {F : Heap → Value → α → Prop} {f : List Value → Nat → List α}
theorem wpAny_Assign_nest {s : Shared} {Q : Flow → Shared → Prop} {E : Value → Shared → Prop}
    (hsw : swapsWith (.ListComp (.Name y py') [⟨.Name x px, iter, [], 0⟩, ⟨.Name y py, iter', [], 0⟩] scope pos) (some (.Name z pz)) spos.line env = pure true)
    (hclos : closureFor scope env = pure cl) (hcell : ∀ y ∈ scope.names, y.2 ≠ .cell) (hkind : scope.kind = .function)
    (hnames : ∀ y ∈ scope.names, y.2 = .local → scope.names.lookup y.1 = some .local) (hx : scope.names.lookup x = some .local) (hy : scope.names.lookup y = some .local) (hdb : (y == ("__debug__" : PySem.Str)) = false) (hxy : x ≠ y) (hh : A.handled = none)
    (hz : env.kindOf z = some .local) (hp : (env.scope.kind == .class || (env.scope.kind == .module && env.locals != env.globals)) = false) (hF : ∀ h h' v z, TupK h h' → F h v z → F h' v z) (hfs : ∀ C v, foldedSetIterable iter' (compEnvC scope cl C env) v = pure v)
    (h : wpAny (model prog w) A (eval iter env) (fun xv s₁ => wpAny (model prog w) A (pyIter xv) (fun it s₂ => ∃ I ax us m, it = .ref I ∧ s₂.heap.IsListIter I ax 0 ∧ s₂.heap.IsList ax us.toArray ∧ env.locals ≠ I ∧ s₂.heap.Ns env.locals m ∧
      ((List.range us.length).flatMap (f us)).length ≤ sizeLine ∧
      (∀ C i v (s' : Shared) m' (Q' : Value → Shared → Prop) (E' : Value → Shared → Prop), s₂.heap.objs.size ≤ C → us[i]? = some v → (∀ b o, b ≠ I → s₂.heap.get? b = some o → s'.heap.get? b = some o) → s'.heap.Ns C m' → m' x = some v →
        (∀ a vs h' tk, s'.heap.get? a = none → h'.IsList a vs.toArray → Paired (F h') vs (f us i) → Ext s'.heap h' → Q' (.ref a) { s' with heap := h', toks := tk }) → wpAny (model prog w) A (eval iter' (compEnvC scope cl C env)) Q' E' s') ∧
      (∀ D h' tk acc, s₂.heap.get? D = none → h'.IsList D acc → Paired (F h') acc.toList ((List.range us.length).flatMap (f us)) → h'.Ns env.locals (fun n => if n = z then some (.ref D) else m n) → (∀ b o, b ≠ env.locals → b ≠ I → s₂.heap.get? b = some o → h'.get? b = some o) → Q .next { s₂ with heap := h', toks := tk })) E s₁) E s)
    (hs : ∀ x, foldedSetIterable iter env x = pure x) :
    wpAny (model prog w) A (exec (.Assign [.Name z pz] (.ListComp (.Name y py') [⟨.Name x px, iter, [], 0⟩, ⟨.Name y py, iter', [], 0⟩] scope pos) spos) env) Q E s := by
  rw [exec_Assign_Name_used _ _ _ _ hsw]
  refine wpAny_bind (wpAny_standAt (wpAny_bind ?_))
  show wpAny _ A (do let _ ← comprehension (.ListComp (.Name y py') [⟨.Name x px, iter, [], 0⟩, ⟨.Name y py, iter', [], 0⟩] scope pos) scope env _ (newList []) false (eval iter env) (some (assign (.Name z pz) env))) _ _ s
  refine wpAny_bind (wpAny_mono (wpAny_comprehension_free (use := some (assign (.Name z pz) env)) (Q := fun _ s' => Q .next s') rfl hs hclos hkind hnames
    (wpAny_mono h (fun xv s₁ h₁ => wpAny_mono h₁ (fun it s₂ h₂ => ?_) fun _ _ e => e) fun _ _ e => e)) (fun _ s' hq => wpAny_pure (wpAny_pure hq)) fun _ _ e => e)
  obtain ⟨I, ax, us, m, rfl, hit, hl, hLI, hn, hsz, hev, hQ⟩ := h₂
  refine wpAny_newObj_type (wpAny_newFunctionEnv hcell (by intro y hy; simp at hy) (fun h₁ hns₁ hsb₁ => ?_) hkind)
  dsimp only at hns₁ hsb₁ ⊢
  generalize hH2 : s₂.heap.push { cls := .type "list", dict := none, data := .seq ([] : List Value).toArray } = H2 at hns₁ hsb₁ ⊢
  have hC : H2.objs.size = s₂.heap.objs.size + 1 := by rw [← hH2, Heap.size_push]
  have hDC : s₂.heap.objs.size ≠ H2.objs.size := by rw [hC]; exact Nat.ne_of_lt (Nat.lt_succ_self _)
  have hCle : s₂.heap.objs.size ≤ H2.objs.size := by rw [hC]; exact Nat.le_succ _
  have below : ∀ b, b < s₂.heap.objs.size → b ≠ H2.objs.size ∧ b ≠ s₂.heap.objs.size := fun b hb => ⟨by rw [hC]; exact Nat.ne_of_lt (Nat.lt_succ_of_lt hb), Nat.ne_of_lt hb⟩
  have old : ∀ b o, s₂.heap.get? b = some o → h₁.get? b = some o := fun b o e => hsb₁.extBut b o (below b (Heap.lt_size e)).1 (Heap.get?_push_of_some _ (hH2 ▸ Heap.get?_push_of_some _ e))
  have hacc : h₁.IsList s₂.heap.objs.size #[] := ⟨_, hsb₁.extBut _ _ hDC (Heap.get?_push_of_some _ (hH2 ▸ Heap.get?_push_size _ rfl)), rfl, _, rfl⟩
  have fresh : ∀ a, s₂.heap.objs.size ≤ a → s₂.heap.get? a = none := fun a ha => by
    cases e : s₂.heap.get? a with
    | none => rfl
    | some o' => exact absurd (Heap.lt_size e) (Nat.not_lt.mpr ha)
  have lI : I < s₂.heap.objs.size := by obtain ⟨o, ho, _⟩ := hit; exact Heap.lt_size ho
  have lx : ax < s₂.heap.objs.size := by obtain ⟨o, ho, _⟩ := hl; exact Heap.lt_size ho
  have haI : ax ≠ I := fun q => by
    obtain ⟨o, ho, hc, _⟩ := hl
    obtain ⟨o', ho', hc', _⟩ := hit
    rw [q, ho'] at ho; cases ho; rw [hc'] at hc; exact absurd hc (by decide)
  have loop : ∀ s₃ : Shared, s₃ = { s₂ with heap := h₁, toks := s₂.toks + ([] : List (PySem.Str × Value)).length } →
      codeAny (model prog w) A (.compLoop (.ListComp (.Name y py') [⟨.Name x px, iter, [], 0⟩, ⟨.Name y py, iter', [], 0⟩] scope pos) 0 (.ref I) (.ref s₂.heap.objs.size) (compEnvC scope cl H2.objs.size env))
        (compPost (model prog w) A E (some (assign (.Name z pz) env)) (fun _ s' => Q .next s') (.ref s₂.heap.objs.size) H2.objs.size) s₃ := by
    rintro s₃ rfl
    refine outer_loop (cenv := compEnvC scope cl H2.objs.size env) (x := x) (y := y) (C := H2.objs.size) (D := s₂.heap.objs.size) (I := I) (ax := ax) (us := us) (F := F) (f := f us) { s₂ with heap := h₁, toks := s₂.toks + ([] : List (PySem.Str × Value)).length } rfl hkind (lookup_relabel_local hx) (lookup_relabel_local hy) hdb hxy hh (below I lI).1 hDC (Ne.symm (below I lI).2) haI (below ax lx).1 (below ax lx).2 hF (hfs _) hsz ?_ ?_
      us.length 0 h₁ _ _ #[] rfl (Nat.zero_le _) (by obtain ⟨o, ho, q⟩ := hit; exact ⟨o, old _ _ ho, q⟩) (by obtain ⟨o, ho, q⟩ := hl; exact ⟨o, old _ _ ho, q⟩) hacc hns₁ .nil fun b o _ _ _ e => e
    · intro i v s' m' Q' E' hv hk hns hm hQ'
      exact hev H2.objs.size i v s' m' Q' E' hCle hv (fun b o hb e => hk b o (below b (Heap.lt_size e)).1 hb (below b (Heap.lt_size e)).2 (old b o e)) hns hm hQ'
    · intro h' tk m' acc hD hpa hnC hk
      have hk' : ∀ b o, b ≠ I → s₂.heap.get? b = some o → h'.get? b = some o := fun b o hb e => hk b o (below b (Heap.lt_size e)).1 hb (below b (Heap.lt_size e)).2 (old b o e)
      have lL : env.locals < s₂.heap.objs.size := hn.lt
      have hLC := (below _ lL).1
      have hLD := (below _ lL).2
      have hnL : h'.Ns env.locals m := hn.at' fun o e => hk' _ o hLI e
      show wpAny _ A (assign (.Name z pz) env (.ref s₂.heap.objs.size)) _ _ _
      refine wpAny_assign_Name (wpAny_storeName_local hz hnL (fun h₂ hn₂ hs₂ => ?_) hp)
      have hnC₂ := hnC.sameBut hs₂ (Ne.symm hLC)
      refine ⟨m', hnC₂, fun h₃ hs₃ => ?_⟩
      exact hQ s₂.heap.objs.size h₃ _ acc (fresh _ (Nat.le_refl _)) ((hD.extBut hs₂.extBut (Ne.symm hLD)).extBut hs₃.extBut hDC) (Paired.mono' (fun v q r => hF _ _ _ _ ((tupK_same hnL hs₂).trans (tupK_same hnC₂ hs₃)) r) hpa) (hn₂.sameBut hs₃ hLC) fun b o hbL hbI e =>
        hs₃.extBut b o (below b (Heap.lt_size e)).1 (hs₂.extBut b o hbL (hk' b o hbI e))
  exact codeAny_compStart_list (loop _ rfl) (wpAny_pyIter_listiter (i := 0) (l := ax) (by obtain ⟨o, ho, q⟩ := hit; exact ⟨o, old _ _ ho, q⟩) (loop _ rfl))
end
end Mine
end
section
open PySem PySem.W PyProof.Rows
set_option linter.unusedVariables false
set_option maxRecDepth 100000
set_option maxHeartbeats 1000000
namespace Mine
section
variable {c : Cx} {env : Env} {scope : Scope} {cl : List (PySem.Str × Addr)} {iter iter' : Expr} {pos px py py' spos pz : Pos} {x y z : PySem.Str} {α : Type} {F : Heap → Value → α → Prop} {f : List Value → Nat → List α}
  {hh : Heap} {gs : Array GenState} {dr : Drawn} {tk₀ : Nat} {os : OsState} {Q : Flow → Shared → Prop} {E : Value → Shared → Prop}
theorem sNest {rest : List Stmt} {Rr : List Value → Prop} (k : c.ok hh) (hA : c.A.handled = none) (ok : CompOk scope env cl x) (hy : scope.names.lookup y = some .local) (hxy : x ≠ y) (hF : ∀ h h' v z, TupK h h' → F h v z → F h' v z)
    (hsrc : EvF c (fun _ => True) (eval iter env) (fun v h => ∃ a us, v = .ref a ∧ h.IsList a us.toArray ∧ Rr us)) (hsz : ∀ us, Rr us → ((List.range us.length).flatMap (f us)).length ≤ sizeLine)
    (hb : ∀ h₁ us g C m' i v hh', Ext hh h₁ → c.ok h₁ → Rr us → (∀ b o, h₁.get? b = some o → g.get? b = some o) → us[i]? = some v → m' x = some v → EvF (c.c2 C m' g) (fun h => h = hh') (eval iter' (compEnvC scope cl C env)) (fun v h => ∃ a vs, v = .ref a ∧ hh'.get? a = none ∧ h.IsList a vs.toArray ∧ Paired (F h) vs (f us i)))
    (h : ∀ (D : Addr) (acc : Array Value) (us : List Value) (h' : Heap) (tk : Nat), Rr us → h'.IsList D acc → Paired (F h') acc.toList ((List.range us.length).flatMap (f us)) → ExtD hh h' → (c.at (upd c.m z (.ref D))).ok h' → wpAny (model c.prog c.w) c.A (execs rest env) Q E ⟨h', gs, dr, tk, os⟩)
    (hdb : (y == ("__debug__" : PySem.Str)) = false := by decide)
    (hL : env.locals = c.L := by rfl) (hlz : env.kindOf z = some .local := by rfl) (hp : (env.scope.kind == .class || (env.scope.kind == .module && env.locals != env.globals)) = false := by rfl)
    (hsw : swapsWith (.ListComp (.Name y py') [⟨.Name x px, iter, [], 0⟩, ⟨.Name y py, iter', [], 0⟩] scope pos) (some (.Name z pz)) spos.line env = pure true := by rfl) (hf : ∀ x, foldedSetIterable iter env x = pure x := by intro _; rfl)
    (hfs : ∀ C v, foldedSetIterable iter' (compEnvC scope cl C env) v = pure v := by intros; rfl) :
    wpAny (model c.prog c.w) c.A (execs (.Assign [.Name z pz] (.ListComp (.Name y py') [⟨.Name x px, iter, [], 0⟩, ⟨.Name y py, iter', [], 0⟩] scope pos) spos :: rest) env) Q E ⟨hh, gs, dr, tk₀, os⟩ := by
  refine wpAny_execs_cons (wpAny_Assign_nest (F := F) (f := f) hsw ok.clos ok.cell' ok.kind ok.names' ok.x hy hdb hxy hA hlz hp hF hfs ?_ hf)
  refine hsrc ⟨hh, gs, dr, tk₀, os⟩ _ E k trivial fun v h₁ tk ⟨a, us, q, l, r⟩ e₁ => ?_
  subst q
  refine wpAny_pyIter_list l ?_
  have k₁ := k.ext e₁
  have fre : h₁.get? h₁.objs.size = none := fresh_size
  have nI : ∀ {b o}, h₁.get? b = some o → b ≠ h₁.objs.size := fun e q => by rw [q, fre] at e; cases e
  have e₂ : Ext h₁ (h₁.push { cls := .type "list_iterator", data := .fields #[.ref a, .int 0 0] }) := Ext.push _
  have hLI : env.locals ≠ h₁.objs.size := by
    rw [hL]
    obtain ⟨o, _, _, ho, _⟩ := k₁.fr.ns
    exact nI ho
  refine ⟨h₁.objs.size, a, us, c.m, rfl, ⟨_, Heap.get?_push_size _ rfl, rfl, rfl⟩, l.push _, hLI, hL ▸ k₁.fr.ns.keeps e₂, hsz us r, ?_, ?_⟩
  · intro C i v s' m' Q' E' hC hv hk hns hm hQ'
    have eg : ∀ b o, h₁.get? b = some o → (hideAll (h₁.push { cls := .type "list_iterator", data := .fields #[.ref a, .int 0 0] }) [h₁.objs.size]).get? b = some o := fun b o q => hideAll_get _ (e₂ b o q) (by simpa using nI q)
    have kc : (c.c2 C m' (hideAll (h₁.push { cls := .type "list_iterator", data := .fields #[.ref a, .int 0 0] }) [h₁.objs.size])).ok s'.heap := by
      have kp : ∀ b o, (hideAll (h₁.push { cls := .type "list_iterator", data := .fields #[.ref a, .int 0 0] }) [h₁.objs.size]).get? b = some o → s'.heap.get? b = some o := fun b o q => hk b o (fun y => by
        rw [hideAll_none _ (by simpa using y)] at q; cases q) (of_hideAll _ q)
      refine ⟨⟨hns, kp, ?_⟩, fun b o q _ => kp b o q, fun _ hp => nomatch hp⟩
      show (hideAll _ [h₁.objs.size]).objs.size ≤ C
      rw [hideAll_size]; exact hC
    refine hb h₁ us _ C m' i v s'.heap e₁ k₁ r eg hv hm s' Q' E' kc rfl fun v' h' tk' ⟨a', vs, q, hfr, hl', hpd⟩ e => ?_
    subst q
    exact hQ' a' vs h' tk' hfr hl' hpd e
  · intro D h' tk' acc hD hlD hpd hns hk
    rw [hL] at hns hk
    have kb : ∀ b o, b ≠ c.L → h₁.get? b = some o → h'.get? b = some o := fun b o hb q => hk b o hb (nI q) (e₂ b o q)
    have ndL : ∀ b o, h₁.get? b = some o → nd o → b ≠ c.L := fun b o q nz r => by
      obtain ⟨o', ho', hn'⟩ := ns_dict k₁.fr.ns
      rw [r, ho'] at q; cases q; exact hn' nz
    refine h D acc us h' tk' r hlD hpd (fun b o q nz => kb b o (ndL b o (e₁ b o q) nz) (e₁ b o q)) ⟨⟨hns, fun b o q => kb b o (fun r => ?_) (k₁.base b o q), k.fr.above⟩, fun b o q nz => kb b o (ndL b o (k₁.back b o q nz) nz) (k₁.back b o q nz), fun q hq => ?_⟩
    · have h1 := Heap.lt_size q
      rw [r] at h1
      exact absurd (Nat.lt_of_lt_of_le h1 k.fr.above) (Nat.lt_irrefl _)
    · have := k₁.own q hq
      exact ⟨kb _ _ this.2.1 this.1, this.2⟩
end
end Mine
end
section
open PySem PySem.W PyProof.Rows
set_option linter.unusedVariables false
set_option maxRecDepth 100000
namespace Mine
noncomputable def Gt : Tk → Prop | .ch c => plainSign c = true | .hx n => n < 256
theorem plain_lt {c : Nat} (h : plainSign c = true) : c < 127 := by
  unfold plainSign at h
  simp at h
  omega
theorem plain_all : ((List.range 127).all fun c => !plainSign c || (!Unicode.isLineBreak c && c != 61 && c != 10 && c != 13 && (blank c || !Unicode.isSpace c))) = true := by decide +kernel
theorem plain_facts {c : Nat} (h : plainSign c = true) : Unicode.isLineBreak c = false ∧ c ≠ 61 ∧ c ≠ 10 ∧ c ≠ 13 ∧ (blank c = false → Unicode.isSpace c = false) := by
  have := List.all_eq_true.mp plain_all c (List.mem_range.mpr (plain_lt h))
  rw [h] at this
  simp at this
  obtain ⟨⟨⟨⟨a, b⟩, c'⟩, d⟩, e⟩ := this
  refine ⟨a, b, c', d, fun z => ?_⟩
  rcases e with e | e
  · rw [z] at e; cases e
  · exact e
theorem dig_facts : ∀ d, d < 16 → Unicode.isLineBreak (dig d) = false ∧ Unicode.isSpace (dig d) = false ∧ dig d ≠ 10 ∧ dig d ≠ 13 := by decide +kernel
theorem gt_tok {c : Nat} (h : c < 256) : Gt (tok c) := by
  unfold tok
  split
  · assumption
  · exact h
theorem gt_ok {t : Tk} (h : Gt t) : t.ok := by
  cases t with
  | ch c => exact (plain_facts h).2.1
  | hx n => exact h
theorem gt_txt {t : Tk} (h : Gt t) : ∀ x ∈ t.txt, Unicode.isLineBreak x = false ∧ x ≠ 10 ∧ x ≠ 13 := by
  cases t with
  | ch c =>
    intro x hx
    have : x = c := by simpa [Tk.txt] using hx
    subst this
    have := plain_facts h
    exact ⟨this.1, this.2.2.1, this.2.2.2.1⟩
  | hx n =>
    intro x hx
    have hn : n < 256 := h
    have h1 := dig_facts (n / 16) (by omega)
    have h2 := dig_facts (n % 16) (by omega)
    simp only [Tk.txt, List.mem_cons, List.not_mem_nil, or_false] at hx
    rcases hx with rfl | rfl | rfl
    · exact ⟨by decide +kernel, by decide, by decide⟩
    · exact ⟨h1.1, h1.2.2⟩
    · exact ⟨h2.1, h2.2.2⟩
structure LnG (l : Ln) : Prop where
  toks : ∀ t ∈ l.toks, Gt t
  last : l.soft = false → ∀ c, l.toks.getLast? = some (.ch c) → blank c = false
theorem LnG.nb {l : Ln} (h : LnG l) : ∀ x ∈ l.txt, Unicode.isLineBreak x = false ∧ x ≠ 10 ∧ x ≠ 13 := by
  intro x hx
  unfold Ln.txt at hx
  rcases List.mem_append.mp hx with hx | hx
  · obtain ⟨t, ht, hx⟩ := List.mem_flatMap.mp hx
    exact gt_txt (h.toks t ht) x hx
  · split at hx
    · have : x = 61 := by simpa using hx
      subst this
      exact ⟨by decide +kernel, by decide, by decide⟩
    · cases hx
theorem LnG.ok {l : Ln} (h : LnG l) : l.ok where
  toks := fun t ht => gt_ok (h.toks t ht)
  brk := fun x hx => (h.nb x hx).1
  last := by
    intro x hx
    unfold Ln.txt at hx
    cases hs : l.soft with
    | true =>
      rw [hs] at hx
      simp at hx
      subst hx; decide +kernel
    | false =>
      rw [hs] at hx
      simp only [Bool.false_eq_true, if_false, List.append_nil] at hx
      rcases List.eq_nil_or_concat l.toks with e | ⟨a, t, e⟩
      · rw [e] at hx; cases hx
      · rw [List.concat_eq_append] at e
        have hm : t ∈ l.toks := by rw [e]; simp
        have hg := h.toks t hm
        rw [e, txts_append] at hx
        cases t with
        | ch c =>
          have hb := h.last hs c (by rw [e]; simp)
          have : (txts a ++ txts [Tk.ch c]).getLast? = some c := by simp [Tk.txt]
          rw [this] at hx
          rw [← Option.some.inj hx]
          exact (plain_facts hg).2.2.2.2 hb
        | hx n =>
          have : (txts a ++ txts [Tk.hx n]).getLast? = some (dig (n % 16)) := by simp [Tk.txt]
          rw [this] at hx
          rw [← Option.some.inj hx]
          exact (dig_facts (n % 16) (by omega)).2.1
theorem close_good {ts : List Tk} (h : ∀ t ∈ ts, Gt t) : LnG ⟨closeT ts, false⟩ := by
  rcases List.eq_nil_or_concat ts with e | ⟨a, t, e⟩
  · subst e
    exact ⟨fun t ht => (nomatch ht), fun _ c hc => by simp [closeT_nil] at hc⟩
  · rw [List.concat_eq_append] at e
    subst e
    cases t with
    | ch c =>
      cases hb : blank c with
      | true =>
        rw [closeT_blank hb]
        refine ⟨fun t ht => ?_, fun _ c' hc => by simp at hc⟩
        rcases List.mem_append.mp ht with ht | ht
        · exact h t (List.mem_append_left _ ht)
        · have : t = .hx c := by simpa using ht
          subst this
          have := plain_lt (h (.ch c) (by simp))
          show c < 256
          omega
      | false =>
        rw [closeT_other (fun c' hc => by simp at hc; rw [← hc]; exact hb)]
        exact ⟨h, fun _ c' hc => by simp at hc; rw [← hc]; exact hb⟩
    | hx n =>
      rw [closeT_other (fun c' hc => by simp at hc)]
      exact ⟨h, fun _ c' hc => by simp at hc⟩
theorem lns_good {n : Nat} (hn : 4 ≤ n) : ∀ (k : Nat) (ts : List Tk), ts.length ≤ k → (∀ t ∈ ts, Gt t) → (∀ l ∈ lns n ts, LnG l) ∧ (lns n ts).flatMap Ln.val = vals ts ++ [10] := by
  intro k
  induction k with
  | zero =>
    intro ts hk hg
    have : ts = [] := List.length_eq_zero_iff.mp (by omega)
    subst this
    rw [lns_nil]
    refine ⟨fun l hl => ?_, by simp [Ln.val]⟩
    have : l = ⟨[], false⟩ := by simpa using hl
    subst this
    exact ⟨fun t ht => (nomatch ht), fun _ c hc => by simp at hc⟩
  | succ k ih =>
    intro ts hk hg
    by_cases hlt : n < (txts (closeT ts)).length
    · have hne : ts ≠ [] := by rintro rfl; simp [closeT_nil] at hlt
      have hsh := cut_shorter (r := n - 1) (ts := ts) (by omega) hne
      have happ := cut_app (n - 1) ts
      rw [lns_soft hn hlt]
      have hg1 : ∀ t ∈ (cut (n - 1) ts).1, Gt t := fun t ht => hg t (by rw [← happ]; exact List.mem_append_left _ ht)
      have hg2 : ∀ t ∈ (cut (n - 1) ts).2, Gt t := fun t ht => hg t (by rw [← happ]; exact List.mem_append_right _ ht)
      obtain ⟨i1, i2⟩ := ih (cut (n - 1) ts).2 (by omega) hg2
      refine ⟨fun l hl => ?_, ?_⟩
      · rcases List.mem_cons.mp hl with rfl | hl
        · exact ⟨hg1, fun z => by cases z⟩
        · exact i1 l hl
      · rw [List.flatMap_cons, i2]
        conv => rhs; rw [← happ]
        simp [Ln.val, vals]
    · rw [lns_hard (by omega)]
      refine ⟨fun l hl => ?_, by simp [Ln.val, vals_close]⟩
      have : l = ⟨closeT ts, false⟩ := by simpa using hl
      subst this
      exact close_good hg
theorem row_gt {r : List Nat} (h : ∀ c ∈ r, c < 256) : ∀ t ∈ r.map tok, Gt t := by
  intro t ht
  obtain ⟨c, hc, rfl⟩ := List.mem_map.mp ht
  exact gt_tok (h c hc)
theorem lnsOf_good {n : Nat} {r : List Nat} (hn : 4 ≤ n) (h : ∀ c ∈ r, c < 256) : ∀ l ∈ lnsOf n r, LnG l := (lns_good hn _ (r.map tok) (Nat.le_refl _) (row_gt h)).1
theorem lnsOf_val {n : Nat} {r : List Nat} (hn : 4 ≤ n) (h : ∀ c ∈ r, c < 256) : (lnsOf n r).flatMap Ln.val = r ++ [10] := by
  have := (lns_good hn _ (r.map tok) (Nat.le_refl _) (row_gt h)).2
  rw [vals_tok] at this
  exact this
/-! what restore picks -/
noncomputable def dropLn (l : Ln) : Ln := ⟨l.toks.drop 2, l.soft⟩
theorem pick_shape {tag : List Nat} (ht : tag = [45, 32] ∨ tag = [43, 32]) {l : Ln} (h : pickL tag l.txt = true) : ∃ a rest, l.toks = .ch a :: .ch 32 :: rest := by
  have key : ∃ a, a ≠ 61 ∧ l.txt.take 2 = [a, 32] := by
    unfold pickL at h
    rcases Bool.or_eq_true_iff.mp h with h | h
    · exact ⟨32, by decide, eq_of_beq h⟩
    · have := eq_of_beq h
      rcases ht with rfl | rfl
      · exact ⟨45, by decide, this⟩
      · exact ⟨43, by decide, this⟩
  obtain ⟨a, ha, h⟩ := key
  obtain ⟨toks, soft⟩ := l
  unfold Ln.txt at h
  cases toks with
  | nil => cases soft <;> simp at h
  | cons t ts =>
    cases t with
    | hx n => simp [Tk.txt] at h; exact absurd h.1.symm ha
    | ch c =>
      cases ts with
      | nil => cases soft <;> simp [Tk.txt] at h
      | cons t' ts =>
        cases t' with
        | hx n => simp [Tk.txt] at h
        | ch c' =>
          simp [Tk.txt] at h
          exact ⟨c, ts, by rw [h.2]⟩
theorem drop_facts {tag : List Nat} (ht : tag = [45, 32] ∨ tag = [43, 32]) {l : Ln} (g : LnG l) (h : pickL tag l.txt = true) :
    LnG (dropLn l) ∧ (dropLn l).txt = l.txt.drop 2 ∧ (dropLn l).val = (vals l.toks).drop 2 ++ (if l.soft then [] else [10]) := by
  obtain ⟨a, rest, e⟩ := pick_shape ht h
  obtain ⟨toks, soft⟩ := l
  dsimp only at e
  subst e
  refine ⟨⟨fun t ht => g.toks t (by simp [dropLn] at ht; simp [ht]), fun hs c hc => g.last hs c ?_⟩, by simp [dropLn, Ln.txt, Tk.txt], by simp [dropLn, Ln.val]⟩
  have hc' : rest.getLast? = some (.ch c) := hc
  cases rest with
  | nil => cases hc'
  | cons t r => simpa [List.getLast?_cons] using hc'
theorem nopick_nil {tag : List Nat} (ht : tag = [45, 32] ∨ tag = [43, 32]) : pickL tag [] = false := by
  rcases ht with rfl | rfl <;> rfl
theorem outs_told {tag : List Nat} (ht : tag = [45, 32] ∨ tag = [43, 32]) (ls : List Ln) : outsOf tag (ls.map Ln.txt ++ [[]]) = (ls.filter fun l => pickL tag l.txt).map fun l => l.txt.drop 2 := by
  unfold outsOf
  rw [List.filter_append, List.filter_cons, nopick_nil ht]
  simp [List.filter_map, Function.comp_def]
theorem picked_facts {tag : List Nat} (ht : tag = [45, 32] ∨ tag = [43, 32]) {ls : List Ln} (hg : ∀ l ∈ ls, LnG l) :
    ∃ ds : List Ln, (∀ l ∈ ds, l.ok) ∧ ds.map Ln.txt = (ls.filter fun l => pickL tag l.txt).map (fun l => l.txt.drop 2) ∧ ds.flatMap Ln.val = (ls.filter fun l => pickL tag l.txt).flatMap fun l => (vals l.toks).drop 2 ++ (if l.soft then [] else [10]) := by
  refine ⟨(ls.filter fun l => pickL tag l.txt).map dropLn, ?_, ?_, ?_⟩
  · intro l hl
    obtain ⟨l', hl', rfl⟩ := List.mem_map.mp hl
    obtain ⟨h1, h2⟩ := List.mem_filter.mp hl'
    exact (drop_facts ht (hg l' h1) h2).1.ok
  · rw [List.map_map]
    refine List.map_congr_left fun l hl => ?_
    obtain ⟨h1, h2⟩ := List.mem_filter.mp hl
    exact (drop_facts ht (hg l h1) h2).2.1
  · rw [List.flatMap_map, List.flatMap_def, List.flatMap_def]
    congr 1
    refine List.map_congr_left fun l hl => ?_
    obtain ⟨h1, h2⟩ := List.mem_filter.mp hl
    exact (drop_facts ht (hg l h1) h2).2.2
theorem pick_nl {tag : List Nat} (ht : tag = [45, 32] ∨ tag = [43, 32]) {r : List Nat} (hr : ∀ c ∈ r, c ≠ 10) : pickL tag (r ++ [10]) = pickL tag r := by
  match r with
  | [] => rcases ht with rfl | rfl <;> rfl
  | [a] => rcases ht with rfl | rfl <;> simp [pickL]
  | a :: b :: r => simp [pickL]
theorem outs_rows {tag : List Nat} (ht : tag = [45, 32] ∨ tag = [43, 32]) {rows : List (List Nat)} (hr : ∀ r ∈ rows, ∀ c ∈ r, c ≠ 10) : outsOf tag (rows.map (· ++ [10])) = (rows.filter (pickL tag)).map fun r => r.drop 2 ++ [10] := by
  induction rows with
  | nil => rfl
  | cons r rows ih =>
    have i := ih fun r' h' => hr r' (List.mem_cons_of_mem _ h')
    rw [List.map_cons, outs_cons, pick_nl ht (hr r (List.mem_cons_self ..)), i, List.filter_cons]
    cases hp : pickL tag r with
    | false => simp
    | true =>
      have hl : 2 ≤ r.length := pick_len (by rcases ht with rfl | rfl <;> rfl) hp
      simp [List.drop_append_of_le_length hl]
end Mine
end
section
open PySem PySem.W PyProof.Rows
set_option linter.unusedVariables false
set_option maxRecDepth 100000
set_option maxHeartbeats 1000000
namespace Mine
theorem entry_unchain : entryFor table "proto.unchain" = some Builtin.«proto.unchain» := entryFor_of_fast (by kernel_rfl)
section
variable {prog : Program} {w : World} {A : Around} {E : Value → Shared → Prop} {s : Shared} {env : Env}
theorem unchain_ends {e : Value} {k : Addr} {ok : Obj} {vs : Array Value} {Q : Value → Shared → Prop} (hk : s.heap.get? k = some ok) (hd : ok.data = .fields vs) (h2 : vs[2]? = some .none) (h : Q .none s) :
    wpAny (model prog w) A (runValue (.builtin "proto.unchain" ⟨[e, .ref k, .ref k, .bool false], []⟩)) Q E s := by
  refine wpAny_runValue (codeAny_builtin entry_unchain ?_)
  show wpAny _ _ (field (.ref k) 2 >>= _) _ _ s
  refine wpAny_bind (wpAny_field hk hd h2 ?_)
  rw [if_pos (by rfl)]
  exact wpAny_pure h
theorem raiseNew_in {α : Type} {e k : Addr} {ok oe : Obj} {vs ws : Array Value} {Q : α → Shared → Prop} (hh : A.handled = some (.ref k)) (hek : k ≠ e) (hk : s.heap.get? k = some ok) (hd : ok.data = .fields vs) (h2 : vs[2]? = some .none)
    (he : s.heap.get? e = some oe) (hde : oe.data = .fields ws) (hw : 2 < ws.size) (h : E (.ref e) { s with heap := s.heap.update e (Obj.mapFields (·.setIfInBounds 2 (.ref k))) }) : wpAny (model prog w) A (raiseNew (.ref e) : Sem α) Q E s := by
  unfold raiseNew
  refine wpAny_bind (wpAny_handled ?_)
  rw [hh]
  have hne : (Value.ref k != Value.ref e) = true := by simp [hek]
  simp only [hne, if_true]
  refine wpAny_bind (wpAny_holding (unchain_ends hk hd h2 ?_))
  refine wpAny_bind ?_
  exact wpAny_setField he hde hw (wpAny_throw h)
/-- raise e from None, while k is handled -/
theorem raise_from {cls : String} (F : ExcRaiseFacts cls) {x : Expr} {p pos : Pos} {k : Addr} {Q : Flow → Shared → Prop} (hh : A.handled = some (.ref k))
    (h : wpAny (model prog w) A (eval x env) (fun v s₁ => ∃ e t ok vs, v = .ref e ∧ s₁.heap.get? e = some { cls := .type cls, data := .fields #[.ref t, .none, .none, .none, .bool false, .none] } ∧ k ≠ e ∧ s₁.heap.get? k = some ok ∧ ok.data = .fields vs ∧ vs[2]? = some .none ∧
      ∀ h', (∀ b, b ≠ e → h'.get? b = s₁.heap.get? b) → h'.get? e = some { cls := .type cls, data := .fields #[.ref t, .none, .ref k, .none, .bool true, .none] } → E (.ref e) { s₁ with heap := h' }) E s) :
    wpAny (model prog w) A (exec (.Raise (some x) (some (.Constant .none 0 p)) pos) env) Q E s := by
  rw [arm_exec_Raise]
  show wpAny (model prog w) A (do standAt pos; raiseStmt env (some (do let v ← eval x env; standAt pos; pure v)) (some (do let v ← eval (.Constant .none 0 p) env; standAt pos; pure v))) Q E s
  refine wpAny_bind (wpAny_standAt ?_)
  unfold raiseStmt
  refine wpAny_bind (wpAny_bind (wpAny_mono h (fun v s₁ h₁ => wpAny_bind (wpAny_standAt (wpAny_pure ?_))) fun _ _ x => x))
  obtain ⟨e, t, ok, vs, rfl, he, hke, hk, hdk, h2, hE⟩ := h₁
  obtain ⟨hp, g, d, tk, os⟩ := s₁
  have hsub := F.isExc
  have hmeta := F.plainMeta
  dsimp only at he hk hE
  refine wpAny_bind (wpAny_holding ?_)
  repeat (first | refine wpAny_loadPart he ?_ | wp_step)
  have he₁ := Heap.get?_update_self (Obj.mapFields fun x => x.setIfInBounds 3 Value.none) he rfl
  have he₂ := Heap.get?_update_self (Obj.mapFields fun x => x.setIfInBounds 4 (Value.bool true)) he₁ rfl
  have hk₂ : ((hp.update e (Obj.mapFields fun x => x.setIfInBounds 3 Value.none)).update e (Obj.mapFields fun x => x.setIfInBounds 4 (Value.bool true))).get? k = some ok := by
    rw [Heap.get?_update_other _ _ (Ne.symm hke), Heap.get?_update_other _ _ (Ne.symm hke)]; exact hk
  refine raiseNew_in hh hke hk₂ hdk h2 he₂ rfl (by show 2 < 6; decide) ?_
  have he₃ := Heap.get?_update_self (Obj.mapFields fun x => x.setIfInBounds 2 (Value.ref k)) he₂ rfl
  refine hE _ (fun b hb => ?_) he₃
  rw [Heap.get?_update_other _ _ (Ne.symm hb), Heap.get?_update_other _ _ (Ne.symm hb), Heap.get?_update_other _ _ (Ne.symm hb)]
end
end Mine
end
section
open PySem PySem.W PyProof.Rows PySem.Calls PySem.NumText
set_option linter.unusedVariables false
set_option maxRecDepth 100000
set_option maxHeartbeats 1000000
namespace Mine
section
variable {prog : Program} {w : World} {A : Around} {E : Value → Shared → Prop} {s : Shared} {K : Type} [DecidableEq K] {knd : KeyKind prog w K} {k : K} {key : Value} {d : Addr}
theorem getItem_missing {f} {Q : Value → Shared → Prop} (hkey : knd.is k key = true) (hm : s.heap.MapOf knd d f) (hv : f k = none) (hd : (d == sysModules) = false) (hh : A.handled = none)
    (h : ∀ h' e tk, Heap.MadeExc s.heap h' e "KeyError" [key] → E (.ref e) { s with heap := h', toks := tk }) : wpAny (model prog w) A (getItem (.ref d) key) Q E s := by
  unfold getItem
  try with_reducible refine wpAny_holding ?_
  refine wpAny_bind (wpAny_sequenceKey hm.typeIs (by decide) ?_)
  refine wpAny_bind (wpAny_callSpecial?_slot (name := Str.ofString "__getitem__") hm.typeIs slot_dict_getitem
    (wpAny_call_entry slot_dict_getitem hm.typeIs entry_dict_getitem ?_ (args_dict_getitem _ _)))
  show wpAny _ _ (dictGet d key >>= _) _ _ s
  refine wpAny_bind (wpAny_dictGet_of hkey hm ?_)
  rw [hv]
  show wpAny _ _ (Builtin.Dict.missed d key >>= _) _ _ _
  refine wpAny_bind (wpAny_missed_other hd ?_)
  refine wpAny_bind (wpAny_typeOf (s := { s with toks := s.toks + 1 }) hm.typeIs ?_)
  show wpAny _ _ (if (Value.type "dict" != Value.type "dict") = true then _ else _) _ _ _
  rw [if_neg (by decide)]
  refine wpAny_bind (wpAny_rule ?_)
  show wpAny _ _ (newExc (.type "KeyError") [key] >>= fun e => raiseNew e) _ _ _
  exact wpAny_bind (wpAny_newExc_plain plainExc_KeyError (fun h' e hm => wpAny_raiseNew_none hh (h h' e _ hm)) (by show 1 ≤ sizeLine; decide))
end
section
variable {c : Cx} {env : Env}
theorem dict_two' {p1 p2 p3 p4 dp : Pos} {s : Shared} {Q : Value → Shared → Prop} {E : Value → Shared → Prop}
    (h : ∀ d t₁ t₂ h' tk, h'.DictOf (intKind c.prog c.w) d [(1, .str (S [45, 32]) t₁), (2, .str (S [43, 32]) t₂)] → Ext s.heap h' → s.heap.objs.size ≤ d → Q (.ref d) { s with heap := h', toks := tk }) :
    wpAny (model c.prog c.w) c.A (eval (tagD p1 p2 p3 p4 dp) env) Q E s := by
  refine wpAny_Dict_pairs (knd := intKind c.prog c.w) (pairs := [(eval (.Constant (.int 1) 0 p1) env, do let x ← eval (.Constant (.str "- ") 0 p3) env; standAt dp; pure x), (eval (.Constant (.int 2) 0 p2) env, do let x ← eval (.Constant (.str "+ ") 0 p4) env; standAt dp; pure x)]) rfl (by simp) (by simp) ?_
  refine evalPairs_cons (wpAny_Constant_int (wpAny_bind (Calls.Constant_str (wpAny_bind (wpAny_standAt (wpAny_pure ?_))))))
  refine evalPairs_cons (wpAny_Constant_int (wpAny_bind (Calls.Constant_str (wpAny_bind (wpAny_standAt (wpAny_pure ?_))))))
  refine evalPairs_nil ?_
  refine ⟨[(1, .str (S [45, 32]) _), (2, .str (S [43, 32]) _)], ⟨intKind_is _ _ _ _, rfl, intKind_is _ _ _ _, rfl, trivial⟩, Heap.DictOf.new _, fun h' hd hs => ?_⟩
  refine h _ _ _ h' _ hd (fun b o e => ?_) (Nat.le_refl _)
  exact hs.extBut b o (Nat.ne_of_lt (Heap.lt_size e)) (Heap.get?_push_of_some _ e)
theorem evTagMiss {p1 p2 p3 p4 dp pos : Pos} {slice : Expr} {n : Int} {s : Shared} {Q : Value → Shared → Prop} {E : Value → Shared → Prop} (hn : n ≠ 1 ∧ n ≠ 2) (k : c.ok s.heap) (hh : c.A.handled = none) (hM : 2 ≤ s.heap.objs.size) (hs : Ev c (eval slice env) (IsI n))
    (h : ∀ h₀ h' e u tk, Ext s.heap h₀ → Heap.MadeExc h₀ h' e "KeyError" [.int n u] → E (.ref e) { s with heap := h', toks := tk })
    (hq : ∀ a u, subscripted slice false (Value.ref a) (Value.int n u) = operate [Value.ref a, Value.int n u] (getItem (Value.ref a) (Value.int n u)) := by intros; rfl) :
    wpAny (model c.prog c.w) c.A (eval (.Subscript (tagD p1 p2 p3 p4 dp) slice pos) env) Q E s := by
  refine Subscript_ ?_
  refine dict_two' ?_
  intro d t₁ t₂ h₁ tk₁ hd e₁ hdn
  refine hs _ _ E (k.ext e₁) trivial ?_
  rintro v h₂ tk₂ ⟨u, rfl⟩ e₂
  have hd₂ : h₂.DictOf (intKind c.prog c.w) d [(1, .str (S [45, 32]) t₁), (2, .str (S [43, 32]) t₂)] := hd.keep e₂
  refine tail_any (s := { s with heap := h₂, toks := tk₂ }) hd₂.mapOf.typeIs slot_dict_getitem.lookup ?_ (hq _ _)
  have hds : (d == sysModules) = false := by
    have h2 : (2 : Nat) ≤ d := Nat.le_trans hM hdn
    have hs1 : sysModules = 1 := rfl
    rw [hs1]
    exact beq_eq_false_iff_ne.mpr (Nat.ne_of_gt h2)
  refine getItem_missing (intKind_is _ _ _ _) hd₂.mapOf ?_ hds hh fun h' e tk hm => h h₂ h' e u tk (e₁.trans e₂) hm
  show valueAt _ n = none
  have h1 : ¬ (1 : Int) = n := fun q => hn.1 q.symm
  have h2 : ¬ (2 : Int) = n := fun q => hn.2 q.symm
  simp [valueAt, h1, h2]
end
end Mine
end
section
open PySem PySem.W PyProof.Rows PySem.Calls PySem.NumText PySem.Builtin
set_option linter.unusedVariables false
set_option maxRecDepth 100000
set_option maxHeartbeats 1000000
namespace Mine
noncomputable def msgL : List Nat := [117, 110, 107, 110, 111, 119, 110, 32, 100, 101, 108, 116, 97, 32, 99, 104, 111, 105, 99, 101, 32, 40, 109, 117, 115, 116, 32, 98, 101, 32, 49, 32, 111, 114, 32, 50, 41, 58, 32]
section
variable {prog : Program} {w : World} {A : Around} {E : Value → Shared → Prop} {s : Shared} {t u : Tok}
theorem reprUnder_gives {b : Nat} {T id : String} {B : Builtin} {v : Value} {x : PySem.Str} {Q : Value → Shared → Prop} (hT : s.TypeIs v T) (slot : Slot T "__repr__" id)
    (entry : entryFor table id = some B) (args : argsOk id ⟨[v], []⟩) (g : Gives (B ⟨[v], []⟩) (.str x)) (hG : SlotG T (PySem.Str.ofString "__repr__") id) (htw : reprUnder? (.builtin id) = none) (h : Q (.str x s.toks) { s with toks := s.toks + 1 })
    (hv : [v].any Value.onHeap = false) (hx : x.length ≤ sizeLine) :
    wpAny (model prog w) A (pyReprObjUnder b v) Q E s := by
  unfold pyReprObjUnder pyReprObjBy
  simp only [cRoomFor, hv, Bool.false_eq_true, if_false, pure_bind]
  refine wpAny_bind (wpAny_specialOf (name := PySem.Str.ofString "__repr__") hT slot.lookup ?_)
  refine wpAny_bind (wpAny_callSpecialIfBoundBy?_slotG (name := PySem.Str.ofString "__repr__") hT hG ?_)
  simp only [htw]
  refine call_gives slot hT entry args g ⟨hx, ?_⟩
  exact wpAny_bind (wpAny_isInstance (T := "str") (b := true) rfl isSubtype_str_str (wpAny_pure h))
theorem reprUnder_int {b : Nat} {n : Int} {Q : Value → Shared → Prop} (ha : n.natAbs.log2 < 1920) (h : Q (.str (PySem.Str.ofString (toString n)) s.toks) { s with toks := s.toks + 1 }) : wpAny (model prog w) A (pyReprObjUnder b (.int n u)) Q E s :=
  reprUnder_gives (typeIs_int s n u) F.slot_int_repr F.entry_int_repr (F.args_int_repr_1 _) (gives_int_repr n u ha) F.slot_int_repr.toG rfl h rfl (int_text_fits ha)
theorem reprUnder_str {b : Nat} {x : PySem.Str} {Q : Value → Shared → Prop} (hsz : (reprText x).length ≤ sizeLine) (h : Q (.str (reprText x) s.toks) { s with toks := s.toks + 1 }) : wpAny (model prog w) A (pyReprObjUnder b (.str x u)) Q E s :=
  reprUnder_gives (typeIs_str s x u) F.slot_str_repr F.entry_str_repr (F.args_str_repr_1 _) (gives_str_repr x u) F.slot_str_repr.toG rfl h rfl hsz
theorem msg_int {n : Int} {r : PySem.Str} {T : PySem.Str} {Q : Value → Shared → Prop} (ha : n.natAbs.log2 < 1920) (hr : PySem.Str.ofString (toString n) = r) (hl : r.length ≤ 100) (hT : PySem.Str.ofString "unknown delta choice (must be 1 or 2): " ++ r = T)
    (h : ∀ t' k, Q (.str T t') { s with toks := k }) : wpAny (model prog w) A (binaryOp .Mod (.str (PySem.Str.ofString "unknown delta choice (must be 1 or 2): %r") t) (.int n u)) Q E s := by
  refine' KPc.mod_lit (X' := ⟨#[117, 110, 107, 110, 111, 119, 110, 32, 100, 101, 108, 116, 97, 32, 99, 104, 111, 105, 99, 101, 32, 40, 109, 117, 115, 116, 32, 98, 101, 32, 49, 32, 111, 114, 32, 50, 41, 58, 32, 37, 114]⟩) (by decide +kernel) ha ?_ h
  intros
  apply KPc.meets_of
  intro _ _ _ _ _ _ _
  rw [KPc.entry_is]
  unfold Builtin.Str.percentFormat
  refine wpAny_bind (wpAny_isInstance (typeIs_int _ _ _) F.sub_int_tuple ?_)
  refine wpAny_bind (wpAny_of_eq (a := none) rfl ?_)
  refine wpAny_bind (wpAny_of_eq (KPc.fills _ _) ?_)
  kpc_if
  refine wpAny_bind (wpAny_pure ?_)
  refine wpAny_bind ?_
  rw [KPc.range_list]
  refine KPc.start ?_
  intro _ _
  refine KPc.turn ?_
  kpc_check
  repeat kpc_if
  refine wpAny_pure ?_
  kpc_piece
  refine KPc.turn ?_
  kpc_check
  repeat kpc_if
  refine wpAny_bind ?_; refine wpAny_holding ?_; (repeat kpc_if)
  refine wpAny_bind (reprUnder_int ha ?_)
  rw [hr]
  refine wpAny_bind (wpAny_of_eq (a := some _) rfl ?_)
  refine wpAny_pure ?_
  refine wpAny_pure ?_
  refine KPc.after_str (by kpc_g) hl (by kpc_obj) ?_
  intro _ _
  refine KPc.turn ?_
  kpc_check
  repeat kpc_if
  refine wpAny_pure ?_
  kpc_if
  refine KPc.finish_ok (by kpc_g) (by decide +kernel) hT ?_
  assumption
theorem fmt_eq : PySem.Str.ofString "unknown delta choice (must be 1 or 2): %r" = ⟨#[117, 110, 107, 110, 111, 119, 110, 32, 100, 101, 108, 116, 97, 32, 99, 104, 111, 105, 99, 101, 32, 40, 109, 117, 115, 116, 32, 98, 101, 32, 49, 32, 111, 114, 32, 50, 41, 58, 32, 37, 114]⟩ := by decide +kernel
theorem msg_str_meets {y r T : PySem.Str} (hr : reprText y = r) (hl : r.length ≤ 100) (hT : PySem.Str.ofString "unknown delta choice (must be 1 or 2): " ++ r = T) :
    Meets («str.__mod__» ⟨[.str ⟨#[117, 110, 107, 110, 111, 119, 110, 32, 100, 101, 108, 116, 97, 32, 99, 104, 111, 105, 99, 101, 32, 40, 109, 117, 115, 116, 32, 98, 101, 32, 49, 32, 111, 114, 32, 50, 41, 58, 32, 37, 114]⟩ t, .str y u], []⟩) (fun _ R s => ∀ t' k, R (.ok (.ret (.str T t'))) { s with toks := k }) := by
  apply KPc.meets_of
  intro _ _ _ _ _ _ _
  rw [KPc.entry_is_s]
  unfold Builtin.Str.percentFormat
  refine wpAny_bind (wpAny_isInstance (typeIs_str _ _ _) F.sub_str_tuple ?_)
  refine wpAny_bind (wpAny_of_eq (a := some _) rfl ?_)
  refine wpAny_bind (KPc.wp_fills_str ?_)
  intro _
  kpc_if
  refine wpAny_bind (wpAny_pure ?_)
  refine wpAny_bind ?_
  rw [KPc.range_list]
  refine KPc.start ?_
  intro _ _
  refine KPc.turn ?_
  kpc_check
  repeat kpc_if
  refine wpAny_pure ?_
  kpc_piece
  refine KPc.turn ?_
  kpc_check
  repeat kpc_if
  refine wpAny_bind ?_; refine wpAny_holding ?_; (repeat kpc_if)
  have hS : sizeLine = 16777216 := rfl
  refine wpAny_bind (reprUnder_str (by rw [hr]; omega) ?_)
  rw [hr]
  refine wpAny_bind (wpAny_of_eq (a := some _) rfl ?_)
  refine wpAny_pure ?_
  refine wpAny_pure ?_
  refine KPc.after_str (by kpc_g) hl (by kpc_obj) ?_
  intro _ _
  refine KPc.turn ?_
  kpc_check
  repeat kpc_if
  refine wpAny_pure ?_
  kpc_if
  refine KPc.finish_ok (by kpc_g) (by decide +kernel) hT ?_
  assumption
theorem msg_str {y r T : PySem.Str} {Q : Value → Shared → Prop} (hr : reprText y = r) (hl : r.length ≤ 100) (hT : PySem.Str.ofString "unknown delta choice (must be 1 or 2): " ++ r = T)
    (h : ∀ t' k, Q (.str T t') { s with toks := k }) : wpAny (model prog w) A (binaryOp .Mod (.str (PySem.Str.ofString "unknown delta choice (must be 1 or 2): %r") t) (.str y u)) Q E s := by
  rw [fmt_eq]
  exact binaryOp_meets (T := "str") (op := .Mod) (typeIs_str s _ t) (typeIs_str s y u) F.fills_str_mod F.slot_str_mod F.entry_str_mod (F.args_str_mod_2 _ _) (msg_str_meets hr hl hT) (fun t' k => ⟨(fun e => nomatch e), h t' k⟩)
end
/-- a wish that is no side: its number, and how it is shown -/
inductive OddIs : Value → Int → List Nat → Prop
  | i0 (u : Tok) : OddIs (.int 0 u) 0 [48]
  | i3 (u : Tok) : OddIs (.int 3 u) 3 [51]
  | m1 (u : Tok) : OddIs (.int (-1) u) (-1) [45, 49]
  | s0 (u : Tok) : OddIs (.str (S [48]) u) 0 [39, 48, 39]
  | s3 (u : Tok) : OddIs (.str (S [32, 51]) u) 3 [39, 32, 51, 39]
  | i12 (u : Tok) : OddIs (.int 12 u) 12 [49, 50]
theorem OddIs.ne {v : Value} {n : Int} {r : List Nat} (h : OddIs v n r) : n ≠ 1 ∧ n ≠ 2 := by cases h <;> decide
theorem OddIs.wish {v : Value} {n : Int} {r : List Nat} (h : OddIs v n r) : WishOf v n := by
  cases h with
  | i0 u => exact .inl ⟨u, rfl⟩
  | i3 u => exact .inl ⟨u, rfl⟩
  | m1 u => exact .inl ⟨u, rfl⟩
  | s0 u => exact .inr ⟨[48], u, rfl, by decide +kernel, by decide⟩
  | s3 u => exact .inr ⟨[32, 51], u, rfl, by decide +kernel, by decide⟩
  | i12 u => exact .inl ⟨u, rfl⟩
theorem OddIs.msg {prog : Program} {w : World} {A : Around} {E : Value → Shared → Prop} {s : Shared} {t : Tok} {v : Value} {n : Int} {r : List Nat} {Q : Value → Shared → Prop} (o : OddIs v n r) (h : ∀ t' k, Q (.str (S (msgL ++ r)) t') { s with toks := k }) :
    wpAny (model prog w) A (binaryOp .Mod (.str (PySem.Str.ofString "unknown delta choice (must be 1 or 2): %r") t) v) Q E s := by
  cases o with
  | i0 u => exact msg_int (r := S [48]) (by decide +kernel) (by decide +kernel) (by decide) (by decide +kernel) h
  | i3 u => exact msg_int (r := S [51]) (by decide +kernel) (by decide +kernel) (by decide) (by decide +kernel) h
  | m1 u => exact msg_int (r := S [45, 49]) (by decide +kernel) (by decide +kernel) (by decide) (by decide +kernel) h
  | s0 u => exact msg_str (r := S [39, 48, 39]) (by decide +kernel) (by decide) (by decide +kernel) h
  | s3 u => exact msg_str (r := S [39, 32, 51, 39]) (by decide +kernel) (by decide) (by decide +kernel) h
  | i12 u => exact msg_int (r := S [49, 50]) (by decide +kernel) (by decide +kernel) (by decide) (by decide +kernel) h
end Mine
end
section
open PySem PySem.W PyProof.Rows
set_option linter.unusedVariables false
set_option maxRecDepth 100000
set_option maxHeartbeats 1000000
namespace Mine
section
variable {M : Model} {A : Around} {E : Value → Shared → Prop} {s : Shared}
/-- what is left where an exception was first seen -/
structure Seen (base : Heap) (l : List Env) (e : Addr) (oe : Obj) (h h' : Heap) : Prop where
  stays : base.StaysIn h'
  frames : h'.FunFrames base l
  exc : ∃ T oT ts, h'.get? e = some (oe.mapFields (·.setIfInBounds 1 (.ref T))) ∧ base.get? T = none ∧ T ≠ e ∧ h'.get? T = some oT ∧ oT.data = .fields ts ∧ ts[3]? = some .none
  rest : ∀ b o, b ≠ e → h.get? b = some o → (∃ sl, h'.get? b = some { o with slots := sl }) ∧ (b ∉ l.filterMap (·.frame) → h'.get? b = some o)
theorem note_first {base : Heap} {env : Env} {outer : List Env} {L e : Addr} {oe : Obj} {vs : Array Value} {Q : Unit → Shared → Prop}
    (hfr : A.frames = some (env :: outer)) (hl : s.heap.FunFrames base (env :: outer)) (hf : env.frame = some L)
    (he : s.heap.get? e = some oe) (hkb : base.StaysIn s.heap) (hen : base.get? e = none) (hd : oe.data = .fields vs) (h1 : vs[1]? = some .none)
    (h : ∀ h', Seen base (env :: outer) e oe s.heap h' → Q () { s with heap := h' }) :
    wpAny M A (noteFrame (.ref e) env) (fun _ s' => wpAny M A (setFlight (.ref e) none) Q E s') E s := by
  have hsz : 1 < vs.size := (Array.getElem?_eq_some_iff.mp h1).1
  have hene : e ∉ (env :: outer).filterMap (·.frame) := fun hm => by
    obtain ⟨_, o, ho, hnf⟩ := hl.mem hm
    rw [he] at ho; injection ho with ho; subst ho; exact hnf vs hd
  unfold noteFrame
  simp only [hf]
  refine wpAny_bind (wpAny_field he hd h1 ?_)
  rw [if_neg (by decide)]
  refine wpAny_bind (wpAny_frameOf_fun hfr hl hf fun h₁ hs₁ => ?_)
  refine wpAny_bind (wpAny_entryPlaceOf fun pl hpl => ?_)
  unfold EntryCells.newEntry newFields
  refine wpAny_bind (wpAny_newObj_type ?_ (hpl.sizeOk5 _ _ _ _ _))
  have he₁ : h₁.get? e = some oe := (hs₁.2.1 e hene).trans he
  have kb₁ : base.StaysIn h₁ := fun b o hbo => (hs₁.2.1 b fun hm => by rw [(hl.mem hm).1] at hbo; cases hbo).trans (hkb b o hbo)
  have he₂ := Heap.get?_push_of_some (h := h₁) { cls := .type "traceback", dict := none, data := .fields ([Value.none, .ref L, .none, rawInt L, .none] ++ (if pl.isEmpty then List.replicate 6 Value.none else pl)).toArray } he₁
  refine wpAny_setField he₂ hd hsz ?_
  have hTe : h₁.objs.size ≠ e := Nat.ne_of_gt (Heap.lt_size he₁)
  have hd₃ := Obj.data_mapFields hd (·.setIfInBounds 1 (Value.ref h₁.objs.size))
  have he₃ := Heap.get?_update_self (Obj.mapFields (·.setIfInBounds 1 (Value.ref h₁.objs.size))) he₂ (Obj.isFreed_of_fields hd₃)
  have hT₃ := (Heap.get?_update_other (h₁.push { cls := .type "traceback", dict := none, data := .fields ([Value.none, .ref L, .none, rawInt L, .none] ++ (if pl.isEmpty then List.replicate 6 Value.none else pl)).toArray })
    (Obj.mapFields (·.setIfInBounds 1 (Value.ref h₁.objs.size))) (Ne.symm hTe)).trans (Heap.get?_push_size h₁ rfl)
  unfold setFlight
  refine wpAny_bind (wpAny_field he₃ hd₃ (x := .ref h₁.objs.size) (by simp [hsz]) ?_)
  rw [if_pos (show (Value.ref h₁.objs.size != Value.none) = true from by simp)]
  refine wpAny_setField hT₃ rfl (by simp only [List.size_toArray, List.length_append, List.length_cons, List.length_nil] <;> omega) (h _ ?_)
  have keep : ∀ b o, b ≠ e → h₁.get? b = some o →
      (((h₁.push { cls := .type "traceback", dict := none, data := .fields ([Value.none, .ref L, .none, rawInt L, .none] ++ (if pl.isEmpty then List.replicate 6 Value.none else pl)).toArray }).update e (Obj.mapFields (·.setIfInBounds 1 (Value.ref h₁.objs.size)))).update h₁.objs.size
        (Obj.mapFields (·.setIfInBounds 3 ((none : Option Addr).elim Value.none fun f => rawInt f)))).get? b = some o := fun b o hbe hb => by
    have hbT : h₁.objs.size ≠ b := Nat.ne_of_gt (Heap.lt_size hb)
    rw [Heap.get?_update_other _ _ hbT, Heap.get?_update_other _ _ (Ne.symm hbe)]
    exact Heap.get?_push_of_some _ hb
  have noRecord : ∀ b o, s.heap.get? b = some o → (∀ vs, o.data ≠ .fields vs) → b ≠ e := fun b o hb hnf q => by
    rw [q, he] at hb; injection hb with hb; subst hb; exact hnf vs hd
  refine ⟨fun b o hbo => keep b o (fun q => by rw [q, hen] at hbo; cases hbo) (kb₁ b o hbo), hl.of_keeps fun b o hb hnf => ?_, ⟨h₁.objs.size, _, _, ?_, kb₁.fresh, hTe, Heap.get?_update_self _ hT₃ (Obj.isFreed_of_fields (Obj.data_mapFields rfl _)), Obj.data_mapFields rfl _, ?_⟩, fun b o hbe hb => ⟨?_, fun hbl => ?_⟩⟩
  · obtain ⟨sl, hs⟩ := hs₁.2.2 b o hb
    exact ⟨_, keep b _ (noRecord b o hb hnf) hs, rfl⟩
  · rw [Heap.get?_update_other _ _ hTe]; exact he₃
  · simp
  · obtain ⟨sl, hs⟩ := hs₁.2.2 b o hb
    exact ⟨sl, keep b _ hbe hs⟩
  · exact keep b o hbe ((hs₁.2.1 b hbl).trans hb)
end
end Mine
end
section
open PySem PySem.W PyProof.Rows
set_option linter.unusedVariables false
set_option maxRecDepth 100000
set_option maxHeartbeats 1000000
namespace Mine
section
variable {M : Model} {A : Around} {E : Value → Shared → Prop} {s : Shared}
theorem note_held {base : Heap} {env : Env} {outer : List Env} {L e : Addr} {oe : Obj} {vs : Array Value} {a0 : Value} {Q : Unit → Shared → Prop}
    (hfr : A.frames = some (env :: outer)) (hl : s.heap.FunFrames base (env :: outer)) (hf : env.frame = some L)
    (he : s.heap.get? e = some oe) (hkb : base.StaysIn s.heap) (hen : base.get? e = none) (hd : oe.data = .fields vs) (h1 : vs[1]? = some .none) (h0 : vs[0]? = some a0)
    (h : ∀ h', Heap.HeldW base (env :: outer) e oe.cls a0 L h' → s.heap.UpToSlots h' → Q () { s with heap := h' }) : wpAny M A (noteFrame (.ref e) env) Q E s := by
  unfold noteFrame
  simp only [hf]
  refine wpAny_bind (wpAny_field he hd h1 ?_)
  rw [if_neg (by decide)]
  exact wpAny_entryW hfr hl hf he hkb hen hd (Array.getElem?_eq_some_iff.mp h1).1 h0 fun h' ⟨a, b, c, d⟩ => h h' ⟨a, hen, b, c⟩ d
theorem came_back {base : Heap} {env : Env} {l : List Env} {L e : Addr} {cls a0 fl : Value} (hf : env.frame = some L) (hkb : base.StaysIn s.heap) (hen : base.get? e = none) (hl : s.heap.FunFrames base l) (ht : s.heap.TracedAtW base e cls a0 fl)
    (h : ∀ h', Heap.HeldW base l e cls a0 L h' → s.heap.UpToSlots h' → E (.ref e) { s with heap := h' }) : cameBackBy M A env E (.ref e) s := by
  obtain ⟨oe, vs, T, oT, ts, he, hcls, hd, h1, hnT, hTe, hT, hdT, h3⟩ := ht
  have hsz3 : 3 < ts.size := (Array.getElem?_eq_some_iff.mp h3).1
  have other : ∀ b, b ≠ T → (s.heap.update T (Obj.mapFields (·.setIfInBounds 3 (rawInt L)))).get? b = s.heap.get? b := fun b hb => Heap.get?_update_other _ _ (Ne.symm hb)
  have noRecord : ∀ b o, s.heap.get? b = some o → (∀ vs, o.data ≠ .fields vs) → b ≠ T := fun b o hb hnf q => by
    rw [q, hT] at hb; injection hb with hb; subst hb; exact hnf ts hdT
  unfold cameBackBy
  refine wpAny_bind (wpAny_field he hd h1 ?_)
  rw [if_neg (by simp)]
  rw [hf]
  unfold setFlight
  refine wpAny_bind (wpAny_field he hd h1 ?_)
  rw [if_pos (show (Value.ref T != Value.none) = true from by simp)]
  refine wpAny_setField hT hdT hsz3 (h _ ⟨fun b o hbo => (other b fun q => by rw [q, hnT] at hbo; cases hbo).trans (hkb b o hbo), hen, hl.of_keeps fun b o hb hnf => ⟨o, (other b (noRecord b o hb hnf)).trans hb, rfl⟩, ?_⟩ fun b o hb hnf => ⟨o.slots, (other b (noRecord b o hb hnf)).trans hb⟩)
  exact ⟨oe, vs, T, _, _, (other e (Ne.symm hTe)).trans he, hcls, hd, h1, hnT, hTe, Heap.get?_update_self _ hT (Obj.isFreed_of_fields (Obj.data_mapFields hdT _)), Obj.data_mapFields hdT _, by simp [hsz3]⟩
end
end Mine
end
section
open PySem PySem.W PyProof.Rows
set_option linter.unusedVariables false
set_option maxRecDepth 100000
set_option maxHeartbeats 1000000
namespace Mine
theorem boot_KeyE : bootBuiltins "KeyError" = some (.type "KeyError") := by decide +kernel
theorem boot_ValE : bootBuiltins "ValueError" = some (.type "ValueError") := by decide +kernel
/-- how the generator ends that refuses -/
noncomputable def Rx (base : Heap) (outer : List Env) (r : List Nat) : GenEnd := fun _ s₀ x s₁ => ∃ e a t' h' tk, x = .error (.ref e) ∧ s₁ = { s₀ with heap := h', toks := tk } ∧ Heap.FlyingW base outer e (.type "ValueError") (.ref a) h' ∧
  h'.TupAt a [.str (S (msgL ++ r)) t'] ∧ s₀.heap.UpToSlots h'
theorem sAssignE {prog : Program} {w : World} {A : Around} {env : Env} {x : PySem.Str} {pos' pos : Pos} {value : Expr} {rest : List Stmt} {Q : Flow → Shared → Prop} {E : Value → Shared → Prop} {s : Shared}
    (h : wpAny (model prog w) A (eval value env) (fun _ _ => False) E s) (hsw : swapsWith value (some (.Name x pos')) pos.line env = pure false := by rfl) :
    wpAny (model prog w) A (execs (.Assign [.Name x pos'] value pos :: rest) env) Q E s :=
  wpAny_execs_cons (wpAny_Assign_Name (wpAny_mono h (fun _ _ z => z.elim) fun _ _ z => z) hsw)
theorem over_frames {A : Around} {body : List Stmt} {env : Env} {outer : List Env} (h : A.frames = some outer) : (A.over (.func body env) []).frames = some (env :: outer) := by
  unfold Around.over
  simp only [h]
  rfl
noncomputable def excO (cls : String) (a : Addr) : Obj := { cls := .type cls, data := .fields #[.ref a, .none, .none, .none, .bool false, .none] }
noncomputable def tup1 (v : Value) : Obj := { cls := .type "tuple", data := .seq #[v] }
theorem evExc {c : Cx} {env : Env} {f e : Expr} {pos : Pos} {x : PySem.Str} (hf : Ev c (eval f env) (IsV (.type "ValueError"))) (he : Ev c (eval e env) (IsS x)) (h1 : starEach [e] env = (false, eval e env) :: starEach [] env := by rfl)
    (h2 : eval (.Call f [e] [] pos) env = (do let fv ← eval f env; callWith pos fv [] (backTo pos (starEach [e] env)) (backToKw pos (keywordEach [] env))) := by rfl) :
    EvF c (fun _ => True) (eval (.Call f [e] [] pos) env) (fun v h => ∃ b a t', v = .ref b ∧ h.get? b = some (excO "ValueError" a) ∧ c.h₀.get? b = none ∧ (∀ k o, c.g.get? k = some o → nd o → k ≠ b) ∧ h.get? a = some (tup1 (.str x t'))) := by
  refine callT1 hf he ?_ h1 h2
  intro v s Q E k q fin
  obtain ⟨t', rfl⟩ := q
  obtain ⟨hp, g, d, tk, os⟩ := s
  refine wpAny_call_exc PySem.F.excCall_ValueError (fun h' b hm => ?_) (by show 1 ≤ sizeLine; decide)
  obtain ⟨a, hb, ha, hta⟩ := hm.there
  refine fin (.ref b) h' tk ⟨b, a, t', rfl, hb, ?_, fun k' o e n z => ?_, hta⟩ hm.keeps
  · cases hx : c.h₀.get? b with
    | none => rfl
    | some o => have := k.base _ _ hx; rw [hm.new] at this; cases this
  · have := k.back _ _ e n
    rw [z, hm.new] at this; cases this
theorem evMsg {c : Cx} {env : Env} {r₁ : Expr} {p₁ pos : Pos} {k : Nat} {v : Value} {n : Int} {r : List Nat} (o : OddIs v n r) (hr : Ev c (eval r₁ env) (IsV v)) : Ev c (eval (.BinOp (.Constant (.str (Str.ofString "unknown delta choice (must be 1 or 2): %r")) k p₁) .Mod r₁ pos) env) (IsS (S (msgL ++ r))) :=
  bin (P := IsS (Str.ofString "unknown delta choice (must be 1 or 2): %r")) cS hr fun _ _ s _ _ _ ⟨⟨t, q⟩, q'⟩ f => by
    have q'' : _ = v := q'
    subst q q''
    exact o.msg fun t' k => f _ s.heap k ⟨t', rfl⟩ Ext.refl
section
variable {M : Model} {A : Around} {E : Value → Shared → Prop} {s : Shared}
theorem leaves_heldU {base : Heap} {env : Env} {outer : List Env} {L e : Addr} {cls a0 : Value} {Q : Unit → Shared → Prop} (hf : env.frame = some L)
    (hh : Heap.HeldW base (env :: outer) e cls a0 L s.heap) (hQ : ∀ h', Heap.FlyingW base outer e cls a0 h' → s.heap.UpToSlots h' → Q () { s with heap := h' }) : wpAny M A (leaving env (.ref e)) Q E s := by
  unfold leaving
  refine wpAny_bind (wpAny_noteFrame_againW hf hh.2.2.2 ?_)
  refine wpAny_landsW hh fun h' hfl hs => ?_
  obtain ⟨k1, k2, ⟨_, _, k3⟩, k4⟩ := hfl
  exact hQ h' ⟨k1, k2, k3, k4⟩ hs
end
section
variable {prog : Program} {w : World} {A : Around}
theorem rfail {hB base : Heap} {outer : List Env} {C : Addr} {m : PySem.Str → Option Value} {wv : Value} {n : Int} {r : List Nat} {Y : Protocol} {s : Shared} (G : Gd w hB) (hBb : Ext hB base) (hh : A.handled = none) (hfr : A.frames = some outer) (o : OddIs wv n r) (hmw : m (Str.ofString "which") = some wv)
    (hns : s.heap.Ns C m) (hkb : base.StaysIn s.heap) (hsz : hB.objs.size ≤ C) (hfs : s.heap.FunFrames base (rEnv C :: outer)) :
    Seg (model prog w) A (Rx base outer r) Y 0 s (.func rBd (rEnv C)) ((model prog w).den (.func rBd (rEnv C))) [] s := by
  obtain ⟨p, lo, mg, mb, T⟩ := G.T
  have X := G.X
  refine seg_func ?_
  have k₀ : (Cx.mk prog w (A.over (.func rBd (rEnv C)) []) hB C m s.heap []).ok s.heap := ⟨⟨hns, fun b o e => hkb b o (hBb b o e), hsz⟩, ExtD.refl, fun _ z => nomatch z⟩
  have hfr' : (A.over (.func rBd (rEnv C)) []).frames = some (rEnv C :: outer) := over_frames hfr
  refine seg_plain (wpAny_Try_except ?_)
  refine sAssignE ?_
  have h2 : 2 ≤ s.heap.objs.size := by
    have h1 : @LT.lt Nat _ 21 hB.objs.size := Heap.lt_size (X 21 (x21_0 w.params) (by rfl))
    have h3 : @LT.lt Nat _ C s.heap.objs.size := hns.lt
    have h4 : @LE.le Nat _ hB.objs.size C := hsz
    omega
  refine evTagMiss (c := Cx.mk prog w (A.over (.func rBd (rEnv C)) []) hB C m s.heap []) o.ne k₀ hh h2 (evInt (bl X T (by rfl) boot_int) (nm hmw (P := IsV wv) fun _ => rfl) o.wish) ?_
  intro h₀ h₁ k u tk₁ e₀ hm
  obtain ⟨tt, hk₁, htt, htup⟩ := hm.there
  have e₁ : Ext s.heap h₁ := fun b o e => hm.keeps b o (e₀ b o e)
  have hbk : base.get? k = none := by
    cases hx : base.get? k with
    | none => rfl
    | some o' => have := e₀ _ _ (hkb _ _ hx); rw [hm.new] at this; cases this
  refine note_first (base := base) (L := C) hfr' (hfs.of_keeps fun b o e _ => ⟨o, e₁ b o e, rfl⟩) rfl hk₁ (fun b o e => e₁ b o (hkb b o e)) hbk rfl rfl ?_
  intro h₂ sn
  dsimp only
  obtain ⟨Tk, oT, ts, hk₂, hTb, hTk, hT₂, hTd, hT3⟩ := sn.exc
  have up₂ : s.heap.UpToSlots h₂ := fun b o e hn => (sn.rest b o (fun z => by rw [z] at e; have := e₀ _ _ e; rw [hm.new] at this; cases this) (e₁ b o e)).1
  have k₂ : (Cx.mk prog w ((A.over (.func rBd (rEnv C)) []).mark (some (.ref k))) hB C m h₂ []).ok h₂ := ⟨⟨up₂.ns hns, fun b o e => sn.stays b o (hBb b o e), hsz⟩, ExtD.refl, fun _ z => nomatch z⟩
  refine wpAny_handleBy_builtin (X := "KeyError") (T := "KeyError") (b := true) (isSubtype_of_subB (by decide +kernel)) (isSubtype_of_subB (by decide +kernel)) (isSubtype_of_subB (by decide +kernel)) ?_
  refine (bl X T (by rfl) boot_KeyE : Ev (Cx.mk prog w ((A.over (.func rBd (rEnv C)) []).mark (some (.ref k))) hB C m h₂ []) _ _) ⟨h₂, s.gens, s.drawn, tk₁, s.os⟩ _ _ k₂ trivial fun v h₃ tk₃ hv e₃ => ?_
  have hv' : v = .type "KeyError" := hv
  subst hv'
  refine ⟨rfl, ⟨_, e₃ _ _ hk₂, rfl⟩, ?_⟩
  rw [if_pos rfl]
  refine wpAny_setFlight_none (s := ⟨h₃, s.gens, s.drawn, tk₃, s.os⟩) (e := k) (tb := Tk) (e₃ _ _ hk₂) rfl rfl (e₃ _ _ hT₂) hTd (Array.getElem?_eq_some_iff.mp hT3).1 ?_
  have hTk₃ := e₃ _ _ hT₂
  have oth : ∀ b, b ≠ Tk → (h₃.update Tk (Obj.mapFields (·.setIfInBounds 3 Value.none))).get? b = h₃.get? b := fun b hb => Heap.get?_update_other _ _ (Ne.symm hb)
  have hTk₄ := Heap.get?_update_self (Obj.mapFields (·.setIfInBounds 3 Value.none)) hTk₃ (Obj.isFreed_of_fields (Obj.data_mapFields hTd _))
  have hk₄ := (oth k (Ne.symm hTk)).trans (e₃ _ _ hk₂)
  dsimp only
  generalize h₃.update Tk (Obj.mapFields (·.setIfInBounds 3 Value.none)) = h₄ at oth hTk₄ hk₄ ⊢
  refine wpAny_execs_cons ?_
  refine raise_from (k := k) PySem.F.excRaise_ValueError rfl ?_
  have up₄ : s.heap.UpToSlots h₄ := fun b o e hn => by
    obtain ⟨sl, hb⟩ := up₂ b o e hn
    refine ⟨sl, (oth b fun z => ?_).trans (e₃ _ _ hb)⟩
    rw [z, hT₂] at hb; cases hb; exact hn ts hTd
  have st₄ : base.StaysIn h₄ := fun b o e => (oth b fun z => by rw [z, hTb] at e; cases e).trans (e₃ _ _ (sn.stays b o e))
  have k₄ : (Cx.mk prog w ((A.over (.func rBd (rEnv C)) []).mark (some (.ref k))) hB C m h₄ []).ok h₄ := ⟨⟨up₄.ns hns, fun b o e => st₄ b o (hBb b o e), hsz⟩, ExtD.refl, fun _ z => nomatch z⟩
  refine (evExc (env := rEnv C) (c := Cx.mk prog w ((A.over (.func rBd (rEnv C)) []).mark (some (.ref k))) hB C m h₄ []) (x := S (msgL ++ r)) (bl X T (by rfl) boot_ValE) (evMsg o (nm hmw (P := IsV wv) fun _ => rfl)) (by rfl) (by rfl)) ⟨h₄, s.gens, s.drawn, tk₃, s.os⟩ _ _ k₄ trivial fun v h₅ tk₅ pv e₅ => ?_
  obtain ⟨b, a, t', rfl, hb₅, _, hbk', ha₅⟩ := pv
  have hbb : base.get? b = none := by
    cases hx : base.get? b with
    | none => rfl
    | some o' =>
      have h4 := st₄ _ _ hx
      have h5 := e₅ _ _ h4
      rw [hb₅] at h5
      cases h5
      exact absurd rfl (hbk' b _ h4 rfl)
  refine ⟨b, a, _, _, rfl, hb₅, hbk' k _ hk₄ rfl, e₅ _ _ hk₄, rfl, rfl, fun h₆ hoth hb₆ => ?_⟩
  have up₆ : s.heap.UpToSlots h₆ := fun b' o e hn => by
    obtain ⟨sl, hx⟩ := up₄ b' o e hn
    refine ⟨sl, (hoth b' fun z => ?_).trans (e₅ _ _ hx)⟩
    subst z
    have := e₅ _ _ hx
    rw [hb₅] at this
    exact hn _ (congrArg Obj.data (Option.some.inj this)).symm
  have st₆ : base.StaysIn h₆ := fun b' o e => (hoth b' fun z => by rw [z, hbb] at e; cases e).trans (e₅ _ _ (st₄ b' o e))
  have ha₆ : h₆.get? a = some (tup1 (.str (S (msgL ++ r)) t')) := (hoth a fun z => by rw [z, hb₅] at ha₅; exact absurd (congrArg (fun o => o.data) (Option.some.inj ha₅)) (by simp [excO, tup1])).trans ha₅
  refine note_held (base := base) (L := C) (a0 := .ref a) (outer := outer) hfr' (hfs.of_keeps fun b' o e hn => let ⟨sl, hx⟩ := up₆ b' o e hn; ⟨_, hx, rfl⟩) rfl hb₆ st₆ hbb rfl rfl rfl ?_
  intro h₇ held up₇
  dsimp only at held up₇ ⊢
  refine came_back (base := base) (L := C) (l := rEnv C :: outer) rfl held.1 held.2.1 held.2.2.1 held.2.2.2 ?_
  intro h₈ held₈ up₈
  dsimp only at held₈ up₈ ⊢
  refine seg_wrap ?_
  refine leaves_heldU (L := C) rfl held₈ fun h₉ fl up₉ => ?_
  refine seg_end (.error (.ref b)) ⟨b, a, t', h₉, tk₅, rfl, rfl, fl, ?_, ((up₆.trans up₇).trans up₈).trans up₉⟩
  have tA : h₆.TupAt a [.str (S (msgL ++ r)) t'] := ⟨_, 0, ha₆, rfl, rfl⟩
  exact ((tA.of_slots up₇).of_slots up₈).of_slots up₉
end
end Mine
end
section
open PySem PySem.W PyProof.Rows
set_option linter.unusedVariables false
set_option maxRecDepth 100000
set_option maxHeartbeats 1000000
namespace Mine
theorem sub_VE_stop : isSubtype (.type "ValueError") (.type "StopIteration") = pure false := isSubtype_of_subB (by decide +kernel)
section
variable {prog : Program} {w : World} {A : Around} {E : Value → Shared → Prop} {s : Shared}
theorem wpAny_genLeft {α : Type} {a e : Addr} {g : Nat} {Q : α → Shared → Prop} (hg : s.heap.IsGen a g) (he : s.TypeIs (.ref e) "ValueError") (h : E (.ref e) s) :
    wpAny (model prog w) A (Builtin.Generator.genLeft (.ref a) (.ref e) : Sem α) Q E s := by
  obtain ⟨o, nm, qn, ho, hc, hd, _⟩ := hg
  unfold Builtin.Generator.genLeft Builtin.Generator.madeByALambda
  refine wpAny_bind (wpAny_bind (wpAny_load ho ?_))
  refine wpAny_pure ?_
  refine wpAny_bind (wpAny_isInstance he sub_VE_stop ?_)
  rw [Bool.and_false, if_neg (by decide)]
  unfold Builtin.Generator.genEscaped
  refine wpAny_bind (wpAny_isInstance he sub_VE_stop ?_)
  exact wpAny_throw h
theorem pyNext_gen_raises {a : Addr} {g n : Nat} {gs : GenState} {R : GenEnd} {Q : Option Value → Shared → Prop} (hl : s.heap.NoLimit) (hroom : A.depth < recursionLimit)
    (hg : s.heap.IsGen a g) (hgs : s.gens[g]? = some gs)
    (hgo : gs.Goes (model prog w) A.in1 R (fun _ _ _ _ _ => False) n (.send .none) (s.setGen g .running))
    (hR : ∀ x s₁, R n (s.setGen g .running) x s₁ → ∃ e, x = .error (.ref e) ∧ s₁.heap.IsGen a g ∧ s₁.TypeIs (.ref e) "ValueError" ∧ E (.ref e) (s₁.setGen g .finished)) :
    wpAny (model prog w) A (pyNext (.ref a)) Q E s := by
  unfold pyNext
  refine wpAny_bind (wpAny_attempt (wpAny_callSpecial?_slot (name := Str.ofString "__next__") hg.typeIs slot_gen_next
    (wpAny_call_entry slot_gen_next hg.typeIs entry_gen_next ?_ (args_gen_next _))))
  show wpAny _ _ (Builtin.Generator.genWake (.ref a) (.send .none)) _ _ s
  unfold Builtin.Generator.genWake
  refine wpAny_bind (wpAny_holding (wpAny_genNumber hg (wpAny_bind (wpAny_genState hgs ?_))))
  cases gs with
  | running => exact hgo.elim
  | finished => exact hgo.elim
  | _ =>
    refine wpAny_bind (wpAny_roomToWake hl hroom ?_)
    show wpAny _ _ (.resume g (.send .none) [] _) _ _ s
    refine wpAny_resume hgs hgo (fun x s₁ hx => ?_) (fun v s₁ gs' hv => hv.elim)
    obtain ⟨e, rfl, hg₁, ht, hE⟩ := hR x s₁ hx
    show wpAny _ _ (Builtin.Generator.genLeft (.ref a) (.ref e)) _ _ _
    refine wpAny_genLeft (s := s₁.setGen g .finished) hg₁ ht ?_
    refine wpAny_bind (wpAny_isInstance (s := s₁.setGen g .finished) ht sub_VE_stop ?_)
    exact wpAny_throw hE
end
end Mine
end
section
open PySem PySem.W PyProof.Rows
set_option linter.unusedVariables false
set_option maxRecDepth 100000
set_option maxHeartbeats 1000000
namespace Mine
theorem boot_strT : bootBuiltins "str" = some (.type "str") := by decide +kernel
noncomputable def fSc : Scope := match st 27 with | .FunctionDef _ _ _ _ _ _ scope _ _ _ => scope | _ => default
noncomputable def fBd : List Stmt := match st 27 with | .FunctionDef _ _ body _ _ _ _ _ _ _ => body | _ => []
noncomputable def fEnv (L : Addr) : Env := envOf (Str.ofString "_law_refused") fSc L 98 (.ref 97)
/-- as UpToSlots, but for one frame -/
noncomputable def UpBut (L : Addr) (h h' : Heap) : Prop := ∀ b o, b ≠ L → h.get? b = some o → (∀ vs, o.data ≠ .fields vs) → ∃ sl, h'.get? b = some { o with slots := sl }
theorem UpBut.of {L : Addr} {h h' : Heap} (x : h.UpToSlots h') : UpBut L h h' := fun b o _ e n => x b o e n
theorem UpBut.ext {L : Addr} {h h' : Heap} (x : Ext h h') : UpBut L h h' := fun b o _ e _ => ⟨o.slots, x b o e⟩
theorem UpBut.same {L : Addr} {h h' : Heap} (x : Heap.SameBut L h h') : UpBut L h h' := fun b o n e _ => ⟨o.slots, x.extBut b o n e⟩
theorem UpBut.trans {L : Addr} {h₁ h₂ h₃ : Heap} (x : UpBut L h₁ h₂) (y : UpBut L h₂ h₃) : UpBut L h₁ h₃ := fun b o n e hn =>
  let ⟨_, e₁⟩ := x b o n e hn; let ⟨sl, e₂⟩ := y b _ n e₁ hn; ⟨sl, e₂⟩
theorem flyingW_ext {base h h' : Heap} {l : List Env} {e : Addr} {cls a0 : Value} (x : Heap.FlyingW base l e cls a0 h) (k : Ext h h') : Heap.FlyingW base l e cls a0 h' := by
  obtain ⟨f1, f2, f3, oe, vs, T, oT, ts, a1, a2, a3, a4, a5, a6, a7, a8, a9⟩ := x
  exact ⟨fun b o q => k _ _ (f1 b o q), f2, f3.of_keeps fun b o e _ => ⟨o, k _ _ e, rfl⟩, oe, vs, T, oT, ts, k _ _ a1, a2, a3, a4, a5, a6, k _ _ a7, a8, a9⟩
/-- an exception with one text -/
noncomputable def IsExc1 (e a : Addr) (X : String) (x : PySem.Str) (t : Tok) : VP := ⟨fun v h => v = .ref e ∧ h.ExcAt e X (.ref a) ∧ h.TupAt a [.str x t], by
  rintro v h h' k ⟨rfl, ⟨o, vs, h1, h2, h3, h4⟩, ⟨o', n, g1, g2, g3⟩⟩
  exact ⟨rfl, ⟨o, vs, k _ _ h1 (nd_fields h3), h2, h3, h4⟩, ⟨o', n, k _ _ g1 (nd_seq g3), g2, g3⟩⟩⟩
section
variable {prog : Program} {w : World} {A : Around} {E : Value → Shared → Prop}
theorem caught {hB base : Heap} {outer : List Env} {L e a : Addr} {m : PySem.Str → Option Value} {x : PySem.Str} {t : Tok} {p1 p2 p3 p4 p5 p6 : Pos} {s : Shared} {Q : Flow → Shared → Prop} (G : Gd w hB) (hBb : Ext hB base) (hsz : hB.objs.size ≤ L)
    (hu : A.units + 2 < cLine) (hns : s.heap.Ns L m) (hbL : base.get? L = none) (fl : Heap.FlyingW base (fEnv L :: outer) e (.type "ValueError") (.ref a) s.heap) (ht : s.heap.TupAt a [.str x t])
    (hQ : ∀ h' tk, base.StaysIn h' → UpBut L s.heap h' → Q (.ret (.str x t)) { s with heap := h', toks := tk }) :
    wpAny (model prog w) A (handleBy (.ref e) (fEnv L) [.ExceptHandler (some (.Name (Str.ofString "ValueError") p1)) (some (Str.ofString "error")) [.Return (some (.Call (.Name (Str.ofString "str") p2) [.Name (Str.ofString "error") p3] [] p4)) p5] p6]) Q E s := by
  obtain ⟨p, lo, mg, mb, T⟩ := G.T
  have X := G.X
  have k₀ : (Cx.mk prog w (A.mark (some (.ref e))) hB L m s.heap []).ok s.heap := ⟨⟨hns, fun b o q => fl.1 b o (hBb b o q), hsz⟩, ExtD.refl, fun _ z => nomatch z⟩
  refine wpAny_handleBy_builtin_as (X := "ValueError") (T := "ValueError") (b := true) (isSubtype_of_subB (by decide +kernel)) (isSubtype_of_subB (by decide +kernel)) (isSubtype_of_subB (by decide +kernel)) ?_
  refine (bl X T (by rfl) boot_ValE : Ev (Cx.mk prog w (A.mark (some (.ref e))) hB L m s.heap []) _ _) s _ _ k₀ trivial fun v h₁ tk₁ hv e₁ => ?_
  have hv' : v = .type "ValueError" := hv
  subst hv'
  have fl₁ := flyingW_ext fl e₁
  refine ⟨rfl, fl₁.there, ?_⟩
  rw [if_pos rfl]
  refine lands_againW (s := { s with heap := h₁, toks := tk₁ }) fl₁ fun h₂ fl₂ up₂ => ?_
  dsimp only at up₂ ⊢
  have ns₂ : h₂.Ns L m := up₂.ns (hns.keeps e₁)
  refine wpAny_storeName_local (by rfl) ns₂ (fun h₃ hn₃ hs₃ => ?_) (by rfl)
  have hs₃' : Heap.SameBut L h₂ h₃ := hs₃
  have ht₂ : h₂.TupAt a [.str x t] := (ht.keeps e₁).of_slots up₂
  obtain ⟨oe, ws, he₂, hc₂, hd₂, hw₂⟩ := fl₂.first
  obtain ⟨oL, hoL, hLnd⟩ := ns_dict ns₂
  have neL : ∀ {b : Addr} {o : Obj}, h₂.get? b = some o → nd o → b ≠ L := fun q n z => by rw [z, hoL] at q; cases q; exact hLnd n
  have st₃ : base.StaysIn h₃ := fun b o q => hs₃'.extBut b o (fun z => by rw [z, hbL] at q; cases q) (fl₂.1 b o q)
  have k₃ : (Cx.mk prog w (A.mark (some (.ref e))) hB L (upd m (Str.ofString "error") (.ref e)) h₃ []).ok h₃ := ⟨⟨hn₃, fun b o q => st₃ b o (hBb b o q), hsz⟩, ExtD.refl, fun _ z => nomatch z⟩
  have pe : (IsExc1 e a "ValueError" x t).p (.ref e) h₃ := by
    refine ⟨rfl, ⟨oe, ws, hs₃'.extBut _ _ (neL he₂ (nd_fields hd₂)) he₂, hc₂, hd₂, hw₂⟩, ?_⟩
    obtain ⟨o', n, g1, g2, g3⟩ := ht₂
    exact ⟨o', n, hs₃'.extBut _ _ (neL g1 (nd_seq g3)) g1, g2, g3⟩
  have hm : upd m (Str.ofString "error") (.ref e) (Str.ofString "error") = some (.ref e) := upd_same
  refine sRet (c := Cx.mk prog w (A.mark (some (.ref e))) hB L (upd m (Str.ofString "error") (.ref e)) h₃ []) (gs := s.gens) (dr := s.drawn) (os := s.os) (tk₀ := tk₁ + 1) k₃ (P := IsV (.str x t)) ?_ ?_
  · refine callT1 (P := IsExc1 e a "ValueError" x t) (bl X T (by rfl) boot_strT) (nmF hm pe) ?_
    rintro v s' Q' E' k ⟨rfl, h1, h2⟩ f
    exact P.str_of_exc_one (A := A.mark (some (.ref e))) PySem.F.excStr_ValueError hu h1 h2 (f _ s'.heap s'.toks rfl Ext.refl)
  · intro v h₄ tk₄ pv e₄
    have pv' : v = .str x t := pv
    subst pv'
    refine wpAny_nameGoes_keeps (m := upd m (Str.ofString "error") (.ref e)) (by rfl) (hn₃.keeps e₄) (by rfl) fun h₅ v₅ hn₅ hs₅ => ?_
    have hs₅' : Heap.SameBut L h₄ h₅ := hs₅
    refine hQ h₅ _ (fun b o q => hs₅'.extBut b o (fun z => by rw [z, hbL] at q; cases q) (e₄ _ _ (st₃ b o q))) ?_
    exact ((((UpBut.ext e₁).trans (UpBut.of up₂)).trans (UpBut.same hs₃')).trans (UpBut.ext e₄)).trans (UpBut.same hs₅')
end
end Mine
end
section
open PySem PySem.W PyProof.Rows
set_option linter.unusedVariables false
set_option maxRecDepth 100000
set_option maxHeartbeats 1000000
namespace Mine
section
variable {prog : Program} {w : World} {A : Around} {s : Shared} {env : Env} {R : Result → Shared → Prop}
theorem forLoop_raises {x : PySem.Str} {px : Pos} {it : Value} {body : List Stmt} (h : wpAny (model prog w) A (pyNext it) (fun _ _ => False) (notedBy (model prog w) A env fun e s' => R (.error e) s') s) :
    codeAny (model prog w) A (.forLoop (.Name x px) it body [] env) R s := by
  refine codeAny_of_tree ?_
  show wpAny _ A ((forTurn (.Name x px) it body [] env).onRaise (fun x => do noteFrame x env; theTreesLotGoes x)) _ _ s
  refine wpAny_noted ?_
  unfold forTurn
  refine wpAny_bind (wpAny_standAt (wpAny_bind (wpAny_onRaise (wpAny_mono h (fun _ _ z => z.elim) fun e s' z => wpAny_standAt z))))
end
theorem kindR (C : Addr) : (rEnv C).scope.kind ≠ .module := by
  have h : (rEnv C).scope.kind = .function := by rfl
  rw [h]; decide
theorem kindF (C : Addr) : (fEnv C).scope.kind ≠ .module := by
  have h : (fEnv C).scope.kind = .function := by rfl
  rw [h]; decide
theorem fx98 (P : Params) : (KK P).lookup 98 = some (x98_0 P) := by rfl
section
variable {prog : Program} {w : World} {A : Around} {E : Value → Shared → Prop}
theorem refused {s : Shared} {hB : Heap} {outer : List Env} {dv wv : Value} {n : Int} {r : List Nat} {Q : Value → Shared → Prop} (G : Gd w hB) (hBs : Ext hB s.heap) (hsz : hB.objs.size ≤ s.heap.objs.size)
    (hh : A.handled = none) (hfr : A.frames = some outer) (hfs : s.heap.FunFrames hB outer) (hroom : A.depth + 5 < recursionLimit) (hu : A.units + 20 < cLine) (o : OddIs wv n r)
    (hQ : ∀ t h' gens' tk', (∀ b o, b ∉ outer.filterMap (·.frame) → s.heap.get? b = some o → h'.get? b = some o) → s.heap.UpToSlots h' → ((∀ y ∈ s.gens, y.bare = true) → ∀ y ∈ gens', y.bare = true) → Q (.str (S (msgL ++ r)) t) ⟨h', gens', s.drawn, tk', s.os⟩) :
    wpAny (model prog w) A (call (.ref 98) [dv, wv]) Q E s := by
  obtain ⟨p, lo, mg, mb, T⟩ := G.T
  have X := G.X
  have hroom' : A.depth < recursionLimit := by omega
  refine wpAny_call (codeAny_call_def (binds := [(Str.ofString "source", dv), (Str.ofString "wish", wv)]) (fd := fd 27 3 .none (.str ⟨#[108, 97, 119, 95, 110, 98, 48, 49, 57, 51, 95, 48, 49]⟩ 1801) (.ref 97)) (body := fBd) hroom' (hBs _ _ (X 98 (x98_0 w.params) (by rfl))) rfl (T.nolimit.keeps hBs) ((codeRec_of X (by rfl)).keeps hBs) rfl (BindsTo.of_eq (by rfl))
    (by decide) (fun x hx => of_decide_eq_true (List.all_eq_true.mp (show ([(Str.ofString "source", dv), (Str.ofString "wish", wv)].all fun x => decide (fSc.names.lookup x.1 = some .local)) = true by rfl) x hx)) (fun h₁ hns e₁ => ?_))
  have hf' : (A.deeper (fEnv s.heap.objs.size)).frames = some (fEnv s.heap.objs.size :: outer) := Around.frames_deeper hfr
  have hh' : (A.deeper (fEnv s.heap.objs.size)).handled = none := hh
  have hu' : (A.deeper (fEnv s.heap.objs.size)).units + 2 < cLine := by show A.units + 3 + 2 < cLine; omega
  have hr' : (A.deeper (fEnv s.heap.objs.size)).depth + 2 < recursionLimit := by show A.depth + 1 + 2 < recursionLimit; omega
  show wpAny (model prog w) (A.deeper (fEnv s.heap.objs.size)) (execs fBd (fEnv s.heap.objs.size)) _ _ _
  generalize A.deeper (fEnv s.heap.objs.size) = A' at hf' hh' hu' hr' ⊢
  have hmd : (fun x => ([(Str.ofString "source", dv), (Str.ofString "wish", wv)] : List (PySem.Str × Value)).reverse.lookup x) (Str.ofString "source") = some dv := by rfl
  have hmw : (fun x => ([(Str.ofString "source", dv), (Str.ofString "wish", wv)] : List (PySem.Str × Value)).reverse.lookup x) (Str.ofString "wish") = some wv := by rfl
  generalize (fun x => ([(Str.ofString "source", dv), (Str.ofString "wish", wv)] : List (PySem.Str × Value)).reverse.lookup x) = m at hns hmd hmw
  have k₁ : (Cx.mk prog w A' hB s.heap.objs.size m h₁ []).ok h₁ := ⟨⟨hns, fun b o q => e₁ _ _ (hBs b o q), hsz⟩, ExtD.refl, fun _ z => nomatch z⟩
  refine wpAny_execs_cons (wpAny_Try_except ?_)
  refine wpAny_execs_cons (wpAny_For ?_ (fun _ => rfl))
  refine Call_ ((gl X T (v := .ref 21) (by rfl) : Ev (Cx.mk prog w A' hB s.heap.objs.size m h₁ []) _ _) ⟨h₁, s.gens, s.drawn, _, s.os⟩ _ _ k₁ trivial fun fv h₂ tk₂ q e₂ => ?_) (by rfl)
  have q' : fv = .ref 21 := q
  subst q'
  refine callWith_K X (by rfl) (spliced_more ((nm hmd (P := IsV dv) (fun _ => rfl) : Ev (Cx.mk prog w A' hB s.heap.objs.size m h₁ []) _ _) ⟨h₂, s.gens, s.drawn, tk₂, s.os⟩ _ _ (k₁.ext e₂) trivial fun v₁ h₃ tk₃ q₁ e₃ => ?_) (by rfl)) (by rfl) (by rfl)
  have q₁' : v₁ = dv := q₁
  subst q₁'
  refine spliced_more ((nm hmw (P := IsV wv) (fun _ => rfl) : Ev (Cx.mk prog w A' hB s.heap.objs.size m h₁ []) _ _) ⟨h₃, s.gens, s.drawn, tk₃, s.os⟩ _ _ ((k₁.ext e₂).ext e₃) trivial fun v₂ h₄ tk₄ q₂ e₄ => ?_) (by rfl)
  have q₂' : v₂ = wv := q₂
  subst q₂'
  have k₄ := ((k₁.ext e₂).ext e₃).ext e₄
  refine spliced_none ⟨X.keeps k₄.base, ?_⟩
  refine restore_call (s := ⟨h₄, s.gens, s.drawn, tk₄, s.os⟩) (G.ext k₄.base) (by omega) ?_
  intro h₅ t₁ t₂ tk₅ hns₅ e₅
  have eS4 : Ext s.heap h₄ := Ext.trans e₁ ((e₂.trans e₃).trans e₄)
  have hC : @LT.lt Nat _ h₄.objs.size h₅.objs.size := hns₅.lt
  have hL : @LT.lt Nat _ s.heap.objs.size h₄.objs.size := k₄.fr.ns.lt
  have hG : (h₅.push (genO s.gens.size t₁ t₂)).get? h₅.objs.size = some (genO s.gens.size t₁ t₂) := Heap.get?_push_size _ rfl
  have e₆ : Ext h₄ (h₅.push (genO s.gens.size t₁ t₂)) := e₅.trans (Ext.push _)
  have nsL : (h₅.push (genO s.gens.size t₁ t₂)).Ns s.heap.objs.size m := k₄.fr.ns.keeps e₆
  have nsC : (h₅.push (genO s.gens.size t₁ t₂)).Ns h₄.objs.size (rM v₁ v₂) := hns₅.keeps (Ext.push _)
  have hBL : hB.get? s.heap.objs.size = none := by
    cases hx : hB.get? s.heap.objs.size with
    | none => rfl
    | some o' => exact absurd (Heap.lt_size (hBs _ _ hx)) (Nat.lt_irrefl _)
  have hBC : hB.get? h₄.objs.size = none := by
    cases hx : hB.get? h₄.objs.size with
    | none => rfl
    | some o' => exact absurd (Nat.lt_trans hL (Heap.lt_size (hBs _ _ hx))) (Nat.lt_irrefl _)
  have memS : ∀ b, b ∈ outer.filterMap (·.frame) → @LT.lt Nat _ b s.heap.objs.size := fun b hb => by
    obtain ⟨_, o', ho', _⟩ := hfs.mem hb
    exact Heap.lt_size ho'
  refine wpAny_pyIter_gen (genO_is hG) ?_
  generalize (h₅.push (genO s.gens.size t₁ t₂)) = H at *
  have ff : H.FunFrames hB (rEnv h₄.objs.size :: fEnv s.heap.objs.size :: outer) :=
    .cons (kindR _) rfl nsC hBC (.cons (kindF _) rfl nsL hBL (hfs.of_keeps fun b o' e _ => ⟨o', e₆ _ _ (eS4 _ _ e), rfl⟩))
  have hfm : (rEnv h₄.objs.size :: fEnv s.heap.objs.size :: outer).filterMap (·.frame) = h₄.objs.size :: s.heap.objs.size :: outer.filterMap (·.frame) := rfl
  have ffH := funFrames_hide (as := h₄.objs.size :: s.heap.objs.size :: outer.filterMap (·.frame)) ff fun env he a ha => hfm ▸ List.mem_filterMap.mpr ⟨env, he, ha⟩
  have hBb : Ext hB (hideAll H (h₄.objs.size :: s.heap.objs.size :: outer.filterMap (·.frame))) := fun b o' e => hideAll_get _ (e₆ _ _ (eS4 _ _ (hBs _ _ e))) fun hm => by
    rw [(ff.mem (hfm ▸ hm)).1] at e; cases e
  have hbs : (hideAll H (h₄.objs.size :: s.heap.objs.size :: outer.filterMap (·.frame))).StaysIn H := fun b o' e => of_hideAll _ e
  have hbL : (hideAll H (h₄.objs.size :: s.heap.objs.size :: outer.filterMap (·.frame))).get? s.heap.objs.size = none := hideAll_none _ (.tail _ (.head _))
  have hbG : (hideAll H (h₄.objs.size :: s.heap.objs.size :: outer.filterMap (·.frame))).get? h₅.objs.size = some (genO s.gens.size t₁ t₂) := hideAll_get _ hG fun hm => by
    rcases List.mem_cons.mp hm with z | hm
    · have z' : @Eq Nat h₅.objs.size h₄.objs.size := z; omega
    · rcases List.mem_cons.mp hm with z | hm
      · have z' : @Eq Nat h₅.objs.size s.heap.objs.size := z; omega
      · have := memS _ hm; omega
  have hbS : ∀ b o', b ∉ outer.filterMap (·.frame) → s.heap.get? b = some o' → (hideAll H (h₄.objs.size :: s.heap.objs.size :: outer.filterMap (·.frame))).get? b = some o' := fun b o' hn e => hideAll_get _ (e₆ _ _ (eS4 _ _ e)) fun hm => by
    have hlt : @LT.lt Nat _ b s.heap.objs.size := Heap.lt_size e
    rcases List.mem_cons.mp hm with z | hm
    · have z' : @Eq Nat b h₄.objs.size := z; omega
    · rcases List.mem_cons.mp hm with z | hm
      · have z' : @Eq Nat b s.heap.objs.size := z; omega
      · exact hn hm
  generalize hideAll H (h₄.objs.size :: s.heap.objs.size :: outer.filterMap (·.frame)) = base at *
  refine forLoop_raises ?_
  have hgn : (s.gens.push (.fresh (.func rBd (rEnv h₄.objs.size))))[s.gens.size]? = some (.fresh (.func rBd (rEnv h₄.objs.size))) := by simp
  refine pyNext_gen_raises (R := Rx base (fEnv s.heap.objs.size :: outer) r) (n := 0) (T.nolimit.keeps fun b o' e => hbs _ _ (hBb _ _ e)) (by omega) (genO_is hG) hgn ⟨rfl, ?_⟩ ?_
  · exact rfail G hBb hh' hf' o rfl nsC hbs (by omega) ffH
  rintro x s₁ ⟨e, a, t', h₆, tk₆, rfl, rfl, fl, ht, up⟩
  refine ⟨e, rfl, genO_is (fl.1 _ _ hbG), fl.there, ?_⟩
  refine wpAny_looks_onW hf' rfl fl (fun h₇ held up₇ => ?_)
  refine came_back (L := s.heap.objs.size) rfl held.1 held.2.1 held.2.2.1 held.2.2.2 ?_
  intro h₈ held₈ up₈
  refine wpAny_noteFrame_againW rfl held₈.2.2.2 ?_
  refine wpAny_landsW held₈ fun h₉ fl₉ up₉ => ?_
  have upA := ((up.trans up₇).trans up₈).trans up₉
  refine caught G hBb hsz hu' (upA.ns nsL) hbL fl₉ (((ht.of_slots up₇).of_slots up₈).of_slots up₉) ?_
  intro h' tk' st up'
  refine hQ t' h' _ _ (fun b o' hn e => st _ _ (hbS b o' hn e)) (fun b o' e hn => ?_) ?_
  · have hlt : @LT.lt Nat _ b s.heap.objs.size := Heap.lt_size e
    obtain ⟨sl, hx⟩ := upA b o' (e₆ _ _ (eS4 _ _ e)) hn
    have up'' : UpBut s.heap.objs.size h₉ h' := up'
    obtain ⟨sl', hy⟩ := up'' b { o' with slots := sl } (fun z => by have z' : @Eq Nat b s.heap.objs.size := z; omega) hx hn
    exact ⟨sl', hy⟩
  · intro hb
    refine setGen_bare (g := s.gens.size) ((GenOnly.setGen ⟨H, s.gens.push (.fresh (.func rBd (rEnv h₄.objs.size))), s.drawn, tk₅, s.os⟩ s.gens.size .running).trans (GenOnly.setGen _ s.gens.size .finished)) (fun k hk y e => ?_) (setGen_self (gs := .running) (setGen_self hgn))
    rw [Array.getElem?_push] at e
    split at e
    · exact absurd (by assumption) hk
    · exact hb y (Array.mem_of_getElem? e)
end
end Mine
end
section
open PySem PySem.W PyProof.Rows PySem.Calls
set_option linter.unusedVariables false
set_option maxRecDepth 100000
set_option maxHeartbeats 1000000
namespace Mine
/-! lists of numbers -/
noncomputable def IsIs (ns : List Int) : VP := ⟨fun v h => ∃ a vs, v = .ref a ∧ h.IsList a vs.toArray ∧ IntsAre vs ns, by rintro v h h' e ⟨a, vs, q, x, y⟩; exact ⟨a, vs, q, isList_st e x, y⟩⟩
theorem ints_len : ∀ {vs : List Value} {ns : List Int}, IntsAre vs ns → vs.length = ns.length
  | _, _, .nil => rfl
  | _, _, .cons _ _ r => by simp [ints_len r]
theorem ints_get : ∀ {vs : List Value} {ns : List Int} {i : Nat} {n : Int}, IntsAre vs ns → ns[i]? = some n → ∃ t, vs[i]? = some (.int n t)
  | _, _, 0, _, .cons n t _, h => ⟨t, by simp at h; simp [h]⟩
  | _, _, i + 1, _, .cons n t r, h => by
    obtain ⟨t', ht⟩ := ints_get r (i := i) (by simpa using h)
    exact ⟨t', by simpa using ht⟩
theorem ints_at : ∀ {vs : List Value} {ns : List Int} {i : Nat} {v : Value}, IntsAre vs ns → vs[i]? = some v → ∃ n t, ns[i]? = some n ∧ v = .int n t
  | _, _, 0, _, .cons n t _, h => ⟨n, t, by simp at h; simp [h]⟩
  | _, _, i + 1, _, .cons n t r, h => by
    obtain ⟨n', t', ht⟩ := ints_at r (i := i) (by simpa using h)
    exact ⟨n', t', by simpa using ht⟩
theorem ints_drop : ∀ {vs : List Value} {ns : List Int}, IntsAre vs ns → ∀ k : Nat, IntsAre (vs.drop k) (ns.drop k)
  | _, _, h, 0 => h
  | _, _, .nil, _ + 1 => .nil
  | _, _, .cons _ _ h, k + 1 => ints_drop h k
theorem ints_take : ∀ {vs : List Value} {ns : List Int}, IntsAre vs ns → ∀ k : Nat, IntsAre (vs.take k) (ns.take k)
  | _, _, _, 0 => .nil
  | _, _, .nil, _ + 1 => .nil
  | _, _, .cons n t h, k + 1 => .cons n t (ints_take h k)
section
variable {c : Cx} {env : Env}
theorem orIs {e₁ e₂ : Expr} {pos : Pos} {ns ms : List Int} (h₁ : Ev c (eval e₁ env) (IsIs ns)) (h₂ : Ev c (eval e₂ env) (IsIs ms)) (hsz : ns.length ≤ 1000) : Ev c (eval (.BoolOp .Or [e₁, e₂] pos) env) (IsIs (if ns = [] then ms else ns)) :=
  fun s Q E k _ f => BoolOp_or (h₁ s _ E k trivial fun v h' tk ⟨a, vs, q, l, r⟩ e => by
    subst q
    have hl := ints_len r
    refine wpAny_truthy_list l (by rw [List.size_toArray, hl]; omega) ?_
    rw [List.isEmpty_toArray]
    cases ns with
    | nil =>
      have : vs = [] := List.length_eq_zero_iff.mp hl
      subst this
      simp only [List.isEmpty_nil, Bool.not_true, Bool.false_eq_true, if_false]
      show wpAny _ _ (eval e₂ env) Q E _
      exact h₂ _ Q E (k.ext e) trivial fun v' h'' tk' p e' => f v' h'' tk' p (e.trans e')
    | cons n ns =>
      cases vs with
      | nil => cases hl
      | cons v vs =>
        simp only [List.isEmpty_cons, Bool.not_false, if_true]
        exact f _ h' _ ⟨a, _, rfl, l, r⟩ e)
/-- the items of a display, each as its word says -/
noncomputable abbrev SpW (c : Cx) (pos : Pos) (es : List Expr) (env : Env) {β : Type} (F : Value → β → Prop) (xs : List β) : Prop := EvF c (fun _ => True) (spliced (backTo pos (starEach es env))) (fun vs _ => Paired F vs xs)
theorem sw0 {pos : Pos} {β : Type} {F : Value → β → Prop} : SpW c pos [] env F [] := fun s _ _ _ _ f => spliced_none (f _ s.heap s.toks .nil Ext.refl)
theorem sw1 {pos : Pos} {e : Expr} {es : List Expr} {β : Type} {F : Value → β → Prop} {x : β} {xs : List β} {P : VP} (he : Ev c (eval e env) P) (hF : ∀ v h, P.p v h → F v x) (hr : SpW c pos es env F xs) (h1 : starEach (e :: es) env = (false, eval e env) :: starEach es env := by rfl) : SpW c pos (e :: es) env F (x :: xs) :=
  fun s Q E k _ f => spliced_more (he s _ E k trivial fun v h' tk p e => hr _ _ E (k.ext e) trivial fun vs h'' tk' r e' => f _ h'' tk' (.cons (hF v h' p) r) (e.trans e')) h1
/-- a display whose items are as said -/
noncomputable def IsW {β : Type} (F : Value → β → Prop) (xs : List β) : VP := ⟨fun v h => ∃ a vs, v = .ref a ∧ h.IsList a vs.toArray ∧ Paired F vs xs, by rintro v h h' e ⟨a, vs, q, x, y⟩; exact ⟨a, vs, q, isList_st e x, y⟩⟩
theorem lsW {pos : Pos} {es : List Expr} {β : Type} {F : Value → β → Prop} {xs : List β} (h : SpW c pos es env F xs) (hn : xs.length ≤ sizeLine) : Ev c (eval (.List es pos) env) (IsW F xs) :=
  fun s Q E k _ f => List_ (h s _ E k trivial fun vs h' tk r e => wpAny_newObj_type (f _ _ tk ⟨_, vs, rfl, ⟨_, Heap.get?_push_size _ rfl, rfl, 0, rfl⟩, r⟩ (e.trans (Ext.push _))) (by show vs.toArray.size ≤ sizeLine; rw [List.size_toArray, Paired.len r]; exact hn))
theorem paired_get {α β : Type} {F : α → β → Prop} : ∀ {vs : List α} {xs : List β} {i : Nat} {x : β}, Paired F vs xs → xs[i]? = some x → ∃ v, vs[i]? = some v ∧ F v x
  | _, _, 0, _, .cons a _, h => by
    simp at h
    subst h
    exact ⟨_, rfl, a⟩
  | _, _, i + 1, _, .cons _ r, h => by
    obtain ⟨v, hv⟩ := paired_get r (i := i) (by simpa using h)
    exact ⟨v, by simpa using hv.1, hv.2⟩
/-- what is so of a value whatever the heap -/
noncomputable def IsF (F : Value → Prop) : VP := ⟨fun v _ => F v, fun _ h => h⟩
theorem itW {value slice : Expr} {pos : Pos} {β : Type} {F : Value → β → Prop} {xs : List β} {i : Int} {x : β} (hv : Ev c (eval value env) (IsW F xs)) (hs : Ev c (eval slice env) (IsI i)) (h0 : 0 ≤ i) (h1 : i < 2 ^ 63) (hx : xs[i.toNat]? = some x)
    (hq : ∀ a u, subscripted slice false (Value.ref a) (Value.int i u) = operate [Value.ref a, Value.int i u] (getItem (Value.ref a) (Value.int i u)) := by intros; rfl) : Ev c (eval (.Subscript value slice pos) env) (IsF fun v => F v x) :=
  subs hv hs fun _ _ s _ _ _ ⟨⟨a, vs, e, l, ss⟩, ⟨_, e'⟩⟩ f => by
    subst e e'
    obtain ⟨v, hv, hF⟩ := paired_get ss hx
    exact tail_any l.typeIs slot_list_getitem.lookup (wpAny_getItem_list l h0 h1 (by simpa using hv) (f _ s.heap s.toks hF Ext.refl)) (hq _ _)
theorem itIs {value slice : Expr} {pos : Pos} {ns : List Int} {i : Int} {n : Int} (hv : Ev c (eval value env) (IsIs ns)) (hs : Ev c (eval slice env) (IsI i)) (h0 : 0 ≤ i) (h1 : i < 2 ^ 63) (hx : ns[i.toNat]? = some n)
    (hq : ∀ a u, subscripted slice false (Value.ref a) (Value.int i u) = operate [Value.ref a, Value.int i u] (getItem (Value.ref a) (Value.int i u)) := by intros; rfl) : Ev c (eval (.Subscript value slice pos) env) (IsI n) :=
  subs hv hs fun _ _ s _ _ _ ⟨⟨a, vs, e, l, ss⟩, ⟨_, e'⟩⟩ f => by
    subst e e'
    obtain ⟨t, hv⟩ := ints_get ss hx
    exact tail_any l.typeIs slot_list_getitem.lookup (wpAny_getItem_list l h0 h1 (by simpa using hv) (f _ s.heap s.toks ⟨t, rfl⟩ Ext.refl)) (hq _ _)
/-- a cut of a list that no name holds -/
theorem slLwT {value : Expr} {lo hi : Option Expr} {p pos : Pos} {pre : Heap → Prop} {R : Array Value → Prop} {R' : Array Value → Prop} {P1 P2 : Value → Prop} (hv : EvF c pre (eval value env) (fun v h => ∃ a vs, v = .ref a ∧ h.IsList a vs ∧ R vs))
    (h1 : EvF c (fun _ => True) (evalPart lo env) (fun v _ => P1 v)) (h2 : EvF c (fun _ => True) (evalPart hi env) (fun v _ => P2 v))
    (hr : ∀ vs vl vu, R vs → P1 vl → P2 vu → vs.size ≤ sizeLine ∧ ∃ i j, IsPart vl i ∧ IsPart vu j ∧ R' (slicePick vs i j none)) :
    EvF c pre (eval (.Subscript value (.Slice lo hi none p) pos) env) (fun v h => ∃ a vs, v = .ref a ∧ h.IsList a vs ∧ R' vs) :=
  fun s Q E k hp f => Subscript_ (hv s _ E k hp fun v h₁ tk₁ ⟨a, vs, q, l, r⟩ e₁ => wpAny_Slice (h1 _ _ E (k.ext e₁) trivial fun vl h₂ tk₂ p₁ e₂ => h2 _ _ E ((k.ext e₁).ext e₂) trivial fun vu h₃ tk₃ p₂ e₃ => evalPart_none_step (by
    subst q
    obtain ⟨hsz, i, j, pi, pj, r'⟩ := hr vs vl vu r p₁ p₂
    have hl₃ := isList_st (e₂.trans e₃).toD l
    refine tail_any (hl₃.push _).typeIs slot_list_getitem.lookup (wpAny_getItem_list_slice (hl₃.push _) (Heap.IsSliceOf.new ..) pi pj .none (by simp) ?_ hsz) (by rfl)
    exact f _ _ tk₃ ⟨_, _, rfl, ⟨_, Heap.get?_push_size _ rfl, rfl, 0, rfl⟩, r'⟩ (((e₁.trans e₂).trans e₃).trans ((Ext.push _).trans (Ext.push _))))))
theorem isA {pre : Heap → Prop} {t : Sem Value} {ns : List Int} (h : EvF c pre t (IsIs ns).p) : EvF c pre t (fun v h => ∃ a vs, v = .ref a ∧ h.IsList a vs ∧ IntsAre vs.toList ns) := h.mono fun v h ⟨a, vs, q, l, s⟩ => ⟨a, vs.toArray, q, l, by simpa using s⟩
theorem isB {pre : Heap → Prop} {t : Sem Value} {ns : List Int} (h : EvF c pre t (fun v h => ∃ a vs, v = .ref a ∧ h.IsList a vs ∧ IntsAre vs.toList ns)) : EvF c pre t (IsIs ns).p := h.mono fun v h ⟨a, vs, q, l, s⟩ => ⟨a, vs.toList, q, by simpa using l, s⟩
theorem slFromI {value a : Expr} {p pos : Pos} {ns : List Int} {i : Nat} (hv : Ev c (eval value env) (IsIs ns)) (ha : Ev c (eval a env) (IsI i)) (hsz : ns.length ≤ sizeLine) :
    Ev c (eval (.Subscript value (.Slice (some a) none none p) pos) env) (IsIs (ns.drop i)) :=
  isB (slLwT (isA hv) (partI ha) partN (fun vs vl vu r ⟨t, e⟩ e' => by
    subst e e'
    have hl := ints_len r
    refine ⟨by rw [← Array.length_toList, hl]; exact hsz, _, _, .int _ _, .none, ?_⟩
    rw [slicePick_from']
    simpa using ints_drop r i))
theorem slToI {value a : Expr} {p pos : Pos} {ns : List Int} {i : Nat} (hv : Ev c (eval value env) (IsIs ns)) (ha : Ev c (eval a env) (IsI i)) (hsz : ns.length ≤ sizeLine) :
    Ev c (eval (.Subscript value (.Slice none (some a) none p) pos) env) (IsIs (ns.take i)) :=
  isB (slLwT (isA hv) partN (partI ha) (fun vs vl vu r e' ⟨t, e⟩ => by
    subst e e'
    have hl := ints_len r
    refine ⟨by rw [← Array.length_toList, hl]; exact hsz, _, _, .none, .int _ _, ?_⟩
    rw [slicePick_upto']
    simpa using ints_take r i))
theorem paired_ints : ∀ {vs : List Value} {ns : List Int}, Paired (fun v (n : Int) => ∃ t, v = .int n t) vs ns → IntsAre vs ns
  | _, _, .nil => .nil
  | _, _, .cons ⟨t, q⟩ r => q ▸ .cons _ t (paired_ints r)
theorem isW_ints {t : Sem Value} {ns : List Int} (h : Ev c t (IsW (fun v (n : Int) => ∃ t, v = .int n t) ns)) : Ev c t (IsIs ns) := EvF.mono h fun v h ⟨a, vs, q, l, r⟩ => ⟨a, vs, q, l, paired_ints r⟩
/-! lists of texts compared -/
theorem strs_eqAt {A : Around} {s : Shared} : ∀ {vs ws : List Value} {xs : List PySem.Str}, StrsAre vs xs → StrsAre ws xs → ∀ j (h1 : j < vs.length) (h2 : j < ws.length), SeqAt.EqAt A s vs[j] ws[j] true
  | _, _, _, .cons x t r, .cons _ u r', 0, _, _ => by
    have := SeqAt.EqAt.str_str (A := A) (s := s) x t x u
    rwa [beq_self_eq_true] at this
  | _, _, _, .cons _ _ r, .cons _ _ r', j + 1, h1, h2 => by
    have := strs_eqAt (A := A) (s := s) r r' j (by simpa using h1) (by simpa using h2)
    simpa using this
theorem all_true (n : Nat) : (List.range n).all (fun _ => true) = true := by simp
theorem neSame {l r : Expr} {pos : Pos} {whole : Sem Value} {xs : List PySem.Str} (hl : Ev c (eval l env) (IsSs xs)) (hr : Ev c (eval r env) (IsSs xs)) (hu : c.A.units < cLine) (hm : behindInMarks .NotEq r = false := by rfl) : Tst c (PySem.isTrue (.Compare l [.NotEq] [r] pos) env whole) false :=
  cmp hl hr (fun _ _ s Q E _ ⟨⟨a, vs, q, la, sa⟩, ⟨b, ws, q', lb, sb⟩⟩ f => by
    subst q q'
    have hsz : vs.length = ws.length := by rw [strsAre_len sa, strsAre_len sb]
    have := SeqAt.RcNeAt.lists (A := c.A) (s := s) (e := fun _ => true) la lb (by simpa using hsz) hu (fun j h1 h2 => by simpa using strs_eqAt sa sb j (by simpa using h1) (by simpa using h2)) c.prog c.w E Q
    refine this ?_
    rw [all_true]
    exact f _ s.heap s.toks rfl Ext.refl) hm
theorem eqSame {l r : Expr} {pos : Pos} {xs : List PySem.Str} (hl : Ev c (eval l env) (IsSs xs)) (hr : Ev c (eval r env) (IsSs xs)) (hu : c.A.units < cLine) (hm : behindInMarks .Eq r = false := by rfl) : Ev c (eval (.Compare l [.Eq] [r] pos) env) (IsB true) :=
  two hl hr (fun _ _ s Q E _ ⟨⟨a, vs, q, la, sa⟩, ⟨b, ws, q', lb, sb⟩⟩ f => by
    subst q q'
    have hsz : vs.length = ws.length := by rw [strsAre_len sa, strsAre_len sb]
    have := SeqAt.RcAt.lists (A := c.A) (s := s) (e := fun _ => true) la lb (by simpa using hsz) hu (fun j h1 h2 => by simpa using strs_eqAt sa sb j (by simpa using h1) (by simpa using h2)) c.prog c.w E Q
    refine this ?_
    rw [all_true]
    exact f _ s.heap s.toks rfl Ext.refl) fun _ _ _ h => wpAny_Compare1 h hm
end
/-! iter -/
theorem entry_iter : entryFor table "iter" = some Builtin.«iter» := entryFor_of_fast (by kernel_rfl)
theorem args_iter (a : Value) : argsOk "iter" ⟨[a], []⟩ := by unfold argsOk; kernel_rfl
theorem call_iter_list {prog : Program} {w : World} {A : Around} {E : Value → Shared → Prop} {s : Shared} {a : Addr} {vs : Array Value} {Q : Value → Shared → Prop} (hl : s.heap.IsList a vs)
    (h : Q (.ref s.heap.objs.size) { s with heap := s.heap.push { cls := .type "list_iterator", data := .fields #[.ref a, .int 0 0] } }) : wpAny (model prog w) A (call (.builtin "iter") [.ref a]) Q E s := by
  refine call_function_entry (by decide +kernel) (by decide +kernel) entry_iter (args_iter _) ?_
  unfold Builtin.«iter»
  refine wpAny_bind (m := someArgs "iter" 1 2 _) (wpAny_of_eq (a := [Value.ref a]) (by first | rfl | kernel_rfl!) ?_)
  show wpAny _ _ (pyIter (.ref a) >>= _) _ _ _
  refine wpAny_bind (wpAny_pyIter_list hl ?_)
  exact wpAny_pure ⟨_, rfl, h⟩
/-! the parts of a text -/
open PySem.Builtin.Str PySem.StrLaws in
theorem parts_len {e : List Nat} (he : Eol e) (ls : List (List Nat)) (h : ∀ l ∈ ls, ∀ c ∈ l, c ≠ 10 ∧ c ≠ 13) :
    (partsBetween (S (ls.flatMap (· ++ e))) (occurrences (S (ls.flatMap (· ++ e))) (S e) 0 (S (ls.flatMap (· ++ e))).length ((S (ls.flatMap (· ++ e))).length + 1)) (S e).length).length = ls.length + 1 := by
  have ep : 1 ≤ e.length := by rcases he with rfl | rfl <;> simp
  obtain ⟨f, hc, hf⟩ := StrLaws.occ_tight (S (ls.flatMap (· ++ e))) (S e) (by rw [S_len]; exact ep)
  have hp := parts_S he ls [] (occurrences (S (ls.flatMap (· ++ e))) (S e) 0 (S (ls.flatMap (· ++ e))).length ((S (ls.flatMap (· ++ e))).length + 1)) f h (by simpa using hc) (by simpa using hf)
  simp only [List.length_nil, List.nil_append] at hp
  have hq : partsBetween (S (ls.flatMap (· ++ e))) (occurrences (S (ls.flatMap (· ++ e))) (S e) 0 (S (ls.flatMap (· ++ e))).length ((S (ls.flatMap (· ++ e))).length + 1)) (S e).length = (ls ++ [[]]).map S := by
    rw [← hp, S_len e]
    exact zip_parts _ _ _ _
  rw [hq]; simp
section
variable {c : Cx} {env : Env}
/-- the parts, a list -/
theorem mSplit {o a : Expr} {apos pos : Pos} {e : List Nat} {ls : List (List Nat)} (ho : Ev c (eval o env) (IsS (S (ls.flatMap (· ++ e))))) (ha : Ev c (eval a env) (IsS (S e))) (he : Eol e) (hne : ls ≠ []) (h : ∀ l ∈ ls, ∀ c ∈ l, c ≠ 10 ∧ c ≠ 13)
    (hsz : (ls.flatMap (· ++ e)).length ≤ 1000000) (hsz2 : ls.length ≤ 1000000) (hbase : attributeBase o "split" env (eval o env) = eval o env := by rfl) (hs : starEach [a] env = [(false, eval a env)] := by rfl) (hline : (apos.endLine == pos.line) = true := by rfl) :
    Ev c (eval (.Call (.Attribute o "split" apos) [a] [] pos) env) (IsSs ((ls ++ [[]]).map S)) :=
  meth1 ho ha F.slot_str_split F.type_str_split (fun t v s Q E k ⟨u, q⟩ f => by
    subst q
    have ep : 1 ≤ e.length := by rcases he with rfl | rfl <;> simp
    have hS : sizeLine = 16777216 := rfl
    refine SCH.split1 (P := fun h' => Ext s.heap h') (fun _ ob a => a.trans (Ext.push ob)) Ext.refl (by rw [S_len]; simp; intro z; rw [z] at ep; simp at ep) (fun D l h' k' hl he' hD => ?_) (by rw [S_len]; omega) (by rw [parts_len he ls h]; omega)
    refine f _ h' k' ⟨D, _, rfl, hD, ?_⟩ he'
    rw [← split_S he ls hne h, ← hl]
    exact strs_values l) hbase hs hline
end
/-! how a wish is shown -/
section
variable {prog : Program} {w : World} {A : Around} {E : Value → Shared → Prop} {s : Shared} {Q : Value → Shared → Prop}
theorem shown_int {n : Int} {r : List Nat} {u : Tok} (hn : n.natAbs.log2 < 1920) (e : PySem.Str.ofString (toString n) = S r) (h : ∀ t k, Q (.str (S r) t) { s with toks := k }) : wpAny (model prog w) A (call (.builtin "repr") [.int n u]) Q E s := by
  refine PySem.P.repr_of_int hn ?_
  rw [e]; exact h _ _
theorem shown_str {x r : List Nat} {u : Tok} (e : PySem.reprText (S x) = S r) (hr : r.length ≤ 100) (h : ∀ t k, Q (.str (S r) t) { s with toks := k }) : wpAny (model prog w) A (call (.builtin "repr") [.str (S x) u]) Q E s := by
  have hS : sizeLine = 16777216 := rfl
  refine PySem.P.repr_of_str ?_ (by rw [e, S_len]; omega)
  rw [e]; exact h _ _
theorem OddIs.shown {v : Value} {n : Int} {r : List Nat} (o : OddIs v n r) (h : ∀ t k, Q (.str (S r) t) { s with toks := k }) : wpAny (model prog w) A (call (.builtin "repr") [v]) Q E s := by
  cases o with
  | i0 u => exact shown_int (by decide +kernel) (by decide +kernel) h
  | i3 u => exact shown_int (by decide +kernel) (by decide +kernel) h
  | m1 u => exact shown_int (by decide +kernel) (by decide +kernel) h
  | s0 u => exact shown_str (by decide +kernel) (by decide) h
  | s3 u => exact shown_str (by decide +kernel) (by decide) h
  | i12 u => exact shown_int (by decide +kernel) (by decide +kernel) h
end
/-! cells -/
theorem nd_cell {o : Obj} {v : Option Value} (h : o.data = .cell v) : ¬ nd o := fun k => by unfold nd ndB at k; rw [h] at k; cases k
theorem Cx.ok.cell {c : Cx} {h h' : Heap} {i : Nat} {a : Addr} {o : Obj} {v : Value} (k : c.ok h) (hi : c.mu[i]? = some (a, o)) (hap : ∀ j q, c.mu[j]? = some q → j ≠ i → q.1 ≠ a) (hc : h'.IsCell a (some v)) (hs : Heap.SameBut a h h') :
    ∃ o', o'.data = .cell (some v) ∧ (c.atM c.m (c.mu.set i (a, o'))).ok h' := by
  obtain ⟨o', ho', hd'⟩ := hc
  have hm : (a, o) ∈ c.mu := List.mem_of_getElem? hi
  obtain ⟨h1, h2, h3, h4⟩ := k.own _ hm
  refine ⟨o', hd', ⟨k.fr.ns.sameBut hs (Ne.symm h2), fun b ob e => hs.extBut b ob (fun z => by rw [z, h3] at e; cases e) (k.fr.keep b ob e), k.fr.above⟩, fun b ob e n => hs.extBut b ob (fun z => by rw [z] at e; exact h4 _ e n) (k.back b ob e n), fun p hp => ?_⟩
  obtain ⟨j, hj⟩ := List.mem_iff_getElem?.mp hp
  rw [List.getElem?_set] at hj
  split at hj
  · split at hj
    · cases hj
      exact ⟨ho', h2, h3, h4⟩
    · cases hj
  · next hne =>
    have := k.own _ (List.mem_of_getElem? hj)
    exact ⟨hs.extBut _ _ (hap j p hj (Ne.symm hne)) this.1, this.2⟩
section
variable {c : Cx} {env : Env} {hh : Heap} {gs : Array GenState} {dr : Drawn} {tk₀ : Nat} {os : OsState} {Q : Flow → Shared → Prop} {E : Value → Shared → Prop}
theorem stCell {x : PySem.Str} {i : Nat} {a : Addr} {o : Obj} {v₀ : Option Value} {v : Value} {Q : Unit → Shared → Prop} (k : c.ok hh) (hi : c.mu[i]? = some (a, o)) (hd : o.data = .cell v₀) (hap : ∀ j q, c.mu[j]? = some q → j ≠ i → q.1 ≠ a)
    (h : ∀ h' tk o', ExtD hh h' → o'.data = .cell (some v) → (c.atM c.m (c.mu.set i (a, o'))).ok h' → Q () ⟨h', gs, dr, tk, os⟩)
    (hc : env.cells.lookup x = some a) (hk : env.scope.kind = .function := by rfl) (hl : env.kindOf x = some .cell := by rfl) :
    wpAny (model c.prog c.w) c.A (storeName env x v) Q E ⟨hh, gs, dr, tk₀, os⟩ := by
  obtain ⟨h1, h2, h3, h4⟩ := k.own _ (List.mem_of_getElem? hi)
  refine wpAny_storeName_cell hk hl hc ⟨o, h1, hd⟩ fun h' hc' hs' => ?_
  obtain ⟨o', hd', k'⟩ := k.cell hi hap hc' hs'
  exact h h' _ o' (fun b ob e n => hs'.extBut b ob (fun z => by
    have hd1 : h1 = h1 := rfl
    rw [z] at e
    have : (a, o).1 = a := rfl
    rw [h1] at e
    cases e
    exact nd_cell hd n) e) hd' k'
end
end Mine
end
section
open PySem PySem.W PyProof.Rows PySem.Calls
set_option linter.unusedVariables false
set_option maxRecDepth 100000
set_option maxHeartbeats 1000000
namespace Mine
noncomputable def lSc : Scope := match st 28 with | .FunctionDef _ _ _ _ _ _ scope _ _ _ => scope | _ => default
noncomputable def lBd : List Stmt := match st 28 with | .FunctionDef _ _ body _ _ _ _ _ _ _ => body | _ => []
noncomputable def lFd : FuncData := fd 28 3 .none (.str ⟨#[108, 97, 119, 95, 110, 98, 48, 49, 57, 51, 95, 48, 49]⟩ 1801) (.ref 102)
noncomputable def lEnv (L : Addr) : Env := callEnvC lFd L 103
theorem lc1 (L : Addr) : (lEnv L).cells.lookup (Str.ofString "limit") = some (L + 1) := by rfl
theorem lc2 (L : Addr) : (lEnv L).cells.lookup (Str.ofString "ending") = some (L + 1 + 1) := by rfl
theorem lc3 (L : Addr) : (lEnv L).cells.lookup (Str.ofString "side") = some (L + 1 + 1 + 1) := by rfl
theorem lc4 (L : Addr) : (lEnv L).cells.lookup (Str.ofString "code") = some (L + 1 + 1 + 1 + 1) := by rfl
noncomputable abbrev lMu (L : Addr) (o1 o2 o3 o4 : Obj) : List (Addr × Obj) := [(L + 1, o1), (L + 1 + 1, o2), (L + 1 + 1 + 1, o3), (L + 1 + 1 + 1 + 1, o4)]
/-- the law's context -/
noncomputable abbrev LX (prog : Program) (w : World) (A : Around) (hB : Heap) (L : Addr) (m : PySem.Str → Option Value) (g : Heap) (o1 o2 o3 o4 : Obj) : Cx := Cx.mk prog w A hB L m g (lMu L o1 o2 o3 o4)
theorem lMu_apart {L : Addr} {o1 o2 o3 o4 : Obj} : ∀ (i j : Nat) (p q : Addr × Obj), (lMu L o1 o2 o3 o4)[i]? = some p → (lMu L o1 o2 o3 o4)[j]? = some q → j ≠ i → q.1 ≠ p.1 := by
  intro i j p q hi hj hne hq
  have key : ∀ k r, (lMu L o1 o2 o3 o4)[k]? = some r → @Eq Nat r.1 (L + 1 + k) := by
    intro k r hr
    match k, hr with
    | 0, hr => cases hr; rfl
    | 1, hr => cases hr; rfl
    | 2, hr => cases hr; rfl
    | 3, hr => cases hr; rfl
    | k + 4, hr => simp at hr
  have h1 := key i p hi
  have h2 := key j q hj
  have h3 : @Eq Nat q.1 p.1 := hq
  omega
section
variable {prog : Program} {w : World} {A : Around} {E : Value → Shared → Prop}
theorem law_enter {s : Shared} {l : Addr} {vs : List Value} {ns : List Int} {Q : Value → Shared → Prop} (G : Gd w s.heap) (hroom : A.depth < recursionLimit) (hL : s.heap.IsList l vs.toArray) (hI : IntsAre vs ns)
    (h : ∀ (L : Addr) (m : PySem.Str → Option Value) (g : Heap) (o1 o2 o3 o4 : Obj) (h₁ : Heap) (tk : Nat) (Q' : Flow → Shared → Prop) (E' : Value → Shared → Prop), (LX prog w (A.deeper (lEnv L)) s.heap L m g o1 o2 o3 o4).ok h₁ → (∃ v, m (Str.ofString "script") = some v ∧ (IsIs ns).p v g) →
      o1.data = .cell none → o2.data = .cell none → o3.data = .cell none → o4.data = .cell none →
      (∀ v h' gs' tk', (Q v ⟨h', gs', s.drawn, tk', s.os⟩) → Q' (.ret v) ⟨h', gs', s.drawn, tk', s.os⟩) →
      wpAny (model prog w) (A.deeper (lEnv L)) (execs lBd (lEnv L)) Q' E' ⟨h₁, s.gens, s.drawn, tk, s.os⟩) :
    wpAny (model prog w) A (call (.ref 103) [.ref l]) Q E s := by
  obtain ⟨p, lo, mg, mb, T⟩ := G.T
  have X := G.X
  refine wpAny_call (codeAny_call_cells (fd := lFd) (body := lBd) (binds := [(Str.ofString "script", .ref l)]) hroom (X 103 (x103_0 w.params) (by rfl)) rfl T.nolimit (codeRec_of X (by rfl)) rfl (by rfl) rfl ?_ ?_)
  · intro x hx
    rcases List.mem_cons.mp hx with rfl | hx
    · exact .inl (by rfl)
    · cases hx
  intro s₁ inC
  obtain ⟨⟨⟨h₁, tk, rfl⟩, hns, hk, hf⟩, hcell, hap, hab⟩ := inC
  have ext : Ext s.heap h₁ := hk
  obtain ⟨o1, a1, d1⟩ := hcell _ _ (lc1 s.heap.objs.size)
  obtain ⟨o2, a2, d2⟩ := hcell _ _ (lc2 s.heap.objs.size)
  obtain ⟨o3, a3, d3⟩ := hcell _ _ (lc3 s.heap.objs.size)
  obtain ⟨o4, a4, d4⟩ := hcell _ _ (lc4 s.heap.objs.size)
  have d1' : o1.data = .cell none := d1
  have d2' : o2.data = .cell none := d2
  have d3' : o3.data = .cell none := d3
  have d4' : o4.data = .cell none := d4
  have nb : ∀ b : Addr, s.heap.objs.size ≤ b → s.heap.get? b = none := fun b hb => by
    cases hx : s.heap.get? b with
    | none => rfl
    | some o => exact absurd (Heap.lt_size hx) (Nat.not_lt.mpr hb)
  have own : ∀ (b : Addr) (o : Obj), @LT.lt Nat _ s.heap.objs.size b → h₁.get? b = some o → o.data = .cell none → h₁.get? b = some o ∧ b ≠ s.heap.objs.size ∧ s.heap.get? b = none ∧ NoNd h₁ b := fun b o hb hg hd =>
    ⟨hg, fun z => by have z' : @Eq Nat b s.heap.objs.size := z; omega, nb b (Nat.le_of_lt hb), fun o' e n => by rw [hg] at e; cases e; exact nd_cell hd n⟩
  have hns' : h₁.Ns s.heap.objs.size (bindL (lEnv s.heap.objs.size).kindOf [(Str.ofString "script", .ref l)] fun _ => none) := hns
  refine h s.heap.objs.size _ h₁ o1 o2 o3 o4 h₁ tk _ _ ⟨⟨hns', hk, Nat.le_refl _⟩, ExtD.refl, ?_⟩ ⟨.ref l, by rfl, l, vs, rfl, (by obtain ⟨o, ho, q⟩ := hL; exact ⟨o, ext _ _ ho, q⟩), hI⟩ d1' d2' d3' d4' ?_
  · intro p hp
    rcases List.mem_cons.mp hp with rfl | hp
    · exact own _ _ (by show s.heap.objs.size < s.heap.objs.size + 1; omega) a1 d1'
    · rcases List.mem_cons.mp hp with rfl | hp
      · exact own _ _ (by show s.heap.objs.size < s.heap.objs.size + 1 + 1; omega) a2 d2'
      · rcases List.mem_cons.mp hp with rfl | hp
        · exact own _ _ (by show s.heap.objs.size < s.heap.objs.size + 1 + 1 + 1; omega) a3 d3'
        · rcases List.mem_cons.mp hp with rfl | hp
          · exact own _ _ (by show s.heap.objs.size < s.heap.objs.size + 1 + 1 + 1 + 1; omega) a4 d4'
          · cases hp
  · intro v h' gs' tk' q
    exact q
end
end Mine
end
section
open PySem PySem.W PyProof.Rows PySem.Calls
set_option linter.unusedVariables false
set_option maxRecDepth 100000
set_option maxHeartbeats 1000000
namespace Mine
section
variable {c : Cx} {env : Env} {hh : Heap} {gs : Array GenState} {dr : Drawn} {tk₀ : Nat} {os : OsState} {Q : Flow → Shared → Prop} {E : Value → Shared → Prop}
theorem sAssignC {x : PySem.Str} {pos' pos : Pos} {value : Expr} {rest : List Stmt} {P : VP} {i : Nat} {a : Addr} {o : Obj} {v₀ : Option Value} (k : c.ok hh) (hi : c.mu[i]? = some (a, o)) (hd : o.data = .cell v₀) (hap : ∀ j q, c.mu[j]? = some q → j ≠ i → q.1 ≠ a) (he : Ev c (eval value env) P)
    (h : ∀ v h' tk o', P.p v h' → o'.data = .cell (some v) → (c.atM c.m (c.mu.set i (a, o'))).ok h' → wpAny (model c.prog c.w) c.A (execs rest env) Q E ⟨h', gs, dr, tk, os⟩)
    (hc : env.cells.lookup x = some a) (hk : env.scope.kind = .function := by rfl) (hl : env.kindOf x = some .cell := by rfl) (hsw : swapsWith value (some (.Name x pos')) pos.line env = pure false := by rfl) :
    wpAny (model c.prog c.w) c.A (execs (.Assign [.Name x pos'] value pos :: rest) env) Q E ⟨hh, gs, dr, tk₀, os⟩ := by
  refine wpAny_execs_cons (wpAny_Assign_Name (he ⟨hh, gs, dr, tk₀, os⟩ _ E k trivial fun v h' tk p e => ?_) hsw)
  exact stCell (k.ext e) hi hd hap (fun h'' tk' o' ed hd' k' => h v h'' tk' o' (P.st ed p) hd' k') hc hk hl
/-- two cells at once, from a pair that is written -/
theorem sPairC {x y : PySem.Str} {p₁ p₂ tp vp pos : Pos} {k₁ k₂ : Nat} {e₁ e₂ : Expr} {rest : List Stmt} {P P' : VP} {i j : Nat} {a b : Addr} {o u : Obj} {v₀ u₀ : Option Value} (k : c.ok hh) (hA : c.A.handled = none) (hij : j ≠ i)
    (hi : c.mu[i]? = some (a, o)) (hd : o.data = .cell v₀) (hj : c.mu[j]? = some (b, u)) (hu : u.data = .cell u₀) (hap : ∀ (i' j' : Nat) (q q' : Addr × Obj), c.mu[i']? = some q → c.mu[j']? = some q' → j' ≠ i' → q'.1 ≠ q.1)
    (he : Ev c (eval e₁ env) P) (he' : Ev c (eval e₂ env) P')
    (h : ∀ v v' h' tk o' u', P.p v h' → P'.p v' h' → o'.data = .cell (some v) → u'.data = .cell (some v') → (c.atM c.m ((c.mu.set i (a, o')).set j (b, u'))).ok h' → wpAny (model c.prog c.w) c.A (execs rest env) Q E ⟨h', gs, dr, tk, os⟩)
    (hcx : env.cells.lookup x = some a) (hcy : env.cells.lookup y = some b) (hk : env.scope.kind = .function := by rfl) (hlx : env.kindOf x = some .cell := by rfl) (hly : env.kindOf y = some .cell := by rfl)
    (hs : swapsWithSole [.Tuple [.Name x p₁, .Name y p₂] k₁ tp] (.Tuple [e₁, e₂] k₂ vp) pos.line env = pure false := by rfl)
    (hw : swappedStores [.Tuple [.Name x p₁, .Name y p₂] k₁ tp] (.Tuple [e₁, e₂] k₂ vp) env = pure none := by rfl)
    (h1 : starEach [e₁, e₂] env = (false, eval e₁ env) :: starEach [e₂] env := by rfl) (h2 : starEach [e₂] env = (false, eval e₂ env) :: starEach [] env := by rfl) :
    wpAny (model c.prog c.w) c.A (execs (.Assign [.Tuple [.Name x p₁, .Name y p₂] k₁ tp] (.Tuple [e₁, e₂] k₂ vp) pos :: rest) env) Q E ⟨hh, gs, dr, tk₀, os⟩ := by
  refine wpAny_execs_cons (Assign_Tuple (Tuple_ (spliced_more (he ⟨hh, gs, dr, tk₀, os⟩ _ E k trivial fun v h₁ tk₁ p e₁' => spliced_more (he' _ _ E (k.ext e₁') trivial fun v' h₂ tk₂ p' e₂' => spliced_none (wpAny_newObj_type ?_ (by show 2 ≤ sizeLine; decide))) h2) h1)) hs hw)
  have k₂' := (k.ext e₁').ext e₂'
  refine assign_Tuple_tuple (items := #[v, v']) hA ⟨_, Heap.get?_push_size _ rfl, rfl, 0, rfl⟩ rfl rfl fun h₃ he₃ => ?_
  have e₃ : Ext h₂ h₃ := fun b o z => he₃ b o (fun q => by
    have hz := Heap.lt_size z
    rw [q, Heap.size_push] at hz
    exact absurd hz (Nat.not_lt.mpr (Nat.le_succ _))) (Heap.get?_push_of_some _ z)
  show wpAny _ _ (do holding [v'] (assign (.Name x p₁) env v); assignInOrder [assign (.Name y p₂) env] [v']) _ _ _
  have k₃ := k₂'.ext e₃
  refine wpAny_bind (wpAny_holding (wpAny_assign_Name (stCell k₃ hi hd (fun j' q' hj' hne => hap i j' _ _ hi hj' hne) (fun h₄ tk₄ o' d₄ hd₄ k₄ => ?_) hcx hk hlx)))
  show wpAny _ _ (do holding [] (assign (.Name y p₂) env v'); assignInOrder [] []) _ _ _
  have hj₄ : (c.mu.set i (a, o'))[j]? = some (b, u) := by rw [List.getElem?_set_ne (Ne.symm hij)]; exact hj
  refine wpAny_bind (wpAny_holding (wpAny_assign_Name (stCell (c := c.atM c.m (c.mu.set i (a, o'))) k₄ hj₄ hu (fun j' q' hj' hne => ?_) (fun h₅ tk₅ u' d₅ hd₅ k₅ => wpAny_pure ?_) hcy hk hly)))
  · have hj'' : (c.mu.set i (a, o'))[j']? = some q' := hj'
    by_cases hji : i = j'
    · subst hji
      rw [List.getElem?_set_self (List.getElem?_eq_some_iff.mp hi).1] at hj''
      cases hj''
      exact hap j i (b, u) (a, o) hj hi (Ne.symm hij)
    · rw [List.getElem?_set_ne hji] at hj''
      exact hap j j' _ _ hj hj'' hne
  · exact h v v' h₅ tk₅ o' u' (P.st (((e₂'.trans e₃).toD.trans d₄).trans d₅) p) (P'.st ((e₃.toD.trans d₄).trans d₅) p') hd₄ hd₅ k₅
end
end Mine
end
section
open PySem PySem.W PyProof.Rows PySem.Calls
set_option linter.unusedVariables false
set_option maxRecDepth 100000
set_option maxHeartbeats 1000000
namespace Mine
/-! what the law's script says -/
noncomputable def numsOf (ns : List Int) : List Int := (if ns = [] then [0, 498, 2] else ns).take 5
noncomputable def limOf (f : Int) : Nat := 4 + (Int.fmod f 13).toNat
noncomputable def eolOf (f : Int) : List Nat := if Int.fmod (Int.fdiv f 13) 2 = 0 then [10] else [13, 10]
noncomputable def oddL : List (Int × List Nat) := [(0, [48]), (3, [51]), (-1, [45, 49]), (0, [39, 48, 39]), (3, [39, 32, 51, 39]), (12, [49, 50])]
noncomputable def sideOf (f : Int) : Int := Int.fmod (Int.fdiv f 156) 2
theorem eol_ok (f : Int) : Eol (eolOf f) := by unfold eolOf; split; exact .inl rfl; exact .inr rfl
theorem lim_ok (f : Int) : 4 ≤ limOf f ∧ limOf f ≤ 1000 := by
  have := fmod_lt (a := f) (b := 13) (by decide)
  unfold limOf; omega
theorem side_ok (f : Int) : sideOf f = 0 ∨ sideOf f = 1 := by
  have := fmod_lt (a := Int.fdiv f 156) (b := 2) (by decide)
  unfold sideOf; omega
theorem nums_first (ns : List Int) : ∃ f r, numsOf ns = f :: r ∧ r.length ≤ 4 := by
  unfold numsOf
  cases ns with
  | nil => exact ⟨0, [498, 2], rfl, by decide⟩
  | cons n ns => exact ⟨n, ns.take 4, rfl, by rw [List.length_take]; omega⟩
theorem eol_get {i : Int} (h : 0 ≤ i ∧ i < 2) : ([S [10], S [13, 10]] : List PySem.Str)[i.toNat]? = some (S (if i = 0 then [10] else [13, 10])) := by
  have : i = 0 ∨ i = 1 := by omega
  rcases this with rfl | rfl <;> rfl
theorem odd_get {i : Int} (h : 0 ≤ i ∧ i < 6) : ∃ q, oddL[i.toNat]? = some q := by
  have : i.toNat < oddL.length := by show i.toNat < 6; omega
  exact ⟨_, List.getElem?_eq_getElem this⟩
theorem lMu_nd {L : Addr} {o1 o2 o3 o4 : Obj} {v1 v2 v3 v4 : Option Value} (d1 : o1.data = .cell v1) (d2 : o2.data = .cell v2) (d3 : o3.data = .cell v3) (d4 : o4.data = .cell v4) : ∀ p ∈ lMu L o1 o2 o3 o4, ¬ nd p.2 := by
  intro p hp
  rcases List.mem_cons.mp hp with rfl | hp
  · exact nd_cell d1
  · rcases List.mem_cons.mp hp with rfl | hp
    · exact nd_cell d2
    · rcases List.mem_cons.mp hp with rfl | hp
      · exact nd_cell d3
      · rcases List.mem_cons.mp hp with rfl | hp
        · exact nd_cell d4
        · cases hp
/-- what stands behind the law's head -/
structure LA (f : Int) (nums : List Int) (m : PySem.Str → Option Value) (g : Heap) (o1 o2 o3 : Obj) : Prop where
  numbers : ∃ v, m (Str.ofString "numbers") = some v ∧ (IsIs nums).p v g
  odd : ∃ (v : Value) (q : Int × List Nat), m (Str.ofString "odd") = some v ∧ OddIs v q.1 q.2
  lim : ∃ t, o1.data = .cell (some (.int (limOf f) t))
  eol : ∃ t, o2.data = .cell (some (.str (S (eolOf f)) t))
  side : ∃ t, o3.data = .cell (some (.int (sideOf f) t))
section
variable {prog : Program} {w : World} {A : Around} {E : Value → Shared → Prop}
theorem law_a {hB : Heap} {L : Addr} {m : PySem.Str → Option Value} {g hh : Heap} {o1 o2 o3 o4 : Obj} {ns : List Int} {Q : Flow → Shared → Prop} {gs : Array GenState} {dr : Drawn} {tk₀ : Nat} {os : OsState} (hA : A.handled = none)
    (k : (LX prog w A hB L m g o1 o2 o3 o4).ok hh) (hs : ∃ v, m (Str.ofString "script") = some v ∧ (IsIs ns).p v g) (hlen : ns.length ≤ 63) (d1 : o1.data = .cell none) (d2 : o2.data = .cell none) (d3 : o3.data = .cell none) (d4 : o4.data = .cell none)
    (h : ∀ f r m' g' o1' o2' o3' h' tk', numsOf ns = f :: r → (LX prog w A hB L m' g' o1' o2' o3' o4).ok h' → LA f (f :: r) m' g' o1' o2' o3' → wpAny (model prog w) A (execs (lBd.drop 5) (lEnv L)) Q E ⟨h', gs, dr, tk', os⟩) :
    wpAny (model prog w) A (execs lBd (lEnv L)) Q E ⟨hh, gs, dr, tk₀, os⟩ := by
  have hS : sizeLine = 16777216 := rfl
  obtain ⟨vS, hvS, hpS⟩ := hs
  obtain ⟨f, r, hnum, hr4⟩ := nums_first ns
  have hcut : ([0, 498, 2] : List Int).length ≤ 1000 := by decide
  -- numbers
  refine sAssignG (c := LX prog w A hB L m g o1 o2 o3 o4) (P := IsIs (numsOf ns)) k (lMu_nd d1 d2 d3 d4) ?_ ?_
  · refine slToI (i := 5) (orIs (nmF hvS hpS) (isW_ints (lsW (sw1 (P := IsI 0) cI (fun _ _ p => p) (sw1 (P := IsI 498) cI (fun _ _ p => p) (sw1 (P := IsI 2) cI (fun _ _ p => p) sw0))) (by show 3 ≤ sizeLine; omega))) (by omega)) cI ?_
    split
    · show 3 ≤ sizeLine; omega
    · omega
  intro vn g₁ h₁ tk₁ p₁ eg₁ k₁
  have n1 : upd m (Str.ofString "numbers") vn (Str.ofString "numbers") = some vn := upd_same
  rw [hnum] at p₁
  dsimp only at k₁ ⊢
  generalize upd m (Str.ofString "numbers") vn = m₁ at k₁ n1
  -- first
  refine sAssign (c := LX prog w A hB L m₁ g₁ o1 o2 o3 o4) (P := IsI f) k₁ (itIs (ns := f :: r) (i := 0) (nmF n1 p₁) cI (by decide) (by decide) rfl) ?_
  intro vf h₂ tk₂ p₂ k₂
  have n2 : HI (upd m₁ (Str.ofString "first") vf) (Str.ofString "first") f := HI.of p₂
  have n1' : upd m₁ (Str.ofString "first") vf (Str.ofString "numbers") = some vn := (upd_ne (by decide)).trans n1
  dsimp only at k₂ ⊢
  generalize upd m₁ (Str.ofString "first") vf = m₂ at k₂ n1' n2
  -- limit, ending
  have f1 := fmod_lt (a := f) (b := 13) (by decide)
  have f2 := fmod_lt (a := Int.fdiv f 13) (b := 2) (by decide)
  have f3 := fmod_lt (a := Int.fdiv f 26) (b := 6) (by decide)
  refine sPairC (c := LX prog w A hB L m₂ g₁ o1 o2 o3 o4) (P := IsI (limOf f : Nat)) (P' := IsS (S (eolOf f))) (i := 0) (j := 1) k₂ hA (by decide) rfl d1 rfl d2 lMu_apart ?_ ?_ ?_ (lc1 L) (lc2 L)
  · exact evI_eq (addI cI (modI (by decide) (nI n2) cI)) (by unfold limOf; omega)
  · exact itSs (xs := [S [10], S [13, 10]]) (i := Int.fmod (Int.fdiv f 13) 2) (lsS (sp1 (cSl (by decide)) (sp1 (cSl (by decide)) sp0)) (by show 2 ≤ sizeLine; omega)) (modI (by decide) (divI (by decide) (noPy (by decide)) (nI n2) cI) cI) f2.1 (by omega) (eol_get f2)
  intro v1 v2 h₃ tk₃ u1 u2 p1 p2 e1 e2 k₃
  have k₃' : (LX prog w A hB L m₂ g₁ u1 u2 o3 o4).ok h₃ := k₃
  clear k₃
  -- odd
  obtain ⟨q, hq⟩ := odd_get f3
  refine sAssign (c := LX prog w A hB L m₂ g₁ u1 u2 o3 o4) (P := IsF fun v => OddIs v q.1 q.2) k₃' ?_ ?_
  · refine itW (F := fun v (q : Int × List Nat) => OddIs v q.1 q.2) (xs := oddL) (i := Int.fmod (Int.fdiv f 26) 6) (lsW ?_ (by show 6 ≤ sizeLine; omega)) (modI (by decide) (divI (by decide) (noPy (by decide)) (nI n2) cI) cI) f3.1 (by omega) hq
    refine sw1 (P := IsI 0) cI (fun v _ ⟨t, z⟩ => z ▸ .i0 t) (sw1 (P := IsI 3) cI (fun v _ ⟨t, z⟩ => z ▸ .i3 t) (sw1 (P := IsI (-1)) (negI cI) (fun v _ ⟨t, z⟩ => z ▸ .m1 t) (sw1 (P := IsS (S [48])) (cSl (by decide)) (fun v _ ⟨t, z⟩ => z ▸ .s0 t) (sw1 (P := IsS (S [32, 51])) (cSl (by decide)) (fun v _ ⟨t, z⟩ => z ▸ .s3 t) (sw1 (P := IsI 12) cI (fun v _ ⟨t, z⟩ => z ▸ .i12 t) sw0)))))
  intro vo h₄ tk₄ p₄ k₄
  have n3 : upd m₂ (Str.ofString "odd") vo (Str.ofString "odd") = some vo := upd_same
  have n2' : HI (upd m₂ (Str.ofString "odd") vo) (Str.ofString "first") f := n2.ne
  have n1'' : upd m₂ (Str.ofString "odd") vo (Str.ofString "numbers") = some vn := (upd_ne (by decide)).trans n1'
  dsimp only at k₄ ⊢
  generalize upd m₂ (Str.ofString "odd") vo = m₃ at k₄ n1'' n2' n3
  -- side
  refine sAssignC (c := LX prog w A hB L m₃ g₁ u1 u2 o3 o4) (P := IsI (sideOf f)) (i := 2) k₄ rfl d3 (fun j q hj hne => lMu_apart 2 j _ _ rfl hj hne) (modI (by decide) (divI (by decide) (noPy (by decide)) (nI n2') cI) cI) ?_ (lc3 L)
  intro v3 h₅ tk₅ u3 p3 e3 k₅
  have k₅' : (LX prog w A hB L m₃ g₁ u1 u2 u3 o4).ok h₅ := k₅
  clear k₅
  refine h f r m₃ g₁ u1 u2 u3 h₅ tk₅ hnum k₅' ⟨⟨vn, n1'', p₁⟩, ⟨vo, q, n3, p₄⟩, ?_, ?_, ?_⟩
  · obtain ⟨t, z⟩ := p1; exact ⟨t, z ▸ e1⟩
  · obtain ⟨t, z⟩ := p2; exact ⟨t, z ▸ e2⟩
  · obtain ⟨t, z⟩ := p3; exact ⟨t, z ▸ e3⟩
end
end Mine
end
section
open PySem PySem.W PyProof.Rows PySem.Calls
set_option linter.unusedVariables false
set_option maxRecDepth 100000
set_option maxHeartbeats 1000000
namespace Mine
section
variable {c : Cx} {env : Env}
/-- a tuple's text -/
theorem itTs {value slice : Expr} {pos : Pos} {xs : List PySem.Str} {j : Nat} {x : PySem.Str} (hv : Ev c (eval value env) (IsTs xs)) (hs : Ev c (eval slice env) (IsI j)) (hj : j < 1000) (hx : xs[j]? = some x)
    (hq : ∀ a u, subscripted slice false (Value.ref a) (Value.int j u) = operate [Value.ref a, Value.int j u] (getItem (Value.ref a) (Value.int j u)) := by intros; rfl) : Ev c (eval (.Subscript value slice pos) env) (IsS x) :=
  subs hv hs fun _ _ s _ _ _ ⟨⟨a, vs, e, l, ss⟩, ⟨_, e'⟩⟩ f => by
    subst e e'
    obtain ⟨t, hv⟩ := strsAre_get ss hx
    have hlt : j < vs.length := (List.getElem?_eq_some_iff.mp hv).1
    have hsi : seqIndex? (j : Int) vs.length = some j := by
      unfold seqIndex?
      simp only [Int.toNat_natCast]
      split
      · omega
      · first
          | (simp; omega)
          | (split <;> simp_all <;> omega)
    exact item_tupleT l (by omega) (by omega) hsi hv (f _ s.heap s.toks ⟨t, rfl⟩ Ext.refl) (hq _ _)
/-- a def of the text called, from a heap that is known -/
theorem callK2g {f e₁ e₂ : Expr} {pos : Pos} {a : Addr} {K : Frag} {P P' : VP} {R : Value → Heap → Prop} {g₀ : Heap} (X : K.In c.h₀) (hk : keepIn K (.ref a) = true) (hf : Ev c (eval f env) (IsV (.ref a))) (he : Ev c (eval e₁ env) P) (he' : Ev c (eval e₂ env) P') (hc : ∀ v v', EvF c (fun h => c.ok g₀ ∧ Ext g₀ h ∧ P.p v h ∧ P'.p v' h) (call (.ref a) [v, v']) R)
    (h1 : starEach [e₁, e₂] env = (false, eval e₁ env) :: starEach [e₂] env := by rfl) (h1' : starEach [e₂] env = (false, eval e₂ env) :: starEach [] env := by rfl) (h3 : ((backTo pos (starEach [e₂] env)).any fun x => x.1) = false := by rfl)
    (h2 : eval (.Call f [e₁, e₂] [] pos) env = (do let fv ← eval f env; callWith pos fv [] (backTo pos (starEach [e₁, e₂] env)) (backToKw pos (keywordEach [] env))) := by rfl) : EvF c (fun h => h = g₀) (eval (.Call f [e₁, e₂] [] pos) env) R :=
  fun s Q E k hg fin => Call_ (hf s _ E k trivial fun fv h' tk q e => by
    cases q
    subst hg
    exact callWith_K X hk (spliced_more (he _ _ E (k.ext e) trivial fun v h'' tk' p e' => spliced_more (he' _ _ E ((k.ext e).ext e') trivial fun v' h₄ tk₄ p' e₄ => spliced_none ⟨X.keeps (((k.ext e).ext e').ext e₄).base, hc v v' _ Q E (((k.ext e).ext e').ext e₄) ⟨k, (e.trans e').trans e₄, P.st e₄.toD p, p'⟩ fun r h₃ tk₃ r' e₃ => fin r h₃ tk₃ r' (((e.trans e').trans e₄).trans e₃)⟩) h1') h1) h1 h3) h2
/-- a comprehension that makes texts -/
theorem evMapS {β : Type} {scope : Scope} {cl : List (PySem.Str × Addr)} {x : PySem.Str} {elt iter : Expr} {px pos : Pos} {G : Value → β → Prop} {xs : List β} {f : β → PySem.Str} (hA : c.A.handled = none) (ok : CompOk scope env cl x)
    (hsrc : Ev c (eval iter env) (IsW G xs)) (hsz : xs.length ≤ sizeLine) (hdet : ∀ v b b', G v b → G v b' → f b = f b')
    (hb : ∀ h₁ g C m v b, c.ok h₁ → Ext h₁ g → G v b → b ∈ xs → m x = some v → Ev (c.c2 C m g) (eval elt (compEnvC scope cl C env)) (IsS (f b))) (hf : ∀ x, foldedSetIterable iter env x = pure x := by intro _; rfl) :
    Ev c (eval (.ListComp elt [⟨.Name x px, iter, [], 0⟩] scope pos) env) (IsSs (xs.map f)) := by
  have hs := srcL (c := c) (R := fun vs h => Paired G vs xs) hA hsrc (fun vs h r => by rw [Paired.len r]; exact hsz)
  refine EvF.mono (evComp2 (px := px) (pos := pos) (pre := fun _ => True) (elt := elt) (ifs := []) ok hs (fun _ => true) (fun v y => ∀ b, b ∈ xs → G v b → ∃ t, y = .str (f b) t) ?_ hf) ?_
  · rintro h₀ n P h₁ _ e k₁ ⟨vs, r, rfl, rfl⟩
    refine ⟨fun g C m i v _ _ _ _ => .inl ⟨rfl, rfl⟩, fun g C m i v _ eg hP _ hm => ?_⟩
    obtain ⟨b, hbm, hGb⟩ : ∃ b, b ∈ xs ∧ G v b := by
      have hlt : i < xs.length := by rw [← Paired.len r]; exact (List.getElem?_eq_some_iff.mp hP).1
      obtain ⟨v', hv', hG'⟩ := paired_get r (List.getElem?_eq_getElem hlt)
      rw [hP] at hv'
      cases hv'
      exact ⟨_, List.getElem_mem hlt, hG'⟩
    refine EvF.mono (hb h₁ g C m v b k₁ eg hGb hbm hm) fun y h ⟨t, q⟩ b' _ hG' => ⟨t, ?_⟩
    rw [q, hdet v b b' hGb hG']
  · rintro v h ⟨D, ys, n, P, h₁, us, rfl, hl, ⟨vs, r, rfl, rfl⟩, e, hlen, hP, hF⟩
    have huv : us = vs := List.ext_getElem? fun j => by
      cases hu : us[j]? with
      | some v => exact (hP j v hu).symm
      | none =>
        have h1 := List.getElem?_eq_none_iff.mp hu
        exact (List.getElem?_eq_none_iff.mpr (by omega)).symm
    subst huv
    rw [List.filter_eq_self.mpr fun _ _ => rfl] at hF
    refine ⟨D, ys, rfl, hl, ?_⟩
    have key : ∀ (us ys : List Value) (zs : List β), (∀ b ∈ zs, b ∈ xs) → Paired G us zs → Paired (fun v y => ∀ b, b ∈ xs → G v b → ∃ t, y = Value.str (f b) t) us ys → StrsAre ys (zs.map f) := by
      intro us ys zs hz hg
      induction hg generalizing ys with
      | nil => intro h; cases h; exact .nil
      | cons hga _ ih =>
        intro h
        cases h with
        | cons h1 h2 =>
          obtain ⟨t, rfl⟩ := h1 _ (hz _ (List.mem_cons_self ..)) hga
          exact .cons _ t (ih _ (fun b hb => hz b (List.mem_cons_of_mem _ hb)) h2)
    exact key us ys xs (fun _ h => h) r hF
/-- a text among others, as a word -/
noncomputable def StrG (v : Value) (x : List Nat) : Prop := ∃ t, v = .str (S x) t
theorem strG_det {v : Value} {x y : List Nat} (a : StrG v x) (b : StrG v y) : x = y := by
  obtain ⟨t, rfl⟩ := a
  obtain ⟨u, e⟩ := b
  injection e with e1 e2
  exact S_inj.mp e1
theorem strs_paired : ∀ {vs : List Value} {xs : List (List Nat)}, StrsAre vs (xs.map S) → Paired StrG vs xs
  | _, [], .nil => .nil
  | _, x :: xs, .cons _ t r => .cons ⟨t, rfl⟩ (strs_paired r)
theorem paired_strs : ∀ {vs : List Value} {xs : List (List Nat)}, Paired StrG vs xs → StrsAre vs (xs.map S)
  | _, _, .nil => .nil
  | _, _, .cons ⟨t, q⟩ r => q ▸ .cons _ t (paired_strs r)
theorem isSs_W {t : Sem Value} {xs : List (List Nat)} (h : Ev c t (IsSs (xs.map S))) : Ev c t (IsW StrG xs) := EvF.mono h fun v h ⟨a, vs, q, l, r⟩ => ⟨a, vs, q, l, strs_paired r⟩
noncomputable def IntG (v : Value) (n : Int) : Prop := ∃ t, v = .int n t
theorem ints_paired : ∀ {vs : List Value} {ns : List Int}, IntsAre vs ns → Paired IntG vs ns
  | _, _, .nil => .nil
  | _, _, .cons _ t r => .cons ⟨t, rfl⟩ (ints_paired r)
theorem isIs_W {t : Sem Value} {ns : List Int} (h : Ev c t (IsIs ns)) : Ev c t (IsW IntG ns) := EvF.mono h fun v h ⟨a, vs, q, l, r⟩ => ⟨a, vs, q, l, ints_paired r⟩
/-- what of a line the words see -/
theorem strsAre_det : ∀ {us : List Value} {xs ys : List PySem.Str}, StrsAre us xs → StrsAre us ys → xs = ys
  | _, _, _, .nil, .nil => rfl
  | _, _, _, .cons x t r, h => by cases h with | cons _ _ r' => rw [strsAre_det r r']
theorem lnV_det {g : Heap} {v : Value} {l l' : Ln} (a : LnV g v l) (b : LnV g v l') : lnT l = lnT l' := by
  obtain ⟨a1, us, rfl, ⟨o, ho, _, n, hd⟩, h1⟩ := a
  obtain ⟨a2, us', q, ⟨o', ho', _, n', hd'⟩, h2⟩ := b
  cases q
  rw [ho] at ho'
  cases ho'
  rw [hd] at hd'
  have : us = us' := by
    injection hd' with e1 e2
    simpa using e1
  subst this
  exact strsAre_det h1 h2
theorem lnT_parts {l l' : Ln} (h : lnT l = lnT l') : l.txt = l'.txt ∧ vals l.toks = vals l'.toks ∧ (if l.soft then ([] : List Nat) else [10]) = (if l'.soft then [] else [10]) := by
  unfold lnT at h
  injection h with h1 h
  injection h with h2 h
  injection h with h3 h
  exact ⟨S_inj.mp h1, S_inj.mp h2, S_inj.mp h3⟩
theorem lnV_ts {g h : Heap} {v : Value} {l : Ln} (x : LnV g v l) (e : ExtD g h) : (IsTs (lnT l)).p v h := by
  obtain ⟨b, us, q, t, s⟩ := x
  exact ⟨b, us, q, isTup_st e t, s⟩
theorem flat_join {e : List Nat} : ∀ {xs : List (List Nat)}, xs ≠ [] → List.intercalate e xs ++ e = xs.flatMap (· ++ e)
  | [], h => absurd rfl h
  | [x], _ => by simp [List.intercalate]
  | x :: y :: r, _ => by
    have ih := flat_join (e := e) (xs := y :: r) (by simp)
    rw [List.flatMap_cons, ← ih]
    simp [List.intercalate, List.intersperse]
end
end Mine
end
section
open PySem PySem.W PyProof.Rows PySem.Calls
set_option linter.unusedVariables false
set_option maxRecDepth 100000
set_option maxHeartbeats 1000000
namespace Mine
noncomputable def rowsOf (r : List Int) : List (List Nat) := r.map rowOf ++ [[45, 32], [32, 32, 45, 32, 233], [43, 32, 97, 32, 61, 32, 45, 32]]
theorem bits_fine : ∀ l ∈ bitsL, ∀ c ∈ l, c < 256 ∧ c ≠ 10 ∧ c ≠ 13 := by decide
theorem codes_fine : ∀ l ∈ codesL, ∀ c ∈ l, c < 256 ∧ c ≠ 10 ∧ c ≠ 13 := by decide
theorem getD_fine {ls : List (List Nat)} (h : ∀ l ∈ ls, ∀ c ∈ l, c < 256 ∧ c ≠ 10 ∧ c ≠ 13) (i : Nat) : ∀ c ∈ (ls[i]?).getD [], c < 256 ∧ c ≠ 10 ∧ c ≠ 13 := by
  cases e : ls[i]? with
  | none => intro c hc; cases hc
  | some l => exact h l (List.mem_of_getElem? e)
theorem rowOf_fine (n : Int) : (rowOf n).length ≤ 100 ∧ ∀ c ∈ rowOf n, c < 256 ∧ c ≠ 10 ∧ c ≠ 13 := by
  constructor
  · have h1 := code_len (Int.fmod n 6).toNat
    have h2 := bitAt_len (Int.fmod (Int.fdiv n 6) 16)
    have h3 := bitAt_len (Int.fmod (Int.fdiv (Int.fdiv n 6) 16) 16)
    have h4 := bitAt_len (Int.fmod (Int.fdiv (Int.fdiv n 6) 256) 16)
    unfold rowOf
    rw [List.length_append, List.length_append, List.length_append]
    omega
  · intro c hc
    unfold rowOf at hc
    rcases List.mem_append.mp hc with hc | hc
    · rcases List.mem_append.mp hc with hc | hc
      · rcases List.mem_append.mp hc with hc | hc
        · exact getD_fine codes_fine _ c hc
        · exact getD_fine bits_fine _ c hc
      · exact getD_fine bits_fine _ c hc
    · exact getD_fine bits_fine _ c hc
theorem rowsOf_fine {r : List Int} (h : r.length ≤ 4) : Rows (rowsOf r) ∧ (rowsOf r).length ≤ 7 := by
  have hl : (rowsOf r).length = r.length + 3 := by simp [rowsOf]
  refine ⟨⟨by simp [rowsOf], by omega, ?_⟩, by omega⟩
  intro x hx
  rcases List.mem_append.mp hx with hx | hx
  · obtain ⟨n, _, rfl⟩ := List.mem_map.mp hx
    exact rowOf_fine n
  · have key : ∀ x ∈ ([[45, 32], [32, 32, 45, 32, 233], [43, 32, 97, 32, 61, 32, 45, 32]] : List (List Nat)), x.length ≤ 100 ∧ ∀ c ∈ x, c < 256 ∧ c ≠ 10 ∧ c ≠ 13 := by decide
    exact key x hx
/-- what stands behind the rows -/
structure LB (f : Int) (rows : List (List Nat)) (m : PySem.Str → Option Value) (g : Heap) (o1 o2 o3 : Obj) : Prop where
  rows : ∃ v, m (Str.ofString "rows") = some v ∧ (IsSs (rows.map S)).p v g
  odd : ∃ (v : Value) (q : Int × List Nat), m (Str.ofString "odd") = some v ∧ OddIs v q.1 q.2
  lim : ∃ t, o1.data = .cell (some (.int (limOf f) t))
  eol : ∃ t, o2.data = .cell (some (.str (S (eolOf f)) t))
  side : ∃ t, o3.data = .cell (some (.int (sideOf f) t))
theorem LB.upd {f : Int} {rows : List (List Nat)} {m : PySem.Str → Option Value} {g g' : Heap} {o1 o2 o3 : Obj} {x : PySem.Str} {v : Value} (d : LB f rows m g o1 o2 o3) (e : ExtD g g') (h1 : Str.ofString "rows" ≠ x := by decide) (h2 : Str.ofString "odd" ≠ x := by decide) : LB f rows (Mine.upd m x v) g' o1 o2 o3 :=
  ⟨let ⟨u, a, b⟩ := d.rows; ⟨u, (upd_ne h1).trans a, (IsSs _).st e b⟩, let ⟨u, q, a, b⟩ := d.odd; ⟨u, q, (upd_ne h2).trans a, b⟩, d.lim, d.eol, d.side⟩
section
variable {prog : Program} {w : World} {A : Around} {E : Value → Shared → Prop}
theorem law_b5 {hB : Heap} {L : Addr} {m : PySem.Str → Option Value} {g hh : Heap} {o1 o2 o3 o4 : Obj} {f : Int} {r : List Int} {v₄ : Option Value} {Q : Flow → Shared → Prop} {gs : Array GenState} {dr : Drawn} {tk₀ : Nat} {os : OsState} (G : Gd w hB) (hA : A.handled = none) (hroom : A.depth + 3 < recursionLimit)
    (hr : r.length ≤ 4) (k : (LX prog w A hB L m g o1 o2 o3 o4).ok hh) (J : LA f (f :: r) m g o1 o2 o3) (d4 : o4.data = .cell v₄)
    (h : ∀ m' g' h' tk', (LX prog w A hB L m' g' o1 o2 o3 o4).ok h' → LB f (rowsOf r) m' g' o1 o2 o3 → wpAny (model prog w) A (execs (lBd.drop 6) (lEnv L)) Q E ⟨h', gs, dr, tk', os⟩) :
    wpAny (model prog w) A (execs (lBd.drop 5) (lEnv L)) Q E ⟨hh, gs, dr, tk₀, os⟩ := by
  have hS : sizeLine = 16777216 := rfl
  obtain ⟨p, lo, mg, mb, T⟩ := G.T
  have X := G.X
  obtain ⟨vn, hvn, hpn⟩ := J.numbers
  obtain ⟨vo, q, hvo, hpo⟩ := J.odd
  obtain ⟨t1, e1⟩ := J.lim
  obtain ⟨t2, e2⟩ := J.eol
  obtain ⟨t3, e3⟩ := J.side
  refine sAssignG (c := LX prog w A hB L m g o1 o2 o3 o4) (P := IsSs ((rowsOf r).map S)) k (lMu_nd e1 e2 e3 d4) ?_ ?_
  · have hsplit : (rowsOf r).map S = (r.map fun n => S (rowOf n)) ++ [S [45, 32], S [32, 32, 45, 32, 233], S [43, 32, 97, 32, 61, 32, 45, 32]] := by simp [rowsOf]
    rw [hsplit]
    refine addLs ?_ (lsS (sp1 (cSl (by decide)) (sp1 (cSl (by decide)) (sp1 (cSl (by decide)) sp0))) (by show 3 ≤ sizeLine; omega)) (by rw [List.length_map]; show r.length + 3 ≤ sizeLine; omega)
    refine evMapS (cl := []) (G := IntG) (xs := r) (f := fun n => S (rowOf n)) hA ⟨by rfl, by rfl, by rfl, by rfl, by rfl⟩ (isIs_W (slFromI (ns := f :: r) (i := 1) (nmF hvn hpn) cI (by rw [List.length_cons]; omega))) (by omega) ?_ ?_
    · rintro v n n' ⟨t, rfl⟩ ⟨t', z⟩
      injection z with z1 z2
      rw [z1]
    · rintro h₁ g' C m' v n k₁ eg ⟨t, rfl⟩ _ hm
      have eB : Ext hB g' := Ext.trans k₁.base eg
      refine callK1 (a := 79) (P := IsV (.int n t)) (X.keeps eB) (by rfl) (gl (X.keeps eB) (T.keeps eB) (by rfl)) (nm hm fun _ => rfl) ?_
      intro v' s' Q' E' k' pv f'
      have pv' : v' = .int n t := pv
      subst pv'
      exact row_ctr (G.ext eB) (by show A.depth < recursionLimit; omega) s' Q' E' k'.base f'
  · intro v g' h' tk' p eg k'
    refine h _ g' h' tk' k' ⟨⟨v, upd_same, p⟩, ⟨vo, q, (upd_ne (by decide)).trans hvo, hpo⟩, ⟨t1, e1⟩, ⟨t2, e2⟩, ⟨t3, e3⟩⟩
end
end Mine
end
section
open PySem PySem.W PyProof.Rows PySem.Calls
set_option linter.unusedVariables false
set_option maxRecDepth 100000
set_option maxHeartbeats 1000000
namespace Mine
noncomputable abbrev toldOf (n : Nat) (rows : List (List Nat)) : List Ln := rows.flatMap (lnsOf n)
theorem range_flat (n : Nat) (rows : List (List Nat)) : (List.range rows.length).flatMap (fun i => lnsOf n ((rows[i]?).getD [])) = toldOf n rows := by
  have key : ∀ (rows : List (List Nat)), (List.range rows.length).map (fun i => (rows[i]?).getD []) = rows := by
    intro rows
    apply List.ext_getElem
    · simp
    · intro i h1 h2
      simp at h1 ⊢
      simp [h1]
  conv => rhs; rw [toldOf, ← key rows, List.flatMap_map]
theorem lnsOf_count {n : Nat} (hn : 4 ≤ n) {r : List Nat} (h : r.length ≤ 100) : (lnsOf n r).length ≤ 602 := by
  have := lns_count hn (r.map tok)
  rw [List.length_map] at this
  unfold lnsOf
  omega
theorem told_count {n : Nat} (hn : 4 ≤ n) {rows : List (List Nat)} (h : ∀ r ∈ rows, r.length ≤ 100) : (toldOf n rows).length ≤ 602 * rows.length := sum_le _ _ _ fun r hr => lnsOf_count hn (h r hr)
theorem lnV_tupK : ∀ (h h' : Heap) (v : Value) (l : Ln), TupK h h' → LnV h v l → LnV h' v l := by
  rintro h h' v l e ⟨b, us, q, ⟨o, ho, hc, n, hd⟩, s⟩
  exact ⟨b, us, q, ⟨o, e b o (nd_seq hd) hc ho, hc, n, hd⟩, s⟩
structure LC (f : Int) (rs : List (List Nat)) (m : PySem.Str → Option Value) (g : Heap) (o1 o2 o3 : Obj) : Prop extends LB f rs m g o1 o2 o3 where
  told : ∃ v, m (Str.ofString "told") = some v ∧ (IsLns (toldOf (limOf f) rs)).p v g
theorem LC.upd {f : Int} {rows : List (List Nat)} {m : PySem.Str → Option Value} {g g' : Heap} {o1 o2 o3 : Obj} {x : PySem.Str} {v : Value} (d : LC f rows m g o1 o2 o3) (e : ExtD g g') (h1 : Str.ofString "rows" ≠ x := by decide) (h2 : Str.ofString "odd" ≠ x := by decide) (h3 : Str.ofString "told" ≠ x := by decide) : LC f rows (Mine.upd m x v) g' o1 o2 o3 :=
  ⟨d.toLB.upd e h1 h2, let ⟨u, a, b⟩ := d.told; ⟨u, (upd_ne h3).trans a, (IsLns _).st e b⟩⟩
section
variable {prog : Program} {w : World} {A : Around} {E : Value → Shared → Prop}
theorem law_b6 {hB : Heap} {L : Addr} {m : PySem.Str → Option Value} {g hh : Heap} {o1 o2 o3 o4 : Obj} {f : Int} {rows : List (List Nat)} {v₄ : Option Value} {Q : Flow → Shared → Prop} {gs : Array GenState} {dr : Drawn} {tk₀ : Nat} {os : OsState} (G : Gd w hB) (hA : A.handled = none) (hroom : A.depth + 3 < recursionLimit)
    (hR : Rows rows) (k : (LX prog w A hB L m g o1 o2 o3 o4).ok hh) (J : LB f rows m g o1 o2 o3) (d4 : o4.data = .cell v₄)
    (h : ∀ m' g' h' tk', (LX prog w A hB L m' g' o1 o2 o3 o4).ok h' → LC f rows m' g' o1 o2 o3 → wpAny (model prog w) A (execs (lBd.drop 7) (lEnv L)) Q E ⟨h', gs, dr, tk', os⟩) :
    wpAny (model prog w) A (execs (lBd.drop 6) (lEnv L)) Q E ⟨hh, gs, dr, tk₀, os⟩ := by
  have hS : sizeLine = 16777216 := rfl
  obtain ⟨p, lo, mg, mb, T⟩ := G.T
  have X := G.X
  obtain ⟨hn4, hn1⟩ := lim_ok f
  obtain ⟨vr, hvr, hpr⟩ := J.rows
  obtain ⟨vo, q, hvo, hpo⟩ := J.odd
  obtain ⟨t1, e1⟩ := J.lim
  obtain ⟨t2, e2⟩ := J.eol
  obtain ⟨t3, e3⟩ := J.side
  have hcnt := told_count (rows := rows) hn4 fun r hr => (hR.row r hr).1
  have hlen := hR.len
  refine sNest (c := LX prog w A hB L m g o1 o2 o3 o4) (cl := [(Str.ofString "limit", L + 1)]) (F := LnV) (f := fun _ i => lnsOf (limOf f) ((rows[i]?).getD [])) (Rr := fun us => StrsAre us (rows.map S)) k hA ⟨by rfl, by rfl, by rfl, by rfl, by rfl⟩ (by rfl) (by decide) lnV_tupK ?_ ?_ ?_ ?_
  · exact EvF.mono (nmF hvr hpr) fun v h ⟨a, us, z, l, ss⟩ => ⟨a, us, z, l, ss⟩
  · intro us hus
    have : us.length = rows.length := by rw [strsAre_len hus, List.length_map]
    rw [this, range_flat]
    omega
  · intro h₁ us g' C m' i v hh' e₁ k₁ hus eg hui hm
    have eB : Ext hB g' := Ext.trans k₁.base eg
    have hil : i < rows.length := by
      have h1 := (List.getElem?_eq_some_iff.mp hui).1
      rw [strsAre_len hus, List.length_map] at h1
      exact h1
    have hri : rows[i]? = some rows[i] := List.getElem?_eq_getElem hil
    obtain ⟨t, hv⟩ := strsAre_get hus (i := i) (x := S rows[i]) (by simp [hri])
    rw [hui] at hv
    cases hv
    have hcell : g'.IsCell (L + 1) (some (.int (limOf f) t1)) := ⟨o1, eg _ _ (k₁.own _ (List.mem_cons_self ..)).1, e1⟩
    rw [hri]
    refine EvF.mono (callK2g (a := 91) (P := IsV (.str (S rows[i]) t)) (P' := IsV (.int (limOf f) t1)) (R := (IsLnsN hh' (lnsOf (limOf f) rows[i])).p) (X.keeps eB) (by rfl) (gl (X.keeps eB) (T.keeps eB) (by rfl)) (nm hm fun _ => rfl) (nmC (.base hcell) (by rfl)) ?_) fun v h ⟨a, vs, z, l, pd, n⟩ => ⟨a, vs, z, n, l, pd⟩
    rintro v v' s' Q' E' k' ⟨k0, e', pv, pv'⟩ f'
    have z1 : v = .str (S rows[i]) t := pv
    have z2 : v' = .int (limOf f) t1 := pv'
    subst z1 z2
    have e0 : Ext hB hh' := Ext.trans eB k0.base
    have hri' := hR.row rows[i] (List.getElem_mem hil)
    exact lines_ctr (G.ext e0) (by show A.depth + 1 < recursionLimit; omega) hA hn4 hn1 ⟨hri'.1, fun c hc => (hri'.2 c hc).1⟩ s' Q' E' e' f'
  · intro D acc us h' tk' hus hD hpd ed k'
    have hul : us.length = rows.length := by rw [strsAre_len hus, List.length_map]
    rw [hul, range_flat] at hpd
    obtain ⟨g', k'', eg, eh⟩ := k'.rebaseD (lMu_nd e1 e2 e3 d4)
    refine h (upd m (Str.ofString "told") (.ref D)) g' h' tk' k'' ⟨J.upd eg, ⟨.ref D, upd_same, (IsLns _).st eh ⟨D, acc.toList, rfl, by simpa using hD, hpd⟩⟩⟩
end
end Mine
end
section
open PySem PySem.W PyProof.Rows PySem.Calls
set_option linter.unusedVariables false
set_option maxRecDepth 100000
set_option maxHeartbeats 1000000
namespace Mine
theorem sum_S : ∀ (xs : List (List Nat)), ((xs.map S).map (fun x : PySem.Str => x.length)).sum = xs.flatten.length
  | [] => rfl
  | x :: xs => by
    rw [List.map_cons, List.map_cons, List.sum_cons, List.flatten_cons, List.length_append, S_len, sum_S xs]
theorem flatten_le {b : Nat} : ∀ (xs : List (List Nat)), (∀ x ∈ xs, x.length ≤ b) → xs.flatten.length ≤ b * xs.length
  | [], _ => by simp
  | x :: xs, h => by
    have h1 := h x (by simp)
    have h2 := flatten_le xs fun y hy => h y (by simp [hy])
    rw [List.flatten_cons, List.length_append, List.length_cons, Nat.mul_succ]
    omega
theorem told_size {e : List Nat} (he : Eol e) {n : Nat} (hn : 4 ≤ n) {rows : List (List Nat)} (h : ∀ r ∈ rows, r.length ≤ 100) : (flatE e (toldOf n rows)).length ≤ 602 * rows.length := by
  have e2 : e.length ≤ 2 := by rcases he with rfl | rfl <;> simp
  have : flatE e (toldOf n rows) = rows.flatMap fun r => flatE e (lnsOf n r) := by
    unfold toldOf flatE
    rw [List.flatMap_assoc]
  rw [this]
  refine sum_le _ _ _ fun r hr => ?_
  have h1 := lns_size e2 hn _ (r.map tok) (Nat.le_refl _)
  rw [List.length_map] at h1
  have h2 := h r hr
  unfold flatE lnsOf
  omega
section
variable {c : Cx} {env : Env}
theorem nmCS {x : PySem.Str} {p : Pos} {a : Addr} {y : PySem.Str} {t : Tok} (h : CellIs c a (.str y t)) (hc : env.cells.lookup x = some a) (hk : env.scope.kind = .function := by rfl) (hl : env.kindOf x = some .cell := by rfl) (hd : (x == ("__debug__" : PySem.Str)) = false := by decide) :
    Ev c (eval (.Name x p) env) (IsS y) := EvF.mono (nmC h hc hk hl hd) fun v h q => ⟨t, q⟩
theorem nmCI {x : PySem.Str} {p : Pos} {a : Addr} {n : Int} {t : Tok} (h : CellIs c a (.int n t)) (hc : env.cells.lookup x = some a) (hk : env.scope.kind = .function := by rfl) (hl : env.kindOf x = some .cell := by rfl) (hd : (x == ("__debug__" : PySem.Str)) = false := by decide) :
    Ev c (eval (.Name x p) env) (IsI n) := EvF.mono (nmC h hc hk hl hd) fun v h q => ⟨t, q⟩
/-- texts glued with nothing between -/
theorem joinE {o a : Expr} {apos pos : Pos} {xs : List (List Nat)} (ho : Ev c (eval o env) (IsS (S []))) (ha : Ev c (eval a env) (IsSs (xs.map S))) (hsz : xs.flatten.length ≤ 16777216) (hbase : attributeBase o "join" env (eval o env) = eval o env := by rfl) (hs : starEach [a] env = [(false, eval a env)] := by rfl) (hline : (apos.endLine == pos.line) = true := by rfl) :
    Ev c (eval (.Call (.Attribute o "join" apos) [a] [] pos) env) (IsS (S xs.flatten)) := by
  refine evS_eq (mJoin ho ha ?_ hbase hs hline) (join_empty xs)
  rw [sum_S, S_len]
  simpa using hsz
end
structure LD (f : Int) (rs : List (List Nat)) (m : PySem.Str → Option Value) (g : Heap) (o1 o2 o3 : Obj) : Prop extends LC f rs m g o1 o2 o3 where
  letter : HS m (Str.ofString "letter") (flatE (eolOf f) (toldOf (limOf f) rs))
theorem LD.upd {f : Int} {rows : List (List Nat)} {m : PySem.Str → Option Value} {g g' : Heap} {o1 o2 o3 : Obj} {x : PySem.Str} {v : Value} (d : LD f rows m g o1 o2 o3) (e : ExtD g g') (h1 : Str.ofString "rows" ≠ x := by decide) (h2 : Str.ofString "odd" ≠ x := by decide) (h3 : Str.ofString "told" ≠ x := by decide) (h4 : Str.ofString "letter" ≠ x := by decide) : LD f rows (Mine.upd m x v) g' o1 o2 o3 :=
  ⟨d.toLC.upd e h1 h2 h3, d.letter.ne h4⟩
section
variable {prog : Program} {w : World} {A : Around} {E : Value → Shared → Prop}
theorem law_b7 {hB : Heap} {L : Addr} {m : PySem.Str → Option Value} {g hh : Heap} {o1 o2 o3 o4 : Obj} {f : Int} {rows : List (List Nat)} {Q : Flow → Shared → Prop} {gs : Array GenState} {dr : Drawn} {tk₀ : Nat} {os : OsState} (G : Gd w hB) (hA : A.handled = none) (hroom : A.depth + 3 < recursionLimit)
    (hR : Rows rows) (k : (LX prog w A hB L m g o1 o2 o3 o4).ok hh) (J : LC f rows m g o1 o2 o3)
    (h : ∀ m' h' tk', (LX prog w A hB L m' g o1 o2 o3 o4).ok h' → LD f rows m' g o1 o2 o3 → wpAny (model prog w) A (execs (lBd.drop 8) (lEnv L)) Q E ⟨h', gs, dr, tk', os⟩) :
    wpAny (model prog w) A (execs (lBd.drop 7) (lEnv L)) Q E ⟨hh, gs, dr, tk₀, os⟩ := by
  have hS : sizeLine = 16777216 := rfl
  obtain ⟨p, lo, mg, mb, T⟩ := G.T
  have X := G.X
  obtain ⟨hn4, hn1⟩ := lim_ok f
  obtain ⟨vr, hvr, hpr⟩ := J.rows
  obtain ⟨t1, e1⟩ := J.lim
  obtain ⟨t2, e2⟩ := J.eol
  have hlen := hR.len
  have hfl := flatten_le (b := 100) rows fun r hr => (hR.row r hr).1
  have hjl : (List.intercalate [10] rows).length + 1 = (rows.flatMap (· ++ [10])).length := by
    have := congrArg List.length (flat_join (e := [10]) hR.ne)
    simpa using this
  have hfm : (rows.flatMap (· ++ [10])).length ≤ 101 * rows.length := sum_le _ _ _ fun r hr => by
    have := (hR.row r hr).1
    rw [List.length_append, List.length_singleton]; omega
  refine sAssign (c := LX prog w A hB L m g o1 o2 o3 o4) (P := IsS (S (flatE (eolOf f) (toldOf (limOf f) rows)))) k ?_ ?_
  · refine callK3 (a := 64) (P := IsS (S (rows.flatMap (· ++ [10])))) (P' := IsV (.int (limOf f) t1)) (P'' := IsV (.str (S (eolOf f)) t2)) X (by rfl) (gl X T (by rfl)) ?_ (nmC (CellIs.own (List.mem_cons_self ..) e1) (lc1 L)) (nmC (CellIs.own (List.mem_cons_of_mem _ (List.mem_cons_self ..)) e2) (lc2 L)) ?_
    · refine evS_eq (addS (evS_eq (mJoin (x := S [10]) (cSl (by decide)) (nmF hvr hpr) ?_) (join_S [10] rows)) (y := S [10]) (cSl (by decide)) ?_) ?_
      · rw [sum_S, S_len, List.length_map]
        show rows.flatten.length + rows.length * 1 ≤ 16777216
        omega
      · rw [S_len, S_len]
        show (List.intercalate [10] rows).length + 1 ≤ sizeLine
        omega
      · rw [S_add, flat_join hR.ne]
    · rintro v v' v'' s' Q' E' k' ⟨⟨t0, rfl⟩, pv', pv''⟩ f'
      have z1 : v' = .int (limOf f) t1 := pv'
      have z2 : v'' = .str (S (eolOf f)) t2 := pv''
      subst z1 z2
      exact body_ctr G (by omega) hA (eol_ok f) hn4 hn1 hR s' Q' E' k'.base f'
  · intro v h' tk' pv k'
    exact h (upd m (Str.ofString "letter") v) h' tk' k' ⟨J.upd ExtD.refl, HS.of pv⟩
theorem law_b8 {hB : Heap} {L : Addr} {m : PySem.Str → Option Value} {g hh : Heap} {o1 o2 o3 o4 : Obj} {f : Int} {rows : List (List Nat)} {Q : Flow → Shared → Prop} {gs : Array GenState} {dr : Drawn} {tk₀ : Nat} {os : OsState} (G : Gd w hB) (hA : A.handled = none)
    (hR : Rows rows) (k : (LX prog w A hB L m g o1 o2 o3 o4).ok hh) (J : LD f rows m g o1 o2 o3)
    (h : ∀ h' tk', (LX prog w A hB L m g o1 o2 o3 o4).ok h' → wpAny (model prog w) A (execs (lBd.drop 9) (lEnv L)) Q E ⟨h', gs, dr, tk', os⟩) :
    wpAny (model prog w) A (execs (lBd.drop 8) (lEnv L)) Q E ⟨hh, gs, dr, tk₀, os⟩ := by
  have hS : sizeLine = 16777216 := rfl
  obtain ⟨hn4, hn1⟩ := lim_ok f
  obtain ⟨vt, hvt, hpt⟩ := J.told
  obtain ⟨t2, e2⟩ := J.eol
  have hlen := hR.len
  have hsz := told_size (eol_ok f) (rows := rows) hn4 fun r hr => (hR.row r hr).1
  have hcnt := told_count (rows := rows) hn4 fun r hr => (hR.row r hr).1
  have hfl : ((toldOf (limOf f) rows).map fun l => l.txt ++ eolOf f).flatten = flatE (eolOf f) (toldOf (limOf f) rows) := by rw [← List.flatMap_def]
  refine sIfF (c := LX prog w A hB L m g o1 o2 o3 o4) k (neS (nS J.letter) (joinE (xs := (toldOf (limOf f) rows).map fun l => l.txt ++ eolOf f) (cSl (by decide)) ?_ (by rw [hfl]; omega))) (by rw [hfl]; simp) h
  rw [List.map_map]
  refine evMapS (cl := [(Str.ofString "ending", L + 1 + 1)]) (G := LnV g) (xs := toldOf (limOf f) rows) (f := fun l => S (l.txt ++ eolOf f)) hA ⟨by rfl, by rfl, by rfl, by rfl, by rfl⟩ (nmF hvt hpt) (by omega) ?_ ?_
  · intro v b b' h1 h2
    rw [(lnT_parts (lnV_det h1 h2)).1]
  · intro h₁ g' C m' v b k₁ eg hG hbm hm
    have hcell : g'.IsCell (L + 1 + 1) (some (.str (S (eolOf f)) t2)) := ⟨o2, eg _ _ (k₁.own _ (List.mem_cons_of_mem _ (List.mem_cons_self ..))).1, e2⟩
    have hbl : b.txt.length ≤ (flatE (eolOf f) (toldOf (limOf f) rows)).length := by
      obtain ⟨a, c, z⟩ := List.append_of_mem hbm
      rw [z]
      simp [flatE]
      omega
    refine evS_eq (addS (x := S b.txt) (y := S (eolOf f)) (itTs (xs := lnT b) (j := 0) (nmF hm (lnV_ts hG (k₁.back.trans eg.toD))) cI (by decide) rfl) (nmCS (.base hcell) (by rfl)) ?_) (S_add _ _)
    rw [S_len, S_len]
    have : (eolOf f).length ≤ 2 := by rcases eol_ok f with z | z <;> rw [z] <;> simp
    omega
end
end Mine
end
section
open PySem PySem.W PyProof.Rows PySem.Calls
set_option linter.unusedVariables false
set_option maxRecDepth 100000
set_option maxHeartbeats 1000000
namespace Mine
noncomputable def pS (tag : List Nat) : Option Value → Bool
  | some (.str x _) => pickL tag x.cps.toList
  | _ => false
noncomputable def pO (tag : List Nat) : Option Obj → Bool
  | some o => (match o.data with
    | .seq us _ => pS tag us[0]?
    | _ => false)
  | none => false
noncomputable def pT (g : Heap) (tag : List Nat) : Value → Bool
  | .ref b => pO tag (g.get? b)
  | _ => false
theorem pT_eq {g : Heap} {tag : List Nat} {v : Value} {l : Ln} (x : LnV g v l) : pT g tag v = pickL tag l.txt := by
  obtain ⟨b, us, rfl, ⟨o, ho, _, n, hd⟩, ss⟩ := x
  obtain ⟨t, ht⟩ := strsAre_get ss (i := 0) (x := S l.txt) rfl
  have h0 : us.toArray[0]? = some (.str (S l.txt) t) := by simpa using ht
  show pO tag (g.get? b) = _
  rw [ho]
  unfold pO
  simp only [hd]
  rw [h0]
  show pickL tag (S l.txt).cps.toList = _
  rw [S_list]
theorem paired_filter {α β : Type} {G : α → β → Prop} {p : α → Bool} {q : β → Bool} : ∀ {vs : List α} {xs : List β}, Paired G vs xs → (∀ v x, G v x → p v = q x) → Paired G (vs.filter p) (xs.filter q)
  | _, _, .nil, _ => .nil
  | v :: _, x :: _, .cons h r, hpq => by
    rw [List.filter_cons, List.filter_cons, hpq v x h]
    cases q x with
    | true => exact .cons h (paired_filter r hpq)
    | false => exact paired_filter r hpq
theorem paired_eq {vs ys : List Value} (h : Paired (fun v y => y = v) vs ys) : ys = vs := by
  induction h with
  | nil => rfl
  | cons a _ ih => rw [a, ih]
theorem us_eq {us vs : List Value} (hl : us.length = vs.length) (h : ∀ (j : Nat) v, us[j]? = some v → vs[j]? = some v) : us = vs := List.ext_getElem? fun j => by
  cases hu : us[j]? with
  | some v => exact (h j v hu).symm
  | none =>
    have h1 := List.getElem?_eq_none_iff.mp hu
    exact (List.getElem?_eq_none_iff.mpr (by omega)).symm
noncomputable def fBody : List Stmt := match lBd.drop 9 with | .For _ _ body _ _ :: _ => body | _ => []
noncomputable abbrev pickedOf (tag : List Nat) (ls : List Ln) : List Ln := ls.filter fun l => pickL tag l.txt
structure LE (f : Int) (rs : List (List Nat)) (n : Int) (m : PySem.Str → Option Value) (g : Heap) (o1 o2 o3 o4 : Obj) : Prop extends LD f rs m g o1 o2 o3 where
  wish : ∃ v, m (Str.ofString "wish") = some v ∧ WishOf v n
  code : ∃ t, o4.data = .cell (some (.str (S (tagOf n)) t))
theorem LE.upd {f : Int} {rows : List (List Nat)} {n : Int} {m : PySem.Str → Option Value} {g g' : Heap} {o1 o2 o3 o4 : Obj} {x : PySem.Str} {v : Value} (d : LE f rows n m g o1 o2 o3 o4) (e : ExtD g g') (h1 : Str.ofString "rows" ≠ x := by decide) (h2 : Str.ofString "odd" ≠ x := by decide) (h3 : Str.ofString "told" ≠ x := by decide) (h4 : Str.ofString "letter" ≠ x := by decide) (h5 : Str.ofString "wish" ≠ x := by decide) : LE f rows n (Mine.upd m x v) g' o1 o2 o3 o4 :=
  ⟨d.toLD.upd e h1 h2 h3 h4, let ⟨u, a, b⟩ := d.wish; ⟨u, (upd_ne h5).trans a, b⟩, d.code⟩
section
variable {prog : Program} {w : World} {A : Around} {E : Value → Shared → Prop}
theorem law_c1 {hB : Heap} {L : Addr} {m : PySem.Str → Option Value} {g hh : Heap} {o1 o2 o3 o4 : Obj} {f n : Int} {rows : List (List Nat)} {Q : Flow → Shared → Prop} {gs : Array GenState} {dr : Drawn} {tk₀ : Nat} {os : OsState} (hA : A.handled = none)
    (hR : Rows rows) (k : (LX prog w A hB L m g o1 o2 o3 o4).ok hh) (J : LE f rows n m g o1 o2 o3 o4)
    (h : ∀ v g' h' tk', (LX prog w A hB L (upd m (Str.ofString "picked") v) g' o1 o2 o3 o4).ok h' → LE f rows n (upd m (Str.ofString "picked") v) g' o1 o2 o3 o4 → ExtD g g' → (IsLns (pickedOf (tagOf n) (toldOf (limOf f) rows))).p v g' →
      wpAny (model prog w) A (execs (fBody.drop 1) (lEnv L)) Q E ⟨h', gs, dr, tk', os⟩) :
    wpAny (model prog w) A (execs fBody (lEnv L)) Q E ⟨hh, gs, dr, tk₀, os⟩ := by
  have hS : sizeLine = 16777216 := rfl
  obtain ⟨hn4, hn1⟩ := lim_ok f
  obtain ⟨vt, hvt, hpt⟩ := J.told
  obtain ⟨t1, e1⟩ := J.lim
  obtain ⟨t2, e2⟩ := J.eol
  obtain ⟨t3, e3⟩ := J.side
  obtain ⟨t4, e4⟩ := J.code
  have hlen := hR.len
  have hcnt := told_count (rows := rows) hn4 fun r hr => (hR.row r hr).1
  have hsz := told_size (eol_ok f) (rows := rows) hn4 fun r hr => (hR.row r hr).1
  refine sComp2 (c := LX prog w A hB L m g o1 o2 o3 o4) (cl := [(Str.ofString "code", L + 1 + 1 + 1 + 1)]) k ⟨by rfl, by rfl, by rfl, by rfl, by rfl⟩
    (srcL (R := fun vs _ => Paired (LnV g) vs (toldOf (limOf f) rows)) hA (nmF (P := IsW (LnV g) (toldOf (limOf f) rows)) hvt hpt) (fun vs _ r => by rw [Paired.len r]; omega)) (pT g (tagOf n)) (fun v y => y = v) ?_ ?_
  · rintro n' P h₁ e₁ k₁ ⟨vs, r, rfl, rfl⟩
    have at_ : ∀ i v, vs[i]? = some v → ∃ b, b ∈ toldOf (limOf f) rows ∧ LnV g v b := fun i v hP => by
      have hlt : i < (toldOf (limOf f) rows).length := by rw [← Paired.len r]; exact (List.getElem?_eq_some_iff.mp hP).1
      obtain ⟨v', hv', hG'⟩ := paired_get r (List.getElem?_eq_getElem hlt)
      rw [hP] at hv'
      cases hv'
      exact ⟨_, List.getElem_mem hlt, hG'⟩
    refine ⟨fun g' C m' i v _ eg hP hm => .inr ⟨_, rfl, ?_⟩, fun g' C m' i v _ eg hP _ hm => EvF.mono (nm hm (P := IsV v) fun _ => rfl) fun y h q => q⟩
    obtain ⟨b, hbm, hG⟩ := at_ i v hP
    have hcell : g'.IsCell (L + 1 + 1 + 1 + 1) (some (.str (S (tagOf n)) t4)) := ⟨o4, eg _ _ (k₁.own (L + 1 + 1 + 1 + 1, o4) (by simp)).1, e4⟩
    have hbl : b.txt.length ≤ (flatE (eolOf f) (toldOf (limOf f) rows)).length := by
      obtain ⟨a, c, z⟩ := List.append_of_mem hbm
      rw [z]
      simp [flatE]
      omega
    refine tst_eq (inTs (x := S (b.txt.take 2)) (ys := [S [32, 32], S (tagOf n)]) (evS_eq (slNS (x := S b.txt) (j := 2) (itTs (xs := lnT b) (j := 0) (nmF hm (lnV_ts hG (k₁.back.trans (Ext.toD eg)))) cI (by decide) rfl) cI (by rw [S_len]; omega)) (slice_to (b := 2))) (tpS (sp1 (cSl (by decide)) (sp1 (nmCS (.base hcell) (by rfl)) sp0)) (by show 2 ≤ sizeLine; omega))) ?_
    rw [pick_test, pT_eq hG]
  · rintro D ys n' P h₁ us h' tk' e₁ hl ⟨vs, r, rfl, rfl⟩ ed hlen' hP hF k'
    have huv := us_eq hlen' hP
    subst huv
    have hys := paired_eq hF
    subst hys
    have hpd := paired_filter (p := pT g (tagOf n)) (q := fun l => pickL (tagOf n) l.txt) r fun v x hx => pT_eq hx
    obtain ⟨g', k'', eg, eh⟩ := k'.rebaseD (lMu_nd e1 e2 e3 e4)
    exact h (.ref D) g' h' tk' k'' (J.upd eg) eg ((IsLns _).st eh ⟨D, _, rfl, hl, Paired.mono' (fun v l x => x.st (k.back.trans ((Ext.toD e₁).trans ed))) hpd⟩)
end
end Mine
end
section
open PySem PySem.W PyProof.Rows PySem.Calls
set_option linter.unusedVariables false
set_option maxRecDepth 100000
set_option maxHeartbeats 1000000
namespace Mine
section
variable {c : Cx} {env : Env}
theorem evListRestore {f₁ f₂ e₁ e₂ : Expr} {p₁ p₂ : Pos} {P P' : VP} {n : Int} {xs : List (List Nat)} {s : Shared} {Q : Value → Shared → Prop} {E : Value → Shared → Prop} (G : Gd c.w c.h₀) (k : c.ok s.heap) (hh : c.A.handled = none) (hroom : c.A.depth + 3 < recursionLimit) (hn : n = 1 ∨ n = 2)
    (hx : ∀ x ∈ xs, x.length ≤ 1000000) (hxl : xs.length ≤ 1000000)
    (hf₁ : Ev c (eval f₁ env) (IsV (.type "list"))) (hf₂ : Ev c (eval f₂ env) (IsV (.ref 21))) (he₁ : Ev c (eval e₁ env) P) (he₂ : Ev c (eval e₂ env) P') (hw : ∀ v h, P'.p v h → WishOf v n)
    (hP : ∀ v h, Ext s.heap h → P.p v h → ∃ hB' l vs, Gd c.w hB' ∧ Ext hB' h ∧ hB'.objs.size ≤ h.objs.size ∧ h.IsList l vs.toArray ∧ StrsAre vs (xs.map S) ∧ (v = .ref l ∨ ∃ I, v = .ref I ∧ h.IsListIter I l 0 ∧ hB'.get? I = none) ∧
      ∀ Sa h' gens' tk' acc n', Ext hB' h' → h.get? Sa = none → h'.get? Sa = some { cls := .type "list", dict := none, data := .seq acc n', slots := #[] } → StrsAre acc.toList ((outsOf (tagOf n) xs).map S) → ((∀ y ∈ s.gens, y.bare = true) → ∀ y ∈ gens', y.bare = true) → Q (.ref Sa) ⟨h', gens', s.drawn, tk', s.os⟩)
    (h1 : starEach [.Call f₂ [e₁, e₂] [] p₂] env = (false, eval (.Call f₂ [e₁, e₂] [] p₂) env) :: starEach [] env := by rfl)
    (h2 : eval (.Call f₁ [.Call f₂ [e₁, e₂] [] p₂] [] p₁) env = (do let fv ← eval f₁ env; callWith p₁ fv [] (backTo p₁ (starEach [.Call f₂ [e₁, e₂] [] p₂] env)) (backToKw p₁ (keywordEach [] env))) := by rfl)
    (g1 : starEach [e₁, e₂] env = (false, eval e₁ env) :: starEach [e₂] env := by rfl) (g1' : starEach [e₂] env = (false, eval e₂ env) :: starEach [] env := by rfl) (g3 : ((backTo p₂ (starEach [e₂] env)).any fun x => x.1) = false := by rfl)
    (g2 : eval (.Call f₂ [e₁, e₂] [] p₂) env = (do let fv ← eval f₂ env; callWith p₂ fv [] (backTo p₂ (starEach [e₁, e₂] env)) (backToKw p₂ (keywordEach [] env))) := by rfl) :
    wpAny (model c.prog c.w) c.A (eval (.Call f₁ [.Call f₂ [e₁, e₂] [] p₂] [] p₁) env) Q E s := by
  refine Call_ (hf₁ s _ E k trivial fun fv h₁ tk₁ q ex₁ => ?_) h2
  have q' : fv = .type "list" := q
  subst q'
  refine Pv.callWith_type1 (spliced_more ?_ h1) h1 rfl
  refine Call_ (hf₂ _ _ E (k.ext ex₁) trivial fun fv h₂ tk₂ q ex₂ => ?_) g2
  have q' : fv = .ref 21 := q
  subst q'
  refine callWith_K G.X (by rfl) (spliced_more (he₁ _ _ E ((k.ext ex₁).ext ex₂) trivial fun v h₃ tk₃ pv ex₃ => spliced_more (he₂ _ _ E (((k.ext ex₁).ext ex₂).ext ex₃) trivial fun v' h₄ tk₄ pv' ex₄ => spliced_none ?_) g1') g1) g1 g3
  have k₄ := (((k.ext ex₁).ext ex₂).ext ex₃).ext ex₄
  have e4 : Ext s.heap h₄ := ((ex₁.trans ex₂).trans ex₃).trans ex₄
  refine ⟨G.X.keeps k₄.base, ?_⟩
  refine restore_call (s := ⟨h₄, s.gens, s.drawn, tk₄, s.os⟩) (G.ext k₄.base) (by omega) ?_
  intro h₅ t₁ t₂ tk₅ hns₅ ex₅
  refine spliced_none ?_
  obtain ⟨hB', l, vs, GB, hBs, hsz, hl, hvs, hsrc, cont⟩ := hP v h₄ e4 (P.st ex₄.toD pv)
  have hC : @LT.lt Nat _ h₄.objs.size h₅.objs.size := hns₅.lt
  have fin : ∀ I, hB'.get? I = none → I ≠ h₅.objs.size → I ≠ h₅.objs.size + 1 → (v = .ref l ∨ (v = .ref I ∧ h₄.IsListIter I l 0)) →
      wpAny (model c.prog c.w) c.A (call (.type "list") [.ref h₅.objs.size]) Q E { (⟨h₄, s.gens, s.drawn, tk₄, s.os⟩ : Shared) with heap := h₅.push (genO s.gens.size t₁ t₂), gens := s.gens.push (.fresh (.func rBd (rEnv h₄.objs.size))), toks := tk₅ } := fun I hI i1 i2 hs => by
    refine list_restore (s := ⟨h₄, s.gens, s.drawn, tk₄, s.os⟩) (hB := hB') (I := I) GB hBs hsz hI i1 i2 hh hroom hns₅ ex₅ hn (hw v' h₄ pv') hl hvs hs hx hxl ?_
    intro Sa h' gens' tk' acc n' b1 b2 b3 b4 b5
    exact cont Sa h' gens' tk' acc n' b1 b2 b3 b4 b5
  rcases hsrc with rfl | ⟨I, rfl, hit, hI⟩
  · refine fin (h₅.objs.size + 2) ?_ ?_ ?_ (.inl rfl)
    · cases hx : hB'.get? (h₅.objs.size + 2) with
      | none => rfl
      | some o =>
        have h3 : @LT.lt Nat _ (h₅.objs.size + 2) h₄.objs.size := Heap.lt_size (hBs _ _ hx)
        omega
    · intro z; have z' : @Eq Nat (h₅.objs.size + 2) h₅.objs.size := z; omega
    · intro z; have z' : @Eq Nat (h₅.objs.size + 2) (h₅.objs.size + 1) := z; omega
  · have hlt : @LT.lt Nat _ I h₄.objs.size := by obtain ⟨o, ho, _⟩ := hit; exact Heap.lt_size ho
    refine fin I hI ?_ ?_ (.inr ⟨rfl, hit⟩)
    · intro z; have z' : @Eq Nat I h₅.objs.size := z; omega
    · intro z; have z' : @Eq Nat I (h₅.objs.size + 1) := z; omega
end
end Mine
end
section
open PySem PySem.W PyProof.Rows PySem.Calls
set_option linter.unusedVariables false
set_option maxRecDepth 100000
set_option maxHeartbeats 1000000
namespace Mine
theorem boot_listT : bootBuiltins "list" = some (.type "list") := by decide +kernel
theorem tag_is {n : Int} : tagOf n = [45, 32] ∨ tagOf n = [43, 32] := by unfold tagOf; split; exact .inl rfl; exact .inr rfl
theorem flatE_map (e : List Nat) (ls : List Ln) : flatE e ls = (ls.map Ln.txt).flatMap (· ++ e) := by
  unfold flatE
  rw [List.flatMap_map]
theorem told_good {n : Nat} (hn : 4 ≤ n) {rows : List (List Nat)} (hR : Rows rows) : ∀ l ∈ toldOf n rows, LnG l := by
  intro l hl
  obtain ⟨r, hr, hl⟩ := List.mem_flatMap.mp hl
  exact lnsOf_good hn (fun c hc => ((hR.row r hr).2 c hc).1) l hl
theorem told_ne {n : Nat} (hn : 4 ≤ n) {rows : List (List Nat)} (hR : Rows rows) : toldOf n rows ≠ [] := by
  obtain ⟨r, rs, e⟩ := List.exists_cons_of_ne_nil hR.ne
  have hv := lnsOf_val (r := r) hn fun c hc => ((hR.row r (by rw [e]; simp)).2 c hc).1
  intro z
  rw [e] at z
  have : lnsOf n r = [] := by
    have := congrArg List.length z
    simp [toldOf] at this
    exact this.1
  rw [this] at hv
  have := congrArg List.length hv
  simp at this
theorem txt_le {e : List Nat} {ls : List Ln} {b : Ln} (h : b ∈ ls) : b.txt.length ≤ (flatE e ls).length := by
  obtain ⟨a, c, z⟩ := List.append_of_mem h
  rw [z]
  simp [flatE]
  omega
section
variable {prog : Program} {w : World} {A : Around} {E : Value → Shared → Prop}
theorem law_c2 {hB : Heap} {L : Addr} {m : PySem.Str → Option Value} {g hh : Heap} {o1 o2 o3 o4 : Obj} {f n : Int} {rows : List (List Nat)} {Q : Flow → Shared → Prop} {gs : Array GenState} {dr : Drawn} {tk₀ : Nat} {os : OsState} (G : Gd w hB) (hA : A.handled = none) (hroom : A.depth + 3 < recursionLimit)
    (hR : Rows rows) (hn : n = 1 ∨ n = 2) (k : (LX prog w A hB L m g o1 o2 o3 o4).ok hh) (J : LE f rows n m g o1 o2 o3 o4) (hpk : ∃ v, m (Str.ofString "picked") = some v ∧ (IsLns (pickedOf (tagOf n) (toldOf (limOf f) rows))).p v g)
    (h : ∀ v g' h' gs' tk', (LX prog w A hB L (upd m (Str.ofString "found") v) g' o1 o2 o3 o4).ok h' → LE f rows n (upd m (Str.ofString "found") v) g' o1 o2 o3 o4 → ExtD g g' → (IsSs (((pickedOf (tagOf n) (toldOf (limOf f) rows)).map fun l => l.txt.drop 2).map S)).p v g' →
      ((∀ y ∈ gs, y.bare = true) → ∀ y ∈ gs', y.bare = true) → wpAny (model prog w) A (execs (fBody.drop 2) (lEnv L)) Q E ⟨h', gs', dr, tk', os⟩) :
    wpAny (model prog w) A (execs (fBody.drop 1) (lEnv L)) Q E ⟨hh, gs, dr, tk₀, os⟩ := by
  have hS : sizeLine = 16777216 := rfl
  obtain ⟨p, lo, mg, mb, T⟩ := G.T
  have X := G.X
  obtain ⟨hn4, hn1⟩ := lim_ok f
  obtain ⟨vw, hvw, hpw⟩ := J.wish
  obtain ⟨t1, e1⟩ := J.lim
  obtain ⟨t2, e2⟩ := J.eol
  obtain ⟨t3, e3⟩ := J.side
  obtain ⟨t4, e4⟩ := J.code
  have hlen := hR.len
  have hcnt := told_count (rows := rows) hn4 fun r hr => (hR.row r hr).1
  have hsz := told_size (eol_ok f) (rows := rows) hn4 fun r hr => (hR.row r hr).1
  have hgood := told_good hn4 hR
  refine wpAny_execs_cons (wpAny_Assign_Name (evListRestore (c := LX prog w A hB L m g o1 o2 o3 o4) (P := IsSs (((toldOf (limOf f) rows).map Ln.txt ++ [[]]).map S)) (P' := IsV vw) (n := n) (xs := (toldOf (limOf f) rows).map Ln.txt ++ [[]]) G k hA hroom hn ?_ ?_ (bl X T (by rfl) boot_listT) (gl X T (by rfl)) ?_ (nm hvw fun _ => rfl) ?_ ?_) (by rfl))
  · intro x hx
    rcases List.mem_append.mp hx with hx | hx
    · obtain ⟨l, hl, rfl⟩ := List.mem_map.mp hx
      have := txt_le (e := eolOf f) hl
      omega
    · have : x = [] := by simpa using hx
      rw [this]; simp
  · rw [List.length_append, List.length_map, List.length_singleton]; omega
  · refine mSplit (e := eolOf f) (ls := (toldOf (limOf f) rows).map Ln.txt) ?_ (nmCS (CellIs.own (List.mem_cons_of_mem _ (List.mem_cons_self ..)) e2) (lc2 L)) (eol_ok f) ?_ ?_ ?_ ?_
    · rw [← flatE_map]; exact nS J.letter
    · intro z
      exact told_ne hn4 hR (List.map_eq_nil_iff.mp z)
    · intro l hl c hc
      obtain ⟨l', hl', rfl⟩ := List.mem_map.mp hl
      exact ((hgood l' hl').nb c hc).2
    · rw [← flatE_map]; omega
    · rw [List.length_map]; omega
  · intro v h' q
    have q' : v = vw := q
    subst q'
    exact hpw
  · rintro v h₁ ex ⟨a, vs, rfl, hl, hvs⟩
    refine ⟨h₁, a, vs, G.ext (Ext.trans k.base ex), Ext.refl, Nat.le_refl _, hl, hvs, .inl rfl, ?_⟩
    intro Sa h' gens' tk' acc n' b1 b2 b3 b4 b5
    have k' := k.ext (Ext.trans ex b1)
    have pf : (IsSs (((pickedOf (tagOf n) (toldOf (limOf f) rows)).map fun l => l.txt.drop 2).map S)).p (.ref Sa) h' := by
      rw [outs_told tag_is] at b4
      exact ⟨Sa, acc.toList, rfl, ⟨_, b3, rfl, n', by simp⟩, b4⟩
    refine st1 (c := LX prog w A hB L m g o1 o2 o3 o4) (gs := gens') k' (fun h'' tk'' d k'' => ?_) rfl (by rfl) (by rfl)
    obtain ⟨g', k₃, eg, eh⟩ := k''.rebaseD (lMu_nd e1 e2 e3 e4)
    exact h (.ref Sa) g' h'' gens' tk'' k₃ (J.upd eg) eg ((IsSs _).st (d.trans eh) pf) b5
end
end Mine
end
section
open PySem PySem.W PyProof.Rows PySem.Calls
set_option linter.unusedVariables false
set_option maxRecDepth 100000
set_option maxHeartbeats 1000000
namespace Mine
theorem filter_len {p : Ln → Bool} {f g : Ln → List Nat} (h : ∀ l, (f l).length ≤ (g l).length) : ∀ ls : List Ln, (((ls.filter p).map f).flatten).length ≤ (ls.flatMap g).length
  | [] => by simp
  | l :: ls => by
    have ih := filter_len (p := p) h ls
    have hl := h l
    rw [List.filter_cons, List.flatMap_cons, List.length_append]
    cases p l with
    | true => simp only [if_true]; rw [List.map_cons, List.flatten_cons, List.length_append]; omega
    | false => simp only [Bool.false_eq_true, if_false]; omega
section
variable {prog : Program} {w : World} {A : Around} {E : Value → Shared → Prop}
theorem law_c3 {hB : Heap} {L : Addr} {m : PySem.Str → Option Value} {g hh : Heap} {o1 o2 o3 o4 : Obj} {f n : Int} {rows : List (List Nat)} {Q : Flow → Shared → Prop} {gs : Array GenState} {dr : Drawn} {tk₀ : Nat} {os : OsState} (hA : A.handled = none) (hu : A.units < cLine)
    (hR : Rows rows) (k : (LX prog w A hB L m g o1 o2 o3 o4).ok hh) (J : LE f rows n m g o1 o2 o3 o4) (hpk : ∃ v, m (Str.ofString "picked") = some v ∧ (IsLns (pickedOf (tagOf n) (toldOf (limOf f) rows))).p v g)
    (hfd : ∃ v, m (Str.ofString "found") = some v ∧ (IsSs (((pickedOf (tagOf n) (toldOf (limOf f) rows)).map fun l => l.txt.drop 2).map S)).p v g)
    (h : ∀ h' tk', (LX prog w A hB L m g o1 o2 o3 o4).ok h' → wpAny (model prog w) A (execs (fBody.drop 3) (lEnv L)) Q E ⟨h', gs, dr, tk', os⟩) :
    wpAny (model prog w) A (execs (fBody.drop 2) (lEnv L)) Q E ⟨hh, gs, dr, tk₀, os⟩ := by
  have hS : sizeLine = 16777216 := rfl
  obtain ⟨hn4, hn1⟩ := lim_ok f
  obtain ⟨vp, hvp, hpp⟩ := hpk
  obtain ⟨vf, hvf, hpf⟩ := hfd
  have hlen := hR.len
  have hcnt := told_count (rows := rows) hn4 fun r hr => (hR.row r hr).1
  have hsz := told_size (eol_ok f) (rows := rows) hn4 fun r hr => (hR.row r hr).1
  have hpc : (pickedOf (tagOf n) (toldOf (limOf f) rows)).length ≤ (toldOf (limOf f) rows).length := List.length_filter_le _ _
  refine sIfF (c := LX prog w A hB L m g o1 o2 o3 o4) k (neSame (nmF hvf hpf) ?_ hu) rfl h
  rw [List.map_map]
  refine evMapS (cl := []) (G := LnV g) (xs := pickedOf (tagOf n) (toldOf (limOf f) rows)) (f := fun l => S (l.txt.drop 2)) hA ⟨by rfl, by rfl, by rfl, by rfl, by rfl⟩ (nmF hvp hpp) (by omega) ?_ ?_
  · intro v b b' h1 h2
    rw [(lnT_parts (lnV_det h1 h2)).1]
  · intro h₁ g' C m' v b k₁ eg hG hbm hm
    obtain ⟨hbt, hbp⟩ := List.mem_filter.mp hbm
    have h2 := pick_len (by rcases tag_is (n := n) with z | z <;> rw [z] <;> rfl) hbp
    have hbl := txt_le (e := eolOf f) hbt
    exact evS_eq (slSN (x := S b.txt) (i := 2) (itTs (xs := lnT b) (j := 0) (nmF hm (lnV_ts hG (k₁.back.trans (Ext.toD eg)))) cI (by decide) rfl) cI (by rw [S_len]; omega)) (slice_from (a := 2) h2)
theorem law_c4 {hB : Heap} {L : Addr} {m : PySem.Str → Option Value} {g hh : Heap} {o1 o2 o3 o4 : Obj} {f n : Int} {rows : List (List Nat)} {Q : Flow → Shared → Prop} {gs : Array GenState} {dr : Drawn} {tk₀ : Nat} {os : OsState} (G : Gd w hB) (hA : A.handled = none) (hroom : A.depth + 3 < recursionLimit)
    (hR : Rows rows) (k : (LX prog w A hB L m g o1 o2 o3 o4).ok hh) (J : LE f rows n m g o1 o2 o3 o4) (hpk : ∃ v, m (Str.ofString "picked") = some v ∧ (IsLns (pickedOf (tagOf n) (toldOf (limOf f) rows))).p v g)
    (hfd : ∃ v, m (Str.ofString "found") = some v ∧ (IsSs (((pickedOf (tagOf n) (toldOf (limOf f) rows)).map fun l => l.txt.drop 2).map S)).p v g)
    (h : ∀ h' tk', (LX prog w A hB L m g o1 o2 o3 o4).ok h' → wpAny (model prog w) A (execs (fBody.drop 4) (lEnv L)) Q E ⟨h', gs, dr, tk', os⟩) :
    wpAny (model prog w) A (execs (fBody.drop 3) (lEnv L)) Q E ⟨hh, gs, dr, tk₀, os⟩ := by
  have hS : sizeLine = 16777216 := rfl
  obtain ⟨p, lo, mg, mb, T⟩ := G.T
  have X := G.X
  obtain ⟨hn4, hn1⟩ := lim_ok f
  obtain ⟨vp, hvp, hpp⟩ := hpk
  obtain ⟨vf, hvf, hpf⟩ := hfd
  obtain ⟨t2, e2⟩ := J.eol
  have hlen := hR.len
  have he := eol_ok f
  have hel : 1 ≤ (eolOf f).length ∧ (eolOf f).length ≤ 2 := by rcases he with z | z <;> rw [z] <;> simp
  have hcnt := told_count (rows := rows) hn4 fun r hr => (hR.row r hr).1
  have hsz := told_size he (rows := rows) hn4 fun r hr => (hR.row r hr).1
  have hpc : (pickedOf (tagOf n) (toldOf (limOf f) rows)).length ≤ (toldOf (limOf f) rows).length := List.length_filter_le _ _
  obtain ⟨ds, hok, hdt, hdv⟩ := picked_facts (tag_is (n := n)) (told_good hn4 hR)
  have hsz1 := filter_len (p := fun l => pickL (tagOf n) l.txt) (f := fun l => l.txt.drop 2 ++ eolOf f) (g := fun l => l.txt ++ eolOf f) (fun l => by simp) (toldOf (limOf f) rows)
  have hsz2 := filter_len (p := fun l => pickL (tagOf n) l.txt) (f := fun l => (vals l.toks).drop 2 ++ (if l.soft then [] else [10])) (g := fun l => l.txt ++ eolOf f) (fun l => by
    have h1 := vals_le l.toks
    have h2 : (if l.soft then ([] : List Nat) else [10]).length ≤ 1 := by split <;> simp
    have h3 : (txts l.toks).length ≤ l.txt.length := by unfold Ln.txt; rw [List.length_append]; omega
    rw [List.length_append, List.length_append, List.length_drop]
    omega) (toldOf (limOf f) rows)
  have hfl : (((pickedOf (tagOf n) (toldOf (limOf f) rows)).map fun l => l.txt.drop 2).map (· ++ eolOf f)).flatten = flatE (eolOf f) ds := by
    rw [← hdt, ← List.flatMap_def, ← flatE_map]
  have hsz1' : (flatE (eolOf f) ds).length ≤ 60200 := by
    rw [← hfl, List.map_map]
    have : ((pickedOf (tagOf n) (toldOf (limOf f) rows)).map ((fun x => x ++ eolOf f) ∘ fun l => l.txt.drop 2)).flatten.length ≤ (flatE (eolOf f) (toldOf (limOf f) rows)).length := hsz1
    omega
  refine sIfF (c := LX prog w A hB L m g o1 o2 o3 o4) k (neS (x := S (ds.flatMap Ln.val)) (y := S (ds.flatMap Ln.val)) ?_ ?_) (by simp) h
  · refine callK1 (a := 72) (P := IsS (S (flatE (eolOf f) ds))) X (by rfl) (gl X T (by rfl)) ?_ ?_
    · refine evS_eq (joinE (xs := ((pickedOf (tagOf n) (toldOf (limOf f) rows)).map fun l => l.txt.drop 2).map (· ++ eolOf f)) (cSl (by decide)) ?_ (by rw [hfl]; omega)) (by rw [hfl])
      rw [List.map_map]
      refine evMapS (cl := [(Str.ofString "ending", L + 1 + 1)]) (G := StrG) (xs := (pickedOf (tagOf n) (toldOf (limOf f) rows)).map fun l => l.txt.drop 2) (f := fun x => S (x ++ eolOf f)) hA ⟨by rfl, by rfl, by rfl, by rfl, by rfl⟩ (isSs_W (nmF hvf hpf)) (by rw [List.length_map]; omega) ?_ ?_
      · intro v b b' h1 h2
        rw [strG_det h1 h2]
      · rintro h₁ g' C m' v b k₁ eg ⟨t, rfl⟩ hbm hm
        have hcell : g'.IsCell (L + 1 + 1) (some (.str (S (eolOf f)) t2)) := ⟨o2, eg _ _ (k₁.own (L + 1 + 1, o2) (by simp)).1, e2⟩
        have hbl : b.length ≤ 60200 := by
          obtain ⟨l, hl, rfl⟩ := List.mem_map.mp hbm
          have := txt_le (e := eolOf f) (List.mem_filter.mp hl).1
          rw [List.length_drop]
          omega
        refine evS_eq (addS (x := S b) (y := S (eolOf f)) (nm hm fun _ => ⟨t, rfl⟩) (nmCS (.base hcell) (by rfl)) ?_) (S_add _ _)
        rw [S_len, S_len]
        omega
    · rintro v s' Q' E' k' ⟨t, rfl⟩ f'
      exact decode_ctr G (by omega) hA he hok (Nat.le_trans hsz1' (by decide)) s' Q' E' k'.base f'
  · have hfl2 : ((pickedOf (tagOf n) (toldOf (limOf f) rows)).map fun l => (vals l.toks).drop 2 ++ (if l.soft then [] else [10])).flatten = ds.flatMap Ln.val := by rw [hdv, ← List.flatMap_def]
    have hsz2' : (ds.flatMap Ln.val).length ≤ 60200 := by
      rw [← hfl2]
      have : ((pickedOf (tagOf n) (toldOf (limOf f) rows)).map fun l => (vals l.toks).drop 2 ++ (if l.soft then [] else [10])).flatten.length ≤ (flatE (eolOf f) (toldOf (limOf f) rows)).length := hsz2
      omega
    refine evS_eq (joinE (xs := (pickedOf (tagOf n) (toldOf (limOf f) rows)).map fun l => (vals l.toks).drop 2 ++ (if l.soft then [] else [10])) (cSl (by decide)) ?_ (by rw [hfl2]; omega)) (by rw [hfl2])
    rw [List.map_map]
    refine evMapS (cl := []) (G := LnV g) (xs := pickedOf (tagOf n) (toldOf (limOf f) rows)) (f := fun l => S ((vals l.toks).drop 2 ++ (if l.soft then [] else [10]))) hA ⟨by rfl, by rfl, by rfl, by rfl, by rfl⟩ (nmF hvp hpp) (by omega) ?_ ?_
    · intro v b b' h1 h2
      have := lnT_parts (lnV_det h1 h2)
      rw [this.2.1, this.2.2]
    · intro h₁ g' C m' v b k₁ eg hG hbm hm
      obtain ⟨hbt, hbp⟩ := List.mem_filter.mp hbm
      obtain ⟨a, rest, hsh⟩ := pick_shape (tag_is (n := n)) hbp
      have hv2 : 2 ≤ (vals b.toks).length := by rw [hsh]; simp
      have hbl := txt_le (e := eolOf f) hbt
      have hvl := vals_le b.toks
      have h3 : (txts b.toks).length ≤ b.txt.length := by unfold Ln.txt; rw [List.length_append]; omega
      have hP := lnV_ts hG (k₁.back.trans (Ext.toD eg))
      refine evS_eq (addS (x := S ((vals b.toks).drop 2)) (y := S (if b.soft then [] else [10])) (evS_eq (slSN (x := S (vals b.toks)) (i := 2) (itTs (xs := lnT b) (j := 1) (nmF hm hP) cI (by decide) rfl) cI (by rw [S_len]; omega)) (slice_from (a := 2) hv2)) (itTs (xs := lnT b) (j := 2) (nmF hm hP) cI (by decide) rfl) ?_) (S_add _ _)
      rw [S_len, S_len, List.length_drop]
      have : (if b.soft then ([] : List Nat) else [10]).length ≤ 1 := by split <;> simp
      omega
end
end Mine
end
section
open PySem PySem.W PyProof.Rows PySem.Calls
set_option linter.unusedVariables false
set_option maxRecDepth 100000
set_option maxHeartbeats 1000000
namespace Mine
section
variable {prog : Program} {w : World} {A : Around} {E : Value → Shared → Prop}
theorem law_body {hB : Heap} {L : Addr} {m : PySem.Str → Option Value} {g hh : Heap} {o1 o2 o3 o4 : Obj} {f n : Int} {rows : List (List Nat)} {Q : Flow → Shared → Prop} {gs : Array GenState} {dr : Drawn} {tk₀ : Nat} {os : OsState} (G : Gd w hB) (hA : A.handled = none) (hroom : A.depth + 3 < recursionLimit) (hu : A.units < cLine)
    (hR : Rows rows) (hn : n = 1 ∨ n = 2) (k : (LX prog w A hB L m g o1 o2 o3 o4).ok hh) (J : LE f rows n m g o1 o2 o3 o4)
    (h : ∀ v v' g' h' gs' tk', (LX prog w A hB L (upd (upd m (Str.ofString "picked") v) (Str.ofString "found") v') g' o1 o2 o3 o4).ok h' → ExtD g g' → ((∀ y ∈ gs, y.bare = true) → ∀ y ∈ gs', y.bare = true) → Q .next ⟨h', gs', dr, tk', os⟩) :
    wpAny (model prog w) A (execs fBody (lEnv L)) Q E ⟨hh, gs, dr, tk₀, os⟩ := by
  refine law_c1 hA hR k J ?_
  intro v g₁ h₁ tk₁ k₁ J₁ eg₁ p₁
  refine law_c2 G hA hroom hR hn k₁ J₁ ⟨v, upd_same, p₁⟩ ?_
  intro v' g₂ h₂ gs₂ tk₂ k₂ J₂ eg₂ p₂ hb
  have hpk : ∃ u, upd (upd m (Str.ofString "picked") v) (Str.ofString "found") v' (Str.ofString "picked") = some u ∧ (IsLns (pickedOf (tagOf n) (toldOf (limOf f) rows))).p u g₂ := ⟨v, (upd_ne (by decide)).trans upd_same, (IsLns _).st eg₂ p₁⟩
  refine law_c3 hA hu hR k₂ J₂ hpk ⟨v', upd_same, p₂⟩ ?_
  intro h₃ tk₃ k₃
  refine law_c4 G hA hroom hR k₃ J₂ hpk ⟨v', upd_same, p₂⟩ ?_
  intro h₄ tk₄ k₄
  exact sNil (h v v' g₂ h₄ gs₂ tk₄ k₄ (eg₁.trans eg₂) hb)
end
theorem Cx.ok.rebaseH {c : Cx} {h : Heap} (k : c.ok h) (hmu : ∀ p ∈ c.mu, ¬ nd p.2) : ({ c with g := h } : Cx).ok h :=
  ⟨k.fr, ExtD.refl, fun p hp => ⟨(k.own p hp).1, (k.own p hp).2.1, (k.own p hp).2.2.1, fun o e => by rw [(k.own p hp).1] at e; cases e; exact hmu p hp⟩⟩
/-- all stands but one that the context does not know -/
theorem Cx.ok.but {c : Cx} {h h' : Heap} {I : Addr} (k : c.ok h) (hs : Heap.ExtBut I h h') (hL : c.L ≠ I) (hB : c.h₀.get? I = none) (hg : c.g.get? I = none) (hmu : ∀ p ∈ c.mu, p.1 ≠ I) : c.ok h' :=
  ⟨⟨k.fr.ns.at' fun o e => hs _ o hL e, fun b o e => hs b o (fun z => by rw [z, hB] at e; cases e) (k.fr.keep b o e), k.fr.above⟩, fun b o e n => hs b o (fun z => by rw [z, hg] at e; cases e) (k.back b o e n), fun p hp => ⟨hs _ _ (hmu p hp) (k.own p hp).1, (k.own p hp).2⟩⟩
/-- a look back at what stood before -/
theorem Cx.ok.lookB {c c' : Cx} {h h' : Heap} (k : c.ok h) (k' : c'.ok h') (e : ExtD c.g h') (hm : c'.mu.map (·.1) = c.mu.map (·.1)) : ({ c' with g := c.g } : Cx).ok h' :=
  ⟨k'.fr, e, fun p hp => ⟨(k'.own p hp).1, (k'.own p hp).2.1, (k'.own p hp).2.2.1, by
    have : p.1 ∈ c.mu.map (·.1) := hm ▸ List.mem_map.mpr ⟨p, hp, rfl⟩
    obtain ⟨q, hq, z⟩ := List.mem_map.mp this
    exact z ▸ (k.own q hq).2.2.2⟩⟩
section
variable {c : Cx} {env : Env}
/-- a wish and its code, a tuple -/
noncomputable def PairAt (h : Heap) (b : Addr) (n : Int) : Prop := ∃ u v t, IsTup h b #[u, v] ∧ WishOf u n ∧ v = .str (S (tagOf n)) t
theorem PairAt.st {h h' : Heap} {b : Addr} {n : Int} (e : ExtD h h') (x : PairAt h b n) : PairAt h' b n := let ⟨u, v, t, a, b, c⟩ := x; ⟨u, v, t, isTup_st e a, b, c⟩
theorem evPair {e₁ e₂ : Expr} {k : Nat} {pos : Pos} {n : Int} {P : VP} (h₁ : Ev c (eval e₁ env) P) (hP : ∀ v h, P.p v h → WishOf v n) (h₂ : Ev c (eval e₂ env) (IsS (S (tagOf n))))
    (h1 : starEach [e₁, e₂] env = (false, eval e₁ env) :: starEach [e₂] env := by rfl) (h2 : starEach [e₂] env = (false, eval e₂ env) :: starEach [] env := by rfl) :
    Ev c (eval (.Tuple [e₁, e₂] k pos) env) ⟨fun v h => ∃ b, v = .ref b ∧ PairAt h b n, by rintro v h h' e ⟨b, q, x⟩; exact ⟨b, q, x.st e⟩⟩ :=
  fun s Q E k _ f => Tuple_ (spliced_more (h₁ s _ E k trivial fun v h₁ tk₁ p e₁' => spliced_more (h₂ _ _ E (k.ext e₁') trivial fun v' h₂ tk₂ ⟨t, q⟩ e₂' => spliced_none (wpAny_newObj_type (f _ _ tk₂ ⟨_, rfl, v, v', t, ⟨_, Heap.get?_push_size _ rfl, rfl, 0, rfl⟩, hP v _ p, q⟩ ((e₁'.trans e₂').trans (Ext.push _))) (by show 2 ≤ sizeLine; decide))) h2) h1)
noncomputable def IsPairs : VP := ⟨fun v h => ∃ a b₁ b₂, v = .ref a ∧ h.IsList a #[.ref b₁, .ref b₂] ∧ PairAt h b₁ 1 ∧ PairAt h b₂ 2, by rintro v h h' e ⟨a, b₁, b₂, q, l, x, y⟩; exact ⟨a, b₁, b₂, q, isList_st e l, x.st e, y.st e⟩⟩
theorem evPairs {e₁ e₂ : Expr} {pos : Pos} (h₁ : Ev c (eval e₁ env) ⟨fun v h => ∃ b, v = .ref b ∧ PairAt h b 1, by rintro v h h' e ⟨b, q, x⟩; exact ⟨b, q, x.st e⟩⟩) (h₂ : Ev c (eval e₂ env) ⟨fun v h => ∃ b, v = .ref b ∧ PairAt h b 2, by rintro v h h' e ⟨b, q, x⟩; exact ⟨b, q, x.st e⟩⟩)
    (h1 : starEach [e₁, e₂] env = (false, eval e₁ env) :: starEach [e₂] env := by rfl) (h2 : starEach [e₂] env = (false, eval e₂ env) :: starEach [] env := by rfl) :
    Ev c (eval (.List [e₁, e₂] pos) env) IsPairs :=
  fun s Q E k _ f => List_ (spliced_more (h₁ s _ E k trivial fun v h₁ tk₁ ⟨b₁, q₁, x₁⟩ e₁' => spliced_more (h₂ _ _ E (k.ext e₁') trivial fun v' h₂ tk₂ ⟨b₂, q₂, x₂⟩ e₂' => spliced_none (wpAny_newObj_type (by
    subst q₁ q₂
    exact f _ _ tk₂ ⟨_, b₁, b₂, rfl, ⟨_, Heap.get?_push_size _ rfl, rfl, 0, rfl⟩, x₁.st (e₂'.trans (Ext.push _)).toD, x₂.st (Ext.push _).toD⟩ ((e₁'.trans e₂').trans (Ext.push _))) (by show 2 ≤ sizeLine; decide))) h2) h1)
end
end Mine
end
section
open PySem PySem.W PyProof.Rows PySem.Calls
set_option linter.unusedVariables false
set_option maxRecDepth 100000
set_option maxHeartbeats 1000000
namespace Mine
theorem wish1 {v : Value} {h : Heap} (p : (IsI 1).p v h) : WishOf v 1 := let ⟨t, q⟩ := p; .inl ⟨t, q⟩
theorem wish2 {v : Value} {h : Heap} (p : (IsS (S [50])).p v h) : WishOf v 2 := let ⟨t, q⟩ := p; .inr ⟨[50], t, q, by decide +kernel, by decide⟩
section
variable {prog : Program} {w : World} {A : Around} {E : Value → Shared → Prop}
/-- the two names of a turn -/
theorem law_turn {hB : Heap} {L : Addr} {m : PySem.Str → Option Value} {g hh : Heap} {o1 o2 o3 o4 : Obj} {v₄ : Option Value} {n : Int} {b : Addr} {kk : Nat} {p₁ p₂ pos : Pos} {Q : Unit → Shared → Prop} {gs : Array GenState} {dr : Drawn} {tk₀ : Nat} {os : OsState} (hA : A.handled = none)
    (k : (LX prog w A hB L m g o1 o2 o3 o4).ok hh) (d4 : o4.data = .cell v₄) (hb : PairAt hh b n)
    (h : ∀ u t o4' h' tk', WishOf u n → o4'.data = .cell (some (.str (S (tagOf n)) t)) → ExtD hh h' → (LX prog w A hB L (upd m (Str.ofString "wish") u) g o1 o2 o3 o4').ok h' → Q () ⟨h', gs, dr, tk', os⟩) :
    wpAny (model prog w) A (assign (.Tuple [.Name (Str.ofString "wish") p₁, .Name (Str.ofString "code") p₂] kk pos) (lEnv L) (.ref b)) Q E ⟨hh, gs, dr, tk₀, os⟩ := by
  obtain ⟨u, v, t, htup, hw, rfl⟩ := hb
  refine assign_Tuple_tuple (items := #[u, .str (S (tagOf n)) t]) hA htup rfl rfl fun h₁ he₁ => ?_
  have e₁ : Ext hh h₁ := fun b' o e => he₁ b' o (Nat.ne_of_lt (Heap.lt_size e)) e
  have k₁ := k.ext e₁
  show wpAny _ _ (do holding [.str (S (tagOf n)) t] (assign (.Name (Str.ofString "wish") p₁) (lEnv L) u); assignInOrder [assign (.Name (Str.ofString "code") p₂) (lEnv L)] [.str (S (tagOf n)) t]) _ _ _
  refine wpAny_bind (wpAny_holding (wpAny_assign_Name (st1 (c := LX prog w A hB L m g o1 o2 o3 o4) k₁ (fun h₂ tk₂ d₂ k₂ => ?_) rfl (by rfl) (by rfl))))
  show wpAny _ _ (do holding [] (assign (.Name (Str.ofString "code") p₂) (lEnv L) (.str (S (tagOf n)) t)); assignInOrder [] []) _ _ _
  refine wpAny_bind (wpAny_holding (wpAny_assign_Name (stCell (c := LX prog w A hB L (upd m (Str.ofString "wish") u) g o1 o2 o3 o4) (i := 3) k₂ rfl d4 (fun j q hj hne => lMu_apart 3 j _ _ rfl hj hne) (fun h₃ tk₃ o4' d₃ hd₃ k₃ => wpAny_pure ?_) (lc4 L))))
  exact h u t o4' h₃ tk₃ hw hd₃ ((Ext.toD e₁).trans (d₂.trans d₃)) k₃
theorem law_for {hB : Heap} {L : Addr} {m : PySem.Str → Option Value} {g hh : Heap} {o1 o2 o3 o4 : Obj} {f : Int} {rows : List (List Nat)} {v₄ : Option Value} {Q : Flow → Shared → Prop} {gs : Array GenState} {dr : Drawn} {tk₀ : Nat} {os : OsState} (G : Gd w hB) (hA : A.handled = none) (hroom : A.depth + 3 < recursionLimit) (hu : A.units < cLine)
    (hR : Rows rows) (k : (LX prog w A hB L m g o1 o2 o3 o4).ok hh) (J : LD f rows m g o1 o2 o3) (d4 : o4.data = .cell v₄) (hbare : ∀ y ∈ gs, y.bare = true)
    (h : ∀ m' g' o4' v₄' h' gs' tk', (LX prog w A hB L m' g' o1 o2 o3 o4').ok h' → LD f rows m' g' o1 o2 o3 → o4'.data = .cell v₄' → (∀ y ∈ gs', y.bare = true) → wpAny (model prog w) A (execs (lBd.drop 10) (lEnv L)) Q E ⟨h', gs', dr, tk', os⟩) :
    wpAny (model prog w) A (execs (lBd.drop 9) (lEnv L)) Q E ⟨hh, gs, dr, tk₀, os⟩ := by
  obtain ⟨t1, e1⟩ := J.lim
  obtain ⟨t2, e2⟩ := J.eol
  obtain ⟨t3, e3⟩ := J.side
  refine wpAny_execs_cons (wpAny_For ?_ (fun _ => rfl))
  refine (evPairs (evPair (P := IsI 1) cI (fun v h p => wish1 p) (cSl (by decide))) (evPair (P := IsS (S [50])) (cSl (by decide)) (fun v h p => wish2 p) (cSl (by decide))) : Ev (LX prog w A hB L m g o1 o2 o3 o4) _ IsPairs) ⟨hh, gs, dr, tk₀, os⟩ _ _ k trivial fun x h₁ tk₁ px ex₁ => ?_
  obtain ⟨a, b₁, b₂, rfl, hl, hp1, hp2⟩ := px
  refine wpAny_pyIter_list hl ?_
  have k₁ : (LX prog w A hB L m h₁ o1 o2 o3 o4).ok h₁ := (k.ext ex₁).rebaseH (lMu_nd e1 e2 e3 d4)
  have eg : ExtD g h₁ := (k.ext ex₁).back
  have hI0 : h₁.get? h₁.objs.size = none := fresh_size
  have ex₂ : Ext h₁ (h₁.push { cls := .type "list_iterator", data := .fields #[.ref a, .int 0 0] }) := Ext.push _
  have k₂ := k₁.ext ex₂
  have itI : (h₁.push { cls := .type "list_iterator", data := .fields #[.ref a, .int 0 0] }).IsListIter h₁.objs.size a 0 := ⟨_, Heap.get?_push_size _ rfl, rfl, rfl⟩
  have hLI : L ≠ h₁.objs.size := Nat.ne_of_lt k₁.fr.ns.lt
  have hBI : hB.get? h₁.objs.size = none := by
    cases z : hB.get? h₁.objs.size with
    | none => rfl
    | some o => have := k₁.base _ _ z; rw [hI0] at this; cases this
  have hmI : ∀ p ∈ lMu L o1 o2 o3 o4, p.1 ≠ h₁.objs.size := fun p hp z => by
    have := (k₁.own p hp).1
    rw [z, hI0] at this; cases this
  have hmI' : ∀ (o4' : Obj), ∀ p ∈ lMu L o1 o2 o3 o4', p.1 ≠ h₁.objs.size := fun o4' p hp => by
    have this' : p.1 ∈ (lMu L o1 o2 o3 o4').map (·.1) := List.mem_map.mpr ⟨p, hp, rfl⟩
    have : p.1 ∈ (lMu L o1 o2 o3 o4).map (·.1) := this'
    obtain ⟨q, hq, z⟩ := List.mem_map.mp this
    exact z ▸ hmI q hq
  dsimp only
  generalize (h₁.push { cls := .type "list_iterator", data := .fields #[.ref a, .int 0 0] }) = H at k₂ itI ⊢
  generalize h₁.objs.size = I at itI hI0 hLI hBI hmI hmI' ⊢
  have hlt : ∀ h', ExtD h₁ h' → h'.IsList a #[.ref b₁, .ref b₂] := fun h' e => isList_st e hl
  have hJ : ∀ {m' : PySem.Str → Option Value}, LD f rows m' g o1 o2 o3 → LD f rows m' h₁ o1 o2 o3 := fun j => ⟨⟨⟨let ⟨u, a, b⟩ := j.rows; ⟨u, a, (IsSs _).st eg b⟩, j.odd, j.lim, j.eol, j.side⟩, let ⟨u, a, b⟩ := j.told; ⟨u, a, (IsLns _).st eg b⟩⟩, j.letter⟩
  refine codeAny_forLoop_any (fun n s' => ∃ m' h' gs' tk' o4' v' i, s' = ⟨h', gs', dr, tk', os⟩ ∧ h'.IsListIter I a i ∧ (LX prog w A hB L m' h₁ o1 o2 o3 o4').ok h' ∧ LD f rows m' g o1 o2 o3 ∧ o4'.data = .cell v' ∧ (∀ y ∈ gs', y.bare = true) ∧ i + n = 2) ?_ 2
    ⟨m, H, gs, tk₁, o4, v₄, 0, rfl, itI, k₂, J, d4, hbare, rfl⟩
  rintro n s' ⟨m', h', gs', tk', o4', v', i, rfl, it, k', J', d4', hb', hin⟩
  have lst := hlt h' k'.back
  by_cases hn : n = 0
  · subst hn
    have hi : i = 2 := by omega
    subst hi
    refine wpAny_pyNext_list_end hA it lst (by simp) fun h'' he' => wpAny_execs_nil ?_
    have k'' := k'.but he' hLI hBI hI0 (hmI' o4')
    exact h m' h₁ o4' v' h'' gs' tk' k'' (hJ J') d4' hb'
  · obtain ⟨b, nn, hget, hpair, hnn⟩ : ∃ b nn, (#[Value.ref b₁, .ref b₂] : Array Value)[i]? = some (.ref b) ∧ PairAt h₁ b nn ∧ (nn = 1 ∨ nn = 2) := by
      have : i = 0 ∨ i = 1 := by omega
      rcases this with rfl | rfl
      · exact ⟨b₁, 1, rfl, hp1, .inl rfl⟩
      · exact ⟨b₂, 2, rfl, hp2, .inr rfl⟩
    refine wpAny_pyNext_list_item it lst hget fun h₂ it₂ hs₂ => ?_
    dsimp only
    have k₃ := k'.but hs₂.extBut hLI hBI hI0 (hmI' o4')
    refine wpAny_letOwnedTupleGo_listiter it₂ ?_
    refine law_turn hA k₃ d4' (hpair.st k₃.back) ?_
    intro u t o4'' h₃ tk₃ hw hd4 ed k₄
    have ndI : ∀ {x y : Heap} {j : Nat}, ExtD x y → x.IsListIter I a j → y.IsListIter I a j := fun e ⟨o, ho, q, hd⟩ => ⟨o, e _ _ ho (nd_fields hd), q, hd⟩
    have it₃ := ndI ed it₂
    have JD : LD f rows (upd m' (Str.ofString "wish") u) g o1 o2 o3 := J'.upd ExtD.refl
    have k₅ : (LX prog w A hB L (upd m' (Str.ofString "wish") u) h₃ o1 o2 o3 o4'').ok h₃ := k₄.rebaseH (lMu_nd e1 e2 e3 hd4)
    have JE : LE f rows nn (upd m' (Str.ofString "wish") u) h₃ o1 o2 o3 o4'' := ⟨⟨⟨⟨let ⟨u, a, b⟩ := JD.rows; ⟨u, a, (IsSs _).st (eg.trans k₄.back) b⟩, JD.odd, JD.lim, JD.eol, JD.side⟩, let ⟨u, a, b⟩ := JD.told; ⟨u, a, (IsLns _).st (eg.trans k₄.back) b⟩⟩, JD.letter⟩, ⟨u, upd_same, hw⟩, ⟨t, hd4⟩⟩
    refine law_body G hA hroom hu hR hnn k₅ JE ?_
    intro v v'' g' h₄ gs'' tk₄ k₆ eg' hb''
    have e₃₄ : ExtD h₃ h₄ := eg'.trans k₆.back
    refine ⟨n - 1, by omega, _, h₄, gs'', tk₄, o4'', _, i + 1, rfl, ndI e₃₄ it₃, k₄.lookB k₆ (ExtD.trans k₄.back e₃₄) rfl, (JD.upd ExtD.refl).upd ExtD.refl, hd4, hb'' hb', by omega⟩
end
end Mine
end
section
open PySem PySem.W PyProof.Rows PySem.Calls
set_option linter.unusedVariables false
set_option maxRecDepth 100000
set_option maxHeartbeats 1000000
namespace Mine
theorem boot_iter : bootBuiltins "iter" = some (.builtin "iter") := by decide +kernel
theorem boot_repr : bootBuiltins "repr" = some (.builtin "repr") := by decide +kernel
/-- an iterator at the start of a list of texts, younger than hB -/
noncomputable def IsHeard (hB : Heap) (xs : List (List Nat)) : VP := ⟨fun v h => ∃ I l vs, v = .ref I ∧ h.IsListIter I l 0 ∧ h.IsList l vs.toArray ∧ StrsAre vs (xs.map S) ∧ hB.get? I = none, by
  rintro v h h' e ⟨I, l, vs, q, ⟨o, ho, hc, hd⟩, x, y, z⟩
  exact ⟨I, l, vs, q, ⟨o, e _ _ ho (nd_fields hd), hc, hd⟩, isList_st e x, y, z⟩⟩
structure LG (f : Int) (rs : List (List Nat)) (hB : Heap) (m : PySem.Str → Option Value) (g : Heap) (o1 o2 o3 : Obj) : Prop extends LB f rs m g o1 o2 o3 where
  heard : ∃ v, m (Str.ofString "heard") = some v ∧ (IsHeard hB (rs.map (· ++ [10]))).p v g
section
variable {prog : Program} {w : World} {A : Around} {E : Value → Shared → Prop}
theorem law_d10 {hB : Heap} {L : Addr} {m : PySem.Str → Option Value} {g hh : Heap} {o1 o2 o3 o4 : Obj} {f : Int} {rows : List (List Nat)} {v₄ : Option Value} {Q : Flow → Shared → Prop} {gs : Array GenState} {dr : Drawn} {tk₀ : Nat} {os : OsState} (G : Gd w hB) (hA : A.handled = none) (hroom : A.depth + 3 < recursionLimit)
    (hR : Rows rows) (k : (LX prog w A hB L m g o1 o2 o3 o4).ok hh) (J : LD f rows m g o1 o2 o3) (d4 : o4.data = .cell v₄)
    (h : ∀ m' g' h' tk', (LX prog w A hB L m' g' o1 o2 o3 o4).ok h' → LG f rows hB m' g' o1 o2 o3 → wpAny (model prog w) A (execs (lBd.drop 11) (lEnv L)) Q E ⟨h', gs, dr, tk', os⟩) :
    wpAny (model prog w) A (execs (lBd.drop 10) (lEnv L)) Q E ⟨hh, gs, dr, tk₀, os⟩ := by
  have hS : sizeLine = 16777216 := rfl
  obtain ⟨p, lo, mg, mb, T⟩ := G.T
  have X := G.X
  obtain ⟨hn4, hn1⟩ := lim_ok f
  obtain ⟨vr, hvr, hpr⟩ := J.rows
  obtain ⟨t1, e1⟩ := J.lim
  obtain ⟨t2, e2⟩ := J.eol
  obtain ⟨t3, e3⟩ := J.side
  have hlen := hR.len
  have he := eol_ok f
  refine sAssignG (c := LX prog w A hB L m g o1 o2 o3 o4) (P := IsHeard hB (rows.map (· ++ [10]))) k (lMu_nd e1 e2 e3 d4) ?_ ?_
  · refine callB1 (P := IsSs ((rows.map (· ++ [10])).map S)) (bl X T (by rfl) boot_iter) ?_ ?_
    · rw [List.map_map]
      refine evMapS (cl := [(Str.ofString "limit", L + 1), (Str.ofString "ending", L + 1 + 1)]) (G := StrG) (xs := rows) (f := fun x => S (x ++ [10])) hA ⟨by rfl, by rfl, by rfl, by rfl, by rfl⟩ (isSs_W (nmF hvr hpr)) (by omega) ?_ ?_
      · intro v b b' h1 h2
        rw [strG_det h1 h2]
      · rintro h₁ g' C m' v b k₁ eg ⟨t, rfl⟩ hbm hm
        have eB : Ext hB g' := Ext.trans k₁.base eg
        have hb := hR.row b hbm
        have hcell1 : g'.IsCell (L + 1) (some (.int (limOf f) t1)) := ⟨o1, eg _ _ (k₁.own (L + 1, o1) (by simp)).1, e1⟩
        have hcell2 : g'.IsCell (L + 1 + 1) (some (.str (S (eolOf f)) t2)) := ⟨o2, eg _ _ (k₁.own (L + 1 + 1, o2) (by simp)).1, e2⟩
        have hR1 : Rows [b] := ⟨by simp, by simp, fun r hr => by
          have : r = b := by simpa using hr
          rw [this]; exact hb⟩
        have hc256 : ∀ c ∈ b, c < 256 := fun c hc => (hb.2 c hc).1
        have hv := lnsOf_val (r := b) hn4 hc256
        have hg := lnsOf_good (r := b) hn4 hc256
        have hsz := told_size he (rows := [b]) hn4 fun r hr => (hR1.row r hr).1
        have et : toldOf (limOf f) [b] = lnsOf (limOf f) b := by simp [toldOf]
        rw [et] at hsz
        refine callK1 (a := 72) (P := IsS (S (flatE (eolOf f) (lnsOf (limOf f) b)))) (X.keeps eB) (by rfl) (gl (X.keeps eB) (T.keeps eB) (by rfl)) ?_ ?_
        · refine callK3 (a := 64) (P := IsS (S (b ++ [10]))) (P' := IsV (.int (limOf f) t1)) (P'' := IsV (.str (S (eolOf f)) t2)) (X.keeps eB) (by rfl) (gl (X.keeps eB) (T.keeps eB) (by rfl)) ?_ (nmC (.base hcell1) (by rfl)) (nmC (.base hcell2) (by rfl)) ?_
          · refine evS_eq (addS (x := S b) (y := S [10]) (nm hm fun _ => ⟨t, rfl⟩) (cSl (by decide)) ?_) (S_add _ _)
            rw [S_len, S_len]
            have := hb.1
            show b.length + 1 ≤ sizeLine
            omega
          · rintro v v' v'' s' Q' E' k' ⟨⟨t0, rfl⟩, pv', pv''⟩ f'
            have z1 : v' = .int (limOf f) t1 := pv'
            have z2 : v'' = .str (S (eolOf f)) t2 := pv''
            subst z1 z2
            have hb1 := body_ctr (prog := prog) (w := w) (A := A) (t₁ := t0) (t₂ := t1) (t₃ := t2) (G.ext eB) (by omega) hA he hn4 hn1 hR1
            have et' : [b].flatMap (lnsOf (limOf f)) = lnsOf (limOf f) b := by simp
            rw [et'] at hb1
            have ef : [b].flatMap (· ++ [10]) = b ++ [10] := by simp
            rw [ef] at hb1
            exact hb1 s' Q' E' k'.base f'
        · rintro v s' Q' E' k' ⟨t0, rfl⟩ f'
          have hd1 := decode_ctr (prog := prog) (w := w) (A := A) (e := eolOf f) (ls := lnsOf (limOf f) b) (t := t0) (G.ext eB) (by omega) hA he (fun l hl => (hg l hl).ok) (Nat.le_trans hsz (by simp))
          rw [hv] at hd1
          exact hd1 s' Q' E' k'.base f'
    · rintro v s' Q' E' k' ⟨a, vs, rfl, hl, hvs⟩ f'
      refine call_iter_list hl ?_
      refine f' _ _ s'.toks ⟨_, a, vs, rfl, ⟨_, Heap.get?_push_size _ rfl, rfl, rfl⟩, hl.push _, hvs, ?_⟩ (Ext.push _)
      cases z : hB.get? s'.heap.objs.size with
      | none => rfl
      | some o => exact absurd (Heap.lt_size (k'.base _ _ z)) (Nat.lt_irrefl _)
  · intro v g' h' tk' pv eg k'
    exact h (upd m (Str.ofString "heard") v) g' h' tk' k' ⟨J.toLB.upd eg, ⟨v, upd_same, pv⟩⟩
end
end Mine
end
section
open PySem PySem.W PyProof.Rows PySem.Calls
set_option linter.unusedVariables false
set_option maxRecDepth 100000
set_option maxHeartbeats 1000000
namespace Mine
/-- all stands but the frame's slots -/
theorem Cx.ok.slots {c : Cx} {h h' : Heap} (k : c.ok h) (hs : ∀ b o, b ≠ c.L → h.get? b = some o → h'.get? b = some o) (hu : h.UpToSlots h') : c.ok h' := by
  have hBL : c.h₀.get? c.L = none := by
    cases z : c.h₀.get? c.L with
    | none => rfl
    | some o => exact absurd (Nat.lt_of_lt_of_le (Heap.lt_size z) k.fr.above) (Nat.lt_irrefl _)
  refine ⟨⟨hu.ns k.fr.ns, fun b o e => hs b o (fun z => by rw [z, hBL] at e; cases e) (k.fr.keep b o e), k.fr.above⟩, fun b o e n => hs b o (fun z => ?_) (k.back b o e n), fun p hp => ⟨hs _ _ (k.own p hp).2.1 (k.own p hp).1, (k.own p hp).2⟩⟩
  obtain ⟨o', ho', hn'⟩ := ns_dict k.fr.ns
  have := k.back b o e n
  rw [z, ho'] at this
  cases this
  exact hn' n
theorem msgL_eq : Str.ofString "unknown delta choice (must be 1 or 2): " = S msgL := by decide +kernel
section
variable {prog : Program} {w : World} {A : Around} {E : Value → Shared → Prop}
theorem law_d11 {hB : Heap} {L : Addr} {m : PySem.Str → Option Value} {g hh : Heap} {o1 o2 o3 o4 : Obj} {f : Int} {rows : List (List Nat)} {v₄ : Option Value} {Q : Flow → Shared → Prop} {gs : Array GenState} {dr : Drawn} {tk₀ : Nat} {os : OsState} (G : Gd w hB) (hA : A.handled = none) (hroom : A.depth + 5 < recursionLimit) (hu : A.units + 20 < cLine) (hfr : A.frames = some [lEnv L])
    (k : (LX prog w A hB L m g o1 o2 o3 o4).ok hh) (J : LG f rows hB m g o1 o2 o3) (hbare : ∀ y ∈ gs, y.bare = true)
    (h : ∀ h' gs' tk', (LX prog w A hB L m g o1 o2 o3 o4).ok h' → (∀ y ∈ gs', y.bare = true) → wpAny (model prog w) A (execs (lBd.drop 12) (lEnv L)) Q E ⟨h', gs', dr, tk', os⟩) :
    wpAny (model prog w) A (execs (lBd.drop 11) (lEnv L)) Q E ⟨hh, gs, dr, tk₀, os⟩ := by
  have hS : sizeLine = 16777216 := rfl
  obtain ⟨p, lo, mg, mb, T⟩ := G.T
  have X := G.X
  obtain ⟨vh, hvh, hph⟩ := J.heard
  obtain ⟨vo, q, hvo, hod⟩ := J.odd
  have hBL : hB.get? L = none := by
    cases z : hB.get? L with
    | none => rfl
    | some o => exact absurd (Nat.lt_of_lt_of_le (Heap.lt_size z) k.fr.above) (Nat.lt_irrefl _)
  have kindL : (lEnv L).scope.kind ≠ .module := by
    have hk : (lEnv L).scope.kind = .function := by rfl
    rw [hk]; decide
  refine wpAny_execs_cons (wpAny_If (wpAny_isTrue_Compare1 ?_ (by rfl)))
  refine Call_ ((gl X T (v := .ref 98) (by rfl) : Ev (LX prog w A hB L m g o1 o2 o3 o4) _ _) ⟨hh, gs, dr, tk₀, os⟩ _ _ k trivial fun fv h₁ tk₁ z e₁ => ?_) (by rfl)
  have z' : fv = .ref 98 := z
  subst z'
  refine callWith_K X (by rfl) (spliced_more ((nm hvh (P := IsV vh) (fun _ => rfl) : Ev (LX prog w A hB L m g o1 o2 o3 o4) _ _) ⟨h₁, gs, dr, tk₁, os⟩ _ _ (k.ext e₁) trivial fun v₁ h₂ tk₂ z₁ e₂ => ?_) (by rfl)) (by rfl) (by rfl)
  have z₁' : v₁ = vh := z₁
  subst z₁'
  refine spliced_more ((nm hvo (P := IsV vo) (fun _ => rfl) : Ev (LX prog w A hB L m g o1 o2 o3 o4) _ _) ⟨h₂, gs, dr, tk₂, os⟩ _ _ ((k.ext e₁).ext e₂) trivial fun v₂ h₃ tk₃ z₂ e₃ => ?_) (by rfl)
  have z₂' : v₂ = vo := z₂
  subst z₂'
  have k₃ := ((k.ext e₁).ext e₂).ext e₃
  refine spliced_none ⟨X.keeps k₃.base, ?_⟩
  refine refused (s := ⟨h₃, gs, dr, tk₃, os⟩) (outer := [lEnv L]) G k₃.base ?_ hA hfr (.cons kindL rfl k₃.fr.ns hBL trivial) hroom hu hod ?_
  · exact Nat.le_trans k₃.fr.above (Nat.le_of_lt k₃.fr.ns.lt)
  intro t h₄ gs₄ tk₄ hs hup hb
  have k₄ : (LX prog w A hB L m g o1 o2 o3 o4).ok h₄ := k₃.slots (fun b o hn e => hs b o (fun hm => hn (by
    have hm' : b ∈ [L] := hm
    exact List.mem_singleton.mp hm')) e) hup
  refine (addS (x := S msgL) (y := S q.2) (evS_eq cS msgL_eq) ?_ ?_ : Ev (LX prog w A hB L m g o1 o2 o3 o4) _ _) ⟨h₄, gs₄, dr, tk₄, os⟩ _ _ k₄ trivial fun v h₅ tk₅ pv e₅ => ?_
  · refine callB1 (P := IsV v₂) (bl X T (by rfl) boot_repr) (nm hvo fun _ => rfl) ?_
    intro v s' Q' E' k' pv f'
    have pv' : v = v₂ := pv
    subst pv'
    exact hod.shown fun t k => f' _ s'.heap k ⟨t, rfl⟩ Ext.refl
  · rw [S_len, S_len]
    have : q.2.length ≤ 10 := by
      obtain ⟨qn, qr⟩ := q
      cases hod <;> decide
    have : msgL.length = 39 := by decide
    omega
  obtain ⟨t', rfl⟩ := pv
  rw [S_add]
  refine ne_str ?_
  have hne : (S (msgL ++ q.2) != S (msgL ++ q.2)) = false := by simp
  rw [hne]
  refine wpAny_truthy_bool ?_
  simp only [Bool.false_eq_true, if_false]
  exact wpAny_execs_nil (h h₅ gs₄ tk₅ (k₄.ext e₅) (hb hbare))
end
end Mine
end
section
open PySem PySem.W PyProof.Rows PySem.Calls
set_option linter.unusedVariables false
set_option maxRecDepth 100000
set_option maxHeartbeats 1000000
namespace Mine
theorem paired_filterV {G : Value → List Nat → Prop} {F : Value → Value → Prop} {p : Value → Bool} {q : List Nat → Bool} {f : List Nat → PySem.Str} (hpq : ∀ v b, G v b → p v = q b) (hF : ∀ v b y, G v b → q b = true → F v y → ∃ t, y = .str (f b) t) :
    ∀ {us : List Value} {xs : List (List Nat)} {ys : List Value}, Paired G us xs → Paired F (us.filter p) ys → StrsAre ys ((xs.filter q).map f)
  | _, _, _, .nil, h => by cases h; exact .nil
  | v :: _, x :: _, ys, .cons g r, h => by
    rw [List.filter_cons, hpq v x g] at h
    rw [List.filter_cons]
    cases hq : q x with
    | true =>
      rw [hq] at h
      simp only [if_true] at h ⊢
      cases h with
      | cons h1 h2 =>
        obtain ⟨t, rfl⟩ := hF v x _ g hq h1
        exact .cons _ t (paired_filterV hpq hF r h2)
    | false =>
      rw [hq] at h
      simp only [Bool.false_eq_true, if_false] at h ⊢
      exact paired_filterV hpq hF r h
noncomputable def strP (q : List Nat → Bool) : Value → Bool
  | .str x _ => q x.cps.toList
  | _ => false
section
variable {c : Cx} {env : Env}
/-- a comprehension with a test that makes texts of texts -/
theorem evFiltS {scope : Scope} {cl : List (PySem.Str × Addr)} {x : PySem.Str} {t elt iter : Expr} {px pos : Pos} {xs : List (List Nat)} {q : List Nat → Bool} {f : List Nat → PySem.Str} (hA : c.A.handled = none) (ok : CompOk scope env cl x)
    (hsrc : Ev c (eval iter env) (IsW StrG xs)) (hsz : xs.length ≤ sizeLine)
    (ht : ∀ h₁ g C m b u, c.ok h₁ → Ext h₁ g → b ∈ xs → m x = some (.str (S b) u) → Tst (c.c2 C m g) (PySem.isTrue t (compEnvC scope cl C env) (eval t (compEnvC scope cl C env))) (q b))
    (hb : ∀ h₁ g C m b u, c.ok h₁ → Ext h₁ g → b ∈ xs → q b = true → m x = some (.str (S b) u) → Ev (c.c2 C m g) (eval elt (compEnvC scope cl C env)) (IsS (f b))) (hf : ∀ x, foldedSetIterable iter env x = pure x := by intro _; rfl) :
    Ev c (eval (.ListComp elt [⟨.Name x px, iter, [t], 0⟩] scope pos) env) (IsSs ((xs.filter q).map f)) := by
  have hs := srcL (c := c) (R := fun vs h => Paired StrG vs xs) hA hsrc (fun vs h r => by rw [Paired.len r]; exact hsz)
  have at_ : ∀ (vs : List Value), Paired StrG vs xs → ∀ (i : Nat) v, vs[i]? = some v → ∃ b, b ∈ xs ∧ StrG v b := fun vs r i v hP => by
    have hlt : i < xs.length := by rw [← Paired.len r]; exact (List.getElem?_eq_some_iff.mp hP).1
    obtain ⟨v', hv', hG'⟩ := paired_get r (List.getElem?_eq_getElem hlt)
    rw [hP] at hv'
    cases hv'
    exact ⟨_, List.getElem_mem hlt, hG'⟩
  have hpq : ∀ v b, StrG v b → strP q v = q b := by
    rintro v b ⟨u, rfl⟩
    show q (S b).cps.toList = q b
    rw [S_list]
  refine EvF.mono (evComp2 (px := px) (pos := pos) (pre := fun _ => True) (elt := elt) (ifs := [t]) ok hs (strP q) (fun v y => ∀ b, b ∈ xs → StrG v b → q b = true → ∃ t, y = .str (f b) t) ?_ hf) ?_
  · rintro h₀ n P h₁ _ e k₁ ⟨vs, r, rfl, rfl⟩
    refine ⟨fun g C m i v _ eg hP hm => .inr ⟨_, rfl, ?_⟩, fun g C m i v _ eg hP hp hm => ?_⟩
    · obtain ⟨b, hbm, u, rfl⟩ := at_ vs r i v hP
      rw [hpq _ b ⟨u, rfl⟩]
      exact ht h₁ g C m b u k₁ eg hbm hm
    · obtain ⟨b, hbm, u, rfl⟩ := at_ vs r i v hP
      rw [hpq _ b ⟨u, rfl⟩] at hp
      refine EvF.mono (hb h₁ g C m b u k₁ eg hbm hp hm) fun y h ⟨t', z⟩ b' _ hG' _ => ⟨t', ?_⟩
      rw [z, strG_det ⟨u, rfl⟩ hG']
  · rintro v h ⟨D, ys, n, P, h₁, us, rfl, hl, ⟨vs, r, rfl, rfl⟩, e, hlen, hP, hF⟩
    have huv := us_eq hlen hP
    subst huv
    refine ⟨D, ys, rfl, hl, ?_⟩
    have r' : Paired (fun v b => StrG v b ∧ b ∈ xs) us xs := by
      have key : ∀ (us : List Value) (zs : List (List Nat)), (∀ b ∈ zs, b ∈ xs) → Paired StrG us zs → Paired (fun v b => StrG v b ∧ b ∈ xs) us zs := by
        intro us zs hz hg
        induction hg with
        | nil => exact .nil
        | cons a _ ih => exact .cons ⟨a, hz _ (List.mem_cons_self ..)⟩ (ih fun b hb => hz b (List.mem_cons_of_mem _ hb))
      exact key us xs (fun _ h => h) r
    exact paired_filterV (G := fun v b => StrG v b ∧ b ∈ xs) (p := strP q) (q := q) (f := f) (fun v b hg => hpq v b hg.1) (fun v b y hg hq hy => hy b hg.2 hg.1 hq) r' hF
end
/-- the context behind an iterator that turned -/
theorem Cx.ok.hide {c : Cx} {h h' : Heap} {I : Addr} (k : c.ok h) (hI : c.h₀.get? I = none) (hLI : c.L ≠ I) (hmI : ∀ p ∈ c.mu, p.1 ≠ I) (hmu : ∀ p ∈ c.mu, ¬ nd p.2) (e : Ext (hideAll h [I]) h') : ({ c with g := hideAll h [I] } : Cx).ok h' := by
  have keep : ∀ b o, b ≠ I → h.get? b = some o → h'.get? b = some o := fun b o hb z => e _ _ (hideAll_get _ z (by simpa using hb))
  refine ⟨⟨k.fr.ns.at' fun o z => keep _ o hLI z, fun b o z => keep b o (fun y => by rw [y, hI] at z; cases z) (k.fr.keep b o z), k.fr.above⟩, e.toD, fun p hp => ⟨keep _ _ (hmI p hp) (k.own p hp).1, (k.own p hp).2.1, (k.own p hp).2.2.1, fun o z => ?_⟩⟩
  have := of_hideAll _ z
  rw [(k.own p hp).1] at this
  cases this
  exact hmu p hp
theorem isSs_hide {h : Heap} {I l : Addr} {i : Nat} {v : Value} {xs : List PySem.Str} (p : (IsSs xs).p v h) (it : h.IsListIter I l i) : (IsSs xs).p v (hideAll h [I]) := by
  obtain ⟨a, vs, q, ⟨o, ho, hc, n, hd⟩, ss⟩ := p
  refine ⟨a, vs, q, ⟨o, hideAll_get _ ho ?_, hc, n, hd⟩, ss⟩
  intro z
  have z' : a = I := by simpa using z
  obtain ⟨o', ho', hc', hd'⟩ := it
  rw [← z', ho] at ho'
  cases ho'
  rw [hc] at hc'
  exact absurd hc' (by decide)
section
variable {prog : Program} {w : World} {A : Around} {E : Value → Shared → Prop}
theorem law_d12 {hB : Heap} {L : Addr} {m : PySem.Str → Option Value} {g hh : Heap} {o1 o2 o3 o4 : Obj} {f : Int} {rows : List (List Nat)} {v₄ : Option Value} {Q : Flow → Shared → Prop} {gs : Array GenState} {dr : Drawn} {tk₀ : Nat} {os : OsState} (G : Gd w hB) (hA : A.handled = none) (hroom : A.depth + 3 < recursionLimit)
    (hR : Rows rows) (k : (LX prog w A hB L m g o1 o2 o3 o4).ok hh) (J : LG f rows hB m g o1 o2 o3) (d4 : o4.data = .cell v₄) (hbare : ∀ y ∈ gs, y.bare = true)
    (h : ∀ m' g' h' gs' tk', (LX prog w A hB L m' g' o1 o2 o3 o4).ok h' → LB f rows m' g' o1 o2 o3 → (∃ v, m' (Str.ofString "rest") = some v ∧ (IsSs ((outsOf (tagOf (sideOf f + 1)) (rows.map (· ++ [10]))).map S)).p v g') → (∀ y ∈ gs', y.bare = true) → wpAny (model prog w) A (execs (lBd.drop 13) (lEnv L)) Q E ⟨h', gs', dr, tk', os⟩) :
    wpAny (model prog w) A (execs (lBd.drop 12) (lEnv L)) Q E ⟨hh, gs, dr, tk₀, os⟩ := by
  have hS : sizeLine = 16777216 := rfl
  obtain ⟨p, lo, mg, mb, T⟩ := G.T
  have X := G.X
  obtain ⟨vh, hvh, hph⟩ := J.heard
  obtain ⟨vr, hvr, hpr⟩ := J.rows
  obtain ⟨vo, q, hvo, hod⟩ := J.odd
  obtain ⟨t1, e1⟩ := J.lim
  obtain ⟨t2, e2⟩ := J.eol
  obtain ⟨t3, e3⟩ := J.side
  have hlen := hR.len
  have hside := side_ok f
  refine wpAny_execs_cons (wpAny_Assign_Name (evListRestore (c := LX prog w A hB L m g o1 o2 o3 o4) (P := IsHeard hB (rows.map (· ++ [10]))) (P' := IsI (sideOf f + 1)) (n := sideOf f + 1) (xs := rows.map (· ++ [10])) G k hA hroom (by omega) ?_ ?_ (bl X T (by rfl) boot_listT) (gl X T (by rfl)) (nmF hvh hph) (addI (nmCI (CellIs.own (a := L + 1 + 1 + 1) (o := o3) (by simp) e3) (lc3 L)) cI) (fun v h ⟨t, z⟩ => .inl ⟨t, z⟩) ?_) (by rfl))
  · intro x hx
    obtain ⟨r, hr, rfl⟩ := List.mem_map.mp hx
    have := (hR.row r hr).1
    rw [List.length_append, List.length_singleton]; omega
  · rw [List.length_map]; omega
  · rintro v h₁ ex ⟨I, l, vs, rfl, it, hl, hvs, hBI⟩
    have k₁ := k.ext ex
    have hLI : L ≠ I := fun z => by
      obtain ⟨o, es, n, ho, hd, _⟩ := k₁.fr.ns
      obtain ⟨o', ho', hc', hd'⟩ := it
      have ho2 : h₁.get? L = some o := ho
      rw [z, ho'] at ho2
      cases ho2
      rw [hd] at hd'
      cases hd'
    have hnd := lMu_nd (L := L) e1 e2 e3 d4
    have hmI : ∀ p ∈ lMu L o1 o2 o3 o4, p.1 ≠ I := fun p hp z => by
      have h1 := (k₁.own p hp).1
      obtain ⟨o', ho', hc', hd'⟩ := it
      rw [z, ho'] at h1
      cases h1
      exact hnd p hp (nd_fields hd')
    have hBh : Ext hB (hideAll h₁ [I]) := fun b o z => hideAll_get _ (k₁.base b o z) (fun y => by
      have : b = I := by simpa using y
      rw [this, hBI] at z; cases z)
    refine ⟨hideAll h₁ [I], l, vs, G.ext hBh, fun b o z => of_hideAll _ z, by rw [hideAll_size]; exact Nat.le_refl _, hl, hvs, .inr ⟨I, rfl, it, hideAll_none _ (by simp)⟩, ?_⟩
    intro Sa h' gens' tk' acc n' b1 b2 b3 b4 b5
    have k' := k₁.hide hBI hLI hmI hnd b1
    have pf : (IsSs ((outsOf (tagOf (sideOf f + 1)) (rows.map (· ++ [10]))).map S)).p (.ref Sa) h' := ⟨Sa, acc.toList, rfl, ⟨_, b3, rfl, n', by simp⟩, b4⟩
    have pr : (IsSs (rows.map S)).p vr (hideAll h₁ [I]) := isSs_hide ((IsSs _).st k₁.back hpr) it
    refine st1 (c := LX prog w A hB L m (hideAll h₁ [I]) o1 o2 o3 o4) (gs := gens') k' (fun h'' tk'' d k'' => ?_) rfl (by rfl) (by rfl)
    obtain ⟨g', k₃, eg, eh⟩ := k''.rebaseD hnd
    refine h (upd m (Str.ofString "rest") (.ref Sa)) g' h'' gens' tk'' k₃ ⟨⟨vr, (upd_ne (by decide)).trans hvr, (IsSs _).st eg pr⟩, ⟨vo, q, (upd_ne (by decide)).trans hvo, hod⟩, ⟨t1, e1⟩, ⟨t2, e2⟩, ⟨t3, e3⟩⟩ ⟨.ref Sa, upd_same, (IsSs _).st (d.trans eh) pf⟩ (b5 hbare)
end
end Mine
end
section
open PySem PySem.W PyProof.Rows PySem.Calls
set_option linter.unusedVariables false
set_option maxRecDepth 100000
set_option maxHeartbeats 1000000
namespace Mine
theorem side_get {f : Int} : ([S [45, 32], S [43, 32]] : List PySem.Str)[(sideOf f).toNat]? = some (S (tagOf (sideOf f + 1))) := by
  rcases side_ok f with z | z <;> rw [z] <;> rfl
section
variable {prog : Program} {w : World} {A : Around} {E : Value → Shared → Prop}
theorem law_d13 {hB : Heap} {L : Addr} {m : PySem.Str → Option Value} {g hh : Heap} {o1 o2 o3 o4 : Obj} {f : Int} {rows : List (List Nat)} {Q : Flow → Shared → Prop} {gs : Array GenState} {dr : Drawn} {tk₀ : Nat} {os : OsState} (hA : A.handled = none) (hu : A.units < cLine)
    (hR : Rows rows) (k : (LX prog w A hB L m g o1 o2 o3 o4).ok hh) (J : LB f rows m g o1 o2 o3) (hrest : ∃ v, m (Str.ofString "rest") = some v ∧ (IsSs ((outsOf (tagOf (sideOf f + 1)) (rows.map (· ++ [10]))).map S)).p v g)
    (h : ∀ h' tk', Ext hB h' → Q (.ret (.bool true)) ⟨h', gs, dr, tk', os⟩) :
    wpAny (model prog w) A (execs (lBd.drop 13) (lEnv L)) Q E ⟨hh, gs, dr, tk₀, os⟩ := by
  have hS : sizeLine = 16777216 := rfl
  obtain ⟨vr, hvr, hpr⟩ := J.rows
  obtain ⟨vt, hvt, hpt⟩ := hrest
  obtain ⟨t3, e3⟩ := J.side
  have hlen := hR.len
  have hside := side_ok f
  have ho := outs_rows (tag_is (n := sideOf f + 1)) (rows := rows) fun r hr c hc => ((hR.row r hr).2 c hc).2.1
  refine sRet (c := LX prog w A hB L m g o1 o2 o3 o4) k (P := IsB true) (eqSame (nmF hvt hpt) ?_ hu) ?_
  · rw [ho, List.map_map]
    refine evFiltS (cl := [(Str.ofString "side", L + 1 + 1 + 1)]) (xs := rows) (q := pickL (tagOf (sideOf f + 1))) (f := fun r => S (r.drop 2 ++ [10])) hA ⟨by rfl, by rfl, by rfl, by rfl, by rfl⟩ (isSs_W (nmF hvr hpr)) (by omega) ?_ ?_
    · intro h₁ g' C m' b u k₁ eg hbm hm
      have hcell : g'.IsCell (L + 1 + 1 + 1) (some (.int (sideOf f) t3)) := ⟨o3, eg _ _ (k₁.own (L + 1 + 1 + 1, o3) (by simp)).1, e3⟩
      have hb := (hR.row b hbm).1
      refine tst_eq (inTs (x := S (b.take 2)) (ys := [S [32, 32], S (tagOf (sideOf f + 1))]) (evS_eq (slNS (x := S b) (j := 2) (nm hm fun _ => ⟨u, rfl⟩) cI (by rw [S_len]; omega)) (slice_to (b := 2))) (tpS (sp1 (cSl (by decide)) (sp1 ?_ sp0)) (by show 2 ≤ sizeLine; omega))) (pick_test _ b)
      exact itSs (xs := [S [45, 32], S [43, 32]]) (i := sideOf f) (lsS (sp1 (cSl (by decide)) (sp1 (cSl (by decide)) sp0)) (by show 2 ≤ sizeLine; omega)) (nmCI (.base hcell) (by rfl)) (by omega) (by omega) side_get
    · intro h₁ g' C m' b u k₁ eg hbm hq hm
      have hb := (hR.row b hbm).1
      have h2 := pick_len (by rcases tag_is (n := sideOf f + 1) with z | z <;> rw [z] <;> rfl) hq
      refine evS_eq (addS (x := S (b.drop 2)) (y := S [10]) (evS_eq (slSN (x := S b) (i := 2) (nm hm fun _ => ⟨u, rfl⟩) cI (by rw [S_len]; omega)) (slice_from (a := 2) h2)) (cSl (by decide)) ?_) (S_add _ _)
      rw [S_len, S_len, List.length_drop]
      show b.length - 2 + 1 ≤ sizeLine
      omega
  · intro v h' tk' pv e
    have pv' : v = .bool true := pv
    subst pv'
    exact h h' tk' (Ext.trans k.base e)
/-- the law, called -/
theorem law_call {s : Shared} {l : Addr} {vs : List Value} {ns : List Int} {Q : Value → Shared → Prop} (G : Gd w s.heap) (hA : A.handled = none) (hroom : A.depth + 10 < recursionLimit) (hu : A.units + 30 < cLine) (hfr : A.frames = some []) (hL : s.heap.IsList l vs.toArray) (hI : IntsAre vs ns) (hlen : ns.length ≤ 63) (hbare : ∀ y ∈ s.gens, y.bare = true)
    (hQ : ∀ h' gs' tk', Ext s.heap h' → (∀ y ∈ gs', y.bare = true) → Q (.bool true) ⟨h', gs', s.drawn, tk', s.os⟩) :
    wpAny (model prog w) A (call (.ref 103) [.ref l]) Q E s := by
  refine law_enter G (by omega) hL hI ?_
  intro L m g o1 o2 o3 o4 h₁ tk Q' E' k hs d1 d2 d3 d4 hq
  have hA' : (A.deeper (lEnv L)).handled = none := hA
  have hroom' : (A.deeper (lEnv L)).depth + 9 < recursionLimit := by show A.depth + 1 + 9 < recursionLimit; omega
  have hu' : (A.deeper (lEnv L)).units + 20 < cLine := by show A.units + 3 + 20 < cLine; omega
  have hfr' : (A.deeper (lEnv L)).frames = some [lEnv L] := Around.frames_deeper hfr
  generalize A.deeper (lEnv L) = A' at k hA' hroom' hu' hfr' ⊢
  refine law_a hA' k hs hlen d1 d2 d3 d4 ?_
  intro f r m₁ g₁ u1 u2 u3 h₂ tk₂ hnum k₂ J₂
  obtain ⟨f', r', hnum', hr'⟩ := nums_first ns
  rw [hnum] at hnum'
  injection hnum' with z1 z2
  subst z1 z2
  obtain ⟨hR, hR7⟩ := rowsOf_fine hr'
  refine law_b5 G hA' (by omega) hr' k₂ J₂ d4 ?_
  intro m₃ g₃ h₃ tk₃ k₃ J₃
  refine law_b6 G hA' (by omega) hR k₃ J₃ d4 ?_
  intro m₄ g₄ h₄ tk₄ k₄ J₄
  refine law_b7 G hA' (by omega) hR k₄ J₄ ?_
  intro m₅ h₅ tk₅ k₅ J₅
  refine law_b8 G hA' hR k₅ J₅ ?_
  intro h₆ tk₆ k₆
  refine law_for G hA' (by omega) (by omega) hR k₆ J₅ d4 hbare ?_
  intro m₇ g₇ o4' v₄' h₇ gs₇ tk₇ k₇ J₇ d4' hb₇
  refine law_d10 G hA' (by omega) hR k₇ J₇ d4' ?_
  intro m₈ g₈ h₈ tk₈ k₈ J₈
  refine law_d11 (v₄ := v₄') G hA' (by omega) hu' hfr' k₈ J₈ hb₇ ?_
  intro h₉ gs₉ tk₉ k₉ hb₉
  refine law_d12 G hA' (by omega) hR k₉ J₈ d4' hb₉ ?_
  intro m₁₀ g₁₀ h₁₀ gs₁₀ tk₁₀ k₁₀ J₁₀ hrest hb₁₀
  refine law_d13 hA' (by omega) hR k₁₀ J₁₀ hrest ?_
  intro h' tk' e'
  exact hq _ _ _ _ (hQ h' gs₁₀ tk' e' hb₁₀)
end
end Mine
end
section
open PySem PySem.W PyProof.Rows
set_option maxRecDepth 100000
set_option maxHeartbeats 1000000
namespace Mine
theorem law_walk : ∀ d kwd, defOf qv PySem.Challenge.rw_nb0193_01.row.name = some (d, kwd) → WalkO qv lo (XL qv []) hk.says rr.toRowW d kwd fun f vs => PySem.call f vs := by
  intro d kwd hdef
  intro w s₀ s₁ mg mb G Y fa o pm cd doc dV kV ho hd hcd hD hmg hg args vals as hpre hlay hrd hwl hlo
  have KX := kIn_of Y
  have TR := topRead_of G.T
  have GD : Gd w s₁.heap := ⟨KX, _, _, _, _, TR⟩
  have hA : fa = 103 := by
    have hn := defOf_name hdef
    have h1 : mg PySem.Challenge.rw_nb0193_01.row.name = some (.ref 103) := mg_of KX TR.g (by rfl)
    rw [← hn, hmg] at h1
    cases h1; rfl
  subst hA
  clear ho hd hcd hD hmg
  wrow_args hpre hlay hrd hwl hlo
  rename Heap.IsList _ _ _ => hL
  rename IntsAre _ _ => hI
  rename ¬ _ => hc
  refine law_call (A := callerA) GD rfl (by decide +kernel) (by decide +kernel) rfl hL hI (by omega) (by rw [hg]; intro y hy; simp at hy) ?_
  intro h' gs' tk' e hb
  refine ⟨.inl ⟨.bool true, .bool true, [], rfl, ?_, .bool true, ?_, fun _ => ⟨.nil, fun _ h => nomatch h⟩⟩, .of_keep e, rfl, hb⟩
  · first | (intro cls; rfl) | wrow_none_raised
  · first | rfl | wrow_post
end Mine
end
set_option maxRecDepth 100000 in
theorem PySem.Challenge.cw_nb0193_01_holds : PySem.Challenge.rw_nb0193_01.Holds :=
  Mine.head Mine.law_walk
