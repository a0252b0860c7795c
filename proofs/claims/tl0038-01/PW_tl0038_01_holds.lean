import PyProof.Rows.All
import Wide.All
import OpenK.AllK
import Wide.FinOn
import PyProof.IsiStr
import Lean
import PySem.Challenge.RW_tl0038_01
set_option maxRecDepth 100000
set_option Elab.async false
set_option compiler.extract_closed false
set_option linter.unusedVariables false
open PySem PySem.W PyProof.Rows
namespace Mine
theorem rm9 {x k a b : Nat} (h : x + k < recursionLimit) (e : a + b ≤ k) : x + a + b < recursionLimit := by
  rw [Nat.add_assoc]; exact Nat.lt_of_le_of_lt (Nat.add_le_add_left e x) h
theorem um9 {x k a b : Nat} (h : x + k < cLine) (e : a + b ≤ k) : x + a + b < cLine := by
  rw [Nat.add_assoc]; exact Nat.lt_of_le_of_lt (Nat.add_le_add_left e x) h
end Mine
set_option hygiene false in
local macro_rules | `(tactic| walk_at "zB") => `(tactic| ((case B => k_asm); (case F => k_asm); (case X => k_asm); (case N => k_asm); (case T => k_asm); (case hk => first | exact rfl | assumption | (k_dflt (exact rfl)) | (with_unfolding_all exact rfl)); (case hd => first | exact rm9 hd (by decide) | ktr_room); (case hu => first | exact um9 hu (by decide) | ktr_units)))
set_option hygiene false in
local macro_rules | `(tactic| walk_at "zX") => `(tactic| ((case XB => k_asm); (case TB => k_asm); (case D => k_asm)))
local macro_rules | `(tactic| walk_at "zI") => `(tactic| (intro t9z h9z tk9z F9z N9z l9z; (try dsimp only); (try k_sweep); (try k_fold)))
set_option hygiene false in
local macro_rules | `(tactic| walk_at "zT") => `(tactic| ((try dsimp only); (try k_sweep); (try k_fold)))
set_option hygiene false in
local macro_rules | `(tactic| walk_at "zN") => `(tactic| ((show (_ : Nat) < (_ : Nat)); (try dsimp only); omega))
set_option hygiene false in
local macro_rules | `(tactic| walk_at "zL") => `(tactic| (first | omega | (simp only [length_app]; omega)))
local macro_rules | `(tactic| walk_at "subscriptTail Name Constant ref int") => `(tactic| ((with_reducible show wpAny _ _ (subscriptTail _ _ (Value.ref _) (Value.int _ _)) _ _ _); (with_unfolding_all refine' item_list_ints ?k1 ?k2 ?k3 ?k4 ?k5 ?_; (case k1 => is_list); (case k2 => l_ints); (case k3 => decide); (case k4 => (simp only [List.length_cons, List.length_nil]; decide)); (case k5 => decide); k_whole); intro _))
local macro_rules | `(tactic| walk_at "zd0") => `(tactic| (k_here; (with_reducible show wpAny _ _ (call (Value.builtin _) [Value.ref _, _]) _ _ _); k_dflt (refine' append_K (hsz := ?z) ?k1 ?k2 ?k3 ?_; (case k1 => k_asm); (case k2 => k_asm); (case k3 => k_upd); (case z => assumption); k_whole); intro h' F' N'; (try k_sweep)))
set_option hygiene false in
local macro_rules | `(tactic| walk_at "zd1") => `(tactic| (k_here; (with_reducible show wpAny _ _ (compareOp CmpOp.Is (Value.str _ _) (Value.str _ _)) _ _ _); (refine' is_str ?k1 ?k3 ?k4 ?_); (case k1 => assumption); (case k3 => assumption); (case k4 => exact booked _ (by k_asm) (by k_asm)); intro _ _))
set_option hygiene false in
local macro_rules | `(tactic| walk_at "zd2") => `(tactic| (k_here; (with_reducible refine execs_cons_t ?_); (try dsimp only)))
local macro_rules | `(tactic| walk_at "zd3") => `(tactic| (k_here; refine wpAny_execs_nil ?_; (try dsimp only)))
local macro_rules | `(tactic| walk_at "zd4") => `(tactic| (intro lk; (try dsimp only at lk); (try dsimp only)))
set_option hygiene false in
local macro_rules | `(tactic| walk_at "zd5") => `(tactic| (k_here; (with_reducible show wpAny _ _ (call (Value.ref 92) [Value.int _ _, Value.int _ _]) _ _ _); k_dflt (refine' con_add ?B ?F ?X ?N ?T ?hk  ?hd ?hu ?_); walk_at "zB"; walk_at "zI"))
set_option hygiene false in
local macro_rules | `(tactic| walk_at "zd6") => `(tactic| (k_here; k_dflt (refine' setItem_I ?F ?N ?a ?b ?c ?U ?_; (case F => k_asm); (case N => k_asm); (case U => k_upd); (case a => first | assumption | omega); (case b => omega); (case c => omega); k_whole); intro h9z F9z N9z; (try dsimp only [List.nil_append, List.cons_append] at N9z); (try k_sweep)))
set_option hygiene false in
local macro_rules | `(tactic| walk_at "zd7") => `(tactic| ((with_reducible show wpAny _ _ (subscriptTail _ (Expr.Slice none (some _) none _) _ _) _ _ _); (with_reducible rename Fr _ _ _ _ => F9z); (with_reducible rename News _ _ _ _ => N9z); (refine slice_strN_nn (hsz := ?hsz) (s := ⟨_, _, _, _, _⟩) F9z N9z ?_); (case hsz => size_fits); intro _ _ _ _ _; (try rw [slice_nn])))
set_option hygiene false in
local macro_rules | `(tactic| walk_at "zd8") => `(tactic| (k_here; (with_reducible show wpAny _ _ (call (Value.ref 113) [Value.str _ _, Value.str _ _]) _ _ _); k_dflt (refine' con_concat ?B ?F ?X ?N ?T ?hk ?p0 ?p1 ?hd ?hu ?_); walk_at "zB"; (case p0 => omega); (case p1 => omega); walk_at "zI"))
set_option hygiene false in
local macro_rules | `(tactic| walk_at "zd9") => `(tactic| (k_here; (with_reducible show wpAny _ _ (call (Value.ref 106) [Value.int _ _, Value.int _ _]) _ _ _); k_dflt (refine' con_sub ?B ?F ?X ?N ?T ?hk  ?hd ?hu ?_); walk_at "zB"; walk_at "zI"))
set_option hygiene false in
local macro_rules | `(tactic| walk_at "zd10") => `(tactic| (k_here; (with_reducible show wpAny _ _ (compareOp CmpOp.NotEq (Value.ref _) (Value.ref _)) _ _ _); refine stopHere ?_))
section
open PySem PySem.W PyProof.Rows
namespace Mine
noncomputable section

noncomputable abbrev S := PySem.Str.ofString
noncomputable abbrev pw : Program := PySem.Challenge.pw_tl0038_01
noncomputable abbrev en (P : Params) (x : Str) (t : Tok) (v : Value) : DictEntry := ⟨PyData.keyHash P x, .str x t, v⟩
noncomputable def stAt (i : Nat) : Stmt := pw.main.body.getD i default
noncomputable def fb (i : Nat) : List Stmt := match stAt i with | .FunctionDef _ _ b _ _ _ _ _ _ _ => b | _ => []
noncomputable def fp (i : Nat) : Arguments := match stAt i with | .FunctionDef _ a _ _ _ _ _ _ _ _ => a | _ => default
noncomputable def fs (i : Nat) : Scope := match stAt i with | .FunctionDef _ _ _ _ _ _ s _ _ _ => s | _ => default

noncomputable def fdC (i : Nat) (n : Str) : FuncData := { name := n, qualname := n, params := fp i, body := .stmts (fb i), scope := fs i, globals := 0, closure := [], defaults := .none, kwdefaults := .none }
noncomputable def fdF (i : Nat) (n : Str) (md cd : Value) : FuncData := { name := n, qualname := n, params := fp i, body := .stmts (fb i), scope := fs i, globals := 3, closure := [], defaults := .none, kwdefaults := .none, pyModule := md, code := cd }
noncomputable def lf : Life := {}
noncomputable def gs : Array GenState := #[]
noncomputable def dr : Drawn := {}
noncomputable abbrev dO (es : List DictEntry) (n : Nat) : Obj := ⟨.type "dict", none, .dict es.toArray n, #[]⟩
noncomputable def entsFrom (t : Nat) : List (Int × Str) → List DictEntry
  | [] => []
  | (i, x) :: r => ⟨i, .int i t, .str x (t + 1)⟩ :: entsFrom (t + 3) r
noncomputable def entsShort (t : Nat) : List (Int × Str) → List DictEntry
  | [] => []
  | (i, x) :: r => ⟨i, .int i t, .str x (t + 1)⟩ :: entsShort (t + 2) r
noncomputable def subsFrom (t : Nat) : List (List (Int × Str)) → List Obj
  | [] => []
  | c :: cs => dO (entsFrom t c) c.length :: subsFrom (t + 3 * c.length) cs
noncomputable def chunks {α : Type} : Nat → List α → List (List α)
  | 0, _ => []
  | n + 1, l => l.take 17 :: chunks n (l.drop 17)
noncomputable def kvs3 : List (Expr × Expr) := match stAt 3 with | .Assign _ (.Dict ks vs _) _ => (ks.filterMap id).zip vs | _ => []
noncomputable def cI (e : Expr) : Option Int := match e with | .Constant (.int i) _ _ => some i | _ => none
noncomputable def cS (e : Expr) : Option Str := match e with | .Constant (.str s) _ _ => some s | _ => none
noncomputable def tb (x : Expr × Expr) : Int × Str := ((cI x.1).getD 0, (cS x.2).getD Str.empty)
noncomputable def kv0 : List (Expr × Expr) := kvs3.take 17
noncomputable def kvss : List (List (Expr × Expr)) := chunks 37 ((kvs3.drop 17).take 629)
noncomputable def kvR : List (Expr × Expr) := kvs3.drop 646
noncomputable def b3main : Obj := dO (entsFrom 256 (kv0.map tb ++ (kvss.map (·.map tb)).flatten) ++ entsShort 2194 (kvR.map tb)) 650
noncomputable def b3subs : List Obj := subsFrom 307 (kvss.map (·.map tb)) ++ [dO (entsShort 2194 (kvR.map tb)) 4]
noncomputable def b3o (i : Nat) : Obj := (b3main :: b3subs).getD (i - 33) default
noncomputable def o11 (P : Params) : Obj := ⟨(Value.type "tuple"), none, (Data.seq #[] 0), #[]⟩
noncomputable def o12 (P : Params) : Obj := ⟨Value.none, none, (Data.fields #[]), #[]⟩
noncomputable def o13 (P : Params) : Obj := ⟨(Value.type "code"), none, (Data.fields #[(Value.str (S "<module>") 182), (Value.str (S "<module>") 183), (Value.str (S "/claim/cut.py") 184), (Value.int 1 0), (Value.int 0 0), (Value.int 0 0), (Value.int 0 0), (Value.int 0 0), (Value.ref 11), (Value.bool false), (Value.int 181 0), (Value.ref 12), Value.none, Value.none, Value.none, Value.none, (Value.int 185 0), (Value.int 1 0), (Value.str (S "/claim/cut.py") 186)]), #[]⟩
noncomputable def o14 (P : Params) : Obj := ⟨(Value.type "frame"), none, Data.plain, #[some (Value.ref 13), some (Value.ref 3), some (Value.ref 3), none, some (Value.str (S "__main__") 164), none, some (Value.ref 0)]⟩
noncomputable def tr0 (P : Params) : BT := (.node (boot_o_0 P) (.node (boot_o_1 P) (.node (boot_o_3 P) (.node (boot_o_7 P) .nil .nil) (.node (o11 P) .nil .nil)) (.node (boot_o_5 P) (.node (boot_o_9 P) .nil .nil) (.node (o13 P) .nil .nil))) (.node (boot_o_2 P) (.node (boot_o_4 P) (.node (boot_o_8 P) .nil .nil) (.node (o12 P) .nil .nil)) (.node (boot_o_6 P) (.node (boot_o_10 P) .nil .nil) (.node (o14 P) .nil .nil))))
noncomputable def st0 (w : World) (os : OsState) : SharedT := ⟨tr0 w.params, 15, lf, gs, dr, 187, os⟩
noncomputable def tr1 (P : Params) : BT := (.node (boot_o_0 P) (.node (boot_o_1 P) (.node (boot_o_3 P) (.node (boot_o_7 P) .nil .nil) (.node (o11 P) .nil .nil)) (.node (boot_o_5 P) (.node (boot_o_9 P) .nil .nil) (.node (o13 P) .nil .nil))) (.node (boot_o_2 P) (.node (boot_o_4 P) (.node (boot_o_8 P) .nil .nil) (.node (o12 P) .nil .nil)) (.node (boot_o_6 P) (.node (boot_o_10 P) .nil .nil) (.node (o14 P) .nil .nil))))
noncomputable def st1 (w : World) (os : OsState) : SharedT := ⟨tr1 w.params, 15, lf, gs, dr, 187, os⟩
noncomputable def o3v1 (P : Params) : Obj := ⟨(Value.type "dict"), none, (Data.dict #[(en P (S "__name__") 165 (Value.str (S "cpy313.stringprep") 187)), (en P (S "__doc__") 166 Value.none), (en P (S "__package__") 167 Value.none), (en P (S "__loader__") 168 (Value.builtin "__main__.__loader__#opaque")), (en P (S "__spec__") 169 Value.none), (en P (S "__annotations__") 170 (Value.ref 6)), (en P (S "__builtins__") 171 (Value.ref 4)), (en P (S "__file__") 173 (Value.str (S "/claim/cut.py") 172)), (en P (S "__cached__") 174 Value.none)] 9), #[]⟩
noncomputable def tr2 (P : Params) : BT := (.node (boot_o_0 P) (.node (boot_o_1 P) (.node (o3v1 P) (.node (boot_o_7 P) .nil .nil) (.node (o11 P) .nil .nil)) (.node (boot_o_5 P) (.node (boot_o_9 P) .nil .nil) (.node (o13 P) .nil .nil))) (.node (boot_o_2 P) (.node (boot_o_4 P) (.node (boot_o_8 P) .nil .nil) (.node (o12 P) .nil .nil)) (.node (boot_o_6 P) (.node (boot_o_10 P) .nil .nil) (.node (o14 P) .nil .nil))))
noncomputable def st2 (w : World) (os : OsState) : SharedT := ⟨tr2 w.params, 15, lf, gs, dr, 189, os⟩
noncomputable def o3v2 (P : Params) : Obj := ⟨(Value.type "dict"), none, (Data.dict #[(en P (S "__name__") 165 (Value.str (S "cpy313.stringprep") 187)), (en P (S "__doc__") 166 Value.none), (en P (S "__package__") 167 Value.none), (en P (S "__loader__") 168 (Value.builtin "__main__.__loader__#opaque")), (en P (S "__spec__") 169 Value.none), (en P (S "__annotations__") 170 (Value.ref 6)), (en P (S "__builtins__") 171 (Value.ref 4)), (en P (S "__file__") 173 (Value.str (S "/claim/cut.py") 172)), (en P (S "__cached__") 174 Value.none), (en P (S "b1_set") 248 (Value.ref 22))] 10), #[]⟩
noncomputable def o15 (P : Params) : Obj := ⟨(Value.type "list"), none, (Data.seq #[(Value.int 173 189), (Value.int 847 190), (Value.int 6150 191), (Value.int 6155 192), (Value.int 6156 193), (Value.int 6157 194), (Value.int 8203 195), (Value.int 8204 196), (Value.int 8205 197), (Value.int 8288 198), (Value.int 65279 199)] 0), #[]⟩
noncomputable def o16 (P : Params) : Obj := ⟨(Value.type "range"), none, (Data.fields #[(Value.int 65024 200), (Value.int 65040 201), (Value.int 1 202)]), #[]⟩
noncomputable def o17 (P : Params) : Obj := ⟨(Value.type "list"), none, (Data.seq #[(Value.int 65024 205), (Value.int 65025 206), (Value.int 65026 207), (Value.int 65027 208), (Value.int 65028 209), (Value.int 65029 210), (Value.int 65030 211), (Value.int 65031 212), (Value.int 65032 213), (Value.int 65033 214), (Value.int 65034 215), (Value.int 65035 216), (Value.int 65036 217), (Value.int 65037 218), (Value.int 65038 219), (Value.int 65039 220)] 18), #[]⟩
noncomputable def o18 (P : Params) : Obj := ⟨(Value.type "range_iterator"), none, (Data.fields #[(Value.int 65040 0), (Value.int 0 0), (Value.int 1 0)]), #[]⟩
noncomputable def o19 (P : Params) : Obj := ⟨(Value.type "tuple"), none, (Data.seq #[] 0), #[]⟩
noncomputable def o20 (P : Params) : Obj := ⟨(Value.type "StopIteration"), none, (Data.fields #[(Value.ref 19), Value.none, Value.none, Value.none, (Value.bool false), Value.none]), #[]⟩
noncomputable def o21 (P : Params) : Obj := ⟨(Value.type "list"), none, (Data.seq #[(Value.int 173 189), (Value.int 847 190), (Value.int 6150 191), (Value.int 6155 192), (Value.int 6156 193), (Value.int 6157 194), (Value.int 8203 195), (Value.int 8204 196), (Value.int 8205 197), (Value.int 8288 198), (Value.int 65279 199), (Value.int 65024 205), (Value.int 65025 206), (Value.int 65026 207), (Value.int 65027 208), (Value.int 65028 209), (Value.int 65029 210), (Value.int 65030 211), (Value.int 65031 212), (Value.int 65032 213), (Value.int 65033 214), (Value.int 65034 215), (Value.int 65035 216), (Value.int 65036 217), (Value.int 65037 218), (Value.int 65038 219), (Value.int 65039 220)] 0), #[]⟩
noncomputable def o22 (P : Params) : Obj := ⟨(Value.type "set"), none, (Data.set #[(65024, (Value.int 65024 205)), (65025, (Value.int 65025 206)), (65026, (Value.int 65026 207)), (65027, (Value.int 65027 208)), (65028, (Value.int 65028 209)), (65029, (Value.int 65029 210)), (6150, (Value.int 6150 191)), (65030, (Value.int 65030 211)), (65031, (Value.int 65031 212)), (65032, (Value.int 65032 213)), (65033, (Value.int 65033 214)), (6155, (Value.int 6155 192)), (6156, (Value.int 6156 193)), (6157, (Value.int 6157 194)), (8203, (Value.int 8203 195)), (8204, (Value.int 8204 196)), (8205, (Value.int 8205 197)), (65034, (Value.int 65034 215)), (65035, (Value.int 65035 216)), (65036, (Value.int 65036 217)), (65037, (Value.int 65037 218)), (65038, (Value.int 65038 219)), (65039, (Value.int 65039 220)), (173, (Value.int 173 189)), (847, (Value.int 847 190)), (8288, (Value.int 8288 198)), (65279, (Value.int 65279 199))] 29 ⟨127, #[0, 1, 2, 3, 4, 5, 6, 7, 8, 9, 10, 11, 12, 13, 14, 15, 16, 17, 18, 19, 20, 21, 22, 45, 79, 96, 127], #[], 0, !P.followText "set-order", 2, true⟩), #[]⟩
noncomputable def o23 (P : Params) : Obj := ⟨(Value.type "list_iterator"), none, (Data.fields #[Value.none, (Value.int 27 0)]), #[]⟩
noncomputable def o24 (P : Params) : Obj := ⟨(Value.type "tuple"), none, (Data.seq #[] 0), #[]⟩
noncomputable def o25 (P : Params) : Obj := ⟨(Value.type "StopIteration"), none, (Data.fields #[(Value.ref 24), Value.none, Value.none, Value.none, (Value.bool false), Value.none]), #[]⟩
noncomputable def tr3 (P : Params) : BT := (.node (boot_o_0 P) (.node (boot_o_1 P) (.node (o3v2 P) (.node (boot_o_7 P) (.node (o15 P) .nil .nil) (.node (o23 P) .nil .nil)) (.node (o11 P) (.node (o19 P) .nil .nil) .nil)) (.node (boot_o_5 P) (.node (boot_o_9 P) (.node (o17 P) .nil .nil) (.node (o25 P) .nil .nil)) (.node (o13 P) (.node (o21 P) .nil .nil) .nil))) (.node (boot_o_2 P) (.node (boot_o_4 P) (.node (boot_o_8 P) (.node (o16 P) .nil .nil) (.node (o24 P) .nil .nil)) (.node (o12 P) (.node (o20 P) .nil .nil) .nil)) (.node (boot_o_6 P) (.node (boot_o_10 P) (.node (o18 P) .nil .nil) .nil) (.node (o14 P) (.node (o22 P) .nil .nil) .nil))))
noncomputable def st3 (w : World) (os : OsState) : SharedT := ⟨tr3 w.params, 26, lf, gs, dr, 249, os⟩
noncomputable def o3v3 (P : Params) : Obj := ⟨(Value.type "dict"), none, (Data.dict #[(en P (S "__name__") 165 (Value.str (S "cpy313.stringprep") 187)), (en P (S "__doc__") 166 Value.none), (en P (S "__package__") 167 Value.none), (en P (S "__loader__") 168 (Value.builtin "__main__.__loader__#opaque")), (en P (S "__spec__") 169 Value.none), (en P (S "__annotations__") 170 (Value.ref 6)), (en P (S "__builtins__") 171 (Value.ref 4)), (en P (S "__file__") 173 (Value.str (S "/claim/cut.py") 172)), (en P (S "__cached__") 174 Value.none), (en P (S "b1_set") 248 (Value.ref 22)), (en P (S "in_table_b1") 255 (Value.ref 32))] 11), #[]⟩
noncomputable def o12v1 (P : Params) : Obj := ⟨Value.none, none, (Data.fields #[(Value.int 3 0), (Value.int 0 0), (Value.ref 31)]), #[]⟩
noncomputable def o26 (P : Params) : Obj := ⟨(Value.type "tuple"), none, (Data.seq #[] 0), #[]⟩
noncomputable def o27 (P : Params) : Obj := ⟨Value.none, none, (Data.fields #[]), #[]⟩
noncomputable def o28 (P : Params) : Obj := ⟨(Value.type "tuple"), none, (Data.seq #[(Value.str (S "code") 252)] 0), #[]⟩
noncomputable def o29 (P : Params) : Obj := ⟨(Value.type "tuple"), none, (Data.seq #[] 0), #[]⟩
noncomputable def o30 (P : Params) : Obj := ⟨Value.none, none, (Data.func (fdC 2 (S "in_table_b1"))), #[]⟩
noncomputable def o31 (P : Params) : Obj := ⟨(Value.type "code"), none, (Data.fields #[(Value.str (S "in_table_b1") 249), (Value.str (S "in_table_b1") 250), (Value.str (S "/claim/cut.py") 251), (Value.int 3 0), (Value.int 1 0), (Value.int 0 0), (Value.int 0 0), (Value.int 3 0), (Value.ref 26), (Value.bool true), (Value.int 181 0), (Value.ref 27), Value.none, (Value.ref 28), (Value.ref 29), (Value.ref 30), (Value.int 253 0), (Value.int 3 0), (Value.str (S "/claim/cut.py") 254)]), #[]⟩
noncomputable def o32 (P : Params) : Obj := ⟨(Value.type "function"), none, (Data.func (fdF 2 (S "in_table_b1") (Value.str (S "cpy313.stringprep") 187) (Value.ref 31))), #[]⟩
noncomputable def tr4 (P : Params) : BT := (.node (boot_o_0 P) (.node (boot_o_1 P) (.node (o3v3 P) (.node (boot_o_7 P) (.node (o15 P) (.node (o31 P) .nil .nil) .nil) (.node (o23 P) .nil .nil)) (.node (o11 P) (.node (o19 P) .nil .nil) (.node (o27 P) .nil .nil))) (.node (boot_o_5 P) (.node (boot_o_9 P) (.node (o17 P) .nil .nil) (.node (o25 P) .nil .nil)) (.node (o13 P) (.node (o21 P) .nil .nil) (.node (o29 P) .nil .nil)))) (.node (boot_o_2 P) (.node (boot_o_4 P) (.node (boot_o_8 P) (.node (o16 P) (.node (o32 P) .nil .nil) .nil) (.node (o24 P) .nil .nil)) (.node (o12v1 P) (.node (o20 P) .nil .nil) (.node (o28 P) .nil .nil))) (.node (boot_o_6 P) (.node (boot_o_10 P) (.node (o18 P) .nil .nil) (.node (o26 P) .nil .nil)) (.node (o14 P) (.node (o22 P) .nil .nil) (.node (o30 P) .nil .nil)))))
noncomputable def st4 (w : World) (os : OsState) : SharedT := ⟨tr4 w.params, 33, lf, gs, dr, 256, os⟩
noncomputable def o3v4 (P : Params) : Obj := ⟨(Value.type "dict"), none, (Data.dict #[(en P (S "__name__") 165 (Value.str (S "cpy313.stringprep") 187)), (en P (S "__doc__") 166 Value.none), (en P (S "__package__") 167 Value.none), (en P (S "__loader__") 168 (Value.builtin "__main__.__loader__#opaque")), (en P (S "__spec__") 169 Value.none), (en P (S "__annotations__") 170 (Value.ref 6)), (en P (S "__builtins__") 171 (Value.ref 4)), (en P (S "__file__") 173 (Value.str (S "/claim/cut.py") 172)), (en P (S "__cached__") 174 Value.none), (en P (S "b1_set") 248 (Value.ref 22)), (en P (S "in_table_b1") 255 (Value.ref 32)), (en P (S "b3_exceptions") 2206 (Value.ref 33))] 12), #[]⟩
noncomputable def o33 (P : Params) : Obj := (b3o 33)
noncomputable def o34 (P : Params) : Obj := (b3o 34)
noncomputable def o35 (P : Params) : Obj := (b3o 35)
noncomputable def o36 (P : Params) : Obj := (b3o 36)
noncomputable def o37 (P : Params) : Obj := (b3o 37)
noncomputable def o38 (P : Params) : Obj := (b3o 38)
noncomputable def o39 (P : Params) : Obj := (b3o 39)
noncomputable def o40 (P : Params) : Obj := (b3o 40)
noncomputable def o41 (P : Params) : Obj := (b3o 41)
noncomputable def o42 (P : Params) : Obj := (b3o 42)
noncomputable def o43 (P : Params) : Obj := (b3o 43)
noncomputable def o44 (P : Params) : Obj := (b3o 44)
noncomputable def o45 (P : Params) : Obj := (b3o 45)
noncomputable def o46 (P : Params) : Obj := (b3o 46)
noncomputable def o47 (P : Params) : Obj := (b3o 47)
noncomputable def o48 (P : Params) : Obj := (b3o 48)
noncomputable def o49 (P : Params) : Obj := (b3o 49)
noncomputable def o50 (P : Params) : Obj := (b3o 50)
noncomputable def o51 (P : Params) : Obj := (b3o 51)
noncomputable def o52 (P : Params) : Obj := (b3o 52)
noncomputable def o53 (P : Params) : Obj := (b3o 53)
noncomputable def o54 (P : Params) : Obj := (b3o 54)
noncomputable def o55 (P : Params) : Obj := (b3o 55)
noncomputable def o56 (P : Params) : Obj := (b3o 56)
noncomputable def o57 (P : Params) : Obj := (b3o 57)
noncomputable def o58 (P : Params) : Obj := (b3o 58)
noncomputable def o59 (P : Params) : Obj := (b3o 59)
noncomputable def o60 (P : Params) : Obj := (b3o 60)
noncomputable def o61 (P : Params) : Obj := (b3o 61)
noncomputable def o62 (P : Params) : Obj := (b3o 62)
noncomputable def o63 (P : Params) : Obj := (b3o 63)
noncomputable def o64 (P : Params) : Obj := (b3o 64)
noncomputable def o65 (P : Params) : Obj := (b3o 65)
noncomputable def o66 (P : Params) : Obj := (b3o 66)
noncomputable def o67 (P : Params) : Obj := (b3o 67)
noncomputable def o68 (P : Params) : Obj := (b3o 68)
noncomputable def o69 (P : Params) : Obj := (b3o 69)
noncomputable def o70 (P : Params) : Obj := (b3o 70)
noncomputable def o71 (P : Params) : Obj := (b3o 71)
noncomputable def tr5 (P : Params) : BT := (.node (boot_o_0 P) (.node (boot_o_1 P) (.node (o3v4 P) (.node (boot_o_7 P) (.node (o15 P) (.node (o31 P) (.node (o63 P) .nil .nil) .nil) (.node (o47 P) .nil .nil)) (.node (o23 P) (.node (o39 P) (.node (o71 P) .nil .nil) .nil) (.node (o55 P) .nil .nil))) (.node (o11 P) (.node (o19 P) (.node (o35 P) (.node (o67 P) .nil .nil) .nil) (.node (o51 P) .nil .nil)) (.node (o27 P) (.node (o43 P) .nil .nil) (.node (o59 P) .nil .nil)))) (.node (boot_o_5 P) (.node (boot_o_9 P) (.node (o17 P) (.node (o33 P) (.node (o65 P) .nil .nil) .nil) (.node (o49 P) .nil .nil)) (.node (o25 P) (.node (o41 P) .nil .nil) (.node (o57 P) .nil .nil))) (.node (o13 P) (.node (o21 P) (.node (o37 P) (.node (o69 P) .nil .nil) .nil) (.node (o53 P) .nil .nil)) (.node (o29 P) (.node (o45 P) .nil .nil) (.node (o61 P) .nil .nil))))) (.node (boot_o_2 P) (.node (boot_o_4 P) (.node (boot_o_8 P) (.node (o16 P) (.node (o32 P) (.node (o64 P) .nil .nil) .nil) (.node (o48 P) .nil .nil)) (.node (o24 P) (.node (o40 P) .nil .nil) (.node (o56 P) .nil .nil))) (.node (o12v1 P) (.node (o20 P) (.node (o36 P) (.node (o68 P) .nil .nil) .nil) (.node (o52 P) .nil .nil)) (.node (o28 P) (.node (o44 P) .nil .nil) (.node (o60 P) .nil .nil)))) (.node (boot_o_6 P) (.node (boot_o_10 P) (.node (o18 P) (.node (o34 P) (.node (o66 P) .nil .nil) .nil) (.node (o50 P) .nil .nil)) (.node (o26 P) (.node (o42 P) .nil .nil) (.node (o58 P) .nil .nil))) (.node (o14 P) (.node (o22 P) (.node (o38 P) (.node (o70 P) .nil .nil) .nil) (.node (o54 P) .nil .nil)) (.node (o30 P) (.node (o46 P) .nil .nil) (.node (o62 P) .nil .nil))))))
noncomputable def st5 (w : World) (os : OsState) : SharedT := ⟨tr5 w.params, 72, lf, gs, dr, 2207, os⟩
noncomputable def o72 (P : Params) : Obj := ⟨(Value.type "tuple"), none, (Data.seq #[] 0), #[]⟩
noncomputable def o73 (P : Params) : Obj := ⟨Value.none, none, (Data.fields #[]), #[]⟩
noncomputable def o74 (P : Params) : Obj := ⟨(Value.type "tuple"), none, (Data.seq #[(Value.str (S "code") 2210), (Value.str (S "r") 2211)] 0), #[]⟩
noncomputable def o75 (P : Params) : Obj := ⟨(Value.type "tuple"), none, (Data.seq #[] 0), #[]⟩
noncomputable def o76 (P : Params) : Obj := ⟨Value.none, none, (Data.func (fdC 4 (S "map_table_b3"))), #[]⟩
noncomputable def o77 (P : Params) : Obj := ⟨(Value.type "code"), none, (Data.fields #[(Value.str (S "map_table_b3") 2207), (Value.str (S "map_table_b3") 2208), (Value.str (S "/claim/cut.py") 2209), (Value.int 6 0), (Value.int 1 0), (Value.int 0 0), (Value.int 0 0), (Value.int 3 0), (Value.ref 72), (Value.bool true), (Value.int 181 0), (Value.ref 73), Value.none, (Value.ref 74), (Value.ref 75), (Value.ref 76), (Value.int 2212 0), (Value.int 6 0), (Value.str (S "/claim/cut.py") 2213)]), #[]⟩
noncomputable def o78 (P : Params) : Obj := ⟨(Value.type "function"), none, (Data.func (fdF 4 (S "map_table_b3") (Value.str (S "cpy313.stringprep") 187) (Value.ref 77))), #[]⟩
noncomputable def o79 (P : Params) : Obj := ⟨(Value.type "tuple"), none, (Data.seq #[] 0), #[]⟩
noncomputable def o80 (P : Params) : Obj := ⟨Value.none, none, (Data.fields #[]), #[]⟩
noncomputable def o81 (P : Params) : Obj := ⟨(Value.type "tuple"), none, (Data.seq #[(Value.str (S "a") 2220), (Value.str (S "b") 2221)] 0), #[]⟩
noncomputable def o82 (P : Params) : Obj := ⟨(Value.type "tuple"), none, (Data.seq #[] 0), #[]⟩
noncomputable def o83 (P : Params) : Obj := ⟨Value.none, none, (Data.func (fdC 6 (S "gt"))), #[]⟩
noncomputable def o84 (P : Params) : Obj := ⟨(Value.type "code"), none, (Data.fields #[(Value.str (S "gt") 2217), (Value.str (S "gt") 2218), (Value.str (S "/claim/cut.py") 2219), (Value.int 12 0), (Value.int 2 0), (Value.int 0 0), (Value.int 0 0), (Value.int 3 0), (Value.ref 79), (Value.bool true), (Value.int 181 0), (Value.ref 80), Value.none, (Value.ref 81), (Value.ref 82), (Value.ref 83), (Value.int 2222 0), (Value.int 12 0), (Value.str (S "/claim/cut.py") 2223)]), #[]⟩
noncomputable def o85 (P : Params) : Obj := ⟨(Value.type "function"), none, (Data.func (fdF 6 (S "gt") (Value.str (S "cpy313.operator") 2215) (Value.ref 84))), #[]⟩
noncomputable def o86 (P : Params) : Obj := ⟨(Value.type "tuple"), none, (Data.seq #[] 0), #[]⟩
noncomputable def o87 (P : Params) : Obj := ⟨Value.none, none, (Data.fields #[]), #[]⟩
noncomputable def o88 (P : Params) : Obj := ⟨(Value.type "tuple"), none, (Data.seq #[(Value.str (S "a") 2228), (Value.str (S "b") 2229)] 0), #[]⟩
noncomputable def o89 (P : Params) : Obj := ⟨(Value.type "tuple"), none, (Data.seq #[] 0), #[]⟩
noncomputable def o90 (P : Params) : Obj := ⟨Value.none, none, (Data.func (fdC 7 (S "add"))), #[]⟩
noncomputable def o91 (P : Params) : Obj := ⟨(Value.type "code"), none, (Data.fields #[(Value.str (S "add") 2225), (Value.str (S "add") 2226), (Value.str (S "/claim/cut.py") 2227), (Value.int 14 0), (Value.int 2 0), (Value.int 0 0), (Value.int 0 0), (Value.int 3 0), (Value.ref 86), (Value.bool true), (Value.int 181 0), (Value.ref 87), Value.none, (Value.ref 88), (Value.ref 89), (Value.ref 90), (Value.int 2230 0), (Value.int 14 0), (Value.str (S "/claim/cut.py") 2231)]), #[]⟩
noncomputable def o92 (P : Params) : Obj := ⟨(Value.type "function"), none, (Data.func (fdF 7 (S "add") (Value.str (S "cpy313.operator") 2215) (Value.ref 91))), #[]⟩
noncomputable def o93 (P : Params) : Obj := ⟨(Value.type "tuple"), none, (Data.seq #[] 0), #[]⟩
noncomputable def o94 (P : Params) : Obj := ⟨Value.none, none, (Data.fields #[]), #[]⟩
noncomputable def o95 (P : Params) : Obj := ⟨(Value.type "tuple"), none, (Data.seq #[(Value.str (S "a") 2236), (Value.str (S "b") 2237)] 0), #[]⟩
noncomputable def o96 (P : Params) : Obj := ⟨(Value.type "tuple"), none, (Data.seq #[] 0), #[]⟩
noncomputable def o97 (P : Params) : Obj := ⟨Value.none, none, (Data.func (fdC 8 (S "mul"))), #[]⟩
noncomputable def o98 (P : Params) : Obj := ⟨(Value.type "code"), none, (Data.fields #[(Value.str (S "mul") 2233), (Value.str (S "mul") 2234), (Value.str (S "/claim/cut.py") 2235), (Value.int 16 0), (Value.int 2 0), (Value.int 0 0), (Value.int 0 0), (Value.int 3 0), (Value.ref 93), (Value.bool true), (Value.int 181 0), (Value.ref 94), Value.none, (Value.ref 95), (Value.ref 96), (Value.ref 97), (Value.int 2238 0), (Value.int 16 0), (Value.str (S "/claim/cut.py") 2239)]), #[]⟩
noncomputable def o99 (P : Params) : Obj := ⟨(Value.type "function"), none, (Data.func (fdF 8 (S "mul") (Value.str (S "cpy313.operator") 2215) (Value.ref 98))), #[]⟩
noncomputable def o100 (P : Params) : Obj := ⟨(Value.type "tuple"), none, (Data.seq #[] 0), #[]⟩
noncomputable def o101 (P : Params) : Obj := ⟨Value.none, none, (Data.fields #[]), #[]⟩
noncomputable def o102 (P : Params) : Obj := ⟨(Value.type "tuple"), none, (Data.seq #[(Value.str (S "a") 2244), (Value.str (S "b") 2245)] 0), #[]⟩
noncomputable def o103 (P : Params) : Obj := ⟨(Value.type "tuple"), none, (Data.seq #[] 0), #[]⟩
noncomputable def o104 (P : Params) : Obj := ⟨Value.none, none, (Data.func (fdC 9 (S "sub"))), #[]⟩
noncomputable def o105 (P : Params) : Obj := ⟨(Value.type "code"), none, (Data.fields #[(Value.str (S "sub") 2241), (Value.str (S "sub") 2242), (Value.str (S "/claim/cut.py") 2243), (Value.int 18 0), (Value.int 2 0), (Value.int 0 0), (Value.int 0 0), (Value.int 3 0), (Value.ref 100), (Value.bool true), (Value.int 181 0), (Value.ref 101), Value.none, (Value.ref 102), (Value.ref 103), (Value.ref 104), (Value.int 2246 0), (Value.int 18 0), (Value.str (S "/claim/cut.py") 2247)]), #[]⟩
noncomputable def o106 (P : Params) : Obj := ⟨(Value.type "function"), none, (Data.func (fdF 9 (S "sub") (Value.str (S "cpy313.operator") 2215) (Value.ref 105))), #[]⟩
noncomputable def o3v11 (P : Params) : Obj := ⟨(Value.type "dict"), none, (Data.dict #[(en P (S "__name__") 165 (Value.str (S "cpy313.operator") 2215)), (en P (S "__doc__") 166 Value.none), (en P (S "__package__") 167 Value.none), (en P (S "__loader__") 168 (Value.builtin "__main__.__loader__#opaque")), (en P (S "__spec__") 169 Value.none), (en P (S "__annotations__") 170 (Value.ref 6)), (en P (S "__builtins__") 171 (Value.ref 4)), (en P (S "__file__") 173 (Value.str (S "/claim/cut.py") 172)), (en P (S "__cached__") 174 Value.none), (en P (S "b1_set") 248 (Value.ref 22)), (en P (S "in_table_b1") 255 (Value.ref 32)), (en P (S "b3_exceptions") 2206 (Value.ref 33)), (en P (S "map_table_b3") 2214 (Value.ref 78)), (en P (S "gt") 2224 (Value.ref 85)), (en P (S "add") 2232 (Value.ref 92)), (en P (S "mul") 2240 (Value.ref 99)), (en P (S "sub") 2248 (Value.ref 106)), (en P (S "concat") 2257 (Value.ref 113))] 18), #[]⟩
noncomputable def o12v7 (P : Params) : Obj := ⟨Value.none, none, (Data.fields #[(Value.int 3 0), (Value.int 0 0), (Value.ref 31), (Value.int 6 0), (Value.int 0 0), (Value.ref 77), (Value.int 12 0), (Value.int 0 0), (Value.ref 84), (Value.int 14 0), (Value.int 0 0), (Value.ref 91), (Value.int 16 0), (Value.int 0 0), (Value.ref 98), (Value.int 18 0), (Value.int 0 0), (Value.ref 105), (Value.int 20 0), (Value.int 0 0), (Value.ref 112)]), #[]⟩
noncomputable def o107 (P : Params) : Obj := ⟨(Value.type "tuple"), none, (Data.seq #[] 0), #[]⟩
noncomputable def o108 (P : Params) : Obj := ⟨Value.none, none, (Data.fields #[]), #[]⟩
noncomputable def o109 (P : Params) : Obj := ⟨(Value.type "tuple"), none, (Data.seq #[(Value.str (S "a") 2252), (Value.str (S "b") 2253), (Value.str (S "msg") 2254)] 0), #[]⟩
noncomputable def o110 (P : Params) : Obj := ⟨(Value.type "tuple"), none, (Data.seq #[] 0), #[]⟩
noncomputable def o111 (P : Params) : Obj := ⟨Value.none, none, (Data.func (fdC 10 (S "concat"))), #[]⟩
noncomputable def o112 (P : Params) : Obj := ⟨(Value.type "code"), none, (Data.fields #[(Value.str (S "concat") 2249), (Value.str (S "concat") 2250), (Value.str (S "/claim/cut.py") 2251), (Value.int 20 0), (Value.int 2 0), (Value.int 0 0), (Value.int 0 0), (Value.int 3 0), (Value.ref 107), (Value.bool true), (Value.int 181 0), (Value.ref 108), Value.none, (Value.ref 109), (Value.ref 110), (Value.ref 111), (Value.int 2255 0), (Value.int 20 0), (Value.str (S "/claim/cut.py") 2256)]), #[]⟩
noncomputable def o113 (P : Params) : Obj := ⟨(Value.type "function"), none, (Data.func (fdF 10 (S "concat") (Value.str (S "cpy313.operator") 2215) (Value.ref 112))), #[]⟩
noncomputable def tr12 (P : Params) : BT := (.node (boot_o_0 P) (.node (boot_o_1 P) (.node (o3v11 P) (.node (boot_o_7 P) (.node (o15 P) (.node (o31 P) (.node (o63 P) .nil .nil) (.node (o95 P) .nil .nil)) (.node (o47 P) (.node (o79 P) .nil .nil) (.node (o111 P) .nil .nil))) (.node (o23 P) (.node (o39 P) (.node (o71 P) .nil .nil) (.node (o103 P) .nil .nil)) (.node (o55 P) (.node (o87 P) .nil .nil) .nil))) (.node (o11 P) (.node (o19 P) (.node (o35 P) (.node (o67 P) .nil .nil) (.node (o99 P) .nil .nil)) (.node (o51 P) (.node (o83 P) .nil .nil) .nil)) (.node (o27 P) (.node (o43 P) (.node (o75 P) .nil .nil) (.node (o107 P) .nil .nil)) (.node (o59 P) (.node (o91 P) .nil .nil) .nil)))) (.node (boot_o_5 P) (.node (boot_o_9 P) (.node (o17 P) (.node (o33 P) (.node (o65 P) .nil .nil) (.node (o97 P) .nil .nil)) (.node (o49 P) (.node (o81 P) .nil .nil) (.node (o113 P) .nil .nil))) (.node (o25 P) (.node (o41 P) (.node (o73 P) .nil .nil) (.node (o105 P) .nil .nil)) (.node (o57 P) (.node (o89 P) .nil .nil) .nil))) (.node (o13 P) (.node (o21 P) (.node (o37 P) (.node (o69 P) .nil .nil) (.node (o101 P) .nil .nil)) (.node (o53 P) (.node (o85 P) .nil .nil) .nil)) (.node (o29 P) (.node (o45 P) (.node (o77 P) .nil .nil) (.node (o109 P) .nil .nil)) (.node (o61 P) (.node (o93 P) .nil .nil) .nil))))) (.node (boot_o_2 P) (.node (boot_o_4 P) (.node (boot_o_8 P) (.node (o16 P) (.node (o32 P) (.node (o64 P) .nil .nil) (.node (o96 P) .nil .nil)) (.node (o48 P) (.node (o80 P) .nil .nil) (.node (o112 P) .nil .nil))) (.node (o24 P) (.node (o40 P) (.node (o72 P) .nil .nil) (.node (o104 P) .nil .nil)) (.node (o56 P) (.node (o88 P) .nil .nil) .nil))) (.node (o12v7 P) (.node (o20 P) (.node (o36 P) (.node (o68 P) .nil .nil) (.node (o100 P) .nil .nil)) (.node (o52 P) (.node (o84 P) .nil .nil) .nil)) (.node (o28 P) (.node (o44 P) (.node (o76 P) .nil .nil) (.node (o108 P) .nil .nil)) (.node (o60 P) (.node (o92 P) .nil .nil) .nil)))) (.node (boot_o_6 P) (.node (boot_o_10 P) (.node (o18 P) (.node (o34 P) (.node (o66 P) .nil .nil) (.node (o98 P) .nil .nil)) (.node (o50 P) (.node (o82 P) .nil .nil) .nil)) (.node (o26 P) (.node (o42 P) (.node (o74 P) .nil .nil) (.node (o106 P) .nil .nil)) (.node (o58 P) (.node (o90 P) .nil .nil) .nil))) (.node (o14 P) (.node (o22 P) (.node (o38 P) (.node (o70 P) .nil .nil) (.node (o102 P) .nil .nil)) (.node (o54 P) (.node (o86 P) .nil .nil) .nil)) (.node (o30 P) (.node (o46 P) (.node (o78 P) .nil .nil) (.node (o110 P) .nil .nil)) (.node (o62 P) (.node (o94 P) .nil .nil) .nil))))))
noncomputable def st12 (w : World) (os : OsState) : SharedT := ⟨tr12 w.params, 114, lf, gs, dr, 2258, os⟩
noncomputable def o114 (P : Params) : Obj := ⟨(Value.type "tuple"), none, (Data.seq #[] 0), #[]⟩
noncomputable def o115 (P : Params) : Obj := ⟨Value.none, none, (Data.fields #[]), #[]⟩
noncomputable def o116 (P : Params) : Obj := ⟨(Value.type "tuple"), none, (Data.seq #[(Value.str (S "a") 2261), (Value.str (S "b") 2262), (Value.str (S "count") 2263), (Value.str (S "i") 2264)] 0), #[]⟩
noncomputable def o117 (P : Params) : Obj := ⟨(Value.type "tuple"), none, (Data.seq #[] 0), #[]⟩
noncomputable def o118 (P : Params) : Obj := ⟨Value.none, none, (Data.func (fdC 11 (S "countOf"))), #[]⟩
noncomputable def o119 (P : Params) : Obj := ⟨(Value.type "code"), none, (Data.fields #[(Value.str (S "countOf") 2258), (Value.str (S "countOf") 2259), (Value.str (S "/claim/cut.py") 2260), (Value.int 25 0), (Value.int 2 0), (Value.int 0 0), (Value.int 0 0), (Value.int 3 0), (Value.ref 114), (Value.bool true), (Value.int 181 0), (Value.ref 115), Value.none, (Value.ref 116), (Value.ref 117), (Value.ref 118), (Value.int 2265 0), (Value.int 25 0), (Value.str (S "/claim/cut.py") 2266)]), #[]⟩
noncomputable def o120 (P : Params) : Obj := ⟨(Value.type "function"), none, (Data.func (fdF 11 (S "countOf") (Value.str (S "cpy313.operator") 2215) (Value.ref 119))), #[]⟩
noncomputable def o121 (P : Params) : Obj := ⟨(Value.type "tuple"), none, (Data.seq #[] 0), #[]⟩
noncomputable def o122 (P : Params) : Obj := ⟨Value.none, none, (Data.fields #[]), #[]⟩
noncomputable def o123 (P : Params) : Obj := ⟨(Value.type "tuple"), none, (Data.seq #[(Value.str (S "a") 2271), (Value.str (S "b") 2272), (Value.str (S "i") 2273), (Value.str (S "j") 2274)] 0), #[]⟩
noncomputable def o124 (P : Params) : Obj := ⟨(Value.type "tuple"), none, (Data.seq #[] 0), #[]⟩
noncomputable def o125 (P : Params) : Obj := ⟨Value.none, none, (Data.func (fdC 12 (S "indexOf"))), #[]⟩
noncomputable def o126 (P : Params) : Obj := ⟨(Value.type "code"), none, (Data.fields #[(Value.str (S "indexOf") 2268), (Value.str (S "indexOf") 2269), (Value.str (S "/claim/cut.py") 2270), (Value.int 31 0), (Value.int 2 0), (Value.int 0 0), (Value.int 0 0), (Value.int 3 0), (Value.ref 121), (Value.bool true), (Value.int 181 0), (Value.ref 122), Value.none, (Value.ref 123), (Value.ref 124), (Value.ref 125), (Value.int 2275 0), (Value.int 31 0), (Value.str (S "/claim/cut.py") 2276)]), #[]⟩
noncomputable def o127 (P : Params) : Obj := ⟨(Value.type "function"), none, (Data.func (fdF 12 (S "indexOf") (Value.str (S "cpy313.operator") 2215) (Value.ref 126))), #[]⟩
noncomputable def o128 (P : Params) : Obj := ⟨(Value.type "tuple"), none, (Data.seq #[] 0), #[]⟩
noncomputable def o129 (P : Params) : Obj := ⟨Value.none, none, (Data.fields #[]), #[]⟩
noncomputable def o130 (P : Params) : Obj := ⟨(Value.type "tuple"), none, (Data.seq #[(Value.str (S "ch_a") 2289), (Value.str (S "ch_b") 2290)] 0), #[]⟩
noncomputable def o131 (P : Params) : Obj := ⟨(Value.type "tuple"), none, (Data.seq #[] 0), #[]⟩
noncomputable def o132 (P : Params) : Obj := ⟨Value.none, none, (Data.func (fdC 17 (S "_substitution_cost"))), #[]⟩
noncomputable def o133 (P : Params) : Obj := ⟨(Value.type "code"), none, (Data.fields #[(Value.str (S "_substitution_cost") 2286), (Value.str (S "_substitution_cost") 2287), (Value.str (S "/claim/cut.py") 2288), (Value.int 41 0), (Value.int 2 0), (Value.int 0 0), (Value.int 0 0), (Value.int 3 0), (Value.ref 128), (Value.bool true), (Value.int 181 0), (Value.ref 129), Value.none, (Value.ref 130), (Value.ref 131), (Value.ref 132), (Value.int 2291 0), (Value.int 41 0), (Value.str (S "/claim/cut.py") 2292)]), #[]⟩
noncomputable def o134 (P : Params) : Obj := ⟨(Value.type "function"), none, (Data.func (fdF 17 (S "_substitution_cost") (Value.str (S "cpy313.traceback") 2278) (Value.ref 133))), #[]⟩
noncomputable def o12v11 (P : Params) : Obj := ⟨Value.none, none, (Data.fields #[(Value.int 3 0), (Value.int 0 0), (Value.ref 31), (Value.int 6 0), (Value.int 0 0), (Value.ref 77), (Value.int 12 0), (Value.int 0 0), (Value.ref 84), (Value.int 14 0), (Value.int 0 0), (Value.ref 91), (Value.int 16 0), (Value.int 0 0), (Value.ref 98), (Value.int 18 0), (Value.int 0 0), (Value.ref 105), (Value.int 20 0), (Value.int 0 0), (Value.ref 112), (Value.int 25 0), (Value.int 0 0), (Value.ref 119), (Value.int 31 0), (Value.int 0 0), (Value.ref 126), (Value.int 41 0), (Value.int 0 0), (Value.ref 133), (Value.int 47 0), (Value.int 0 0), (Value.ref 140)]), #[]⟩
noncomputable def o135 (P : Params) : Obj := ⟨(Value.type "tuple"), none, (Data.seq #[] 0), #[]⟩
noncomputable def o136 (P : Params) : Obj := ⟨Value.none, none, (Data.fields #[]), #[]⟩
noncomputable def o137 (P : Params) : Obj := ⟨(Value.type "tuple"), none, (Data.seq #[(Value.str (S "a") 2297), (Value.str (S "b") 2298), (Value.str (S "max_cost") 2299), (Value.str (S "pre") 2300), (Value.str (S "post") 2301), (Value.str (S "row") 2302), (Value.str (S "result") 2303), (Value.str (S "bindex") 2304), (Value.str (S "bchar") 2305), (Value.str (S "distance") 2306), (Value.str (S "minimum") 2307), (Value.str (S "index") 2308), (Value.str (S "substitute") 2309), (Value.str (S "insert_delete") 2310)] 0), #[]⟩
noncomputable def o138 (P : Params) : Obj := ⟨(Value.type "tuple"), none, (Data.seq #[] 0), #[]⟩
noncomputable def o139 (P : Params) : Obj := ⟨Value.none, none, (Data.func (fdC 18 (S "_levenshtein_distance"))), #[]⟩
noncomputable def o140 (P : Params) : Obj := ⟨(Value.type "code"), none, (Data.fields #[(Value.str (S "_levenshtein_distance") 2294), (Value.str (S "_levenshtein_distance") 2295), (Value.str (S "/claim/cut.py") 2296), (Value.int 47 0), (Value.int 3 0), (Value.int 0 0), (Value.int 0 0), (Value.int 3 0), (Value.ref 135), (Value.bool true), (Value.int 181 0), (Value.ref 136), Value.none, (Value.ref 137), (Value.ref 138), (Value.ref 139), (Value.int 2311 0), (Value.int 47 0), (Value.str (S "/claim/cut.py") 2312)]), #[]⟩
noncomputable def o141 (P : Params) : Obj := ⟨(Value.type "function"), none, (Data.func (fdF 18 (S "_levenshtein_distance") (Value.str (S "cpy313.traceback") 2278) (Value.ref 140))), #[]⟩
noncomputable def o3v20 (P : Params) : Obj := ⟨(Value.type "dict"), none, (Data.dict #[(en P (S "__name__") 165 (Value.str (S "law_tl0038_01") 2314)), (en P (S "__doc__") 166 Value.none), (en P (S "__package__") 167 Value.none), (en P (S "__loader__") 168 (Value.builtin "__main__.__loader__#opaque")), (en P (S "__spec__") 169 Value.none), (en P (S "__annotations__") 170 (Value.ref 6)), (en P (S "__builtins__") 171 (Value.ref 4)), (en P (S "__file__") 173 (Value.str (S "/claim/cut.py") 172)), (en P (S "__cached__") 174 Value.none), (en P (S "b1_set") 248 (Value.ref 22)), (en P (S "in_table_b1") 255 (Value.ref 32)), (en P (S "b3_exceptions") 2206 (Value.ref 33)), (en P (S "map_table_b3") 2214 (Value.ref 78)), (en P (S "gt") 2224 (Value.ref 85)), (en P (S "add") 2232 (Value.ref 92)), (en P (S "mul") 2240 (Value.ref 99)), (en P (S "sub") 2248 (Value.ref 106)), (en P (S "concat") 2257 (Value.ref 113)), (en P (S "countOf") 2267 (Value.ref 120)), (en P (S "indexOf") 2277 (Value.ref 127)), (en P (S "_MAX_STRING_SIZE") 2281 (Value.int 40 2280)), (en P (S "_MOVE_COST") 2283 (Value.int 2 2282)), (en P (S "_CASE_COST") 2285 (Value.int 1 2284)), (en P (S "_substitution_cost") 2293 (Value.ref 134)), (en P (S "_levenshtein_distance") 2313 (Value.ref 141))] 25), #[]⟩
noncomputable def tr21 (P : Params) : BT := (.node (boot_o_0 P) (.node (boot_o_1 P) (.node (o3v20 P) (.node (boot_o_7 P) (.node (o15 P) (.node (o31 P) (.node (o63 P) (.node (o127 P) .nil .nil) .nil) (.node (o95 P) .nil .nil)) (.node (o47 P) (.node (o79 P) .nil .nil) (.node (o111 P) .nil .nil))) (.node (o23 P) (.node (o39 P) (.node (o71 P) (.node (o135 P) .nil .nil) .nil) (.node (o103 P) .nil .nil)) (.node (o55 P) (.node (o87 P) .nil .nil) (.node (o119 P) .nil .nil)))) (.node (o11 P) (.node (o19 P) (.node (o35 P) (.node (o67 P) (.node (o131 P) .nil .nil) .nil) (.node (o99 P) .nil .nil)) (.node (o51 P) (.node (o83 P) .nil .nil) (.node (o115 P) .nil .nil))) (.node (o27 P) (.node (o43 P) (.node (o75 P) (.node (o139 P) .nil .nil) .nil) (.node (o107 P) .nil .nil)) (.node (o59 P) (.node (o91 P) .nil .nil) (.node (o123 P) .nil .nil))))) (.node (boot_o_5 P) (.node (boot_o_9 P) (.node (o17 P) (.node (o33 P) (.node (o65 P) (.node (o129 P) .nil .nil) .nil) (.node (o97 P) .nil .nil)) (.node (o49 P) (.node (o81 P) .nil .nil) (.node (o113 P) .nil .nil))) (.node (o25 P) (.node (o41 P) (.node (o73 P) (.node (o137 P) .nil .nil) .nil) (.node (o105 P) .nil .nil)) (.node (o57 P) (.node (o89 P) .nil .nil) (.node (o121 P) .nil .nil)))) (.node (o13 P) (.node (o21 P) (.node (o37 P) (.node (o69 P) (.node (o133 P) .nil .nil) .nil) (.node (o101 P) .nil .nil)) (.node (o53 P) (.node (o85 P) .nil .nil) (.node (o117 P) .nil .nil))) (.node (o29 P) (.node (o45 P) (.node (o77 P) (.node (o141 P) .nil .nil) .nil) (.node (o109 P) .nil .nil)) (.node (o61 P) (.node (o93 P) .nil .nil) (.node (o125 P) .nil .nil)))))) (.node (boot_o_2 P) (.node (boot_o_4 P) (.node (boot_o_8 P) (.node (o16 P) (.node (o32 P) (.node (o64 P) (.node (o128 P) .nil .nil) .nil) (.node (o96 P) .nil .nil)) (.node (o48 P) (.node (o80 P) .nil .nil) (.node (o112 P) .nil .nil))) (.node (o24 P) (.node (o40 P) (.node (o72 P) (.node (o136 P) .nil .nil) .nil) (.node (o104 P) .nil .nil)) (.node (o56 P) (.node (o88 P) .nil .nil) (.node (o120 P) .nil .nil)))) (.node (o12v11 P) (.node (o20 P) (.node (o36 P) (.node (o68 P) (.node (o132 P) .nil .nil) .nil) (.node (o100 P) .nil .nil)) (.node (o52 P) (.node (o84 P) .nil .nil) (.node (o116 P) .nil .nil))) (.node (o28 P) (.node (o44 P) (.node (o76 P) (.node (o140 P) .nil .nil) .nil) (.node (o108 P) .nil .nil)) (.node (o60 P) (.node (o92 P) .nil .nil) (.node (o124 P) .nil .nil))))) (.node (boot_o_6 P) (.node (boot_o_10 P) (.node (o18 P) (.node (o34 P) (.node (o66 P) (.node (o130 P) .nil .nil) .nil) (.node (o98 P) .nil .nil)) (.node (o50 P) (.node (o82 P) .nil .nil) (.node (o114 P) .nil .nil))) (.node (o26 P) (.node (o42 P) (.node (o74 P) (.node (o138 P) .nil .nil) .nil) (.node (o106 P) .nil .nil)) (.node (o58 P) (.node (o90 P) .nil .nil) (.node (o122 P) .nil .nil)))) (.node (o14 P) (.node (o22 P) (.node (o38 P) (.node (o70 P) (.node (o134 P) .nil .nil) .nil) (.node (o102 P) .nil .nil)) (.node (o54 P) (.node (o86 P) .nil .nil) (.node (o118 P) .nil .nil))) (.node (o30 P) (.node (o46 P) (.node (o78 P) .nil .nil) (.node (o110 P) .nil .nil)) (.node (o62 P) (.node (o94 P) .nil .nil) (.node (o126 P) .nil .nil)))))))
noncomputable def st21 (w : World) (os : OsState) : SharedT := ⟨tr21 w.params, 142, lf, gs, dr, 2316, os⟩
noncomputable def o142 (P : Params) : Obj := ⟨(Value.type "tuple"), none, (Data.seq #[] 0), #[]⟩
noncomputable def o143 (P : Params) : Obj := ⟨Value.none, none, (Data.fields #[]), #[]⟩
noncomputable def o144 (P : Params) : Obj := ⟨(Value.type "tuple"), none, (Data.seq #[(Value.str (S "script") 2319), (Value.str (S "draws") 2320), (Value.str (S "k") 2321)] 0), #[]⟩
noncomputable def o145 (P : Params) : Obj := ⟨(Value.type "tuple"), none, (Data.seq #[] 0), #[]⟩
noncomputable def o146 (P : Params) : Obj := ⟨Value.none, none, (Data.func (fdC 20 (S "_law_draws"))), #[]⟩
noncomputable def o147 (P : Params) : Obj := ⟨(Value.type "code"), none, (Data.fields #[(Value.str (S "_law_draws") 2316), (Value.str (S "_law_draws") 2317), (Value.str (S "/claim/cut.py") 2318), (Value.int 86 0), (Value.int 1 0), (Value.int 0 0), (Value.int 0 0), (Value.int 3 0), (Value.ref 142), (Value.bool true), (Value.int 181 0), (Value.ref 143), Value.none, (Value.ref 144), (Value.ref 145), (Value.ref 146), (Value.int 2322 0), (Value.int 86 0), (Value.str (S "/claim/cut.py") 2323)]), #[]⟩
noncomputable def o148 (P : Params) : Obj := ⟨(Value.type "function"), none, (Data.func (fdF 20 (S "_law_draws") (Value.str (S "law_tl0038_01") 2314) (Value.ref 147))), #[]⟩
noncomputable def o149 (P : Params) : Obj := ⟨(Value.type "tuple"), none, (Data.seq #[] 0), #[]⟩
noncomputable def o150 (P : Params) : Obj := ⟨Value.none, none, (Data.fields #[]), #[]⟩
noncomputable def o151 (P : Params) : Obj := ⟨(Value.type "tuple"), none, (Data.seq #[(Value.str (S "k") 2328)] 0), #[]⟩
noncomputable def o152 (P : Params) : Obj := ⟨(Value.type "tuple"), none, (Data.seq #[] 0), #[]⟩
noncomputable def o153 (P : Params) : Obj := ⟨Value.none, none, (Data.func (fdC 21 (S "_law_unseen"))), #[]⟩
noncomputable def o154 (P : Params) : Obj := ⟨(Value.type "code"), none, (Data.fields #[(Value.str (S "_law_unseen") 2325), (Value.str (S "_law_unseen") 2326), (Value.str (S "/claim/cut.py") 2327), (Value.int 91 0), (Value.int 1 0), (Value.int 0 0), (Value.int 0 0), (Value.int 3 0), (Value.ref 149), (Value.bool true), (Value.int 181 0), (Value.ref 150), Value.none, (Value.ref 151), (Value.ref 152), (Value.ref 153), (Value.int 2329 0), (Value.int 91 0), (Value.str (S "/claim/cut.py") 2330)]), #[]⟩
noncomputable def o155 (P : Params) : Obj := ⟨(Value.type "function"), none, (Data.func (fdF 21 (S "_law_unseen") (Value.str (S "law_tl0038_01") 2314) (Value.ref 154))), #[]⟩
noncomputable def o156 (P : Params) : Obj := ⟨(Value.type "tuple"), none, (Data.seq #[] 0), #[]⟩
noncomputable def o157 (P : Params) : Obj := ⟨Value.none, none, (Data.fields #[]), #[]⟩
noncomputable def o158 (P : Params) : Obj := ⟨(Value.type "tuple"), none, (Data.seq #[(Value.str (S "letter") 2335), (Value.str (S "k") 2336)] 0), #[]⟩
noncomputable def o159 (P : Params) : Obj := ⟨(Value.type "tuple"), none, (Data.seq #[] 0), #[]⟩
noncomputable def o160 (P : Params) : Obj := ⟨Value.none, none, (Data.func (fdC 22 (S "_law_form"))), #[]⟩
noncomputable def o161 (P : Params) : Obj := ⟨(Value.type "code"), none, (Data.fields #[(Value.str (S "_law_form") 2332), (Value.str (S "_law_form") 2333), (Value.str (S "/claim/cut.py") 2334), (Value.int 95 0), (Value.int 2 0), (Value.int 0 0), (Value.int 0 0), (Value.int 3 0), (Value.ref 156), (Value.bool true), (Value.int 181 0), (Value.ref 157), Value.none, (Value.ref 158), (Value.ref 159), (Value.ref 160), (Value.int 2337 0), (Value.int 95 0), (Value.str (S "/claim/cut.py") 2338)]), #[]⟩
noncomputable def o162 (P : Params) : Obj := ⟨(Value.type "function"), none, (Data.func (fdF 22 (S "_law_form") (Value.str (S "law_tl0038_01") 2314) (Value.ref 161))), #[]⟩
noncomputable def o163 (P : Params) : Obj := ⟨(Value.type "tuple"), none, (Data.seq #[] 0), #[]⟩
noncomputable def o164 (P : Params) : Obj := ⟨Value.none, none, (Data.fields #[]), #[]⟩
noncomputable def o165 (P : Params) : Obj := ⟨(Value.type "tuple"), none, (Data.seq #[(Value.str (S "word") 2343), (Value.str (S "step") 2344), (Value.str (S "draw") 2345), (Value.str (S "both") 2346), (Value.str (S "signs") 2347), (Value.str (S "k") 2348)] 0), #[]⟩
noncomputable def o166 (P : Params) : Obj := ⟨(Value.type "tuple"), none, (Data.seq #[] 0), #[]⟩
noncomputable def o167 (P : Params) : Obj := ⟨Value.none, none, (Data.func (fdC 23 (S "_law_typed"))), #[]⟩
noncomputable def o168 (P : Params) : Obj := ⟨(Value.type "code"), none, (Data.fields #[(Value.str (S "_law_typed") 2340), (Value.str (S "_law_typed") 2341), (Value.str (S "/claim/cut.py") 2342), (Value.int 101 0), (Value.int 3 0), (Value.int 0 0), (Value.int 0 0), (Value.int 3 0), (Value.ref 163), (Value.bool true), (Value.int 181 0), (Value.ref 164), Value.none, (Value.ref 165), (Value.ref 166), (Value.ref 167), (Value.int 2349 0), (Value.int 101 0), (Value.str (S "/claim/cut.py") 2350)]), #[]⟩
noncomputable def o169 (P : Params) : Obj := ⟨(Value.type "function"), none, (Data.func (fdF 23 (S "_law_typed") (Value.str (S "law_tl0038_01") 2314) (Value.ref 168))), #[]⟩
noncomputable def o170 (P : Params) : Obj := ⟨(Value.type "tuple"), none, (Data.seq #[] 0), #[]⟩
noncomputable def o171 (P : Params) : Obj := ⟨Value.none, none, (Data.fields #[]), #[]⟩
noncomputable def o172 (P : Params) : Obj := ⟨(Value.type "tuple"), none, (Data.seq #[(Value.str (S "text") 2355), (Value.str (S "signs") 2356), (Value.str (S "sign") 2357), (Value.str (S "held") 2358)] 0), #[]⟩
noncomputable def o173 (P : Params) : Obj := ⟨(Value.type "tuple"), none, (Data.seq #[] 0), #[]⟩
noncomputable def o174 (P : Params) : Obj := ⟨Value.none, none, (Data.func (fdC 24 (S "_law_prepared"))), #[]⟩
noncomputable def o175 (P : Params) : Obj := ⟨(Value.type "code"), none, (Data.fields #[(Value.str (S "_law_prepared") 2352), (Value.str (S "_law_prepared") 2353), (Value.str (S "/claim/cut.py") 2354), (Value.int 112 0), (Value.int 1 0), (Value.int 0 0), (Value.int 0 0), (Value.int 3 0), (Value.ref 170), (Value.bool true), (Value.int 181 0), (Value.ref 171), Value.none, (Value.ref 172), (Value.ref 173), (Value.ref 174), (Value.int 2359 0), (Value.int 112 0), (Value.str (S "/claim/cut.py") 2360)]), #[]⟩
noncomputable def o176 (P : Params) : Obj := ⟨(Value.type "function"), none, (Data.func (fdF 24 (S "_law_prepared") (Value.str (S "law_tl0038_01") 2314) (Value.ref 175))), #[]⟩
noncomputable def o3v26 (P : Params) : Obj := ⟨(Value.type "dict"), none, (Data.dict #[(en P (S "__name__") 165 (Value.str (S "law_tl0038_01") 2314)), (en P (S "__doc__") 166 Value.none), (en P (S "__package__") 167 Value.none), (en P (S "__loader__") 168 (Value.builtin "__main__.__loader__#opaque")), (en P (S "__spec__") 169 Value.none), (en P (S "__annotations__") 170 (Value.ref 6)), (en P (S "__builtins__") 171 (Value.ref 4)), (en P (S "__file__") 173 (Value.str (S "/claim/cut.py") 172)), (en P (S "__cached__") 174 Value.none), (en P (S "b1_set") 248 (Value.ref 22)), (en P (S "in_table_b1") 255 (Value.ref 32)), (en P (S "b3_exceptions") 2206 (Value.ref 33)), (en P (S "map_table_b3") 2214 (Value.ref 78)), (en P (S "gt") 2224 (Value.ref 85)), (en P (S "add") 2232 (Value.ref 92)), (en P (S "mul") 2240 (Value.ref 99)), (en P (S "sub") 2248 (Value.ref 106)), (en P (S "concat") 2257 (Value.ref 113)), (en P (S "countOf") 2267 (Value.ref 120)), (en P (S "indexOf") 2277 (Value.ref 127)), (en P (S "_MAX_STRING_SIZE") 2281 (Value.int 40 2280)), (en P (S "_MOVE_COST") 2283 (Value.int 2 2282)), (en P (S "_CASE_COST") 2285 (Value.int 1 2284)), (en P (S "_substitution_cost") 2293 (Value.ref 134)), (en P (S "_levenshtein_distance") 2313 (Value.ref 141)), (en P (S "_law_draws") 2324 (Value.ref 148)), (en P (S "_law_unseen") 2331 (Value.ref 155)), (en P (S "_law_form") 2339 (Value.ref 162)), (en P (S "_law_typed") 2351 (Value.ref 169)), (en P (S "_law_prepared") 2361 (Value.ref 176)), (en P (S "_law_found") 2369 (Value.ref 183))] 31), #[]⟩
noncomputable def o12v17 (P : Params) : Obj := ⟨Value.none, none, (Data.fields #[(Value.int 3 0), (Value.int 0 0), (Value.ref 31), (Value.int 6 0), (Value.int 0 0), (Value.ref 77), (Value.int 12 0), (Value.int 0 0), (Value.ref 84), (Value.int 14 0), (Value.int 0 0), (Value.ref 91), (Value.int 16 0), (Value.int 0 0), (Value.ref 98), (Value.int 18 0), (Value.int 0 0), (Value.ref 105), (Value.int 20 0), (Value.int 0 0), (Value.ref 112), (Value.int 25 0), (Value.int 0 0), (Value.ref 119), (Value.int 31 0), (Value.int 0 0), (Value.ref 126), (Value.int 41 0), (Value.int 0 0), (Value.ref 133), (Value.int 47 0), (Value.int 0 0), (Value.ref 140), (Value.int 86 0), (Value.int 0 0), (Value.ref 147), (Value.int 91 0), (Value.int 0 0), (Value.ref 154), (Value.int 95 0), (Value.int 0 0), (Value.ref 161), (Value.int 101 0), (Value.int 0 0), (Value.ref 168), (Value.int 112 0), (Value.int 0 0), (Value.ref 175), (Value.int 121 0), (Value.int 0 0), (Value.ref 182)]), #[]⟩
noncomputable def o177 (P : Params) : Obj := ⟨(Value.type "tuple"), none, (Data.seq #[] 0), #[]⟩
noncomputable def o178 (P : Params) : Obj := ⟨Value.none, none, (Data.fields #[]), #[]⟩
noncomputable def o179 (P : Params) : Obj := ⟨(Value.type "tuple"), none, (Data.seq #[(Value.str (S "text") 2365), (Value.str (S "mark") 2366)] 0), #[]⟩
noncomputable def o180 (P : Params) : Obj := ⟨(Value.type "tuple"), none, (Data.seq #[] 0), #[]⟩
noncomputable def o181 (P : Params) : Obj := ⟨Value.none, none, (Data.func (fdC 25 (S "_law_found"))), #[]⟩
noncomputable def o182 (P : Params) : Obj := ⟨(Value.type "code"), none, (Data.fields #[(Value.str (S "_law_found") 2362), (Value.str (S "_law_found") 2363), (Value.str (S "/claim/cut.py") 2364), (Value.int 121 0), (Value.int 2 0), (Value.int 0 0), (Value.int 0 0), (Value.int 3 0), (Value.ref 177), (Value.bool true), (Value.int 181 0), (Value.ref 178), Value.none, (Value.ref 179), (Value.ref 180), (Value.ref 181), (Value.int 2367 0), (Value.int 121 0), (Value.str (S "/claim/cut.py") 2368)]), #[]⟩
noncomputable def o183 (P : Params) : Obj := ⟨(Value.type "function"), none, (Data.func (fdF 25 (S "_law_found") (Value.str (S "law_tl0038_01") 2314) (Value.ref 182))), #[]⟩
noncomputable def tr27 (P : Params) : BT := (.node (boot_o_0 P) (.node (boot_o_1 P) (.node (o3v26 P) (.node (boot_o_7 P) (.node (o15 P) (.node (o31 P) (.node (o63 P) (.node (o127 P) .nil .nil) .nil) (.node (o95 P) (.node (o159 P) .nil .nil) .nil)) (.node (o47 P) (.node (o79 P) (.node (o143 P) .nil .nil) .nil) (.node (o111 P) (.node (o175 P) .nil .nil) .nil))) (.node (o23 P) (.node (o39 P) (.node (o71 P) (.node (o135 P) .nil .nil) .nil) (.node (o103 P) (.node (o167 P) .nil .nil) .nil)) (.node (o55 P) (.node (o87 P) (.node (o151 P) .nil .nil) .nil) (.node (o119 P) (.node (o183 P) .nil .nil) .nil)))) (.node (o11 P) (.node (o19 P) (.node (o35 P) (.node (o67 P) (.node (o131 P) .nil .nil) .nil) (.node (o99 P) (.node (o163 P) .nil .nil) .nil)) (.node (o51 P) (.node (o83 P) (.node (o147 P) .nil .nil) .nil) (.node (o115 P) (.node (o179 P) .nil .nil) .nil))) (.node (o27 P) (.node (o43 P) (.node (o75 P) (.node (o139 P) .nil .nil) .nil) (.node (o107 P) (.node (o171 P) .nil .nil) .nil)) (.node (o59 P) (.node (o91 P) (.node (o155 P) .nil .nil) .nil) (.node (o123 P) .nil .nil))))) (.node (boot_o_5 P) (.node (boot_o_9 P) (.node (o17 P) (.node (o33 P) (.node (o65 P) (.node (o129 P) .nil .nil) .nil) (.node (o97 P) (.node (o161 P) .nil .nil) .nil)) (.node (o49 P) (.node (o81 P) (.node (o145 P) .nil .nil) .nil) (.node (o113 P) (.node (o177 P) .nil .nil) .nil))) (.node (o25 P) (.node (o41 P) (.node (o73 P) (.node (o137 P) .nil .nil) .nil) (.node (o105 P) (.node (o169 P) .nil .nil) .nil)) (.node (o57 P) (.node (o89 P) (.node (o153 P) .nil .nil) .nil) (.node (o121 P) .nil .nil)))) (.node (o13 P) (.node (o21 P) (.node (o37 P) (.node (o69 P) (.node (o133 P) .nil .nil) .nil) (.node (o101 P) (.node (o165 P) .nil .nil) .nil)) (.node (o53 P) (.node (o85 P) (.node (o149 P) .nil .nil) .nil) (.node (o117 P) (.node (o181 P) .nil .nil) .nil))) (.node (o29 P) (.node (o45 P) (.node (o77 P) (.node (o141 P) .nil .nil) .nil) (.node (o109 P) (.node (o173 P) .nil .nil) .nil)) (.node (o61 P) (.node (o93 P) (.node (o157 P) .nil .nil) .nil) (.node (o125 P) .nil .nil)))))) (.node (boot_o_2 P) (.node (boot_o_4 P) (.node (boot_o_8 P) (.node (o16 P) (.node (o32 P) (.node (o64 P) (.node (o128 P) .nil .nil) .nil) (.node (o96 P) (.node (o160 P) .nil .nil) .nil)) (.node (o48 P) (.node (o80 P) (.node (o144 P) .nil .nil) .nil) (.node (o112 P) (.node (o176 P) .nil .nil) .nil))) (.node (o24 P) (.node (o40 P) (.node (o72 P) (.node (o136 P) .nil .nil) .nil) (.node (o104 P) (.node (o168 P) .nil .nil) .nil)) (.node (o56 P) (.node (o88 P) (.node (o152 P) .nil .nil) .nil) (.node (o120 P) .nil .nil)))) (.node (o12v17 P) (.node (o20 P) (.node (o36 P) (.node (o68 P) (.node (o132 P) .nil .nil) .nil) (.node (o100 P) (.node (o164 P) .nil .nil) .nil)) (.node (o52 P) (.node (o84 P) (.node (o148 P) .nil .nil) .nil) (.node (o116 P) (.node (o180 P) .nil .nil) .nil))) (.node (o28 P) (.node (o44 P) (.node (o76 P) (.node (o140 P) .nil .nil) .nil) (.node (o108 P) (.node (o172 P) .nil .nil) .nil)) (.node (o60 P) (.node (o92 P) (.node (o156 P) .nil .nil) .nil) (.node (o124 P) .nil .nil))))) (.node (boot_o_6 P) (.node (boot_o_10 P) (.node (o18 P) (.node (o34 P) (.node (o66 P) (.node (o130 P) .nil .nil) .nil) (.node (o98 P) (.node (o162 P) .nil .nil) .nil)) (.node (o50 P) (.node (o82 P) (.node (o146 P) .nil .nil) .nil) (.node (o114 P) (.node (o178 P) .nil .nil) .nil))) (.node (o26 P) (.node (o42 P) (.node (o74 P) (.node (o138 P) .nil .nil) .nil) (.node (o106 P) (.node (o170 P) .nil .nil) .nil)) (.node (o58 P) (.node (o90 P) (.node (o154 P) .nil .nil) .nil) (.node (o122 P) .nil .nil)))) (.node (o14 P) (.node (o22 P) (.node (o38 P) (.node (o70 P) (.node (o134 P) .nil .nil) .nil) (.node (o102 P) (.node (o166 P) .nil .nil) .nil)) (.node (o54 P) (.node (o86 P) (.node (o150 P) .nil .nil) .nil) (.node (o118 P) (.node (o182 P) .nil .nil) .nil))) (.node (o30 P) (.node (o46 P) (.node (o78 P) (.node (o142 P) .nil .nil) .nil) (.node (o110 P) (.node (o174 P) .nil .nil) .nil)) (.node (o62 P) (.node (o94 P) (.node (o158 P) .nil .nil) .nil) (.node (o126 P) .nil .nil)))))))
noncomputable def st27 (w : World) (os : OsState) : SharedT := ⟨tr27 w.params, 184, lf, gs, dr, 2370, os⟩
noncomputable def o184 (P : Params) : Obj := ⟨(Value.type "tuple"), none, (Data.seq #[] 0), #[]⟩
noncomputable def o185 (P : Params) : Obj := ⟨Value.none, none, (Data.fields #[]), #[]⟩
noncomputable def o186 (P : Params) : Obj := ⟨(Value.type "tuple"), none, (Data.seq #[(Value.str (S "text") 2373), (Value.str (S "mark") 2374), (Value.str (S "place") 2375), (Value.str (S "one") 2376), (Value.str (S "other") 2377)] 0), #[]⟩
noncomputable def o187 (P : Params) : Obj := ⟨(Value.type "tuple"), none, (Data.seq #[] 0), #[]⟩
noncomputable def o188 (P : Params) : Obj := ⟨Value.none, none, (Data.func (fdC 26 (S "_law_parted"))), #[]⟩
noncomputable def o189 (P : Params) : Obj := ⟨(Value.type "code"), none, (Data.fields #[(Value.str (S "_law_parted") 2370), (Value.str (S "_law_parted") 2371), (Value.str (S "/claim/cut.py") 2372), (Value.int 126 0), (Value.int 2 0), (Value.int 0 0), (Value.int 0 0), (Value.int 3 0), (Value.ref 184), (Value.bool true), (Value.int 181 0), (Value.ref 185), Value.none, (Value.ref 186), (Value.ref 187), (Value.ref 188), (Value.int 2378 0), (Value.int 126 0), (Value.str (S "/claim/cut.py") 2379)]), #[]⟩
noncomputable def o190 (P : Params) : Obj := ⟨(Value.type "function"), none, (Data.func (fdF 26 (S "_law_parted") (Value.str (S "law_tl0038_01") 2314) (Value.ref 189))), #[]⟩
noncomputable def o191 (P : Params) : Obj := ⟨(Value.type "tuple"), none, (Data.seq #[] 0), #[]⟩
noncomputable def o192 (P : Params) : Obj := ⟨Value.none, none, (Data.fields #[]), #[]⟩
noncomputable def o193 (P : Params) : Obj := ⟨(Value.type "tuple"), none, (Data.seq #[(Value.str (S "draws") 2384), (Value.str (S "beside") 2385), (Value.str (S "one") 2386), (Value.str (S "other") 2387), (Value.str (S "told") 2388), (Value.str (S "draw") 2389), (Value.str (S "step") 2390), (Value.str (S "mark") 2391), (Value.str (S "elder") 2392), (Value.str (S "text") 2393), (Value.str (S "newer") 2394), (Value.str (S "came") 2395), (Value.str (S "bound") 2396), (Value.str (S "far") 2397)] 0), #[]⟩
noncomputable def o194 (P : Params) : Obj := ⟨(Value.type "tuple"), none, (Data.seq #[] 0), #[]⟩
noncomputable def o195 (P : Params) : Obj := ⟨Value.none, none, (Data.func (fdC 27 (S "_law_from_without"))), #[]⟩
noncomputable def o196 (P : Params) : Obj := ⟨(Value.type "code"), none, (Data.fields #[(Value.str (S "_law_from_without") 2381), (Value.str (S "_law_from_without") 2382), (Value.str (S "/claim/cut.py") 2383), (Value.int 133 0), (Value.int 1 0), (Value.int 0 0), (Value.int 0 0), (Value.int 3 0), (Value.ref 191), (Value.bool true), (Value.int 181 0), (Value.ref 192), Value.none, (Value.ref 193), (Value.ref 194), (Value.ref 195), (Value.int 2398 0), (Value.int 133 0), (Value.str (S "/claim/cut.py") 2399)]), #[]⟩
noncomputable def o197 (P : Params) : Obj := ⟨(Value.type "function"), none, (Data.func (fdF 27 (S "_law_from_without") (Value.str (S "law_tl0038_01") 2314) (Value.ref 196))), #[]⟩
noncomputable def o198 (P : Params) : Obj := ⟨(Value.type "tuple"), none, (Data.seq #[] 0), #[]⟩
noncomputable def o199 (P : Params) : Obj := ⟨Value.none, none, (Data.fields #[]), #[]⟩
noncomputable def o200 (P : Params) : Obj := ⟨(Value.type "tuple"), none, (Data.seq #[(Value.str (S "draws") 2404), (Value.str (S "pair") 2405), (Value.str (S "numbers") 2406), (Value.str (S "k") 2407), (Value.str (S "ahead") 2408), (Value.str (S "behind") 2409), (Value.str (S "bound") 2410)] 0), #[]⟩
noncomputable def o201 (P : Params) : Obj := ⟨(Value.type "tuple"), none, (Data.seq #[] 0), #[]⟩
noncomputable def o202 (P : Params) : Obj := ⟨Value.none, none, (Data.func (fdC 28 (S "_law_from_within"))), #[]⟩
noncomputable def o203 (P : Params) : Obj := ⟨(Value.type "code"), none, (Data.fields #[(Value.str (S "_law_from_within") 2401), (Value.str (S "_law_from_within") 2402), (Value.str (S "/claim/cut.py") 2403), (Value.int 153 0), (Value.int 1 0), (Value.int 0 0), (Value.int 0 0), (Value.int 3 0), (Value.ref 198), (Value.bool true), (Value.int 181 0), (Value.ref 199), Value.none, (Value.ref 200), (Value.ref 201), (Value.ref 202), (Value.int 2411 0), (Value.int 153 0), (Value.str (S "/claim/cut.py") 2412)]), #[]⟩
noncomputable def o204 (P : Params) : Obj := ⟨(Value.type "function"), none, (Data.func (fdF 28 (S "_law_from_within") (Value.str (S "law_tl0038_01") 2314) (Value.ref 203))), #[]⟩
noncomputable def o205 (P : Params) : Obj := ⟨(Value.type "tuple"), none, (Data.seq #[] 0), #[]⟩
noncomputable def o206 (P : Params) : Obj := ⟨Value.none, none, (Data.fields #[]), #[]⟩
noncomputable def o207 (P : Params) : Obj := ⟨(Value.type "tuple"), none, (Data.seq #[(Value.str (S "left") 2417), (Value.str (S "right") 2418)] 0), #[]⟩
noncomputable def o208 (P : Params) : Obj := ⟨(Value.type "tuple"), none, (Data.seq #[] 0), #[]⟩
noncomputable def o209 (P : Params) : Obj := ⟨Value.none, none, (Data.func (fdC 29 (S "_law_product"))), #[]⟩
noncomputable def o210 (P : Params) : Obj := ⟨(Value.type "code"), none, (Data.fields #[(Value.str (S "_law_product") 2414), (Value.str (S "_law_product") 2415), (Value.str (S "/claim/cut.py") 2416), (Value.int 169 0), (Value.int 2 0), (Value.int 0 0), (Value.int 0 0), (Value.int 3 0), (Value.ref 205), (Value.bool true), (Value.int 181 0), (Value.ref 206), Value.none, (Value.ref 207), (Value.ref 208), (Value.ref 209), (Value.int 2419 0), (Value.int 169 0), (Value.str (S "/claim/cut.py") 2420)]), #[]⟩
noncomputable def o211 (P : Params) : Obj := ⟨(Value.type "function"), none, (Data.func (fdF 29 (S "_law_product") (Value.str (S "law_tl0038_01") 2314) (Value.ref 210))), #[]⟩
noncomputable def o212 (P : Params) : Obj := ⟨(Value.type "tuple"), none, (Data.seq #[] 0), #[]⟩
noncomputable def o213 (P : Params) : Obj := ⟨Value.none, none, (Data.fields #[]), #[]⟩
noncomputable def o214 (P : Params) : Obj := ⟨(Value.type "tuple"), none, (Data.seq #[(Value.str (S "word") 2425), (Value.str (S "square") 2426), (Value.str (S "letter") 2427)] 0), #[]⟩
noncomputable def o215 (P : Params) : Obj := ⟨(Value.type "tuple"), none, (Data.seq #[] 0), #[]⟩
noncomputable def o216 (P : Params) : Obj := ⟨Value.none, none, (Data.func (fdC 30 (S "_law_square"))), #[]⟩
noncomputable def o217 (P : Params) : Obj := ⟨(Value.type "code"), none, (Data.fields #[(Value.str (S "_law_square") 2422), (Value.str (S "_law_square") 2423), (Value.str (S "/claim/cut.py") 2424), (Value.int 171 0), (Value.int 1 0), (Value.int 0 0), (Value.int 0 0), (Value.int 3 0), (Value.ref 212), (Value.bool true), (Value.int 181 0), (Value.ref 213), Value.none, (Value.ref 214), (Value.ref 215), (Value.ref 216), (Value.int 2428 0), (Value.int 171 0), (Value.str (S "/claim/cut.py") 2429)]), #[]⟩
noncomputable def o218 (P : Params) : Obj := ⟨(Value.type "function"), none, (Data.func (fdF 30 (S "_law_square") (Value.str (S "law_tl0038_01") 2314) (Value.ref 217))), #[]⟩
noncomputable def o3v32 (P : Params) : Obj := ⟨(Value.type "dict"), none, (Data.dict #[(en P (S "__name__") 165 (Value.str (S "law_tl0038_01") 2314)), (en P (S "__doc__") 166 Value.none), (en P (S "__package__") 167 Value.none), (en P (S "__loader__") 168 (Value.builtin "__main__.__loader__#opaque")), (en P (S "__spec__") 169 Value.none), (en P (S "__annotations__") 170 (Value.ref 6)), (en P (S "__builtins__") 171 (Value.ref 4)), (en P (S "__file__") 173 (Value.str (S "/claim/cut.py") 172)), (en P (S "__cached__") 174 Value.none), (en P (S "b1_set") 248 (Value.ref 22)), (en P (S "in_table_b1") 255 (Value.ref 32)), (en P (S "b3_exceptions") 2206 (Value.ref 33)), (en P (S "map_table_b3") 2214 (Value.ref 78)), (en P (S "gt") 2224 (Value.ref 85)), (en P (S "add") 2232 (Value.ref 92)), (en P (S "mul") 2240 (Value.ref 99)), (en P (S "sub") 2248 (Value.ref 106)), (en P (S "concat") 2257 (Value.ref 113)), (en P (S "countOf") 2267 (Value.ref 120)), (en P (S "indexOf") 2277 (Value.ref 127)), (en P (S "_MAX_STRING_SIZE") 2281 (Value.int 40 2280)), (en P (S "_MOVE_COST") 2283 (Value.int 2 2282)), (en P (S "_CASE_COST") 2285 (Value.int 1 2284)), (en P (S "_substitution_cost") 2293 (Value.ref 134)), (en P (S "_levenshtein_distance") 2313 (Value.ref 141)), (en P (S "_law_draws") 2324 (Value.ref 148)), (en P (S "_law_unseen") 2331 (Value.ref 155)), (en P (S "_law_form") 2339 (Value.ref 162)), (en P (S "_law_typed") 2351 (Value.ref 169)), (en P (S "_law_prepared") 2361 (Value.ref 176)), (en P (S "_law_found") 2369 (Value.ref 183)), (en P (S "_law_parted") 2380 (Value.ref 190)), (en P (S "_law_from_without") 2400 (Value.ref 197)), (en P (S "_law_from_within") 2413 (Value.ref 204)), (en P (S "_law_product") 2421 (Value.ref 211)), (en P (S "_law_square") 2430 (Value.ref 218)), (en P (S "law") 2436 (Value.ref 223))] 37), #[]⟩
noncomputable def o12v23 (P : Params) : Obj := ⟨Value.none, none, (Data.fields #[(Value.int 3 0), (Value.int 0 0), (Value.ref 31), (Value.int 6 0), (Value.int 0 0), (Value.ref 77), (Value.int 12 0), (Value.int 0 0), (Value.ref 84), (Value.int 14 0), (Value.int 0 0), (Value.ref 91), (Value.int 16 0), (Value.int 0 0), (Value.ref 98), (Value.int 18 0), (Value.int 0 0), (Value.ref 105), (Value.int 20 0), (Value.int 0 0), (Value.ref 112), (Value.int 25 0), (Value.int 0 0), (Value.ref 119), (Value.int 31 0), (Value.int 0 0), (Value.ref 126), (Value.int 41 0), (Value.int 0 0), (Value.ref 133), (Value.int 47 0), (Value.int 0 0), (Value.ref 140), (Value.int 86 0), (Value.int 0 0), (Value.ref 147), (Value.int 91 0), (Value.int 0 0), (Value.ref 154), (Value.int 95 0), (Value.int 0 0), (Value.ref 161), (Value.int 101 0), (Value.int 0 0), (Value.ref 168), (Value.int 112 0), (Value.int 0 0), (Value.ref 175), (Value.int 121 0), (Value.int 0 0), (Value.ref 182), (Value.int 126 0), (Value.int 0 0), (Value.ref 189), (Value.int 133 0), (Value.int 0 0), (Value.ref 196), (Value.int 153 0), (Value.int 0 0), (Value.ref 203), (Value.int 169 0), (Value.int 0 0), (Value.ref 210), (Value.int 171 0), (Value.int 0 0), (Value.ref 217), (Value.int 176 0), (Value.int 0 0), (Value.ref 222)]), #[]⟩
noncomputable def o219 (P : Params) : Obj := ⟨(Value.type "tuple"), none, (Data.seq #[] 0), #[]⟩
noncomputable def o220 (P : Params) : Obj := ⟨Value.none, none, (Data.fields #[]), #[]⟩
noncomputable def o221 (P : Params) : Obj := ⟨Value.none, none, (Data.func (fdC 31 (S "law"))), #[]⟩
noncomputable def o222 (P : Params) : Obj := ⟨(Value.type "code"), none, (Data.fields #[(Value.str (S "law") 2431), (Value.str (S "law") 2432), (Value.str (S "/claim/cut.py") 2433), (Value.int 176 0), (Value.int 1 0), (Value.int 0 0), (Value.int 0 0), (Value.int 3 0), (Value.ref 219), (Value.bool true), (Value.int 181 0), (Value.ref 220), Value.none, Value.none, Value.none, (Value.ref 221), (Value.int 2434 0), (Value.int 176 0), (Value.str (S "/claim/cut.py") 2435)]), #[]⟩
noncomputable def o223 (P : Params) : Obj := ⟨(Value.type "function"), none, (Data.func (fdF 31 (S "law") (Value.str (S "law_tl0038_01") 2314) (Value.ref 222))), #[]⟩
noncomputable def tr33 (P : Params) : BT := (.node (boot_o_0 P) (.node (boot_o_1 P) (.node (o3v32 P) (.node (boot_o_7 P) (.node (o15 P) (.node (o31 P) (.node (o63 P) (.node (o127 P) .nil .nil) (.node (o191 P) .nil .nil)) (.node (o95 P) (.node (o159 P) .nil .nil) (.node (o223 P) .nil .nil))) (.node (o47 P) (.node (o79 P) (.node (o143 P) .nil .nil) (.node (o207 P) .nil .nil)) (.node (o111 P) (.node (o175 P) .nil .nil) .nil))) (.node (o23 P) (.node (o39 P) (.node (o71 P) (.node (o135 P) .nil .nil) (.node (o199 P) .nil .nil)) (.node (o103 P) (.node (o167 P) .nil .nil) .nil)) (.node (o55 P) (.node (o87 P) (.node (o151 P) .nil .nil) (.node (o215 P) .nil .nil)) (.node (o119 P) (.node (o183 P) .nil .nil) .nil)))) (.node (o11 P) (.node (o19 P) (.node (o35 P) (.node (o67 P) (.node (o131 P) .nil .nil) (.node (o195 P) .nil .nil)) (.node (o99 P) (.node (o163 P) .nil .nil) .nil)) (.node (o51 P) (.node (o83 P) (.node (o147 P) .nil .nil) (.node (o211 P) .nil .nil)) (.node (o115 P) (.node (o179 P) .nil .nil) .nil))) (.node (o27 P) (.node (o43 P) (.node (o75 P) (.node (o139 P) .nil .nil) (.node (o203 P) .nil .nil)) (.node (o107 P) (.node (o171 P) .nil .nil) .nil)) (.node (o59 P) (.node (o91 P) (.node (o155 P) .nil .nil) (.node (o219 P) .nil .nil)) (.node (o123 P) (.node (o187 P) .nil .nil) .nil))))) (.node (boot_o_5 P) (.node (boot_o_9 P) (.node (o17 P) (.node (o33 P) (.node (o65 P) (.node (o129 P) .nil .nil) (.node (o193 P) .nil .nil)) (.node (o97 P) (.node (o161 P) .nil .nil) .nil)) (.node (o49 P) (.node (o81 P) (.node (o145 P) .nil .nil) (.node (o209 P) .nil .nil)) (.node (o113 P) (.node (o177 P) .nil .nil) .nil))) (.node (o25 P) (.node (o41 P) (.node (o73 P) (.node (o137 P) .nil .nil) (.node (o201 P) .nil .nil)) (.node (o105 P) (.node (o169 P) .nil .nil) .nil)) (.node (o57 P) (.node (o89 P) (.node (o153 P) .nil .nil) (.node (o217 P) .nil .nil)) (.node (o121 P) (.node (o185 P) .nil .nil) .nil)))) (.node (o13 P) (.node (o21 P) (.node (o37 P) (.node (o69 P) (.node (o133 P) .nil .nil) (.node (o197 P) .nil .nil)) (.node (o101 P) (.node (o165 P) .nil .nil) .nil)) (.node (o53 P) (.node (o85 P) (.node (o149 P) .nil .nil) (.node (o213 P) .nil .nil)) (.node (o117 P) (.node (o181 P) .nil .nil) .nil))) (.node (o29 P) (.node (o45 P) (.node (o77 P) (.node (o141 P) .nil .nil) (.node (o205 P) .nil .nil)) (.node (o109 P) (.node (o173 P) .nil .nil) .nil)) (.node (o61 P) (.node (o93 P) (.node (o157 P) .nil .nil) (.node (o221 P) .nil .nil)) (.node (o125 P) (.node (o189 P) .nil .nil) .nil)))))) (.node (boot_o_2 P) (.node (boot_o_4 P) (.node (boot_o_8 P) (.node (o16 P) (.node (o32 P) (.node (o64 P) (.node (o128 P) .nil .nil) (.node (o192 P) .nil .nil)) (.node (o96 P) (.node (o160 P) .nil .nil) .nil)) (.node (o48 P) (.node (o80 P) (.node (o144 P) .nil .nil) (.node (o208 P) .nil .nil)) (.node (o112 P) (.node (o176 P) .nil .nil) .nil))) (.node (o24 P) (.node (o40 P) (.node (o72 P) (.node (o136 P) .nil .nil) (.node (o200 P) .nil .nil)) (.node (o104 P) (.node (o168 P) .nil .nil) .nil)) (.node (o56 P) (.node (o88 P) (.node (o152 P) .nil .nil) (.node (o216 P) .nil .nil)) (.node (o120 P) (.node (o184 P) .nil .nil) .nil)))) (.node (o12v23 P) (.node (o20 P) (.node (o36 P) (.node (o68 P) (.node (o132 P) .nil .nil) (.node (o196 P) .nil .nil)) (.node (o100 P) (.node (o164 P) .nil .nil) .nil)) (.node (o52 P) (.node (o84 P) (.node (o148 P) .nil .nil) (.node (o212 P) .nil .nil)) (.node (o116 P) (.node (o180 P) .nil .nil) .nil))) (.node (o28 P) (.node (o44 P) (.node (o76 P) (.node (o140 P) .nil .nil) (.node (o204 P) .nil .nil)) (.node (o108 P) (.node (o172 P) .nil .nil) .nil)) (.node (o60 P) (.node (o92 P) (.node (o156 P) .nil .nil) (.node (o220 P) .nil .nil)) (.node (o124 P) (.node (o188 P) .nil .nil) .nil))))) (.node (boot_o_6 P) (.node (boot_o_10 P) (.node (o18 P) (.node (o34 P) (.node (o66 P) (.node (o130 P) .nil .nil) (.node (o194 P) .nil .nil)) (.node (o98 P) (.node (o162 P) .nil .nil) .nil)) (.node (o50 P) (.node (o82 P) (.node (o146 P) .nil .nil) (.node (o210 P) .nil .nil)) (.node (o114 P) (.node (o178 P) .nil .nil) .nil))) (.node (o26 P) (.node (o42 P) (.node (o74 P) (.node (o138 P) .nil .nil) (.node (o202 P) .nil .nil)) (.node (o106 P) (.node (o170 P) .nil .nil) .nil)) (.node (o58 P) (.node (o90 P) (.node (o154 P) .nil .nil) (.node (o218 P) .nil .nil)) (.node (o122 P) (.node (o186 P) .nil .nil) .nil)))) (.node (o14 P) (.node (o22 P) (.node (o38 P) (.node (o70 P) (.node (o134 P) .nil .nil) (.node (o198 P) .nil .nil)) (.node (o102 P) (.node (o166 P) .nil .nil) .nil)) (.node (o54 P) (.node (o86 P) (.node (o150 P) .nil .nil) (.node (o214 P) .nil .nil)) (.node (o118 P) (.node (o182 P) .nil .nil) .nil))) (.node (o30 P) (.node (o46 P) (.node (o78 P) (.node (o142 P) .nil .nil) (.node (o206 P) .nil .nil)) (.node (o110 P) (.node (o174 P) .nil .nil) .nil)) (.node (o62 P) (.node (o94 P) (.node (o158 P) .nil .nil) (.node (o222 P) .nil .nil)) (.node (o126 P) (.node (o190 P) .nil .nil) .nil)))))))
noncomputable def st33 (w : World) (os : OsState) : SharedT := ⟨tr33 w.params, 224, lf, gs, dr, 2437, os⟩
noncomputable def tr4b (P : Params) : BT := (.node (boot_o_0 P) (.node (boot_o_1 P) (.node (o3v3 P) (.node (boot_o_7 P) (.node (o15 P) (.node (o31 P) (.node (o63 P) .nil .nil) .nil) (.node (o47 P) .nil .nil)) (.node (o23 P) (.node (o39 P) (.node (o71 P) .nil .nil) .nil) (.node (o55 P) .nil .nil))) (.node (o11 P) (.node (o19 P) (.node (o35 P) (.node (o67 P) .nil .nil) .nil) (.node (o51 P) .nil .nil)) (.node (o27 P) (.node (o43 P) .nil .nil) (.node (o59 P) .nil .nil)))) (.node (boot_o_5 P) (.node (boot_o_9 P) (.node (o17 P) (.node (o33 P) (.node (o65 P) .nil .nil) .nil) (.node (o49 P) .nil .nil)) (.node (o25 P) (.node (o41 P) .nil .nil) (.node (o57 P) .nil .nil))) (.node (o13 P) (.node (o21 P) (.node (o37 P) (.node (o69 P) .nil .nil) .nil) (.node (o53 P) .nil .nil)) (.node (o29 P) (.node (o45 P) .nil .nil) (.node (o61 P) .nil .nil))))) (.node (boot_o_2 P) (.node (boot_o_4 P) (.node (boot_o_8 P) (.node (o16 P) (.node (o32 P) (.node (o64 P) .nil .nil) .nil) (.node (o48 P) .nil .nil)) (.node (o24 P) (.node (o40 P) .nil .nil) (.node (o56 P) .nil .nil))) (.node (o12v1 P) (.node (o20 P) (.node (o36 P) (.node (o68 P) .nil .nil) .nil) (.node (o52 P) .nil .nil)) (.node (o28 P) (.node (o44 P) .nil .nil) (.node (o60 P) .nil .nil)))) (.node (boot_o_6 P) (.node (boot_o_10 P) (.node (o18 P) (.node (o34 P) (.node (o66 P) .nil .nil) .nil) (.node (o50 P) .nil .nil)) (.node (o26 P) (.node (o42 P) .nil .nil) (.node (o58 P) .nil .nil))) (.node (o14 P) (.node (o22 P) (.node (o38 P) (.node (o70 P) .nil .nil) .nil) (.node (o54 P) .nil .nil)) (.node (o30 P) (.node (o46 P) .nil .nil) (.node (o62 P) .nil .nil))))))
noncomputable def st4b (w : World) (os : OsState) : SharedT := ⟨tr4b w.params, 72, lf, gs, dr, 2206, os⟩
noncomputable def envT : Env := { scope := pw.main.scope, locals := mainNs, globals := mainNs, cells := [], code := .ref 13, frame := some 14 }
noncomputable abbrev cdT : Code := Code.body (behindTheImports pw) envT
noncomputable abbrev pos0 : Pos := ⟨0, 0, 0, 0⟩
end
end Mine
end
section
open PySem PySem.W PyProof.Rows
namespace Mine
section
variable {w : World}
noncomputable abbrev G (w : World) (n : Nat) (s : Shared) (t : Thread) : Option (Shared × Thread) := segGo treeTable pw w 11 (some (.ref 6)) 1 n s t
theorem G_trans : ∀ {n m : Nat} {s s' : Shared} {t t' : Thread} {r : Option (Shared × Thread)}, G w n s t = some (s', t') → G w m s' t' = r → G w (n + m) s t = r
  | 0, m, s, s', t, t', r, h, k => by
    obtain ⟨rfl, rfl⟩ : s = s' ∧ t = t' := by simpa [G, segGo] using h
    rw [Nat.zero_add]; exact k
  | n + 1, m, s, s', t, t', r, h, k => by
    rw [show n + 1 + m = n + m + 1 by omega]
    unfold G segGo at h ⊢
    cases he : endAt 1 t with
    | some f => rw [he] at h; cases h
    | none =>
      rw [he] at h
      cases hk : stepOk 11 (some (.ref 6)) t with
      | false => rw [hk] at h; cases h
      | true =>
        rw [hk] at h
        cases hs : step (denote treeTable) pw w s t with
        | halt o s₂ => rw [hs] at h; cases h
        | go s₂ t₂ => rw [hs] at h; exact G_trans h k
theorem G_one {s s' : Shared} {t t' : Thread} (h1 : endAt 1 t = none) (h2 : stepOk 11 (some (.ref 6)) t = true) (h3 : step (denote treeTable) pw w s t = .go s' t') : G w 1 s t = some (s', t') := by
  unfold G segGo
  rw [h1, h2, h3]
  rfl
/-- a run of the tree, whatever stands around it -/
noncomputable def Ex {α : Type} (w : World) (b : Nat) (m : Sem α) (s : Shared) (a : α) (s' : Shared) : Prop :=
  ∀ (K : α → Sem Fin) (H : Value → Sem Fin) (gd : Bool → Bool) (lv : List Value → List Value) (c : Code) (pos : Pos) (f : Frame) (B : List Frame),
    ∃ n pos', n ≤ b ∧ G w n s ⟨m.wrap K H gd lv, c, pos, f :: B⟩ = some (s', ⟨K a, c, pos', f :: B⟩)
variable {α β : Type} {s s' s₁ s₂ : Shared}
theorem ex_pure {b : Nat} {a : α} : Ex w b (pure a) s a s := fun K H gd lv c pos f' B => ⟨0, pos, Nat.zero_le _, rfl⟩
theorem ex_le {b b' : Nat} {m : Sem α} {a : α} (h : Ex w b m s a s₁) (hb : b ≤ b') : Ex w b' m s a s₁ := fun K H gd lv c pos f' B =>
  let ⟨n, p, hn, e⟩ := h K H gd lv c pos f' B; ⟨n, p, Nat.le_trans hn hb, e⟩
theorem ex_bind {b1 n0 : Nat} {m : Sem α} {f : α → Sem β} {a : α} {b : β} (h : Ex w b1 m s a s₁) (k : Ex w (n0 - b1) (f a) s₁ b s₂) (hb : b1 ≤ n0 := by omega) : Ex w n0 (m >>= f) s b s₂ := by
  intro K H gd lv c pos f' B
  rw [Sem.bind_eq_wrap', Sem.wrap_wrap]
  obtain ⟨n, p1, n1, e1⟩ := h (fun a => (f a).wrap K H gd lv) (fun e => (Sem.raise e : Sem β).wrap K H gd lv) gd lv c pos f' B
  obtain ⟨m, p2, n2, e2⟩ := k K H gd lv c p1 f' B
  exact ⟨n + m, p2, by omega, G_trans e1 e2⟩
theorem ex_keep {b : Nat} {m : Sem α} {a : α} {vs : List Value} (h : Ex w b m s a s₁) : Ex w b (m.keep vs) s a s₁ := by
  intro K H gd lv c pos f' B
  rw [Sem.keep_eq_wrap, Sem.wrap_wrap]
  exact h _ _ _ _ c pos f' B
theorem ex_holding {b : Nat} {m : Sem α} {a : α} {vs : List Value} (h : Ex w b m s a s₁) : Ex w b (holding vs m) s a s₁ := by
  unfold holding
  split
  · exact h
  · exact ex_keep h
theorem ex_onRaise {b : Nat} {m : Sem α} {a : α} {k : Value → Sem Unit} (h : Ex w b m s a s₁) : Ex w b (m.onRaise k) s a s₁ := by
  intro K H gd lv c pos f' B
  rw [Sem.onRaise_eq_wrap, Sem.wrap_wrap]
  exact h _ _ _ _ c pos f' B
theorem ex_tryCatch {b : Nat} {m : Sem α} {a : α} {k : Value → Sem α} (h : Ex w b m s a s₁) : Ex w b (m.tryCatch k) s a s₁ := by
  intro K H gd lv c pos f' B
  rw [Sem.tryCatch_eq_wrap, Sem.wrap_wrap]
  exact h _ _ _ _ c pos f' B
theorem ex_rule {t : String} : Ex w 1 (rule t) s () s := fun K H gd lv c pos f' B => ⟨1, pos, Nat.le_refl _, G_one (by unfold endAt; generalize (List.length _ == 1) = z; cases z <;> rfl) rfl rfl⟩
theorem ex_standAt {p : Pos} : Ex w 1 (standAt p) s () s := fun K H gd lv c pos f' B => ⟨1, p, Nat.le_refl _, G_one (by unfold endAt; generalize (List.length _ == 1) = z; cases z <;> rfl) rfl rfl⟩
theorem ex_point : Ex w 1 point s () s := fun K H gd lv c pos f' B => ⟨1, pos, Nat.le_refl _, G_one (by unfold endAt; generalize (List.length _ == 1) = z; cases z <;> rfl) rfl rfl⟩
theorem ex_ask : Ex w 1 ask s ⟨pw, w.params⟩ s := fun K H gd lv c pos f' B => ⟨1, pos, Nat.le_refl _, G_one (by unfold endAt; generalize (List.length _ == 1) = z; cases z <;> rfl) rfl rfl⟩
theorem ex_fresh : Ex w 1 fresh s s.toks { s with toks := s.toks + 1 } := fun K H gd lv c pos f' B => ⟨1, pos, Nat.le_refl _, G_one (by unfold endAt; generalize (List.length _ == 1) = z; cases z <;> rfl) rfl rfl⟩
theorem ex_alloc {o : Obj} : Ex w 1 (alloc o) s s.heap.objs.size { s with heap := s.heap.push o } := fun K H gd lv c pos f' B => ⟨1, pos, Nat.le_refl _, G_one (by unfold endAt; generalize (List.length _ == 1) = z; cases z <;> rfl) rfl rfl⟩
theorem ex_loadPart {a : Addr} {part : Option Value} {o : Obj} (ho : s.heap.get? a = some o) : Ex w 1 (loadPart a part) s o s := fun K H gd lv c pos f' B =>
  ⟨1, pos, Nat.le_refl _, G_one (by unfold endAt; generalize (List.length _ == 1) = z; cases z <;> rfl) rfl (by simp only [loadPart, Sem.wrap, step]; rw [ho])⟩
theorem ex_load {a : Addr} {o : Obj} (ho : s.heap.get? a = some o) : Ex w 1 (load a) s o s := ex_loadPart ho
theorem ex_updatePart {a : Addr} {part : Option Value} {f : Obj → Obj} {o : Obj} (ho : s.heap.get? a = some o) (ha : 11 ≤ a) : Ex w 1 (updatePart a part f) s () { s with heap := s.heap.update a f } := fun K H gd lv c pos f' B =>
  ⟨1, pos, Nat.le_refl _, G_one (by unfold endAt; generalize (List.length _ == 1) = z; cases z <;> rfl) (by simp [stepOk, Thread.calm, Thread.atCollectorCode, Thread.yieldsInsideHandler, updatePart, Sem.wrap, ha]) (by simp only [updatePart, Sem.wrap, step]; rw [ho]; rfl)⟩
theorem ex_forIn_nil {n0 : Nat} {γ : Type} {f : γ → β → Sem (ForInStep β)} {b : β} : Ex w n0 (forIn ([] : List γ) b f) s b s := ex_pure
theorem ex_forIn_cons {b1 n0 : Nat} {γ : Type} {f : γ → β → Sem (ForInStep β)} {x : γ} {l : List γ} {b b' b'' : β} (h : Ex w b1 (f x b) s (.yield b') s₁) (k : Ex w (n0 - b1) (forIn l b' f) s₁ b'' s₂) (hb : b1 ≤ n0 := by omega) : Ex w n0 (forIn (x :: l) b f) s b'' s₂ := by
  rw [List.forIn_cons]
  exact ex_bind h k hb
end
end Mine
end
section
open PySem PySem.W PyProof.Rows
namespace Mine
section
variable {w : World} {α β : Type} {s s' s₁ s₂ : Shared}
theorem den_call (i : Int) (t : Tok) : denote treeTable (.call (.builtin "int.__hash__") ⟨[.int i t], []⟩) = pure (.again (.builtin "int.__hash__" ⟨[.int i t], []⟩)) := by kernel_rfl
noncomputable def hashVal (x : Int) : Int := let h : Int := x.natAbs % (2 ^ 61 - 1 : Nat); let h := if x < 0 then -h else h; if h == -1 then -2 else h
theorem den_hash (i : Int) (t : Tok) : denote treeTable (.builtin "int.__hash__" ⟨[.int i t], []⟩) = Sem.fresh fun u => .pure (.done (.ret (.int (hashVal i) u))) := by kernel_rfl
theorem ex_callHash {i : Int} {t : Tok} : Ex w 4 (call (.builtin "int.__hash__") [.int i t]) s (.int (hashVal i) s.toks) { s with toks := s.toks + 1 } := by
  intro K H gd lv c pos f' B
  obtain ⟨heap, gens, drawn, toks, os⟩ := s
  have e1 : step (denote treeTable) pw w ⟨heap, gens, drawn, toks, os⟩ ⟨(call (.builtin "int.__hash__") [.int i t]).wrap K H gd lv, c, pos, f' :: B⟩ =
    .go ⟨heap, gens, drawn, toks, os⟩ ⟨denote treeTable (.call (.builtin "int.__hash__") ⟨[.int i t], []⟩), .call (.builtin "int.__hash__") ⟨[.int i t], []⟩, pos, .ret _ _ _ _ c pos _ :: f' :: B⟩ := rfl
  rw [den_call] at e1
  have h1 := G_one (by unfold endAt; generalize (List.length _ == 1) = z; cases z <;> rfl) rfl e1
  have e2 := @step_again (denote treeTable) pw w heap gens drawn toks os (.builtin "int.__hash__" ⟨[.int i t], []⟩) (.call (.builtin "int.__hash__") ⟨[.int i t], []⟩) pos
  rw [den_hash] at e2
  have h2 := G_trans h1 (G_one (by unfold endAt; generalize (List.length _ == 1) = z; cases z <;> rfl) (by simp [stepOk, Thread.calm, Thread.atCollectorCode, Thread.yieldsInsideHandler, pure]) e2)
  have h3 := G_trans h2 (G_one (by unfold endAt; generalize (List.length _ == 1) = z; cases z <;> rfl) (by simp [stepOk, Thread.calm, Thread.atCollectorCode, Thread.yieldsInsideHandler]) rfl)
  have h4 := G_trans h3 (G_one (by (unfold endAt; generalize hz : (List.length _ == 1) = z; cases z with | false => rfl | true => simp at hz)) (by simp [stepOk, Thread.calm, Thread.atCollectorCode, Thread.yieldsInsideHandler]) rfl)
  exact ⟨_, _, Nat.le_refl _, h4⟩
theorem hashVal_small {i : Int} (h0 : 0 ≤ i) (h1 : i < 2 ^ 61 - 1) : hashVal i = i := by
  obtain ⟨n, rfl⟩ := Int.eq_ofNat_of_zero_le h0
  have e : n % (2 ^ 61 - 1) = n := Nat.mod_eq_of_lt (by omega)
  have e2 : (((n : Int).natAbs : Int) % ((2 ^ 61 - 1 : Nat) : Int)) = n := by
    rw [Int.natAbs_natCast, ← Int.natCast_emod, e]
  unfold hashVal
  dsimp only
  rw [e2, if_neg (Int.not_lt.mpr h0)]
  exact if_neg (by simp)
theorem spec_int (i : Int) (t : Tok) : specialOf (.int i t) "__hash__" = (pure (some (.builtin "int.__hash__")) : Sem _) := by kernel_rfl
theorem bind_int (i : Int) (t : Tok) : bindSpecial (.builtin "int.__hash__") (.int i t) = (pure (.builtin "int.__hash__", [.int i t]) : Sem _) := by kernel_rfl
theorem ex_bindHash {i : Int} {t : Tok} : Ex w 1 (bindSpecialIfBound? (.int i t) "__hash__") s (some (.builtin "int.__hash__", [.int i t])) s := by
  unfold bindSpecialIfBound?
  rw [spec_int]
  refine ex_bind (b1 := 0) ex_pure ?_
  simp only [bind_int]
  refine ex_bind ex_ask ?_
  split
  · exact ex_bind (b1 := 0) ex_pure ex_pure
  · exact ex_tryCatch (ex_bind (b1 := 0) ex_pure ex_pure)
theorem ex_pyHash {i : Int} {t : Tok} (h0 : 0 ≤ i) (h1 : i < 2 ^ 61 - 1) : Ex w 5 (pyHash (.int i t)) s i { s with toks := s.toks + 1 } := by
  show Ex w 5 (pyHashByItsType (.int i t)) s i _
  unfold pyHashByItsType
  refine ex_bind (b1 := 0) (a := ()) (s₁ := s) (by exact ex_pure) ?_
  rw [spec_int]
  refine ex_bind (b1 := 0) ex_pure ?_
  rw [if_neg (by decide)]
  refine ex_bind (b1 := 0) ex_pure ?_
  rw [if_neg (by decide)]
  refine ex_bind (b1 := 5) (a := some (.int (hashVal i) s.toks)) (s₁ := { s with toks := s.toks + 1 }) ?_ ?_
  · unfold callSpecialIfBoundUnlessNone?
    refine ex_holding (ex_bind ex_bindHash ?_)
    dsimp only
    rw [if_neg (by decide)]
    exact ex_bind ex_callHash ex_pure
  · rw [hashVal_small h0 h1]
    dsimp only
    unfold pyHashByItsType.reduced
    rw [if_pos (by simp; omega), if_neg (by simp; omega)]
    exact ex_pure
end
end Mine
end
section
open PySem PySem.W PyProof.Rows
namespace Mine
section
variable {w : World} {α β : Type} {s s' s₁ s₂ : Shared}
theorem get_update {h : Heap} {d : Addr} {o : Obj} (f : Obj → Obj) (hd : h.get? d = some o) (hf : ∀ c x y, f o ≠ ⟨c, x, .freed, y⟩) : (h.update d f).get? d = some (f o) := by
  obtain ⟨objs, l⟩ := h
  have h1 : objs[d]? = some o := by
    unfold Heap.get? at hd
    dsimp only at hd
    split at hd
    · cases hd
    · exact hd
  unfold Heap.update Heap.get?
  dsimp only
  have h2 : (objs.modify d f)[d]? = some (f o) := by
    rw [Array.getElem?_modify]
    simp [h1]
  rw [h2]
  split
  · rename_i c x y e
    exact absurd (Option.some.inj e) (hf _ _ _)
  · rfl
theorem ex_dictEntries {d : Addr} {es : List DictEntry} {n : Nat} {part : Option Value} (hd : s.heap.get? d = some (dO es n)) : Ex w 1 (dictEntries d part) s es.toArray s := by
  unfold dictEntries
  exact ex_bind (ex_loadPart hd) ex_pure
theorem ex_dictEpoch {d : Addr} {es : List DictEntry} {n : Nat} {part : Option Value} (hd : s.heap.get? d = some (dO es n)) : Ex w 1 (dictEpoch d part) s n s := by
  unfold dictEpoch
  exact ex_bind (ex_loadPart hd) ex_pure
theorem places_none {es : List DictEntry} {h : Int} (hn : ∀ e ∈ es, e.hash ≠ h) : placesWithHash es.toArray.size (fun i => es.toArray[i]?.map (·.hash)) h = [] := by
  unfold placesWithHash
  rw [List.filter_eq_nil_iff]
  intro i hi
  simp only [List.getElem?_toArray, beq_iff_eq]
  intro e
  obtain ⟨x, hx, hh⟩ := Option.map_eq_some_iff.mp e
  exact hn x (List.mem_of_getElem? hx) hh
theorem ex_dictFind {d : Addr} {es : List DictEntry} {n : Nat} {i : Int} {t : Tok} (hd : s.heap.get? d = some (dO es n)) (hn : ∀ e ∈ es, e.hash ≠ i) : Ex w 1 (dictFind d (.int i t) i) s none s := by
  unfold dictFind
  refine ex_holding (ex_bind (ex_dictEntries hd) ?_)
  dsimp only
  rw [places_none hn]
  rw [if_pos (by rfl)]
  exact ex_bind (b1 := 0) ex_pure ex_pure
theorem ex_updateKeys {d : Addr} {es : List DictEntry} {n : Nat} {e : DictEntry} {part : Option Value} (hd : s.heap.get? d = some (dO es n)) (h11 : 11 ≤ d) (hz : es.length < 2 ^ 20) :
    Ex w 3 (updateDictKeys d (·.push e) part) s () { s with heap := s.heap.update d (Obj.mapDictKeys (·.push e)) } := by
  unfold updateDictKeys
  refine ex_bind (ex_loadPart hd) ?_
  dsimp only
  refine ex_bind (ex_updatePart hd h11) ?_
  unfold lookBehind
  refine ex_bind (ex_loadPart (o := Obj.mapDictKeys (·.push e) (dO es n)) (get_update _ hd (fun _ _ _ q => nomatch congrArg Obj.data q))) ?_
  have : (Obj.mapDictKeys (·.push e) (dO es n)).data.pastItsLine = none := by
    refine if_neg (?_ : ¬ (es.toArray.push e).size > sizeLine + 1)
    rw [sizeLine_eq, Array.size_push, List.size_toArray]; omega
  rw [this]
  exact ex_pure
theorem ex_dictSet {d : Addr} {es : List DictEntry} {n : Nat} {i : Int} {t : Tok} {v : Value} (hd : s.heap.get? d = some (dO es n)) (h11 : 11 ≤ d) (hz : es.length < 2 ^ 20) (hn : ∀ e ∈ es, e.hash ≠ i) (h0 : 0 ≤ i) (h1 : i < 2 ^ 61 - 1) :
    Ex w 10 (dictSet d (.int i t) v) s () { s with heap := s.heap.update d (Obj.mapDictKeys (·.push ⟨i, .int i t, v⟩)), toks := s.toks + 1 } := by
  unfold dictSet
  refine ex_holding (ex_bind (ex_pyHash h0 h1) ?_)
  unfold dictSetHashed
  refine ex_holding (ex_bind (ex_dictFind (s := { s with toks := s.toks + 1 }) hd hn) ?_)
  dsimp only
  exact ex_bind ex_rule (ex_updateKeys (s := { s with toks := s.toks + 1 }) hd h11 hz)
theorem ex_dictPut {d : Addr} {es : List DictEntry} {n : Nat} {i : Int} {t : Tok} {v : Value} (hd : s.heap.get? d = some (dO es n)) (h11 : 11 ≤ d) (hz : es.length < 2 ^ 20) (hn : ∀ e ∈ es, e.hash ≠ i) :
    Ex w 4 (dictPut d i (.int i t) v) s () { s with heap := s.heap.update d (Obj.mapDictKeys (·.push ⟨i, .int i t, v⟩)) } := by
  unfold dictPut
  refine ex_bind (ex_dictFind hd hn) ?_
  dsimp only
  exact ex_updateKeys hd h11 hz
end
end Mine
end
section
open PySem PySem.W PyProof.Rows
namespace Mine
section
variable {w : World} {α β : Type} {s s' s₁ s₂ : Shared}
theorem entsFrom_hash {t : Nat} : ∀ {l : List (Int × Str)} {e : DictEntry}, e ∈ entsFrom t l → e.hash ∈ l.map (·.1)
  | [], _, h => absurd h List.not_mem_nil
  | (i, x) :: r, e, h => by
    rcases List.mem_cons.mp h with rfl | h
    · exact .head _
    · exact .tail _ (entsFrom_hash h)
noncomputable def Gives (w : World) (p : Sem Value × Sem Value) (d : Int × Str) : Prop :=
  (∀ s, Ex w 1 p.1 s (.int d.1 s.toks) { s with toks := s.toks + 1 }) ∧ ∀ s, Ex w 2 p.2 s (.str d.2 s.toks) { s with toks := s.toks + 1 }
inductive F2 {γ δ : Type} (R : γ → δ → Prop) : List γ → List δ → Prop
  | nil : F2 R [] []
  | cons {a b l m} : R a b → F2 R l m → F2 R (a :: l) (b :: m)
noncomputable def Ok1 (i : Int) : Prop := 0 ≤ i ∧ i < 2 ^ 61 - 1
theorem push_size (h : Heap) (o : Obj) : (h.push o).objs.size = h.objs.size + 1 := by cases h; simp [Heap.push]
theorem update_push (h : Heap) (o : Obj) (f : Obj → Obj) : (h.push o).update h.objs.size f = h.push (f o) := by
  obtain ⟨objs, l⟩ := h
  simp only [Heap.push, Heap.update, Heap.mk.injEq, and_true]
  apply Array.ext_getElem?
  intro i
  rw [Array.getElem?_modify, Array.getElem?_push, Array.getElem?_push]
  split
  · rename_i e; subst e; simp
  · rename_i e; simp [Ne.symm e]
theorem get_push (h : Heap) (es : List DictEntry) (n : Nat) : (h.push (dO es n)).get? h.objs.size = some (dO es n) := Heap.get?_push_size _ rfl
theorem ex_subStep {h : Heap} {p : Sem Value × Sem Value} {i : Int} {x : Str} {es : List DictEntry} {n : Nat} (hp : Gives w p (i, x)) (hi : Ok1 i) (hfr : ∀ e ∈ es, e.hash ≠ i) (hz : es.length < 2 ^ 20) (h11 : 11 ≤ h.objs.size) (hh : s.heap = h.push (dO es n)) :
    Ex w 13 (do let kv ← p.1; let vv ← holding [kv] p.2; holding [kv, vv] (dictSet h.objs.size kv vv); pure (ForInStep.yield PUnit.unit)) s (ForInStep.yield PUnit.unit) { s with heap := h.push (dO (es ++ [⟨i, .int i s.toks, .str x (s.toks + 1)⟩]) (n + 1)), toks := s.toks + 3 } := by
  have hd : s.heap.get? h.objs.size = some (dO es n) := by rw [hh]; exact get_push _ _ _
  have e1 := ex_dictSet (w := w) (s := { s with toks := s.toks + 1 + 1 }) (i := i) (t := s.toks) (v := .str x (s.toks + 1)) hd h11 hz hfr hi.1 hi.2
  refine ex_bind (hp.1 s) (ex_bind (ex_holding (hp.2 _)) (ex_bind (ex_holding e1) ?_))
  have : ({ s with heap := s.heap.update h.objs.size (Obj.mapDictKeys (·.push ⟨i, .int i s.toks, .str x (s.toks + 1)⟩)), toks := s.toks + 1 + 1 + 1 } : Shared) = { s with heap := h.push (dO (es ++ [⟨i, .int i s.toks, .str x (s.toks + 1)⟩]) (n + 1)), toks := s.toks + 3 } := by
    rw [hh, update_push]; simp [Obj.mapDictKeys, dO]
  dsimp only
  rw [this]
  exact ex_pure
theorem ex_subLoop {h : Heap} {f : (Sem Value × Sem Value) → PUnit → Sem (ForInStep PUnit)}
    (hf : ∀ x r, f x r = (do let kv ← x.1; let vv ← holding [kv] x.2; holding [kv, vv] (dictSet h.objs.size kv vv); pure (ForInStep.yield PUnit.unit))) (h11 : 11 ≤ h.objs.size)
    {ps : List (Sem Value × Sem Value)} {l : List (Int × Str)} (hp : F2 (Gives w) ps l) : ∀ (es : List DictEntry) (n : Nat) (s : Shared), (∀ d ∈ l, Ok1 d.1) → (l.map (·.1)).Nodup → (∀ e ∈ es, e.hash ∉ l.map (·.1)) → es.length + l.length < 2 ^ 20 → s.heap = h.push (dO es n) →
    Ex w (13 * l.length) (forIn ps PUnit.unit f) s PUnit.unit { s with heap := h.push (dO (es ++ entsFrom s.toks l) (n + l.length)), toks := s.toks + 3 * l.length } := by
  induction hp with
  | nil =>
    intro es n s _ _ _ _ hh
    have : ({ s with heap := h.push (dO (es ++ entsFrom s.toks []) (n + 0)), toks := s.toks + 3 * 0 } : Shared) = s := by
      cases s; dsimp only at hh; subst hh; simp [entsFrom]
    simp only [List.length_nil]
    rw [this]
    exact ex_forIn_nil
  | @cons p d ps l hp hps ih =>
    intro es n s hok hnd hne hz hh
    obtain ⟨i, x⟩ := d
    simp only [List.map_cons, List.nodup_cons] at hnd
    simp only [List.length_cons] at hz
    refine ex_forIn_cons (b1 := 13) (n0 := 13 * (l.length + 1)) (s₁ := { s with heap := h.push (dO (es ++ [⟨i, .int i s.toks, .str x (s.toks + 1)⟩]) (n + 1)), toks := s.toks + 3 }) (b' := PUnit.unit) ?_ ?_
    · rw [hf]
      exact ex_subStep hp (hok (i, x) (.head _)) (fun e he q => hne e he (by rw [q]; exact .head _)) (by omega) h11 hh
    · have ih' := ih (es ++ [⟨i, .int i s.toks, .str x (s.toks + 1)⟩]) (n + 1) { s with heap := h.push (dO (es ++ [⟨i, .int i s.toks, .str x (s.toks + 1)⟩]) (n + 1)), toks := s.toks + 3 } (fun d hd => hok d (.tail _ hd)) hnd.2 (by
        intro e he
        rcases List.mem_append.mp he with he | he
        · exact fun q => hne e he (.tail _ q)
        · rw [List.mem_singleton.mp he]; exact hnd.1) (by rw [List.length_append, List.length_singleton]; omega) rfl
      have : ({ s with heap := h.push (dO (es ++ entsFrom s.toks ((i, x) :: l)) (n + (l.length + 1))), toks := s.toks + 3 * (l.length + 1) } : Shared) =
          { s with heap := h.push (dO ((es ++ [⟨i, .int i s.toks, .str x (s.toks + 1)⟩]) ++ entsFrom (s.toks + 3) l) (n + 1 + l.length)), toks := s.toks + 3 + 3 * l.length } := by
        simp only [entsFrom, List.append_assoc, List.singleton_append]
        rw [show n + (l.length + 1) = n + 1 + l.length by omega, show s.toks + 3 * (l.length + 1) = s.toks + 3 + 3 * l.length by omega]
      simp only [List.length_cons]
      rw [this]
      exact ex_le ih' (by omega)
theorem ex_subDict {ps : List (Sem Value × Sem Value)} {l : List (Int × Str)} (hp : F2 (Gives w) ps l) (hok : ∀ d ∈ l, Ok1 d.1) (hnd : (l.map (·.1)).Nodup) (hz : l.length < 2 ^ 20) (h11 : 11 ≤ s.heap.objs.size) (hl : 15 < ps.length) :
    Ex w (13 * l.length + 2) (subDict ps) s s.heap.objs.size { s with heap := s.heap.push (dO (entsFrom s.toks l) l.length), toks := s.toks + 3 * l.length } := by
  unfold subDict
  refine ex_bind ex_alloc ?_
  refine ex_bind (b1 := 13 * l.length + 1) (a := ()) (s₁ := { s with heap := s.heap.push (dO (entsFrom s.toks l) l.length), toks := s.toks + 3 * l.length }) (ex_holding ?_) ex_pure
  rw [if_neg (by omega)]
  refine ex_bind ex_rule (ex_bind (b1 := 13 * l.length) (a := PUnit.unit) (s₁ := { s with heap := s.heap.push (dO (entsFrom s.toks l) l.length), toks := s.toks + 3 * l.length }) ?_ ex_pure)
  have := ex_subLoop (w := w) (h := s.heap) (f := fun x r => (do let kv ← x.1; let vv ← holding [kv] x.2; holding [kv, vv] (dictSet s.heap.objs.size kv vv); pure (ForInStep.yield PUnit.unit))) (fun _ _ => rfl) h11 hp [] 0 { s with heap := s.heap.push (dO [] 0) } hok hnd (fun _ h => nomatch h) (by simpa using hz) rfl
  simp only [List.nil_append, Nat.zero_add] at this
  exact this
end
end Mine
end
section
open PySem PySem.W PyProof.Rows
namespace Mine
section
variable {w : World} {α β : Type} {s s' s₁ s₂ : Shared}
/-- a dict of the display's own, written before its last one -/
noncomputable def Hp (base : List Obj) (lf : Life) (m : Obj) (subs : List Obj) : Heap := ⟨(base ++ m :: subs).toArray, lf⟩
section
variable {base subs : List Obj} {lf : Life} {m o : Obj}
theorem Hp_push : (Hp base lf m subs).push o = Hp base lf m (subs ++ [o]) := by simp [Hp, Heap.push]
theorem Hp_size : (Hp base lf m subs).objs.size = base.length + 1 + subs.length := by simp [Hp]; omega
theorem Hp_update (f : Obj → Obj) : (Hp base lf m subs).update base.length f = Hp base lf (f m) subs := by
  simp only [Hp, Heap.update, Heap.mk.injEq, and_true]
  apply Array.ext_getElem?
  intro i
  rw [Array.getElem?_modify]
  simp only [List.getElem?_toArray]
  by_cases e : base.length = i
  · subst e; simp
  · rw [if_neg e]
    by_cases q : i < base.length
    · rw [List.getElem?_append_left q, List.getElem?_append_left q]
    · rw [List.getElem?_append_right (by omega), List.getElem?_append_right (by omega)]
      obtain ⟨k, hk⟩ : ∃ k, i - base.length = k + 1 := ⟨i - base.length - 1, by omega⟩
      rw [hk]; rfl
theorem Hp_get {es : List DictEntry} {n : Nat} : (Hp base lf (dO es n) subs).get? base.length = some (dO es n) := by
  unfold Heap.get? Hp
  simp
theorem Hp_last {es : List DictEntry} {n : Nat} : (Hp base lf m (subs ++ [dO es n])).get? (base.length + 1 + subs.length) = some (dO es n) := by
  rw [← Hp_push, ← Hp_size (m := m) (lf := lf)]
  exact get_push _ _ _
end
theorem sub_dict : isSubtype (.type "dict") (.type "dict") = (pure true : Sem _) := by kernel_rfl
theorem iter_dict : typeLookup (.type "dict") "__iter__" = (pure (some (.builtin "dict.__iter__")) : Sem _) := by kernel_rfl
theorem ex_typeOf {a : Addr} {o : Obj} (ho : s.heap.get? a = some o) : Ex w 1 (typeOf (.ref a)) s o.cls s := ex_bind (ex_loadPart ho) ex_pure
theorem ex_mergeStep {base subs : List Obj} {lf : Life} {l1 l2 esM : List DictEntry} {e : DictEntry} {i : Int} {t : Tok} {nM n : Nat} (hs : s.heap = Hp base lf (dO (esM ++ l1) (nM + l1.length)) (subs ++ [dO (l1 ++ e :: l2) n])) (hk : e.key = .int i t) (hh : e.hash = i)
    (hn : ∀ x ∈ esM ++ l1, x.hash ≠ i) (hz : (esM ++ l1).length < 2 ^ 20) (h11 : 11 ≤ base.length) {u : Sem PUnit} :
    Ex w 6 (do
      let x ← dictEntries (base.length + 1 + subs.length)
      match x[l1.length]? with
        | some e => do
          holding [e.key, e.val] (dictPut base.length e.hash e.key e.val)
          if (← dictEpoch (base.length + 1 + subs.length)) != n then do u; pure (ForInStep.yield PUnit.unit) else pure (ForInStep.yield PUnit.unit)
        | x => unsupported "dict.changed-during-merge") s (ForInStep.yield PUnit.unit) { s with heap := Hp base lf (dO (esM ++ (l1 ++ [e])) (nM + (l1 ++ [e]).length)) (subs ++ [dO (l1 ++ e :: l2) n]) } := by
  obtain ⟨eh, ek, ev⟩ := e
  dsimp only at hk hh
  subst hk hh
  have hsub : s.heap.get? (base.length + 1 + subs.length) = some (dO (l1 ++ (DictEntry.mk eh (.int eh t) ev) :: l2) n) := by rw [hs]; exact Hp_last
  have hm : s.heap.get? base.length = some (dO (esM ++ l1) (nM + l1.length)) := by rw [hs]; exact Hp_get
  refine ex_bind (ex_dictEntries hsub) ?_
  have hx : (l1 ++ (DictEntry.mk eh (.int eh t) ev) :: l2).toArray[l1.length]? = some (⟨eh, .int eh t, ev⟩ : DictEntry) := by simp
  rw [hx]
  dsimp only
  have e1 := ex_dictPut (w := w) (t := t) (v := ev) hm h11 hz hn
  have e2 : ({ s with heap := s.heap.update base.length (Obj.mapDictKeys (·.push (DictEntry.mk eh (.int eh t) ev))) } : Shared) = { s with heap := Hp base lf (dO (esM ++ (l1 ++ [DictEntry.mk eh (.int eh t) ev])) (nM + (l1 ++ [DictEntry.mk eh (.int eh t) ev]).length)) (subs ++ [dO (l1 ++ (DictEntry.mk eh (.int eh t) ev) :: l2) n]) } := by
    rw [hs, Hp_update]; simp [Obj.mapDictKeys, dO, Nat.add_assoc]
  rw [e2] at e1
  refine ex_bind (ex_holding e1) ?_
  refine ex_bind (ex_dictEpoch (es := l1 ++ (DictEntry.mk eh (.int eh t) ev) :: l2) (n := n) (by exact Hp_last)) ?_
  rw [if_neg (by simp)]
  exact ex_pure
end
end Mine
end
section
open PySem PySem.W PyProof.Rows
namespace Mine
section
variable {w : World} {α β : Type} {s s' s₁ s₂ : Shared}
noncomputable def IntKeys (es : List DictEntry) : Prop := ∀ e ∈ es, ∃ t, e.key = .int e.hash t
theorem ex_mergeLoop {base subs : List Obj} {lf : Life} {esM : List DictEntry} {nM n : Nat} {u : Sem PUnit} {f : Nat → PUnit → Sem (ForInStep PUnit)} (h11 : 11 ≤ base.length)
    (hf : ∀ i r, f i r = (do
      let x ← dictEntries (base.length + 1 + subs.length)
      match x[i]? with
        | some e => do
          holding [e.key, e.val] (dictPut base.length e.hash e.key e.val)
          if (← dictEpoch (base.length + 1 + subs.length)) != n then do u; pure (ForInStep.yield PUnit.unit) else pure (ForInStep.yield PUnit.unit)
        | x => unsupported "dict.changed-during-merge")) :
    ∀ (l2 l1 : List DictEntry) (s : Shared), s.heap = Hp base lf (dO (esM ++ l1) (nM + l1.length)) (subs ++ [dO (l1 ++ l2) n]) → IntKeys l2 → ((esM ++ l1 ++ l2).map (·.hash)).Nodup → (esM ++ l1 ++ l2).length < 2 ^ 20 →
    Ex w (6 * l2.length) (forIn (List.range' l1.length l2.length) PUnit.unit f) s PUnit.unit { s with heap := Hp base lf (dO (esM ++ (l1 ++ l2)) (nM + (l1 ++ l2).length)) (subs ++ [dO (l1 ++ l2) n]) } := by
  intro l2
  induction l2 with
  | nil =>
    intro l1 s hs _ _ _
    have : ({ s with heap := Hp base lf (dO (esM ++ (l1 ++ [])) (nM + (l1 ++ []).length)) (subs ++ [dO (l1 ++ []) n]) } : Shared) = s := by
      cases s; dsimp only at hs; subst hs; simp
    rw [this]
    exact ex_forIn_nil
  | cons e l2 ih =>
    intro l1 s hs hk hnd hz
    obtain ⟨t, ht⟩ := hk e (.head _)
    rw [List.length_cons, List.range'_succ]
    refine ex_forIn_cons (b1 := 6) (b' := PUnit.unit) (s₁ := { s with heap := Hp base lf (dO (esM ++ (l1 ++ [e])) (nM + (l1 ++ [e]).length)) (subs ++ [dO (l1 ++ e :: l2) n]) }) ?_ ?_
    · rw [hf]
      refine ex_mergeStep hs ht rfl ?_ ?_ h11
      · intro x hx q
        rw [List.map_append, List.nodup_append] at hnd
        exact hnd.2.2 x.hash (List.mem_map_of_mem hx) e.hash (by simp) q
      · rw [List.length_append] at hz; omega
    · have h1 : l1.length + 1 = (l1 ++ [e]).length := by simp
      rw [h1]
      have h2 : l1 ++ e :: l2 = (l1 ++ [e]) ++ l2 := by simp
      rw [h2]
      refine ex_le ?_ (show 6 * l2.length ≤ 6 * (l2.length + 1) - 6 by omega)
      exact ih (l1 ++ [e]) { s with heap := Hp base lf (dO (esM ++ (l1 ++ [e])) (nM + (l1 ++ [e]).length)) (subs ++ [dO ((l1 ++ [e]) ++ l2) n]) } rfl (fun x hx => hk x (.tail _ hx)) (by simpa using hnd) (by simpa using hz)
theorem ex_merge {base subs : List Obj} {lf : Life} {esM es : List DictEntry} {nM n : Nat} (hs : s.heap = Hp base lf (dO esM nM) (subs ++ [dO es n])) (hk : IntKeys es) (hnd : ((esM ++ es).map (·.hash)).Nodup) (hz : (esM ++ es).length < 2 ^ 20) (h11 : 11 ≤ base.length) (hne : esM ≠ []) :
    Ex w (6 * es.length + 5) (mergeMapping base.length (.ref (base.length + 1 + subs.length)) false) s () { s with heap := Hp base lf (dO (esM ++ es) (nM + es.length)) (subs ++ [dO es n]) } := by
  have hsub : s.heap.get? (base.length + 1 + subs.length) = some (dO es n) := by rw [hs]; exact Hp_last
  have hm : s.heap.get? base.length = some (dO esM nM) := by rw [hs]; exact Hp_get
  have hi : Ex w 1 (isInstance (.ref (base.length + 1 + subs.length)) (.type "dict")) s true s := by
    unfold isInstance
    refine ex_bind (ex_typeOf hsub) ?_
    rw [show (dO es n).cls = .type "dict" from rfl, sub_dict]
    exact ex_pure
  have hsp : Ex w 1 (specialOf (.ref (base.length + 1 + subs.length)) "__iter__") s (some (.builtin "dict.__iter__")) s := by
    unfold specialOf
    refine ex_bind (ex_typeOf hsub) ?_
    rw [show (dO es n).cls = .type "dict" from rfl, iter_dict]
    exact ex_pure
  unfold mergeMapping
  refine ex_bind hi ?_
  rw [if_pos rfl]
  refine ex_bind hsp ?_
  refine ex_bind (b1 := 0) ex_pure ?_
  rw [show ((some (Value.builtin "dict.__iter__") == some (Value.builtin "dict.__iter__")) = true) from by decide]
  dsimp only
  rw [if_neg (by simp only [beq_iff_eq]; exact Nat.ne_of_gt (show (1 : Nat) < base.length + 1 + subs.length by omega))]
  refine ex_bind (ex_dictEntries hm) ?_
  rw [if_neg (by simp [hne])]
  refine ex_bind (ex_dictEntries hsub) ?_
  refine ex_bind (ex_dictEpoch hsub) ?_
  refine ex_bind (b1 := 6 * es.length) (a := PUnit.unit) (s₁ := { s with heap := Hp base lf (dO (esM ++ es) (nM + es.length)) (subs ++ [dO es n]) }) ?_ ex_pure
  have := ex_mergeLoop (w := w) (base := base) (subs := subs) (lf := lf) (esM := esM) (nM := nM) (n := n) (u := unsupported "dict.changed-during-merge") h11 (fun _ _ => rfl) es [] s (by simpa using hs) hk (by simpa using hnd) (by simpa using hz)
  simp only [List.nil_append, List.length_nil] at this
  rw [List.size_toArray, List.range_eq_range']
  exact this
end
end Mine
end
section
open PySem PySem.W PyProof.Rows
namespace Mine
section
variable {w : World} {α β : Type} {s s' s₁ s₂ : Shared}
noncomputable abbrev Pr := Sem Value × Sem Value
noncomputable def flushD (run : List Pr) (main : Option Addr) : Sem (Option Addr) := do
    if run.isEmpty then return main
    match main with
    | none => return some (← subDict run)
    | some d =>
      let sub ← holding [.ref d] (subDict run)
      (holding [.ref d, .ref sub] (mergeMapping d (.ref sub) false)).onRaise fun x => do let _ ← holding [.ref d, x] (runValue (.builtin "proto.let_go" {}))
      return some d
theorem accum {f : (Option (Sem Value) × Sem Value) → (Option Addr × List Pr) → Sem (ForInStep (Option Addr × List Pr))}
    (hf : ∀ k v m r, f (some k, v) (m, r) = if (r ++ [(k, v)]).length == 17 then (do let m' ← flushD (r ++ [(k, v)]) m; pure (ForInStep.yield (m', []))) else pure (ForInStep.yield (m, r ++ [(k, v)])))
    {main main' : Option Addr} {R : List (Option (Sem Value) × Sem Value)} {b : Option Addr × List Pr} {f1 r1 : Nat} :
    ∀ (ps run : List Pr), run.length + ps.length = 17 → ps ≠ [] → Ex w f1 (flushD (run ++ ps) main) s main' s₁ → Ex w r1 (forIn R (main', []) f) s₁ b s₂ →
      Ex w (f1 + r1) (forIn (ps.map (fun p => (some p.1, p.2)) ++ R) (main, run) f) s b s₂
  | [p], run, h17, _, hfl, hR => by
    refine ex_forIn_cons (b1 := f1) (s₁ := s₁) (b' := (main', [])) ?_ (ex_le hR (by omega))
    rw [hf, if_pos (by simp at h17 ⊢; omega)]
    exact ex_bind hfl ex_pure
  | p :: q :: ps, run, h17, _, hfl, hR => by
    refine ex_forIn_cons (b1 := 0) (s₁ := s) (b' := (main, run ++ [p])) ?_ ?_
    · rw [hf, if_neg (by simp at h17 ⊢; omega)]
      exact ex_pure
    · exact accum hf (q :: ps) (run ++ [p]) (by simp at h17 ⊢; omega) (by simp) (by simpa using hfl) hR
theorem tailAcc {f : (Option (Sem Value) × Sem Value) → (Option Addr × List Pr) → Sem (ForInStep (Option Addr × List Pr))}
    (hf : ∀ k v m r, f (some k, v) (m, r) = if (r ++ [(k, v)]).length == 17 then (do let m' ← flushD (r ++ [(k, v)]) m; pure (ForInStep.yield (m', []))) else pure (ForInStep.yield (m, r ++ [(k, v)])))
    {main : Option Addr} : ∀ (ps run : List Pr), run.length + ps.length < 17 → Ex w 0 (forIn (ps.map (fun p => (some p.1, p.2))) (main, run) f) s (main, run ++ ps) s
  | [], run, _ => by rw [List.append_nil]; exact ex_forIn_nil
  | p :: ps, run, h17 => by
    refine ex_forIn_cons (b1 := 0) (s₁ := s) (b' := (main, run ++ [p])) ?_ ?_
    · rw [hf, if_neg (by simp at h17 ⊢; omega)]
      exact ex_pure
    · have := tailAcc hf (main := main) ps (run ++ [p]) (by simp at h17 ⊢; omega)
      simpa using this
theorem entsFrom_append {t : Nat} : ∀ {a b : List (Int × Str)}, entsFrom t (a ++ b) = entsFrom t a ++ entsFrom (t + 3 * a.length) b
  | [], b => by simp [entsFrom]
  | (i, x) :: a, b => by
    simp only [List.cons_append, entsFrom, List.length_cons]
    rw [entsFrom_append, show t + 3 + 3 * a.length = t + 3 * (a.length + 1) by omega]
theorem entsFrom_length {t : Nat} : ∀ {a : List (Int × Str)}, (entsFrom t a).length = a.length
  | [] => rfl
  | (i, x) :: a => by simp [entsFrom, entsFrom_length]
theorem entsFrom_keys {t : Nat} : ∀ {a : List (Int × Str)}, (entsFrom t a).map (·.hash) = a.map (·.1)
  | [] => rfl
  | (i, x) :: a => by simp [entsFrom, entsFrom_keys]
theorem entsFrom_int {t : Nat} : ∀ {a : List (Int × Str)}, IntKeys (entsFrom t a)
  | [], _, h => absurd h List.not_mem_nil
  | (i, x) :: a, e, h => by
    rcases List.mem_cons.mp h with rfl | h
    · exact ⟨t, rfl⟩
    · exact entsFrom_int e h
theorem ex_flushMore {base subs : List Obj} {lf : Life} {esM : List DictEntry} {nM : Nat} {ps : List Pr} {l : List (Int × Str)} (hs : s.heap = Hp base lf (dO esM nM) subs) (hp : F2 (Gives w) ps l) (hok : ∀ d ∈ l, Ok1 d.1)
    (hnd : (esM.map (·.hash) ++ l.map (·.1)).Nodup) (hz : esM.length + l.length < 2 ^ 20) (h11 : 11 ≤ base.length) (hne : esM ≠ []) (hl : 15 < ps.length) :
    Ex w (19 * l.length + 7) (flushD ps (some base.length)) s (some base.length) { s with heap := Hp base lf (dO (esM ++ entsFrom s.toks l) (nM + l.length)) (subs ++ [dO (entsFrom s.toks l) l.length]), toks := s.toks + 3 * l.length } := by
  unfold flushD
  rw [if_neg (by cases ps <;> simp at hl ⊢)]
  dsimp only
  have e1 := ex_subDict (w := w) (s := s) hp hok (List.nodup_append.mp hnd).2.1 (by omega) (by rw [hs, Hp_size]; omega) hl
  refine ex_bind (ex_holding e1) ?_
  have e2 := ex_merge (w := w) (s := { s with heap := s.heap.push (dO (entsFrom s.toks l) l.length), toks := s.toks + 3 * l.length }) (base := base) (subs := subs) (lf := lf) (esM := esM) (es := entsFrom s.toks l) (nM := nM) (n := l.length)
    (by show s.heap.push _ = _; rw [hs, Hp_push]) entsFrom_int (by rw [List.map_append, entsFrom_keys]; exact hnd) (by rw [List.length_append, entsFrom_length]; exact hz) h11 hne
  rw [entsFrom_length] at e2
  have hsz : s.heap.objs.size = base.length + 1 + subs.length := by rw [hs, Hp_size]
  rw [hsz]
  exact ex_bind (ex_onRaise (ex_holding e2)) ex_pure
theorem ex_flushFirst {ps : List Pr} {l : List (Int × Str)} (hp : F2 (Gives w) ps l) (hok : ∀ d ∈ l, Ok1 d.1) (hnd : (l.map (·.1)).Nodup) (hz : l.length < 2 ^ 20) (h11 : 11 ≤ s.heap.objs.size) (hl : 15 < ps.length) :
    Ex w (13 * l.length + 2) (flushD ps none) s (some s.heap.objs.size) { s with heap := s.heap.push (dO (entsFrom s.toks l) l.length), toks := s.toks + 3 * l.length } := by
  unfold flushD
  rw [if_neg (by cases ps <;> simp at hl ⊢)]
  exact ex_bind (ex_subDict hp hok hnd hz h11 hl) ex_pure
end
end Mine
end
section
open PySem PySem.W PyProof.Rows
namespace Mine
section
variable {w : World} {α β : Type} {s s' s₁ s₂ : Shared}
theorem entsShort_length {t : Nat} : ∀ {a : List (Int × Str)}, (entsShort t a).length = a.length
  | [] => rfl
  | (i, x) :: a => by simp [entsShort, entsShort_length]
theorem entsShort_keys {t : Nat} : ∀ {a : List (Int × Str)}, (entsShort t a).map (·.hash) = a.map (·.1)
  | [] => rfl
  | (i, x) :: a => by simp [entsShort, entsShort_keys]
theorem entsShort_int {t : Nat} : ∀ {a : List (Int × Str)}, IntKeys (entsShort t a)
  | [], _, h => absurd h List.not_mem_nil
  | (i, x) :: a, e, h => by
    rcases List.mem_cons.mp h with rfl | h
    · exact ⟨t, rfl⟩
    · exact entsShort_int e h
theorem ex_evalPairs {ps : List Pr} {l : List (Int × Str)} (hp : F2 (Gives w) ps l) : ∀ s : Shared, Ex w (3 * l.length) (evalPairs ps) s ((entsShort s.toks l).map fun e => (e.key, e.val)) { s with toks := s.toks + 2 * l.length } := by
  induction hp with
  | nil => intro s; exact ex_pure
  | @cons p d ps l hp hps ih =>
    intro s
    obtain ⟨k, v⟩ := p
    obtain ⟨i, x⟩ := d
    have := ih { s with toks := s.toks + 2 }
    simp only [List.length_cons]
    rw [show s.toks + 2 * (l.length + 1) = s.toks + 2 + 2 * l.length by omega]
    unfold evalPairs
    refine ex_bind (hp.1 s) (ex_bind (ex_holding (hp.2 _)) ?_)
    exact ex_bind (ex_holding this) ex_pure (by omega)
theorem ex_setLoop {h : Heap} {f : (Value × Value) → PUnit → Sem (ForInStep PUnit)}
    (hf : ∀ x r, f x r = (do dictSet h.objs.size x.1 x.2; pure (ForInStep.yield PUnit.unit))) (h11 : 11 ≤ h.objs.size) :
    ∀ (l2 l1 : List DictEntry) (n : Nat) (s : Shared), s.heap = h.push (dO l1 n) → IntKeys l2 → (∀ e ∈ l2, Ok1 e.hash) → ((l1 ++ l2).map (·.hash)).Nodup → (l1 ++ l2).length < 2 ^ 20 →
    Ex w (10 * l2.length) (forIn (l2.map fun e => (e.key, e.val)) PUnit.unit f) s PUnit.unit { s with heap := h.push (dO (l1 ++ l2) (n + l2.length)), toks := s.toks + l2.length } := by
  intro l2
  induction l2 with
  | nil =>
    intro l1 n s hs _ _ _ _
    have : ({ s with heap := h.push (dO (l1 ++ []) (n + 0)), toks := s.toks + 0 } : Shared) = s := by
      cases s; dsimp only at hs; subst hs; simp
    simp only [List.length_nil]
    rw [this]
    exact ex_forIn_nil
  | cons e l2 ih =>
    intro l1 n s hs hk hok hnd hz
    obtain ⟨eh, ek, ev⟩ := e
    obtain ⟨t, ht⟩ := hk _ (.head _)
    dsimp only at ht
    subst ht
    have hi : Ok1 eh := hok _ (.head _)
    have hd : s.heap.get? h.objs.size = some (dO l1 n) := by rw [hs]; exact get_push _ _ _
    have hfr : ∀ e ∈ l1, e.hash ≠ eh := by
      intro x hx q
      rw [List.map_append, List.nodup_append] at hnd
      exact hnd.2.2 x.hash (List.mem_map_of_mem hx) eh (by simp) q
    have e1 := ex_dictSet (w := w) (t := t) (v := ev) hd h11 (by rw [List.length_append] at hz; omega) hfr hi.1 hi.2
    have e2 : ({ s with heap := s.heap.update h.objs.size (Obj.mapDictKeys (·.push (DictEntry.mk eh (.int eh t) ev))), toks := s.toks + 1 } : Shared) = { s with heap := h.push (dO (l1 ++ [DictEntry.mk eh (.int eh t) ev]) (n + 1)), toks := s.toks + 1 } := by
      rw [hs, update_push]; simp [Obj.mapDictKeys, dO]
    rw [e2] at e1
    rw [List.length_cons]
    refine ex_forIn_cons (b1 := 10) (b' := PUnit.unit) (s₁ := { s with heap := h.push (dO (l1 ++ [DictEntry.mk eh (.int eh t) ev]) (n + 1)), toks := s.toks + 1 }) ?_ ?_
    · rw [hf]
      exact ex_bind e1 ex_pure
    · have h2 : l1 ++ (DictEntry.mk eh (.int eh t) ev) :: l2 = (l1 ++ [DictEntry.mk eh (.int eh t) ev]) ++ l2 := by simp
      rw [h2, show n + (l2.length + 1) = n + 1 + l2.length by omega, show s.toks + (l2.length + 1) = s.toks + 1 + l2.length by omega]
      refine ex_le ?_ (show 10 * l2.length ≤ 10 * (l2.length + 1) - 10 by omega)
      exact ih (l1 ++ [DictEntry.mk eh (.int eh t) ev]) (n + 1) { s with heap := h.push (dO (l1 ++ [DictEntry.mk eh (.int eh t) ev]) (n + 1)), toks := s.toks + 1 } rfl (fun x hx => hk x (.tail _ hx)) (fun x hx => hok x (.tail _ hx)) (by simpa using hnd) (by simpa using hz)
theorem ex_subShort {ps : List Pr} {l : List (Int × Str)} (hp : F2 (Gives w) ps l) (hok : ∀ d ∈ l, Ok1 d.1) (hnd : (l.map (·.1)).Nodup) (hz : l.length < 2 ^ 20) (h11 : 11 ≤ s.heap.objs.size) (hl : ps.length ≤ 15) :
    Ex w (13 * l.length + 1) (subDict ps) s s.heap.objs.size { s with heap := s.heap.push (dO (entsShort s.toks l) l.length), toks := s.toks + 2 * l.length + l.length } := by
  unfold subDict
  refine ex_bind ex_alloc ?_
  refine ex_bind (b1 := 13 * l.length) (a := ()) (s₁ := { s with heap := s.heap.push (dO (entsShort s.toks l) l.length), toks := s.toks + 2 * l.length + l.length }) (ex_holding ?_) ex_pure
  rw [if_pos hl]
  refine ex_bind (ex_evalPairs hp _) (ex_holding ?_)
  refine ex_bind (b1 := 10 * l.length) (a := PUnit.unit) (s₁ := { s with heap := s.heap.push (dO (entsShort s.toks l) l.length), toks := s.toks + 2 * l.length + l.length }) ?_ ex_pure
  have := ex_setLoop (w := w) (h := s.heap) (f := fun x r => (do dictSet s.heap.objs.size x.1 x.2; pure (ForInStep.yield PUnit.unit))) (fun _ _ => rfl) h11 (entsShort s.toks l) [] 0 { s with heap := s.heap.push (dO [] 0), toks := s.toks + 2 * l.length } rfl entsShort_int
    (fun e he => by
      have : e.hash ∈ (entsShort s.toks l).map (·.hash) := List.mem_map_of_mem he
      rw [entsShort_keys] at this
      obtain ⟨d, hd, q⟩ := List.mem_map.mp this
      rw [← q]; exact hok d hd) (by rw [List.nil_append, entsShort_keys]; exact hnd) (by rw [List.nil_append, entsShort_length]; exact hz)
  rw [entsShort_length] at this
  simp only [List.nil_append, Nat.zero_add] at this
  exact this
end
end Mine
end
section
open PySem PySem.W PyProof.Rows
namespace Mine
section
variable {w : World} {α β : Type} {s s' s₁ s₂ : Shared}
noncomputable abbrev toItems (ps : List Pr) : List (Option (Sem Value) × Sem Value) := ps.map fun p => (some p.1, p.2)
theorem F2.length_eq {γ δ : Type} {R : γ → δ → Prop} {a : List γ} {b : List δ} (h : F2 R a b) : a.length = b.length := by
  induction h with
  | nil => rfl
  | cons _ _ ih => simp [ih]
theorem loopChunks {base : List Obj} {lf : Life} {f : (Option (Sem Value) × Sem Value) → (Option Addr × List Pr) → Sem (ForInStep (Option Addr × List Pr))}
    (hf : ∀ k v m r, f (some k, v) (m, r) = if (r ++ [(k, v)]).length == 17 then (do let m' ← flushD (r ++ [(k, v)]) m; pure (ForInStep.yield (m', []))) else pure (ForInStep.yield (m, r ++ [(k, v)])))
    (h11 : 11 ≤ base.length) {R : List (Option (Sem Value) × Sem Value)} {b : Option Addr × List Pr} {r1 : Nat} {pss : List (List Pr)} {cs : List (List (Int × Str))} (hp : F2 (F2 (Gives w)) pss cs) :
    ∀ (esM : List DictEntry) (nM : Nat) (subs : List Obj) (s : Shared), s.heap = Hp base lf (dO esM nM) subs → esM ≠ [] → (∀ c ∈ cs, c.length = 17) → (∀ c ∈ cs, ∀ d ∈ c, Ok1 d.1) → (esM.map (·.hash) ++ cs.flatten.map (·.1)).Nodup → esM.length + cs.flatten.length < 2 ^ 20 →
      Ex w r1 (forIn R (some base.length, []) f) { s with heap := Hp base lf (dO (esM ++ entsFrom s.toks cs.flatten) (nM + cs.flatten.length)) (subs ++ subsFrom s.toks cs), toks := s.toks + 3 * cs.flatten.length } b s₂ →
      Ex w (20 * cs.flatten.length + r1) (forIn (toItems pss.flatten ++ R) (some base.length, []) f) s b s₂ := by
  induction hp with
  | nil =>
    intro esM nM subs s hs _ _ _ _ _ hR
    have : ({ s with heap := Hp base lf (dO (esM ++ entsFrom s.toks ([] : List (List (Int × Str))).flatten) (nM + ([] : List (List (Int × Str))).flatten.length)) (subs ++ subsFrom s.toks []), toks := s.toks + 3 * ([] : List (List (Int × Str))).flatten.length } : Shared) = s := by
      cases s; dsimp only at hs; subst hs; simp [entsFrom, subsFrom]
    rw [this] at hR
    exact ex_le hR (by omega)
  | @cons ps c pss cs hc hcs ih =>
    intro esM nM subs s hs hne h17 hok hnd hz hR
    have hl : c.length = 17 := h17 c (.head _)
    have hlp : ps.length = 17 := by rw [hc.length_eq, hl]
    simp only [List.flatten_cons, List.map_append, List.length_append] at hnd hz hR
    have hnd1 : (esM.map (·.hash) ++ c.map (·.1)).Nodup := by
      rw [← List.append_assoc] at hnd
      exact (List.nodup_append.mp hnd).1
    have e1 := ex_flushMore (w := w) hs hc (hok c (.head _)) hnd1 (by omega) h11 hne (by omega)
    rw [List.flatten_cons, show (ps :: pss).flatten = ps ++ pss.flatten from List.flatten_cons, toItems, List.map_append, List.append_assoc]
    refine ex_le (accum hf (f1 := 19 * c.length + 7) (r1 := 20 * cs.flatten.length + r1) ps [] (by simpa using hlp) (by intro q; rw [q] at hlp; cases hlp) e1 ?_) (by rw [List.length_append]; omega)
    refine ih (esM ++ entsFrom s.toks c) (nM + c.length) (subs ++ [dO (entsFrom s.toks c) c.length]) { s with heap := Hp base lf (dO (esM ++ entsFrom s.toks c) (nM + c.length)) (subs ++ [dO (entsFrom s.toks c) c.length]), toks := s.toks + 3 * c.length } rfl
      (by simp [hne]) (fun x hx => h17 x (.tail _ hx)) (fun x hx => hok x (.tail _ hx)) (by rw [List.map_append, entsFrom_keys, List.append_assoc]; exact hnd) (by rw [List.length_append, entsFrom_length]; omega) ?_
    dsimp only
    have q1 : (esM ++ entsFrom s.toks c) ++ entsFrom (s.toks + 3 * c.length) cs.flatten = esM ++ entsFrom s.toks (c ++ cs.flatten) := by rw [entsFrom_append, List.append_assoc]
    have q2 : subs ++ [dO (entsFrom s.toks c) c.length] ++ subsFrom (s.toks + 3 * c.length) cs = subs ++ subsFrom s.toks (c :: cs) := by simp [subsFrom]
    rw [q1, q2, show nM + c.length + cs.flatten.length = nM + (c.length + cs.flatten.length) by omega, show s.toks + 3 * c.length + 3 * cs.flatten.length = s.toks + 3 * (c.length + cs.flatten.length) by omega]
    exact hR
/-- the whole display: a first run of seventeen, more such runs, a last one of fifteen or fewer -/
theorem ex_display {base : List Obj} {lf : Life} {ps0 psR : List Pr} {pss : List (List Pr)} {c0 cR : List (Int × Str)} {cs : List (List (Int × Str))} (hs : s.heap = ⟨base.toArray, lf⟩) (h11 : 11 ≤ base.length)
    (hp0 : F2 (Gives w) ps0 c0) (hp : F2 (F2 (Gives w)) pss cs) (hpR : F2 (Gives w) psR cR) (l0 : c0.length = 17) (ls : ∀ c ∈ cs, c.length = 17) (lR : 0 < cR.length ∧ cR.length ≤ 15)
    (hok : ∀ d ∈ c0 ++ cs.flatten ++ cR, Ok1 d.1) (hnd : ((c0 ++ cs.flatten ++ cR).map (·.1)).Nodup) (hz : (c0 ++ cs.flatten ++ cR).length < 2 ^ 20) :
    Ex w (20 * (c0.length + cs.flatten.length + cR.length) + 20) (dictDisplay (toItems (ps0 ++ pss.flatten ++ psR))) s (.ref base.length)
      { s with heap := Hp base lf (dO (entsFrom s.toks (c0 ++ cs.flatten) ++ entsShort (s.toks + 3 * (c0 ++ cs.flatten).length) cR) ((c0 ++ cs.flatten).length + cR.length))
                (subsFrom (s.toks + 3 * c0.length) cs ++ [dO (entsShort (s.toks + 3 * (c0 ++ cs.flatten).length) cR) cR.length]), toks := s.toks + 3 * (c0 ++ cs.flatten).length + 2 * cR.length + cR.length } := by
  have hl0 : ps0.length = 17 := by rw [hp0.length_eq, l0]
  have hlR : psR.length = cR.length := hpR.length_eq
  have hsz : s.heap.objs.size = base.length := by rw [hs]; simp
  have hk0 : (c0.map (·.1)).Nodup := by
    rw [List.map_append, List.map_append] at hnd
    exact (List.nodup_append.mp (List.nodup_append.mp hnd).1).1
  have hkR : (cR.map (·.1)).Nodup := by
    rw [List.map_append] at hnd
    exact (List.nodup_append.mp hnd).2.1
  simp only [List.length_append] at hz ⊢
  have loop : ∀ (f : (Option (Sem Value) × Sem Value) → (Option Addr × List Pr) → Sem (ForInStep (Option Addr × List Pr))) (hf : ∀ k v m r, f (some k, v) (m, r) = if (r ++ [(k, v)]).length == 17 then (do let m' ← flushD (r ++ [(k, v)]) m; pure (ForInStep.yield (m', []))) else pure (ForInStep.yield (m, r ++ [(k, v)]))), Ex w (20 * (c0.length + cs.flatten.length)) (forIn (toItems (ps0 ++ pss.flatten ++ psR)) (none, []) f) s (some base.length, psR)
      { s with heap := Hp base lf (dO (entsFrom s.toks (c0 ++ cs.flatten)) (c0.length + cs.flatten.length)) (subsFrom (s.toks + 3 * c0.length) cs), toks := s.toks + 3 * (c0.length + cs.flatten.length) } := by
    intro f hf
    rw [List.append_assoc, toItems, List.map_append]
    have e1 := ex_flushFirst (w := w) (s := s) hp0 (fun d hd => hok d (by simp [hd])) hk0 (by omega) (by omega) (by omega)
    rw [hsz] at e1
    have e2 : s.heap.push (dO (entsFrom s.toks c0) c0.length) = Hp base lf (dO (entsFrom s.toks c0) c0.length) [] := by rw [hs]; simp [Hp, Heap.push]
    rw [e2] at e1
    refine ex_le (accum hf (f1 := 13 * c0.length + 2) (r1 := 20 * cs.flatten.length + 0) ps0 [] (by simpa using hl0) (by intro q; rw [q] at hl0; cases hl0) e1 ?_) (by omega)
    rw [List.map_append]
    refine loopChunks (w := w) hf h11 hp (entsFrom s.toks c0) c0.length [] { s with heap := Hp base lf (dO (entsFrom s.toks c0) c0.length) [], toks := s.toks + 3 * c0.length } rfl (by intro q; have := congrArg List.length q; rw [entsFrom_length, l0] at this; cases this) ls
      (fun c hc d hd => hok d (by simp only [List.mem_append, List.mem_flatten]; exact .inl (.inr ⟨c, hc, hd⟩))) (by
        rw [entsFrom_keys]
        rw [List.map_append, List.map_append] at hnd
        exact (List.nodup_append.mp hnd).1) (by rw [entsFrom_length]; omega) ?_
    dsimp only
    rw [List.nil_append, ← entsFrom_append, show s.toks + 3 * c0.length + 3 * cs.flatten.length = s.toks + 3 * (c0.length + cs.flatten.length) by omega]
    exact tailAcc hf psR [] (by simp; omega)
  have last : Ex w (19 * cR.length + 6) (flushD psR (some base.length)) { s with heap := Hp base lf (dO (entsFrom s.toks (c0 ++ cs.flatten)) (c0.length + cs.flatten.length)) (subsFrom (s.toks + 3 * c0.length) cs), toks := s.toks + 3 * (c0.length + cs.flatten.length) } (some base.length)
      { s with heap := Hp base lf (dO (entsFrom s.toks (c0 ++ cs.flatten) ++ entsShort (s.toks + 3 * (c0.length + cs.flatten.length)) cR) ((c0.length + cs.flatten.length) + cR.length))
                (subsFrom (s.toks + 3 * c0.length) cs ++ [dO (entsShort (s.toks + 3 * (c0.length + cs.flatten.length)) cR) cR.length]), toks := s.toks + 3 * (c0.length + cs.flatten.length) + 2 * cR.length + cR.length } := by
    unfold flushD
    rw [if_neg (by cases psR <;> simp at hlR ⊢; omega)]
    dsimp only
    have e1 := ex_subShort (w := w) (s := { s with heap := Hp base lf (dO (entsFrom s.toks (c0 ++ cs.flatten)) (c0.length + cs.flatten.length)) (subsFrom (s.toks + 3 * c0.length) cs), toks := s.toks + 3 * (c0.length + cs.flatten.length) }) hpR (fun d hd => hok d (by simp [hd])) hkR (by omega)
      (by show 11 ≤ (Hp _ _ _ _).objs.size; rw [Hp_size]; omega) (by omega)
    dsimp only at e1
    rw [Hp_size, Hp_push] at e1
    refine ex_bind (ex_holding e1) ?_
    have e2 := ex_merge (w := w) (s := { s with heap := Hp base lf (dO (entsFrom s.toks (c0 ++ cs.flatten)) (c0.length + cs.flatten.length)) (subsFrom (s.toks + 3 * c0.length) cs ++ [dO (entsShort (s.toks + 3 * (c0.length + cs.flatten.length)) cR) cR.length]), toks := s.toks + 3 * (c0.length + cs.flatten.length) + 2 * cR.length + cR.length })
      (base := base) (lf := lf) rfl entsShort_int (by rw [List.map_append, entsFrom_keys, entsShort_keys, ← List.map_append]; exact hnd) (by rw [List.length_append, entsFrom_length, entsShort_length, List.length_append]; omega) h11
      (by intro q; have := congrArg List.length q; rw [entsFrom_length, List.length_append, l0] at this; simp at this)
    rw [entsShort_length] at e2
    exact ex_bind (ex_onRaise (ex_holding e2)) ex_pure
  unfold dictDisplay
  refine ex_bind (b1 := 20 * (c0.length + cs.flatten.length)) (a := (some base.length, psR)) (s₁ := { s with heap := Hp base lf (dO (entsFrom s.toks (c0 ++ cs.flatten)) (c0.length + cs.flatten.length)) (subsFrom (s.toks + 3 * c0.length) cs), toks := s.toks + 3 * (c0.length + cs.flatten.length) }) ?_ ?_
  · exact loop _ (fun _ _ _ _ => rfl)
  · exact ex_bind last ex_pure
end
end Mine
end
section
open PySem PySem.W PyProof.Rows
namespace Mine
section
variable {w : World} {s s' s₁ s₂ : Shared}
noncomputable def ps3 : Pos := match stAt 3 with | .Assign _ (.Dict _ _ p) _ => p | _ => default
theorem cI_some {e : Expr} {i : Int} (h : cI e = some i) : ∃ a b, e = .Constant (.int i) a b := by
  cases e <;> first | exact nomatch (show none = some i from h) | skip
  rename_i c a b
  cases c <;> first | exact nomatch (show none = some i from h) | skip
  cases h
  exact ⟨_, _, rfl⟩
theorem cS_some {e : Expr} {s : Str} (h : cS e = some s) : ∃ a b, e = .Constant (.str s) a b := by
  cases e <;> first | exact nomatch (show none = some s from h) | skip
  rename_i c a b
  cases c <;> first | exact nomatch (show none = some s from h) | skip
  cases h
  exact ⟨_, _, rfl⟩
noncomputable def tbOk (x : Expr × Expr) : Bool := (cI x.1).any (fun i => decide (0 ≤ i) && decide (i < 2 ^ 61 - 1)) && (cS x.2).isSome
theorem tbOk_elim {k v : Expr} (h : tbOk (k, v) = true) : ∃ i a b s a' b', k = .Constant (.int i) a b ∧ v = .Constant (.str s) a' b' ∧ 0 ≤ i ∧ i < 2 ^ 61 - 1 := by
  obtain ⟨h1, h2⟩ := Bool.and_eq_true_iff.mp h
  obtain ⟨i, hi⟩ : ∃ i, cI k = some i := by
    cases hk : cI k with
    | none => dsimp only at h1; rw [hk] at h1; cases h1
    | some i => exact ⟨i, rfl⟩
  dsimp only at h1
  rw [hi] at h1
  have h3 : (decide (0 ≤ i) && decide (i < 2 ^ 61 - 1)) = true := h1
  obtain ⟨s, hs⟩ := Option.isSome_iff_exists.mp h2
  obtain ⟨a, b, e1⟩ := cI_some hi
  obtain ⟨a', b', e2⟩ := cS_some hs
  obtain ⟨h4, h5⟩ := Bool.and_eq_true_iff.mp h3
  exact ⟨i, a, b, s, a', b', e1, e2, of_decide_eq_true h4, of_decide_eq_true h5⟩
noncomputable def pr3 (x : Expr × Expr) : Pr := (eval x.1 envT, eval x.2 envT >>= fun v => standAt ps3 >>= fun _ => pure v)
theorem gives_of {x : Expr × Expr} (h : tbOk x = true) : Gives w (pr3 x) (tb x) := by
  obtain ⟨k, v⟩ := x
  obtain ⟨i, a, b, x, a', b', rfl, rfl, _, _⟩ := tbOk_elim h
  constructor
  · intro s
    show Ex w 1 (eval (.Constant (.int i) a b) envT) s _ _
    rw [arm_eval_Constant]
    exact ex_bind ex_fresh ex_pure
  · intro s
    show Ex w 2 (eval (.Constant (.str x) a' b') envT >>= fun v => standAt ps3 >>= fun _ => pure v) s _ _
    rw [arm_eval_Constant]
    exact ex_bind (b1 := 1) (ex_bind ex_fresh ex_pure) (ex_bind ex_standAt ex_pure)
theorem gives_all {l : List (Expr × Expr)} (h : l.all tbOk = true) : F2 (Gives w) (l.map pr3) (l.map tb) := by
  induction l with
  | nil => exact .nil
  | cons x l ih =>
    simp only [List.all_cons, Bool.and_eq_true] at h
    exact .cons (gives_of h.1) (ih h.2)
theorem ok_all {l : List (Expr × Expr)} (h : l.all tbOk = true) : ∀ d ∈ l.map tb, Ok1 d.1 := by
  intro d hd
  obtain ⟨x, hx, rfl⟩ := List.mem_map.mp hd
  have := List.all_eq_true.mp h x hx
  obtain ⟨k, v⟩ := x
  obtain ⟨i, a, b, s, a', b', rfl, rfl, q1, q2⟩ := tbOk_elim this
  exact ⟨q1, q2⟩
theorem chunks_flatten {α : Type} : ∀ (n : Nat) (l : List α), l.length = 17 * n → (chunks n l).flatten = l
  | 0, l, h => by
    have : l = [] := List.eq_nil_of_length_eq_zero (by omega)
    rw [this]; rfl
  | n + 1, l, h => by
    simp only [chunks, List.flatten_cons]
    rw [chunks_flatten n (l.drop 17) (by rw [List.length_drop]; omega), List.take_append_drop]
theorem chunks_len {α : Type} : ∀ (n : Nat) (l : List α), l.length = 17 * n → ∀ c ∈ chunks n l, c.length = 17
  | n + 1, l, h, c, hc => by
    rcases List.mem_cons.mp hc with rfl | hc
    · rw [List.length_take]; omega
    · exact chunks_len n (l.drop 17) (by rw [List.length_drop]; omega) c hc
theorem gives_chunks : ∀ (L : List (List (Expr × Expr))), (∀ l ∈ L, l.all tbOk = true) → F2 (F2 (Gives w)) (L.map (·.map pr3)) (L.map (·.map tb))
  | [], _ => .nil
  | l :: L, h => .cons (gives_all (h l (.head _))) (gives_chunks L fun x hx => h x (.tail _ hx))
noncomputable def risingB : List Int → Bool
  | a :: b :: l => decide (a < b) && risingB (b :: l)
  | _ => true
theorem rising_gt : ∀ {l : List Int} {a : Int}, risingB (a :: l) = true → ∀ b ∈ l, a < b
  | [], _, _, _, hb => nomatch hb
  | c :: l, a, h, b, hb => by
    simp only [risingB, Bool.and_eq_true, decide_eq_true_eq] at h
    rcases List.mem_cons.mp hb with rfl | hb
    · exact h.1
    · have := rising_gt h.2 b hb; omega
theorem rising_tail : ∀ {l : List Int} {a : Int}, risingB (a :: l) = true → risingB l = true
  | [], _, _ => rfl
  | c :: l, a, h => by
    simp only [risingB, Bool.and_eq_true, decide_eq_true_eq] at h
    exact h.2
theorem rising_nodup : ∀ {l : List Int}, risingB l = true → l.Nodup
  | [], _ => List.nodup_nil
  | a :: l, h => List.nodup_cons.mpr ⟨fun m => by have := rising_gt h a m; omega, rising_nodup (rising_tail h)⟩
set_option maxHeartbeats 4000000 in
theorem kv_facts : (kvs3.all tbOk && (kvs3.length == 650) && risingB (kvs3.map fun x => (tb x).1)) = true := by decide +kernel
end
end Mine
end
section
open PySem PySem.W PyProof.Rows
namespace Mine
section
theorem exec_dict (x : Str) (np p pos : Pos) (ks : List (Option Expr)) (vs : List Expr) (env : Env) : exec (.Assign [.Name x np] (.Dict ks vs p) pos) env =
    (do standAt pos
        let v ← (do standAt p; dictDisplay ((evalEachOpt ks env).zip ((evalEach vs env).map fun v => do let x ← v; standAt p; pure x)))
        assignStores env v none [assign (.Name x np) env]) := by
  have e : exec (.Assign [.Name x np] (.Dict ks vs p) pos) env = (do
        standAt pos
        if ← (pure false : Sem Bool) then do
          evalThenUse (.Dict ks vs p) env fun v => assignAll v [assign (.Name x np) env]
          pure .next
        else do
          let v ← (do standAt p; dictDisplay ((evalEachOpt ks env).zip ((evalEach vs env).map fun v => do let x ← v; standAt p; pure x)))
          assignStores env v (← (pure none : Sem _)) [assign (.Name x np) env]) := rfl
  rw [e]
  simp
theorem execs_one (st : Stmt) (env : Env) : execs [st] env = (exec st env >>= fun fl => match fl with | .next => execs [] env | f => pure f) := rfl
theorem items_eq (env : Env) (p : Pos) : ∀ kv : List (Expr × Expr), (evalEachOpt (kv.map fun x => some x.1) env).zip ((evalEach (kv.map (·.2)) env).map fun v => do let x ← v; standAt p; pure x) =
    toItems (kv.map fun x => (eval x.1 env, eval x.2 env >>= fun v => standAt p >>= fun _ => pure v))
  | [] => rfl
  | x :: r => by
    exact congrArg (List.cons _) (items_eq env p r)
noncomputable def nm3 : Str := match stAt 3 with | .Assign [.Name x _] _ _ => x | _ => default
noncomputable def np3 : Pos := match stAt 3 with | .Assign [.Name _ p] _ _ => p | _ => default
noncomputable def pp3 : Pos := match stAt 3 with | .Assign _ _ p => p | _ => default
theorem st3_eq : stAt 3 = .Assign [.Name nm3 np3] (.Dict (kvs3.map fun x => some x.1) (kvs3.map (·.2)) ps3) pp3 := by kernel_rfl
noncomputable abbrev rest3 (v : Value) : Sem Flow := assignStores envT v none [assign (.Name nm3 np3) envT] >>= fun fl => match fl with | .next => execs [] envT | f => pure f
theorem execs3 : execs [stAt 3] envT = (do standAt pp3; standAt ps3; dictDisplay (toItems (kvs3.map pr3))) >>= rest3 := by
  rw [execs_one, st3_eq, exec_dict, items_eq]
  simp only [bind_assoc]
  rfl
end
end Mine
end
section
open PySem PySem.W PyProof.Rows
namespace Mine
section
theorem heap_b (P : Params) : Hp (BT.list (tr4 P) 33) lf b3main b3subs = absHeap (tr4b P) 72 lf := by kernel_rfl
theorem heap_a (P : Params) : absHeap (tr4 P) 33 lf = ⟨(BT.list (tr4 P) 33).toArray, lf⟩ := rfl
theorem kv_split : kvs3 = kv0 ++ kvss.flatten ++ kvR := by
  have hl : kvs3.length = 650 := by
    have := kv_facts
    simp only [Bool.and_eq_true, beq_iff_eq] at this
    exact this.1.2
  unfold kv0 kvss kvR
  rw [chunks_flatten 37 _ (by rw [List.length_take, List.length_drop]; omega)]
  have e : kvs3.drop 646 = (kvs3.drop 17).drop 629 := by rw [List.drop_drop]
  rw [e, List.append_assoc, List.take_append_drop, List.take_append_drop]
theorem rest3_run (w : World) (os : OsState) (p : Pos) : segRunT treeTable pw w 11 (some (.ref 6)) 1 20 (st4b w os) ⟨(rest3 (.ref 33)).wrap doneF deadEnd id id, cdT, p, [topFrame pos0]⟩ = some (.next, st5 w os, cdT, ⟨5, 0, 5, 13⟩) := by
  rw [PySem.W.Fast.te10110043849684766642, PySem.W.Fast.te14364793385576792824]
  kernel_rfl
end
end Mine
end
section
open PySem PySem.W PyProof.Rows
namespace Mine
section
theorem kv_len : kvs3.length = 650 := by
  have := kv_facts
  simp only [Bool.and_eq_true, beq_iff_eq] at this
  exact this.1.2
theorem kv_ok : kvs3.all tbOk = true := by
  have := kv_facts
  simp only [Bool.and_eq_true, beq_iff_eq] at this
  exact this.1.1
theorem kv_nodup : (kvs3.map fun x => (tb x).1).Nodup := by
  have := kv_facts
  simp only [Bool.and_eq_true, beq_iff_eq] at this
  exact rising_nodup this.2
theorem len0 : kv0.length = 17 := by unfold kv0; rw [List.length_take, kv_len]; rfl
theorem lenR : kvR.length = 4 := by unfold kvR; rw [List.length_drop, kv_len]
theorem lens : ∀ c ∈ kvss, c.length = 17 := chunks_len 37 _ (by rw [List.length_take, List.length_drop, kv_len]; rfl)
theorem len_flat : kvss.flatten.length = 629 := by
  have := congrArg List.length kv_split
  rw [List.length_append, List.length_append, kv_len, len0, lenR] at this
  omega
theorem ok0 : kv0.all tbOk = true := by
  have := kv_ok
  rw [kv_split, List.all_append, List.all_append, Bool.and_eq_true, Bool.and_eq_true] at this
  exact this.1.1
theorem okR : kvR.all tbOk = true := by
  have := kv_ok
  rw [kv_split, List.all_append, List.all_append, Bool.and_eq_true, Bool.and_eq_true] at this
  exact this.2
theorem oks : ∀ l ∈ kvss, l.all tbOk = true := by
  intro l hl
  have := kv_ok
  rw [kv_split, List.all_append, List.all_append, Bool.and_eq_true, Bool.and_eq_true] at this
  have h := this.1.2
  rw [List.all_eq_true] at h ⊢
  exact fun x hx => h x (List.mem_flatten.mpr ⟨l, hl, hx⟩)
theorem flat_tb : (kvss.map (·.map tb)).flatten = kvss.flatten.map tb := by rw [List.map_flatten]
theorem flat_pr : (kvss.map (·.map pr3)).flatten = kvss.flatten.map pr3 := by rw [List.map_flatten]
theorem all_tb : kv0.map tb ++ (kvss.map (·.map tb)).flatten ++ kvR.map tb = kvs3.map tb := by
  rw [flat_tb, ← List.map_append, ← List.map_append, ← kv_split]
theorem display3 (w : World) (os : OsState) : Ex w 13020 (dictDisplay (toItems (kvs3.map pr3))) (st4 w os).abs (.ref 33) (st4b w os).abs := by
  have hb : (BT.list (tr4 w.params) 33).length = 33 := by simp [BT.list]
  have h := ex_display (w := w) (s := (st4 w os).abs) (base := BT.list (tr4 w.params) 33) (lf := lf) (ps0 := kv0.map pr3) (psR := kvR.map pr3) (pss := kvss.map (·.map pr3)) (c0 := kv0.map tb) (cR := kvR.map tb) (cs := kvss.map (·.map tb))
    (heap_a _) (by rw [hb]; decide) (gives_all ok0) (gives_chunks _ oks) (gives_all okR) (by rw [List.length_map, len0])
    (fun c hc => by obtain ⟨l, hl, rfl⟩ := List.mem_map.mp hc; rw [List.length_map]; exact lens l hl) (by rw [List.length_map, lenR]; decide)
    (by rw [all_tb]; exact ok_all kv_ok) (by rw [all_tb, List.map_map]; exact kv_nodup) (by rw [all_tb, List.length_map, kv_len]; decide)
  have e1 : kv0.map pr3 ++ (kvss.map (·.map pr3)).flatten ++ kvR.map pr3 = kvs3.map pr3 := by
    rw [flat_pr, ← List.map_append, ← List.map_append, ← kv_split]
  have e2 : (kv0.map tb ++ (kvss.map (·.map tb)).flatten).length = 646 := by
    rw [List.length_append, flat_tb, List.length_map, List.length_map, len0, len_flat]
  have e3 : (kvss.map (·.map tb)).flatten.length = 629 := by rw [flat_tb, List.length_map, len_flat]
  rw [e1, hb, e2, e3, List.length_map, List.length_map, len0, lenR] at h
  have e4 : ({ (st4 w os).abs with heap := Hp (BT.list (tr4 w.params) 33) lf b3main b3subs, toks := 2206 } : Shared) = (st4b w os).abs := by
    rw [heap_b]; rfl
  rw [← e4]
  exact h
theorem pc3 (w : World) (os : OsState) : ∃ n, n ≤ 13060 ∧ segRun treeTable pw w 11 (some (.ref 6)) 1 n (st4 w os).abs (piecesOf [stAt 3] envT cdT ⟨3, 0, 4, 30⟩ [topFrame pos0]) = some (.next, (st5 w os).abs, cdT, ⟨5, 0, 5, 13⟩) := by
  have h : Ex w 13030 (do standAt pp3; standAt ps3; dictDisplay (toItems (kvs3.map pr3))) (st4 w os).abs (.ref 33) (st4b w os).abs :=
    ex_bind ex_standAt (ex_bind ex_standAt (ex_le (display3 w os) (by decide)))
  obtain ⟨n, p, hn, e⟩ := h (fun v => (rest3 v).wrap doneF deadEnd id id) (fun e => (Sem.raise e : Sem Flow).wrap doneF deadEnd id id) id id cdT ⟨3, 0, 4, 30⟩ (topFrame pos0) []
  refine ⟨n + 20, by omega, seg_go ?_ (segRun_of (rest3_run w os p))⟩
  have e5 : (piecesOf [stAt 3] envT cdT ⟨3, 0, 4, 30⟩ [topFrame pos0]) = ⟨(do standAt pp3; standAt ps3; dictDisplay (toItems (kvs3.map pr3))).wrap (fun v => (rest3 v).wrap doneF deadEnd id id) (fun e => (Sem.raise e : Sem Flow).wrap doneF deadEnd id id) id id, cdT, ⟨3, 0, 4, 30⟩, [topFrame pos0]⟩ := by
    unfold piecesOf
    rw [execs3, Sem.bind_eq_wrap', Sem.wrap_wrap]
    rfl
  rw [e5]
  exact e
end
end Mine
end
section
open PySem PySem.W PyProof.Rows
namespace Mine
theorem pc0 (w : World) (os : OsState) : segRunT treeTable pw w 11 (some (.ref 6)) 1 10 (st1 w os) (piecesOf [stAt 0] envT cdT ⟨0, 0, 0, 0⟩ [topFrame pos0]) = some (.next, st2 w os, cdT, ⟨1, 0, 1, 8⟩) := by
  unfold piecesOf
  rw [PySem.W.Fast.te10110043849684766642, PySem.W.Fast.te14364793385576792824, PySem.W.Fast.te12563942051412417395]
  kernel_rfl
theorem pc2 (w : World) (os : OsState) : segRunT treeTable pw w 11 (some (.ref 6)) 1 30 (st3 w os) (piecesOf [stAt 2] envT cdT ⟨2, 0, 2, 6⟩ [topFrame pos0]) = some (.next, st4 w os, cdT, ⟨3, 0, 4, 30⟩) := by
  unfold piecesOf
  rw [PySem.W.Fast.te10110043849684766642, PySem.W.Fast.te14364793385576792824, PySem.W.Fast.te12563942051412417395]
  kernel_rfl
theorem pc4 (w : World) (os : OsState) : segRunT treeTable pw w 11 (some (.ref 6)) 1 191 (st5 w os) (piecesOf [stAt 4, stAt 5, stAt 6, stAt 7, stAt 8, stAt 9, stAt 10] envT cdT ⟨5, 0, 5, 13⟩ [topFrame pos0]) = some (.next, st12 w os, cdT, ⟨20, 0, 24, 16⟩) := by
  unfold piecesOf
  rw [PySem.W.Fast.te10110043849684766642, PySem.W.Fast.te14364793385576792824, PySem.W.Fast.te12563942051412417395]
  kernel_rfl
theorem pc11 (w : World) (os : OsState) : segRunT treeTable pw w 11 (some (.ref 6)) 1 182 (st12 w os) (piecesOf [stAt 11, stAt 12, stAt 13, stAt 14, stAt 15, stAt 16, stAt 17, stAt 18, stAt 19] envT cdT ⟨20, 0, 24, 16⟩ [topFrame pos0]) = some (.next, st21 w os, cdT, ⟨85, 0, 85, 8⟩) := by
  unfold piecesOf
  rw [PySem.W.Fast.te10110043849684766642, PySem.W.Fast.te14364793385576792824, PySem.W.Fast.te12563942051412417395]
  kernel_rfl
theorem pc20 (w : World) (os : OsState) : segRunT treeTable pw w 11 (some (.ref 6)) 1 187 (st21 w os) (piecesOf [stAt 20, stAt 21, stAt 22, stAt 23, stAt 24, stAt 25] envT cdT ⟨85, 0, 85, 8⟩ [topFrame pos0]) = some (.next, st27 w os, cdT, ⟨121, 0, 125, 17⟩) := by
  unfold piecesOf
  rw [PySem.W.Fast.te10110043849684766642, PySem.W.Fast.te14364793385576792824, PySem.W.Fast.te12563942051412417395]
  kernel_rfl
theorem pc26 (w : World) (os : OsState) : segRunT treeTable pw w 11 (some (.ref 6)) 1 198 (st27 w os) (piecesOf [stAt 26, stAt 27, stAt 28, stAt 29, stAt 30, stAt 31] envT cdT ⟨121, 0, 125, 17⟩ [topFrame pos0]) = some (.next, st33 w os, cdT, ⟨176, 0, 210, 49⟩) := by
  unfold piecesOf
  rw [PySem.W.Fast.te10110043849684766642, PySem.W.Fast.te14364793385576792824, PySem.W.Fast.te12563942051412417395]
  kernel_rfl
noncomputable def P1 (os : OsState) (w : World) : Prop := segRunT treeTable pw w 11 (some (.ref 6)) 1 999 (st2 w os) (piecesOf [stAt 1] envT cdT ⟨1, 0, 1, 8⟩ [topFrame pos0]) = some (.next, st3 w os, cdT, ⟨2, 0, 2, 6⟩)
theorem pc1_00 (os : OsState) (w : World) : P1 os ((w.withFollow "special-get-raises" false).withFollow "set-order" false) := by
  unfold P1 piecesOf
  rw [PySem.W.Fast.te10110043849684766642, PySem.W.Fast.te14364793385576792824, PySem.W.Fast.te12563942051412417395]
  kernel_rfl
theorem pc1_01 (os : OsState) (w : World) : P1 os ((w.withFollow "special-get-raises" true).withFollow "set-order" false) := by
  unfold P1 piecesOf
  rw [PySem.W.Fast.te10110043849684766642, PySem.W.Fast.te14364793385576792824, PySem.W.Fast.te12563942051412417395]
  kernel_rfl
theorem pc1_10 (os : OsState) (w : World) : P1 os ((w.withFollow "special-get-raises" false).withFollow "set-order" true) := by
  unfold P1 piecesOf
  rw [PySem.W.Fast.te10110043849684766642, PySem.W.Fast.te14364793385576792824, PySem.W.Fast.te12563942051412417395]
  kernel_rfl
theorem pc1_11 (os : OsState) (w : World) : P1 os ((w.withFollow "special-get-raises" true).withFollow "set-order" true) := by
  unfold P1 piecesOf
  rw [PySem.W.Fast.te10110043849684766642, PySem.W.Fast.te14364793385576792824, PySem.W.Fast.te12563942051412417395]
  kernel_rfl
theorem pc1 (os : OsState) (w : World) : P1 os w :=
  byRow2 "set-order" (P := P1 os)
    (byRow2 "special-get-raises" (P := fun w => P1 os (w.withFollow "set-order" false)) (pc1_00 os) (pc1_01 os))
    (byRow2 "special-get-raises" (P := fun w => P1 os (w.withFollow "set-order" true)) (pc1_10 os) (pc1_11 os)) w
end Mine
end
section
open PySem PySem.W PyProof.Rows
namespace Mine
noncomputable section
noncomputable abbrev ann6 : Option Value := some (.ref 6)
noncomputable def S0 (w : World) (os : OsState) : Shared := ⟨boot_heap w.params, Array.mk [], boot_drawn, boot_toks, os⟩
theorem pcPre (w : World) (os : OsState) : topGo treeTable pw w 11 ann6 12 (S0 w os) (topStub pw) = some ((st0 w os).abs, ⟨denote treeTable cdT, cdT, pos0, [topFrame pos0]⟩) := by
  kernel_rfl
theorem pcBlock (w : World) (os : OsState) : segRun treeTable pw w 11 ann6 1 1 (st0 w os).abs (blockOf (behindTheImports pw) envT cdT pos0 [topFrame pos0]) = some (.next, (st1 w os).abs, cdT, pos0) := by
  kernel_rfl
theorem pcFin (w : World) (os : OsState) : topRun treeTable pw w 11 ann6 2 (st33 w os).abs (restOf [] envT cdT ⟨176, 0, 210, 49⟩ [topFrame pos0]) = some (st33 w os).abs := by
  kernel_rfl
theorem bodyEq : behindTheImports pw = [stAt 0] ++ ([stAt 1] ++ ([stAt 2] ++ ([stAt 3] ++ ([stAt 4, stAt 5, stAt 6, stAt 7, stAt 8, stAt 9, stAt 10] ++ ([stAt 11, stAt 12, stAt 13, stAt 14, stAt 15, stAt 16, stAt 17, stAt 18, stAt 19] ++ ([stAt 20, stAt 21, stAt 22, stAt 23, stAt 24, stAt 25] ++ ([stAt 26, stAt 27, stAt 28, stAt 29, stAt 30, stAt 31] ++ []))))))) := by kernel_rfl
end
end Mine
end
section
open PySem PySem.W PyProof.Rows
namespace Mine
noncomputable section
theorem run_all (w : World) (os : OsState) : topRun treeTable pw w 11 ann6 16000 (S0 w os) (topStub pw) = some (st33 w os).abs := by
  obtain ⟨n, hn, e3⟩ := pc3 w os
  have p26 := piece_app (segRun_of (pc26 w os)) (pcFin w os)
  have p20 := piece_app (segRun_of (pc20 w os)) p26
  have p11 := piece_app (segRun_of (pc11 w os)) p20
  have p4 := piece_app (segRun_of (pc4 w os)) p11
  have p3 := piece_app e3 p4
  have p2 := piece_app (segRun_of (pc2 w os)) p3
  have p1 := piece_app (segRun_of (pc1 os w)) p2
  have p0 := piece_app (segRun_of (pc0 w os)) p1
  rw [← bodyEq] at p0
  have pb := piece_block (pcBlock w os) p0
  have pt := go_top (pcPre w os) pb
  have pm := topRun_mono (16000 - (12 + (1 + (10 + (999 + (30 + (n + (191 + (182 + (187 + (198 + 2))))))))))) _ _ _ _ pt
  have e : 12 + (1 + (10 + (999 + (30 + (n + (191 + (182 + (187 + (198 + 2))))))))) + (16000 - (12 + (1 + (10 + (999 + (30 + (n + (191 + (182 + (187 + (198 + 2))))))))))) = 16000 := by omega
  rw [e] at pm
  exact pm
noncomputable def viewQ : Program := { pw with main := { pw.main with body := [stAt 31] } }
noncomputable def looseQ : List Str := (["b1_set", "in_table_b1", "b3_exceptions", "map_table_b3", "gt", "add", "mul", "sub", "concat", "countOf", "indexOf", "_MAX_STRING_SIZE", "_MOVE_COST", "_CASE_COST", "_substitution_cost", "_levenshtein_distance", "_law_draws", "_law_unseen", "_law_form", "_law_typed", "_law_prepared", "_law_found", "_law_parted", "_law_from_without", "_law_from_within", "_law_product", "_law_square"] : List String).map Str.ofString
theorem open0 : ∀ w : World, (fencedOpening treeTable pw w 16000).map (fun s => (s.heap, s.gens, s.drawn, s.toks)) = some (boot_heap w.params, Array.mk [], boot_drawn, boot_toks) :=
  boot_open (by kernel_rfl) (by decide) (fun s => by kernel_rfl)
theorem size0 : ∀ w : World, ((boot_heap w.params).isNs mainGlobals && (Array.mk [] : Array GenState).size == 0, (boot_heap w.params).objs.size, (boot_heap w.params).nsMap mainGlobals "__annotations__") = (true, 11, ann6) := by
  intro w; kernel_rfl
end
end Mine
end
section
open PySem PySem.W PyProof.Rows
namespace Mine
noncomputable section
noncomputable def KF : Params → Frag := fun P => (nat_lit 2, boot_o_2 P) :: (nat_lit 3, o3v32 P) :: (nat_lit 9, boot_o_9 P) :: (nat_lit 13, o13 P) :: (nat_lit 22, o22 P) :: (nat_lit 31, o31 P) :: (nat_lit 32, o32 P) :: (nat_lit 33, o33 P) :: (nat_lit 77, o77 P) :: (nat_lit 78, o78 P) :: (nat_lit 84, o84 P) :: (nat_lit 85, o85 P) :: (nat_lit 91, o91 P) :: (nat_lit 92, o92 P) :: (nat_lit 98, o98 P) :: (nat_lit 99, o99 P) :: (nat_lit 105, o105 P) :: (nat_lit 106, o106 P) :: (nat_lit 112, o112 P) :: (nat_lit 113, o113 P) :: (nat_lit 119, o119 P) :: (nat_lit 120, o120 P) :: (nat_lit 126, o126 P) :: (nat_lit 127, o127 P) :: (nat_lit 133, o133 P) :: (nat_lit 134, o134 P) :: (nat_lit 140, o140 P) :: (nat_lit 141, o141 P) :: (nat_lit 147, o147 P) :: (nat_lit 148, o148 P) :: (nat_lit 154, o154 P) :: (nat_lit 155, o155 P) :: (nat_lit 161, o161 P) :: (nat_lit 162, o162 P) :: (nat_lit 168, o168 P) :: (nat_lit 169, o169 P) :: (nat_lit 175, o175 P) :: (nat_lit 176, o176 P) :: (nat_lit 182, o182 P) :: (nat_lit 183, o183 P) :: (nat_lit 189, o189 P) :: (nat_lit 190, o190 P) :: (nat_lit 196, o196 P) :: (nat_lit 197, o197 P) :: (nat_lit 203, o203 P) :: (nat_lit 204, o204 P) :: (nat_lit 210, o210 P) :: (nat_lit 211, o211 P) :: (nat_lit 217, o217 P) :: (nat_lit 218, o218 P) :: (nat_lit 222, o222 P) :: (nat_lit 223, o223 P) :: []
noncomputable def KA : List Addr := nat_lit 2 :: nat_lit 3 :: nat_lit 9 :: nat_lit 13 :: nat_lit 22 :: nat_lit 31 :: nat_lit 32 :: nat_lit 33 :: nat_lit 77 :: nat_lit 78 :: nat_lit 84 :: nat_lit 85 :: nat_lit 91 :: nat_lit 92 :: nat_lit 98 :: nat_lit 99 :: nat_lit 105 :: nat_lit 106 :: nat_lit 112 :: nat_lit 113 :: nat_lit 119 :: nat_lit 120 :: nat_lit 126 :: nat_lit 127 :: nat_lit 133 :: nat_lit 134 :: nat_lit 140 :: nat_lit 141 :: nat_lit 147 :: nat_lit 148 :: nat_lit 154 :: nat_lit 155 :: nat_lit 161 :: nat_lit 162 :: nat_lit 168 :: nat_lit 169 :: nat_lit 175 :: nat_lit 176 :: nat_lit 182 :: nat_lit 183 :: nat_lit 189 :: nat_lit 190 :: nat_lit 196 :: nat_lit 197 :: nat_lit 203 :: nat_lit 204 :: nat_lit 210 :: nat_lit 211 :: nat_lit 217 :: nat_lit 218 :: nat_lit 222 :: nat_lit 223 :: []
theorem KA_eq : ∀ P, KA = (KF P).map (·.1) := fun _ => by kernel_rfl
noncomputable abbrev hookK : Hook := kHook KF KA KA_eq
noncomputable abbrev XtK : Shared → Bool := fun s => xlAt viewQ [] s && recOk [] s
theorem looks1 (w : World) (os : OsState) : ((staticsOk (importedModules pw.main.body) (boot_heap w.params) (absHeap (tr33 w.params) 224 lf) && namesBound pw (absHeap (tr33 w.params) 224 lf) && gensDone (st33 w os).abs && laidKept (boot_heap w.params) (absHeap (tr33 w.params) 224 lf)) = true) := by kernel_rfl
theorem looks3 (w : World) (os : OsState) : hookK.obs (st33 w os).abs = hookK.val w := by kernel_rfl
theorem looks2 (w : World) (os : OsState) : openSeen viewQ looseQ (importedModules pw.main.body) XtK true (st33 w os).abs = openGood viewQ looseQ := by
  rw [PySem.W.Fast.te4187177175401517315]
  kernel_rfl
end
end Mine
end
section
open PySem PySem.W PyProof.Rows
namespace Mine
noncomputable section
theorem leftK : LeftO pw viewQ looseQ XtK hookK.obs hookK.val 16000 :=
  LeftO.of_pieces (H₀ := fun P => boot_heap P) (H₁ := fun P => absHeap (tr33 P) 224 lf) (gs₁ := gs) (d₁ := dr) (k₁ := 2437) (m₀ := 11) (ann := ann6) (M := 16000) open0 size0 run_all (by decide)
    (fun w => funext fun os => by
      refine Prod.ext ?_ (Prod.ext ?_ ?_)
      · exact looks1 w os
      · exact looks2 w os
      · exact looks3 w os)
noncomputable def pos31 : Pos := match stAt 31 with | .FunctionDef _ _ _ _ _ _ _ _ _ p => p | _ => default
noncomputable def lawD : DefRec := ⟨S "law", fp 31, fb 31, fs 31, pos31⟩
noncomputable abbrev rowL : OpenRow := PySem.Challenge.rw_tl0038_01.row
set_option maxHeartbeats 4000000 in
theorem rd1 : readsOut PySem.Challenge.rw_tl0038_01.row.prog PySem.Challenge.rw_tl0038_01.row.prog.main.body "vars" = false := by decide +kernel
theorem rd2 : readsOut PySem.Challenge.rw_tl0038_01.row.prog PySem.Challenge.rw_tl0038_01.row.prog.main.body "dir" = false := by decide +kernel
theorem rd3 : readsOut PySem.Challenge.rw_tl0038_01.row.prog PySem.Challenge.rw_tl0038_01.row.prog.main.body "locals" = false := by decide +kernel
theorem bareQ : (["vars", "dir", "locals"] : List Str).filter (readsOut PySem.Challenge.rw_tl0038_01.row.prog PySem.Challenge.rw_tl0038_01.row.prog.main.body) = [] := by
  rw [List.filter_cons, rd1, List.filter_cons, rd2, List.filter_cons, rd3]; rfl
theorem strictQ : (!(importedModules PySem.Challenge.rw_tl0038_01.row.prog.main.body).all cThrough.contains) = false := by decide +kernel
theorem roadQ0 : noRoadLSs { strict := false, foot := none, bare := [] } PySem.Challenge.rw_tl0038_01.row.prog.main.body = true := by decide +kernel
theorem roadQ : noRoadLSs { strict := !(importedModules PySem.Challenge.rw_tl0038_01.row.prog.main.body).all cThrough.contains, foot := none, bare := (["vars", "dir", "locals"] : List Str).filter (readsOut PySem.Challenge.rw_tl0038_01.row.prog PySem.Challenge.rw_tl0038_01.row.prog.main.body) } PySem.Challenge.rw_tl0038_01.row.prog.main.body = true := by
  rw [bareQ, strictQ]; exact roadQ0
theorem said : OpenLaw.wellSaid PySem.Challenge.rw_tl0038_01 = true := by
  unfold OpenLaw.wellSaid OpenRow.wellSaid OpenRow.partSaid looksOpen
  repeat' with_reducible refine look_both ?_ ?_
  all_goals first | with_reducible exact roadQ | decide +kernel
end
end Mine
end
section
open PySem PySem.W PyProof.Rows
namespace Mine
theorem runs_toks {M : Model} {Γ : Ctx} {p : Pos} {t : Sem Fin} {fs : List Frame} {s : Shared} {e : End} {s' : Shared} (h : Runs M Γ p t fs s e s') : s.toks ≤ s'.toks := by
  induction h with
  | done | raise | yield => exact Nat.le_refl _
  | fresh _ ih => exact Nat.le_trans (Nat.le_succ _) ih
  | call _ _ a b => exact Nat.le_trans a b
  | callSusp _ a => exact a
  | segRet _ _ a b => exact Nat.le_trans a b
  | segGen _ _ a b => exact Nat.le_trans a b
  | segSuspOut _ _ a => exact a
  | segSuspGen _ _ _ _ a b => exact Nat.le_trans a b
  | resumeFresh _ _ _ _ a b => exact Nat.le_trans a b
  | resumeSuspended _ _ _ _ a b => exact Nat.le_trans a b
  | _ => assumption
theorem wakes_toks {M : Model} {Γ : Ctx} {p : Pos} {g : Nat} {r : Resume} {s s' : Shared} {res : GenResult} (h : Wakes M Γ p g r s res s') : s.toks ≤ s'.toks := by
  unfold Wakes at h
  split at h
  · exact h.elim
  · split at h
    · obtain ⟨e₁, s₁, a, _, _, rfl⟩ := h; have b := runs_toks a; exact b
    · obtain ⟨_, rfl⟩ := h; exact Nat.le_refl _
    · obtain ⟨_, rfl⟩ := h; exact Nat.le_refl _
  · obtain ⟨e₁, s₁, a, _, _, rfl⟩ := h; have b := runs_toks a; exact b
  · obtain ⟨_, rfl⟩ := h; exact Nat.le_refl _
  · obtain ⟨_, rfl⟩ := h; exact Nat.le_refl _
theorem wp_toks {α : Type} {M : Model} {Γ : Ctx} (t : Sem α) : ∀ {Q : α → Pos → Shared → Prop} {E : Value → Pos → Shared → Prop} {p : Pos} {s : Shared} (k : Nat), k ≤ s.toks → Sem.wp M Γ t Q E p s →
    Sem.wp M Γ t (fun a p' s' => k ≤ s'.toks ∧ Q a p' s') (fun e p' s' => k ≤ s'.toks ∧ E e p' s') p s := by
  induction t with
  | pure a => intro Q E p s k hk h; exact ⟨hk, h⟩
  | raise e => intro Q E p s k hk h; exact ⟨hk, h⟩
  | unsupported => intro Q E p s k hk h; exact h
  | finish => intro Q E p s k hk h; exact h
  | register => intro Q E p s k hk h; exact h
  | «yield» => intro Q E p s k hk h; exact h
  | fork => intro Q E p s k hk h; exact h
  | await => intro Q E p s k hk h; exact h
  | rule _ _ ih => intro Q E p s k hk h; exact ih () k hk h
  | «at» _ _ ih => intro Q E p s k hk h; exact ih () k hk h
  | load _ _ _ ih => intro Q E p s k hk h; obtain ⟨o, ho, h⟩ := h; exact ⟨o, ho, ih o k hk h⟩
  | update _ _ _ _ ih => intro Q E p s k hk h; exact ⟨h.1, ih () k hk h.2⟩
  | loadIfAlive _ _ ih => intro Q E p s k hk h; exact ih _ k hk h
  | point _ _ ih => intro Q E p s k hk h; exact ih () k hk h
  | alloc _ _ ih => intro Q E p s k hk h; exact ih _ k hk h
  | fresh _ ih => intro Q E p s k hk h; exact ih _ k (Nat.le_succ_of_le hk) h
  | ask _ ih => intro Q E p s k hk h; exact ih _ k hk h
  | choose _ _ _ ih => intro Q E p s k hk h; exact ⟨h.1, ih _ k hk h.2⟩
  | os _ _ _ ih => intro Q E p s k hk h; exact ih _ k hk h
  | call _ _ _ _ _ ih => intro Q E p s k hk h; obtain ⟨r, s', hr, h⟩ := h; exact ⟨r, s', hr, ih r k (Nat.le_trans hk (runs_toks hr)) h⟩
  | handled _ _ ih => intro Q E p s k hk h; exact ih _ k hk h
  | genState _ _ ih => intro Q E p s k hk h; obtain ⟨st, hs, h⟩ := h; exact ⟨st, hs, ih _ k hk h⟩
  | newGen _ _ ih => intro Q E p s k hk h; exact ih _ k hk h
  | resume _ _ _ _ ih => intro Q E p s k hk h; obtain ⟨r, s', hr, h⟩ := h; exact ⟨r, s', hr, ih r k (Nat.le_trans hk (wakes_toks hr)) h⟩
  | stack _ ih => intro Q E p s k hk h; exact ih _ k hk h
  | thread _ ih => intro Q E p s k hk h; exact ih _ k hk h
/-- tokens never fall -/
theorem wpAny_toks {α : Type} {M : Model} {A : Around} {t : Sem α} {Q : α → Shared → Prop} {E : Value → Shared → Prop} {s : Shared} (h : wpAny M A t (fun a s' => s.toks ≤ s'.toks → Q a s') E s) : wpAny M A t Q E s :=
  fun Γ p hΓ => Sem.wp_mono M Γ t (fun a _ s' x => x.2 x.1) (fun e _ s' x => x.2) p s (wp_toks t s.toks (Nat.le_refl _) (h Γ p hΓ))
end Mine
end
section
open PySem PySem.W PyProof.Rows
set_option maxHeartbeats 1000000
namespace Mine
section
variable {prog : Program} {w : World} {A : Around} {E : Value → Shared → Prop} {h : Heap} {g : Array GenState} {d : Drawn} {t : Nat} {os : OsState} {x : Str} {u : Tok}
theorem lk_getitem : typeLookup (.type "str") "__getitem__" = (pure (some (.builtin "str.__getitem__")) : Sem _) := by rw [typeLookup_type, builtinLookup_eq_fast]; kernel_rfl
theorem ty_getitem : typeOf (.builtin "str.__getitem__") = (pure (.type "wrapper_descriptor") : Sem _) := by kernel_rfl
theorem slot_wd_get : Slot "wrapper_descriptor" "__get__" "wrapper_descriptor.__get__" :=
  .of (owner := "wrapper_descriptor") (n := "__get__") (by rw [typeLookup_type, builtinLookup_eq_fast]; kernel_rfl) (by decide +kernel) (by decide +kernel) (by decide +kernel)
    (by first | exact .inl (by decide +kernel) | exact .inr (by decide +kernel)) (by rw [isSubtype_type]; kernel_rfl)
theorem entry_wd_get : entryFor table "wrapper_descriptor.__get__" = some Builtin.«wrapper_descriptor.__get__» := entryFor_of_tree (by kernel_rfl)
theorem args_wd_get (a b c : Value) : argsOk "wrapper_descriptor.__get__" ⟨[a, b, c], []⟩ := by unfold argsOk; kernel_rfl
theorem lk_wset : typeLookup (.type "wrapper_descriptor") "__set__" = (pure none : Sem _) := by rw [typeLookup_type, builtinLookup_eq_fast]; kernel_rfl
theorem lk_wdel : typeLookup (.type "wrapper_descriptor") "__delete__" = (pure none : Sem _) := by rw [typeLookup_type, builtinLookup_eq_fast]; kernel_rfl
theorem sub_str_getitem : isSubtype (.type "str") (.type (".".intercalate ("str.__getitem__".cutAt '.').dropLast)) = (pure true : Sem _) := by
  have e0 : "str.__getitem__".cutAt '.' = ["str", "__getitem__"] := by first | rfl | decide +kernel
  rw [e0, show ".".intercalate (["str", "__getitem__"].dropLast) = "str" by decide +kernel, isSubtype_type]; kernel_rfl
theorem get_call {R : Result → Shared → Prop} (hq : ∀ o, R (.ok (.ret (.ref h.objs.size))) ⟨h.push o, g, d, t, os⟩) :
    codeAny (model prog w) A (.call (.builtin "wrapper_descriptor.__get__") ⟨[.builtin "str.__getitem__", .str x u, .type "str"], []⟩) R ⟨h, g, d, t, os⟩ := by
  have hT : (⟨h, g, d, t, os⟩ : Shared).TypeIs (.str x u) "str" := rfl
  have hT5 : (⟨h, g, d, t, os⟩ : Shared).TypeIs (.builtin "str.__getitem__") "wrapper_descriptor" := ty_getitem
  have f8 := sub_str_getitem
  refine codeAny_call_builtin slot_wd_get.plain entry_wd_get (slot_wd_get.check _ _ _ _ _ _ _ _ hT5 (args_wd_get _ _ _) ?_)
  repeat (any_goals (first | assumption | exact hq _ | wp_step))
theorem get_entry {tk : Tok} {Q : Fin → Shared → Prop} (hq : ∀ o, Q (.done (.ret (.ref h.objs.size))) ⟨h.push o, g, d, t, os⟩) :
    wpAny (model prog w) A (Builtin.«object.__getattribute__» ⟨[.str x u, .str "__getitem__" tk], []⟩) Q E ⟨h, g, d, t, os⟩ := by
  have hT : (⟨h, g, d, t, os⟩ : Shared).TypeIs (.str x u) "str" := rfl
  have hT5 : (⟨h, g, d, t, os⟩ : Shared).TypeIs (.builtin "str.__getitem__") "wrapper_descriptor" := ty_getitem
  have f4 := lk_getitem
  have f5 := ty_getitem
  have f6 := slot_wd_get.lookup
  have f7 := lk_wset
  have f8 := lk_wdel
  repeat (any_goals (first | assumption | wp_step))
  refine get_call fun o => ?_
  repeat (any_goals (first | assumption | exact hq _ | wp_step))
theorem get_callA {tk : Tok} {R : Result → Shared → Prop} (hq : ∀ o, R (.ok (.ret (.ref h.objs.size))) ⟨h.push o, g, d, t, os⟩) :
    codeAny (model prog w) A (.call (.builtin "object.__getattribute__") ⟨[.str x u, .str "__getitem__" tk], []⟩) R ⟨h, g, d, t, os⟩ :=
  codeAny_call_builtin F.slot_str_getattribute.plain F.entry_object_getattribute (F.slot_str_getattribute.check _ _ _ _ _ _ _ _ (show (⟨h, g, d, t, os⟩ : Shared).TypeIs (.str x u) "str" from rfl) (F.args_object_getattribute_2 _ _) (get_entry hq))
theorem get_by {tk : Tok} {Q : Value → Shared → Prop} (hq : ∀ o, Q (.ref h.objs.size) ⟨h.push o, g, d, t, os⟩) : wpAny (model prog w) A (getAttrBy (.str x u) (.str "__getitem__" tk) false) Q E ⟨h, g, d, t, os⟩ := by
  have hT : (⟨h, g, d, t, os⟩ : Shared).TypeIs (.str x u) "str" := rfl
  have f2 := F.slot_str_getattribute.lookup
  have f3 := F.slot_str_getattribute.bind (.str x u)
  repeat (any_goals (first | assumption | wp_step))
  refine get_callA fun o => ?_
  repeat (any_goals (first | assumption | exact hq _ | wp_step))
theorem kind_hasattr : builtinKind "hasattr" = none := by decide +kernel
theorem plain_hasattr : plainId "hasattr" = true := by decide +kernel
theorem entry_hasattr : entryFor table "hasattr" = some Builtin.«hasattr» := entryFor_of_tree (by kernel_rfl)
theorem args_hasattr (a b : Value) : argsOk "hasattr" ⟨[a, b], []⟩ := by unfold argsOk; kernel_rfl
theorem by_q {tk : Tok} {Q : Option Value → Shared → Prop} (hq : ∀ o v, Q (some v) ⟨h.push o, g, d, t, os⟩) : wpAny (model prog w) A (getAttrBy? (.str x u) (.str "__getitem__" tk)) Q E ⟨h, g, d, t, os⟩ := by
  unfold getAttrBy?
  refine wpAny_bind (wpAny_attempt (get_by fun o => ?_))
  exact wpAny_pure (hq _ _)
theorem hasattr_entry {tk : Tok} {Q : Fin → Shared → Prop} (hq : ∀ o, Q (.done (.ret (.bool true))) ⟨h.push o, g, d, t, os⟩) :
    wpAny (model prog w) A (Builtin.«hasattr» ⟨[.str x u, .str "__getitem__" tk], []⟩) Q E ⟨h, g, d, t, os⟩ := by
  have hT : (⟨h, g, d, t, os⟩ : Shared).TypeIs (.str x u) "str" := rfl
  have f4 := lk_getitem
  have f2 := F.slot_str_getattribute.lookup
  have f9 : (withoutEnding? "str.__getitem__" "#data").isSome = false := by decide +kernel
  repeat (any_goals (first | assumption | (with_reducible refine by_q fun o v => ?_) | exact hq _ | wp_step))
theorem hasattr_str {s : Shared} {tk : Tok} {Q : Value → Shared → Prop} (hq : ∀ o, Q (.bool true) { s with heap := s.heap.push o }) :
    wpAny (model prog w) A (call (.builtin "hasattr") [.str x u, .str "__getitem__" tk]) Q E s := by
  obtain ⟨h, g, d, t, os⟩ := s
  exact Calls.call_function_entry kind_hasattr plain_hasattr entry_hasattr (args_hasattr _ _) (hasattr_entry fun o => ⟨_, rfl, hq o⟩)
end
end Mine
end
section
open PySem PySem.W PyProof.Rows
namespace Mine
noncomputable abbrev LQ : List Str := looseW viewQ looseQ
noncomputable abbrev Led := List (Addr × Obj)
theorem kf_filled : ∀ (P : Params) (h : Heap) (_ : (KF P).In h) (_ : PySem.Challenge.rw_tl0038_01.most = some 63), True := by
  k_fill
  intros
  trivial
set_option maxHeartbeats 4000000
section
variable {w : World} {mean : ExcName → Option Value} {mg mb : Str → Option Value} {dp un : Nat} {gd : Option (List Code)} {cn : Str} {cs : Scope} {a : Addr} {ccd : Value} {cl : List (Str × Addr)} {outer : List Env} {A₀ : Around} {base h₀ : Heap} {L : Addr} {m : Str → Option Value} {s : Shared} {Q E : Value → Shared → Prop} {news : Led}
theorem con_add {x y : Int} {tx ty : Tok} (B : Below A₀ base outer h₀) (F : Fr h₀ L s.heap m) (X : (KF w.params).In h₀) (N : News h₀ L s.heap news) (T : Top viewQ LQ mean mg mb h₀) (hk : cs.kind = .function)  (hd : dp + 1 < recursionLimit) (hu : un + 8 < cLine)
    (hret : ∀ (t : Tok) (h' : Heap) (tk' : Nat), Fr h₀ L h' m → News h₀ L h' news → s.toks ≤ tk' → Q (.int (x + y) t) { s with heap := h', toks := tk' }) :
    wpAny (model PySem.Challenge.rw_tl0038_01.row.prog w) (ktrTop dp un gd cn cs L a ccd cl outer) (call (.ref 92) [.int x tx, .int y ty]) Q E s := by
  suffices key : ∀ Q' : Value → Shared → Prop, (∀ (t : Tok) (h' : Heap) (tk' : Nat), Fr h₀ L h' m → News h₀ L h' news → Q' (.int (x + y) t) { s with heap := h', toks := tk' }) → wpAny (model PySem.Challenge.rw_tl0038_01.row.prog w) (ktrTop dp un gd cn cs L a ccd cl outer) (call _ _) Q' E s from
    wpAny_toks (key _ fun t h' tk' F N l => hret t h' tk' F N l)
  clear hret
  intro Q' hr
  refine wpAny_call ?_
  k_dflt cell_enter
  k_steps
  all_goals cb_end hr
theorem con_sub {x y : Int} {tx ty : Tok} (B : Below A₀ base outer h₀) (F : Fr h₀ L s.heap m) (X : (KF w.params).In h₀) (N : News h₀ L s.heap news) (T : Top viewQ LQ mean mg mb h₀) (hk : cs.kind = .function)  (hd : dp + 1 < recursionLimit) (hu : un + 8 < cLine)
    (hret : ∀ (t : Tok) (h' : Heap) (tk' : Nat), Fr h₀ L h' m → News h₀ L h' news → s.toks ≤ tk' → Q (.int (x - y) t) { s with heap := h', toks := tk' }) :
    wpAny (model PySem.Challenge.rw_tl0038_01.row.prog w) (ktrTop dp un gd cn cs L a ccd cl outer) (call (.ref 106) [.int x tx, .int y ty]) Q E s := by
  suffices key : ∀ Q' : Value → Shared → Prop, (∀ (t : Tok) (h' : Heap) (tk' : Nat), Fr h₀ L h' m → News h₀ L h' news → Q' (.int (x - y) t) { s with heap := h', toks := tk' }) → wpAny (model PySem.Challenge.rw_tl0038_01.row.prog w) (ktrTop dp un gd cn cs L a ccd cl outer) (call _ _) Q' E s from
    wpAny_toks (key _ fun t h' tk' F N l => hret t h' tk' F N l)
  clear hret
  intro Q' hr
  refine wpAny_call ?_
  k_dflt cell_enter
  k_steps
  all_goals cb_end hr
theorem con_gt {x y : Int} {tx ty : Tok} (B : Below A₀ base outer h₀) (F : Fr h₀ L s.heap m) (X : (KF w.params).In h₀) (N : News h₀ L s.heap news) (T : Top viewQ LQ mean mg mb h₀) (hk : cs.kind = .function)  (hd : dp + 1 < recursionLimit) (hu : un + 8 < cLine)
    (hret : ∀ (t : Tok) (h' : Heap) (tk' : Nat), Fr h₀ L h' m → News h₀ L h' news → s.toks ≤ tk' → Q (.bool (decide (x > y))) { s with heap := h', toks := tk' }) :
    wpAny (model PySem.Challenge.rw_tl0038_01.row.prog w) (ktrTop dp un gd cn cs L a ccd cl outer) (call (.ref 85) [.int x tx, .int y ty]) Q E s := by
  suffices key : ∀ Q' : Value → Shared → Prop, (∀ (t : Tok) (h' : Heap) (tk' : Nat), Fr h₀ L h' m → News h₀ L h' news → Q' (.bool (decide (x > y))) { s with heap := h', toks := tk' }) → wpAny (model PySem.Challenge.rw_tl0038_01.row.prog w) (ktrTop dp un gd cn cs L a ccd cl outer) (call _ _) Q' E s from
    wpAny_toks (key _ fun t h' tk' F N l => hret t h' tk' F N l)
  clear hret
  intro Q' hr
  refine wpAny_call ?_
  k_dflt cell_enter
  k_steps
  all_goals cb_end hr
theorem con_mul {x y : Int} {tx ty : Tok} (B : Below A₀ base outer h₀) (F : Fr h₀ L s.heap m) (X : (KF w.params).In h₀) (N : News h₀ L s.heap news) (T : Top viewQ LQ mean mg mb h₀) (hk : cs.kind = .function) (hp0 : x.natAbs < 2 ^ 31) (hp1 : y.natAbs < 2 ^ 31) (hd : dp + 1 < recursionLimit) (hu : un + 8 < cLine)
    (hret : ∀ (t : Tok) (h' : Heap) (tk' : Nat), Fr h₀ L h' m → News h₀ L h' news → s.toks ≤ tk' → Q (.int (x * y) t) { s with heap := h', toks := tk' }) :
    wpAny (model PySem.Challenge.rw_tl0038_01.row.prog w) (ktrTop dp un gd cn cs L a ccd cl outer) (call (.ref 99) [.int x tx, .int y ty]) Q E s := by
  suffices key : ∀ Q' : Value → Shared → Prop, (∀ (t : Tok) (h' : Heap) (tk' : Nat), Fr h₀ L h' m → News h₀ L h' news → Q' (.int (x * y) t) { s with heap := h', toks := tk' }) → wpAny (model PySem.Challenge.rw_tl0038_01.row.prog w) (ktrTop dp un gd cn cs L a ccd cl outer) (call _ _) Q' E s from
    wpAny_toks (key _ fun t h' tk' F N l => hret t h' tk' F N l)
  clear hret
  intro Q' hr
  refine wpAny_call ?_
  k_dflt cell_enter
  k_steps
  all_goals cb_end hr
local macro_rules | `(tactic| walk_at "call builtin:hasattr") => `(tactic| (k_here; refine hasattr_str ?_; (rename Fr _ _ _ _ => kF); (rename News _ _ _ _ => kN); intro kO; replace kN := kN.pushKeep kO; replace kF := kF.push kO))
theorem con_concat {x y : Str} {tx ty : Tok} (B : Below A₀ base outer h₀) (F : Fr h₀ L s.heap m) (X : (KF w.params).In h₀) (N : News h₀ L s.heap news) (T : Top viewQ LQ mean mg mb h₀) (hk : cs.kind = .function) (hp0 : x.length < 2 ^ 20) (hp1 : y.length < 2 ^ 20) (hd : dp + 1 < recursionLimit) (hu : un + 8 < cLine)
    (hret : ∀ (t : Tok) (h' : Heap) (tk' : Nat), Fr h₀ L h' m → News h₀ L h' news → s.toks ≤ tk' → Q (.str (x ++ y) t) { s with heap := h', toks := tk' }) :
    wpAny (model PySem.Challenge.rw_tl0038_01.row.prog w) (ktrTop dp un gd cn cs L a ccd cl outer) (call (.ref 113) [.str x tx, .str y ty]) Q E s := by
  suffices key : ∀ Q' : Value → Shared → Prop, (∀ (t : Tok) (h' : Heap) (tk' : Nat), Fr h₀ L h' m → News h₀ L h' news → Q' (.str (x ++ y) t) { s with heap := h', toks := tk' }) → wpAny (model PySem.Challenge.rw_tl0038_01.row.prog w) (ktrTop dp un gd cn cs L a ccd cl outer) (call _ _) Q' E s from
    wpAny_toks (key _ fun t h' tk' F N l => hret t h' tk' F N l)
  clear hret
  intro Q' hr
  refine wpAny_call ?_
  k_dflt cell_enter
  k_steps
  all_goals cb_end hr
end
end Mine
end
section
open PySem PySem.W PyProof.Rows
namespace Mine
theorem hashInt_small {i : Int} (h0 : 0 ≤ i) (h1 : i < 2 ^ 61 - 1) : hashInt i = i := by
  have e : rawHash i = i := hashVal_small h0 h1
  unfold hashInt
  rw [e]
  exact if_neg (by simp; omega)
noncomputable def P0 : Params := { strHash := fun _ => 0, shareClass := fun _ => 0, mergeTok := id, idOf := fun _ => 0, idOfShared := fun _ _ => 0, followText := fun _ => false, idOfImm := fun _ => 0 }
noncomputable def b1set : List (Int × Value) := match (o22 P0).data with | .set es _ _ => es.toList | _ => []
noncomputable def inB1 (c : Nat) : Bool := b1set.any fun e => e.1 == (c : Int)
theorem b1_ok : (b1set.all fun e => (match e.2 with | .int i _ => i == e.1 | _ => false) && decide (0 ≤ e.1) && decide (e.1 < 2 ^ 61 - 1)) = true := by decide +kernel
theorem b1_setOf (prog : Program) (w : World) {h : Heap} (X : (KF w.params).In h) : h.SetOf (intKind prog w) 22 (fun k => b1set.any fun e => e.1 == k) 27 := by
  have hl : h.get? 22 = some (o22 w.params) := X _ _ rfl
  have all : ∀ e ∈ b1set, ∃ t, e.2 = .int e.1 t ∧ 0 ≤ e.1 ∧ e.1 < 2 ^ 61 - 1 := by
    intro e he
    have := List.all_eq_true.mp b1_ok e he
    obtain ⟨k, v⟩ := e
    cases v <;> simp at this
    rename_i i t
    obtain ⟨⟨h1, h2⟩, h3⟩ := this
    subst h1
    exact ⟨t, rfl, h2, h3⟩
  refine ⟨o22 w.params, b1set.toArray, 29, _, hl, ⟨rfl, rfl, rfl⟩, rfl, ?_, ?_, by decide +kernel, by kernel_rfl, by kernel_rfl⟩
  · intro e he
    obtain ⟨t, h1, h2, h3⟩ := all e he
    rw [h1]
    exact ⟨⟨e.1, by simp [intKind, Value.isInt], (hashInt_small h2 h3).symm⟩, rfl⟩
  · intro k
    rw [List.any_eq_true]
    constructor
    · rintro ⟨e, he, hk⟩
      obtain ⟨t, h1, _⟩ := all e he
      exact ⟨e, he, by rw [h1]; simpa [intKind, Value.isInt] using hk⟩
    · rintro ⟨e, he, hk⟩
      obtain ⟨t, h1, _⟩ := all e he
      rw [h1] at hk
      exact ⟨e, he, by simpa [intKind, Value.isInt] using hk⟩
noncomputable def b3tab : List (Int × Str) := kvs3.map tb
noncomputable def b3look (c : Int) : Option Str := (b3tab.find? fun d => d.1 == c).map (·.2)
noncomputable def StrOpt (a : Option Value) (b : Option Str) : Prop := (b = none ∧ a = none) ∨ ∃ y t, b = some y ∧ a = some (.str y t)
theorem find_from {k : Int} : ∀ {t : Nat} {l : List (Int × Str)}, StrOpt (((entsFrom t l).find? fun e => Value.isInt k e.key).map (·.val)) ((l.find? fun d => d.1 == k).map (·.2))
  | t, [] => .inl ⟨rfl, rfl⟩
  | t, (i, x) :: r => by
    show StrOpt (Option.map _ (List.find? _ (_ :: entsFrom _ r))) _
    rw [List.find?_cons, List.find?_cons]
    by_cases h : (i == k) = true
    · rw [h, show Value.isInt k (Value.int i _) = true from h]
      exact .inr ⟨_, _, rfl, rfl⟩
    · have h := eq_false_of_ne_true h
      rw [h, show Value.isInt k (Value.int i _) = false from h]
      exact find_from
theorem find_short {k : Int} : ∀ {t : Nat} {l : List (Int × Str)}, StrOpt (((entsShort t l).find? fun e => Value.isInt k e.key).map (·.val)) ((l.find? fun d => d.1 == k).map (·.2))
  | t, [] => .inl ⟨rfl, rfl⟩
  | t, (i, x) :: r => by
    show StrOpt (Option.map _ (List.find? _ (_ :: entsShort _ r))) _
    rw [List.find?_cons, List.find?_cons]
    by_cases h : (i == k) = true
    · rw [h, show Value.isInt k (Value.int i _) = true from h]
      exact .inr ⟨_, _, rfl, rfl⟩
    · have h := eq_false_of_ne_true h
      rw [h, show Value.isInt k (Value.int i _) = false from h]
      exact find_short
theorem find_app {k : Int} {a b : List DictEntry} {l m : List (Int × Str)} (ha : StrOpt ((a.find? fun e => Value.isInt k e.key).map (·.val)) ((l.find? fun d => d.1 == k).map (·.2)))
    (hb : StrOpt ((b.find? fun e => Value.isInt k e.key).map (·.val)) ((m.find? fun d => d.1 == k).map (·.2))) : StrOpt (((a ++ b).find? fun e => Value.isInt k e.key).map (·.val)) (((l ++ m).find? fun d => d.1 == k).map (·.2)) := by
  rw [List.find?_append, List.find?_append]
  rcases ha with ⟨h2, h1⟩ | ⟨y, t, h2, h1⟩
  · rw [Option.map_eq_none_iff] at h1 h2
    rw [h1, h2]
    exact hb
  · obtain ⟨e, e1, e2⟩ := Option.map_eq_some_iff.mp h1
    obtain ⟨d, d1, d2⟩ := Option.map_eq_some_iff.mp h2
    rw [e1, d1]
    exact .inr ⟨y, t, congrArg some d2, congrArg some e2⟩
noncomputable def b3ents : List DictEntry := entsFrom 256 (kv0.map tb ++ (kvss.map (·.map tb)).flatten) ++ entsShort 2194 (kvR.map tb)
theorem b3_find (k : Int) : StrOpt (findBy Value.isInt b3ents.toArray k) (b3look k) := by
  unfold findBy b3look b3tab
  rw [← all_tb, List.find?_toArray]
  exact find_app find_from find_short
theorem b3_keys (prog : Program) (w : World) : KeysOf (intKind prog w) b3ents.toArray := by
  intro e he
  have he' : e ∈ b3ents := by simpa using he
  have hk : ∀ e ∈ b3ents, ∃ t, e.key = .int e.hash t := by
    intro e he
    rcases List.mem_append.mp he with h | h
    · exact entsFrom_int e h
    · exact entsShort_int e h
  have hh : e.hash ∈ (kvs3.map tb).map (·.1) := by
    rw [← all_tb, List.map_append]
    rcases List.mem_append.mp he' with h | h
    · exact List.mem_append_left _ (entsFrom_hash h)
    · have := List.mem_map_of_mem (f := (·.hash)) h
      rw [entsShort_keys] at this
      exact List.mem_append_right _ this
  obtain ⟨t, ht⟩ := hk e he'
  obtain ⟨d, hd, q⟩ := List.mem_map.mp hh
  have ok := ok_all kv_ok d hd
  rw [q] at ok
  exact ⟨e.hash, by rw [ht]; simp [intKind, Value.isInt], (hashInt_small ok.1 ok.2).symm⟩
theorem b3_map (prog : Program) (w : World) {h : Heap} (X : (KF w.params).In h) : h.MapOf (intKind prog w) 33 (fun k => findBy Value.isInt b3ents.toArray k) :=
  ⟨o33 w.params, b3ents.toArray, 650, X _ _ rfl, ⟨rfl, rfl, rfl⟩, rfl, b3_keys prog w, fun _ => rfl⟩
section
variable {prog : Program} {w : World} {A : Around} {E : Value → Shared → Prop} {s : Shared} {h₀ : Heap} {L : Addr} {m : Str → Option Value}
theorem in_b1 {c : Nat} {t : Tok} {Q : Value → Shared → Prop} (F : Fr h₀ L s.heap m) (X : (KF w.params).In h₀) (h : Q (.bool (inB1 c)) { s with toks := s.toks + 1 }) :
    wpAny (model prog w) A (compareOp .In (.int (c : Int) t) (.ref 22)) Q E s :=
  wpAny_inSet_of (knd := intKind prog w) (intKind_is prog w _ t) rfl (b1_setOf prog w (X.keeps F.keep)) h
theorem b3_getM {pl : Sem Bool} {Q : Value × List Value → Shared → Prop} (F : Fr h₀ L s.heap m) (X : (KF w.params).In h₀) (h : Q (.builtin "dict.get", [.ref 33]) s) :
    wpAny (model prog w) A (getMethod (.ref 33) "get" pl) Q E s :=
  have M := b3_map prog w (X.keeps F.keep)
  getMethod_builtin M.typeIs PySem.F.plainAttrs_dict PySem.F.slot_dict_get PySem.F.type_dict_get M.noDict h
theorem b3_get {c : Nat} {t : Tok} {Q : Value → Shared → Prop} (F : Fr h₀ L s.heap m) (X : (KF w.params).In h₀)
    (h1 : ∀ x u, b3look c = some x → Q (.str x u) { s with toks := s.toks + 1 }) (h2 : b3look c = none → Q .none { s with toks := s.toks + 1 }) :
    wpAny (model prog w) A (call (.builtin "dict.get") [.ref 33, .int (c : Int) t]) Q E s := by
  have M := b3_map prog w (X.keeps F.keep)
  refine call_meetsIn PySem.F.slot_dict_get M.typeIs PySem.F.entry_dict_get (PySem.F.args_dict_get_2 _ _) (meets_dict_get (intKind prog w) 33 (intKind_is prog w _ t) (by decide)) ⟨_, M, ?_⟩
  rcases b3_find c with ⟨hl, hv⟩ | ⟨y, u, hl, hv⟩
  · rw [hv]; exact h2 hl
  · rw [hv]; exact h1 y u hl
end
end Mine
end
section
open PySem PySem.W PyProof.Rows
namespace Mine
noncomputable def mapB3 (c : Nat) : Str := match b3look c with | some x => x | none => Txt.lower ⟨#[c]⟩
theorem mapB3_some {c : Nat} {x : Str} (h : b3look c = some x) : x = mapB3 c := by unfold mapB3; rw [h]
theorem mapB3_none {c : Nat} (h : b3look c = none) : Txt.lower ⟨#[c]⟩ = mapB3 c := by unfold mapB3; rw [h]
noncomputable def subCost (x y : Str) : Int := if x = y then 0 else if Txt.lower x = Txt.lower y then 1 else 2
noncomputable def unseen (k : Int) : Str := if k < 11 then ⟨#[([173, 847, 6150, 6155, 6156, 6157, 8203, 8204, 8205, 8288, 65279].getD k.toNat 0 : Int).toNat]⟩ else ⟨#[(65013 + k).toNat]⟩
theorem getD_in {lo hi : Int} : ∀ {l : List Int} {n : Nat}, (l.all fun x => decide (lo ≤ x) && decide (x ≤ hi)) = true → lo ≤ 0 → 0 ≤ hi → lo ≤ l.getD n 0 ∧ l.getD n 0 ≤ hi
  | [], n, _, h1, h2 => by simp [h1, h2]
  | x :: l, 0, h, _, _ => by simp at h; simpa using h.1
  | x :: l, n + 1, h, h1, h2 => by
    simp only [List.all_cons, Bool.and_eq_true] at h
    simpa using getD_in (n := n) h.2 h1 h2
local macro_rules | `(tactic| walk_at "call builtin:chr") => `(tactic| (k_here; (with_reducible show wpAny _ _ (call _ [Value.int (List.getD _ _ _) _]) _ _ _); (refine chr_of_range (getD_in (hi := 1114111) (by decide) (by decide) (by decide)).1 (getD_in (lo := 0) (by decide) (by decide) (by decide)).2 ?_)))
local macro_rules | `(tactic| walk_at "compareOp In") => `(tactic| (k_here; (with_reducible show wpAny _ _ (compareOp CmpOp.In (Value.int _ _) (Value.ref 22)) _ _ _); k_dflt (refine' in_b1 ?F ?X ?_; (case F => k_asm); (case X => k_asm))))
local macro_rules | `(tactic| walk_at "getMethod ref") => `(tactic| (k_here; (with_reducible show wpAny _ _ (getMethod (Value.ref 33) _ _) _ _ _); k_dflt (refine' b3_getM ?F ?X ?_; (case F => k_asm); (case X => k_asm)); (try dsimp only)))
local macro_rules | `(tactic| walk_at "call builtin:dict.get") => `(tactic| (k_here; (with_reducible show wpAny _ _ (call _ [Value.ref 33, _]) _ _ _); k_dflt (refine' b3_get ?F ?X ?_ ?_; (case F => k_asm); (case X => k_asm)) <;> intros))
local macro_rules | `(tactic| walk_at "call builtin:str.lower") => `(tactic| (k_here; (try dsimp only); (with_reducible show wpAny _ _ (call _ [Value.str _ _]) _ _ _); refine SCL.lower (by first | assumption | decide | (show (1 : Nat) ≤ _; decide)) ?_; intro _))
noncomputable def form (c : Nat) (k : Int) : Str := if k = 0 then ⟨#[c]⟩ else if k = 1 then ⟨#[((c : Int) - 32).toNat]⟩ else ⟨#[(119808 + 52 * ([0, 1, 2, 4, 7, 8, 9, 10, 11, 12].getD (k - 2).toNat 0) + (c : Int) - 97).toNat]⟩
theorem form_bd {k : Int} {c : Nat} (hc : 97 ≤ c ∧ c ≤ 122) : 0 ≤ 119808 + 52 * ([0, 1, 2, 4, 7, 8, 9, 10, 11, 12].getD (k - 2).toNat 0) + (c : Int) - 97 ∧ 119808 + 52 * ([0, 1, 2, 4, 7, 8, 9, 10, 11, 12].getD (k - 2).toNat 0) + (c : Int) - 97 ≤ 1114111 := by
  have := getD_in (lo := 0) (hi := 12) (l := [0, 1, 2, 4, 7, 8, 9, 10, 11, 12]) (n := (k - 2).toNat) (by decide) (by decide) (by decide)
  omega
local macro_rules | `(tactic| walk_at "call builtin:chr") => `(tactic| (k_here; (with_reducible show wpAny _ _ (call _ [Value.int (119808 + 52 * List.getD _ _ _ + _ - 97) _]) _ _ _); (refine chr_of_range (form_bd (by assumption)).1 (form_bd (by assumption)).2 ?_)))
set_option maxHeartbeats 4000000
section
variable {w : World} {mean : ExcName → Option Value} {mg mb : Str → Option Value} {dp un : Nat} {gd : Option (List Code)} {cn : Str} {cs : Scope} {a : Addr} {ccd : Value} {cl : List (Str × Addr)} {outer : List Env} {A₀ : Around} {base h₀ : Heap} {L : Addr} {m : Str → Option Value} {s : Shared} {Q E : Value → Shared → Prop} {news : Led}
theorem con_in_b1 {c : Nat} {tx : Tok} (B : Below A₀ base outer h₀) (F : Fr h₀ L s.heap m) (X : (KF w.params).In h₀) (N : News h₀ L s.heap news) (T : Top viewQ LQ mean mg mb h₀) (hk : cs.kind = .function)  (hd : dp + 1 < recursionLimit) (hu : un + 8 < cLine)
    (hret : ∀ (t : Tok) (h' : Heap) (tk' : Nat), Fr h₀ L h' m → News h₀ L h' news → s.toks ≤ tk' → Q (.bool (inB1 c)) { s with heap := h', toks := tk' }) :
    wpAny (model PySem.Challenge.rw_tl0038_01.row.prog w) (ktrTop dp un gd cn cs L a ccd cl outer) (call (.ref 32) [.str ⟨#[c]⟩ tx]) Q E s := by
  suffices key : ∀ Q' : Value → Shared → Prop, (∀ (t : Tok) (h' : Heap) (tk' : Nat), Fr h₀ L h' m → News h₀ L h' news → Q' (.bool (inB1 c)) { s with heap := h', toks := tk' }) → wpAny (model PySem.Challenge.rw_tl0038_01.row.prog w) (ktrTop dp un gd cn cs L a ccd cl outer) (call _ _) Q' E s from
    wpAny_toks (key _ fun t h' tk' F N l => hret t h' tk' F N l)
  clear hret
  intro Q' hr
  refine wpAny_call ?_
  k_dflt cell_enter
  k_steps
  all_goals cb_end hr
theorem con_map_b3 {c : Nat} {tx : Tok} (B : Below A₀ base outer h₀) (F : Fr h₀ L s.heap m) (X : (KF w.params).In h₀) (N : News h₀ L s.heap news) (T : Top viewQ LQ mean mg mb h₀) (hk : cs.kind = .function)  (hd : dp + 1 < recursionLimit) (hu : un + 8 < cLine)
    (hret : ∀ (t : Tok) (h' : Heap) (tk' : Nat), Fr h₀ L h' m → News h₀ L h' news → s.toks ≤ tk' → Q (.str (mapB3 c) t) { s with heap := h', toks := tk' }) :
    wpAny (model PySem.Challenge.rw_tl0038_01.row.prog w) (ktrTop dp un gd cn cs L a ccd cl outer) (call (.ref 78) [.str ⟨#[c]⟩ tx]) Q E s := by
  suffices key : ∀ Q' : Value → Shared → Prop, (∀ (t : Tok) (h' : Heap) (tk' : Nat), Fr h₀ L h' m → News h₀ L h' news → Q' (.str (mapB3 c) t) { s with heap := h', toks := tk' }) → wpAny (model PySem.Challenge.rw_tl0038_01.row.prog w) (ktrTop dp un gd cn cs L a ccd cl outer) (call _ _) Q' E s from
    wpAny_toks (key _ fun t h' tk' F N l => hret t h' tk' F N l)
  clear hret
  intro Q' hr
  refine wpAny_call ?_
  k_dflt cell_enter
  k_steps
  · exact cb_retS hr (mapB3_some (by assumption)) (by k_asm) (by k_asm)
  · exact cb_retS hr (mapB3_none (by assumption)) (by k_asm) (by k_asm)
theorem con_subst {x y : Str} {tx ty : Tok} (B : Below A₀ base outer h₀) (F : Fr h₀ L s.heap m) (X : (KF w.params).In h₀) (N : News h₀ L s.heap news) (T : Top viewQ LQ mean mg mb h₀) (hk : cs.kind = .function) (hp0 : x.length ≤ 5592405) (hp1 : y.length ≤ 5592405) (hd : dp + 1 < recursionLimit) (hu : un + 8 < cLine)
    (hret : ∀ (t : Tok) (h' : Heap) (tk' : Nat), Fr h₀ L h' m → News h₀ L h' news → s.toks ≤ tk' → Q (.int (subCost x y) t) { s with heap := h', toks := tk' }) :
    wpAny (model PySem.Challenge.rw_tl0038_01.row.prog w) (ktrTop dp un gd cn cs L a ccd cl outer) (call (.ref 134) [.str x tx, .str y ty]) Q E s := by
  suffices key : ∀ Q' : Value → Shared → Prop, (∀ (t : Tok) (h' : Heap) (tk' : Nat), Fr h₀ L h' m → News h₀ L h' news → Q' (.int (subCost x y) t) { s with heap := h', toks := tk' }) → wpAny (model PySem.Challenge.rw_tl0038_01.row.prog w) (ktrTop dp un gd cn cs L a ccd cl outer) (call _ _) Q' E s from
    wpAny_toks (key _ fun t h' tk' F N l => hret t h' tk' F N l)
  clear hret
  intro Q' hr
  refine wpAny_call ?_
  k_dflt cell_enter
  k_steps
  all_goals (refine cb_retI hr ?_ (by k_asm) (by k_asm); unfold subCost; simp_all)
theorem con_unseen {k : Int} {tx : Tok} (B : Below A₀ base outer h₀) (F : Fr h₀ L s.heap m) (X : (KF w.params).In h₀) (N : News h₀ L s.heap news) (T : Top viewQ LQ mean mg mb h₀) (hk : cs.kind = .function) (hp0 : 0 ≤ k) (hp1 : k < 27) (hd : dp + 1 < recursionLimit) (hu : un + 8 < cLine)
    (hret : ∀ (t : Tok) (h' : Heap) (tk' : Nat), Fr h₀ L h' m → News h₀ L h' news → s.toks ≤ tk' → Q (.str (unseen k) t) { s with heap := h', toks := tk' }) :
    wpAny (model PySem.Challenge.rw_tl0038_01.row.prog w) (ktrTop dp un gd cn cs L a ccd cl outer) (call (.ref 155) [.int k tx]) Q E s := by
  suffices key : ∀ Q' : Value → Shared → Prop, (∀ (t : Tok) (h' : Heap) (tk' : Nat), Fr h₀ L h' m → News h₀ L h' news → Q' (.str (unseen k) t) { s with heap := h', toks := tk' }) → wpAny (model PySem.Challenge.rw_tl0038_01.row.prog w) (ktrTop dp un gd cn cs L a ccd cl outer) (call _ _) Q' E s from
    wpAny_toks (key _ fun t h' tk' F N l => hret t h' tk' F N l)
  clear hret
  intro Q' hr
  refine wpAny_call ?_
  k_dflt cell_enter
  k_steps
  · exact cb_retS hr (by unfold unseen; rw [if_pos (by simp_all)]) (by k_asm) (by exact cb_drop (by assumption) (fun p hp => List.mem_cons_of_mem _ hp))
  · exact cb_retS hr (by unfold unseen; rw [if_neg (by simp_all)]) (by k_asm) (by k_asm)
theorem con_form {c : Nat} {k : Int} {tx ty : Tok} (B : Below A₀ base outer h₀) (F : Fr h₀ L s.heap m) (X : (KF w.params).In h₀) (N : News h₀ L s.heap news) (T : Top viewQ LQ mean mg mb h₀) (hk : cs.kind = .function) (hp0 : 0 ≤ k) (hp1 : k < 12) (hp2 : 97 ≤ c ∧ c ≤ 122) (hd : dp + 1 < recursionLimit) (hu : un + 8 < cLine)
    (hret : ∀ (t : Tok) (h' : Heap) (tk' : Nat), Fr h₀ L h' m → News h₀ L h' news → s.toks ≤ tk' → Q (.str (form c k) t) { s with heap := h', toks := tk' }) :
    wpAny (model PySem.Challenge.rw_tl0038_01.row.prog w) (ktrTop dp un gd cn cs L a ccd cl outer) (call (.ref 162) [.str ⟨#[c]⟩ tx, .int k ty]) Q E s := by
  suffices key : ∀ Q' : Value → Shared → Prop, (∀ (t : Tok) (h' : Heap) (tk' : Nat), Fr h₀ L h' m → News h₀ L h' news → Q' (.str (form c k) t) { s with heap := h', toks := tk' }) → wpAny (model PySem.Challenge.rw_tl0038_01.row.prog w) (ktrTop dp un gd cn cs L a ccd cl outer) (call _ _) Q' E s from
    wpAny_toks (key _ fun t h' tk' F N l => hret t h' tk' F N l)
  clear hret
  intro Q' hr
  refine wpAny_call ?_
  k_dflt cell_enter
  k_steps
  · exact cb_retS hr (by unfold form; rw [if_pos (by simp_all)]) (by k_asm) (by k_asm)
  · exact cb_retS hr (by unfold form; rw [if_neg (by simp_all), if_pos (by simp_all)]) (by k_asm) (by k_asm)
  · exact cb_retS hr (by unfold form; rw [if_neg (by simp_all), if_neg (by simp_all)]) (by k_asm) (by exact cb_drop (by assumption) (fun p hp => List.mem_cons_of_mem _ hp))
end
end Mine
end
section
open PySem PySem.W PyProof.Rows
namespace Mine
/-- a def is entered with an empty ledger of its own: what the caller holds is part of its ground -/
theorem entN {prog : Program} {w : World} {A₀ A : Around} {s : Shared} {base h₀ : Heap} {outer : List Env} {L : Addr} {m : Str → Option Value} {env : Env} {news : List (Addr × Obj)} {K : Frag} {p : Program} {loose : List Str} {mean : ExcName → Option Value} {mg mb : Str → Option Value}
    {Q E : Value → Shared → Prop} {name qual : Str} {params : Arguments} {body : List Stmt} {scope : Scope} {dV kV doc pm cdv ct oc : Value} {an od : Option Addr} {osl : Array (Option Value)} {f : Addr} {pos : List Value} {binds : List (Str × Value)}
    (B : Below A₀ base outer h₀) (F : Fr h₀ L s.heap m) (X₀ : K.In h₀) (N : News h₀ L s.heap news) (T : Top p loose mean mg mb h₀) (hA : A.frames = some (env :: outer)) (hf : env.frame = some L) (hke : env.scope.kind = .function)
    (ho : K.lookup f = some ⟨oc, od, .func (fnOf name qual params body scope dV kV doc pm an cdv ct), osl⟩) (hcd : codeIn K cdv qual = true) (hroom : A.depth < recursionLimit)
    (hbind : BindsTo s (fnOf name qual params body scope dV kV doc pm an cdv ct) ⟨pos, []⟩ binds) (hloc : ∀ y ∈ binds, scope.names.lookup y.1 = some .local)
    (h : ∀ (Q' : Value → Shared → Prop) (hq : ∀ v s', (Fr h₀ L s'.heap m → News h₀ L s'.heap news → s.toks ≤ s'.toks → (∀ b o, s.heap.get? b = some o → b ≠ L → s'.heap.get? b = some o) → Q v s') → Q' v s')
      g L' h₁, Fr h₀ L g m → News h₀ L g news → GSub s.heap g [] → Fr g L' h₁ (fun y => binds.reverse.lookup y) → News g L' h₁ [] → Below A base (env :: outer) g → K.In g → Top p loose mean mg mb g →
      wpAny (model prog w) (A.deeper (envOf qual scope L' f cdv)) (execs body (envOf qual scope L' f cdv))
        (fun fl s' => LeaveK h₀ L m g (fun r s' => match r with | .ok (.ret v) => Q' v s' | .ok _ => False | .error e => E e s') (match fl with | .ret v => v | _ => .none) s')
        (fun e s' => wpAny (model prog w) (A.deeper (envOf qual scope L' f cdv)) (leaving (envOf qual scope L' f cdv) e) (fun _ s'' => E e s'') (fun e' s'' => E e' s'') s')
        { s with heap := h₁, toks := s.toks + binds.length })
    (hco : scope.isCoroutine = false) (hgen : scope.isGenerator = false) (hk : scope.kind = .function)
    (hcell : ∀ x ∈ scope.names, x.2 ≠ .cell) : wpAny (model prog w) A (call (.ref f) pos) Q E s := by
  refine wpAny_toks (wpAny_call ?_)
  refine code_defG (news := []) B F X₀ News.nil T hA hf hke ho hcd hroom hbind hloc (fun g L' h₁ FG F' N' B' X' T' GS => ?_) hco hgen hk hcell
  have keep : ∀ b o, s.heap.get? b = some o → g.get? b = some o := fun b o e => GS b o e (fun q => nomatch q)
  have NG : News h₀ L g news := fun p hp => ⟨keep _ _ (N p hp).1, (N p hp).2.1, (N p hp).2.2⟩
  refine wpAny_mono (h (fun v s' => Fr h₀ L s'.heap m → News h₀ L s'.heap news → (∀ b o, s.heap.get? b = some o → b ≠ L → s'.heap.get? b = some o) → s.toks ≤ s'.toks → Q v s') (fun v s' hh F1 N1 k1 l1 => hh F1 N1 l1 k1) g L' h₁ FG NG GS F' N' B' X' T') (fun fl s' hl => ?_) fun _ _ y => y
  obtain ⟨L₂, m₂, news₂, F₂, N₂, k⟩ := hl
  refine ⟨L₂, m₂, news₂, F₂, N₂, fun F₃ N₃ l => ?_⟩
  exact k F₃ N₃ F₃ (fun p hp => ⟨F₂.keep _ _ (NG p hp).1, (NG p hp).2.1, (NG p hp).2.2⟩) (fun b o e _ => F₂.keep _ _ (keep b o e)) l
end Mine
end
section
open PySem PySem.W PyProof.Rows
namespace Mine
local macro_rules | `(tactic| walk_at "call builtin:list.append") => `(tactic| walk_at "zd0")
set_option hygiene false in
local macro_rules | `(tactic| walk_at "call ref") => `(tactic| (k_here; (with_reducible show wpAny _ _ (call (Value.ref 155) [Value.int _ _]) _ _ _); k_dflt (refine' con_unseen ?B ?F ?X ?N ?T ?hk ?p0 ?p1 ?hd ?hu ?_); walk_at "zB"; (case p0 => first | assumption | omega | l_fact); (case p1 => first | assumption | omega | l_fact); walk_at "zI"))
set_option hygiene false in
local macro_rules | `(tactic| walk_at "call ref") => `(tactic| (k_here; (with_reducible show wpAny _ _ (call (Value.ref 162) [Value.str _ _, Value.int _ _]) _ _ _); k_dflt (refine' con_form ?B ?F ?X ?N ?T ?hk ?p0 ?p1 ?p2 ?hd ?hu ?_); walk_at "zB"; (case p0 => first | assumption | omega | l_fact); (case p1 => first | assumption | omega | l_fact); (case p2 => first | assumption | omega | l_fact); walk_at "zI"))

noncomputable def lpBody (i j : Nat) : List Stmt := match (fb i).getD j default with | .For _ _ b _ _ => b | .While _ b _ _ => b | _ => []
noncomputable def bothOf (c : Nat) (draw : Int) : Str := (if c = 104 then Str.mk #[13259] else Str.mk #[13271]) ++ (if (draw.fdiv 24).fmod 28 > 0 then unseen ((draw.fdiv 24).fmod 28 - 1) else Str.empty)
noncomputable def signOf (word : Str) (c : Nat) (draw : Int) (k : Int) : Str := if (Txt.item word k == ⟨#[c]⟩) = true then form c ((draw.fdiv 2 + k).fmod 12) else bothOf c draw
noncomputable def typedOf (word : Str) (c : Nat) (draw : Int) : Str := Txt.join Str.empty ((rangeKs 0 word.length).map (signOf word c draw))
section
variable {w : World} {mean : ExcName → Option Value} {mg mb : Str → Option Value} {dp un : Nat} {gd : Option (List Code)} {cn : Str} {cs : Scope} {a : Addr} {ccd : Value} {cl : List (Str × Addr)} {outer : List Env} {A₀ : Around} {base g : Heap} {L L' : Addr} {s : Shared} {Q : Flow → Shared → Prop} {E : Value → Shared → Prop}
noncomputable abbrev envF (n : Str) (i : Nat) (L' f c : Addr) : Env := envOf n (fs i) L' f (.ref c)
noncomputable abbrev frTyped (l : Addr) (b : Str) (tb : Tok) (word : Str) (tw : Tok) (c : Nat) (tx : Tok) (draw : Int) (ty : Tok) : Str → Option Value := fun y => if y = S "signs" then some (.ref l) else if y = S "both" then some (.str b tb) else List.lookup y [(S "draw", Value.int draw ty), (S "step", Value.str ⟨#[c]⟩ tx), (S "word", Value.str word tw)]
set_option maxHeartbeats 1000000 in
theorem typed_turn {l : Addr} {word b : Str} {c : Nat} {draw k : Int} {tb tw tx ty t : Tok} {us : List Value} {n : Nat} {own : Led} (hw : word.length < 2 ^ 16) (hc : 97 ≤ c ∧ c ≤ 122) (hdr : 0 ≤ draw) (hb : b = bothOf c draw) (hd : dp + 2 < recursionLimit) (hu : un + 16 < cLine)
    (h0 : 0 ≤ k) (h1 : k < word.length) (hsz : us.toArray.size ≤ sizeLine) (hoff : OwnOff own [l])
    (B' : Below (ktrTop dp un gd cn cs L a ccd cl outer) base (envX cn cs L a ccd cl :: outer) g) (X' : (KF w.params).In g) (T' : Top viewQ LQ mean mg mb g)
    (F : Fr g L' s.heap (fun y => if y = S "k" then some (.int k t) else frTyped l b tb word tw c tx draw ty y))
    (N : News g L' s.heap ((l, W.listOf us.toArray n) :: own))
    (hr : ∀ x t₂ h' tk, x = signOf word c draw k → Fr g L' h' (fun y => if y = S "k" then some (.int k t) else frTyped l b tb word tw c tx draw ty y) →
      News g L' h' ((l, W.listOf (us.toArray.push (.str x t₂)) (n + 1)) :: own) → Q .next { s with heap := h', toks := tk }) :
    wpAny (model PySem.Challenge.rw_tl0038_01.row.prog w) ((ktrTop dp un gd cn cs L a ccd cl outer).deeper (envF (S "_law_typed") 23 L' 169 168)) (execs (lpBody 23 3) (envF (S "_law_typed") 23 L' 169 168)) Q E s := by
  k_steps
  all_goals (refine hr _ _ _ _ ?_ (by k_asm) (by k_asm))
  all_goals (simp only [signOf, *]; try simp)
  all_goals trace_state
set_option maxHeartbeats 1000000 in
theorem typed_loop {l r : Addr} {word b : Str} {c : Nat} {draw : Int} {tb tw tx ty t₀ u₀ v₀ : Tok} (hw : word.length < 2 ^ 16) (hc : 97 ≤ c ∧ c ≤ 122) (hdr : 0 ≤ draw) (hb : b = bothOf c draw) (hd : dp + 2 < recursionLimit) (hu : un + 16 < cLine)
    (B' : Below (ktrTop dp un gd cn cs L a ccd cl outer) base (envX cn cs L a ccd cl :: outer) g) (X' : (KF w.params).In g) (T' : Top viewQ LQ mean mg mb g)
    (F : Fr g L' s.heap (frTyped l b tb word tw c tx draw ty))
    (N : News g L' s.heap [(l, W.listOf #[] 0)]) (R : IsRange s.heap r 0 word.length 1 t₀ u₀ v₀)
    (done : ∀ us n h tk (u : Str → Option Value), StrsAre us ((rangeKs 0 word.length).map (signOf word c draw)) → Fr g L' h (fun y => if y = S "k" then u y else frTyped l b tb word tw c tx draw ty y) →
      News g L' h [(l, W.listOf us.toArray n)] → Q .next { s with heap := h, toks := tk }) :
    wpAny (model PySem.Challenge.rw_tl0038_01.row.prog w) ((ktrTop dp un gd cn cs L a ccd cl outer).deeper (envF (S "_law_typed") 23 L' 169 168)) (pyIter (.ref r))
      (fun it s₂ => LoopAtV PySem.Challenge.rw_tl0038_01.row.prog w ((ktrTop dp un gd cn cs L a ccd cl outer).deeper (envF (S "_law_typed") 23 L' 169 168)) g (envF (S "_law_typed") 23 L' 169 168) (S "k") (lpBody 23 3) Q E it s₂) E s := by
  refine kst_range (σ := List Value × List Str × Nat) (fun c => [(l, W.listOf c.1.toArray c.2.2)]) (fun _ => []) (fun c => StrsAre c.1 c.2.1) [] (fun pre c' => c'.2.1 = pre.map (signOf word c draw)) ([], [], 0) (by rfl) R
    (small_one (by omega) (by omega) (by omega) (by omega)) (by exact rangeSize_nat _ _) F N .nil (fun _ h => nomatch h) rfl ?_ ?_
  · rintro ⟨us, ws, n⟩ pre k t u h tk own hk hlt hoff hF hP F₁ N₁
    dsimp only at hF hP N₁ hk
    have e : (fun y => if y = S "k" then some (Value.int k t) else kstB (fun z => if ([] : List Str).contains z = true then u z else frTyped l b tb word tw c tx draw ty z) [] y) = (fun y => if y = S "k" then some (.int k t) else frTyped l b tb word tw c tx draw ty y) := by
      funext y; simp only [kstB, List.contains_nil]; rfl
    rw [e] at F₁
    refine typed_turn (s := { s with heap := h, toks := tk }) hw hc hdr hb hd hu (by omega) (by omega) ?_ hoff B' X' T' F₁ N₁ ?_
    · rw [sizeLine_eq, List.size_toArray, StrsAre.length hF, hP, List.length_map]
      omega
    · intro x t₂ h' tk' hx F₂ N₂
      refine kst_end (us ++ [.str x t₂], ws ++ [x], n + 1) F₂ N₂ ?_ ?_ rfl ?_ (fun _ h => nomatch h) ?_ ?_
      · intro p hp
        rw [List.mem_singleton.mp hp]
        refine List.mem_cons.mpr (.inl ?_)
        simp
      · exact fun p hp => List.mem_cons_of_mem _ hp
      · exact StrsAre.append' hF (.cons _ _ .nil)
      · intro z hz _ _
        exact if_neg hz
      · simp [hP, hx]
  · rintro ⟨us, ws, n⟩ u h tk hF hP F₁ N₁
    dsimp only at hF hP
    rw [hP] at hF
    refine done us n h tk u hF ?_ N₁
    have e : (fun y => if y = S "k" then u y else kstB (fun z => if ([] : List Str).contains z = true then u z else frTyped l b tb word tw c tx draw ty z) [] y) = (fun y => if y = S "k" then u y else frTyped l b tb word tw c tx draw ty y) := by
      funext y; simp only [kstB, List.contains_nil]; rfl
    rw [← e]
    exact F₁
end
end Mine
end
section
open PySem PySem.W PyProof.Rows
namespace Mine
structure Stop (P : Prop) : Prop where out : P
theorem stopHere {P : Prop} (h : Stop P) : P := h.out
section
variable {w : World} {mean : ExcName → Option Value} {mg mb : Str → Option Value} {dp un : Nat} {gd : Option (List Code)} {cn : Str} {cs : Scope} {a : Addr} {ccd : Value} {cl : List (Str × Addr)} {outer : List Env} {A₀ : Around} {base g : Heap} {L L' : Addr} {s : Shared} {Q : Flow → Shared → Prop} {E : Value → Shared → Prop}
theorem typed_loop' {l r : Addr} {word b : Str} {c : Nat} {draw : Int} {tb tw tx ty t₀ u₀ v₀ : Tok} {m₁ : Str → Option Value} (hw : word.length < 2 ^ 16) (hc : 97 ≤ c ∧ c ≤ 122) (hdr : 0 ≤ draw) (hb : b = bothOf c draw) (hd : dp + 2 < recursionLimit) (hu : un + 16 < cLine)
    (B' : Below (ktrTop dp un gd cn cs L a ccd cl outer) base (envX cn cs L a ccd cl :: outer) g) (X' : (KF w.params).In g) (T' : Top viewQ LQ mean mg mb g)
    (F : Fr g L' s.heap m₁) (hm1 : m₁ (S "signs") = some (.ref l)) (hm2 : m₁ (S "both") = some (.str b tb)) (hm3 : ∀ y, y ≠ S "signs" → y ≠ S "both" → m₁ y = List.lookup y [(S "draw", Value.int draw ty), (S "step", Value.str ⟨#[c]⟩ tx), (S "word", Value.str word tw)])
    (N : News g L' s.heap [(l, W.listOf #[] 0)]) (R : IsRange s.heap r 0 word.length 1 t₀ u₀ v₀)
    (done : ∀ us n h tk (u : Str → Option Value), StrsAre us ((rangeKs 0 word.length).map (signOf word c draw)) → Fr g L' h (fun y => if y = S "k" then u y else frTyped l b tb word tw c tx draw ty y) →
      News g L' h [(l, W.listOf us.toArray n)] → Q .next { s with heap := h, toks := tk }) :
    wpAny (model PySem.Challenge.rw_tl0038_01.row.prog w) ((ktrTop dp un gd cn cs L a ccd cl outer).deeper (envF (S "_law_typed") 23 L' 169 168)) (pyIter (.ref r))
      (fun it s₂ => LoopAtV PySem.Challenge.rw_tl0038_01.row.prog w ((ktrTop dp un gd cn cs L a ccd cl outer).deeper (envF (S "_law_typed") 23 L' 169 168)) g (envF (S "_law_typed") 23 L' 169 168) (S "k") (lpBody 23 3) Q E it s₂) E s := by
  have e : m₁ = frTyped l b tb word tw c tx draw ty := by
    funext y
    dsimp only [frTyped]
    by_cases h1 : y = S "signs"
    · rw [if_pos h1, h1, hm1]
    · rw [if_neg h1]
      by_cases h2 : y = S "both"
      · rw [if_pos h2, h2, hm2]
      · rw [if_neg h2, hm3 y h1 h2]
  subst e
  exact typed_loop hw hc hdr hb hd hu B' X' T' F N R done
end
theorem unseen_len (k : Int) : (unseen k).length = 1 := by unfold unseen; split <;> rfl
theorem un_pre (x : Int) : x.fmod 28 - 1 < 27 := by
  have := Int.fmod_lt_of_pos x (b := 28) (by decide)
  omega
theorem form_len (c : Nat) (k : Int) : (form c k).length = 1 := by
  unfold form
  split
  · rfl
  · split <;> rfl
theorem length_app (a b : Str) : (a ++ b).length = a.length + b.length := Array.size_append
theorem bothOf_len (c : Nat) (draw : Int) : (bothOf c draw).length ≤ 2 := by
  unfold bothOf
  rw [length_app]
  have h1 : (if c = 104 then Str.mk #[13259] else Str.mk #[13271]).length = 1 := by split <;> rfl
  rw [h1]
  split
  · rw [unseen_len]; omega
  · show 1 + 0 ≤ 2; omega
theorem signOf_len (word : Str) (c : Nat) (draw k : Int) : (signOf word c draw k).length ≤ 2 := by
  unfold signOf
  split
  · rw [form_len]; omega
  · exact bothOf_len _ _
theorem sum_le {α : Type} (f : α → Nat) (b : Nat) (hf : ∀ a, f a ≤ b) : ∀ l : List α, (l.map f).sum ≤ b * l.length
  | [] => by simp
  | a :: l => by
    have := sum_le f b hf l
    have := hf a
    simp only [List.map_cons, List.sum_cons, List.length_cons, Nat.mul_add]
    omega
theorem typed_weight {word : Str} (hw : word.length < 2 ^ 16) (c : Nat) (draw : Int) : (((rangeKs 0 word.length).map (signOf word c draw)).map (·.length)).sum + ((rangeKs 0 word.length).map (signOf word c draw)).length ≤ 1048576 := by
  have := sum_le (fun k => (signOf word c draw k).length) 2 (fun k => signOf_len _ _ _ _) (rangeKs 0 word.length)
  rw [List.map_map, List.length_map, rangeKs_length]
  rw [rangeKs_length] at this
  have e : ((fun x : Str => x.length) ∘ signOf word c draw) = fun k => (signOf word c draw k).length := rfl
  rw [e]
  omega
theorem eq_h {c : Nat} : ((Str.mk #[c] == Str.ofString "h") = true) = (c = 104) := by
  have e : Str.ofString "h" = Str.mk #[104] := by decide
  rw [e, beq_iff_eq]
  simp
theorem app_empty (x : Str) : x ++ Str.empty = x := by
  cases x
  show Str.mk (_ ++ #[]) = _
  rw [Array.append_empty]
theorem eq_h' {c : Nat} : ((Str.mk #[c] == Str.ofString "h") = false) = ¬ (c = 104) := by
  rw [← eq_h, Bool.not_eq_true]
theorem both1 {c : Nat} {draw : Int} (h1 : (Str.mk #[c] == Str.ofString "h") = true) (h2 : 0 < (draw.fdiv 24).fmod 28) : Str.ofString "㏋" ++ unseen ((draw.fdiv 24).fmod 28 - 1) = bothOf c draw := by
  rw [eq_h] at h1
  rw [bothOf, if_pos h1, if_pos h2]
  rfl
theorem both2 {c : Nat} {draw : Int} (h1 : (Str.mk #[c] == Str.ofString "h") = true) (h2 : ¬ 0 < (draw.fdiv 24).fmod 28) : Str.ofString "㏋" = bothOf c draw := by
  rw [eq_h] at h1
  rw [bothOf, if_pos h1, if_neg h2, app_empty]
  rfl
theorem both3 {c : Nat} {draw : Int} (h1 : (Str.mk #[c] == Str.ofString "h") = false) (h2 : 0 < (draw.fdiv 24).fmod 28) : Str.ofString "㏗" ++ unseen ((draw.fdiv 24).fmod 28 - 1) = bothOf c draw := by
  rw [eq_h'] at h1
  rw [bothOf, if_neg h1, if_pos h2]
  rfl
theorem both4 {c : Nat} {draw : Int} (h1 : (Str.mk #[c] == Str.ofString "h") = false) (h2 : ¬ 0 < (draw.fdiv 24).fmod 28) : Str.ofString "㏗" = bothOf c draw := by
  rw [eq_h'] at h1
  rw [bothOf, if_neg h1, if_neg h2, app_empty]
  rfl
set_option hygiene false in
local macro_rules | `(tactic| walk_at "call ref") => `(tactic| (k_here; (with_reducible show wpAny _ _ (call (Value.ref 155) [Value.int _ _]) _ _ _); k_dflt (refine' con_unseen ?B ?F ?X ?N ?T ?hk ?p0 ?p1 ?hd ?hu ?_); walk_at "zB"; (case p0 => omega); (case p1 => exact un_pre _); walk_at "zI"))
local macro_rules | `(tactic| walk_at "binaryOp Add str str") => `(tactic| (k_here; (refine SBL.add (hsz := ?hsz) ?_); (case hsz => (rw [unseen_len, sizeLine_eq]; exact Nat.le_of_ble_eq_true rfl)); intro _ _))
local macro_rules | `(tactic| walk_at "pyIter ref") => `(tactic| (k_here; refine stopHere ?_))
local macro_rules | `(tactic| walk_at "call builtin:str.join") => `(tactic| (k_here; (refine' join_listW ?k1 ?k2 ?k3 ?k4 ?_); (case k1 => is_list); (case k2 => assumption); (case k3 => decide); (case k4 => exact typed_weight (by assumption) _ _); intro _ _))
set_option maxHeartbeats 1000000
section
variable {w : World} {mean : ExcName → Option Value} {mg mb : Str → Option Value} {dp un : Nat} {gd : Option (List Code)} {cn : Str} {cs : Scope} {a : Addr} {ccd : Value} {cl : List (Str × Addr)} {outer : List Env} {A₀ : Around} {base h₀ : Heap} {L : Addr} {m : Str → Option Value} {s : Shared} {Q E : Value → Shared → Prop} {news : Led}
theorem con_typed {word : Str} {c : Nat} {draw : Int} {tw tx ty : Tok} (B : Below A₀ base outer h₀) (F : Fr h₀ L s.heap m) (X : (KF w.params).In h₀) (N : News h₀ L s.heap news) (T : Top viewQ LQ mean mg mb h₀) (hk : cs.kind = .function) (hp0 : word.length < 2 ^ 16) (hp1 : 97 ≤ c ∧ c ≤ 122) (hp2 : 0 ≤ draw) (hd : dp + 3 < recursionLimit) (hu : un + 24 < cLine)
    (hret : ∀ (t : Tok) (h' : Heap) (tk' : Nat), Fr h₀ L h' m → News h₀ L h' news → s.toks ≤ tk' → Q (.str (typedOf word c draw) t) { s with heap := h', toks := tk' }) :
    wpAny (model PySem.Challenge.rw_tl0038_01.row.prog w) (ktrTop dp un gd cn cs L a ccd cl outer) (call (.ref 169) [.str word tw, .str ⟨#[c]⟩ tx, .int draw ty]) Q E s := by
  k_dflt (refine' entN (binds := [(S "word", Value.str word tw), (S "step", Value.str ⟨#[c]⟩ tx), (S "draw", Value.int draw ty)]) ?k1 ?k2 ?k3 ?k4 ?k5 ?kA ?kF ?kK ?k6 ?k7 ?k8 ?k9 ?kB ?kG ?c2 ?c3 ?c4 ?c5; (case kA => exact rfl); (case kF => exact rfl); (case kK => assumption); (case k1 => k_asm); (case k2 => k_asm); (case k3 => k_asm); (case k4 => k_asm); (case k5 => k_asm); (case k6 => k_is); (case k7 => k_is); (case k8 => first | exact Nat.lt_of_le_of_lt (Nat.le_add_right _ _) hd | ktr_room); (case k9 => exact BindsTo.of_eq rfl); (case c5 => decide); (case kB => exact locs rfl); (case c2 => exact rfl); (case c3 => exact rfl); (case c4 => exact rfl))
  intro Q' hq g' L' h' FG' NG' GS' F' N' B' X' T'
  have hr : ∀ (t : Tok) (h₂ : Heap) (tk' : Nat), Fr h₀ L h₂ m → News h₀ L h₂ [] → Q' (.str (typedOf word c draw) t) { s with heap := h₂, toks := tk' } := fun t h₂ tk' _ _ => hq _ _ fun F N l _ => hret t h₂ tk' F N l
  clear hq hret
  k_whole
  dsimp only [List.reverse, List.reverseAux, List.length] at F'
  dsimp only [List.length]
  (try k_fold)
  k_steps
  all_goals (refine Stop.mk ?_)
  all_goals (refine typed_loop' (word := word) (c := c) (draw := draw) (tw := tw) (tx := tx) (ty := ty) hp0 hp1 hp2 ?_ (by omega) (by omega) B' X' T' (by assumption) rfl rfl ?_ (by assumption) (by assumption) ?_)
  all_goals first
    | (intro y h1 h2; simp only [h1, h2, if_false]; done)
    | exact both1 (by assumption) (by assumption)
    | exact both2 (by assumption) (by assumption)
    | exact both3 (by assumption) (by assumption)
    | exact both4 (by assumption) (by assumption)
    | (intro us n h tk u hS kF kN; k_steps)
  all_goals (refine hr _ _ _ (by assumption) (fun _ h => nomatch h))
end
end Mine
end
section
open PySem PySem.W PyProof.Rows
namespace Mine
local macro_rules | `(tactic| walk_at "zz0") => `(tactic| skip)
theorem b3_len : (b3tab.all fun d => decide (d.2.length ≤ 4)) = true := by decide +kernel
theorem mapB3_len (c : Nat) : (mapB3 c).length ≤ 4 := by
  unfold mapB3
  cases h : b3look c with
  | some x =>
    unfold b3look at h
    obtain ⟨d, hd, rfl⟩ := Option.map_eq_some_iff.mp h
    exact of_decide_eq_true (List.all_eq_true.mp b3_len d (List.mem_of_find?_eq_some hd))
  | none =>
    have := len_lower (Str.mk #[c])
    have e : (Str.mk #[c]).length = 1 := rfl
    rw [e] at this
    show (Txt.lower _).length ≤ 4
    omega
noncomputable def prepSigns (l : List Int) : List Str := (l.filter fun c => !inB1 c.toNat).map fun c => mapB3 c.toNat
noncomputable def prepOf (text : Str) : Str := if (prepSigns (KStt.codes text)).any (· == Str.empty) = true then Str.empty else Txt.join Str.empty (prepSigns (KStt.codes text))
theorem prep_snoc (pre : List Int) (n : Nat) : prepSigns (pre ++ [(n : Int)]) = if inB1 n = true then prepSigns pre else prepSigns pre ++ [mapB3 n] := by
  unfold prepSigns
  rw [List.filter_append, List.map_append]
  cases h : inB1 n <;> simp [h]
theorem prep_len (l : List Int) : (prepSigns l).length ≤ l.length := by
  unfold prepSigns
  rw [List.length_map]
  exact List.length_filter_le _ _
theorem prep_weight {text : Str} (hw : text.length < 2 ^ 16) : ((prepSigns (KStt.codes text)).map (·.length)).sum + (prepSigns (KStt.codes text)).length ≤ 1048576 := by
  have h0 := prep_len (KStt.codes text)
  rw [KStt.codes_length] at h0
  have := sum_le (fun c : Int => (mapB3 c.toNat).length) 4 (fun c => mapB3_len _) ((KStt.codes text).filter fun c => !inB1 c.toNat)
  have h1 := List.length_filter_le (fun c : Int => !inB1 c.toNat) (KStt.codes text)
  rw [KStt.codes_length] at h1
  have e : ((prepSigns (KStt.codes text)).map (·.length)) = ((KStt.codes text).filter fun c => !inB1 c.toNat).map (fun c : Int => (mapB3 c.toNat).length) := by
    unfold prepSigns
    rw [List.map_map]
    rfl
  rw [e]
  omega
noncomputable abbrev frPrep (l : Addr) (text : Str) (tt : Tok) : Str → Option Value := fun y => if y = S "signs" then some (.ref l) else List.lookup y [(S "text", Value.str text tt)]
section
variable {w : World} {mean : ExcName → Option Value} {mg mb : Str → Option Value} {dp un : Nat} {gd : Option (List Code)} {cn : Str} {cs : Scope} {a : Addr} {ccd : Value} {cl : List (Str × Addr)} {outer : List Env} {A₀ : Around} {base h₀ : Heap} {L : Addr} {m : Str → Option Value} {s : Shared} {Q E : Value → Shared → Prop} {news : Led}
theorem con_in_b1T {c : Nat} {tx : Tok} (B : Below A₀ base outer h₀) (F : Fr h₀ L s.heap m) (X : (KF w.params).In h₀) (N : News h₀ L s.heap news) (T : Top viewQ LQ mean mg mb h₀) (hk : cs.kind = .function) (hp0 : inB1 c = true) (hd : dp + 1 < recursionLimit) (hu : un + 8 < cLine)
    (hret : ∀ (t : Tok) (h' : Heap) (tk' : Nat), Fr h₀ L h' m → News h₀ L h' news → s.toks ≤ tk' → Q (.bool true) { s with heap := h', toks := tk' }) :
    wpAny (model PySem.Challenge.rw_tl0038_01.row.prog w) (ktrTop dp un gd cn cs L a ccd cl outer) (call (.ref 32) [.str ⟨#[c]⟩ tx]) Q E s :=
  con_in_b1 B F X N T hk hd hu (by rw [hp0]; exact hret)
theorem con_in_b1F {c : Nat} {tx : Tok} (B : Below A₀ base outer h₀) (F : Fr h₀ L s.heap m) (X : (KF w.params).In h₀) (N : News h₀ L s.heap news) (T : Top viewQ LQ mean mg mb h₀) (hk : cs.kind = .function) (hp0 : inB1 c = false) (hd : dp + 1 < recursionLimit) (hu : un + 8 < cLine)
    (hret : ∀ (t : Tok) (h' : Heap) (tk' : Nat), Fr h₀ L h' m → News h₀ L h' news → s.toks ≤ tk' → Q (.bool false) { s with heap := h', toks := tk' }) :
    wpAny (model PySem.Challenge.rw_tl0038_01.row.prog w) (ktrTop dp un gd cn cs L a ccd cl outer) (call (.ref 32) [.str ⟨#[c]⟩ tx]) Q E s :=
  con_in_b1 B F X N T hk hd hu (by rw [hp0]; exact hret)
end
set_option hygiene false in
local macro_rules | `(tactic| walk_at "call ref") => `(tactic| (k_here; (with_reducible show wpAny _ _ (call (Value.ref 32) [Value.str _ _]) _ _ _); k_dflt (refine' con_in_b1T ?B ?F ?X ?N ?T ?hk ?p0 ?hd ?hu ?_); walk_at "zB"; (case p0 => assumption); walk_at "zI"))
set_option hygiene false in
local macro_rules | `(tactic| walk_at "call ref") => `(tactic| (k_here; (with_reducible show wpAny _ _ (call (Value.ref 32) [Value.str _ _]) _ _ _); k_dflt (refine' con_in_b1F ?B ?F ?X ?N ?T ?hk ?p0 ?hd ?hu ?_); walk_at "zB"; (case p0 => assumption); walk_at "zI"))
set_option hygiene false in
local macro_rules | `(tactic| walk_at "call ref") => `(tactic| (k_here; (with_reducible show wpAny _ _ (call (Value.ref 78) [Value.str _ _]) _ _ _); k_dflt (refine' con_map_b3 ?B ?F ?X ?N ?T ?hk  ?hd ?hu ?_); walk_at "zB"; walk_at "zI"))
local macro_rules | `(tactic| walk_at "call builtin:list.append") => `(tactic| walk_at "zd0")
section
variable {w : World} {mean : ExcName → Option Value} {mg mb : Str → Option Value} {dp un : Nat} {gd : Option (List Code)} {cn : Str} {cs : Scope} {a : Addr} {ccd : Value} {cl : List (Str × Addr)} {outer : List Env} {A₀ : Around} {base g : Heap} {L L' : Addr} {s : Shared} {Q : Flow → Shared → Prop} {E : Value → Shared → Prop}
set_option maxHeartbeats 1000000 in
theorem prep_turn {l : Addr} {text : Str} {c : Nat} {tt t : Tok} {us : List Value} {n : Nat} {own : Led} {u : Str → Option Value} (hd : dp + 2 < recursionLimit) (hu : un + 16 < cLine)
    (hsz : us.toArray.size ≤ sizeLine) (hoff : OwnOff own [l])
    (B' : Below (ktrTop dp un gd cn cs L a ccd cl outer) base (envX cn cs L a ccd cl :: outer) g) (X' : (KF w.params).In g) (T' : Top viewQ LQ mean mg mb g)
    (F : Fr g L' s.heap (fun y => if y = S "sign" then some (.str ⟨#[c]⟩ t) else if y = S "held" then u y else frPrep l text tt y))
    (N : News g L' s.heap ((l, W.listOf us.toArray n) :: own))
    (hr : ∀ h' tk v, inB1 c = true → Fr g L' h' (fun y => if y = S "held" then some v else if y = S "sign" then some (.str ⟨#[c]⟩ t) else if y = S "held" then u y else frPrep l text tt y) →
      News g L' h' ((l, W.listOf us.toArray n) :: own) → Q .next { s with heap := h', toks := tk })
    (hr2 : ∀ h' tk v t₂, inB1 c = false → Fr g L' h' (fun y => if y = S "held" then some v else if y = S "sign" then some (.str ⟨#[c]⟩ t) else if y = S "held" then u y else frPrep l text tt y) →
      News g L' h' ((l, W.listOf (us.toArray.push (.str (mapB3 c) t₂)) (n + 1)) :: own) → Q .next { s with heap := h', toks := tk }) :
    wpAny (model PySem.Challenge.rw_tl0038_01.row.prog w) ((ktrTop dp un gd cn cs L a ccd cl outer).deeper (envF (S "_law_prepared") 24 L' 176 175)) (execs (lpBody 24 1) (envF (S "_law_prepared") 24 L' 176 175)) Q E s := by
  cases hb : inB1 c
  · k_steps
    all_goals exact hr2 _ _ _ _ hb (by k_asm) (by k_asm)
  · k_steps
    all_goals exact hr _ _ _ hb (by k_asm) (by k_asm)
set_option maxHeartbeats 1000000 in
theorem prep_loop {l : Addr} {text : Str} {tt : Tok} (hw : text.length < 2 ^ 16) (hd : dp + 2 < recursionLimit) (hu : un + 16 < cLine)
    (B' : Below (ktrTop dp un gd cn cs L a ccd cl outer) base (envX cn cs L a ccd cl :: outer) g) (X' : (KF w.params).In g) (T' : Top viewQ LQ mean mg mb g)
    (F : Fr g L' s.heap (frPrep l text tt))
    (N : News g L' s.heap [(l, W.listOf #[] 0)])
    (done : ∀ us n h tk (u : Str → Option Value), StrsAre us (prepSigns (KStt.codes text)) → Fr g L' h (fun y => if y = S "sign" then u y else if y = S "held" then u y else frPrep l text tt y) →
      News g L' h [(l, W.listOf us.toArray n)] → Q .next { s with heap := h, toks := tk }) :
    wpAny (model PySem.Challenge.rw_tl0038_01.row.prog w) ((ktrTop dp un gd cn cs L a ccd cl outer).deeper (envF (S "_law_prepared") 24 L' 176 175)) (pyIter (.str text tt))
      (fun it s₂ => LoopAtV PySem.Challenge.rw_tl0038_01.row.prog w ((ktrTop dp un gd cn cs L a ccd cl outer).deeper (envF (S "_law_prepared") 24 L' 176 175)) g (envF (S "_law_prepared") 24 L' 176 175) (S "sign") (lpBody 24 1) Q E it s₂) E s := by
  have ec : ∀ (u : Str → Option Value) (z : Str), (if ([S "held"] : List Str).contains z = true then u z else frPrep l text tt z) = (if z = S "held" then u z else frPrep l text tt z) := by
    intro u z
    by_cases h : z = S "held" <;> simp [h]
  refine KStt.kst_text (σ := List Value × List Str × Nat) (fun c => [(l, W.listOf c.1.toArray c.2.2)]) (fun _ => []) (fun c => StrsAre c.1 c.2.1) [S "held"] (fun pre c' => c'.2.1 = prepSigns pre) ([], [], 0) (by rfl) F N .nil (fun _ h => nomatch h) rfl ?_ ?_
  · rintro ⟨us, ws, n⟩ pre post k t u h tk own hk hoff hF hP F₁ N₁
    dsimp only at hF hP N₁
    have e : (fun y => if y = S "sign" then some (Value.str ⟨#[k]⟩ t) else kstB (fun z => if ([S "held"] : List Str).contains z = true then u z else frPrep l text tt z) [] y) = (fun y => if y = S "sign" then some (.str ⟨#[k]⟩ t) else if y = S "held" then u y else frPrep l text tt y) := by
      funext y; simp only [kstB, ec]
    rw [e] at F₁
    have hpl : pre.length < 2 ^ 16 := by
      have := congrArg List.length hk
      rw [KStt.codes_length, List.length_append] at this
      omega
    have ho : ∀ (h' : Heap) (v : Value), Fr g L' h' (fun y => if y = S "held" then some v else if y = S "sign" then some (.str ⟨#[k]⟩ t) else if y = S "held" then u y else frPrep l text tt y) →
        ∀ z, z ≠ S "sign" → (∀ p ∈ ([] : List (Str × Value)), z ≠ p.1) → [S "held"].contains z = false → (fun y => if y = S "held" then some v else if y = S "sign" then some (.str ⟨#[k]⟩ t) else if y = S "held" then u y else frPrep l text tt y) z = frPrep l text tt z := by
      intro h' v _ z hz _ hc
      have hz2 : z ≠ S "held" := by
        intro q
        rw [q] at hc
        revert hc
        decide
      simp only [hz, hz2, if_false]
    refine prep_turn (s := { s with heap := h, toks := tk }) hd hu ?_ hoff B' X' T' F₁ N₁ ?_ ?_
    · rw [sizeLine_eq, List.size_toArray, StrsAre.length hF, hP]
      have := prep_len pre
      omega
    · intro h' tk' v hb F₂ N₂
      refine kst_end (us, ws, n) F₂ N₂ ?_ ?_ rfl hF (fun _ h => nomatch h) (ho h' v F₂) ?_
      · exact fun p hp => List.mem_cons.mpr (.inl (List.mem_singleton.mp hp))
      · exact fun p hp => List.mem_cons_of_mem _ hp
      · show ws = _
        rw [prep_snoc, if_pos hb, hP]
    · intro h' tk' v t₂ hb F₂ N₂
      refine kst_end (us ++ [.str (mapB3 k) t₂], ws ++ [mapB3 k], n + 1) F₂ N₂ ?_ ?_ rfl (KStt.strs_snoc hF) (fun _ h => nomatch h) (ho h' v F₂) ?_
      · intro p hp
        rw [List.mem_singleton.mp hp]
        refine List.mem_cons.mpr (.inl ?_)
        simp
      · exact fun p hp => List.mem_cons_of_mem _ hp
      · show ws ++ _ = _
        rw [prep_snoc, hb, if_neg (by decide), hP]
  · rintro ⟨us, ws, n⟩ u h tk hF hP F₁ N₁
    dsimp only at hF hP
    rw [hP] at hF
    refine done us n h tk u hF ?_ N₁
    have e : (fun y => if y = S "sign" then u y else kstB (fun z => if ([S "held"] : List Str).contains z = true then u z else frPrep l text tt z) [] y) = (fun y => if y = S "sign" then u y else if y = S "held" then u y else frPrep l text tt y) := by
      funext y; simp only [kstB, ec]
    rw [← e]
    exact F₁
end
end Mine
end
section
open PySem PySem.W PyProof.Rows
namespace Mine
theorem prep_t {text : Str} (h : ((prepSigns (KStt.codes text)).any fun x => x == Str.ofString "") = true) : Str.ofString "" = prepOf text := by
  unfold prepOf
  exact (if_pos h).symm
theorem prep_f {text : Str} (h : ((prepSigns (KStt.codes text)).any fun x => x == Str.ofString "") = false) : Txt.join (Str.ofString "") (prepSigns (KStt.codes text)) = prepOf text := by
  unfold prepOf
  exact (if_neg (by rw [show ((prepSigns (KStt.codes text)).any fun x => x == Str.empty) = false from h]; decide)).symm
local macro_rules | `(tactic| walk_at "exec For Name Name cons nil") => `(tactic| (k_here; (rename Fr _ _ _ _ => lF'); (with_unfolding_all refine' For_invVF lF' ?k1 ?k2 ?_; (case k1 => exact rfl); (case k2 => exact rfl); k_whole)))
local macro_rules | `(tactic| walk_at "pyIter str") => `(tactic| (k_here; refine stopHere ?_))
local macro_rules | `(tactic| walk_at "call builtin:str.join") => `(tactic| (k_here; (refine' join_listW ?k1 ?k2 ?k3 ?k4 ?_); (case k1 => is_list); (case k2 => assumption); (case k3 => decide); (case k4 => exact prep_weight (by assumption)); intro _ _))
local macro_rules | `(tactic| walk_at "compareOp In str ref") => `(tactic| (k_here; refine' in_list_strs ?k1 ?k2 ?_; (case k1 => is_list); (case k2 => assumption)))
set_option maxHeartbeats 1000000
section
variable {w : World} {mean : ExcName → Option Value} {mg mb : Str → Option Value} {dp un : Nat} {gd : Option (List Code)} {cn : Str} {cs : Scope} {a : Addr} {ccd : Value} {cl : List (Str × Addr)} {outer : List Env} {A₀ : Around} {base h₀ : Heap} {L : Addr} {m : Str → Option Value} {s : Shared} {Q E : Value → Shared → Prop} {news : Led}
theorem con_prepared {text : Str} {tt : Tok} (B : Below A₀ base outer h₀) (F : Fr h₀ L s.heap m) (X : (KF w.params).In h₀) (N : News h₀ L s.heap news) (T : Top viewQ LQ mean mg mb h₀) (hk : cs.kind = .function) (hp0 : text.length < 2 ^ 16) (hd : dp + 3 < recursionLimit) (hu : un + 24 < cLine)
    (hret : ∀ (t : Tok) (h' : Heap) (tk' : Nat), Fr h₀ L h' m → News h₀ L h' news → s.toks ≤ tk' → Q (.str (prepOf text) t) { s with heap := h', toks := tk' }) :
    wpAny (model PySem.Challenge.rw_tl0038_01.row.prog w) (ktrTop dp un gd cn cs L a ccd cl outer) (call (.ref 176) [.str text tt]) Q E s := by
  k_dflt (refine' entN (binds := [(S "text", Value.str text tt)]) ?k1 ?k2 ?k3 ?k4 ?k5 ?kA ?kF ?kK ?k6 ?k7 ?k8 ?k9 ?kB ?kG ?c2 ?c3 ?c4 ?c5; (case kA => exact rfl); (case kF => exact rfl); (case kK => assumption); (case k1 => k_asm); (case k2 => k_asm); (case k3 => k_asm); (case k4 => k_asm); (case k5 => k_asm); (case k6 => k_is); (case k7 => k_is); (case k8 => first | exact Nat.lt_of_le_of_lt (Nat.le_add_right _ _) hd | ktr_room); (case k9 => exact BindsTo.of_eq rfl); (case c5 => decide); (case kB => exact locs rfl); (case c2 => exact rfl); (case c3 => exact rfl); (case c4 => exact rfl))
  intro Q' hq g' L' h' FG' NG' GS' F' N' B' X' T'
  have hr : ∀ (t : Tok) (h₂ : Heap) (tk' : Nat), Fr h₀ L h₂ m → News h₀ L h₂ [] → Q' (.str (prepOf text) t) { s with heap := h₂, toks := tk' } := fun t h₂ tk' _ _ => hq _ _ fun F N l _ => hret t h₂ tk' F N l
  clear hq hret
  k_whole
  dsimp only [List.reverse, List.reverseAux, List.length] at F'
  dsimp only [List.length]
  (try k_fold)
  k_steps
  all_goals (refine Stop.mk ?_)
  all_goals (refine prep_loop (text := text) hp0 (by omega) (by omega) B' X' T' (by assumption) (by assumption) ?_)
  all_goals (intro us n h tk u hS kF kN)
  all_goals k_steps
  all_goals first
    | exact cb_retS hr (prep_t (by assumption)) (by assumption) (fun _ h => nomatch h)
    | exact cb_retS hr (prep_f (by assumption)) (by assumption) (fun _ h => nomatch h)
end
end Mine
end
section
open PySem PySem.W PyProof.Rows PySem.Spec
namespace Mine
/-- what a loop's turn leaves: the frame, the iterator, the invariant -/
noncomputable def TurnPost (h₀ : Heap) (L : Addr) (own : Led) (J : (Str → Option Value) → Prop) (s₁ : Shared) (Q : Flow → Shared → Prop) (f : Flow) (s₂ : Shared) : Prop :=
  match f with
  | .ret v => Q (.ret v) s₂
  | .brk => Q .next s₂
  | _ => ∃ h' tk m', s₂ = { s₁ with heap := h', toks := tk } ∧ Fr h₀ L h' m' ∧ (∀ p ∈ own, h'.get? p.1 = some p.2) ∧ J m'
noncomputable def StrTy (ty : String) : Prop := ty = "str_ascii_iterator" ∨ ty = "str_iterator"
section
variable {prog : Program} {w : World} {A : Around} {E : Value → Shared → Prop} {s : Shared} {env : Env} {h₀ : Heap}
theorem str_next {it : Addr} {ty : String} {x : Str} {t : Tok} {i c : Nat} {Q : Option Value → Shared → Prop} (hty : StrTy ty) (hit : s.heap.IsStrIter it ty x t i) (hx : x.cps[i]? = some c)
    (hQ : ∀ h', h'.IsStrIter it ty x t (i + 1) → Heap.SameBut it s.heap h' → Q (some (.str ⟨#[c]⟩ s.toks)) { s with heap := h', toks := s.toks + 1 }) :
    wpAny (model prog w) A (pyNext (.ref it)) Q E s := by
  rcases hty with rfl | rfl
  · exact wpAny_pyNext_ascii_item hit hx hQ
  · exact wpAny_pyNext_wide_item hit hx hQ
theorem str_last {it : Addr} {ty : String} {x : Str} {t : Tok} {i : Nat} {Q : Option Value → Shared → Prop} (hty : StrTy ty) (hh : A.handled = none) (hit : s.heap.IsStrIter it ty x t i) (hx : x.cps[i]? = none)
    (hQ : ∀ h', Heap.ExtBut it s.heap h' → Q none { s with heap := h' }) : wpAny (model prog w) A (pyNext (.ref it)) Q E s := by
  rcases hty with rfl | rfl
  · exact wpAny_pyNext_ascii_end hh hit hx hQ
  · exact wpAny_pyNext_wide_end hh hit hx hQ
theorem str_iter {x : Str} {t : Tok} {Q : Value → Shared → Prop} (h : ∀ o ty, StrTy ty → (s.heap.push o).IsStrIter s.heap.objs.size ty x t 0 → Q (.ref s.heap.objs.size) { s with heap := s.heap.push o }) :
    wpAny (model prog w) A (pyIter (.str x t)) Q E s := by
  cases ha : x.cps.all (· < 128)
  · exact wpAny_pyIter_wide ha (h _ _ (.inr rfl) ⟨_, Heap.get?_push_size _ rfl, rfl, rfl⟩)
  · exact wpAny_pyIter_ascii ha (h _ _ (.inl rfl) ⟨_, Heap.get?_push_size _ rfl, rfl, rfl⟩)
theorem forStrK {R : Result → Shared → Prop} {x : Str} {px : Pos} {body orelse : List Stmt} {text : Str} {tt : Tok} {m : Str → Option Value} {k0 : Nat} {I : Addr} {ty : String} (hh : A.handled = none) (hx : env.kindOf x = some .local)
    (hp : (env.scope.kind == .class || (env.scope.kind == .module && env.locals != env.globals)) = false)
    (hty : StrTy ty) (hit : s.heap.IsStrIter I ty text tt 0) (hI : h₀.get? I = none) (hIL : I ≠ env.locals) (hk0 : k0 ≤ s.toks) (F : Fr h₀ env.locals s.heap m)
    (J : Nat → (Str → Option Value) → Prop) (h0 : J 0 m)
    (step : ∀ i c t m₁ h tk o, text.cps[i]? = some c → k0 ≤ t → k0 ≤ tk → J i m₁ → Fr h₀ env.locals h (fun y => if y = x then some (.str ⟨#[c]⟩ t) else m₁ y) → News h₀ env.locals h [(I, o)] →
      wpAny (model prog w) A (execs body env) (TurnPost h₀ env.locals [(I, o)] (J (i + 1)) { s with heap := h, toks := tk } fun f s' => R (.ok f) s') (notedBy (model prog w) A env fun e s' => R (.error e) s') { s with heap := h, toks := tk })
    (done : ∀ h tk m', k0 ≤ tk → Fr h₀ env.locals h m' → J text.cps.size m' → wpAny (model prog w) A (execs orelse env) (fun f s₃ => R (.ok f) s₃) (notedBy (model prog w) A env fun e s' => R (.error e) s') { s with heap := h, toks := tk }) :
    codeAny (model prog w) A (.forLoop (.Name x px) (.ref I) body orelse env) R s := by
  refine codeAny_forLoop
    (fun k s' => ∃ h' tk m' i, s' = { s with heap := h', toks := tk } ∧ h'.IsStrIter I ty text tt i ∧ k0 ≤ tk ∧ Fr h₀ env.locals h' m' ∧ J i m' ∧ i ≤ text.cps.size ∧ k = text.cps.size + 1 - i) ?_ (text.cps.size + 1)
    ⟨s.heap, s.toks, m, 0, rfl, hit, hk0, F, h0, Nat.zero_le _, rfl⟩
  rintro k s' ⟨h', tk, m', i, rfl, hit', hk, F', hJ, hi, rfl⟩
  cases hc : text.cps[i]? with
  | some c =>
    have hlt : i < text.cps.size := (Array.getElem?_eq_some_iff.mp hc).1
    refine str_next hty hit' hc fun h₁ hit₁ hs₁ => ?_
    replace hs₁ : Heap.SameBut I h' h₁ := hs₁
    have F₁ : Fr h₀ env.locals h₁ m' := ⟨F'.ns.at fun o e => (hs₁.2 _ (Ne.symm hIL)).trans e, fun b o e => (hs₁.2 b (fun q => by rw [q, hI] at e; cases e)).trans (F'.keep b o e), F'.above⟩
    refine wpAny_assign_Name (wpAny_storeName_local hx F₁.ns (fun h₂ hn₂ hs₂ => ?_) hp)
    have F₂ := F₁.set hn₂ hs₂
    have hit₂ : h₂.IsStrIter I ty text tt (i + 1) := hit₁.extBut hs₂.extBut hIL
    obtain ⟨o, ho, hoc, hod⟩ := id hit₂
    have N₂ : News h₀ env.locals h₂ [(I, o)] := fun p hp => by
      rw [List.mem_singleton.mp hp]
      exact ⟨ho, hIL, hI⟩
    refine wpAny_mono (wpAny_toks (wpAny_mono (step i c tk m' h₂ (tk + 1 + 1) o hc hk (by omega) hJ F₂ N₂) (fun f s₃ h₃ l₃ => (⟨h₃, l₃⟩ : _ ∧ _)) fun _ _ e => e)) (fun f s₃ h₃ => ?_) fun _ _ e => e
    obtain ⟨h₃, l₃⟩ := h₃
    cases f with
    | ret v => exact h₃
    | brk => exact h₃
    | cont =>
      obtain ⟨h₄, tk₄, m₄, rfl, F₄, ko, hJ₄⟩ := h₃
      have l₄ : tk + 1 + 1 ≤ tk₄ := l₃
      exact ⟨_, by omega, h₄, tk₄, m₄, i + 1, rfl, ⟨o, ko _ (.head _), hoc, hod⟩, by omega, F₄, hJ₄, hlt, rfl⟩
    | next =>
      obtain ⟨h₄, tk₄, m₄, rfl, F₄, ko, hJ₄⟩ := h₃
      have l₄ : tk + 1 + 1 ≤ tk₄ := l₃
      exact ⟨_, by omega, h₄, tk₄, m₄, i + 1, rfl, ⟨o, ko _ (.head _), hoc, hod⟩, by omega, F₄, hJ₄, hlt, rfl⟩
  | none =>
    have hsz : i = text.cps.size := Nat.le_antisymm hi (by simpa using hc)
    subst hsz
    refine str_last hty hh hit' hc fun h₁ hs₁ => ?_
    replace hs₁ : Heap.ExtBut I h' h₁ := hs₁
    have F₁ : Fr h₀ env.locals h₁ m' := ⟨F'.ns.at' fun o e => hs₁ _ o (Ne.symm hIL) e, fun b o e => hs₁ b o (fun q => by rw [q, hI] at e; cases e) (F'.keep b o e), F'.above⟩
    exact done h₁ tk m' hk F₁ hJ
/-- what a loop over a text asks, told of the text's value -/
structure StrAt (prog : Program) (w : World) (A : Around) (h₀ : Heap) (env : Env) (x : Str) (body orelse : List Stmt) (Q : Flow → Shared → Prop) (E : Value → Shared → Prop) (xv : Value) (s : Shared) : Prop where
  out : ∃ (text : Str) (tt : Tok) (m : Str → Option Value) (k0 : Nat) (J : Nat → (Str → Option Value) → Prop), xv = .str text tt ∧ k0 ≤ s.toks ∧ Fr h₀ env.locals s.heap m ∧ J 0 m ∧
    (∀ i c t m₁ h tk I o, text.cps[i]? = some c → k0 ≤ t → k0 ≤ tk → J i m₁ → Fr h₀ env.locals h (fun y => if y = x then some (.str ⟨#[c]⟩ t) else m₁ y) → News h₀ env.locals h [(I, o)] →
      wpAny (model prog w) A (execs body env) (TurnPost h₀ env.locals [(I, o)] (J (i + 1)) { s with heap := h, toks := tk } Q) E { s with heap := h, toks := tk }) ∧
    (∀ h tk m', k0 ≤ tk → Fr h₀ env.locals h m' → J text.cps.size m' → wpAny (model prog w) A (execs orelse env) Q E { s with heap := h, toks := tk })
theorem For_strK {Q : Flow → Shared → Prop} {x : Str} {px pos : Pos} {iter : Expr} {body orelse : List Stmt} (h₀ : Heap) (hh : A.handled = none) (hx : env.kindOf x = some .local)
    (hp : (env.scope.kind == .class || (env.scope.kind == .module && env.locals != env.globals)) = false)
    (h : wpAny (model prog w) A (eval iter env) (fun xv s₁ => StrAt prog w A h₀ env x body orelse Q E xv s₁) E s)
    (hs : ∀ x, foldedSetIterable iter env x = pure x := by intro _; rfl)
    (hE : PassesOwn (model prog w) A env E := by passes_own) :
    wpAny (model prog w) A (exec (.For (.Name x px) iter body orelse pos) env) Q E s := by
  refine wpAny_For (wpAny_mono h (fun xv s₁ h₁ => ?_) fun _ _ e => e) hs
  obtain ⟨text, tt, m, k0, J, rfl, hk, F, h0, step, done⟩ := h₁
  refine str_iter fun o ty hty hit => ?_
  refine forStrK (R := fun r s' => match r with | .ok f => Q f s' | .error e => cameBackBy (model prog w) A env E e s') hh hx hp hty hit (next_is_new F) (Nat.ne_of_gt F.ns.lt) hk (F.push _) J h0 ?_ ?_
  · intro i c t m₁ h tk o' hc ht hk' hJ F₁ N₁
    exact wpAny_passesOwn hE (step i c t m₁ h tk _ o' hc ht hk' hJ F₁ N₁)
  · intro h tk m' hk' F₁ hJ
    exact wpAny_passesOwn hE (done h tk m' hk' F₁ hJ)
end
end Mine
end
section
open PySem PySem.W PyProof.Rows
namespace Mine
noncomputable def esOf (o : Obj) : Array DictEntry := match o.data with | .dict es _ => es | _ => #[]
noncomputable def epOf (o : Obj) : Nat := match o.data with | .dict _ n => n | _ => 0
theorem es_str {es : Array DictEntry} (h : (es.all fun e => match e.key with | .str _ _ => true | _ => false) = true) : StrKeys es := by
  intro e he
  have := Array.all_eq_true_iff_forall_mem.mp h e he
  revert this
  cases e.key <;> intro q <;> first | exact ⟨_, _, rfl⟩ | cases q
theorem booked (P : Params) {h₀ h : Heap} {L : Addr} {m : Str → Option Value} (F : Fr h₀ L h m) (X : (KF P).In h₀) : NoneBooked h := by
  have hg : h.get? 2 = some (boot_o_2 P) := X.keeps F.keep 2 (boot_o_2 P) rfl
  exact ⟨fun n => nsFind (esOf (boot_o_2 P)) n, ⟨boot_o_2 P, esOf (boot_o_2 P), epOf (boot_o_2 P), hg, by kernel_rfl, es_str (by kernel_rfl), fun _ => rfl⟩, by kernel_rfl⟩
section
variable {prog : Program} {w : World} {A : Around} {E : Value → Shared → Prop} {s : Shared}
theorem is_str {y z : Str} {u v : Tok} {Q : Value → Shared → Prop} (h0 : 0 < u) (huv : u < v) (hb : NoneBooked s.heap) (hq : ∀ b : Bool, (b = true → z = y) → Q (.bool b) s) :
    wpAny (model prog w) A (compareOp .Is (.str z v) (.str y u)) Q E s := by
  have e : compareOp .Is (.str z v) (.str y u) = (do return .bool (← isSame (.str z v) (.str y u))) := rfl
  have h1 : 0 < v := Nat.lt_trans h0 huv
  have n0 : (v == 0 || u == 0) = false := by
    rw [Bool.or_eq_false_iff]
    exact ⟨beq_eq_false_iff_ne.mpr (Nat.ne_of_gt h1), beq_eq_false_iff_ne.mpr (Nat.ne_of_gt h0)⟩
  rw [e]
  by_cases hyz : z = y
  · exact wpAny_bind (wpAny_isSame_str n0 hb fun b => wpAny_pure (hq b fun _ => hyz))
  · rw [isSame_str_other z y v u n0 (beq_eq_false_iff_ne.mpr (Nat.ne_of_gt huv)) (beq_eq_false_iff_ne.mpr hyz)]
    exact wpAny_bind (wpAny_pure (wpAny_pure (hq false fun h => nomatch h)))
end
local macro_rules | `(tactic| walk_at "compareOp Is") => `(tactic| walk_at "zd1")
noncomputable def isM (mark : Str) (c : Nat) : Bool := Str.mk #[c] == mark
theorem isM_of {c : Nat} {mark : Str} (h : Str.mk #[c] = mark) : isM mark c = true := by unfold isM; rw [h]; exact beq_self_eq_true _
noncomputable def cntOf (l : List Nat) (mark : Str) : Int := ((l.filter (isM mark)).length : Nat)
theorem cnt_snoc (l : List Nat) (c : Nat) (mark : Str) : cntOf (l ++ [c]) mark = if isM mark c = true then cntOf l mark + 1 else cntOf l mark := by
  unfold cntOf
  rw [List.filter_append]
  cases h : isM mark c <;> simp [h]
noncomputable abbrev frCnt (mark : Str) (u : Tok) (text : Str) (tt : Tok) : Str → Option Value := fun y => List.lookup y [(S "b", Value.str mark u), (S "a", Value.str text tt)]
section
variable {w : World} {mean : ExcName → Option Value} {mg mb : Str → Option Value} {dp un : Nat} {gd : Option (List Code)} {cn : Str} {cs : Scope} {a : Addr} {ccd : Value} {cl : List (Str × Addr)} {outer : List Env} {A₀ : Around} {base g : Heap} {L L' : Addr} {s : Shared} {Q : Flow → Shared → Prop} {E : Value → Shared → Prop}
set_option maxHeartbeats 1000000 in
theorem cnt_turn {text mark : Str} {c : Nat} {tt u t tc : Tok} {k : Int} {own : Led} (hd : dp + 1 < recursionLimit) (hun : un + 8 < cLine) (hu0 : 0 < u) (hut : u < t)
    (B' : Below (ktrTop dp un gd cn cs L a ccd cl outer) base (envX cn cs L a ccd cl :: outer) g) (X' : (KF w.params).In g) (T' : Top viewQ LQ mean mg mb g)
    (F : Fr g L' s.heap (fun y => if y = S "i" then some (.str ⟨#[c]⟩ t) else if y = S "count" then some (.int k tc) else frCnt mark u text tt y))
    (N : News g L' s.heap own)
    (hr1 : isM mark c = true → ∀ h' tk tc', Fr g L' h' (fun y => if y = S "count" then some (.int (k + 1) tc') else if y = S "i" then some (.str ⟨#[c]⟩ t) else if y = S "count" then some (.int k tc) else frCnt mark u text tt y) →
      News g L' h' own → Q .next { s with heap := h', toks := tk })
    (hr2 : isM mark c = false → Q .next s) :
    wpAny (model PySem.Challenge.rw_tl0038_01.row.prog w) ((ktrTop dp un gd cn cs L a ccd cl outer).deeper (envF (S "countOf") 11 L' 120 119)) (execs (lpBody 11 1) (envF (S "countOf") 11 L' 120 119)) Q E s := by
  k_steps
  all_goals first
    | exact hr1 (isM_of (by rename_i h1 h2 _ _ _; exact h1 h2)) _ _ _ (by k_asm) (by k_asm)
    | exact hr1 (by assumption) _ _ _ (by k_asm) (by k_asm)
    | exact hr2 (by assumption)
    | trace_state
noncomputable def CntJ (text mark : Str) (u tt : Tok) (i : Nat) (m : Str → Option Value) : Prop :=
  (∃ tc, m (S "count") = some (.int (cntOf (text.cps.toList.take i) mark) tc)) ∧ ∀ y, y ≠ S "count" → y ≠ S "i" → m y = frCnt mark u text tt y
theorem cntJ_step {text mark : Str} {u tt t : Tok} {i c : Nat} {m : Str → Option Value} (h : CntJ text mark u tt i m) : ∃ tc, (fun y => if y = S "i" then some (Value.str ⟨#[c]⟩ t) else m y) =
    (fun y => if y = S "i" then some (.str ⟨#[c]⟩ t) else if y = S "count" then some (.int (cntOf (text.cps.toList.take i) mark) tc) else frCnt mark u text tt y) := by
  obtain ⟨⟨tc, h1⟩, h2⟩ := h
  refine ⟨tc, ?_⟩
  funext y
  by_cases hi : y = S "i"
  · rw [if_pos hi, if_pos hi]
  · rw [if_neg hi, if_neg hi]
    by_cases hc : y = S "count"
    · rw [if_pos hc, hc, h1]
    · rw [if_neg hc, h2 y hc hi]
theorem cntJ_end {text mark : Str} {u tt : Tok} {i : Nat} {m : Str → Option Value} (h : CntJ text mark u tt i m) : ∃ tc, m =
    (fun y => if y = S "count" then some (.int (cntOf (text.cps.toList.take i) mark) tc) else if y = S "i" then m y else frCnt mark u text tt y) := by
  obtain ⟨⟨tc, h1⟩, h2⟩ := h
  refine ⟨tc, ?_⟩
  funext y
  by_cases hc : y = S "count"
  · rw [if_pos hc, hc, h1]
  · rw [if_neg hc]
    by_cases hi : y = S "i"
    · rw [if_pos hi]
    · rw [if_neg hi, h2 y hc hi]
end
local macro_rules | `(tactic| walk_at "exec For Name Name cons nil") => `(tactic| (k_here; refine stopHere ?_))
set_option maxHeartbeats 1000000
section
variable {w : World} {mean : ExcName → Option Value} {mg mb : Str → Option Value} {dp un : Nat} {gd : Option (List Code)} {cn : Str} {cs : Scope} {a : Addr} {ccd : Value} {cl : List (Str × Addr)} {outer : List Env} {A₀ : Around} {base h₀ : Heap} {L : Addr} {m : Str → Option Value} {s : Shared} {Q E : Value → Shared → Prop} {news : Led}
theorem con_countOf {text mark : Str} {tt u : Tok} (B : Below A₀ base outer h₀) (F : Fr h₀ L s.heap m) (X : (KF w.params).In h₀) (N : News h₀ L s.heap news) (T : Top viewQ LQ mean mg mb h₀) (hk : cs.kind = .function) (hp0 : 0 < u) (hp1 : u < s.toks) (hd : dp + 2 < recursionLimit) (hu : un + 16 < cLine)
    (hret : ∀ (t : Tok) (h' : Heap) (tk' : Nat), Fr h₀ L h' m → News h₀ L h' news → s.toks ≤ tk' → Q (.int (cntOf text.cps.toList mark) t) { s with heap := h', toks := tk' }) :
    wpAny (model PySem.Challenge.rw_tl0038_01.row.prog w) (ktrTop dp un gd cn cs L a ccd cl outer) (call (.ref 120) [.str text tt, .str mark u]) Q E s := by
  k_dflt (refine' entN (binds := [(S "a", Value.str text tt), (S "b", Value.str mark u)]) ?k1 ?k2 ?k3 ?k4 ?k5 ?kA ?kF ?kK ?k6 ?k7 ?k8 ?k9 ?kB ?kG ?c2 ?c3 ?c4 ?c5; (case kA => exact rfl); (case kF => exact rfl); (case kK => assumption); (case k1 => k_asm); (case k2 => k_asm); (case k3 => k_asm); (case k4 => k_asm); (case k5 => k_asm); (case k6 => k_is); (case k7 => k_is); (case k8 => first | exact Nat.lt_of_le_of_lt (Nat.le_add_right _ _) hd | ktr_room); (case k9 => exact BindsTo.of_eq rfl); (case c5 => decide); (case kB => exact locs rfl); (case c2 => exact rfl); (case c3 => exact rfl); (case c4 => exact rfl))
  intro Q' hq g' L' h' FG' NG' GS' F' N' B' X' T'
  have hr : ∀ (t : Tok) (h₂ : Heap) (tk' : Nat), Fr h₀ L h₂ m → News h₀ L h₂ [] → Q' (.int (cntOf text.cps.toList mark) t) { s with heap := h₂, toks := tk' } := fun t h₂ tk' _ _ => hq _ _ fun F N l _ => hret t h₂ tk' F N l
  clear hq hret
  k_whole
  dsimp only [List.reverse, List.reverseAux, List.length] at F'
  dsimp only [List.length]
  (try k_fold)
  k_steps
  refine Stop.mk ?_
  refine For_strK g' rfl rfl rfl ?_
  k_steps
  refine ⟨text, tt, _, u + 1, CntJ text mark u tt, rfl, ?_, by assumption, ?_, ?_, ?_⟩
  · exact Nat.le_trans hp1 (by dsimp only; omega)
  · exact ⟨⟨_, rfl⟩, fun y h1 h2 => if_neg h1⟩
  · intro i c t m₁ h tk I o hc ht htk hJ F₁ N₁
    obtain ⟨tc, e⟩ := cntJ_step (c := c) (t := t) hJ
    rw [e] at F₁
    have ec : text.cps.toList.take (i + 1) = text.cps.toList.take i ++ [c] := by
      rw [List.take_add_one]; simp [hc]
    refine cnt_turn (by omega) (by omega) hp0 (Nat.lt_of_succ_le ht) B' X' T' F₁ N₁ ?_ ?_
    · intro hm h' tk' tc' F₂ N₂
      refine ⟨h', tk', _, rfl, F₂, fun p hp => (N₂ p hp).1, ⟨tc', ?_⟩, ?_⟩
      · dsimp only
        rw [if_pos rfl, ec, cnt_snoc, if_pos hm]
      · intro y h1 h2
        dsimp only
        rw [if_neg h1, if_neg h2, if_neg h1]
    · intro hm
      refine ⟨h, tk, _, rfl, F₁, fun p hp => (N₁ p hp).1, ⟨tc, ?_⟩, ?_⟩
      · dsimp only
        rw [if_neg (by decide), if_pos rfl, ec, cnt_snoc, hm, if_neg (by decide)]
      · intro y h1 h2
        dsimp only
        rw [if_neg h2, if_neg h1]
  · intro h tk m' htk F₁ hJ
    obtain ⟨tc, e⟩ := cntJ_end hJ
    rw [e] at F₁
    have N₁ : News g' L' h [] := News.nil
    k_steps
    exact cb_retI hr (by rw [List.take_of_length_le (by simp)]) (by assumption) (fun _ h => nomatch h)
end
end Mine
end
section
open PySem PySem.W PyProof.Rows PySem.Spec
namespace Mine
section
variable {prog : Program} {w : World} {A : Around} {E : Value → Shared → Prop} {s : Shared} {env : Env} {h₀ : Heap}
theorem nextOf_str {it : Addr} {ty : String} {x : Str} {t : Tok} {i c : Nat} {Q : Value → Shared → Prop} (hty : StrTy ty) (hit : s.heap.IsStrIter it ty x t i) (hx : x.cps[i]? = some c)
    (hQ : ∀ h', h'.IsStrIter it ty x t (i + 1) → Heap.SameBut it s.heap h' → Q (.str ⟨#[c]⟩ s.toks) { s with heap := h', toks := s.toks + 1 }) :
    wpAny (model prog w) A (Builtin.SmallTypes.nextOf (.ref it)) Q E s := by
  rcases hty with rfl | rfl
  · exact wpAny_nextOf_ascii_item hit hx hQ
  · exact wpAny_nextOf_wide_item hit hx hQ
theorem enum_pair {e it : Addr} {ty : String} {x : Str} {t : Tok} {i c : Nat} {old : Value} {Q : Value → Shared → Prop} (hty : StrTy ty) (he : IsEnum s.heap e it i old) (hit : s.heap.IsStrIter it ty x t i) (hx : x.cps[i]? = some c) (hne : e ≠ it)
    (hQ : ∀ h', IsEnumOut h' e it ((i : Int) + 1) (.str ⟨#[c]⟩ s.toks) s.heap.objs.size → h'.IsStrIter it ty x t (i + 1) →
      h'.get? s.heap.objs.size = some { cls := .type "tuple", data := .seq #[.int i (s.toks + 1), .str ⟨#[c]⟩ s.toks] } → h'.objs.size = s.heap.objs.size + 1 →
      (∀ b o, b ≠ e → b ≠ it → s.heap.get? b = some o → h'.get? b = some o) → Q (.ref s.heap.objs.size) { s with heap := h', toks := s.toks + 1 + 1 }) :
    wpAny (model prog w) A (Builtin.«enumerate.__next__» ⟨[.ref e], []⟩) (fun fin s' => ∃ v, fin = .done (.ret v) ∧ Q v s') E s := by
  obtain ⟨hp, g, d, tk, os⟩ := s
  show wpAny _ _ (field (.ref e) 2 >>= _) _ _ _
  refine wpAny_bind (wpAny_field he rfl (x := .ref it) rfl ?_)
  refine wpAny_bind (nextOf_str hty hit hx fun h₁ hit₁ hs₁ => ?_)
  replace hs₁ : Heap.SameBut it hp h₁ := hs₁
  have he₁ : IsEnum h₁ e it i old := (hs₁.2 e hne).trans he
  show wpAny _ _ (field (.ref e) 3 >>= _) _ _ ⟨h₁, g, d, tk + 1, os⟩
  refine wpAny_bind (wpAny_field he₁ rfl (x := rawInt i) rfl ?_)
  show wpAny _ _ (field (.ref e) 4 >>= _) _ _ ⟨h₁, g, d, tk + 1, os⟩
  refine wpAny_bind (wpAny_field he₁ rfl (x := .none) rfl ?_)
  show wpAny _ _ (mkInt i >>= _) _ _ ⟨h₁, g, d, tk + 1, os⟩
  refine wpAny_bind (wpAny_mkInt ?_)
  show wpAny _ _ (setField (.ref e) 3 (rawInt ((i : Int) + 1)) >>= _) _ _ ⟨h₁, g, d, tk + 1 + 1, os⟩
  refine wpAny_bind (wpAny_setField_rec he₁ (by simp) fun h₂ he₂ hs₂ => ?_)
  replace hs₂ : Heap.SameBut e h₁ h₂ := hs₂
  replace he₂ : IsEnum h₂ e it ((i : Int) + 1) old := he₂
  show wpAny _ _ (setField (.ref e) 4 .none >>= _) _ _ ⟨h₂, g, d, tk + 1 + 1, os⟩
  refine wpAny_bind (wpAny_setField_rec he₂ (by simp) fun h₃ he₃ hs₃ => ?_)
  replace hs₃ : Heap.SameBut e h₂ h₃ := hs₃
  replace he₃ : IsEnum h₃ e it ((i : Int) + 1) old := he₃
  show wpAny _ _ (newTuple [.int i (tk + 1), .str ⟨#[c]⟩ tk] >>= _) _ _ ⟨h₃, g, d, tk + 1 + 1, os⟩
  refine wpAny_bind (wpAny_newTuple ?_)
  have he₄ : IsEnum (h₃.push { cls := .type "tuple", data := .seq #[.int i (tk + 1), .str ⟨#[c]⟩ tk] }) e it ((i : Int) + 1) old := Heap.get?_push_of_some _ he₃
  have hit₃ : h₃.IsStrIter it ty x t (i + 1) := (hit₁.extBut hs₂.extBut (Ne.symm hne)).extBut hs₃.extBut (Ne.symm hne)
  have hit₄ : (h₃.push { cls := .type "tuple", data := .seq #[.int i (tk + 1), .str ⟨#[c]⟩ tk] }).IsStrIter it ty x t (i + 1) := by
    obtain ⟨oi, hoi, r⟩ := hit₃
    exact ⟨oi, Heap.get?_push_of_some _ hoi, r⟩
  have hsz : h₃.objs.size = hp.objs.size := by rw [hs₃.1, hs₂.1, hs₁.1]
  have hel : e < hp.objs.size := Heap.lt_size he
  have ht₄ : (h₃.push { cls := .type "tuple", data := .seq #[.int i (tk + 1), .str ⟨#[c]⟩ tk] }).get? hp.objs.size = some { cls := .type "tuple", data := .seq #[.int i (tk + 1), .str ⟨#[c]⟩ tk] } := by rw [← hsz]; exact Heap.get?_push_size _ rfl
  have hz₄ : (h₃.push { cls := .type "tuple", data := .seq #[.int i (tk + 1), .str ⟨#[c]⟩ tk] }).objs.size = hp.objs.size + 1 := by rw [Heap.size_push, hsz]
  have hk₄ : ∀ b o, b ≠ e → b ≠ it → hp.get? b = some o → (h₃.push { cls := .type "tuple", data := .seq #[.int i (tk + 1), .str ⟨#[c]⟩ tk] }).get? b = some o := fun b o hbe hbi hb =>
    Heap.get?_push_of_some _ (hs₃.extBut b o hbe (hs₂.extBut b o hbe (hs₁.extBut b o hbi hb)))
  generalize h₃.push { cls := .type "tuple", data := .seq #[.int i (tk + 1), .str ⟨#[c]⟩ tk] } = h₄ at he₄ hit₄ ht₄ hz₄ hk₄
  show wpAny _ _ (Builtin.SmallTypes.ownedTupleIsFree (.ref e) >>= _) _ _ ⟨h₄, g, d, tk + 1 + 1, os⟩
  rw [hsz]
  clear hit₃ he₃ hs₃ he₂ hs₂ he₁ hs₁ hit₁ hsz h₃ h₂ h₁
  refine wpAny_bind ?_
  unfold Builtin.SmallTypes.ownedTupleIsFree
  refine wpAny_bind (wpAny_field he₄ rfl (x := .none) rfl (wpAny_pure ?_))
  simp only [if_true]
  refine wpAny_bind (wpAny_rule ?_)
  refine wpAny_bind (wpAny_field he₄ rfl (x := old) rfl ?_)
  refine wpAny_bind (wpAny_setField_rec he₄ (by simp) fun h₅ he₅ hs₅ => ?_)
  replace hs₅ : Heap.SameBut e h₄ h₅ := hs₅
  replace he₅ : IsEnum h₅ e it ((i : Int) + 1) (.str ⟨#[c]⟩ tk) := he₅
  show wpAny _ _ (Builtin.SmallTypes.ownedTupleHandOut (.ref e) (.ref hp.objs.size) >>= _) _ _ ⟨h₅, g, d, tk + 1 + 1, os⟩
  refine wpAny_bind ?_
  unfold Builtin.SmallTypes.ownedTupleHandOut
  refine wpAny_bind (wpAny_setField_rec he₅ (by simp) fun h₆ he₆ hs₆ => ?_)
  replace hs₆ : Heap.SameBut e h₅ h₆ := hs₆
  replace he₆ : IsEnumOut h₆ e it ((i : Int) + 1) (.str ⟨#[c]⟩ tk) hp.objs.size := he₆
  refine wpAny_setField_rec he₆ (by simp) fun h₇ he₇ hs₇ => ?_
  replace hs₇ : Heap.SameBut e h₆ h₇ := hs₇
  replace he₇ : IsEnumOut h₇ e it ((i : Int) + 1) (.str ⟨#[c]⟩ tk) hp.objs.size := he₇
  have up : ∀ b o, b ≠ e → h₄.get? b = some o → h₇.get? b = some o := fun b o hb q => hs₇.extBut b o hb (hs₆.extBut b o hb (hs₅.extBut b o hb q))
  refine wpAny_bind (wpAny_letGo (wpAny_pure ⟨_, rfl, hQ h₇ he₇ ?_ (up _ _ (Nat.ne_of_gt hel) ht₄) ?_ fun b o hbe hbi hb => up b o hbe (hk₄ b o hbe hbi hb)⟩))
  · obtain ⟨oi, hoi, r⟩ := hit₄
    exact ⟨oi, up _ _ (Ne.symm hne) hoi, r⟩
  · rw [hs₇.1, hs₆.1, hs₅.1, hz₄]
theorem enum_next {e it : Addr} {ty : String} {x : Str} {t : Tok} {i c : Nat} {old : Value} {Q : Option Value → Shared → Prop} (hty : StrTy ty) (he : IsEnum s.heap e it i old) (hit : s.heap.IsStrIter it ty x t i) (hx : x.cps[i]? = some c) (hne : e ≠ it)
    (hQ : ∀ h', IsEnumOut h' e it ((i : Int) + 1) (.str ⟨#[c]⟩ s.toks) s.heap.objs.size → h'.IsStrIter it ty x t (i + 1) →
      h'.get? s.heap.objs.size = some { cls := .type "tuple", data := .seq #[.int i (s.toks + 1), .str ⟨#[c]⟩ s.toks] } → h'.objs.size = s.heap.objs.size + 1 →
      (∀ b o, b ≠ e → b ≠ it → s.heap.get? b = some o → h'.get? b = some o) → Q (some (.ref s.heap.objs.size)) { s with heap := h', toks := s.toks + 1 + 1 }) :
    wpAny (model prog w) A (pyNext (.ref e)) Q E s := by
  have hT : s.TypeIs (.ref e) "enumerate" := ⟨_, he, rfl⟩
  unfold pyNext
  exact wpAny_bind (wpAny_attempt (wpAny_callSpecial?_slot (name := Str.ofString "__next__") hT PySem.F.slot_enumerate_next
    (wpAny_call_entry PySem.F.slot_enumerate_next hT PySem.F.entry_enumerate_next
      (enum_pair hty he hit hx hne fun h' a b c d k => wpAny_pure (hQ h' a b c d k)) (PySem.F.args_enumerate_next_1 _))))
theorem enum_last {e it : Addr} {ty : String} {x : Str} {t : Tok} {old : Value} {Q : Option Value → Shared → Prop} (hty : StrTy ty) (hh : A.handled = none) (he : IsEnum s.heap e it x.cps.size old) (hit : s.heap.IsStrIter it ty x t x.cps.size)
    (hQ : ∀ h', Heap.ExtBut it s.heap h' → Q none { s with heap := h' }) : wpAny (model prog w) A (pyNext (.ref e)) Q E s := by
  rcases hty with rfl | rfl
  · exact wpAny_pyNext_enum_endD (Draws.strAscii (A := A.in1) hh it x t) he hit hQ
  · exact wpAny_pyNext_enum_endD (Draws.strWide (A := A.in1) hh it x t) he hit hQ
theorem forEnumK {R : Result → Shared → Prop} {xi xc : Str} {pk pv pt : Pos} {x1 : Nat} {body orelse : List Stmt} {text : Str} {tt : Tok} {m : Str → Option Value} {k0 : Nat} {e it : Addr} {ty : String} (hh : A.handled = none)
    (hxi : env.kindOf xi = some .local) (hxc : env.kindOf xc = some .local)
    (hp : (env.scope.kind == .class || (env.scope.kind == .module && env.locals != env.globals)) = false)
    (hty : StrTy ty) (he : IsEnum s.heap e it 0 .none) (hit : s.heap.IsStrIter it ty text tt 0) (hei : e ≠ it) (hne : h₀.get? e = none) (hni : h₀.get? it = none) (heL : e ≠ env.locals) (hiL : it ≠ env.locals) (hk0 : k0 ≤ s.toks) (F : Fr h₀ env.locals s.heap m)
    (J : Nat → (Str → Option Value) → Prop) (h0 : J 0 m)
    (step : ∀ (i c t : Nat) (ti : Tok) m₁ h tk own, text.cps[i]? = some c → k0 ≤ t → k0 ≤ tk → J i m₁ → Fr h₀ env.locals h (fun y => if y = xc then some (.str ⟨#[c]⟩ t) else if y = xi then some (.int (i : Nat) ti) else m₁ y) → News h₀ env.locals h own →
      wpAny (model prog w) A (execs body env) (TurnPost h₀ env.locals own (J (i + 1)) { s with heap := h, toks := tk } fun f s' => R (.ok f) s') (notedBy (model prog w) A env fun e s' => R (.error e) s') { s with heap := h, toks := tk })
    (done : ∀ h tk m', k0 ≤ tk → Fr h₀ env.locals h m' → J text.cps.size m' → wpAny (model prog w) A (execs orelse env) (fun f s₃ => R (.ok f) s₃) (notedBy (model prog w) A env fun e s' => R (.error e) s') { s with heap := h, toks := tk }) :
    codeAny (model prog w) A (.forLoop (.Tuple [.Name xi pk, .Name xc pv] x1 pt) (.ref e) body orelse env) R s := by
  have nh : ∀ b o, h₀.get? b = some o → b ≠ e ∧ b ≠ it := fun b o q => ⟨fun z => (by rw [z, hne] at q; exact nomatch q), fun z => (by rw [z, hni] at q; exact nomatch q)⟩
  refine codeAny_forLoop_any
    (fun k s' => ∃ h' tk m' i old, s' = { s with heap := h', toks := tk } ∧ IsEnum h' e it ((i : Nat) : Int) old ∧ h'.IsStrIter it ty text tt i ∧ k0 ≤ tk ∧ Fr h₀ env.locals h' m' ∧ J i m' ∧ i ≤ text.cps.size ∧ k = text.cps.size + 1 - i) ?_ (text.cps.size + 1)
    ⟨s.heap, s.toks, m, 0, .none, rfl, he, hit, hk0, F, h0, Nat.zero_le _, rfl⟩
  rintro k s' ⟨H, tk, m', i, old, rfl, he', hit', hk, F', hJ, hi, rfl⟩
  cases hc : text.cps[i]? with
  | some c =>
    have hlt : i < text.cps.size := (Array.getElem?_eq_some_iff.mp hc).1
    have heH : e < H.objs.size := Heap.lt_size he'
    have hiH : it < H.objs.size := by obtain ⟨o, ho, _⟩ := hit'; exact Heap.lt_size ho
    refine enum_next hty he' hit' hc hei fun h₁ heo hit₁ ht₁ hz₁ hk₁ => ?_
    refine wpAny_letOwnedTupleGo_enum heo fun h₂ he₂ hs₂ => ?_
    replace hs₂ : Heap.SameBut e h₁ h₂ := hs₂
    have ht₂ : h₂.IsTuple H.objs.size #[.int i (tk + 1), .str ⟨#[c]⟩ tk] := ⟨_, (hs₂.2 _ (Nat.ne_of_gt heH)).trans ht₁, rfl, _, rfl⟩
    have hit₂ : h₂.IsStrIter it ty text tt (i + 1) := hit₁.extBut hs₂.extBut (Ne.symm hei)
    refine wpAny_assign_Tuple hh ht₂ rfl rfl fun h₃ hx₃ => ?_
    replace hx₃ : Heap.ExtBut h₂.objs.size h₂ h₃ := hx₃
    have up₃ : ∀ b o, h₂.get? b = some o → h₃.get? b = some o := fun b o x => hx₃ b o (Nat.ne_of_lt (Heap.lt_size x)) x
    have up : ∀ b o, b ≠ e → b ≠ it → H.get? b = some o → h₃.get? b = some o := fun b o b1 b2 q => up₃ b o ((hs₂.2 b b1).trans (hk₁ b o b1 b2 q))
    have F₃ : Fr h₀ env.locals h₃ m' := ⟨F'.ns.at' fun o q => up _ o (Ne.symm heL) (Ne.symm hiL) q, fun b o q => up b o (nh b o q).1 (nh b o q).2 (F'.keep b o q), F'.above⟩
    have he₃ : IsEnum h₃ e it (((i + 1 : Nat)) : Int) (.str ⟨#[c]⟩ tk) := up₃ _ _ (by simpa using he₂)
    have hit₃ : h₃.IsStrIter it ty text tt (i + 1) := by obtain ⟨o, ho, r⟩ := hit₂; exact ⟨o, up₃ _ _ ho, r⟩
    show wpAny _ A (do holding [Value.str ⟨#[c]⟩ tk] (assign (.Name xi pk) env (.int i (tk + 1))); do holding [] (assign (.Name xc pv) env (Value.str ⟨#[c]⟩ tk)); pure ()) _ _ _
    refine wpAny_bind (wpAny_holding (wpAny_assign_Name (wpAny_storeName_local hxi F₃.ns (fun h₄ hn₄ hs₄ => ?_) hp)))
    replace hs₄ : Heap.SameBut env.locals h₃ h₄ := hs₄
    have F₄ := F₃.set hn₄ hs₄
    refine wpAny_bind (wpAny_holding (wpAny_assign_Name (wpAny_storeName_local hxc F₄.ns (fun h₅ hn₅ hs₅ => wpAny_pure ?_) hp)))
    replace hs₅ : Heap.SameBut env.locals h₄ h₅ := hs₅
    have F₅ := F₄.set hn₅ hs₅
    have he₅ : IsEnum h₅ e it (((i + 1 : Nat)) : Int) (.str ⟨#[c]⟩ tk) := hs₅.extBut _ _ heL (hs₄.extBut _ _ heL he₃)
    obtain ⟨oi, hoi, hoc, hod⟩ := (hit₃.extBut hs₄.extBut hiL).extBut hs₅.extBut hiL
    obtain ⟨oe, hoe⟩ : ∃ oe, oe = ({ cls := .type "enumerate", dict := none, data := .fields #[.none, .bool false, .ref it, rawInt (((i + 1 : Nat)) : Int), .none, .str ⟨#[c]⟩ tk], slots := #[] } : Obj) := ⟨_, rfl⟩
    have N₅ : News h₀ env.locals h₅ [(e, oe), (it, oi)] := by
      intro p hp
      rcases List.mem_cons.mp hp with rfl | hp
      · exact ⟨by rw [hoe]; exact he₅, heL, hne⟩
      · rw [List.mem_singleton.mp hp]; exact ⟨hoi, hiL, hni⟩
    refine wpAny_mono (wpAny_toks (wpAny_mono (step i c tk (tk + 1) m' h₅ (tk + 1 + 1 + 1 + 1) _ hc hk (by omega) hJ F₅ N₅) (fun f s₃ h₃ l₃ => (⟨h₃, l₃⟩ : _ ∧ _)) fun _ _ e => e)) (fun f s₃ h₃ => ?_) fun _ _ e => e
    obtain ⟨h₃, l₃⟩ := h₃
    have fin : ∀ f, (∃ h' tk' m', s₃ = { s with heap := h', toks := tk' } ∧ Fr h₀ env.locals h' m' ∧ (∀ p ∈ [(e, oe), (it, oi)], h'.get? p.1 = some p.2) ∧ J (i + 1) m') → f = ()  → ∃ m_1, m_1 < text.cps.size + 1 - i ∧ ∃ h' tk m' i old, s₃ = { s with heap := h', toks := tk } ∧ IsEnum h' e it ((i : Nat) : Int) old ∧ h'.IsStrIter it ty text tt i ∧ k0 ≤ tk ∧ Fr h₀ env.locals h' m' ∧ J i m' ∧ i ≤ text.cps.size ∧ m_1 = text.cps.size + 1 - i := by
      rintro f ⟨h₆, tk₆, m₆, rfl, F₆, ko, hJ₆⟩ _
      have l₆ : tk + 1 + 1 + 1 + 1 ≤ tk₆ := l₃
      refine ⟨text.cps.size + 1 - (i + 1), by omega, h₆, tk₆, m₆, i + 1, .str ⟨#[c]⟩ tk, rfl, ?_, ⟨oi, ko _ (.tail _ (.head _)), hoc, hod⟩, by omega, F₆, hJ₆, hlt, rfl⟩
      have := ko _ (.head _)
      rw [hoe] at this
      exact this
    cases f with
    | ret v => exact h₃
    | brk => exact h₃
    | cont => exact fin () h₃ rfl
    | next => exact fin () h₃ rfl
  | none =>
    have hsz : i = text.cps.size := Nat.le_antisymm hi (by simpa using hc)
    subst hsz
    refine enum_last hty hh he' hit' fun h₁ hs₁ => ?_
    replace hs₁ : Heap.ExtBut it H h₁ := hs₁
    have F₁ : Fr h₀ env.locals h₁ m' := ⟨F'.ns.at' fun o e => hs₁ _ o (Ne.symm hiL) e, fun b o e => hs₁ b o (nh b o e).2 (F'.keep b o e), F'.above⟩
    exact done h₁ tk m' hk F₁ hJ
/-- what a loop over the pairs of a text's enumerate asks, told of the enumerate -/
structure EnumAt (prog : Program) (w : World) (A : Around) (h₀ : Heap) (env : Env) (xi xc : Str) (body orelse : List Stmt) (Q : Flow → Shared → Prop) (E : Value → Shared → Prop) (xv : Value) (s : Shared) : Prop where
  out : ∃ (text : Str) (tt : Tok) (e it : Addr) (ty : String) (m : Str → Option Value) (k0 : Nat) (J : Nat → (Str → Option Value) → Prop), xv = .ref e ∧ StrTy ty ∧ IsEnum s.heap e it 0 .none ∧ s.heap.IsStrIter it ty text tt 0 ∧ e ≠ it ∧
    h₀.get? e = none ∧ h₀.get? it = none ∧ e ≠ env.locals ∧ it ≠ env.locals ∧ k0 ≤ s.toks ∧ Fr h₀ env.locals s.heap m ∧ J 0 m ∧
    (∀ (i c t : Nat) (ti : Tok) m₁ h tk own, text.cps[i]? = some c → k0 ≤ t → k0 ≤ tk → J i m₁ → Fr h₀ env.locals h (fun y => if y = xc then some (.str ⟨#[c]⟩ t) else if y = xi then some (.int (i : Nat) ti) else m₁ y) → News h₀ env.locals h own →
      wpAny (model prog w) A (execs body env) (TurnPost h₀ env.locals own (J (i + 1)) { s with heap := h, toks := tk } Q) E { s with heap := h, toks := tk }) ∧
    (∀ h tk m', k0 ≤ tk → Fr h₀ env.locals h m' → J text.cps.size m' → wpAny (model prog w) A (execs orelse env) Q E { s with heap := h, toks := tk })
theorem For_enumK {Q : Flow → Shared → Prop} {xi xc : Str} {pk pv pt pos : Pos} {x1 : Nat} {iter : Expr} {body orelse : List Stmt} (h₀ : Heap) (hh : A.handled = none) (hxi : env.kindOf xi = some .local) (hxc : env.kindOf xc = some .local)
    (hp : (env.scope.kind == .class || (env.scope.kind == .module && env.locals != env.globals)) = false)
    (h : wpAny (model prog w) A (eval iter env) (fun xv s₁ => EnumAt prog w A h₀ env xi xc body orelse Q E xv s₁) E s)
    (hs : ∀ x, foldedSetIterable iter env x = pure x := by intro _; rfl)
    (hE : PassesOwn (model prog w) A env E := by passes_own) :
    wpAny (model prog w) A (exec (.For (.Tuple [.Name xi pk, .Name xc pv] x1 pt) iter body orelse pos) env) Q E s := by
  refine wpAny_For (wpAny_mono h (fun xv s₁ h₁ => ?_) fun _ _ e => e) hs
  obtain ⟨text, tt, e, it, ty, m, k0, J, rfl, hty, he, hit, hei, hne, hni, heL, hiL, hk, F, h0, step, done⟩ := h₁
  refine wpAny_pyIter_enum he ?_
  refine forEnumK (R := fun r s' => match r with | .ok f => Q f s' | .error e => cameBackBy (model prog w) A env E e s') hh hxi hxc hp hty he hit hei hne hni heL hiL hk F J h0 ?_ ?_
  · intro i c t ti m₁ h tk own hc ht hk' hJ F₁ N₁
    exact wpAny_passesOwn hE (step i c t ti m₁ h tk own hc ht hk' hJ F₁ N₁)
  · intro h tk m' hk' F₁ hJ
    exact wpAny_passesOwn hE (done h tk m' hk' F₁ hJ)
end
end Mine
end
section
open PySem PySem.W PyProof.Rows PySem.Spec PySem.Calls
namespace Mine
/-- a def in which an exception may be caught: the caller's ground may have turned when it comes back -/
theorem entS {prog : Program} {w : World} {A₀ A : Around} {s : Shared} {base h₀ : Heap} {outer : List Env} {L a : Addr} {m : Str → Option Value} {cn : Str} {cs : Scope} {ccd : Value} {news : List (Addr × Obj)} {K : Frag} {p : Program} {loose : List Str} {mean : ExcName → Option Value} {mg mb : Str → Option Value}
    {Q E : Value → Shared → Prop} {name qual : Str} {params : Arguments} {body : List Stmt} {scope : Scope} {dV kV doc pm cdv ct oc : Value} {an od : Option Addr} {osl : Array (Option Value)} {f : Addr} {pos : List Value} {binds : List (Str × Value)}
    (B : Below A₀ base outer h₀) (F : Fr h₀ L s.heap m) (X₀ : K.In h₀) (N : News h₀ L s.heap news) (T : Top p loose mean mg mb h₀) (XB : K.In base) (TB : Top p loose mean mg mb base) (D : KtsDicts (outer.filterMap (·.frame)) h₀)
    (hA : A.frames = some (envOf cn cs L a ccd :: outer))
    (ho : K.lookup f = some ⟨oc, od, .func (fnOf name qual params body scope dV kV doc pm an cdv ct), osl⟩) (hcd : codeIn K cdv qual = true) (hroom : A.depth < recursionLimit)
    (hbind : BindsTo s (fnOf name qual params body scope dV kV doc pm an cdv ct) ⟨pos, []⟩ binds) (hloc : ∀ y ∈ binds, scope.names.lookup y.1 = some .local)
    (h : ∀ (Q' : Value → Shared → Prop) (hq : ∀ v s', (∀ h₀', KtsTurn (outer.filterMap (·.frame)) h₀ h₀' → Fr h₀' L s'.heap m → News h₀' L s'.heap news → Below A₀ base outer h₀' → K.In h₀' → Top p loose mean mg mb h₀' → KtsDicts (outer.filterMap (·.frame)) h₀' → s.toks ≤ s'.toks →
          (∀ b o, s.heap.get? b = some o → b ∉ (envOf cn cs L a ccd :: outer).filterMap (·.frame) → s'.heap.get? b = some o) → Q v s') → Q' v s')
      g L' h₁, Fr h₀ L g m → News h₀ L g news → GSub s.heap g [] → Fr g L' h₁ (fun y => binds.reverse.lookup y) → News g L' h₁ [] → Below A base (envOf cn cs L a ccd :: outer) g → K.In g → Top p loose mean mg mb g → KtsDicts ((envOf cn cs L a ccd :: outer).filterMap (·.frame)) g →
      wpAny (model prog w) (A.deeper (envOf qual scope L' f cdv)) (execs body (envOf qual scope L' f cdv))
        (fun fl s' => LeaveS ((envOf cn cs L a ccd :: outer).filterMap (·.frame)) A₀ base outer K p loose mean mg mb h₀ h₀ L m g (fun r s' => match r with | .ok (.ret v) => Q' v s' | .ok _ => False | .error e => E e s') (match fl with | .ret v => v | _ => .none) s')
        (fun e s' => wpAny (model prog w) (A.deeper (envOf qual scope L' f cdv)) (leaving (envOf qual scope L' f cdv) e) (fun _ s'' => E e s'') (fun e' s'' => E e' s'') s')
        { s with heap := h₁, toks := s.toks + binds.length })
    (hck : cs.kind = .function) (hco : scope.isCoroutine = false) (hgen : scope.isGenerator = false) (hk : scope.kind = .function)
    (hcell : ∀ x ∈ scope.names, x.2 ≠ .cell) : wpAny (model prog w) A (call (.ref f) pos) Q E s := by
  refine wpAny_toks (wpAny_call ?_)
  have X := X₀.keeps F.keep
  refine codeAny_call_def (fd := fnOf name qual params body scope dV kV doc pm an cdv ct) (body := body) (binds := binds) hroom (X _ _ ho) rfl (T.nolimit.keeps F.keep) (codeRec_of X hcd) rfl hbind hcell hloc (fun h₁ hns hk₁ => ?_) hco hgen hk
  obtain ⟨oL, es, ep, hLg, hLd, hN, hNs, st, B₂⟩ := kts_enter B F News.nil hA hck
  have hLg : s.heap.get? L = some oL := hLg
  have st : h₀.StaysIn s.heap := st
  have nL₀ : h₀.get? L = none := kts_self F
  have nfr : ∀ q ∈ news, q.1 ∉ (envOf cn cs L a ccd :: outer).filterMap (·.frame) := fun q hq hm => by
    rcases kts_mem hm with z | z
    · exact (N q hq).2.1 z
    · obtain ⟨_, o, ho', _⟩ := B.frames.mem z
      rw [(N q hq).2.2] at ho'
      cases ho'
  refine wpAny_mono (h (fun v s' => ∀ h₀', KtsTurn (outer.filterMap (·.frame)) h₀ h₀' → Fr h₀' L s'.heap m → News h₀' L s'.heap news → Below A₀ base outer h₀' → K.In h₀' → Top p loose mean mg mb h₀' → KtsDicts (outer.filterMap (·.frame)) h₀' → s.toks ≤ s'.toks →
          (∀ b o, s.heap.get? b = some o → b ∉ (envOf cn cs L a ccd :: outer).filterMap (·.frame) → s'.heap.get? b = some o) → Q v s') (fun v s' hh => hh) s.heap s.heap.objs.size h₁ ⟨hN _ hLg, st, F.above⟩ N (fun b o e _ => e) ⟨hns, hk₁, Nat.le_refl _⟩
    News.nil B₂ (X₀.keeps st) (T.keeps st) (fun b hb => by
      rcases kts_mem hb with rfl | hb
      · exact ⟨oL, es, ep, hLg, hLd⟩
      · obtain ⟨o, es', n', ho', hd'⟩ := D b hb
        exact ⟨o, es', n', st b o ho', hd'⟩)) (fun fl s' hl => ?_) fun _ _ y => y
  show s.toks ≤ s'.toks → Q _ s'
  intro ltk
  rcases hl with ⟨L', m', news', F', N', k⟩ | ⟨g', L', m', news', T', F', N', k⟩
  · have F₀ : Fr h₀ L s'.heap m := ⟨hN _ (F'.keep _ _ hLg), fun b o e => F'.keep b o (st b o e), F.above⟩
    refine k F₀ (fun p hp => ⟨(N' p hp).1, fun q => ?_, ?_⟩) h₀ KtsTurn.refl F₀ (fun p hp => ⟨F'.keep _ _ (N p hp).1, (N p hp).2⟩) B X₀ T D ltk fun b o e _ => F'.keep b o e
    · have := (N' p hp).2.2; rw [q, hLg] at this; cases this
    · cases q : h₀.get? p.1 with
      | none => rfl
      | some o => have := (N' p hp).2.2; rw [st _ _ q] at this; cases this
  obtain ⟨sl, hs⟩ := T'.up hLg
  obtain ⟨T₁, S₁⟩ := kts_turn_at (h := s'.heap) (fs := outer.filterMap (·.frame)) (g := h₀)
    (fun b hb => by
      obtain ⟨_, o, ho', _⟩ := B.frames.mem hb
      exact ⟨o, ho'⟩)
    (fun b o e nmem => F'.keep b o (T'.other b o (st b o e) (fun q => by
      rcases kts_mem q with z | z
      · rw [z, nL₀] at e
        cases e
      · exact nmem z)))
    (fun b o e hm => by
      obtain ⟨sl', hs'⟩ := T'.up (st b o e)
      exact ⟨sl', F'.keep _ _ hs'⟩)
  have B₃ : Below A₀ base outer (ktsHeap s'.heap (outer.filterMap (·.frame)) h₀) := ⟨B.stack, fun b o e => T₁.other b o (B.stays b o e) (fun hm => by
    rw [(B.frames.mem hm).1] at e
    cases e), B.frames.of_keeps fun b o e _ => by
    obtain ⟨sl', hs'⟩ := T₁.up e
    exact ⟨_, hs', rfl⟩⟩
  have F₃ : Fr (ktsHeap s'.heap (outer.filterMap (·.frame)) h₀) L s'.heap m := ⟨hNs sl _ (F'.keep _ _ hs), S₁, by rw [T₁.size]; exact F.above⟩
  refine k _ T₁ F₃ (fun p hp => ⟨(N' p hp).1, fun q => ?_, ?_⟩) B₃ (XB.keeps B₃.stays) (TB.keeps B₃.stays) (D.turn T₁) _ T₁ F₃
    (fun p hp => ⟨F'.keep _ _ (T'.other _ _ (N p hp).1 (nfr p hp)), (N p hp).2.1, T₁.none_ _ (N p hp).2.2⟩) B₃ (XB.keeps B₃.stays) (TB.keeps B₃.stays) (D.turn T₁) ltk fun b o e nm => F'.keep b o (T'.other b o e nm)
  · have := (N' p hp).2.2; rw [q, hs] at this; cases this
  · refine T₁.none_ _ ?_
    cases q : h₀.get? p.1 with
    | none => rfl
    | some o =>
      obtain ⟨sl', hs'⟩ := T'.up (st _ _ q)
      have := (N' p hp).2.2
      rw [hs'] at this
      cases this
end Mine
end
section
open PySem PySem.W PyProof.Rows
namespace Mine
local macro_rules | `(tactic| walk_at "exec For Tuple") => `(tactic| (k_here; refine stopHere ?_))
local macro_rules | `(tactic| walk_at "exec For") => `(tactic| (k_here; refine stopHere ?_))
local macro_rules | `(tactic| walk_at "call type:enumerate") => `(tactic| (k_here; refine call_enumerate_str ?_; intro hE heE hitE hszE hkE))
noncomputable def foundAt (l : List Nat) (mark : Str) : Int := match l.findIdx? (isM mark) with | some i => (i : Nat) | none => 99
theorem strTy_of (x : Str) : StrTy (strIterType x) := by unfold strIterType; split <;> first | exact .inl rfl | exact .inr rfl
noncomputable abbrev frIdx (text mark : Str) (u tt : Tok) : Str → Option Value := fun y => List.lookup y [(S "b", Value.str mark u), (S "a", Value.str text tt)]
noncomputable def FoundJ (text mark : Str) (u tt : Tok) (i : Nat) (m : Str → Option Value) : Prop :=
  (∀ y, y ≠ S "j" → y ≠ S "i" → m y = frIdx text mark u tt y) ∧ ∀ c ∈ text.cps.toList.take i, isM mark c = false
theorem found_hit {mark : Str} {i c : Nat} {cps : Array Nat} (h1 : ∀ c ∈ cps.toList.take i, isM mark c = false) (hc : cps[i]? = some c) (hm : isM mark c = true) : ((i : Nat) : Int) = foundAt cps.toList mark := by
  have h2 : cps.toList.findIdx? (isM mark) = some i := by
    rw [List.findIdx?_eq_some_iff_getElem]
    have hlt : i < cps.size := (Array.getElem?_eq_some_iff.mp hc).1
    have hg : cps.toList[i]'(by simpa using hlt) = c := by
      have := (Array.getElem?_eq_some_iff.mp hc).2
      simpa using this
    refine ⟨by simpa using hlt, by rw [hg]; exact hm, fun j hj => ?_⟩
    have : cps.toList[j]'(by simp; omega) ∈ cps.toList.take i := by
      rw [List.mem_take_iff_getElem]
      exact ⟨j, by simp; omega, rfl⟩
    rw [h1 _ this]
    decide
  unfold foundAt
  rw [h2]
theorem found_miss {cps : Array Nat} {mark : Str} (h1 : ∀ c ∈ cps.toList.take cps.size, isM mark c = false) : (99 : Int) = foundAt cps.toList mark := by
  have h2 : cps.toList.findIdx? (isM mark) = none := by
    rw [List.findIdx?_eq_none_iff]
    intro x hx
    exact h1 x (by rw [List.take_of_length_le (by simp)]; exact hx)
  unfold foundAt
  rw [h2]
theorem foundJ_step {text mark : Str} {u tt : Tok} {i : Nat} {m : Str → Option Value} {v1 v2 : Option Value} (h : FoundJ text mark u tt i m) : (fun y => if y = S "j" then v1 else if y = S "i" then v2 else m y) =
    (fun y => if y = S "j" then v1 else if y = S "i" then v2 else frIdx text mark u tt y) := by
  funext y
  by_cases hj : y = S "j"
  · rw [if_pos hj, if_pos hj]
  · rw [if_neg hj, if_neg hj]
    by_cases hi : y = S "i"
    · rw [if_pos hi, if_pos hi]
    · rw [if_neg hi, if_neg hi, h.1 y hj hi]
theorem foundJ_end {text mark : Str} {u tt : Tok} {i : Nat} {m : Str → Option Value} (h : FoundJ text mark u tt i m) : m =
    (fun y => if y = S "j" then m y else if y = S "i" then m y else frIdx text mark u tt y) := by
  funext y
  by_cases hj : y = S "j"
  · rw [if_pos hj]
  · rw [if_neg hj]
    by_cases hi : y = S "i"
    · rw [if_pos hi]
    · rw [if_neg hi, h.1 y hj hi]
local macro_rules | `(tactic| walk_at "compareOp Is") => `(tactic| walk_at "zd1")
local macro_rules | `(tactic| walk_at "leaving ref") => `(tactic| (k_here; (refine' leave_raiseS ?k1 (Heap.MadeExc.of (by assumption)) ?k2 ?k3 ?_; (case k1 => assumption); (case k2 => assumption); (case k3 => k_asm); k_whole; intro h' t' RS' R' U'; (try dsimp only at RS' R' U' ⊢))))
set_option maxHeartbeats 1000000
section
variable {w : World} {mean : ExcName → Option Value} {mg mb : Str → Option Value} {dp un : Nat} {gd : Option (List Code)} {cn : Str} {cs : Scope} {a : Addr} {ccd : Value} {cl : List (Str × Addr)} {outer : List Env} {A₀ : Around} {base h₀ : Heap} {L : Addr} {m : Str → Option Value} {s : Shared} {Q E : Value → Shared → Prop} {news : Led}
theorem con_found {text mark : Str} {tt : Tok} {u : Nat} (B : Below A₀ base outer h₀) (F : Fr h₀ L s.heap m) (X : (KF w.params).In h₀) (N : News h₀ L s.heap news) (T : Top viewQ LQ mean mg mb h₀) (XB : (KF w.params).In base) (TB : Top viewQ LQ mean mg mb base) (D : KtsDicts (outer.filterMap (·.frame)) h₀) (hk : cs.kind = .function) (hp0 : 0 < u) (hp1 : u < s.toks) (hd : dp + 3 < recursionLimit) (hu : un + 24 < cLine)
    (hret : ∀ (t : Tok) (h₀' h' : Heap) (tk' : Nat), KtsTurn (outer.filterMap (·.frame)) h₀ h₀' → Fr h₀' L h' m → News h₀' L h' news → Below A₀ base outer h₀' → (KF w.params).In h₀' → Top viewQ LQ mean mg mb h₀' → KtsDicts (outer.filterMap (·.frame)) h₀' → s.toks ≤ tk' → Q (.int (foundAt text.cps.toList mark) t) { s with heap := h', toks := tk' }) :
    wpAny (model PySem.Challenge.rw_tl0038_01.row.prog w) (ktrTop dp un gd cn cs L a ccd [] outer) (call (.ref 183) [.str text tt, .str mark u]) Q E s := by
  k_dflt (refine' entS (binds := [(S "text", Value.str text tt), (S "mark", Value.str mark u)]) ?k1 ?k2 ?k3 ?k4 ?k5 ?kX ?kT ?kD ?kA ?k6 ?k7 ?k8 ?k9 ?kB ?kG ?kK ?c2 ?c3 ?c4 ?c5; (case kA => exact rfl); (case kK => assumption); (case k1 => k_asm); (case k2 => k_asm); (case k3 => k_asm); (case k4 => k_asm); (case k5 => k_asm); (case kX => k_asm); (case kT => k_asm); (case kD => k_asm); (case k6 => k_is); (case k7 => k_is); (case k8 => first | exact Nat.lt_of_le_of_lt (Nat.le_add_right _ _) hd | ktr_room); (case k9 => exact BindsTo.of_eq rfl); (case c5 => decide); (case kB => exact locs rfl); (case c2 => exact rfl); (case c3 => exact rfl); (case c4 => exact rfl))
  intro Q' hq g' L' h' FG' NG' GS' F' N' B' X' T' D'
  have hr : ∀ (t : Tok) (h₂ : Heap) (tk' : Nat), Q' (.int (foundAt text.cps.toList mark) t) { s with heap := h₂, toks := tk' } := fun t h₂ tk' => hq _ _ fun g₂ t1 F N b x tp d l _ => hret t g₂ h₂ tk' t1 F N b x tp d l
  clear hq hret
  k_whole
  dsimp only [List.reverse, List.reverseAux, List.length] at F'
  dsimp only [List.length]
  (try k_fold)
  walk1
  walk1
  (with_reducible refine wpAny_execs_cons ?_)
  k_steps
  refine wpAny_call ?_
  k_dflt (refine' code_def (binds := [(S "a", Value.str text tt), (S "b", Value.str mark u)]) ?k1 ?k2 ?k3 ?k4 ?k5 ?kA ?kF ?kK ?k6 ?k7 ?k8 ?k9 ?kB ?_ ?c2 ?c3 ?c4 ?c5; (case kA => exact rfl); (case kF => exact rfl); (case kK => first | exact rfl | assumption); (case k1 => k_asm); (case k2 => k_asm); (case k3 => k_asm); (case k4 => k_asm); (case k5 => k_asm); (case k6 => k_is); (case k7 => k_is); (case k8 => first | exact Nat.lt_of_le_of_lt (Nat.le_add_right _ _) hd | ktr_room); (case k9 => exact BindsTo.of_eq rfl); (case c5 => decide); (case kB => exact locs rfl); (case c2 => exact rfl); (case c3 => exact rfl); (case c4 => exact rfl); k_whole)
  intro g2 L2 h2 FG2 F2 N2 B2 X2 T2
  dsimp only [List.reverse, List.reverseAux, List.length] at F2
  dsimp only [List.length]
  (try k_fold)
  k_steps
  refine Stop.mk ?_
  refine For_enumK g2 rfl rfl rfl rfl ?_
  k_steps
  rename_i hE heE hitE hszE hkE
  have FE : Fr g2 L2 hE (fun y => List.lookup y [(S "b", Value.str mark u), (S "a", Value.str text tt)]) := F2.keeps hkE
  refine ⟨text, tt, _, _, _, _, u + 1, FoundJ text mark u tt, rfl, strTy_of text, heE, hitE, Nat.succ_ne_self _, ?_, next_is_new F2, ?_, Nat.ne_of_gt F2.ns.lt, ?_, FE, ⟨fun y _ _ => rfl, fun c hc => nomatch hc⟩, ?_, ?_⟩
  · exact Heap.get?_none_of_le (Nat.le_trans F2.above (Nat.le_of_lt (Nat.lt_succ_of_lt F2.ns.lt)))
  · exact Nat.ne_of_gt (Nat.lt_succ_of_lt F2.ns.lt)
  · dsimp only; omega
  · intro i c t ti m₁ h tk own hc ht htk hJ F₁ N₁
    rw [foundJ_step hJ] at F₁
    have hut : u < t := ht
    have ec : text.cps.toList.take (i + 1) = text.cps.toList.take i ++ [c] := by
      rw [List.take_add_one]; simp [hc]
    k_steps
    · have hm : isM mark c = true := isM_of (by rename_i h1 h2; exact h1 h2)
      show qk (Flow.ret _) _
      k_steps
      rw [found_hit hJ.2 hc hm]
      exact hr _ _ _
    · have hm : isM mark c = true := by assumption
      show qk (Flow.ret _) _
      k_steps
      rw [found_hit hJ.2 hc hm]
      exact hr _ _ _
    · have hm : isM mark c = false := by assumption
      refine ⟨h, tk, _, rfl, F₁, fun p hp => (N₁ p hp).1, fun y h1 h2 => by dsimp only; rw [if_neg h1, if_neg h2], ?_⟩
      rw [ec]
      intro c' hc'
      rcases List.mem_append.mp hc' with h1 | h1
      · exact hJ.2 c' h1
      · rw [List.mem_singleton.mp h1]; exact hm
  · intro h tk m' htk F₁ hJ
    rw [foundJ_end hJ] at F₁
    have N₁ : News g2 L2 h [] := News.nil
    k_steps
    rw [found_miss hJ.2]
    exact hr _ _ _
end
end Mine
end
section
open PySem PySem.W PyProof.Rows
namespace Mine
set_option hygiene false in
local macro_rules | `(tactic| walk_at "call ref") => `(tactic| (k_here; (with_reducible show wpAny _ _ (call (Value.ref 183) [Value.str _ _, Value.str _ _]) _ _ _); k_dflt (refine' con_found ?B ?F ?X ?N ?T ?XB ?TB ?D ?hk ?p0 ?p1 ?hd ?hu ?_); walk_at "zB"; walk_at "zX"; (case p0 => assumption); (case p1 => (dsimp only; omega)); intro t9z g19z h9z tk9z TU9z F9z N9z B9z X9z T9z D9z l9z; (try dsimp only at l9z); (try dsimp only); (try k_fold)))
set_option hygiene false in
local macro_rules | `(tactic| walk_at "call ref") => `(tactic| (k_here; (with_reducible show wpAny _ _ (call (Value.ref 120) [Value.str _ _, Value.str _ _]) _ _ _); k_dflt (refine' con_countOf ?B ?F ?X ?N ?T ?hk ?p0 ?p1 ?hd ?hu ?_); walk_at "zB"; (case p0 => assumption); (case p1 => ((show (_ : Nat) < (_ : Nat)); dsimp only; omega)); walk_at "zI"))
theorem news_apart {fs : List Addr} {h₀ g g₁ h' : Heap} {L L' r : Addr} {news news' : Led} {o : Obj} (NG : News h₀ L g news) (TU : KtsTurn fs g g₁) (N' : News g₁ L' h' news') (hm : (r, o) ∈ news') : ∀ p ∈ news, p.1 ≠ r := by
  intro p hp e
  obtain ⟨sl, hs⟩ := TU.up (NG p hp).1
  have := (N' _ hm).2.2
  rw [e] at hs
  rw [hs] at this
  cases this
theorem news_add {fs : List Addr} {h₀ h₀₁ h₀' h' : Heap} {L r : Addr} {news news' : Led} {o : Obj} (N1 : News h₀₁ L h' news') (hm : (r, o) ∈ news') (t0 : KtsTurn fs h₀ h₀₁) (t1 : KtsTurn fs h₀ h₀') (N : News h₀' L h' news) : News h₀' L h' ((r, o) :: news) := by
  intro p hp
  rcases List.mem_cons.mp hp with rfl | hp
  · refine ⟨(N1 _ hm).1, (N1 _ hm).2.1, t1.none_ _ ?_⟩
    cases q : h₀.get? r with
    | none => rfl
    | some o' =>
      obtain ⟨sl, hs⟩ := t0.up q
      have := (N1 _ hm).2.2
      rw [hs] at this
      cases this
  · exact N p hp
noncomputable abbrev partOk (text mark : Str) : Prop := [foundAt (Txt.slice text none (some (foundAt text.cps.toList mark))).cps.toList mark, foundAt (Txt.slice text (some (foundAt text.cps.toList mark + 1)) (some ((text.length : Int) - 1))).cps.toList mark, cntOf text.cps.toList mark] = [99, 99, 2]
noncomputable def part1 (text mark : Str) : Str := if partOk text mark then Txt.slice text none (some (foundAt text.cps.toList mark)) else Str.ofString ""
noncomputable def part2 (text mark : Str) : Str := if partOk text mark then Txt.slice text (some (foundAt text.cps.toList mark + 1)) (some ((text.length : Int) - 1)) else Str.ofString ""
theorem parts_t {text mark : Str} (h : partOk text mark) : Txt.slice text none (some (foundAt text.cps.toList mark)) = part1 text mark ∧ Txt.slice text (some (foundAt text.cps.toList mark + 1)) (some ((text.length : Int) - 1)) = part2 text mark := ⟨(if_pos h).symm, (if_pos h).symm⟩
theorem parts_f {text mark : Str} (h : ¬ partOk text mark) : Str.ofString "" = part1 text mark ∧ Str.ofString "" = part2 text mark := ⟨(if_neg h).symm, (if_neg h).symm⟩
noncomputable def TkLe (a b : Nat) (P : Prop) : Prop := a ≤ b → P
theorem execs_cons_t {M : Model} {A : Around} {env : Env} {E : Value → Shared → Prop} {s : Shared} {st : Stmt} {rest : List Stmt} {Q : Flow → Shared → Prop}
    (h : wpAny M A (exec st env) (fun f s' => TkLe s.toks s'.toks (match f with | .next => wpAny M A (execs rest env) Q E s' | f => Q f s')) E s) : wpAny M A (execs (st :: rest) env) Q E s :=
  wpAny_execs_cons (wpAny_toks h)
local macro_rules | `(tactic| walk_at "execs cons") => `(tactic| walk_at "zd2")
local macro_rules | `(tactic| walk_at "execs nil") => `(tactic| walk_at "zd3")
local macro_rules | `(tactic| walk_at "compareOp NotEq ref ref") => `(tactic| (k_here; (refine ke_ne_ints (by is_list) (by is_list) (by l_ints) (by l_ints) (by ktr_units) ?_)))
local macro_rules | `(tactic| walk_at "TkLe") => `(tactic| walk_at "zd4")
set_option maxHeartbeats 1000000
section
variable {w : World} {mean : ExcName → Option Value} {mg mb : Str → Option Value} {dp un : Nat} {gd : Option (List Code)} {cn : Str} {cs : Scope} {a : Addr} {ccd : Value} {cl : List (Str × Addr)} {outer : List Env} {A₀ : Around} {base h₀ : Heap} {L : Addr} {m : Str → Option Value} {s : Shared} {Q E : Value → Shared → Prop} {news : Led}
theorem con_parted {text mark : Str} {tt : Tok} {u : Nat} (B : Below A₀ base outer h₀) (F : Fr h₀ L s.heap m) (X : (KF w.params).In h₀) (N : News h₀ L s.heap news) (T : Top viewQ LQ mean mg mb h₀) (XB : (KF w.params).In base) (TB : Top viewQ LQ mean mg mb base) (D : KtsDicts (outer.filterMap (·.frame)) h₀) (hk : cs.kind = .function) (hp0 : 0 < u) (hp1 : u < s.toks) (hp2 : text.length < 2 ^ 16) (hd : dp + 4 < recursionLimit) (hu : un + 112 < cLine)
    (hret : ∀ (r : Addr) (t1 t2 : Tok) (h₀' h' : Heap) (tk' : Nat), KtsTurn (outer.filterMap (·.frame)) h₀ h₀' → Fr h₀' L h' m → News h₀' L h' ((r, W.listOf #[.str (part1 text mark) t1, .str (part2 text mark) t2] 0) :: news) → (∀ p ∈ news, p.1 ≠ r) → Below A₀ base outer h₀' → (KF w.params).In h₀' → Top viewQ LQ mean mg mb h₀' → KtsDicts (outer.filterMap (·.frame)) h₀' → s.toks ≤ tk' → Q (.ref r) { s with heap := h', toks := tk' }) :
    wpAny (model PySem.Challenge.rw_tl0038_01.row.prog w) (ktrTop dp un gd cn cs L a ccd [] outer) (call (.ref 190) [.str text tt, .str mark u]) Q E s := by
  k_dflt (refine' entS (binds := [(S "text", Value.str text tt), (S "mark", Value.str mark u)]) ?k1 ?k2 ?k3 ?k4 ?k5 ?kX ?kT ?kD ?kA ?k6 ?k7 ?k8 ?k9 ?kB ?kG ?kK ?c2 ?c3 ?c4 ?c5; (case kA => exact rfl); (case kK => assumption); (case k1 => k_asm); (case k2 => k_asm); (case k3 => k_asm); (case k4 => k_asm); (case k5 => k_asm); (case kX => k_asm); (case kT => k_asm); (case kD => k_asm); (case k6 => k_is); (case k7 => k_is); (case k8 => first | exact Nat.lt_of_le_of_lt (Nat.le_add_right _ _) hd | ktr_room); (case k9 => exact BindsTo.of_eq rfl); (case c5 => decide); (case kB => exact locs rfl); (case c2 => exact rfl); (case c3 => exact rfl); (case c4 => exact rfl))
  intro Q' hq g' L' h' FG' NG' GS' F' N' B' X' T' D'
  have hr : ∀ (r : Addr) (t1 t2 : Tok) (x1 x2 : Str) (h₂ : Heap) (tk' : Nat) (h₀₁ : Heap) (news' : Led), x1 = part1 text mark ∧ x2 = part2 text mark → KtsTurn (outer.filterMap (·.frame)) h₀ h₀₁ → News h₀₁ L h₂ news' → (r, W.listOf #[.str x1 t1, .str x2 t2] 0) ∈ news' → (∀ p ∈ news, p.1 ≠ r) → Q' (.ref r) { s with heap := h₂, toks := tk' } := by
    rintro r t1 t2 _ _ h₂ tk' h₀₁ news' ⟨rfl, rfl⟩ t0 N1 hm hne
    exact hq _ _ fun g₂ t1' F N b x tp d l _ => hret r t1 t2 g₂ h₂ tk' t1' F (news_add N1 hm t0 t1' N) hne b x tp d l
  clear hq hret
  k_whole
  dsimp only [List.reverse, List.reverseAux, List.length] at F'
  dsimp only [List.length]
  (try k_fold)
  have hU : u < s.toks + (0 + 1 + 1) := by omega
  generalize s.toks + (0 + 1 + 1) = tk0 at hU ⊢
  k_steps
  · have e := parts_t (text := text) (mark := mark) (by assumption)
    refine' leaveS_r ?F ?N ?T ?k
    case F => assumption
    case N => assumption
    case T => exact KtsTurn.trans (by assumption) (KtsTurn.trans (by assumption) (by assumption))
    case k =>
      intro h₀₁ t0 F0 N0 b0 x0 tp0 d0
      refine hr _ _ _ _ _ _ _ _ _ e t0 N0 (by k_mem) ?_
      exact news_apart NG' (KtsTurn.trans (by assumption) (KtsTurn.trans (by assumption) (by assumption))) (by assumption) (by k_mem)
  · have e := parts_f (text := text) (mark := mark) (by assumption)
    refine' leaveS_r ?F ?N ?T ?k
    case F => assumption
    case N => assumption
    case T => exact KtsTurn.trans (by assumption) (KtsTurn.trans (by assumption) (by assumption))
    case k =>
      intro h₀₁ t0 F0 N0 b0 x0 tp0 d0
      refine hr _ _ _ _ _ _ _ _ _ e t0 N0 (by k_mem) ?_
      exact news_apart NG' (KtsTurn.trans (by assumption) (KtsTurn.trans (by assumption) (by assumption))) (by assumption) (by k_mem)
end
end Mine
end
section
open PySem PySem.W PyProof.Rows
namespace Mine
set_option hygiene false in
local macro_rules | `(tactic| walk_at "call ref") => `(tactic| walk_at "zd5")
set_option hygiene false in
local macro_rules | `(tactic| walk_at "call ref") => `(tactic| (k_here; (with_reducible show wpAny _ _ (call (Value.ref 99) [Value.int _ _, Value.int _ _]) _ _ _); k_dflt (refine' con_mul ?B ?F ?X ?N ?T ?hk ?p0 ?p1 ?hd ?hu ?_); walk_at "zB"; (case p0 => assumption); (case p1 => assumption); walk_at "zI"))
set_option maxHeartbeats 1000000
section
variable {w : World} {mean : ExcName → Option Value} {mg mb : Str → Option Value} {dp un : Nat} {gd : Option (List Code)} {cn : Str} {cs : Scope} {a : Addr} {ccd : Value} {cl : List (Str × Addr)} {outer : List Env} {A₀ : Around} {base h₀ : Heap} {L : Addr} {m : Str → Option Value} {s : Shared} {Q E : Value → Shared → Prop} {news : Led}
theorem con_product {l r : Addr} {a0 a1 a2 a3 b0 b1 b2 b3 : Int} {t0 t1 t2 t3 u0 u1 u2 u3 : Tok} {nl nr : Nat} (B : Below A₀ base outer h₀) (F : Fr h₀ L s.heap m) (X : (KF w.params).In h₀) (N : News h₀ L s.heap news) (T : Top viewQ LQ mean mg mb h₀) (hk : cs.kind = .function) (hp0 : s.heap.get? l = some (W.listOf #[.int a0 t0, .int a1 t1, .int a2 t2, .int a3 t3] nl)) (hp1 : s.heap.get? r = some (W.listOf #[.int b0 u0, .int b1 u1, .int b2 u2, .int b3 u3] nr)) (hp2 : a0.natAbs < 2 ^ 31) (hp3 : a1.natAbs < 2 ^ 31) (hp4 : a2.natAbs < 2 ^ 31) (hp5 : a3.natAbs < 2 ^ 31) (hp6 : b0.natAbs < 2 ^ 31) (hp7 : b1.natAbs < 2 ^ 31) (hp8 : b2.natAbs < 2 ^ 31) (hp9 : b3.natAbs < 2 ^ 31) (hd : dp + 2 < recursionLimit) (hu : un + 16 < cLine)
    (hret : ∀ (r : Addr) (v0 v1 v2 v3 : Tok) (h' : Heap) (tk' : Nat), Fr h₀ L h' m → News h₀ L h' ((r, W.listOf #[.int (a0 * b0 + a1 * b2) v0, .int (a0 * b1 + a1 * b3) v1, .int (a2 * b0 + a3 * b2) v2, .int (a2 * b1 + a3 * b3) v3] 0) :: news) → (∀ p ∈ news, p.1 ≠ r) → s.toks ≤ tk' → Q (.ref r) { s with heap := h', toks := tk' }) :
    wpAny (model PySem.Challenge.rw_tl0038_01.row.prog w) (ktrTop dp un gd cn cs L a ccd cl outer) (call (.ref 211) [.ref l, .ref r]) Q E s := by
  k_dflt (refine' entN (binds := [(S "left", Value.ref l), (S "right", Value.ref r)]) ?k1 ?k2 ?k3 ?k4 ?k5 ?kA ?kF ?kK ?k6 ?k7 ?k8 ?k9 ?kB ?kG ?c2 ?c3 ?c4 ?c5; (case kA => exact rfl); (case kF => exact rfl); (case kK => assumption); (case k1 => k_asm); (case k2 => k_asm); (case k3 => k_asm); (case k4 => k_asm); (case k5 => k_asm); (case k6 => k_is); (case k7 => k_is); (case k8 => first | exact Nat.lt_of_le_of_lt (Nat.le_add_right _ _) hd | ktr_room); (case k9 => exact BindsTo.of_eq rfl); (case c5 => decide); (case kB => exact locs rfl); (case c2 => exact rfl); (case c3 => exact rfl); (case c4 => exact rfl))
  intro Q' hq g' L' h' FG' NG' GS' F' N' B' X' T'
  have hr : ∀ (r : Addr) (v0 v1 v2 v3 : Tok) (h₂ : Heap) (tk' : Nat), News h₀ L h₂ [(r, W.listOf #[.int (a0 * b0 + a1 * b2) v0, .int (a0 * b1 + a1 * b3) v1, .int (a2 * b0 + a3 * b2) v2, .int (a2 * b1 + a3 * b3) v3] 0)] → (∀ p ∈ news, p.1 ≠ r) → Q' (.ref r) { s with heap := h₂, toks := tk' } := fun r v0 v1 v2 v3 h₂ tk' N1 hne => hq _ _ fun F N l _ => hret r v0 v1 v2 v3 h₂ tk' F (fun p hp => (List.mem_cons.mp hp).elim (fun e => e ▸ N1 _ (.head _)) (N p)) hne l
  clear hq hret
  k_whole
  dsimp only [List.reverse, List.reverseAux, List.length] at F'
  dsimp only [List.length]
  (try k_fold)
  have hl : g'.IsList l #[.int a0 t0, .int a1 t1, .int a2 t2, .int a3 t3] := ⟨_, GS' _ _ hp0 (fun q => nomatch q), rfl, _, rfl⟩
  have hrr : g'.IsList r #[.int b0 u0, .int b1 u1, .int b2 u2, .int b3 u3] := ⟨_, GS' _ _ hp1 (fun q => nomatch q), rfl, _, rfl⟩
  k_steps
  exact hr _ _ _ _ _ _ _ (by assumption) (news_apart NG' (KtsTurn.refl (fs := [])) (by assumption) (.head _))
end
end Mine
end
section
open PySem PySem.W PyProof.Rows PySem.Spec
namespace Mine
noncomputable def TurnPostH (h₀ : Heap) (L : Addr) (own : Led) (J : (Str → Option Value) → Heap → Prop) (s₁ : Shared) (Q : Flow → Shared → Prop) (f : Flow) (s₂ : Shared) : Prop :=
  match f with
  | .ret v => Q (.ret v) s₂
  | .brk => Q .next s₂
  | _ => ∃ h' tk m', s₂ = { s₁ with heap := h', toks := tk } ∧ Fr h₀ L h' m' ∧ (∀ p ∈ own, h'.get? p.1 = some p.2) ∧ J m' h'
section
variable {prog : Program} {w : World} {A : Around} {E : Value → Shared → Prop} {s : Shared} {env : Env} {h₀ : Heap}
theorem forStrH {R : Result → Shared → Prop} {x : Str} {px : Pos} {body orelse : List Stmt} {text : Str} {tt : Tok} {m : Str → Option Value} {k0 : Nat} {I : Addr} {ty : String} (hh : A.handled = none) (hx : env.kindOf x = some .local)
    (hp : (env.scope.kind == .class || (env.scope.kind == .module && env.locals != env.globals)) = false)
    (hty : StrTy ty) (hit : s.heap.IsStrIter I ty text tt 0) (hI : h₀.get? I = none) (hIL : I ≠ env.locals) (hk0 : k0 ≤ s.toks) (F : Fr h₀ env.locals s.heap m)
    (J : Nat → (Str → Option Value) → Heap → Prop) (h0 : J 0 m s.heap) (stab : ∀ i m h h', J i m h → (∀ b o, h.get? b = some o → b ≠ env.locals → b ≠ I → h'.get? b = some o) → J i m h')
    (step : ∀ i c t m₁ h tk o, text.cps[i]? = some c → k0 ≤ t → k0 ≤ tk → J i m₁ h → Fr h₀ env.locals h (fun y => if y = x then some (.str ⟨#[c]⟩ t) else m₁ y) → News h₀ env.locals h [(I, o)] →
      wpAny (model prog w) A (execs body env) (TurnPostH h₀ env.locals [(I, o)] (J (i + 1)) { s with heap := h, toks := tk } fun f s' => R (.ok f) s') (notedBy (model prog w) A env fun e s' => R (.error e) s') { s with heap := h, toks := tk })
    (done : ∀ h tk m', k0 ≤ tk → Fr h₀ env.locals h m' → J text.cps.size m' h → wpAny (model prog w) A (execs orelse env) (fun f s₃ => R (.ok f) s₃) (notedBy (model prog w) A env fun e s' => R (.error e) s') { s with heap := h, toks := tk }) :
    codeAny (model prog w) A (.forLoop (.Name x px) (.ref I) body orelse env) R s := by
  refine codeAny_forLoop
    (fun k s' => ∃ h' tk m' i, s' = { s with heap := h', toks := tk } ∧ h'.IsStrIter I ty text tt i ∧ k0 ≤ tk ∧ Fr h₀ env.locals h' m' ∧ J i m' h' ∧ i ≤ text.cps.size ∧ k = text.cps.size + 1 - i) ?_ (text.cps.size + 1)
    ⟨s.heap, s.toks, m, 0, rfl, hit, hk0, F, h0, Nat.zero_le _, rfl⟩
  rintro k s' ⟨h', tk, m', i, rfl, hit', hk, F', hJ, hi, rfl⟩
  cases hc : text.cps[i]? with
  | some c =>
    have hlt : i < text.cps.size := (Array.getElem?_eq_some_iff.mp hc).1
    refine str_next hty hit' hc fun h₁ hit₁ hs₁ => ?_
    replace hs₁ : Heap.SameBut I h' h₁ := hs₁
    have F₁ : Fr h₀ env.locals h₁ m' := ⟨F'.ns.at fun o e => (hs₁.2 _ (Ne.symm hIL)).trans e, fun b o e => (hs₁.2 b (fun q => by rw [q, hI] at e; cases e)).trans (F'.keep b o e), F'.above⟩
    refine wpAny_assign_Name (wpAny_storeName_local hx F₁.ns (fun h₂ hn₂ hs₂ => ?_) hp)
    have F₂ := F₁.set hn₂ hs₂
    have hJ₂ : J i m' h₂ := stab i m' h' h₂ hJ fun b o e b1 b2 => (hs₂.2 b b1).trans ((hs₁.2 b b2).trans e)
    have hit₂ : h₂.IsStrIter I ty text tt (i + 1) := hit₁.extBut hs₂.extBut hIL
    obtain ⟨o, ho, hoc, hod⟩ := id hit₂
    have N₂ : News h₀ env.locals h₂ [(I, o)] := fun p hp => by
      rw [List.mem_singleton.mp hp]
      exact ⟨ho, hIL, hI⟩
    refine wpAny_mono (wpAny_toks (wpAny_mono (step i c tk m' h₂ (tk + 1 + 1) o hc hk (by omega) hJ₂ F₂ N₂) (fun f s₃ h₃ l₃ => (⟨h₃, l₃⟩ : _ ∧ _)) fun _ _ e => e)) (fun f s₃ h₃ => ?_) fun _ _ e => e
    obtain ⟨h₃, l₃⟩ := h₃
    cases f with
    | ret v => exact h₃
    | brk => exact h₃
    | cont =>
      obtain ⟨h₄, tk₄, m₄, rfl, F₄, ko, hJ₄⟩ := h₃
      have l₄ : tk + 1 + 1 ≤ tk₄ := l₃
      exact ⟨_, by omega, h₄, tk₄, m₄, i + 1, rfl, ⟨o, ko _ (.head _), hoc, hod⟩, by omega, F₄, hJ₄, hlt, rfl⟩
    | next =>
      obtain ⟨h₄, tk₄, m₄, rfl, F₄, ko, hJ₄⟩ := h₃
      have l₄ : tk + 1 + 1 ≤ tk₄ := l₃
      exact ⟨_, by omega, h₄, tk₄, m₄, i + 1, rfl, ⟨o, ko _ (.head _), hoc, hod⟩, by omega, F₄, hJ₄, hlt, rfl⟩
  | none =>
    have hsz : i = text.cps.size := Nat.le_antisymm hi (by simpa using hc)
    subst hsz
    refine str_last hty hh hit' hc fun h₁ hs₁ => ?_
    replace hs₁ : Heap.ExtBut I h' h₁ := hs₁
    have F₁ : Fr h₀ env.locals h₁ m' := ⟨F'.ns.at' fun o e => hs₁ _ o (Ne.symm hIL) e, fun b o e => hs₁ b o (fun q => by rw [q, hI] at e; cases e) (F'.keep b o e), F'.above⟩
    exact done h₁ tk m' hk F₁ (stab _ m' h' h₁ hJ fun b o e _ b2 => hs₁ b o b2 e)
structure StrAtH (prog : Program) (w : World) (A : Around) (h₀ : Heap) (env : Env) (x : Str) (body orelse : List Stmt) (Q : Flow → Shared → Prop) (E : Value → Shared → Prop) (xv : Value) (s : Shared) : Prop where
  out : ∃ (text : Str) (tt : Tok) (m : Str → Option Value) (k0 : Nat) (J : Nat → (Str → Option Value) → Heap → Prop), xv = .str text tt ∧ k0 ≤ s.toks ∧ Fr h₀ env.locals s.heap m ∧ (∀ o, J 0 m (s.heap.push o)) ∧
    (∀ I, h₀.get? I = none → I = s.heap.objs.size → ∀ i m h h', J i m h → (∀ b o, h.get? b = some o → b ≠ env.locals → b ≠ I → h'.get? b = some o) → J i m h') ∧
    (∀ i c t m₁ h tk I o, text.cps[i]? = some c → k0 ≤ t → k0 ≤ tk → J i m₁ h → Fr h₀ env.locals h (fun y => if y = x then some (.str ⟨#[c]⟩ t) else m₁ y) → News h₀ env.locals h [(I, o)] → I = s.heap.objs.size →
      wpAny (model prog w) A (execs body env) (TurnPostH h₀ env.locals [(I, o)] (J (i + 1)) { s with heap := h, toks := tk } Q) E { s with heap := h, toks := tk }) ∧
    (∀ h tk m', k0 ≤ tk → Fr h₀ env.locals h m' → J text.cps.size m' h → wpAny (model prog w) A (execs orelse env) Q E { s with heap := h, toks := tk })
theorem For_strH {Q : Flow → Shared → Prop} {x : Str} {px pos : Pos} {iter : Expr} {body orelse : List Stmt} (h₀ : Heap) (hh : A.handled = none) (hx : env.kindOf x = some .local)
    (hp : (env.scope.kind == .class || (env.scope.kind == .module && env.locals != env.globals)) = false)
    (h : wpAny (model prog w) A (eval iter env) (fun xv s₁ => StrAtH prog w A h₀ env x body orelse Q E xv s₁) E s)
    (hs : ∀ x, foldedSetIterable iter env x = pure x := by intro _; rfl)
    (hE : PassesOwn (model prog w) A env E := by passes_own) :
    wpAny (model prog w) A (exec (.For (.Name x px) iter body orelse pos) env) Q E s := by
  refine wpAny_For (wpAny_mono h (fun xv s₁ h₁ => ?_) fun _ _ e => e) hs
  obtain ⟨text, tt, m, k0, J, rfl, hk, F, h0, stab, step, done⟩ := h₁
  refine str_iter fun o ty hty hit => ?_
  refine forStrH (R := fun r s' => match r with | .ok f => Q f s' | .error e => cameBackBy (model prog w) A env E e s') hh hx hp hty hit (next_is_new F) (Nat.ne_of_gt F.ns.lt) hk (F.push _) J (h0 o) (stab _ (next_is_new F) rfl) ?_ ?_
  · intro i c t m₁ h tk o' hc ht hk' hJ F₁ N₁
    exact wpAny_passesOwn hE (step i c t m₁ h tk _ o' hc ht hk' hJ F₁ N₁ rfl)
  · intro h tk m' hk' F₁ hJ
    exact wpAny_passesOwn hE (done h tk m' hk' F₁ hJ)
end
end Mine
end
section
open PySem PySem.W PyProof.Rows
namespace Mine
noncomputable abbrev Mat := Int × Int × Int × Int
noncomputable def mulM (p q : Mat) : Mat := (p.1 * q.1 + p.2.1 * q.2.2.1, p.1 * q.2.1 + p.2.1 * q.2.2.2, p.2.2.1 * q.1 + p.2.2.2 * q.2.2.1, p.2.2.1 * q.2.1 + p.2.2.2 * q.2.2.2)
noncomputable def genM (c : Nat) : Mat := if c = 104 then (2, 1, 1, 1) else (1, 1, 1, 2)
noncomputable def sqOf (l : List Nat) : Mat := l.foldl (fun p c => mulM p (genM c)) (1, 0, 0, 1)
theorem sq_snoc (l : List Nat) (c : Nat) : sqOf (l ++ [c]) = mulM (sqOf l) (genM c) := by unfold sqOf; rw [List.foldl_append]; rfl
noncomputable def MatLe (p : Mat) (n : Nat) : Prop := p.1.natAbs ≤ n ∧ p.2.1.natAbs ≤ n ∧ p.2.2.1.natAbs ≤ n ∧ p.2.2.2.natAbs ≤ n
theorem nab {a b : Int} {n i j : Nat} (ha : a.natAbs ≤ n) (hb : b.natAbs ≤ n) (h : i + j ≤ 3) : (a * (i : Int) + b * (j : Int)).natAbs ≤ 3 * n :=
  Nat.le_trans (Int.natAbs_add_le _ _) (by
    rw [Int.natAbs_mul, Int.natAbs_mul, Int.natAbs_natCast, Int.natAbs_natCast]
    exact Nat.le_trans (Nat.add_le_add (Nat.mul_le_mul_right _ ha) (Nat.mul_le_mul_right _ hb)) (by rw [← Nat.mul_add, Nat.mul_comm]; exact Nat.mul_le_mul_right _ h))
theorem matLe_mul {p : Mat} {n c : Nat} (h : MatLe p n) : MatLe (mulM p (genM c)) (3 * n) := by
  obtain ⟨h1, h2, h3, h4⟩ := h
  unfold genM
  split
  · exact ⟨nab (i := 2) (j := 1) h1 h2 (by decide), nab (i := 1) (j := 1) h1 h2 (by decide), nab (i := 2) (j := 1) h3 h4 (by decide), nab (i := 1) (j := 1) h3 h4 (by decide)⟩
  · exact ⟨nab (i := 1) (j := 1) h1 h2 (by decide), nab (i := 1) (j := 2) h1 h2 (by decide), nab (i := 1) (j := 1) h3 h4 (by decide), nab (i := 1) (j := 2) h3 h4 (by decide)⟩
theorem sq_le : ∀ l : List Nat, MatLe (sqOf l.reverse) (3 ^ l.length)
  | [] => by refine ⟨?_, ?_, ?_, ?_⟩ <;> decide
  | c :: l => by
    rw [List.reverse_cons, sq_snoc, List.length_cons, Nat.pow_succ, Nat.mul_comm]
    exact matLe_mul (sq_le l)
theorem sq_bd (l : List Nat) (h : l.length ≤ 16) : MatLe (sqOf l) (2 ^ 31 - 1) := by
  have := sq_le l.reverse
  rw [List.reverse_reverse, List.length_reverse] at this
  have h3 : 3 ^ l.length ≤ 3 ^ 16 := Nat.pow_le_pow_right (by decide) h
  have h4 : 3 ^ 16 ≤ 2 ^ 31 - 1 := by decide
  obtain ⟨a, b, c, d⟩ := this
  exact ⟨by omega, by omega, by omega, by omega⟩
set_option hygiene false in
local macro_rules | `(tactic| walk_at "call ref") => `(tactic| (k_here; (with_reducible show wpAny _ _ (call (Value.ref 211) [Value.ref _, Value.ref _]) _ _ _); k_dflt (refine' con_product ?B ?F ?X ?N ?T ?hk ?p0 ?p1 ?_ ?_ ?_ ?_ ?_ ?_ ?_ ?_ ?hd ?hu ?_); walk_at "zB"; (case p0 => exact (News.get (by k_asm) (by k_mem))); (case p1 => exact (News.get (by k_asm) (by k_mem))); (all_goals try first | assumption | decide); intro r9z v09z v19z v29z v39z h9z tk9z F9z N9z ne9z l9z; walk_at "zT"))
section
variable {w : World} {mean : ExcName → Option Value} {mg mb : Str → Option Value} {dp un : Nat} {gd : Option (List Code)} {cn : Str} {cs : Scope} {a : Addr} {ccd : Value} {cl : List (Str × Addr)} {outer : List Env} {A₀ : Around} {base g : Heap} {L L' : Addr} {s : Shared} {Q : Flow → Shared → Prop} {E : Value → Shared → Prop}
set_option maxHeartbeats 1000000 in
theorem sq_turn {r : Addr} {word : Str} {c : Nat} {tw t t0 t1 t2 t3 : Tok} {a0 a1 a2 a3 : Int} {nl : Nat} {own : Led} (hd : dp + 3 < recursionLimit) (hu : un + 24 < cLine)
    (h0 : a0.natAbs < 2 ^ 31) (h1 : a1.natAbs < 2 ^ 31) (h2 : a2.natAbs < 2 ^ 31) (h3 : a3.natAbs < 2 ^ 31)
    (B' : Below (ktrTop dp un gd cn cs L a ccd cl outer) base (envX cn cs L a ccd cl :: outer) g) (X' : (KF w.params).In g) (T' : Top viewQ LQ mean mg mb g)
    (F : Fr g L' s.heap (fun y => if y = S "letter" then some (.str ⟨#[c]⟩ t) else if y = S "square" then some (.ref r) else List.lookup y [(S "word", Value.str word tw)]))
    (N : News g L' s.heap ((r, W.listOf #[.int a0 t0, .int a1 t1, .int a2 t2, .int a3 t3] nl) :: own))
    (hr : ∀ (r' : Addr) (v0 v1 v2 v3 : Tok) (x : Mat) (h' : Heap) (tk : Nat), x = mulM (a0, a1, a2, a3) (genM c) → Fr g L' h' (fun y => if y = S "square" then some (.ref r') else if y = S "letter" then some (.str ⟨#[c]⟩ t) else if y = S "square" then some (.ref r) else List.lookup y [(S "word", Value.str word tw)]) →
      (∀ p ∈ own, h'.get? p.1 = some p.2 ∧ p.1 ≠ r') → h'.get? r' = some (W.listOf #[.int x.1 v0, .int x.2.1 v1, .int x.2.2.1 v2, .int x.2.2.2 v3] 0) → r' ≠ L' → g.get? r' = none → Q .next { s with heap := h', toks := tk }) :
    wpAny (model PySem.Challenge.rw_tl0038_01.row.prog w) ((ktrTop dp un gd cn cs L a ccd cl outer).deeper (envF (S "_law_square") 30 L' 218 217)) (execs (lpBody 30 1) (envF (S "_law_square") 30 L' 218 217)) Q E s := by
  k_steps
  all_goals (rename Fr _ _ _ _ => FL; rename News _ _ _ _ => NL; rename ∀ p ∈ _, _ ≠ _ => ne)
  · have hc : c = 104 := by rw [← eq_h]; assumption
    refine hr _ _ _ _ _ (_, _, _, _) _ _ ?_ FL ?_ (NL _ (.head _)).1 (NL _ (.head _)).2.1 (NL _ (.head _)).2.2
    · rw [genM, if_pos hc]; rfl
    · exact fun p hp => ⟨(NL p (.tail _ (.tail _ (.tail _ hp)))).1, ne p (.tail _ (.tail _ hp))⟩
  · have hc : ¬ c = 104 := by rw [← eq_h']; assumption
    refine hr _ _ _ _ _ (_, _, _, _) _ _ ?_ FL ?_ (NL _ (.head _)).1 (NL _ (.head _)).2.1 (NL _ (.head _)).2.2
    · rw [genM, if_neg hc]; rfl
    · exact fun p hp => ⟨(NL p (.tail _ (.tail _ (.tail _ hp)))).1, ne p (.tail _ (.tail _ hp))⟩
end
end Mine
end
section
open PySem PySem.W PyProof.Rows
namespace Mine
local macro_rules | `(tactic| walk_at "zz0") => `(tactic| skip)
noncomputable def SqJ (word : Str) (tw : Tok) (g : Heap) (L' I₀ : Addr) (i : Nat) (m : Str → Option Value) (h : Heap) : Prop :=
  (∃ r v0 v1 v2 v3 nl, m (S "square") = some (.ref r) ∧ h.get? r = some (W.listOf #[.int (sqOf (word.cps.toList.take i)).1 v0, .int (sqOf (word.cps.toList.take i)).2.1 v1, .int (sqOf (word.cps.toList.take i)).2.2.1 v2, .int (sqOf (word.cps.toList.take i)).2.2.2 v3] nl) ∧ r ≠ L' ∧ r ≠ I₀ ∧ g.get? r = none) ∧
  ∀ y, y ≠ S "square" → y ≠ S "letter" → m y = List.lookup y [(S "word", Value.str word tw)]
local macro_rules | `(tactic| walk_at "exec For Name Name cons nil") => `(tactic| (k_here; refine stopHere ?_))
set_option maxHeartbeats 1000000
section
variable {w : World} {mean : ExcName → Option Value} {mg mb : Str → Option Value} {dp un : Nat} {gd : Option (List Code)} {cn : Str} {cs : Scope} {a : Addr} {ccd : Value} {cl : List (Str × Addr)} {outer : List Env} {A₀ : Around} {base h₀ : Heap} {L : Addr} {m : Str → Option Value} {s : Shared} {Q E : Value → Shared → Prop} {news : Led}
theorem con_square {word : Str} {tw : Tok} (B : Below A₀ base outer h₀) (F : Fr h₀ L s.heap m) (X : (KF w.params).In h₀) (N : News h₀ L s.heap news) (T : Top viewQ LQ mean mg mb h₀) (hk : cs.kind = .function) (hp0 : word.length ≤ 16) (hd : dp + 4 < recursionLimit) (hu : un + 32 < cLine)
    (hret : ∀ (r : Addr) (v0 v1 v2 v3 : Tok) (nl : Nat) (h' : Heap) (tk' : Nat), Fr h₀ L h' m → News h₀ L h' ((r, W.listOf #[.int (sqOf word.cps.toList).1 v0, .int (sqOf word.cps.toList).2.1 v1, .int (sqOf word.cps.toList).2.2.1 v2, .int (sqOf word.cps.toList).2.2.2 v3] nl) :: news) → (∀ p ∈ news, p.1 ≠ r) → s.toks ≤ tk' → Q (.ref r) { s with heap := h', toks := tk' }) :
    wpAny (model PySem.Challenge.rw_tl0038_01.row.prog w) (ktrTop dp un gd cn cs L a ccd cl outer) (call (.ref 218) [.str word tw]) Q E s := by
  k_dflt (refine' entN (binds := [(S "word", Value.str word tw)]) ?k1 ?k2 ?k3 ?k4 ?k5 ?kA ?kF ?kK ?k6 ?k7 ?k8 ?k9 ?kB ?kG ?c2 ?c3 ?c4 ?c5; (case kA => exact rfl); (case kF => exact rfl); (case kK => assumption); (case k1 => k_asm); (case k2 => k_asm); (case k3 => k_asm); (case k4 => k_asm); (case k5 => k_asm); (case k6 => k_is); (case k7 => k_is); (case k8 => first | exact Nat.lt_of_le_of_lt (Nat.le_add_right _ _) hd | ktr_room); (case k9 => exact BindsTo.of_eq rfl); (case c5 => decide); (case kB => exact locs rfl); (case c2 => exact rfl); (case c3 => exact rfl); (case c4 => exact rfl))
  intro Q' hq g' L' h' FG' NG' GS' F' N' B' X' T'
  have hr : ∀ (r : Addr) (v0 v1 v2 v3 : Tok) (nl : Nat) (h₂ : Heap) (tk' : Nat), News h₀ L h₂ [(r, W.listOf #[.int (sqOf word.cps.toList).1 v0, .int (sqOf word.cps.toList).2.1 v1, .int (sqOf word.cps.toList).2.2.1 v2, .int (sqOf word.cps.toList).2.2.2 v3] nl)] → (∀ p ∈ news, p.1 ≠ r) → Q' (.ref r) { s with heap := h₂, toks := tk' } := fun r v0 v1 v2 v3 nl h₂ tk' N1 hne => hq _ _ fun F N l _ => hret r v0 v1 v2 v3 nl h₂ tk' F (fun p hp => (List.mem_cons.mp hp).elim (fun e => e ▸ N1 _ (.head _)) (N p)) hne l
  clear hq hret
  k_whole
  dsimp only [List.reverse, List.reverseAux, List.length] at F'
  dsimp only [List.length]
  (try k_fold)
  k_steps
  refine Stop.mk ?_
  refine For_strH g' rfl rfl rfl ?_
  k_steps
  rename_i l1 l2 hh1 F1 N1
  refine ⟨word, tw, _, 0, SqJ word tw g' L' hh1.objs.size, rfl, Nat.zero_le _, F1, ?_, ?_, ?_, ?_⟩
  · intro o
    exact ⟨⟨_, _, _, _, _, 0, if_pos rfl, Heap.get?_push_of_some _ (N1 _ (.head _)).1, (N1 _ (.head _)).2.1, Nat.ne_of_lt (Heap.lt_size (N1 _ (.head _)).1), (N1 _ (.head _)).2.2⟩, fun y h1 h2 => if_neg h1⟩
  · rintro I _ rfl i m h h' ⟨⟨r, v0, v1, v2, v3, nl, e1, e2, n1, n2, n3⟩, e3⟩ k
    exact ⟨⟨r, v0, v1, v2, v3, nl, e1, k r _ e2 n1 n2, n1, n2, n3⟩, e3⟩
  · rintro i c t m₁ h tk I o hc _ _ ⟨⟨r, v0, v1, v2, v3, nl, e1, e2, n1, n2, n3⟩, e3⟩ F₁ N₁ hI
    have ec : word.cps.toList.take (i + 1) = word.cps.toList.take i ++ [c] := by
      rw [List.take_add_one]; simp [hc]
    have hlen : (word.cps.toList.take i).length ≤ 16 := by
      rw [List.length_take]
      have : word.cps.toList.length = word.length := rfl
      omega
    have bd := sq_bd _ hlen
    obtain ⟨b1, b2, b3, b4⟩ := bd
    have e : (fun y => if y = S "letter" then some (Value.str ⟨#[c]⟩ t) else m₁ y) = (fun y => if y = S "letter" then some (.str ⟨#[c]⟩ t) else if y = S "square" then some (.ref r) else List.lookup y [(S "word", Value.str word tw)]) := by
      funext y
      by_cases q1 : y = S "letter"
      · rw [if_pos q1, if_pos q1]
      · rw [if_neg q1, if_neg q1]
        by_cases q2 : y = S "square"
        · rw [if_pos q2, q2, e1]
        · rw [if_neg q2, e3 y q2 q1]
    have F₂ : Fr g' L' h (fun y => if y = S "letter" then some (Value.str ⟨#[c]⟩ t) else m₁ y) := F₁
    rw [e] at F₂
    have N₂ : News g' L' h ((r, W.listOf #[.int (sqOf (word.cps.toList.take i)).1 v0, .int (sqOf (word.cps.toList.take i)).2.1 v1, .int (sqOf (word.cps.toList.take i)).2.2.1 v2, .int (sqOf (word.cps.toList.take i)).2.2.2 v3] nl) :: [(I, o)]) := fun p hp => (List.mem_cons.mp hp).elim (fun q => q ▸ ⟨e2, n1, n3⟩) (N₁ p)
    refine sq_turn (s := { s with heap := h, toks := tk }) (by omega) (by omega) (by omega) (by omega) (by omega) (by omega) B' X' T' F₂ N₂ ?_
    intro r' w0 w1 w2 w3 x h' tk' hx F₃ own gr rL gn
    subst hx
    refine ⟨h', tk', _, rfl, F₃, fun p hp => (own p hp).1, ⟨r', w0, w1, w2, w3, 0, if_pos rfl, ?_, rL, ?_, gn⟩, ?_⟩
    · rw [ec, sq_snoc]; exact gr
    · intro q
      exact (own (I, o) (.head _)).2 (hI.trans q.symm)
    · intro y q1 q2
      dsimp only
      rw [if_neg q1, if_neg q2, if_neg q1]
  · rintro h tk m' _ F₁ ⟨⟨r, v0, v1, v2, v3, nl, e1, e2, n1, n2, n3⟩, e3⟩
    rw [List.take_of_length_le (by simp)] at e2
    have N₁ : News g' L' h [(r, W.listOf #[.int (sqOf word.cps.toList).1 v0, .int (sqOf word.cps.toList).2.1 v1, .int (sqOf word.cps.toList).2.2.1 v2, .int (sqOf word.cps.toList).2.2.2 v3] nl)] := fun p hp => by
      rw [List.mem_singleton.mp hp]; exact ⟨e2, n1, n3⟩
    have e : m' = (fun y => if y = S "square" then some (.ref r) else if y = S "letter" then m' y else List.lookup y [(S "word", Value.str word tw)]) := by
      funext y
      by_cases q1 : y = S "square"
      · rw [if_pos q1, q1, e1]
      · rw [if_neg q1]
        by_cases q2 : y = S "letter"
        · rw [if_pos q2]
        · rw [if_neg q2, e3 y q1 q2]
    rw [e] at F₁
    k_steps
    exact hr _ _ _ _ _ _ _ _ (by assumption) (news_apart NG' (KtsTurn.refl (fs := [])) N₁ (.head _))
end
end Mine
end
section
open PySem PySem.W PyProof.Rows
namespace Mine
section
variable {prog : Program} {w : World} {A : Around} {E : Value → Shared → Prop} {s : Shared} {h₀ : Heap} {L D : Addr} {m : Str → Option Value} {news news' : Led}
theorem setItem_I {k : Int} {t : Tok} {v : Value} {us : List Value} {n : Nat} {Q : Unit → Shared → Prop} (F : Fr h₀ L s.heap m) (N : News h₀ L s.heap news) (h0 : 0 ≤ k) (hfit : k < 2 ^ 63) (hn : k < us.length) (U : Upd D (W.listOf us.toArray n) (W.listOf (us.set k.toNat v).toArray n) news news')
    (h : ∀ h', Fr h₀ L h' m → News h₀ L h' news' → Q () { s with heap := h' }) : wpAny (model prog w) A (setItem (.ref D) (.int k t) v) Q E s := by
  obtain ⟨pre, post, rfl, rfl, a, b⟩ := U.split
  have z := N (D, W.listOf us.toArray n) (List.mem_append.mpr (.inr (.head _)))
  refine ki_setAt z.1 h0 hfit (by rw [List.size_toArray]; exact hn) (h _ (F.change (Heap.SameBut.update ..) z.2.1 z.2.2) (ki_turn _ N a b ?_ ?_))
  · show us.toArray.setIfInBounds k.toNat v = (us.set k.toNat v).toArray
    apply Array.toList_inj.mp
    simp
  · simp
end
theorem ints_set {us : List Value} {ns : List Int} (h : IntsAre us ns) (x : Int) (t : Tok) : ∀ j : Nat, IntsAre (us.set j (.int x t)) (ns.set j x) := by
  induction h with
  | nil => intro j; exact .nil
  | cons n u _ ih =>
    intro j
    cases j with
    | zero => exact .cons x t (by assumption)
    | succ j => exact .cons n u (ih j)
theorem ints_len {us : List Value} {ns : List Int} (h : IntsAre us ns) : us.length = ns.length := by
  induction h with
  | nil => rfl
  | cons n u _ ih => rw [List.length_cons, List.length_cons, ih]
local macro_rules | `(tactic| walk_at "setItem ref int") => `(tactic| walk_at "zd6")
section
variable {w : World} {mean : ExcName → Option Value} {mg mb : Str → Option Value} {dp un : Nat} {gd : Option (List Code)} {cn : Str} {cs : Scope} {a : Addr} {ccd : Value} {cl : List (Str × Addr)} {outer : List Env} {A₀ : Around} {base g : Heap} {L L' : Addr} {s : Shared} {Q : Flow → Shared → Prop} {E : Value → Shared → Prop}
noncomputable abbrev frDraws (l ls : Addr) : Str → Option Value := fun y => if y = S "draws" then some (.ref l) else List.lookup y [(S "script", Value.ref ls)]
set_option maxHeartbeats 1000000 in
theorem draws_turn {l ls : Addr} {vs us : List Value} {ns ds : List Int} {k : Int} {t : Tok} {n : Nat} {own : Led} (hd : dp + 2 < recursionLimit) (hu : un + 16 < cLine)
    (hls : g.IsList ls vs.toArray) (hi : IntsAre vs ns) (hk0 : 0 ≤ k) (hk1 : k < ns.length) (hn : ns.length ≤ 63) (hoff : OwnOff own [l])
    (hj : IntsAre us ds) (hdl : ds.length = 4) (hul : us.length = 4) (hm0 : 0 ≤ k.fmod 4) (hm1 : k.fmod 4 < 4) (hb : ∀ d ∈ ds, 0 ≤ d ∧ d ≤ 3000000 + 1000000 * k)
    (B' : Below (ktrTop dp un gd cn cs L a ccd cl outer) base (envX cn cs L a ccd cl :: outer) g) (X' : (KF w.params).In g) (T' : Top viewQ LQ mean mg mb g)
    (F : Fr g L' s.heap (fun y => if y = S "k" then some (.int k t) else frDraws l ls y))
    (N : News g L' s.heap ((l, W.listOf us.toArray n) :: own))
    (hr : ∀ (x : Int) (tx : Tok) h' tk, x = ds.getD (k.fmod 4).toNat 0 + (ns.getD k.toNat 0).fmod 1000000 → Fr g L' h' (fun y => if y = S "k" then some (.int k t) else frDraws l ls y) →
      News g L' h' ((l, W.listOf (us.set (k.fmod 4).toNat (.int x tx)).toArray n) :: own) → Q .next { s with heap := h', toks := tk }) :
    wpAny (model PySem.Challenge.rw_tl0038_01.row.prog w) ((ktrTop dp un gd cn cs L a ccd cl outer).deeper (envF (S "_law_draws") 20 L' 148 147)) (execs (lpBody 20 1) (envF (S "_law_draws") 20 L' 148 147)) Q E s := by
  have hls' : s.heap.IsList ls vs.toArray := by
    obtain ⟨o, h1, h2, h3⟩ := hls
    exact ⟨o, F.keep _ _ h1, h2, h3⟩
  k_steps
  all_goals exact hr _ _ _ _ rfl (by k_asm) (by k_asm)
theorem draws_loop {l ls r : Addr} {vs : List Value} {ns : List Int} {t0 t1 t2 t3 t₀ u₀ v₀ : Tok} {n : Nat} (hd : dp + 2 < recursionLimit) (hu : un + 16 < cLine)
    (hls : g.IsList ls vs.toArray) (hi : IntsAre vs ns) (hn : ns.length ≤ 63)
    (B' : Below (ktrTop dp un gd cn cs L a ccd cl outer) base (envX cn cs L a ccd cl :: outer) g) (X' : (KF w.params).In g) (T' : Top viewQ LQ mean mg mb g)
    (F : Fr g L' s.heap (frDraws l ls))
    (N : News g L' s.heap [(l, W.listOf #[.int 1560458 t0, .int 1187699 t1, .int 858793 t2, .int 2049642 t3] n)]) (R : IsRange s.heap r 0 ns.length 1 t₀ u₀ v₀)
    (done : ∀ us ds h tk (u : Str → Option Value), IntsAre us ds → ds.length = 4 → (∀ d ∈ ds, 0 ≤ d ∧ d ≤ 66000000) → Fr g L' h (fun y => if y = S "k" then u y else frDraws l ls y) →
      News g L' h [(l, W.listOf us.toArray n)] → Q .next { s with heap := h, toks := tk }) :
    wpAny (model PySem.Challenge.rw_tl0038_01.row.prog w) ((ktrTop dp un gd cn cs L a ccd cl outer).deeper (envF (S "_law_draws") 20 L' 148 147)) (pyIter (.ref r))
      (fun it s₂ => LoopAtV PySem.Challenge.rw_tl0038_01.row.prog w ((ktrTop dp un gd cn cs L a ccd cl outer).deeper (envF (S "_law_draws") 20 L' 148 147)) g (envF (S "_law_draws") 20 L' 148 147) (S "k") (lpBody 20 1) Q E it s₂) E s := by
  refine kst_range (σ := List Value × List Int) (fun c => [(l, W.listOf c.1.toArray n)]) (fun _ => []) (fun c => IntsAre c.1 c.2 ∧ c.2.length = 4) [] (fun pre c' => ∀ d ∈ c'.2, 0 ≤ d ∧ d ≤ 3000000 + 1000000 * pre.length) ([.int 1560458 t0, .int 1187699 t1, .int 858793 t2, .int 2049642 t3], [1560458, 1187699, 858793, 2049642]) (by rfl) R
    (small_one (by omega) (by omega) (by omega) (by omega)) (by exact rangeSize_nat _ _) F N ⟨.cons _ _ (.cons _ _ (.cons _ _ (.cons _ _ .nil))), rfl⟩ (fun _ h => nomatch h) (by show ∀ d ∈ ([1560458, 1187699, 858793, 2049642] : List Int), 0 ≤ d ∧ d ≤ 3000000 + 1000000 * ((0 : Nat) : Int); decide) ?_ ?_
  · rintro ⟨us, ds⟩ pre k t u h tk own hk hlt hoff ⟨hF, hL⟩ hP F₁ N₁
    dsimp only at hF hP N₁ hk hL
    have e : (fun y => if y = S "k" then some (Value.int k t) else kstB (fun z => if ([] : List Str).contains z = true then u z else frDraws l ls z) [] y) = (fun y => if y = S "k" then some (.int k t) else frDraws l ls y) := by
      funext y; simp only [kstB, List.contains_nil]; rfl
    rw [e] at F₁
    have hk' : k = pre.length := by omega
    refine draws_turn (s := { s with heap := h, toks := tk }) hd hu hls hi (by omega) (by omega) hn hoff hF hL (by rw [ints_len hF, hL]) (Int.fmod_nonneg_of_pos _ (by decide)) (Int.fmod_lt_of_pos _ (by decide)) (by rw [hk']; exact hP) B' X' T' F₁ N₁ ?_
    intro x tx h' tk' hx F₂ N₂
    refine kst_end (us.set (k.fmod 4).toNat (.int x tx), ds.set (k.fmod 4).toNat x) F₂ N₂ ?_ ?_ rfl ⟨ints_set hF x tx _, by rw [List.length_set]; exact hL⟩ (fun _ h => nomatch h) ?_ ?_
    · intro p hp
      rw [List.mem_singleton.mp hp]
      exact .head _
    · exact fun p hp => List.mem_cons_of_mem _ hp
    · intro z hz _ _
      exact if_neg hz
    · intro d hd'
      have h1 : 0 ≤ (ns.getD k.toNat 0).fmod 1000000 := Int.fmod_nonneg_of_pos _ (by decide)
      have h2 : (ns.getD k.toNat 0).fmod 1000000 < 1000000 := Int.fmod_lt_of_pos _ (by decide)
      have hl : (pre ++ [k]).length = pre.length + 1 := by simp
      rw [hl]
      rcases List.mem_or_eq_of_mem_set hd' with q | q
      · have := hP d q
        omega
      · have h3 : 0 ≤ k.fmod 4 := Int.fmod_nonneg_of_pos _ (by decide)
        have h4 : k.fmod 4 < 4 := Int.fmod_lt_of_pos _ (by decide)
        have h5 : ds.getD (k.fmod 4).toNat 0 ∈ ds := by
          rw [List.getD_eq_getElem?_getD, List.getElem?_eq_getElem (by omega), Option.getD_some]
          exact List.getElem_mem _
        have := hP _ h5
        omega
  · rintro ⟨us, ds⟩ u h tk ⟨hF, hL⟩ hP F₁ N₁
    dsimp only at hF hP hL
    refine done us ds h tk u hF hL ?_ ?_ N₁
    · intro d hd'
      have := hP d hd'
      rw [rangeKs_length] at this
      omega
    · have e : (fun y => if y = S "k" then u y else kstB (fun z => if ([] : List Str).contains z = true then u z else frDraws l ls z) [] y) = (fun y => if y = S "k" then u y else frDraws l ls y) := by
        funext y; simp only [kstB, List.contains_nil]; rfl
      rw [← e]
      exact F₁
end
theorem ints4 {us : List Value} {ds : List Int} (h : IntsAre us ds) (hl : ds.length = 4) : ∃ d0 d1 d2 d3 t0 t1 t2 t3, us = [.int d0 t0, .int d1 t1, .int d2 t2, .int d3 t3] ∧ ds = [d0, d1, d2, d3] := by
  cases h with
  | nil => cases hl
  | cons d0 t0 h => cases h with
    | nil => cases hl
    | cons d1 t1 h => cases h with
      | nil => cases hl
      | cons d2 t2 h => cases h with
        | nil => cases hl
        | cons d3 t3 h => cases h with
          | nil => exact ⟨_, _, _, _, _, _, _, _, rfl, rfl⟩
          | cons d4 t4 h => simp only [List.length_cons] at hl; omega
local macro_rules | `(tactic| walk_at "pyIter ref") => `(tactic| (k_here; refine stopHere ?_))
set_option maxHeartbeats 1000000
section
variable {w : World} {mean : ExcName → Option Value} {mg mb : Str → Option Value} {dp un : Nat} {gd : Option (List Code)} {cn : Str} {cs : Scope} {a : Addr} {ccd : Value} {cl : List (Str × Addr)} {outer : List Env} {A₀ : Around} {base h₀ : Heap} {L : Addr} {m : Str → Option Value} {s : Shared} {Q E : Value → Shared → Prop} {news : Led}
theorem con_draws {ls : Addr} {vs : List Value} {ns : List Int} (B : Below A₀ base outer h₀) (F : Fr h₀ L s.heap m) (X : (KF w.params).In h₀) (N : News h₀ L s.heap news) (T : Top viewQ LQ mean mg mb h₀) (hk : cs.kind = .function) (hp0 : s.heap.IsList ls vs.toArray) (hp1 : IntsAre vs ns) (hp2 : ns.length ≤ 63) (hd : dp + 3 < recursionLimit) (hu : un + 24 < cLine)
    (hret : ∀ (r : Addr) (d0 d1 d2 d3 : Int) (v0 v1 v2 v3 : Tok) (nl : Nat) (h' : Heap) (tk' : Nat), (∀ d ∈ [d0, d1, d2, d3], 0 ≤ d ∧ d ≤ 66000000) → Fr h₀ L h' m → News h₀ L h' ((r, W.listOf #[.int d0 v0, .int d1 v1, .int d2 v2, .int d3 v3] nl) :: news) → (∀ p ∈ news, p.1 ≠ r) → s.toks ≤ tk' → Q (.ref r) { s with heap := h', toks := tk' }) :
    wpAny (model PySem.Challenge.rw_tl0038_01.row.prog w) (ktrTop dp un gd cn cs L a ccd cl outer) (call (.ref 148) [.ref ls]) Q E s := by
  k_dflt (refine' entN (binds := [(S "script", Value.ref ls)]) ?k1 ?k2 ?k3 ?k4 ?k5 ?kA ?kF ?kK ?k6 ?k7 ?k8 ?k9 ?kB ?kG ?c2 ?c3 ?c4 ?c5; (case kA => exact rfl); (case kF => exact rfl); (case kK => assumption); (case k1 => k_asm); (case k2 => k_asm); (case k3 => k_asm); (case k4 => k_asm); (case k5 => k_asm); (case k6 => k_is); (case k7 => k_is); (case k8 => first | exact Nat.lt_of_le_of_lt (Nat.le_add_right _ _) hd | ktr_room); (case k9 => exact BindsTo.of_eq rfl); (case c5 => decide); (case kB => exact locs rfl); (case c2 => exact rfl); (case c3 => exact rfl); (case c4 => exact rfl))
  intro Q' hq g' L' h' FG' NG' GS' F' N' B' X' T'
  have hr : ∀ (r : Addr) (d0 d1 d2 d3 : Int) (v0 v1 v2 v3 : Tok) (nl : Nat) (h₂ : Heap) (tk' : Nat), (∀ d ∈ [d0, d1, d2, d3], 0 ≤ d ∧ d ≤ 66000000) → News h₀ L h₂ [(r, W.listOf #[.int d0 v0, .int d1 v1, .int d2 v2, .int d3 v3] nl)] → (∀ p ∈ news, p.1 ≠ r) → Q' (.ref r) { s with heap := h₂, toks := tk' } := fun r d0 d1 d2 d3 v0 v1 v2 v3 nl h₂ tk' hb N1 hne => hq _ _ fun F N l _ => hret r d0 d1 d2 d3 v0 v1 v2 v3 nl h₂ tk' hb F (fun p hp => (List.mem_cons.mp hp).elim (fun e => e ▸ N1 _ (.head _)) (N p)) hne l
  clear hq hret
  k_whole
  dsimp only [List.reverse, List.reverseAux, List.length] at F'
  dsimp only [List.length]
  (try k_fold)
  have hls : g'.IsList ls vs.toArray := by
    obtain ⟨o, h1, h2, h3⟩ := hp0
    exact ⟨o, GS' _ _ h1 (fun q => nomatch q), h2, h3⟩
  have hls' : h'.IsList ls vs.toArray := by
    obtain ⟨o, h1, h2, h3⟩ := hls
    exact ⟨o, F'.keep _ _ h1, h2, h3⟩
  k_steps
  refine Stop.mk ?_
  refine draws_loop (by omega) (by omega) hls hp1 hp2 B' X' T' (by assumption) (by assumption) (by assumption) ?_
  intro us ds h tk u hI hL hb kF kN
  obtain ⟨d0, d1, d2, d3, v0, v1, v2, v3, rfl, rfl⟩ := ints4 hI hL
  k_steps
  exact hr _ _ _ _ _ _ _ _ _ _ _ _ hb (by assumption) (news_apart NG' (KtsTurn.refl (fs := [])) kN (.head _))
end
end Mine
end
section
open PySem PySem.W PyProof.Rows
namespace Mine
noncomputable def lpTest (i j : Nat) : Expr := match (fb i).getD j default with | .While t _ _ _ => t | _ => default
noncomputable def lvPreC (a b : Str) (p : Int) : Bool := decide ((Txt.slice a (some p) none).length ≠ 0) && decide ((Txt.slice b (some p) none).length ≠ 0) && (Txt.item a p == Txt.item b p)
theorem pre_t {a b : Str} {p : Int} (h1 : ((Txt.slice a (some p) none).length : Int) ≠ 0) (h2 : ((Txt.slice b (some p) none).length : Int) ≠ 0) (h3 : (Txt.item a p == Txt.item b p) = true) : true = lvPreC a b p := by
  have e1 : (Txt.slice a (some p) none).length ≠ 0 := by omega
  have e2 : (Txt.slice b (some p) none).length ≠ 0 := by omega
  rw [lvPreC, h3, decide_eq_true e1, decide_eq_true e2]; rfl
theorem pre_f1 {a b : Str} {p : Int} (h1 : ((Txt.slice a (some p) none).length : Int) = 0) : false = lvPreC a b p := by
  have e1 : ¬ (Txt.slice a (some p) none).length ≠ 0 := by omega
  rw [lvPreC, decide_eq_false e1]; rfl
theorem pre_f2 {a b : Str} {p : Int} (h1 : ((Txt.slice b (some p) none).length : Int) = 0) : false = lvPreC a b p := by
  have e1 : ¬ (Txt.slice b (some p) none).length ≠ 0 := by omega
  rw [lvPreC, decide_eq_false e1, Bool.and_false]; rfl
theorem pre_f3 {a b : Str} {p : Int} (h1 : (Txt.item a p == Txt.item b p) = false) : false = lvPreC a b p := by
  rw [lvPreC, h1, Bool.and_false]
noncomputable def lvSl (x : Str) (q : Int) : Str := if q = 0 then Txt.slice x none none else Txt.slice x none (some q)
noncomputable def lvPostC (a b : Str) (q : Int) : Bool := decide ((lvSl a q).length ≠ 0) && decide ((lvSl b q).length ≠ 0) && (Txt.item a (q - 1) == Txt.item b (q - 1))
theorem post_t {a b a' b' : Str} {q : Int} (ea : lvSl a q = a') (eb : lvSl b q = b') (h1 : (a'.length : Int) ≠ 0) (h2 : (b'.length : Int) ≠ 0) (h3 : (Txt.item a (q - 1) == Txt.item b (q - 1)) = true) : true = lvPostC a b q := by
  have e1 : a'.length ≠ 0 := by omega
  have e2 : b'.length ≠ 0 := by omega
  rw [lvPostC, ea, eb, h3, decide_eq_true e1, decide_eq_true e2]; rfl
theorem post_f1 {a b a' : Str} {q : Int} (ea : lvSl a q = a') (h1 : (a'.length : Int) = 0) : false = lvPostC a b q := by
  have e1 : ¬ a'.length ≠ 0 := by omega
  rw [lvPostC, ea, decide_eq_false e1]; rfl
theorem post_f2 {a b b' : Str} {q : Int} (ea : lvSl b q = b') (h1 : (b'.length : Int) = 0) : false = lvPostC a b q := by
  have e1 : ¬ b'.length ≠ 0 := by omega
  rw [lvPostC, ea, decide_eq_false e1, Bool.and_false]; rfl
theorem post_f3 {a b : Str} {q : Int} (h1 : (Txt.item a (q - 1) == Txt.item b (q - 1)) = false) : false = lvPostC a b q := by
  rw [lvPostC, h1, Bool.and_false]
theorem range1 (k : Int) : sliceRange 0 k 1 = List.range k.toNat := by
  unfold sliceRange
  rw [if_pos (by decide)]
  by_cases h : 0 < k
  · rw [if_pos h]
    have e : ((k - 0 + 1 - 1) / 1).toNat = k.toNat := by congr 1; omega
    show List.map _ (List.range ((k - 0 + 1 - 1) / 1).toNat) = _
    rw [e]
    conv => rhs; rw [← List.map_id (List.range k.toNat)]
    apply List.map_congr_left
    intro i _
    simp
  · rw [if_neg h]
    have e : k.toNat = 0 := by omega
    rw [e]; rfl
theorem fm_len (x : Str) : ∀ k : Nat, k ≤ x.length → ((List.range k).filterMap (x.cps[·]?)).length = k
  | 0, _ => rfl
  | k + 1, h => by
    have hk : k < x.cps.size := h
    rw [List.range_succ, List.filterMap_append, List.length_append, fm_len x k (Nat.le_of_succ_le h)]
    simp [hk]
theorem slice_neg_len (x : Str) (q : Int) (h0 : q < 0) (h1 : -q ≤ x.length) : ((Txt.slice x none (some q)).length : Int) = x.length + q := by
  have e : PySem.Builtin.Str.strSliceIndices none (some q) 1 x.length = List.range ((x.length : Int) + q).toNat := by
    unfold PySem.Builtin.Str.strSliceIndices
    simp only [if_pos (show (1 : Int) > 0 by decide), if_pos h0]
    rw [range1]
    congr 2
    omega
  unfold Txt.slice
  rw [e]
  have hne : ¬ (((1 : Int) == 1 && (List.range ((x.length : Int) + q).toNat).length == x.length) = true) := by
    rw [List.length_range]
    simp only [beq_self_eq_true, Bool.true_and, beq_iff_eq]
    omega
  rw [if_neg hne]
  show (((List.range ((x.length : Int) + q).toNat).filterMap (x.cps[·]?)).toArray.size : Int) = _
  rw [List.size_toArray, fm_len x _ (by omega)]
  omega
theorem slice_nn (x : Str) : Txt.slice x none none = x := by
  have e : PySem.Builtin.Str.strSliceIndices none none 1 x.length = List.range x.length := by
    unfold PySem.Builtin.Str.strSliceIndices
    simp only [if_pos (show (1 : Int) > 0 by decide)]
    rw [range1]
    simp
  unfold Txt.slice
  rw [e, List.length_range]
  exact if_pos (by simp)
theorem lvSl0 (x : Str) : lvSl x 0 = x := (if_pos rfl).trans (slice_nn x)
section
variable {w : World} {mean : ExcName → Option Value} {mg mb : Str → Option Value} {dp un : Nat} {gd : Option (List Code)} {cn : Str} {cs : Scope} {a : Addr} {ccd : Value} {cl : List (Str × Addr)} {outer : List Env} {A₀ : Around} {base g : Heap} {L L' : Addr} {s : Shared} {Q : Flow → Shared → Prop} {E : Value → Shared → Prop}
noncomputable abbrev frLev (x y : Str) (mx : Int) (tx ty tm : Tok) : Str → Option Value := fun z => List.lookup z [(S "max_cost", Value.int mx tm), (S "b", Value.str y ty), (S "a", Value.str x tx)]
set_option maxHeartbeats 1000000 in
theorem lev_pre_test {x y : Str} {tx ty tm t : Tok} {p mx : Int} {own : Led} {Q : Bool → Shared → Prop} (hd : dp + 1 < recursionLimit) (hu : un + 8 < cLine)
    (hx : x.length < 2 ^ 16) (hy : y.length < 2 ^ 16) (hp0 : 0 ≤ p) (hp1 : p ≤ x.length)
    (B' : Below (ktrTop dp un gd cn cs L a ccd cl outer) base (envX cn cs L a ccd cl :: outer) g) (X' : (KF w.params).In g) (T' : Top viewQ LQ mean mg mb g)
    (F : Fr g L' s.heap (fun z => if z = S "pre" then some (.int p t) else frLev x y mx tx ty tm z))
    (N : News g L' s.heap own)
    (hr : ∀ v h' tk, v = lvPreC x y p → (v = true → p < x.length) → Fr g L' h' (fun z => if z = S "pre" then some (.int p t) else frLev x y mx tx ty tm z) → News g L' h' own → Q v { s with heap := h', toks := tk }) :
    wpAny (model PySem.Challenge.rw_tl0038_01.row.prog w) ((ktrTop dp un gd cn cs L a ccd cl outer).deeper (envF (S "_levenshtein_distance") 18 L' 141 140)) (isTrue (lpTest 18 2) (envF (S "_levenshtein_distance") 18 L' 141 140) (eval (lpTest 18 2) (envF (S "_levenshtein_distance") 18 L' 141 140))) Q E s := by
  conv in (occs := *) (lpTest 18 2) => all_goals whnf
  k_steps
  all_goals (refine hr _ _ _ ?_ (by first | (intro _; omega) | (intro h; cases h)) (by k_asm) (by k_asm))
  all_goals first
    | exact pre_t (by assumption) (by assumption) (by assumption)
    | exact pre_f1 (by assumption)
    | exact pre_f2 (by assumption)
    | exact pre_f3 (by assumption)
local macro_rules | `(tactic| walk_at "subscriptTail Name Slice str ref") => `(tactic| walk_at "zd7")
noncomputable abbrev frPost (x y x0 y0 : Str) (q p mx : Int) (tx ty tx0 ty0 tm t tq : Tok) : Str → Option Value := fun z => if z = S "post" then some (.int q tq) else if z = S "b" then some (.str y ty) else if z = S "a" then some (.str x tx) else if z = S "pre" then some (.int p t) else frLev x0 y0 mx tx0 ty0 tm z
set_option maxHeartbeats 1000000 in
theorem lev_post_test {x y x0 y0 : Str} {tx ty tx0 ty0 tm t tq : Tok} {q p mx : Int} {own : Led} {Q : Bool → Shared → Prop} (hd : dp + 1 < recursionLimit) (hu : un + 8 < cLine)
    (hx : x.length < 2 ^ 16) (hy : y.length < 2 ^ 16) (hp0 : q ≤ 0) (hp1 : -q ≤ x.length) (hp2 : -q ≤ y.length)
    (B' : Below (ktrTop dp un gd cn cs L a ccd cl outer) base (envX cn cs L a ccd cl :: outer) g) (X' : (KF w.params).In g) (T' : Top viewQ LQ mean mg mb g)
    (F : Fr g L' s.heap (frPost x y x0 y0 q p mx tx ty tx0 ty0 tm t tq))
    (N : News g L' s.heap own)
    (hr : ∀ v h' tk, v = lvPostC x y q → (v = true → -q < x.length ∧ -q < y.length) → Fr g L' h' (frPost x y x0 y0 q p mx tx ty tx0 ty0 tm t tq) → News g L' h' own → Q v { s with heap := h', toks := tk }) :
    wpAny (model PySem.Challenge.rw_tl0038_01.row.prog w) ((ktrTop dp un gd cn cs L a ccd cl outer).deeper (envF (S "_levenshtein_distance") 18 L' 141 140)) (isTrue (lpTest 18 6) (envF (S "_levenshtein_distance") 18 L' 141 140) (eval (lpTest 18 6) (envF (S "_levenshtein_distance") 18 L' 141 140))) Q E s := by
  conv in (occs := *) (lpTest 18 6) => all_goals whnf
  by_cases hq : q = 0
  · subst hq
    have nx := slice_nn x
    have ny := slice_nn y
    k_steps
    all_goals (refine hr _ _ _ ?_ (by first | (intro _; omega) | (intro h; cases h)) (by k_asm) (by k_asm))
    all_goals first
      | exact post_t (lvSl0 _) (lvSl0 _) (by assumption) (by assumption) (by assumption)
      | exact post_f1 (lvSl0 _) (by assumption)
      | exact post_f2 (lvSl0 _) (by assumption)
      | exact post_f3 (by assumption)
  · have nx := slice_neg_len x q (by omega) hp1
    have ny := slice_neg_len y q (by omega) hp2
    k_steps
    all_goals (refine hr _ _ _ ?_ (by first | (intro _; omega) | (intro h; cases h)) (by k_asm) (by k_asm))
    all_goals try (exfalso; omega)
    all_goals first
      | exact post_t (if_neg hq) (if_neg hq) (by assumption) (by assumption) (by assumption)
      | exact post_f1 (if_neg hq) (by assumption)
      | exact post_f2 (if_neg hq) (by assumption)
      | exact post_f3 (by assumption)
set_option maxHeartbeats 1000000 in
theorem lev_pre_body {x y : Str} {tx ty tm t : Tok} {p mx : Int} {own : Led} (hd : dp + 1 < recursionLimit) (hu : un + 8 < cLine) (hx : x.length < 2 ^ 16) (hp0 : 0 ≤ p) (hp1 : p ≤ x.length)
    (B' : Below (ktrTop dp un gd cn cs L a ccd cl outer) base (envX cn cs L a ccd cl :: outer) g) (X' : (KF w.params).In g) (T' : Top viewQ LQ mean mg mb g)
    (F : Fr g L' s.heap (fun z => if z = S "pre" then some (.int p t) else frLev x y mx tx ty tm z))
    (N : News g L' s.heap own)
    (hr : ∀ h' tk t', Fr g L' h' (fun z => if z = S "pre" then some (.int (p + 1) t') else if z = S "pre" then some (.int p t) else frLev x y mx tx ty tm z) → News g L' h' own → Q .next { s with heap := h', toks := tk }) :
    wpAny (model PySem.Challenge.rw_tl0038_01.row.prog w) ((ktrTop dp un gd cn cs L a ccd cl outer).deeper (envF (S "_levenshtein_distance") 18 L' 141 140)) (execs (lpBody 18 2) (envF (S "_levenshtein_distance") 18 L' 141 140)) Q E s := by
  k_steps
  all_goals exact hr _ _ _ (by k_asm) (by k_asm)
set_option maxHeartbeats 1000000 in
theorem lev_post_body {x y x0 y0 : Str} {tx ty tx0 ty0 tm t tq : Tok} {q p mx : Int} {own : Led} (hd : dp + 1 < recursionLimit) (hu : un + 8 < cLine) (hx : x.length < 2 ^ 16) (hp0 : q ≤ 0) (hp1 : -q ≤ x.length)
    (B' : Below (ktrTop dp un gd cn cs L a ccd cl outer) base (envX cn cs L a ccd cl :: outer) g) (X' : (KF w.params).In g) (T' : Top viewQ LQ mean mg mb g)
    (F : Fr g L' s.heap (frPost x y x0 y0 q p mx tx ty tx0 ty0 tm t tq))
    (N : News g L' s.heap own)
    (hr : ∀ h' tk t', Fr g L' h' (fun z => if z = S "post" then some (.int (q - 1) t') else frPost x y x0 y0 q p mx tx ty tx0 ty0 tm t tq z) → News g L' h' own → Q .next { s with heap := h', toks := tk }) :
    wpAny (model PySem.Challenge.rw_tl0038_01.row.prog w) ((ktrTop dp un gd cn cs L a ccd cl outer).deeper (envF (S "_levenshtein_distance") 18 L' 141 140)) (execs (lpBody 18 6) (envF (S "_levenshtein_distance") 18 L' 141 140)) Q E s := by
  k_steps
  all_goals exact hr _ _ _ (by k_asm) (by k_asm)
end
noncomputable def lvPre (a b : Str) : Nat → Int → Int
  | 0, p => p
  | n + 1, p => if lvPreC a b p = true then lvPre a b n (p + 1) else p
noncomputable def lvPreOf (a b : Str) : Int := lvPre a b (a.length + 1) 0
noncomputable def lvPost (a b : Str) : Nat → Int → Int
  | 0, q => q
  | n + 1, q => if lvPostC a b q = true then lvPost a b n (q - 1) else q
noncomputable def lvPostOf (a b : Str) : Int := lvPost a b (a.length + 1) 0
section
variable {w : World} {mean : ExcName → Option Value} {mg mb : Str → Option Value} {dp un : Nat} {gd : Option (List Code)} {cn : Str} {cs : Scope} {a : Addr} {ccd : Value} {cl : List (Str × Addr)} {outer : List Env} {A₀ : Around} {base g : Heap} {L L' : Addr} {s : Shared} {Q : Flow → Shared → Prop} {E : Value → Shared → Prop}
theorem lev_pre_loop {x y : Str} {tx ty tm t : Tok} {mx : Int} {own : Led} {pos : Pos} (hd : dp + 1 < recursionLimit) (hu : un + 8 < cLine)
    (hx : x.length < 2 ^ 16) (hy : y.length < 2 ^ 16)
    (B' : Below (ktrTop dp un gd cn cs L a ccd cl outer) base (envX cn cs L a ccd cl :: outer) g) (X' : (KF w.params).In g) (T' : Top viewQ LQ mean mg mb g)
    (F : Fr g L' s.heap (fun z => if z = S "pre" then some (.int 0 t) else frLev x y mx tx ty tm z)) (N : News g L' s.heap own)
    (hE : PassesOwn (model PySem.Challenge.rw_tl0038_01.row.prog w) ((ktrTop dp un gd cn cs L a ccd cl outer).deeper (envF (S "_levenshtein_distance") 18 L' 141 140)) (envF (S "_levenshtein_distance") 18 L' 141 140) E)
    (done : ∀ h tk t', 0 ≤ lvPreOf x y → lvPreOf x y ≤ x.length → Fr g L' h (fun z => if z = S "pre" then some (.int (lvPreOf x y) t') else frLev x y mx tx ty tm z) → News g L' h own → Q .next { s with heap := h, toks := tk }) :
    wpAny (model PySem.Challenge.rw_tl0038_01.row.prog w) ((ktrTop dp un gd cn cs L a ccd cl outer).deeper (envF (S "_levenshtein_distance") 18 L' 141 140)) (exec (.While (lpTest 18 2) (lpBody 18 2) [] pos) (envF (S "_levenshtein_distance") 18 L' 141 140)) Q E s := by
  refine ksw_while (σ := Int × Tok) (fun _ => own) (fun c => [(S "pre", .int c.1 c.2)]) (fun _ => True) [] (fun c => 0 ≤ c.1 ∧ c.1 ≤ x.length ∧ lvPre x y ((x.length : Int) + 1 - c.1).toNat c.1 = lvPreOf x y) (fun c => ((x.length : Int) + 1 - c.1).toNat) (0, t) F N trivial ?_ ⟨Int.le_refl _, by simp, ?_⟩ ?_ hE
  · intro p hp
    rw [List.mem_singleton.mp hp]
    exact if_pos rfl
  · show lvPre x y ((x.length : Int) + 1 - 0).toNat 0 = lvPre x y (x.length + 1) 0
    congr 1
  · rintro ⟨p, t'⟩ u h tk _ ⟨h0, h1, h2⟩ F₁ N₁
    dsimp only at h0 h1 h2
    have e : (kstB (fun z => if ([] : List Str).contains z = true then u z else (if z = S "pre" then some (.int 0 t) else frLev x y mx tx ty tm z)) [(S "pre", .int p t')]) = (fun z => if z = S "pre" then some (Value.int p t') else frLev x y mx tx ty tm z) := by
      funext z
      simp only [kstB, List.contains_nil, Bool.false_eq_true, if_false]
      by_cases q : z = S "pre"
      · rw [if_pos q, if_pos q]
      · rw [if_neg q, if_neg q, if_neg q]
    rw [e] at F₁
    have hfu : ((x.length : Int) + 1 - p).toNat = ((x.length : Int) + 1 - (p + 1)).toNat + 1 := by omega
    refine lev_pre_test (s := { s with heap := h, toks := tk }) hd hu hx hy h0 h1 B' X' T' F₁ N₁ ?_
    intro v h' tk' hv hlt F₂ N₂
    cases v with
    | false =>
      rw [if_neg (by decide)]
      rw [hfu] at h2
      have e2 : p = lvPreOf x y := by rw [← h2]; unfold lvPre; rw [if_neg (by rw [← hv]; decide)]
      rw [e2] at F₂ h0 h1
      exact done _ _ _ h0 h1 F₂ N₂
    | true =>
      rw [if_pos rfl]
      have hlt' := hlt rfl
      refine lev_pre_body (s := { s with heap := h', toks := tk' }) hd hu hx h0 h1 B' X' T' F₂ N₂ ?_
      intro h₃ tk₃ t₃ F₃ N₃
      refine ksw_end (p + 1, t₃) F₃ N₃ (fun _ h => h) trivial ?_ ?_ ⟨by omega, by omega, ?_⟩ (by dsimp only; omega)
      · intro p hp
        rw [List.mem_singleton.mp hp]
        exact if_pos rfl
      · intro z hz _
        have q : z ≠ S "pre" := hz _ (.head _)
        try dsimp only
        rw [if_neg q, if_neg q, if_neg q]
      · (try dsimp only)
        rw [← h2, hfu]
        conv => rhs; unfold lvPre
        rw [if_pos hv.symm]
theorem lev_post_loop {x y x0 y0 : Str} {tx ty tx0 ty0 tm t tq : Tok} {p mx : Int} {own : Led} {pos : Pos} (hd : dp + 1 < recursionLimit) (hu : un + 8 < cLine)
    (hx : x.length < 2 ^ 16) (hy : y.length < 2 ^ 16)
    (B' : Below (ktrTop dp un gd cn cs L a ccd cl outer) base (envX cn cs L a ccd cl :: outer) g) (X' : (KF w.params).In g) (T' : Top viewQ LQ mean mg mb g)
    (F : Fr g L' s.heap (frPost x y x0 y0 0 p mx tx ty tx0 ty0 tm t tq)) (N : News g L' s.heap own)
    (hE : PassesOwn (model PySem.Challenge.rw_tl0038_01.row.prog w) ((ktrTop dp un gd cn cs L a ccd cl outer).deeper (envF (S "_levenshtein_distance") 18 L' 141 140)) (envF (S "_levenshtein_distance") 18 L' 141 140) E)
    (done : ∀ h tk t', lvPostOf x y ≤ 0 → -lvPostOf x y ≤ x.length → -lvPostOf x y ≤ y.length → Fr g L' h (frPost x y x0 y0 (lvPostOf x y) p mx tx ty tx0 ty0 tm t t') → News g L' h own → Q .next { s with heap := h, toks := tk }) :
    wpAny (model PySem.Challenge.rw_tl0038_01.row.prog w) ((ktrTop dp un gd cn cs L a ccd cl outer).deeper (envF (S "_levenshtein_distance") 18 L' 141 140)) (exec (.While (lpTest 18 6) (lpBody 18 6) [] pos) (envF (S "_levenshtein_distance") 18 L' 141 140)) Q E s := by
  refine ksw_while (σ := Int × Tok) (fun _ => own) (fun c => [(S "post", .int c.1 c.2)]) (fun _ => True) [] (fun c => c.1 ≤ 0 ∧ -c.1 ≤ x.length ∧ -c.1 ≤ y.length ∧ lvPost x y ((x.length : Int) + 1 + c.1).toNat c.1 = lvPostOf x y) (fun c => ((x.length : Int) + 1 + c.1).toNat) (0, tq) F N trivial ?_ ⟨Int.le_refl _, by simp, by simp, ?_⟩ ?_ hE
  · intro p hp
    rw [List.mem_singleton.mp hp]
    exact if_pos rfl
  · show lvPost x y ((x.length : Int) + 1 + 0).toNat 0 = lvPost x y (x.length + 1) 0
    congr 1
  · rintro ⟨q, t'⟩ u h tk _ ⟨h0, h1, h1', h2⟩ F₁ N₁
    dsimp only at h0 h1 h1' h2
    have e : (kstB (fun z => if ([] : List Str).contains z = true then u z else frPost x y x0 y0 0 p mx tx ty tx0 ty0 tm t tq z) [(S "post", .int q t')]) = frPost x y x0 y0 q p mx tx ty tx0 ty0 tm t t' := by
      funext z
      simp only [kstB, List.contains_nil, Bool.false_eq_true, if_false, frPost]
      by_cases q : z = S "post"
      · rw [if_pos q, if_pos q]
      · rw [if_neg q, if_neg q, if_neg q]
    rw [e] at F₁
    have hfu : ((x.length : Int) + 1 + q).toNat = ((x.length : Int) + 1 + (q - 1)).toNat + 1 := by omega
    refine lev_post_test (s := { s with heap := h, toks := tk }) hd hu hx hy h0 h1 h1' B' X' T' F₁ N₁ ?_
    intro v h' tk' hv hlt F₂ N₂
    cases v with
    | false =>
      rw [if_neg (by decide)]
      rw [hfu] at h2
      have e2 : q = lvPostOf x y := by rw [← h2]; unfold lvPost; rw [if_neg (by rw [← hv]; decide)]
      rw [e2] at F₂ h0 h1 h1'
      exact done _ _ _ h0 h1 h1' F₂ N₂
    | true =>
      rw [if_pos rfl]
      have hlt' := hlt rfl
      refine lev_post_body (s := { s with heap := h', toks := tk' }) hd hu hx h0 h1 B' X' T' F₂ N₂ ?_
      intro h₃ tk₃ t₃ F₃ N₃
      refine ksw_end (q - 1, t₃) F₃ N₃ (fun _ h => h) trivial ?_ ?_ ⟨by omega, by omega, by omega, ?_⟩ (by dsimp only; omega)
      · intro p hp
        rw [List.mem_singleton.mp hp]
        exact if_pos rfl
      · intro z hz _
        have q : z ≠ S "post" := hz _ (.head _)
        show (if z = S "post" then _ else frPost x y x0 y0 _ p mx tx ty tx0 ty0 tm t _ z) = _
        simp only [frPost, if_neg q]
      · (try dsimp only)
        rw [← h2, hfu]
        conv => rhs; unfold lvPost
        rw [if_pos hv.symm]
end
end Mine
end
section
open PySem PySem.W PyProof.Rows
namespace Mine
noncomputable def mn2 (p q : Int) : Int := if q < p then q else p
noncomputable abbrev LSt := List Int × Int × Int × Int
noncomputable def lvStep (x bc : Str) (st : LSt) (k : Int) : LSt :=
  (st.1.set k.toNat (mn2 (mn2 st.2.2.1 (st.1.getD k.toNat 0) + 2) (st.2.1 + subCost bc (Txt.item x k))), st.1.getD k.toNat 0, mn2 (mn2 st.2.2.1 (st.1.getD k.toNat 0) + 2) (st.2.1 + subCost bc (Txt.item x k)),
    if mn2 (mn2 st.2.2.1 (st.1.getD k.toNat 0) + 2) (st.2.1 + subCost bc (Txt.item x k)) < st.2.2.2 then mn2 (mn2 st.2.2.1 (st.1.getD k.toNat 0) + 2) (st.2.1 + subCost bc (Txt.item x k)) else st.2.2.2)
noncomputable def bodyOf (s : Stmt) : List Stmt := match s with | .For _ _ b _ _ => b | .While _ b _ _ => b | _ => []
local macro_rules | `(tactic| walk_at "setItem ref int") => `(tactic| walk_at "zd6")
set_option hygiene false in
local macro_rules | `(tactic| walk_at "call ref") => `(tactic| (k_here; (with_reducible show wpAny _ _ (call (Value.ref 134) [Value.str _ _, Value.str _ _]) _ _ _); k_dflt (refine' con_subst ?B ?F ?X ?N ?T ?hk ?p0 ?p1 ?hd ?hu ?_); walk_at "zB"; (case p0 => omega); (case p1 => omega); walk_at "zI"))
section
variable {w : World} {mean : ExcName → Option Value} {mg mb : Str → Option Value} {dp un : Nat} {gd : Option (List Code)} {cn : Str} {cs : Scope} {a : Addr} {ccd : Value} {cl : List (Str × Addr)} {outer : List Env} {A₀ : Around} {base g : Heap} {L L' : Addr} {s : Shared} {Q : Flow → Shared → Prop} {E : Value → Shared → Prop}
noncomputable abbrev frOut (l : Addr) (x y : Str) (mx : Int) (tx ty tm : Tok) (u : Str → Option Value) : Str → Option Value := fun z => if z = S "row" then some (.ref l) else if z = S "a" then some (.str x tx) else if z = S "b" then some (.str y ty) else if z = S "max_cost" then some (.int mx tm) else u z
noncomputable abbrev frIn (l : Addr) (x y bc : Str) (mx bi d r mn : Int) (tx ty tm tb tbi td tr tn : Tok) (u : Str → Option Value) : Str → Option Value := fun z => if z = S "distance" then some (.int d td) else if z = S "result" then some (.int r tr) else if z = S "minimum" then some (.int mn tn) else if z = S "bchar" then some (.str bc tb) else if z = S "bindex" then some (.int bi tbi) else frOut l x y mx tx ty tm u z
set_option maxHeartbeats 1000000 in
theorem in_turn {l : Addr} {x y bc : Str} {mx bi d r mn k : Int} {tx ty tm tb tbi td tr tn t : Tok} {u : Str → Option Value} {us : List Value} {ns : List Int} {n : Nat} {own : Led} (hd : dp + 2 < recursionLimit) (hu : un + 16 < cLine)
    (hx : x.length ≤ 40) (hk0 : 0 ≤ k) (hk1 : k < x.length) (hb : bc.length = 1) (hi : IntsAre us ns) (hnl : ns.length = x.length) (hul : us.length = x.length) (hoff : OwnOff own [l])
    (B' : Below (ktrTop dp un gd cn cs L a ccd cl outer) base (envX cn cs L a ccd cl :: outer) g) (X' : (KF w.params).In g) (T' : Top viewQ LQ mean mg mb g)
    (F : Fr g L' s.heap (fun z => if z = S "index" then some (.int k t) else frIn l x y bc mx bi d r mn tx ty tm tb tbi td tr tn u z))
    (N : News g L' s.heap ((l, W.listOf us.toArray n) :: own))
    (hr : ∀ (m' : Str → Option Value) (x1 : Int) (td' tr' tm' : Tok) h' tk, m' (S "distance") = some (.int (lvStep x bc (ns, d, r, mn) k).2.1 td') → m' (S "result") = some (.int (lvStep x bc (ns, d, r, mn) k).2.2.1 tr') → m' (S "minimum") = some (.int x1 tm') → x1 = (lvStep x bc (ns, d, r, mn) k).2.2.2 →
      (∀ z, z ≠ S "distance" → z ≠ S "result" → z ≠ S "minimum" → z ≠ S "substitute" → z ≠ S "insert_delete" → m' z = if z = S "index" then some (.int k t) else frIn l x y bc mx bi d r mn tx ty tm tb tbi td tr tn u z) → Fr g L' h' m' →
      News g L' h' ((l, W.listOf (us.set k.toNat (.int (lvStep x bc (ns, d, r, mn) k).2.2.1 tr')).toArray n) :: own) → Q .next { s with heap := h', toks := tk }) :
    wpAny (model PySem.Challenge.rw_tl0038_01.row.prog w) ((ktrTop dp un gd cn cs L a ccd cl outer).deeper (envF (S "_levenshtein_distance") 18 L' 141 140)) (execs (bodyOf ((lpBody 18 15).getD 3 default)) (envF (S "_levenshtein_distance") 18 L' 141 140)) Q E s := by
  k_steps
  · refine hr _ _ _ _ _ _ _ rfl rfl rfl ?_ ?_ (by k_asm) (by k_asm)
    · exact (if_pos (by assumption)).symm
    · intro z h1 h2 h3 h4 h5
      exact (if_neg h3).trans ((if_neg h2).trans ((if_neg h5).trans ((if_neg h1).trans (if_neg h4))))
  · refine hr _ _ _ _ _ _ _ rfl rfl rfl ?_ ?_ (by k_asm) (by k_asm)
    · exact (if_neg (by assumption)).symm
    · intro z h1 h2 h3 h4 h5
      exact (if_neg h2).trans ((if_neg h5).trans ((if_neg h1).trans (if_neg h4)))
theorem norm_in {l : Addr} {x y bc : Str} {mx bi d r mn d' r' mn' : Int} {tx ty tm tb tbi td tr tn td' tr' tn' : Tok} {u u' : Str → Option Value} :
    (fun z => kstB (fun z => if [S "substitute", S "insert_delete"].contains z = true then u' z else frIn l x y bc mx bi d r mn tx ty tm tb tbi td tr tn u z) [(S "distance", .int d' td'), (S "result", .int r' tr'), (S "minimum", .int mn' tn')] z) =
      frIn l x y bc mx bi d' r' mn' tx ty tm tb tbi td' tr' tn' (fun z => if [S "substitute", S "insert_delete"].contains z = true then u' z else u z) := by
  funext z
  by_cases q1 : z = S "distance"
  · subst q1; rfl
  by_cases q2 : z = S "result"
  · subst q2; rfl
  by_cases q3 : z = S "minimum"
  · subst q3; rfl
  by_cases q4 : z = S "bchar"
  · subst q4; rfl
  by_cases q5 : z = S "bindex"
  · subst q5; rfl
  by_cases q6 : z = S "row"
  · subst q6; rfl
  by_cases q7 : z = S "a"
  · subst q7; rfl
  by_cases q8 : z = S "b"
  · subst q8; rfl
  by_cases q9 : z = S "max_cost"
  · subst q9; rfl
  simp only [kstB, frIn, frOut, q1, q2, q3, q4, q5, q6, q7, q8, q9, if_false]
theorem in_loop {l rg : Addr} {x y bc : Str} {mx bi d r mn : Int} {tx ty tm tb tbi td tr tn t₀ u₀ v₀ : Tok} {u : Str → Option Value} {us : List Value} {ns : List Int} {n : Nat} (hd : dp + 2 < recursionLimit) (hu : un + 16 < cLine)
    (hx : x.length ≤ 40) (hb : bc.length = 1) (hi : IntsAre us ns) (hnl : ns.length = x.length)
    (B' : Below (ktrTop dp un gd cn cs L a ccd cl outer) base (envX cn cs L a ccd cl :: outer) g) (X' : (KF w.params).In g) (T' : Top viewQ LQ mean mg mb g)
    (F : Fr g L' s.heap (frIn l x y bc mx bi d r mn tx ty tm tb tbi td tr tn u)) {own : Led} (hoff : OwnOff own [l])
    (N : News g L' s.heap ((l, W.listOf us.toArray n) :: own)) (R : IsRange s.heap rg 0 x.length 1 t₀ u₀ v₀)
    (done : ∀ (us' : List Value) (st : LSt) (td' tr' tn' : Tok) h tk (u' : Str → Option Value), IntsAre us' st.1 → st.1.length = x.length → st = (rangeKs 0 x.length).foldl (lvStep x bc) (ns, d, r, mn) → (∀ z, z ≠ S "index" → z ≠ S "substitute" → z ≠ S "insert_delete" → u' z = u z) → Fr g L' h (frIn l x y bc mx bi st.2.1 st.2.2.1 st.2.2.2 tx ty tm tb tbi td' tr' tn' u') →
      News g L' h ((l, W.listOf us'.toArray n) :: own) → Q .next { s with heap := h, toks := tk }) :
    wpAny (model PySem.Challenge.rw_tl0038_01.row.prog w) ((ktrTop dp un gd cn cs L a ccd cl outer).deeper (envF (S "_levenshtein_distance") 18 L' 141 140)) (pyIter (.ref rg))
      (fun it s₂ => LoopAtV PySem.Challenge.rw_tl0038_01.row.prog w ((ktrTop dp un gd cn cs L a ccd cl outer).deeper (envF (S "_levenshtein_distance") 18 L' 141 140)) g (envF (S "_levenshtein_distance") 18 L' 141 140) (S "index") (bodyOf ((lpBody 18 15).getD 3 default)) Q E it s₂) E s := by
  refine kst_range (σ := List Value × LSt × Tok × Tok × Tok) (fun c => (l, W.listOf c.1.toArray n) :: own) (fun c => [(S "distance", .int c.2.1.2.1 c.2.2.1), (S "result", .int c.2.1.2.2.1 c.2.2.2.1), (S "minimum", .int c.2.1.2.2.2 c.2.2.2.2)])
    (fun c => IntsAre c.1 c.2.1.1 ∧ c.2.1.1.length = x.length) [S "substitute", S "insert_delete"] (fun pre c' => c'.2.1 = pre.foldl (lvStep x bc) (ns, d, r, mn)) (us, (ns, d, r, mn), td, tr, tn) (by rfl) R
    (small_one (by omega) (by omega) (by omega) (by omega)) (by exact rangeSize_nat _ _) F N ⟨hi, hnl⟩ ?_ rfl ?_ ?_
  · intro p hp
    rcases List.mem_cons.mp hp with rfl | hp
    · rfl
    rcases List.mem_cons.mp hp with rfl | hp
    · rfl
    rw [List.mem_singleton.mp hp]
    rfl
  · rintro ⟨us', ⟨ns', d', r', mn'⟩, td', tr', tn'⟩ pre k t u' h tk own' hk hlt hoff' ⟨hF, hL⟩ hP F₁ N₁
    dsimp only at hF hP N₁ hk hL F₁
    rw [show (fun y_1 => if y_1 = S "index" then some (Value.int k t) else kstB (fun z => if [S "substitute", S "insert_delete"].contains z = true then u' z else frIn l x y bc mx bi d r mn tx ty tm tb tbi td tr tn u z) [(S "distance", .int d' td'), (S "result", .int r' tr'), (S "minimum", .int mn' tn')] y_1) = (fun z => if z = S "index" then some (.int k t) else frIn l x y bc mx bi d' r' mn' tx ty tm tb tbi td' tr' tn' (fun z => if [S "substitute", S "insert_delete"].contains z = true then u' z else u z) z) from by rw [← norm_in]] at F₁
    have N₂ : News g L' h ((l, W.listOf us'.toArray n) :: (own ++ own')) := N₁
    have hoff2 : OwnOff (own ++ own') [l] := by
      intro p hp b hb
      rw [List.mem_singleton.mp hb]
      rcases List.mem_append.mp hp with q | q
      · exact hoff p q l (.head _)
      · exact hoff' p q l (.head _)
    refine in_turn (s := { s with heap := h, toks := tk }) hd hu hx (by omega) (by omega) hb hF hL (by rw [ints_len hF, hL]) hoff2 B' X' T' F₁ N₂ ?_
    intro m' x1 td2 tr2 tm2 h' tk' e1 e2 e3 e4 e5 F₂ N₃
    subst e4
    refine kst_end (us'.set k.toNat (.int (lvStep x bc (ns', d', r', mn') k).2.2.1 tr2), lvStep x bc (ns', d', r', mn') k, td2, tr2, tm2) F₂ N₃ ?_ ?_ ?_ ⟨ints_set hF _ tr2 _, ?_⟩ ?_ ?_ ?_
    · intro p hp
      rcases List.mem_cons.mp hp with rfl | hp
      · exact .head _
      · exact .tail _ (List.mem_append.mpr (.inl hp))
    · exact fun p hp => .tail _ (List.mem_append.mpr (.inr hp))
    · rfl
    · show (ns'.set _ _).length = _
      rw [List.length_set]; exact hL
    · intro p hp
      rcases List.mem_cons.mp hp with rfl | hp
      · exact e1
      rcases List.mem_cons.mp hp with rfl | hp
      · exact e2
      rw [List.mem_singleton.mp hp]
      exact e3
    · intro z hz hp hc
      have z1 : z ≠ S "distance" := hp _ (.head _)
      have z2 : z ≠ S "result" := hp _ (.tail _ (.head _))
      have z3 : z ≠ S "minimum" := hp _ (.tail _ (.tail _ (.head _)))
      have z4 : z ≠ S "substitute" := by intro q; rw [q] at hc; revert hc; decide
      have z5 : z ≠ S "insert_delete" := by intro q; rw [q] at hc; revert hc; decide
      rw [e5 z z1 z2 z3 z4 z5, if_neg hz]
      simp only [frIn, frOut, z1, z2, z3, if_false, hc, Bool.false_eq_true]
    · show lvStep x bc (ns', d', r', mn') k = _
      rw [List.foldl_append, ← hP]; rfl
  · rintro ⟨us', ⟨ns', d', r', mn'⟩, td', tr', tn'⟩ u' h tk ⟨hF, hL⟩ hP F₁ N₁
    dsimp only at hF hP hL F₁ N₁
    refine done us' (ns', d', r', mn') td' tr' tn' h tk (fun z => if z = S "index" then u' z else if [S "substitute", S "insert_delete"].contains z = true then u' z else u z) hF hL hP ?_ ?_ N₁
    · intro z z1 z2 z3
      simp only [z1, if_false, List.contains_cons, List.contains_nil, beq_eq_false_iff_ne.mpr z2, beq_eq_false_iff_ne.mpr z3, Bool.or_false, Bool.false_eq_true]
    have e : (fun y_1 => if y_1 = S "index" then u' y_1 else kstB (fun z => if [S "substitute", S "insert_delete"].contains z = true then u' z else frIn l x y bc mx bi d r mn tx ty tm tb tbi td tr tn u z) [(S "distance", .int d' td'), (S "result", .int r' tr'), (S "minimum", .int mn' tn')] y_1) =
        frIn l x y bc mx bi d' r' mn' tx ty tm tb tbi td' tr' tn' (fun z => if z = S "index" then u' z else if [S "substitute", S "insert_delete"].contains z = true then u' z else u z) := by
      funext z
      by_cases q : z = S "index"
      · subst q; rfl
      · rw [if_neg q, show kstB _ _ z = _ from congrFun norm_in z]
        simp only [frIn, frOut, q, if_false]
    rw [← e]
    exact F₁
end
noncomputable def lvRow (x y : Str) (mx : Int) : Option (List Int × Int) → Int → Option (List Int × Int)
  | none, _ => none
  | some (row, _), k => if mx < ((rangeKs 0 x.length).foldl (lvStep x (Txt.item y k)) (row, k * 2, k * 2, 9223372036854775807)).2.2.2 then none
      else some (((rangeKs 0 x.length).foldl (lvStep x (Txt.item y k)) (row, k * 2, k * 2, 9223372036854775807)).1, ((rangeKs 0 x.length).foldl (lvStep x (Txt.item y k)) (row, k * 2, k * 2, 9223372036854775807)).2.2.1)
section
variable {w : World} {mean : ExcName → Option Value} {mg mb : Str → Option Value} {dp un : Nat} {gd : Option (List Code)} {cn : Str} {cs : Scope} {a : Addr} {ccd : Value} {cl : List (Str × Addr)} {outer : List Env} {A₀ : Around} {base g : Heap} {L L' : Addr} {s : Shared} {Q : Flow → Shared → Prop} {E : Value → Shared → Prop}
theorem frIn_norm {l : Addr} {x y bc : Str} {mx bi d r mn : Int} {tx ty tm tb tbi td tr tn : Tok} {m₁ : Str → Option Value} (h1 : m₁ (S "distance") = some (.int d td)) (h2 : m₁ (S "result") = some (.int r tr)) (h3 : m₁ (S "minimum") = some (.int mn tn)) (h4 : m₁ (S "bchar") = some (.str bc tb)) (h5 : m₁ (S "bindex") = some (.int bi tbi))
    (h6 : m₁ (S "row") = some (.ref l)) (h7 : m₁ (S "a") = some (.str x tx)) (h8 : m₁ (S "b") = some (.str y ty)) (h9 : m₁ (S "max_cost") = some (.int mx tm)) : m₁ = frIn l x y bc mx bi d r mn tx ty tm tb tbi td tr tn m₁ := by
  funext z
  by_cases q1 : z = S "distance"
  · subst q1; exact h1
  by_cases q2 : z = S "result"
  · subst q2; exact h2
  by_cases q3 : z = S "minimum"
  · subst q3; exact h3
  by_cases q4 : z = S "bchar"
  · subst q4; exact h4
  by_cases q5 : z = S "bindex"
  · subst q5; exact h5
  by_cases q6 : z = S "row"
  · subst q6; exact h6
  by_cases q7 : z = S "a"
  · subst q7; exact h7
  by_cases q8 : z = S "b"
  · subst q8; exact h8
  by_cases q9 : z = S "max_cost"
  · subst q9; exact h9
  simp only [frIn, frOut, q1, q2, q3, q4, q5, q6, q7, q8, q9, if_false]
theorem fr_in {h : Heap} {l : Addr} {x y bc : Str} {mx bi d r mn : Int} {tx ty tm tb tbi td tr tn : Tok} {m₁ : Str → Option Value} (F : Fr g L' h m₁) (h1 : m₁ (S "distance") = some (.int d td)) (h2 : m₁ (S "result") = some (.int r tr)) (h3 : m₁ (S "minimum") = some (.int mn tn)) (h4 : m₁ (S "bchar") = some (.str bc tb)) (h5 : m₁ (S "bindex") = some (.int bi tbi))
    (h6 : m₁ (S "row") = some (.ref l)) (h7 : m₁ (S "a") = some (.str x tx)) (h8 : m₁ (S "b") = some (.str y ty)) (h9 : m₁ (S "max_cost") = some (.int mx tm)) : Fr g L' h (frIn l x y bc mx bi d r mn tx ty tm tb tbi td tr tn m₁) := by
  have e := frIn_norm h1 h2 h3 h4 h5 h6 h7 h8 h9
  exact e ▸ F
theorem fr_out {h : Heap} {l : Addr} {x y : Str} {mx bi r : Int} {tx ty tm tbi tr : Tok} {m₁ : Str → Option Value} (F : Fr g L' h m₁) (h2 : m₁ (S "result") = some (.int r tr)) (h5 : m₁ (S "bindex") = some (.int bi tbi))
    (h6 : m₁ (S "row") = some (.ref l)) (h7 : m₁ (S "a") = some (.str x tx)) (h8 : m₁ (S "b") = some (.str y ty)) (h9 : m₁ (S "max_cost") = some (.int mx tm)) : Fr g L' h (fun z => if z = S "bindex" then some (.int bi tbi) else if z = S "result" then some (.int r tr) else frOut l x y mx tx ty tm m₁ z) := by
  have e : m₁ = (fun z => if z = S "bindex" then some (.int bi tbi) else if z = S "result" then some (.int r tr) else frOut l x y mx tx ty tm m₁ z) := by
    funext z
    by_cases q2 : z = S "result"
    · subst q2; exact h2
    by_cases q5 : z = S "bindex"
    · subst q5; exact h5
    by_cases q6 : z = S "row"
    · subst q6; exact h6
    by_cases q7 : z = S "a"
    · subst q7; exact h7
    by_cases q8 : z = S "b"
    · subst q8; exact h8
    by_cases q9 : z = S "max_cost"
    · subst q9; exact h9
    simp only [frOut, q2, q5, q6, q7, q8, q9, if_false]
  exact e ▸ F
local macro_rules | `(tactic| walk_at "pyIter ref") => `(tactic| (k_here; refine stopHere ?_))
set_option maxHeartbeats 1000000 in
theorem out_turn {l : Addr} {x y : Str} {mx k r : Int} {tx ty tm t tr : Tok} {u : Str → Option Value} {us : List Value} {ns : List Int} {n : Nat} {own : Led} (hd : dp + 2 < recursionLimit) (hu : un + 16 < cLine)
    (hx : x.length ≤ 40) (hy : y.length ≤ 40) (hk0 : 0 ≤ k) (hk1 : k < y.length) (hi : IntsAre us ns) (hnl : ns.length = x.length) (hmx : mx.natAbs < 2 ^ 31) (hoff : OwnOff own [l])
    (B' : Below (ktrTop dp un gd cn cs L a ccd cl outer) base (envX cn cs L a ccd cl :: outer) g) (X' : (KF w.params).In g) (T' : Top viewQ LQ mean mg mb g)
    (F : Fr g L' s.heap (fun z => if z = S "bindex" then some (.int k t) else if z = S "result" then some (.int r tr) else frOut l x y mx tx ty tm u z))
    (N : News g L' s.heap ((l, W.listOf us.toArray n) :: own))
    (hE : PassesOwn (model PySem.Challenge.rw_tl0038_01.row.prog w) ((ktrTop dp un gd cn cs L a ccd cl outer).deeper (envF (S "_levenshtein_distance") 18 L' 141 140)) (envF (S "_levenshtein_distance") 18 L' 141 140) E)
    (hr1 : ∀ (t' : Tok) h' tk m', lvRow x y mx (some (ns, r)) k = none → Fr g L' h' m' → Q (.ret (.int (mx + 1) t')) { s with heap := h', toks := tk })
    (hr2 : ∀ (us' : List Value) (ns' : List Int) (r' : Int) (tr' : Tok) (u' : Str → Option Value) h' tk, lvRow x y mx (some (ns, r)) k = some (ns', r') → IntsAre us' ns' → ns'.length = x.length → (∀ z, z ≠ S "bchar" → z ≠ S "distance" → z ≠ S "minimum" → z ≠ S "index" → z ≠ S "substitute" → z ≠ S "insert_delete" → z ≠ S "result" → z ≠ S "bindex" → frOut l x y mx tx ty tm u' z = frOut l x y mx tx ty tm u z) → Fr g L' h' (fun z => if z = S "bindex" then some (.int k t) else if z = S "result" then some (.int r' tr') else frOut l x y mx tx ty tm u' z) →
      News g L' h' ((l, W.listOf us'.toArray n) :: own) → Q .next { s with heap := h', toks := tk }) :
    wpAny (model PySem.Challenge.rw_tl0038_01.row.prog w) ((ktrTop dp un gd cn cs L a ccd cl outer).deeper (envF (S "_levenshtein_distance") 18 L' 141 140)) (execs (lpBody 18 15) (envF (S "_levenshtein_distance") 18 L' 141 140)) Q E s := by
  k_steps
  refine Stop.mk ?_
  rename Fr _ _ _ _ => Fc
  rename News _ _ _ _ => Nc
  rename IsRange _ _ _ _ _ _ _ _ => Rc
  have Fd := fr_in (l := l) (x := x) (y := y) Fc rfl rfl rfl rfl rfl rfl rfl rfl rfl
  clear Fc
  refine in_loop (by omega) (by omega) hx (by omega) hi hnl B' X' T' Fd hoff Nc Rc ?_
  clear Fd Nc Rc
  intro us' st td' tr' tn' h tk u' hI hL hst hU F2 N2
  obtain ⟨ns', d', r', mn'⟩ := st
  have hl : lvRow x y mx (some (ns, r)) k = if mx < (ns', d', r', mn').2.2.2 then none else some ((ns', d', r', mn').1, (ns', d', r', mn').2.2.1) := by rw [hst]; rfl
  dsimp only at hI hL F2 hl
  k_steps
  · refine hr1 _ _ _ _ ?_ (by k_asm)
    rw [hl]
    exact if_pos (by assumption)
  · refine hr2 us' ns' r' tr' _ _ _ ?_ hI hL ?_ (fr_out (by k_asm) rfl rfl rfl rfl rfl rfl) (by k_asm)
    · rw [hl]
      exact if_neg (by assumption)
    · intro z z1 z2 z3 z4 z5 z6 z7 z8
      by_cases q6 : z = S "row"
      · subst q6; rfl
      by_cases q7 : z = S "a"
      · subst q7; rfl
      by_cases q8 : z = S "b"
      · subst q8; rfl
      by_cases q9 : z = S "max_cost"
      · subst q9; rfl
      simp only [frOut, frIn, z1, z2, z3, z7, z8, q6, q7, q8, q9, if_false]
      rw [hU z z4 z5 z6]
      simp only [frOut, z1, z2, z3, z7, z8, q6, q7, q8, q9, if_false]
theorem rangeKs_snoc (a : Int) (n : Nat) : rangeKs a (n + 1) = rangeKs a n ++ [a + (n : Int)] := by
  unfold rangeKs
  rw [List.range_succ, List.map_append]
  rfl
theorem fold_none {x y : Str} {mx : Int} {st : Option (List Int × Int)} {i : Nat} (h : (rangeKs 0 i).foldl (lvRow x y mx) st = none) : ∀ j : Nat, (rangeKs 0 (i + j)).foldl (lvRow x y mx) st = none
  | 0 => h
  | j + 1 => by
    rw [← Nat.add_assoc, rangeKs_snoc, List.foldl_append, fold_none h j]
    rfl
theorem out_norm {l : Addr} {x y : Str} {mx r r' : Int} {tx ty tm tr tr' : Tok} {u u' : Str → Option Value} :
    (fun z => kstB (fun z => if [S "bchar", S "distance", S "minimum", S "index", S "substitute", S "insert_delete"].contains z = true then u' z else (if z = S "result" then some (Value.int r tr) else frOut l x y mx tx ty tm u z)) [(S "result", .int r' tr')] z) =
      (fun z => if z = S "result" then some (Value.int r' tr') else frOut l x y mx tx ty tm (fun z => if [S "bchar", S "distance", S "minimum", S "index", S "substitute", S "insert_delete"].contains z = true then u' z else u z) z) := by
  funext z
  by_cases q2 : z = S "result"
  · subst q2; rfl
  by_cases q6 : z = S "row"
  · subst q6; rfl
  by_cases q7 : z = S "a"
  · subst q7; rfl
  by_cases q8 : z = S "b"
  · subst q8; rfl
  by_cases q9 : z = S "max_cost"
  · subst q9; rfl
  simp only [kstB, frOut, q2, q6, q7, q8, q9, if_false]
theorem out_loop {l rg : Addr} {x y : Str} {mx r : Int} {tx ty tm tr t₀ u₀ v₀ : Tok} {u : Str → Option Value} {us : List Value} {ns : List Int} {n : Nat} (hd : dp + 2 < recursionLimit) (hu : un + 16 < cLine)
    (hx : x.length ≤ 40) (hy : y.length ≤ 40) (hi : IntsAre us ns) (hnl : ns.length = x.length) (hmx : mx.natAbs < 2 ^ 31)
    (B' : Below (ktrTop dp un gd cn cs L a ccd cl outer) base (envX cn cs L a ccd cl :: outer) g) (X' : (KF w.params).In g) (T' : Top viewQ LQ mean mg mb g)
    (F : Fr g L' s.heap (fun z => if z = S "result" then some (.int r tr) else frOut l x y mx tx ty tm u z))
    (N : News g L' s.heap [(l, W.listOf us.toArray n)]) (R : IsRange s.heap rg 0 y.length 1 t₀ u₀ v₀)
    (hE : PassesOwn (model PySem.Challenge.rw_tl0038_01.row.prog w) ((ktrTop dp un gd cn cs L a ccd cl outer).deeper (envF (S "_levenshtein_distance") 18 L' 141 140)) (envF (S "_levenshtein_distance") 18 L' 141 140) E)
    (stopped : ∀ (t' : Tok) h' tk m', (rangeKs 0 y.length).foldl (lvRow x y mx) (some (ns, r)) = none → Fr g L' h' m' → Q (.ret (.int (mx + 1) t')) { s with heap := h', toks := tk })
    (done : ∀ (ns' : List Int) (r' : Int) (tr' : Tok) h tk (u' : Str → Option Value), (rangeKs 0 y.length).foldl (lvRow x y mx) (some (ns, r)) = some (ns', r') → Fr g L' h (fun z => if z = S "result" then some (.int r' tr') else u' z) → Q .next { s with heap := h, toks := tk }) :
    wpAny (model PySem.Challenge.rw_tl0038_01.row.prog w) ((ktrTop dp un gd cn cs L a ccd cl outer).deeper (envF (S "_levenshtein_distance") 18 L' 141 140)) (pyIter (.ref rg))
      (fun it s₂ => LoopAtV PySem.Challenge.rw_tl0038_01.row.prog w ((ktrTop dp un gd cn cs L a ccd cl outer).deeper (envF (S "_levenshtein_distance") 18 L' 141 140)) g (envF (S "_levenshtein_distance") 18 L' 141 140) (S "bindex") (lpBody 18 15) Q E it s₂) E s := by
  refine kst_range (σ := List Value × List Int × Int × Tok) (fun c => [(l, W.listOf c.1.toArray n)]) (fun c => [(S "result", .int c.2.2.1 c.2.2.2)])
    (fun c => IntsAre c.1 c.2.1 ∧ c.2.1.length = x.length) [S "bchar", S "distance", S "minimum", S "index", S "substitute", S "insert_delete"] (fun pre c' => pre = rangeKs 0 pre.length ∧ pre.foldl (lvRow x y mx) (some (ns, r)) = some (c'.2.1, c'.2.2.1)) (us, ns, r, tr) (by rfl) R
    (small_one (by omega) (by omega) (by omega) (by omega)) (by exact rangeSize_nat _ _) F N ⟨hi, hnl⟩ ?_ ⟨rfl, rfl⟩ ?_ ?_
  · intro p hp
    rw [List.mem_singleton.mp hp]
    rfl
  · rintro ⟨us', ns', r', tr'⟩ pre k t u' h tk own' hk hlt hoff' ⟨hF, hL⟩ ⟨hP1, hP⟩ F₁ N₁
    dsimp only at hF hP N₁ hk hL F₁ hP1
    rw [show (fun y_1 => if y_1 = S "bindex" then some (Value.int k t) else kstB (fun z => if [S "bchar", S "distance", S "minimum", S "index", S "substitute", S "insert_delete"].contains z = true then u' z else (if z = S "result" then some (Value.int r tr) else frOut l x y mx tx ty tm u z)) [(S "result", .int r' tr')] y_1) =
      (fun z => if z = S "bindex" then some (.int k t) else if z = S "result" then some (.int r' tr') else frOut l x y mx tx ty tm (fun z => if [S "bchar", S "distance", S "minimum", S "index", S "substitute", S "insert_delete"].contains z = true then u' z else u z) z) from by
        funext z
        by_cases q : z = S "bindex"
        · subst q; rfl
        · rw [if_neg q, if_neg q]; exact congrFun out_norm z] at F₁
    refine out_turn (s := { s with heap := h, toks := tk }) hd hu hx hy (by omega) (by omega) hF hL hmx hoff' B' X' T' F₁ N₁ hE ?_ ?_
    · intro t' h' tk' m' hn F₂
      refine stopped t' h' tk' m' ?_ F₂
      have e1 : (rangeKs 0 (pre.length + 1)).foldl (lvRow x y mx) (some (ns, r)) = none := by
        rw [rangeKs_snoc, ← hP1, List.foldl_append, hP, ← hk]
        exact hn
      have := fold_none e1 (y.length - (pre.length + 1))
      rw [show pre.length + 1 + (y.length - (pre.length + 1)) = y.length by omega] at this
      exact this
    · intro us2 ns2 r2 tr2 u2 h' tk' hs hI2 hL2 hU2 F₂ N₂
      refine kst_end (us2, ns2, r2, tr2) F₂ N₂ ?_ ?_ rfl ⟨hI2, hL2⟩ ?_ ?_ ⟨?_, ?_⟩
      · intro p hp
        rw [List.mem_singleton.mp hp]
        exact .head _
      · exact fun p hp => .tail _ hp
      · intro p hp
        rw [List.mem_singleton.mp hp]
        rfl
      · intro z hz hp hc
        have z7 : z ≠ S "result" := hp _ (.head _)
        have z1 : z ≠ S "bchar" := by intro q; rw [q] at hc; revert hc; decide
        have z2 : z ≠ S "distance" := by intro q; rw [q] at hc; revert hc; decide
        have z3 : z ≠ S "minimum" := by intro q; rw [q] at hc; revert hc; decide
        have z4 : z ≠ S "index" := by intro q; rw [q] at hc; revert hc; decide
        have z5 : z ≠ S "substitute" := by intro q; rw [q] at hc; revert hc; decide
        have z6 : z ≠ S "insert_delete" := by intro q; rw [q] at hc; revert hc; decide
        rw [if_neg hz, if_neg z7, if_neg z7, hU2 z z1 z2 z3 z4 z5 z6 z7 hz]
        simp only [frOut, hc, Bool.false_eq_true, if_false]
      · have : (pre ++ [k]).length = pre.length + 1 := by simp
        rw [this, rangeKs_snoc, ← hP1, hk]
      · rw [List.foldl_append, hP]
        exact hs
  · rintro ⟨us', ns', r', tr'⟩ u' h tk ⟨hF, hL⟩ ⟨hP1, hP⟩ F₁ N₁
    dsimp only at hF hP hL F₁ N₁
    refine done ns' r' tr' h tk (fun z => if z = S "bindex" then u' z else frOut l x y mx tx ty tm (fun z => if [S "bchar", S "distance", S "minimum", S "index", S "substitute", S "insert_delete"].contains z = true then u' z else u z) z) hP ?_
    have e : (fun y_1 => if y_1 = S "bindex" then u' y_1 else kstB (fun z => if [S "bchar", S "distance", S "minimum", S "index", S "substitute", S "insert_delete"].contains z = true then u' z else (if z = S "result" then some (Value.int r tr) else frOut l x y mx tx ty tm u z)) [(S "result", .int r' tr')] y_1) =
        (fun z => if z = S "result" then some (Value.int r' tr') else if z = S "bindex" then u' z else frOut l x y mx tx ty tm (fun z => if [S "bchar", S "distance", S "minimum", S "index", S "substitute", S "insert_delete"].contains z = true then u' z else u z) z) := by
      funext z
      by_cases q : z = S "bindex"
      · subst q; rfl
      · rw [if_neg q, show kstB _ _ z = _ from congrFun out_norm z]
        simp only [q, if_false]
    rw [← e]
    exact F₁
end
end Mine
end
section
open PySem PySem.W PyProof.Rows
namespace Mine
noncomputable def rowI (n : Nat) : List Int := (List.range n).map fun (j : Nat) => 2 + (j : Int) * 2
theorem rowI_len (n : Nat) : (rowI n).length = n := by unfold rowI; rw [List.length_map, List.length_range]
theorem ints_map (f : Nat → Int) : ∀ (n : Nat) (vs : List Value) (i : Nat), vs.length = n → (∀ (j : Nat) (v : Value), vs[j]? = some v → ∃ t, v = .int (f (i + j)) t) → IntsAre vs ((List.range' i n).map f)
  | 0, vs, i, e, _ => by
    cases vs with
    | nil => exact .nil
    | cons => cases e
  | n + 1, vs, i, e, h => by
    cases vs with
    | nil => cases e
    | cons v vs =>
      obtain ⟨t, rfl⟩ := h 0 v rfl
      refine IntsAre.cons _ _ (ints_map f n vs (i + 1) (by simpa using e) fun j v hj => ?_)
      obtain ⟨t', ht⟩ := h (j + 1) v hj
      exact ⟨t', by rw [ht]; congr 2; omega⟩
theorem row_size (n : Nat) : Builtin.Range.rangeSize 2 (2 * ((n : Int) + 1)) 2 = (n : Int) := by
  unfold Builtin.Range.rangeSize
  rw [if_pos (by decide)]
  split <;> omega
theorem fits_of {i : Int} (h1 : -(2 ^ 63) ≤ i) (h2 : i < 2 ^ 63) : Builtin.Range.rangeFitsLong i = true := by
  unfold Builtin.Range.rangeFitsLong
  rw [decide_eq_true h1, decide_eq_true h2]; rfl
theorem row_small {n : Nat} (hn : n ≤ 40) : Builtin.Range.small 2 (2 * ((n : Int) + 1)) 2 = true := by
  unfold Builtin.Range.small
  rw [row_size n, fits_of (i := 2) (by decide) (by decide), fits_of (i := 2 * ((n : Int) + 1)) (by omega) (by omega), fits_of (i := (n : Int)) (by omega) (by omega)]
  rw [if_pos (by decide), fits_of (i := 2 * ((n : Int) + 1) + (2 - 1)) (by omega) (by omega), Bool.or_true]
  rfl
section
variable {prog : Program} {w : World} {A : Around} {E : Value → Shared → Prop} {s : Shared} {h₀ : Heap} {L : Addr} {m : Str → Option Value} {news : Led}
theorem list_row {r : Addr} {b : Int} {t u v : Tok} {n : Nat} {Q : Value → Shared → Prop} (hh : A.handled = none) (F : Fr h₀ L s.heap m) (N : News h₀ L s.heap news)
    (hr : IsRange s.heap r 2 b 2 t u v) (hb : b = 2 * ((n : Int) + 1)) (hn : n ≤ 40)
    (h : ∀ D us c h' tk, Fr h₀ L h' m → News h₀ L h' ((D, W.listOf (List.toArray us) c) :: news) → IntsAre us (rowI n) → Q (.ref D) { s with heap := h', toks := tk }) :
    wpAny (model prog w) A (call (.type "list") [.ref r]) Q E s := by
  subst hb
  refine call_list_range (n := n) hh hr (row_small hn) (row_size n) (by omega) fun h' tk acc c hk hD hI => ?_
  have hD' : h'.get? s.heap.objs.size = some (W.listOf (List.toArray acc.toList) c) := by
    rw [Array.toArray_toList]
    exact hD
  refine h _ acc.toList c h' tk (F.keeps hk) (news_pushed F N hk hD' rfl) ?_
  have := ints_map (fun (j : Nat) => 2 + (j : Int) * 2) n acc.toList 0 (by rw [Array.length_toList]; exact hI.1) fun j v hj => by
    rw [Nat.zero_add]
    exact hI.2 j v (by rw [← hj, Array.getElem?_toList])
  unfold rowI
  rw [List.range_eq_range']
  exact this
end
section
variable {g h : Heap} {L' : Addr}
theorem fr_res {l : Addr} {x y : Str} {mx r : Int} {tx ty tm tr : Tok} {m₁ : Str → Option Value} (F : Fr g L' h m₁) (h2 : m₁ (S "result") = some (.int r tr))
    (h6 : m₁ (S "row") = some (.ref l)) (h7 : m₁ (S "a") = some (.str x tx)) (h8 : m₁ (S "b") = some (.str y ty)) (h9 : m₁ (S "max_cost") = some (.int mx tm)) : Fr g L' h (fun z => if z = S "result" then some (.int r tr) else frOut l x y mx tx ty tm m₁ z) := by
  have e : m₁ = (fun z => if z = S "result" then some (.int r tr) else frOut l x y mx tx ty tm m₁ z) := by
    funext z
    by_cases q2 : z = S "result"
    · subst q2; exact h2
    by_cases q6 : z = S "row"
    · subst q6; exact h6
    by_cases q7 : z = S "a"
    · subst q7; exact h7
    by_cases q8 : z = S "b"
    · subst q8; exact h8
    by_cases q9 : z = S "max_cost"
    · subst q9; exact h9
    simp only [frOut, q2, q6, q7, q8, q9, if_false]
  exact e ▸ F
end
noncomputable def lvTab (x y : Str) (mx : Int) : Int := match (rangeKs 0 y.length).foldl (lvRow x y mx) (some (rowI x.length, 0)) with | none => mx + 1 | some (_, r) => r
theorem tab_none {x y : Str} {mx : Int} (h : (rangeKs 0 y.length).foldl (lvRow x y mx) (some (rowI x.length, 0)) = none) : mx + 1 = lvTab x y mx := by
  unfold lvTab; rw [h]
theorem tab_some {x y : Str} {mx r : Int} {ns : List Int} (h : (rangeKs 0 y.length).foldl (lvRow x y mx) (some (rowI x.length, 0)) = some (ns, r)) : r = lvTab x y mx := by
  unfold lvTab; rw [h]
noncomputable def lvFin (x y : Str) (mx : Int) : Int := if mx < ((y.length : Int) - x.length) * 2 then mx + 1 else lvTab x y mx
noncomputable def lvRest (x y : Str) (mx : Int) : Int := if x.length = 0 ∨ y.length = 0 then 2 * ((x.length : Int) + y.length) else if 40 < x.length ∨ 40 < y.length then mx + 1 else if y.length < x.length then lvFin y x mx else lvFin x y mx
noncomputable def lvCut (x y : Str) (mx : Int) : Int := lvRest (lvSl x (lvPostOf x y)) (lvSl y (lvPostOf x y)) mx
noncomputable def levOf (x y : Str) (mx : Int) : Int := if (x == y) = true then 0 else lvCut (Txt.slice x (some (lvPreOf x y)) none) (Txt.slice y (some (lvPreOf x y)) none) mx
local macro_rules | `(tactic| walk_at "exec While") => `(tactic| (k_here; refine stopHere ?_))
local macro_rules | `(tactic| walk_at "pyIter ref") => `(tactic| (k_here; refine stopHere ?_))
local macro_rules | `(tactic| walk_at "subscriptTail Name Slice str ref") => `(tactic| walk_at "zd7")
local macro_rules | `(tactic| walk_at "call type:list") => `(tactic| (k_here; (with_reducible show wpAny _ _ (call (Value.type _) [Value.ref _]) _ _ _); (rename IsRange _ _ _ _ _ _ _ _ => R'); (rename Fr _ _ _ _ => F'); (rename News _ _ _ _ => N'); (with_unfolding_all refine list_row rfl F' N' R' rfl (by omega) ?_); intro _ _ _ _ _ _ _ _))
theorem fr_lv {g h : Heap} {L' : Addr} {x y : Str} {mx : Int} {tx ty tm : Tok} {m₁ : Str → Option Value} (F : Fr g L' h m₁) (h7 : m₁ (S "a") = some (.str x tx)) (h8 : m₁ (S "b") = some (.str y ty)) (h9 : m₁ (S "max_cost") = some (.int mx tm)) : Fr g L' h (fun z => if z = S "a" then some (.str x tx) else if z = S "b" then some (.str y ty) else if z = S "max_cost" then some (.int mx tm) else m₁ z) := by
  have e : m₁ = (fun z => if z = S "a" then some (.str x tx) else if z = S "b" then some (.str y ty) else if z = S "max_cost" then some (.int mx tm) else m₁ z) := by
    funext z
    by_cases q7 : z = S "a"
    · subst q7; exact h7
    by_cases q8 : z = S "b"
    · subst q8; exact h8
    by_cases q9 : z = S "max_cost"
    · subst q9; exact h9
    simp only [q7, q8, q9, if_false]
  exact e ▸ F
section
variable {w : World} {mean : ExcName → Option Value} {mg mb : Str → Option Value} {dp un : Nat} {gd : Option (List Code)} {cn : Str} {cs : Scope} {a : Addr} {ccd : Value} {cl : List (Str × Addr)} {outer : List Env} {A₀ : Around} {base g : Heap} {L L' : Addr} {s : Shared} {Q : Flow → Shared → Prop} {E : Value → Shared → Prop}
set_option maxHeartbeats 4000000 in
theorem lev_fin {x y : Str} {mx : Int} {tx ty tm : Tok} {u : Str → Option Value} (hd : dp + 2 < recursionLimit) (hu : un + 16 < cLine) (hp2 : mx.natAbs < 2 ^ 31) (B' : Below (ktrTop dp un gd cn cs L a ccd cl outer) base (envX cn cs L a ccd cl :: outer) g) (X' : (KF w.params).In g) (T' : Top viewQ LQ mean mg mb g) (hE : PassesOwn (model PySem.Challenge.rw_tl0038_01.row.prog w) ((ktrTop dp un gd cn cs L a ccd cl outer).deeper (envF (S "_levenshtein_distance") 18 L' 141 140)) (envF (S "_levenshtein_distance") 18 L' 141 140) E)
    (hx : x.length ≤ 40) (hy : y.length ≤ 40) (F : Fr g L' s.heap (fun z => if z = S "a" then some (.str x tx) else if z = S "b" then some (.str y ty) else if z = S "max_cost" then some (.int mx tm) else u z)) (N : News g L' s.heap [])
    (hr : ∀ (v : Int) (t : Tok) (h₂ : Heap) (tk' : Nat) (m' : Str → Option Value), v = lvFin x y mx → Fr g L' h₂ m' → Q (.ret (.int v t)) { s with heap := h₂, toks := tk' }) :
    wpAny (model PySem.Challenge.rw_tl0038_01.row.prog w) ((ktrTop dp un gd cn cs L a ccd cl outer).deeper (envF (S "_levenshtein_distance") 18 L' 141 140)) (execs ((fb 18).drop 12) (envF (S "_levenshtein_distance") 18 L' 141 140)) Q E s := by
  k_steps
  all_goals first
    | (refine hr _ _ _ _ _ ?_ (by k_asm)
       (simp only [lvFin])
       (repeat' split)
       all_goals first | omega | rfl)
    | (refine Stop.mk ?_
       rename Fr _ _ _ _ => Fc
       rename News _ _ _ _ => Nc
       rename IsRange _ _ _ _ _ _ _ _ => Rc
       have Fd := fr_res Fc rfl rfl rfl rfl rfl
       clear Fc
       refine out_loop (by omega) (by omega) (by omega) (by omega) (by assumption) (rowI_len _) hp2 B' X' T' Fd (fun p hp => Nc p (List.mem_cons.mpr (.inl (List.mem_singleton.mp hp)))) Rc hE ?_ ?_
       · intro t9 h9 tk9 m9 hf9 F9
         have N9 : News g L' h9 [] := News.nil
         k_steps
         refine hr _ _ _ _ _ ((tab_none hf9).trans ?_) F9
         (simp only [lvFin])
         (repeat' split)
         all_goals first | omega | rfl
       · intro ns9 r9 t9 h9 tk9 u9 hf9 F9
         have N9 : News g L' h9 [] := News.nil
         k_steps
         refine hr _ _ _ _ _ ((tab_some hf9).trans ?_) (by k_asm)
         (simp only [lvFin])
         (repeat' split)
         all_goals first | omega | rfl)
end
section
local macro_rules | `(tactic| walk_at "zz0") => `(tactic| skip)
local macro_rules | `(tactic| walk_at "execs cons") => `(tactic| (k_here; (with_reducible show wpAny _ _ (execs (Stmt.If (Expr.Compare (Expr.BinOp _ _ _ _) _ _ _) _ _ _ :: _) _) _ _ _); refine stopHere ?_))
variable {w : World} {mean : ExcName → Option Value} {mg mb : Str → Option Value} {dp un : Nat} {gd : Option (List Code)} {cn : Str} {cs : Scope} {a : Addr} {ccd : Value} {cl : List (Str × Addr)} {outer : List Env} {A₀ : Around} {base g : Heap} {L L' : Addr} {s : Shared} {Q : Flow → Shared → Prop} {E : Value → Shared → Prop}
set_option maxHeartbeats 4000000 in
theorem lev_rest {x y : Str} {mx : Int} {tx ty tm : Tok} {u : Str → Option Value} (hd : dp + 2 < recursionLimit) (hu : un + 16 < cLine) (hp2 : mx.natAbs < 2 ^ 31) (B' : Below (ktrTop dp un gd cn cs L a ccd cl outer) base (envX cn cs L a ccd cl :: outer) g) (X' : (KF w.params).In g) (T' : Top viewQ LQ mean mg mb g) (hE : PassesOwn (model PySem.Challenge.rw_tl0038_01.row.prog w) ((ktrTop dp un gd cn cs L a ccd cl outer).deeper (envF (S "_levenshtein_distance") 18 L' 141 140)) (envF (S "_levenshtein_distance") 18 L' 141 140) E)
    (hx : x.length < 2 ^ 16) (hy : y.length < 2 ^ 16) (F : Fr g L' s.heap (fun z => if z = S "a" then some (.str x tx) else if z = S "b" then some (.str y ty) else if z = S "max_cost" then some (.int mx tm) else u z)) (N : News g L' s.heap [])
    (hr : ∀ (v : Int) (t : Tok) (h₂ : Heap) (tk' : Nat) (m' : Str → Option Value), v = lvRest x y mx → Fr g L' h₂ m' → Q (.ret (.int v t)) { s with heap := h₂, toks := tk' }) :
    wpAny (model PySem.Challenge.rw_tl0038_01.row.prog w) ((ktrTop dp un gd cn cs L a ccd cl outer).deeper (envF (S "_levenshtein_distance") 18 L' 141 140)) (execs ((fb 18).drop 9) (envF (S "_levenshtein_distance") 18 L' 141 140)) Q E s := by
  k_steps
  all_goals first
    | (refine hr _ _ _ _ _ ?_ (by k_asm)
       (simp only [lvRest])
       (repeat' split)
       all_goals first | omega | rfl)
    | (refine Stop.mk ?_
       rename Fr _ _ _ _ => Fc
       refine lev_fin hd hu hp2 B' X' T' hE (by omega) (by omega) (fr_lv Fc rfl rfl rfl) News.nil ?_
       intro v t h₂ tk m₂ e F₂
       refine hr _ _ _ _ _ (e.trans ?_) F₂
       (simp only [lvRest])
       (repeat' split)
       all_goals first | omega | rfl)
end
local macro_rules | `(tactic| walk_at "zz0") => `(tactic| skip)
local macro_rules | `(tactic| walk_at "zz1") => `(tactic| skip)
local macro_rules | `(tactic| walk_at "zz2") => `(tactic| skip)
local macro_rules | `(tactic| walk_at "execs cons") => `(tactic| (k_here; (with_reducible show wpAny _ _ (execs (Stmt.If (Expr.BoolOp BoolOp.Or _ _) _ _ _ :: _) _) _ _ _); refine stopHere ?_))
set_option maxHeartbeats 4000000
section
variable {w : World} {mean : ExcName → Option Value} {mg mb : Str → Option Value} {dp un : Nat} {gd : Option (List Code)} {cn : Str} {cs : Scope} {a : Addr} {ccd : Value} {cl : List (Str × Addr)} {outer : List Env} {A₀ : Around} {base h₀ : Heap} {L : Addr} {m : Str → Option Value} {s : Shared} {Q E : Value → Shared → Prop} {news : Led}
theorem con_lev {x y : Str} {mx : Int} {tx ty tm : Tok} (B : Below A₀ base outer h₀) (F : Fr h₀ L s.heap m) (X : (KF w.params).In h₀) (N : News h₀ L s.heap news) (T : Top viewQ LQ mean mg mb h₀) (hk : cs.kind = .function) (hp0 : x.length < 2 ^ 16) (hp1 : y.length < 2 ^ 16) (hp2 : mx.natAbs < 2 ^ 31) (hd : dp + 3 < recursionLimit) (hu : un + 24 < cLine)
    (hret : ∀ (t : Tok) (h' : Heap) (tk' : Nat), Fr h₀ L h' m → News h₀ L h' news → s.toks ≤ tk' → Q (.int (levOf x y mx) t) { s with heap := h', toks := tk' }) :
    wpAny (model PySem.Challenge.rw_tl0038_01.row.prog w) (ktrTop dp un gd cn cs L a ccd cl outer) (call (.ref 141) [.str x tx, .str y ty, .int mx tm]) Q E s := by
  k_dflt (refine' entN (binds := [(S "a", Value.str x tx), (S "b", Value.str y ty), (S "max_cost", Value.int mx tm)]) ?k1 ?k2 ?k3 ?k4 ?k5 ?kA ?kF ?kK ?k6 ?k7 ?k8 ?k9 ?kB ?kG ?c2 ?c3 ?c4 ?c5; (case kA => exact rfl); (case kF => exact rfl); (case kK => assumption); (case k1 => k_asm); (case k2 => k_asm); (case k3 => k_asm); (case k4 => k_asm); (case k5 => k_asm); (case k6 => k_is); (case k7 => k_is); (case k8 => first | exact Nat.lt_of_le_of_lt (Nat.le_add_right _ _) hd | ktr_room); (case k9 => exact BindsTo.of_eq rfl); (case c5 => decide); (case kB => exact locs rfl); (case c2 => exact rfl); (case c3 => exact rfl); (case c4 => exact rfl))
  intro Q' hq g' L' h' FG' NG' GS' F' N' B' X' T'
  have hr : ∀ (v : Int) (t : Tok) (h₂ : Heap) (tk' : Nat), v = levOf x y mx → Q' (.int v t) { s with heap := h₂, toks := tk' } := fun v t h₂ tk' e => hq _ _ fun F N l _ => by subst e; exact hret t h₂ tk' F N l
  clear hq hret
  k_whole
  dsimp only [List.reverse, List.reverseAux, List.length] at F'
  dsimp only [List.length]
  (try k_fold)
  k_steps
  · exact hr _ _ _ _ (if_pos (by assumption)).symm
  refine Stop.mk ?_
  refine lev_pre_loop (own := []) (by omega) (by omega) hp0 hp1 B' X' T' (by assumption) (by assumption) (by passes_own) ?_
  intro h1 tk1 t1 e0 e1 F1 N1
  have hne : ¬ (x == y) = true := by
    have hh : (x == y) = false := by assumption
    rw [hh]; decide
  have hv : levOf x y mx = lvCut (Txt.slice x (some (lvPreOf x y)) none) (Txt.slice y (some (lvPreOf x y)) none) mx := if_neg hne
  rw [hv] at hr
  clear hv hne
  have lx := Txt.slice_le x (some (lvPreOf x y)) none
  have ly := Txt.slice_le y (some (lvPreOf x y)) none
  generalize lvPreOf x y = p at *
  k_steps
  refine Stop.mk ?_
  generalize Txt.slice x (some p) none = x1 at *
  generalize Txt.slice y (some p) none = y1 at *
  refine lev_post_loop (x := x1) (y := y1) (own := []) (by omega) (by omega) (by omega) (by omega) B' X' T' (by assumption) (by assumption) (by passes_own) ?_
  intro h2 tk2 t2 q0 q1 q2 F2 N2
  unfold lvCut at hr
  generalize lvPostOf x1 y1 = q at *
  by_cases hq : q = 0
  · subst hq
    rw [lvSl0, lvSl0] at hr
    k_steps
    all_goals
      (refine Stop.mk ?_
       rename Fr _ _ _ _ => Fc
       refine lev_rest (by omega) (by omega) hp2 B' X' T' (by passes_own) (by omega) (by omega) (fr_lv Fc rfl rfl rfl) News.nil ?_
       intro v9 t9 h9 tk9 m9 e9 F9
       have N9 : News g' L' h9 [] := News.nil
       dsimp only
       k_steps
       exact hr _ _ _ _ e9)
  · have nx := slice_neg_len x1 q (by omega) q1
    have ny := slice_neg_len y1 q (by omega) q2
    have ex : lvSl x1 q = Txt.slice x1 none (some q) := if_neg hq
    have ey : lvSl y1 q = Txt.slice y1 none (some q) := if_neg hq
    rw [ex, ey] at hr
    clear ex ey
    k_steps
    all_goals try (exfalso; omega)
    all_goals
      (refine Stop.mk ?_
       rename Fr _ _ _ _ => Fc
       refine lev_rest (by omega) (by omega) hp2 B' X' T' (by passes_own) (by omega) (by omega) (fr_lv Fc rfl rfl rfl) News.nil ?_
       intro v9 t9 h9 tk9 m9 e9 F9
       have N9 : News g' L' h9 [] := News.nil
       dsimp only
       k_steps
       exact hr _ _ _ _ e9)
end
end Mine
end
section
open PySem PySem.W PyProof.Rows PySem.Spec
namespace Mine
/-- what the turns over a list still owe, one turn after the other; the ground may turn -/
noncomputable def URest (prog : Program) (w : World) (A : Around) (E : Value → Shared → Prop) (env : Env) (x : Str) (body : List Stmt) (Q : Flow → Shared → Prop) (s : Shared) (I l : Addr) (lo : Obj) : List Value → Heap → (Str → Option Value) → Led → Prop
  | [], g, m, news => ∀ h tk, Fr g env.locals h m → News g env.locals h news → Q .next { s with heap := h, toks := tk }
  | v :: vs, g, m, news => ∀ h tk o, Fr g env.locals h (fun y => if y = x then some v else m y) → News g env.locals h ((I, o) :: news) → s.toks ≤ tk → wpAny (model prog w) A (execs body env)
      (fun f s' => match f with
        | .ret v => Q (.ret v) s'
        | .brk => Q .next s'
        | _ => ∃ g' m' news' h' tk', s' = { s with heap := h', toks := tk' } ∧ Fr g' env.locals h' m' ∧ News g' env.locals h' ((I, o) :: news') ∧ h'.get? l = some lo ∧ (∀ p ∈ news', p.1 ≠ I) ∧ URest prog w A E env x body Q s I l lo vs g' m' news')
      E { s with heap := h, toks := tk }
section
variable {prog : Program} {w : World} {A : Around} {E : Value → Shared → Prop} {s : Shared} {env : Env}
theorem forU {Q : Flow → Shared → Prop} {x : Str} {px : Pos} {body : List Stmt} {I l : Addr} {lo : Obj} {vs : List Value} {n : Nat} {g₀ : Heap} {m₀ : Str → Option Value} {news₀ : Led} (hE : PassesOwn (model prog w) A env E) (hh : A.handled = none) (hx : env.kindOf x = some .local)
    (hp : (env.scope.kind == .class || (env.scope.kind == .module && env.locals != env.globals)) = false) (hc : lo.cls = .type "list") (hd : lo.data = .seq vs.toArray n) (hIl : l ≠ I)
    (hit : s.heap.IsListIter I l 0) (hl : s.heap.get? l = some lo) (F₀ : Fr g₀ env.locals s.heap m₀) (N₀ : News g₀ env.locals s.heap news₀) (hI₀ : g₀.get? I = none) (hIL : I ≠ env.locals) (hlL : l ≠ env.locals) (hoff₀ : ∀ p ∈ news₀, p.1 ≠ I)
    {s0 : Shared} {tk0 : Nat} (hs0 : s = { s0 with heap := s.heap, toks := tk0 }) (ht0 : s0.toks ≤ tk0)
    (rest : URest prog w A E env x body Q s0 I l lo vs g₀ m₀ news₀) :
    codeAny (model prog w) A (.forLoop (.Name x px) (.ref I) body [] env) (fun r s' => match r with | .ok f => Q f s' | .error e => cameBackBy (model prog w) A env E e s') s := by
  have W := Walks.list (prog := prog) (w := w) hh I l hIl vs.toArray
  refine codeAny_forLoop
    (fun k s' => ∃ i g m news h tk, s' = { s0 with heap := h, toks := tk } ∧ s0.toks ≤ tk ∧ h.IsListIter I l i ∧ h.get? l = some lo ∧ Fr g env.locals h m ∧ News g env.locals h news ∧ g.get? I = none ∧ (∀ p ∈ news, p.1 ≠ I) ∧ URest prog w A E env x body Q s0 I l lo (vs.drop i) g m news ∧ i ≤ vs.length ∧ k = vs.length + 1 - i) ?_ (vs.length + 1)
    ⟨0, g₀, m₀, news₀, s.heap, tk0, hs0, ht0, hit, hl, F₀, N₀, hI₀, hoff₀, rest, Nat.zero_le _, rfl⟩
  rintro k s' ⟨i, g, m, news, h, tk, rfl, htk, hit', hl', F, N, hI, hoff, hrest, hi, rfl⟩
  have hL : h.IsList l vs.toArray := ⟨lo, hl', hc, n, hd⟩
  by_cases hlt : i < vs.length
  · refine wpAny_toks (W.item i _ _ _ (by simpa using hlt) ⟨hit', hL⟩ fun v h₁ tk₁ hv hst hk htk₁ => ?_)
    replace htk₁ : tk ≤ tk₁ := htk₁
    have hv' : vs[i]? = some v := by simpa using hv
    have hdrop : vs.drop i = v :: vs.drop (i + 1) := by
      rw [List.drop_eq_getElem_cons hlt]
      congr 1
      exact Option.some.inj ((List.getElem?_eq_getElem hlt).symm.trans hv')
    rw [hdrop] at hrest
    have F₁ : Fr g env.locals h₁ m := ⟨F.ns.at' fun o e => hk _ o (fun q => hIL ((List.mem_singleton.mp q).symm)) e, fun b o e => hk b o (fun q => by rw [List.mem_singleton.mp q, hI] at e; cases e) (F.keep b o e), F.above⟩
    have N₁ : News g env.locals h₁ news := fun p hp => ⟨hk _ _ (fun q => hoff p hp (List.mem_singleton.mp q)) (N p hp).1, (N p hp).2⟩
    have hl₁ : h₁.get? l = some lo := hk _ _ (fun q => hIl (List.mem_singleton.mp q)) hl'
    refine wpAny_assign_Name (wpAny_storeName_local hx F₁.ns (fun h₂ hn₂ hs₂ => ?_) hp)
    have F₂ := F₁.set hn₂ hs₂
    have N₂ : News g env.locals h₂ news := fun p hp => ⟨(hs₂.2 p.1 (N p hp).2.1).trans (N₁ p hp).1, (N p hp).2⟩
    have hl₂ : h₂.get? l = some lo := (hs₂.2 l hlL).trans hl₁
    have hst₂ := W.frame (i + 1) h₁ h₂ hst (fun b hb o e => by
      have hbL : b ≠ env.locals := by
        rcases List.mem_cons.mp hb with q | q
        · rw [q]; exact hIL
        · rw [List.mem_singleton.mp q]; exact hlL
      exact (hs₂.2 b hbL).trans e)
    obtain ⟨o, ho, hoc, hod⟩ := id hst₂.1
    have N₃ : News g env.locals h₂ ((I, o) :: news) := fun p hp => (List.mem_cons.mp hp).elim (fun q => by rw [q]; exact ⟨ho, hIL, hI⟩) (N₂ p)
    refine wpAny_mono (wpAny_toks (wpAny_mono (wpAny_passesOwn hE (hrest h₂ (tk₁ + 1) o F₂ N₃ (by omega))) (fun f s₃ h₃ l₃ => (⟨h₃, l₃⟩ : _ ∧ _)) fun _ _ e => e)) (fun f s₃ h₃ => ?_) fun _ _ e => e
    obtain ⟨h₃, l₃⟩ := h₃
    have fin : (∃ g' m' news' h' tk', s₃ = { s0 with heap := h', toks := tk' } ∧ Fr g' env.locals h' m' ∧ News g' env.locals h' ((I, o) :: news') ∧ h'.get? l = some lo ∧ (∀ p ∈ news', p.1 ≠ I) ∧ URest prog w A E env x body Q s0 I l lo (vs.drop (i + 1)) g' m' news') →
        ∃ k, k < vs.length + 1 - i ∧ ∃ i g m news h tk, s₃ = { s0 with heap := h, toks := tk } ∧ s0.toks ≤ tk ∧ h.IsListIter I l i ∧ h.get? l = some lo ∧ Fr g env.locals h m ∧ News g env.locals h news ∧ g.get? I = none ∧ (∀ p ∈ news, p.1 ≠ I) ∧ URest prog w A E env x body Q s0 I l lo (vs.drop i) g m news ∧ i ≤ vs.length ∧ k = vs.length + 1 - i := by
      rintro ⟨g', m', news', h', tk', rfl, F', N', hl', hoff', hr'⟩
      have l₄ : tk₁ + 1 ≤ tk' := l₃
      have hI' := N' _ (.head _)
      exact ⟨_, by omega, i + 1, g', m', news', h', tk', rfl, by omega, ⟨o, hI'.1, hoc, hod⟩, hl', F', fun p hp => N' p (.tail _ hp), hI'.2.2, hoff', hr', hlt, rfl⟩
    cases f with
    | ret v => exact h₃
    | brk => exact h₃
    | cont => exact fin h₃
    | next => exact fin h₃
  · have hsz : i = vs.length := Nat.le_antisymm hi (Nat.le_of_not_lt hlt)
    subst hsz
    refine W.done _ _ _ (by simpa using ⟨hit', hL⟩) fun h₁ tk₁ hk => ?_
    rw [List.drop_length] at hrest
    refine wpAny_execs_nil (hrest h₁ tk₁ ?_ ?_)
    · exact ⟨F.ns.at' fun o e => hk _ o (fun q => hIL ((List.mem_singleton.mp q).symm)) e, fun b o e => hk b o (fun q => by rw [List.mem_singleton.mp q, hI] at e; cases e) (F.keep b o e), F.above⟩
    · exact fun p hp => ⟨hk _ _ (fun q => hoff p hp (List.mem_singleton.mp q)) (N p hp).1, (N p hp).2⟩
structure UAt (prog : Program) (w : World) (A : Around) (E : Value → Shared → Prop) (env : Env) (x : Str) (body : List Stmt) (Q : Flow → Shared → Prop) (xv : Value) (s : Shared) : Prop where
  out : ∃ (l : Addr) (lo : Obj) (vs : List Value) (n : Nat) (g : Heap) (m : Str → Option Value) (news : Led), xv = .ref l ∧ lo.cls = .type "list" ∧ lo.data = .seq vs.toArray n ∧ s.heap.get? l = some lo ∧ l ≠ env.locals ∧ Fr g env.locals s.heap m ∧ News g env.locals s.heap news ∧
    ∀ I, I = s.heap.objs.size → (∀ p ∈ news, p.1 ≠ I) → URest prog w A E env x body Q s I l lo vs g m news
theorem For_U {Q : Flow → Shared → Prop} {x : Str} {px pos : Pos} {iter : Expr} {body : List Stmt} (hh : A.handled = none) (hx : env.kindOf x = some .local)
    (hp : (env.scope.kind == .class || (env.scope.kind == .module && env.locals != env.globals)) = false)
    (h : wpAny (model prog w) A (eval iter env) (fun xv s₁ => UAt prog w A E env x body Q xv s₁) E s)
    (hs : ∀ x, foldedSetIterable iter env x = pure x := by intro _; rfl)
    (hE : PassesOwn (model prog w) A env E := by passes_own) :
    wpAny (model prog w) A (exec (.For (.Name x px) iter body [] pos) env) Q E s := by
  refine wpAny_For (wpAny_mono h (fun xv s₁ h₁ => ?_) fun _ _ e => e) hs
  obtain ⟨l, lo, vs, n, g, m, news, rfl, hc, hd, hl, hlL, F, N, rest⟩ := h₁
  have hli : l ≠ s₁.heap.objs.size := Nat.ne_of_lt (Heap.lt_size hl)
  have hof : ∀ p ∈ news, p.1 ≠ s₁.heap.objs.size := fun p hp => Nat.ne_of_lt (Heap.lt_size (N p hp).1)
  refine wpAny_pyIter_list ⟨lo, hl, hc, n, hd⟩ ?_
  exact forU (s0 := s₁) (tk0 := s₁.toks) hE hh hx hp hc hd hli ⟨_, Heap.get?_push_size _ rfl, rfl, rfl⟩ (Heap.get?_push_of_some _ hl) (F.push _) (fun p hp => ⟨Heap.get?_push_of_some _ (N p hp).1, (N p hp).2⟩) (next_is_new F) (Nat.ne_of_gt F.ns.lt) hlL hof rfl (Nat.le_refl _) (rest _ rfl hof)
end
end Mine
end
section
open PySem PySem.W PyProof.Rows
namespace Mine
set_option hygiene false in
local macro_rules | `(tactic| walk_at "call ref") => `(tactic| walk_at "zd8")
set_option hygiene false in
local macro_rules | `(tactic| walk_at "call ref") => `(tactic| (k_here; (with_reducible show wpAny _ _ (call (Value.ref 141) [Value.str _ _, Value.str _ _, Value.int _ _]) _ _ _); k_dflt (refine' con_lev ?B ?F ?X ?N ?T ?hk ?p0 ?p1 ?p2 ?hd ?hu ?_); walk_at "zB"; (case p0 => omega); (case p1 => omega); (case p2 => omega); walk_at "zI"))
noncomputable abbrev WiSt := Str × Str × Int × Int × Int
noncomputable def wiStep (d : Int) (st : WiSt) : WiSt := if d.fmod 2 = 0 then (st.1, st.1 ++ st.2.1, st.2.2.1, st.2.2.2.2, 3 * st.2.2.1 * st.2.2.2.2 - st.2.2.2.1) else (st.2.1 ++ st.1, st.2.1, st.2.2.2.2, st.2.2.2.1, 3 * st.2.2.2.1 * st.2.2.2.2 - st.2.2.1)
noncomputable def wiB (d : Int) : Int := (d.fdiv 258048).fmod 8 - 2
noncomputable def WiOk (d : Int) (st : WiSt) : Prop := st.1.length ≤ 16 ∧ st.2.1.length ≤ 16 ∧ st.2.2.1.natAbs < 2 ^ 31 ∧ st.2.2.2.1.natAbs < 2 ^ 31 ∧ st.2.2.2.2.natAbs < 2 ^ 31 ∧
  (1 < wiB d → levOf (st.1 ++ st.2.1) (st.2.1 ++ st.1) (wiB d) = 4) ∧ (¬ 1 < wiB d → levOf (st.1 ++ st.2.1) (st.2.1 ++ st.1) (wiB d) = wiB d + 1)
theorem fm8 (x : Int) : 0 ≤ x.fmod 8 ∧ x.fmod 8 < 8 := ⟨Int.fmod_nonneg_of_pos _ (by decide), Int.fmod_lt_of_pos _ (by decide)⟩
theorem pick4 {g h : Heap} {L : Addr} {a b c d e f : Addr × Obj} (N : News g L h [a, b, c, d, e, f]) : News g L h [e, f, b, a] := fun p hp => N p (by
  simp only [List.mem_cons, List.not_mem_nil, or_false] at hp ⊢
  rcases hp with rfl | rfl | rfl | rfl <;> simp)
section
variable {w : World} {mean : ExcName → Option Value} {mg mb : Str → Option Value} {dp un : Nat} {gd : Option (List Code)} {cn : Str} {cs : Scope} {a : Addr} {ccd : Value} {cl : List (Str × Addr)} {outer : List Env} {A₀ : Around} {base g : Heap} {L L' : Addr} {s : Shared} {Q : Flow → Shared → Prop} {E : Value → Shared → Prop}
noncomputable abbrev frWi (lp ln ld : Addr) (u : Str → Option Value) : Str → Option Value := fun z => if z = S "pair" then some (.ref lp) else if z = S "numbers" then some (.ref ln) else if z = S "draws" then some (.ref ld) else u z
set_option maxHeartbeats 2000000 in
theorem wi_turn {lp ln ld : Addr} {p0 p1 : Str} {n0 n1 n2 k : Int} {ds : List Int} {us : List Value} {t0 t1 t2 t3 t4 t : Tok} {u : Str → Option Value} {ip iN : Nat} {I lx : Addr} {io xo : Obj} (hd : dp + 4 < recursionLimit) (hu : un + 32 < cLine)
    (hok : WiOk (ds.getD k.toNat 0) (p0, p1, n0, n1, n2)) (hk0 : 0 ≤ k) (hk1 : k < ds.length) (hk2 : ds.length = 4)
    (hdr : g.IsList ld us.toArray) (hi : IntsAre us ds)
    (B' : Below (ktrTop dp un gd cn cs L a ccd cl outer) base (envX cn cs L a ccd cl :: outer) g) (X' : (KF w.params).In g) (T' : Top viewQ LQ mean mg mb g)
    (F : Fr g L' s.heap (fun z => if z = S "k" then some (.int k t) else frWi lp ln ld u z))
    (N : News g L' s.heap ((lp, W.listOf #[.str p0 t0, .str p1 t1] ip) :: (ln, W.listOf #[.int n0 t2, .int n1 t3, .int n2 t4] iN) :: [(I, io), (lx, xo)]))
    (hr : ∀ (m' : Str → Option Value) (lp' ln' : Addr) (v0 v1 v2 v3 v4 : Tok) h' tk (x : WiSt), x = wiStep (ds.getD k.toNat 0) (p0, p1, n0, n1, n2) → m' (S "pair") = some (.ref lp') → m' (S "numbers") = some (.ref ln') → m' (S "draws") = some (.ref ld) → Fr g L' h' m' →
      News g L' h' [(I, io), (lx, xo), (lp', W.listOf #[.str x.1 v0, .str x.2.1 v1] 0), (ln', W.listOf #[.int x.2.2.1 v2, .int x.2.2.2.1 v3, .int x.2.2.2.2 v4] 0)] → lp' ≠ I → ln' ≠ I → Q .next { s with heap := h', toks := tk }) :
    wpAny (model PySem.Challenge.rw_tl0038_01.row.prog w) ((ktrTop dp un gd cn cs L a ccd cl outer).deeper (envF (S "_law_from_within") 28 L' 204 203)) (execs (lpBody 28 2) (envF (S "_law_from_within") 28 L' 204 203)) Q E s := by
  obtain ⟨hl0, hl1, hn0, hn1, hn2, hg1, hg2⟩ := hok
  have hb0 := (fm8 ((ds.getD k.toNat 0).fdiv 258048)).1
  have hb1 := (fm8 ((ds.getD k.toNat 0).fdiv 258048)).2
  dsimp only [wiB] at hl0 hl1 hn0 hn1 hn2 hg1 hg2
  have hla : (p0 ++ p1).length = p0.length + p1.length := length_app _ _
  have hlb : (p1 ++ p0).length = p1.length + p0.length := length_app _ _
  have hdr' : s.heap.IsList ld us.toArray := by
    obtain ⟨o, h1, h2, h3⟩ := hdr
    exact ⟨o, F.keep _ _ h1, h2, h3⟩
  have hw1 := Stop.mk hg1
  have hw2 := Stop.mk hg2
  clear hg1 hg2
  have hm0 : -2 ^ 64 < n0 ∧ n0 < 2 ^ 64 := ⟨by clear hb0 hb1 hla hlb; omega, by clear hb0 hb1 hla hlb; omega⟩
  have hm1 : -2 ^ 64 < n1 ∧ n1 < 2 ^ 64 := ⟨by clear hb0 hb1 hla hlb; omega, by clear hb0 hb1 hla hlb; omega⟩
  have hm2 : -2 ^ 64 < n2 ∧ n2 < 2 ^ 64 := ⟨by clear hb0 hb1 hla hlb; omega, by clear hb0 hb1 hla hlb; omega⟩
  k_steps
  all_goals first
    | exact absurd (hw1.out (by assumption)) (by assumption)
    | exact absurd (hw2.out (by assumption)) (by assumption)
    | skip
  all_goals (by_cases hev : (ds.getD k.toNat 0).fmod 2 = 0)
  all_goals first
    | contradiction
    | exact absurd hev (by assumption)
    | skip
  all_goals (rename News _ _ _ _ => Nc)
  all_goals first
    | exact hr _ _ _ _ _ _ _ _ _ _ (_, _, _, _, _) (if_neg hev).symm rfl rfl rfl (by k_asm) (pick4 Nc) (Nat.ne_of_gt (by first | (rename @LT.lt Nat _ _ _ ∧ _ => lz; first | exact lz.1 | exact lz.2.1 | exact lz.2.2.1 | exact lz.2.2.2.1 | exact lz.2.2.2.2.1 | exact lz.2.2.2.2.2.1 | exact lz.2.2.2.2.2) | (rename @LT.lt Nat _ _ _ ∧ _ => lz; clear lz; rename @LT.lt Nat _ _ _ ∧ _ => lz; first | exact lz.1 | exact lz.2.1 | exact lz.2.2.1 | exact lz.2.2.2.1 | exact lz.2.2.2.2.1 | exact lz.2.2.2.2.2.1 | exact lz.2.2.2.2.2) | omega)) (Nat.ne_of_gt (by first | (rename @LT.lt Nat _ _ _ ∧ _ => lz; first | exact lz.1 | exact lz.2.1 | exact lz.2.2.1 | exact lz.2.2.2.1 | exact lz.2.2.2.2.1 | exact lz.2.2.2.2.2.1 | exact lz.2.2.2.2.2) | (rename @LT.lt Nat _ _ _ ∧ _ => lz; clear lz; rename @LT.lt Nat _ _ _ ∧ _ => lz; first | exact lz.1 | exact lz.2.1 | exact lz.2.2.1 | exact lz.2.2.2.1 | exact lz.2.2.2.2.1 | exact lz.2.2.2.2.2.1 | exact lz.2.2.2.2.2) | omega))
    | exact hr _ _ _ _ _ _ _ _ _ _ (_, _, _, _, _) (if_pos hev).symm rfl rfl rfl (by k_asm) (pick4 Nc) (Nat.ne_of_gt (by first | (rename @LT.lt Nat _ _ _ ∧ _ => lz; first | exact lz.1 | exact lz.2.1 | exact lz.2.2.1 | exact lz.2.2.2.1 | exact lz.2.2.2.2.1 | exact lz.2.2.2.2.2.1 | exact lz.2.2.2.2.2) | (rename @LT.lt Nat _ _ _ ∧ _ => lz; clear lz; rename @LT.lt Nat _ _ _ ∧ _ => lz; first | exact lz.1 | exact lz.2.1 | exact lz.2.2.1 | exact lz.2.2.2.1 | exact lz.2.2.2.2.1 | exact lz.2.2.2.2.2.1 | exact lz.2.2.2.2.2) | omega)) (Nat.ne_of_gt (by first | (rename @LT.lt Nat _ _ _ ∧ _ => lz; first | exact lz.1 | exact lz.2.1 | exact lz.2.2.1 | exact lz.2.2.2.1 | exact lz.2.2.2.2.1 | exact lz.2.2.2.2.2.1 | exact lz.2.2.2.2.2) | (rename @LT.lt Nat _ _ _ ∧ _ => lz; clear lz; rename @LT.lt Nat _ _ _ ∧ _ => lz; first | exact lz.1 | exact lz.2.1 | exact lz.2.2.1 | exact lz.2.2.2.1 | exact lz.2.2.2.2.1 | exact lz.2.2.2.2.2.1 | exact lz.2.2.2.2.2) | omega))
end
section
variable {g h : Heap} {L' : Addr}
theorem fr_wi {lp ln ld : Addr} {k : Int} {t : Tok} {m₁ : Str → Option Value} (F : Fr g L' h (fun y => if y = S "k" then some (.int k t) else m₁ y)) (h2 : m₁ (S "pair") = some (.ref lp)) (h3 : m₁ (S "numbers") = some (.ref ln)) (h4 : m₁ (S "draws") = some (.ref ld)) :
    Fr g L' h (fun z => if z = S "k" then some (.int k t) else frWi lp ln ld m₁ z) := by
  have e : m₁ = frWi lp ln ld m₁ := by
    funext z
    by_cases q2 : z = S "pair"
    · subst q2; exact h2
    by_cases q3 : z = S "numbers"
    · subst q3; exact h3
    by_cases q4 : z = S "draws"
    · subst q4; exact h4
    simp only [frWi, q2, q3, q4, if_false]
  rw [e] at F
  exact F
theorem fr_wiE {lp ln ld : Addr} {m₁ : Str → Option Value} (F : Fr g L' h m₁) (h2 : m₁ (S "pair") = some (.ref lp)) (h3 : m₁ (S "numbers") = some (.ref ln)) (h4 : m₁ (S "draws") = some (.ref ld)) :
    Fr g L' h (frWi lp ln ld m₁) := by
  have e : m₁ = frWi lp ln ld m₁ := by
    funext z
    by_cases q2 : z = S "pair"
    · subst q2; exact h2
    by_cases q3 : z = S "numbers"
    · subst q3; exact h3
    by_cases q4 : z = S "draws"
    · subst q4; exact h4
    simp only [frWi, q2, q3, q4, if_false]
  exact e ▸ F
end
theorem swap_wi {a b c : Addr × Obj} {g h : Heap} {L : Addr} (N : News g L h [a, b, c]) : News g L h [a, c, b] := fun p hp => N p (by
  simp only [List.mem_cons, List.not_mem_nil, or_false] at hp ⊢
  rcases hp with rfl | rfl | rfl <;> simp)
theorem pick_wi {a b c d : Addr × Obj} {g h : Heap} {L : Addr} (N : News g L h [a, b, c, d]) : News g L h [a, c, d] := fun p hp => N p (by
  simp only [List.mem_cons, List.not_mem_nil, or_false] at hp ⊢
  rcases hp with rfl | rfl | rfl <;> simp)
theorem perm_wi {a b c d : Addr × Obj} {g h : Heap} {L : Addr} (N : News g L h [a, b, c, d]) : News g L h [c, d, a, b] := fun p hp => N p (by
  simp only [List.mem_cons, List.not_mem_nil, or_false] at hp ⊢
  rcases hp with rfl | rfl | rfl | rfl <;> simp)
section
variable {w : World} {mean : ExcName → Option Value} {mg mb : Str → Option Value} {dp un : Nat} {gd : Option (List Code)} {cn : Str} {cs : Scope} {a : Addr} {ccd : Value} {cl : List (Str × Addr)} {outer : List Env} {A₀ : Around} {base g : Heap} {L L' : Addr} {s : Shared} {Q : Flow → Shared → Prop} {E : Value → Shared → Prop}
theorem wi_step {I lx lp ln ld : Addr} {lo : Obj} {st : WiSt} {k : Int} {ds : List Int} {us vs : List Value} {t0 t1 t2 t3 t4 t : Tok} {m : Str → Option Value} {ip iN : Nat} (hd : dp + 4 < recursionLimit) (hu : un + 32 < cLine)
    (hok : WiOk (ds.getD k.toNat 0) st) (hk0 : 0 ≤ k) (hk1 : k < ds.length) (hk2 : ds.length = 4)
    (hdr : g.IsList ld us.toArray) (hi : IntsAre us ds)
    (B' : Below (ktrTop dp un gd cn cs L a ccd cl outer) base (envX cn cs L a ccd cl :: outer) g) (X' : (KF w.params).In g) (T' : Top viewQ LQ mean mg mb g)
    (hm1 : m (S "pair") = some (.ref lp)) (hm2 : m (S "numbers") = some (.ref ln)) (hm3 : m (S "draws") = some (.ref ld)) (hxI : lx ≠ I)
    (next : ∀ (m' : Str → Option Value) (lp' ln' : Addr) (v0 v1 v2 v3 v4 : Tok) (x : WiSt), x = wiStep (ds.getD k.toNat 0) st → m' (S "pair") = some (.ref lp') → m' (S "numbers") = some (.ref ln') → m' (S "draws") = some (.ref ld) →
      URest PySem.Challenge.rw_tl0038_01.row.prog w ((ktrTop dp un gd cn cs L a ccd cl outer).deeper (envF (S "_law_from_within") 28 L' 204 203)) E (envF (S "_law_from_within") 28 L' 204 203) (S "k") (lpBody 28 2) Q s I lx lo vs g m'
        [(lx, lo), (lp', W.listOf #[.str x.1 v0, .str x.2.1 v1] 0), (ln', W.listOf #[.int x.2.2.1 v2, .int x.2.2.2.1 v3, .int x.2.2.2.2 v4] 0)]) :
    URest PySem.Challenge.rw_tl0038_01.row.prog w ((ktrTop dp un gd cn cs L a ccd cl outer).deeper (envF (S "_law_from_within") 28 L' 204 203)) E (envF (S "_law_from_within") 28 L' 204 203) (S "k") (lpBody 28 2) Q s I lx lo (.int k t :: vs) g m
        [(lx, lo), (lp, W.listOf #[.str st.1 t0, .str st.2.1 t1] ip), (ln, W.listOf #[.int st.2.2.1 t2, .int st.2.2.2.1 t3, .int st.2.2.2.2 t4] iN)] := by
  intro h tk o F N ht
  refine wi_turn (s := { s with heap := h, toks := tk }) hd hu hok hk0 hk1 hk2 hdr hi B' X' T' (fr_wi F hm1 hm2 hm3) (perm_wi N) ?_
  intro m' lp' ln' v0 v1 v2 v3 v4 h' tk' x hx e1 e2 e3 F' N' n1 n2
  refine ⟨g, m', _, h', tk', rfl, F', N', (N' _ (.tail _ (.head _))).1, ?_, next m' lp' ln' v0 v1 v2 v3 v4 x hx e1 e2 e3⟩
  intro p hp
  rcases List.mem_cons.mp hp with rfl | hp
  · exact hxI
  rcases List.mem_cons.mp hp with rfl | hp
  · exact n1
  rw [List.mem_singleton.mp hp]
  exact n2
end
noncomputable abbrev wi0 : WiSt := (Str.ofString "h", Str.ofString "p", 1, 1, 2)
local macro_rules | `(tactic| walk_at "exec For Name List cons nil") => `(tactic| (k_here; refine stopHere ?_))
set_option maxHeartbeats 2000000
section
variable {w : World} {mean : ExcName → Option Value} {mg mb : Str → Option Value} {dp un : Nat} {gd : Option (List Code)} {cn : Str} {cs : Scope} {a : Addr} {ccd : Value} {cl : List (Str × Addr)} {outer : List Env} {A₀ : Around} {base h₀ : Heap} {L : Addr} {m : Str → Option Value} {s : Shared} {Q E : Value → Shared → Prop} {news : Led}
theorem con_within {ld : Addr} {d0 d1 d2 d3 : Int} {w0 w1 w2 w3 : Tok} {nd : Nat} (B : Below A₀ base outer h₀) (F : Fr h₀ L s.heap m) (X : (KF w.params).In h₀) (N : News h₀ L s.heap news) (T : Top viewQ LQ mean mg mb h₀) (hk : cs.kind = .function) (hp0 : s.heap.get? ld = some (W.listOf #[.int d0 w0, .int d1 w1, .int d2 w2, .int d3 w3] nd)) (hp1 : WiOk d3 wi0) (hp2 : WiOk d2 (wiStep d3 wi0)) (hp3 : WiOk d1 (wiStep d2 (wiStep d3 wi0))) (hp4 : WiOk d0 (wiStep d1 (wiStep d2 (wiStep d3 wi0)))) (hd : dp + 5 < recursionLimit) (hu : un + 40 < cLine)
    (hret : ∀ (r lp ln : Addr) (x : WiSt) (r0 r1 : Tok) (v0 v1 v2 v3 v4 : Tok) (h' : Heap) (tk' : Nat), x = wiStep d0 (wiStep d1 (wiStep d2 (wiStep d3 wi0))) → Fr h₀ L h' m → News h₀ L h' ((r, W.listOf #[.ref lp, .ref ln] 0) :: (lp, W.listOf #[.str x.1 v0, .str x.2.1 v1] 0) :: (ln, W.listOf #[.int x.2.2.1 v2, .int x.2.2.2.1 v3, .int x.2.2.2.2 v4] 0) :: news) → (∀ p ∈ news, p.1 ≠ r ∧ p.1 ≠ lp ∧ p.1 ≠ ln) → r ≠ lp ∧ r ≠ ln ∧ lp ≠ ln → s.toks ≤ tk' → Q (.ref r) { s with heap := h', toks := tk' }) :
    wpAny (model PySem.Challenge.rw_tl0038_01.row.prog w) (ktrTop dp un gd cn cs L a ccd cl outer) (call (.ref 204) [.ref ld]) Q E s := by
  k_dflt (refine' entN (binds := [(S "draws", Value.ref ld)]) ?k1 ?k2 ?k3 ?k4 ?k5 ?kA ?kF ?kK ?k6 ?k7 ?k8 ?k9 ?kB ?kG ?c2 ?c3 ?c4 ?c5; (case kA => exact rfl); (case kF => exact rfl); (case kK => assumption); (case k1 => k_asm); (case k2 => k_asm); (case k3 => k_asm); (case k4 => k_asm); (case k5 => k_asm); (case k6 => k_is); (case k7 => k_is); (case k8 => first | exact Nat.lt_of_le_of_lt (Nat.le_add_right _ _) hd | ktr_room); (case k9 => exact BindsTo.of_eq rfl); (case c5 => decide); (case kB => exact locs rfl); (case c2 => exact rfl); (case c3 => exact rfl); (case c4 => exact rfl))
  intro Q' hq g' L' h' FG' NG' GS' F' N' B' X' T'
  have hr : ∀ (r lp ln : Addr) (x : WiSt) (r0 r1 : Tok) (v0 v1 v2 v3 v4 : Tok) (h₂ : Heap) (tk' : Nat), x = wiStep d0 (wiStep d1 (wiStep d2 (wiStep d3 wi0))) → News h₀ L h₂ [(r, W.listOf #[.ref lp, .ref ln] 0), (lp, W.listOf #[.str x.1 v0, .str x.2.1 v1] 0), (ln, W.listOf #[.int x.2.2.1 v2, .int x.2.2.2.1 v3, .int x.2.2.2.2 v4] 0)] → (∀ p ∈ news, p.1 ≠ r ∧ p.1 ≠ lp ∧ p.1 ≠ ln) → r ≠ lp ∧ r ≠ ln ∧ lp ≠ ln → Q' (.ref r) { s with heap := h₂, toks := tk' } := fun r lp ln x r0 r1 v0 v1 v2 v3 v4 h₂ tk' hx N1 hne hd => hq _ _ fun F N l _ => hret r lp ln x r0 r1 v0 v1 v2 v3 v4 h₂ tk' hx F (fun p hp => by
    rcases List.mem_cons.mp hp with rfl | hp
    · exact N1 _ (.head _)
    rcases List.mem_cons.mp hp with rfl | hp
    · exact N1 _ (.tail _ (.head _))
    rcases List.mem_cons.mp hp with rfl | hp
    · exact N1 _ (.tail _ (.tail _ (.head _)))
    exact N p hp) hne hd l
  clear hq hret
  k_whole
  dsimp only [List.reverse, List.reverseAux, List.length] at F'
  dsimp only [List.length]
  (try k_fold)
  have hdr : g'.IsList ld (List.toArray [.int d0 w0, .int d1 w1, .int d2 w2, .int d3 w3]) := ⟨_, GS' _ _ hp0 (fun q => nomatch q), rfl, _, rfl⟩
  have hi : IntsAre [.int d0 w0, .int d1 w1, .int d2 w2, .int d3 w3] [d0, d1, d2, d3] := .cons _ _ (.cons _ _ (.cons _ _ (.cons _ _ .nil)))
  k_steps
  refine Stop.mk ?_
  refine For_U rfl rfl rfl ?_
  k_steps
  rename Fr _ _ _ _ => FE
  rename News _ _ _ _ => NE
  have hxl := NE _ (.head _)
  refine ⟨⟨_, _, _, _, g', _, _, rfl, rfl, rfl, hxl.1, hxl.2.1, FE, swap_wi NE, ?_⟩⟩
  intro I hI hof
  have hxI := hof _ (.head _)
  refine wi_step (k := 3) (ds := [d0, d1, d2, d3]) (st := wi0) (by omega) (by omega) hp1 (by decide) (by show _ < ((4 : Nat) : Int); decide) rfl hdr hi B' X' T' rfl rfl rfl hxI ?_
  intro m3 lp3 ln3 a0 a1 a2 a3 a4 x3 e3 p1 p2 p3
  refine wi_step (k := 2) (ds := [d0, d1, d2, d3]) (by omega) (by omega) (by rw [e3]; exact hp2) (by decide) (by show _ < ((4 : Nat) : Int); decide) rfl hdr hi B' X' T' p1 p2 p3 hxI ?_
  intro m2 lp2 ln2 b0 b1 b2 b3 b4 x2 e2 q1 q2 q3
  refine wi_step (k := 1) (ds := [d0, d1, d2, d3]) (by omega) (by omega) (by rw [e2, e3]; exact hp3) (by decide) (by show _ < ((4 : Nat) : Int); decide) rfl hdr hi B' X' T' q1 q2 q3 hxI ?_
  intro m1 lp1 ln1 c0 c1 c2 c3 c4 x1 e1 r1 r2 r3
  refine wi_step (k := 0) (ds := [d0, d1, d2, d3]) (by omega) (by omega) (by rw [e1, e2, e3]; exact hp4) (by decide) (by show _ < ((4 : Nat) : Int); decide) rfl hdr hi B' X' T' r1 r2 r3 hxI ?_
  intro m0 lp0 ln0 f0 f1 f2 f3 f4 x0 e0 s1 s2 s3
  intro hh tkh Fh Nh
  have Fh' := fr_wiE Fh s1 s2 s3
  clear Fh FE NE
  k_steps
  rename News _ _ _ _ => NZ
  have hx : x0 = wiStep d0 (wiStep d1 (wiStep d2 (wiStep d3 wi0))) := by rw [e0, e1, e2, e3]; rfl
  rename News g' _ _ _ => NY
  have hne : lp0 ≠ ln0 := by
    intro q
    have z1 := (NZ _ (.tail _ (.tail _ (.head _)))).1
    have z2 := (NZ _ (.tail _ (.tail _ (.tail _ (.head _))))).1
    dsimp only at z1 z2
    rw [q, z2] at z1
    simp at z1
  refine hr _ lp0 ln0 x0 0 0 f0 f1 f2 f3 f4 _ _ hx (pick_wi NZ) ?_ ⟨Nat.ne_of_gt (by omega), Nat.ne_of_gt (by omega), hne⟩
  intro p hp
  exact ⟨news_apart NG' (KtsTurn.refl (fs := [])) NY (.head _) p hp, news_apart NG' (KtsTurn.refl (fs := [])) NY (.tail _ (.tail _ (.head _))) p hp, news_apart NG' (KtsTurn.refl (fs := [])) NY (.tail _ (.tail _ (.tail _ (.head _)))) p hp⟩
end
end Mine
end
section
open PySem PySem.W PyProof.Rows
namespace Mine
theorem len_one (c : Nat) : (Str.mk #[c]).length = 1 := rfl
local macro_rules | `(tactic| walk_at "execs cons") => `(tactic| walk_at "zd2")
local macro_rules | `(tactic| walk_at "execs nil") => `(tactic| walk_at "zd3")
local macro_rules | `(tactic| walk_at "TkLe") => `(tactic| walk_at "zd4")
set_option hygiene false in
local macro_rules | `(tactic| walk_at "call ref") => `(tactic| walk_at "zd8")
set_option hygiene false in
local macro_rules | `(tactic| walk_at "call ref") => `(tactic| (k_here; (with_reducible show wpAny _ _ (call (Value.ref 141) [Value.str _ _, Value.str _ _, Value.int _ _]) _ _ _); k_dflt (refine' con_lev ?B ?F ?X ?N ?T ?hk ?p0 ?p1 ?p2 ?hd ?hu ?_); walk_at "zB"; (case p0 => walk_at "zL"); (case p1 => walk_at "zL"); (case p2 => walk_at "zL"); walk_at "zI"))
section
variable {w : World} {mean : ExcName → Option Value} {mg mb : Str → Option Value} {dp un : Nat} {gd : Option (List Code)} {cn : Str} {cs : Scope} {a : Addr} {ccd : Value} {cl : List (Str × Addr)} {outer : List Env} {A₀ : Around} {base h₀ : Heap} {L : Addr} {m : Str → Option Value} {s : Shared} {Q E : Value → Shared → Prop} {news : Led}
structure MyEq (a b : Str) : Prop where
  out : a = b
theorem con_typedE {word T : Str} {c : Nat} {draw : Int} {tw tx ty : Tok} (B : Below A₀ base outer h₀) (F : Fr h₀ L s.heap m) (X : (KF w.params).In h₀) (N : News h₀ L s.heap news) (T' : Top viewQ LQ mean mg mb h₀) (hk : cs.kind = .function) (hp0 : word.length < 2 ^ 16) (hp1 : 97 ≤ c ∧ c ≤ 122) (hp2 : 0 ≤ draw) (hp3 : MyEq (typedOf word c draw) T) (hd : dp + 3 < recursionLimit) (hu : un + 24 < cLine)
    (hret : ∀ (t : Tok) (h' : Heap) (tk' : Nat), Fr h₀ L h' m → News h₀ L h' news → s.toks ≤ tk' → Q (.str T t) { s with heap := h', toks := tk' }) :
    wpAny (model PySem.Challenge.rw_tl0038_01.row.prog w) (ktrTop dp un gd cn cs L a ccd cl outer) (call (.ref 169) [.str word tw, .str ⟨#[c]⟩ tx, .int draw ty]) Q E s := by
  obtain ⟨rfl⟩ := hp3
  exact con_typed B F X N T' hk hp0 hp1 hp2 hd hu hret
theorem con_preparedE {text T : Str} {tt : Tok} (B : Below A₀ base outer h₀) (F : Fr h₀ L s.heap m) (X : (KF w.params).In h₀) (N : News h₀ L s.heap news) (T' : Top viewQ LQ mean mg mb h₀) (hk : cs.kind = .function) (hp0 : text.length < 2 ^ 16) (hp1 : MyEq (prepOf text) T) (hd : dp + 3 < recursionLimit) (hu : un + 24 < cLine)
    (hret : ∀ (t : Tok) (h' : Heap) (tk' : Nat), Fr h₀ L h' m → News h₀ L h' news → s.toks ≤ tk' → Q (.str T t) { s with heap := h', toks := tk' }) :
    wpAny (model PySem.Challenge.rw_tl0038_01.row.prog w) (ktrTop dp un gd cn cs L a ccd cl outer) (call (.ref 176) [.str text tt]) Q E s := by
  obtain ⟨rfl⟩ := hp1
  exact con_prepared B F X N T' hk hp0 hd hu hret
theorem con_partedE {text mark o1 o2 : Str} {tt : Tok} {u : Nat} (B : Below A₀ base outer h₀) (F : Fr h₀ L s.heap m) (X : (KF w.params).In h₀) (N : News h₀ L s.heap news) (T : Top viewQ LQ mean mg mb h₀) (XB : (KF w.params).In base) (TB : Top viewQ LQ mean mg mb base) (D : KtsDicts (outer.filterMap (·.frame)) h₀) (hk : cs.kind = .function) (hp0 : 0 < u) (hp1 : u < s.toks) (hp2 : text.length < 2 ^ 16) (hp3 : MyEq (part1 text mark) o1) (hp4 : MyEq (part2 text mark) o2) (hd : dp + 4 < recursionLimit) (hu : un + 112 < cLine)
    (hret : ∀ (r : Addr) (t1 t2 : Tok) (h₀' h' : Heap) (tk' : Nat), KtsTurn (outer.filterMap (·.frame)) h₀ h₀' → Fr h₀' L h' m → News h₀' L h' ((r, W.listOf #[.str o1 t1, .str o2 t2] 0) :: news) → (∀ p ∈ news, @LT.lt Nat _ p.1 r ∨ @LT.lt Nat _ r p.1) → Below A₀ base outer h₀' → (KF w.params).In h₀' → Top viewQ LQ mean mg mb h₀' → KtsDicts (outer.filterMap (·.frame)) h₀' → s.toks ≤ tk' → Q (.ref r) { s with heap := h', toks := tk' }) :
    wpAny (model PySem.Challenge.rw_tl0038_01.row.prog w) (ktrTop dp un gd cn cs L a ccd [] outer) (call (.ref 190) [.str text tt, .str mark u]) Q E s := by
  obtain ⟨rfl⟩ := hp3
  obtain ⟨rfl⟩ := hp4
  exact con_parted B F X N T XB TB D hk hp0 hp1 hp2 hd hu fun r t1 t2 h₀' h' tk' a1 a2 a3 a4 => hret r t1 t2 h₀' h' tk' a1 a2 a3 (fun p hp => Nat.lt_or_gt_of_ne (a4 p hp))
end
set_option hygiene false in
local macro_rules | `(tactic| walk_at "call ref") => `(tactic| (k_here; (with_reducible show wpAny _ _ (call (Value.ref 169) [Value.str _ _, Value.str _ _, Value.int _ _]) _ _ _); k_dflt (refine' con_typedE ?B ?F ?X ?N ?T ?hk ?p0 ?p1 ?p2 ?p3 ?hd ?hu ?_); walk_at "zB"; (case p0 => omega); (case p1 => assumption); (case p2 => assumption); (case p3 => assumption); walk_at "zI"))
set_option hygiene false in
local macro_rules | `(tactic| walk_at "call ref") => `(tactic| (k_here; (with_reducible show wpAny _ _ (call (Value.ref 176) [Value.str _ _]) _ _ _); k_dflt (refine' con_preparedE ?B ?F ?X ?N ?T ?hk ?p0 ?p1 ?hd ?hu ?_); walk_at "zB"; (case p0 => (simp only [length_app, len_one]; omega)); (case p1 => assumption); walk_at "zI"))
local macro_rules | `(tactic| walk_at "call builtin:list.append") => `(tactic| walk_at "zd0")
local macro_rules | `(tactic| walk_at "call ref") => `(tactic| (k_here; (with_reducible show wpAny _ _ (call (Value.ref 190) [Value.str _ _, Value.str _ _]) _ _ _); refine stopHere ?_))
noncomputable def besideL : List Int := [172, 174, 846, 848, 6149, 6151, 6154, 6158, 8202, 8206, 8287, 8289, 65023, 65040, 65278, 65280]
noncomputable def woFar (d : Int) (elder newer : Str) : Int := if (d.fdiv 10752).fmod 2 = 0 then levOf newer elder (2 * ((newer.length : Int) - elder.length) + (d.fdiv 21504).fmod 3) else levOf (Txt.upper elder) newer ((newer.length : Int) + ((newer.length : Int) - elder.length) + (d.fdiv 21504).fmod 3)
noncomputable def woB (d : Int) : Int := (d.fdiv 64512).fmod 4 - 2
theorem allLt_mem {l : Addr} : ∀ {own : Led}, AllLt l own → ∀ p ∈ own, p.1 ≠ l
  | [], _, _, hp => nomatch hp
  | q :: r, h, p, hp => by
    rcases List.mem_cons.mp hp with rfl | hp
    · exact Nat.ne_of_lt h.1
    · exact allLt_mem h.2 p hp
theorem apart_of {r l lt lb : Addr} {own : Led} (h : r < l ∧ lt < l ∧ lb < l ∧ AllLt l own) : lt ≠ l ∧ lb ≠ l ∧ ∀ p ∈ own, p.1 ≠ l := ⟨Nat.ne_of_lt h.2.1, Nat.ne_of_lt h.2.2.1, allLt_mem h.2.2.2⟩
theorem pick_wo {g h : Heap} {L : Addr} {a b c d : Addr × Obj} {own : Led} (N : News g L h (a :: b :: c :: d :: own)) : News g L h (c :: d :: a :: own) := fun p hp => N p (by
  simp only [List.mem_cons] at hp ⊢
  rcases hp with rfl | rfl | rfl | hp <;> simp [*])
theorem item_len (x : Str) (k : Int) : (Txt.item x k).length = 1 := rfl
section
variable {w : World} {mean : ExcName → Option Value} {mg mb : Str → Option Value} {dp un : Nat} {gd : Option (List Code)} {cn : Str} {cs : Scope} {a : Addr} {ccd : Value} {outer : List Env} {A₀ : Around} {base g : Heap} {L L' : Addr} {s : Shared} {Q : Flow → Shared → Prop} {E : Value → Shared → Prop}
noncomputable abbrev frWo (lb lt ld : Addr) (x y : Str) (tx ty : Tok) (u : Str → Option Value) : Str → Option Value := fun z => if z = S "one" then some (.str x tx) else if z = S "other" then some (.str y ty) else if z = S "told" then some (.ref lt) else if z = S "beside" then some (.ref lb) else if z = S "draws" then some (.ref ld) else u z
local macro_rules | `(tactic| walk_at "binaryOp Add str str") => `(tactic| (k_here; (refine SBL.add (hsz := ?hsz) ?_); (case hsz => (rw [sizeLine_eq]; (simp only [length_app]); omega)); intro _ _))
theorem woB_lo (d : Int) : -2 ≤ woB d := by
  have := Int.fmod_nonneg_of_pos (d.fdiv 64512) (b := 4) (by decide)
  unfold woB; omega
theorem woB_hi (d : Int) : woB d < 2 := by
  have := Int.fmod_lt_of_pos (d.fdiv 64512) (b := 4) (by decide)
  unfold woB; omega
theorem pick_wo3 {g h : Heap} {L : Addr} {a c d : Addr × Obj} {own : Led} (N : News g L h (a :: c :: d :: own)) : News g L h (c :: d :: a :: own) := fun p hp => N p (by
  simp only [List.mem_cons] at hp ⊢
  rcases hp with rfl | rfl | rfl | hp <;> simp [*])
theorem apart_of3 {l lt lb : Addr} {own : Led} (h : lt < l ∧ lb < l ∧ AllLt l own) : lt ≠ l ∧ lb ≠ l ∧ ∀ p ∈ own, p.1 ≠ l := ⟨Nat.ne_of_lt h.1, Nat.ne_of_lt h.2.1, allLt_mem h.2.2⟩
theorem fr_woC {g h : Heap} {L' : Addr} {lb lt ld : Addr} {x y o1 o2 : Str} {d f : Int} {tf te tn tc tb t1 t2 : Tok} {m₁ : Str → Option Value} (F : Fr g L' h m₁) (h0 : m₁ (S "far") = some (.int f tf)) (h1 : m₁ (S "elder") = some (.str (x ++ y) te)) (h2 : m₁ (S "newer") = some (.str (o1 ++ o2) tn)) (h3 : m₁ (S "came") = some (.int (((o1 ++ o2).length : Int) - (x ++ y).length) tc)) (h4 : m₁ (S "bound") = some (.int (woB d) tb)) (h5 : m₁ (S "one") = some (.str o1 t1)) (h6 : m₁ (S "other") = some (.str o2 t2)) (h7 : m₁ (S "told") = some (.ref lt)) (h8 : m₁ (S "beside") = some (.ref lb)) (h9 : m₁ (S "draws") = some (.ref ld)) : Fr g L' h (fun z => if z = S "far" then some (.int f tf) else if z = S "elder" then some (.str (x ++ y) te) else if z = S "newer" then some (.str (o1 ++ o2) tn) else if z = S "came" then some (.int (((o1 ++ o2).length : Int) - (x ++ y).length) tc) else if z = S "bound" then some (.int (woB d) tb) else if z = S "one" then some (.str o1 t1) else if z = S "other" then some (.str o2 t2) else if z = S "told" then some (.ref lt) else if z = S "beside" then some (.ref lb) else if z = S "draws" then some (.ref ld) else m₁ z) := by
  have e : m₁ = (fun z => if z = S "far" then some (.int f tf) else if z = S "elder" then some (.str (x ++ y) te) else if z = S "newer" then some (.str (o1 ++ o2) tn) else if z = S "came" then some (.int (((o1 ++ o2).length : Int) - (x ++ y).length) tc) else if z = S "bound" then some (.int (woB d) tb) else if z = S "one" then some (.str o1 t1) else if z = S "other" then some (.str o2 t2) else if z = S "told" then some (.ref lt) else if z = S "beside" then some (.ref lb) else if z = S "draws" then some (.ref ld) else m₁ z) := by
    funext z
    by_cases q0 : z = S "far"
    · subst q0; exact h0
    by_cases q1 : z = S "elder"
    · subst q1; exact h1
    by_cases q2 : z = S "newer"
    · subst q2; exact h2
    by_cases q3 : z = S "came"
    · subst q3; exact h3
    by_cases q4 : z = S "bound"
    · subst q4; exact h4
    by_cases q5 : z = S "one"
    · subst q5; exact h5
    by_cases q6 : z = S "other"
    · subst q6; exact h6
    by_cases q7 : z = S "told"
    · subst q7; exact h7
    by_cases q8 : z = S "beside"
    · subst q8; exact h8
    by_cases q9 : z = S "draws"
    · subst q9; exact h9
    simp only [q0, q1, q2, q3, q4, q5, q6, q7, q8, q9, if_false]
  exact e ▸ F
set_option maxHeartbeats 2000000 in
theorem wo_c {lb lt ld : Addr} {x y o1 o2 : Str} {d f : Int} {tf te tn tc tb t1 t2 : Tok} {u : Str → Option Value} {us bs : List Value} {n nb : Nat} {own : Led} (hd : dp + 6 < recursionLimit) (hu : un + 200 < cLine)
    (hl0 : x.length ≤ 16) (hl1 : y.length ≤ 16) (hz4 : o1.length ≤ 16) (hz5 : o2.length ≤ 16) (hg0 : -2 ≤ woB d) (hg1 : woB d < 2)
    (hsz : us.toArray.size ≤ sizeLine) (hoff : OwnOff own [lt, lb]) (hbt : @LT.lt Nat _ lb lt)
    (B' : Below (ktrTop dp un gd cn cs L a ccd [] outer) base (envX cn cs L a ccd [] :: outer) g) (X' : (KF w.params).In g) (T' : Top viewQ LQ mean mg mb g)
    (F : Fr g L' s.heap (fun z => if z = S "far" then some (.int f tf) else if z = S "elder" then some (.str (x ++ y) te) else if z = S "newer" then some (.str (o1 ++ o2) tn) else if z = S "came" then some (.int (((o1 ++ o2).length : Int) - (x ++ y).length) tc) else if z = S "bound" then some (.int (woB d) tb) else if z = S "one" then some (.str o1 t1) else if z = S "other" then some (.str o2 t2) else if z = S "told" then some (.ref lt) else if z = S "beside" then some (.ref lb) else if z = S "draws" then some (.ref ld) else u z))
    (N : News g L' s.heap ((lt, W.listOf us.toArray n) :: (lb, W.listOf bs.toArray nb) :: own))
    (hr : ∀ (m' : Str → Option Value) (l' : Addr) (v0 v1 v2 v3 : Tok) h' tk, m' (S "one") = some (.str o1 t1) → m' (S "other") = some (.str o2 t2) → m' (S "told") = some (.ref lt) → m' (S "beside") = some (.ref lb) → m' (S "draws") = some (.ref ld) → Fr g L' h' m' →
      News g L' h' ((lt, W.listOf (us.toArray.push (.ref l')) (n + 1)) :: (lb, W.listOf bs.toArray nb) :: (l', W.listOf #[.int f v0, .int (levOf (x ++ y) (o1 ++ o2) (woB d)) v1, .int (levOf (o1 ++ o2) (x ++ y) (2 * (((o1 ++ o2).length : Int) - (x ++ y).length) - 2)) v2, .int (levOf o1 (o1 ++ o2) (woB d) - 2 * (o2.length : Int)) v3] 0) :: own) →
      (lt ≠ l' ∧ lb ≠ l' ∧ ∀ p ∈ own, p.1 ≠ l') → Q .next { s with heap := h', toks := tk }) :
    wpAny (model PySem.Challenge.rw_tl0038_01.row.prog w) ((ktrTop dp un gd cn cs L a ccd [] outer).deeper (envF (S "_law_from_without") 27 L' 197 196)) (execs ((lpBody 27 4).drop 9) (envF (S "_law_from_without") 27 L' 197 196)) Q E s := by
  have hga : -2 ≤ woB d := hg0
  generalize woB d = bd at *
  k_steps
  rename News _ _ _ _ => NZ
  exact hr _ _ _ _ _ _ _ _ rfl rfl rfl rfl rfl (by k_asm) (pick_wo3 NZ) (apart_of3 (by assumption))
local macro_rules | `(tactic| walk_at "zz0") => `(tactic| skip)
local macro_rules | `(tactic| walk_at "zz1") => `(tactic| skip)
local macro_rules | `(tactic| walk_at "execs cons") => `(tactic| (k_here; (with_reducible show wpAny _ _ (execs (Stmt.Expr _ _ :: _) _) _ _ _); refine stopHere ?_))
set_option maxHeartbeats 2000000 in
theorem wo_turn {lb lt ld : Addr} {x y T1 T2 T3 o1 o2 : Str} {d : Int} {tx ty td : Tok} {u : Str → Option Value} {us bs : List Value} {n nb : Nat} {own : Led} (hd : dp + 6 < recursionLimit) (hu : un + 200 < cLine)
    (hd0 : 0 ≤ d) (hd1 : d ≤ 66000000) (hl0 : x.length ≤ 16) (hl1 : y.length ≤ 16) (hst : 97 ≤ (Txt.charAt (Str.ofString "hp") (d.fmod 2)).getD 0 ∧ (Txt.charAt (Str.ofString "hp") (d.fmod 2)).getD 0 ≤ 122)
    (hm0 : 0 ≤ d.fmod 2) (hm1 : d.fmod 2 < 2) (hk0 : 0 ≤ (d.fdiv 672).fmod 16) (hk1 : (d.fdiv 672).fmod 16 < 16) (hi : IntsAre bs besideL) (hbl : besideL.length = 16)
    (hmk0 : 0 ≤ besideL.getD ((d.fdiv 672).fmod 16).toNat 0) (hmk1 : besideL.getD ((d.fdiv 672).fmod 16).toNat 0 ≤ 65280)
    (e1 : MyEq (typedOf x ((Txt.charAt (Str.ofString "hp") (d.fmod 2)).getD 0) d) T1) (e2 : MyEq (typedOf y ((Txt.charAt (Str.ofString "hp") (d.fmod 2)).getD 0) d) T2) (e3 : MyEq (prepOf (T1 ++ (Str.mk #[(besideL.getD ((d.fdiv 672).fmod 16).toNat 0).toNat]) ++ T2 ++ (Str.mk #[(besideL.getD ((d.fdiv 672).fmod 16).toNat 0).toNat]))) T3) (e4 : MyEq (part1 T3 (Str.mk #[(besideL.getD ((d.fdiv 672).fmod 16).toNat 0).toNat])) o1) (e5 : MyEq (part2 T3 (Str.mk #[(besideL.getD ((d.fdiv 672).fmod 16).toNat 0).toNat])) o2)
    (hz1 : T1.length ≤ 32) (hz2 : T2.length ≤ 32) (hz3 : T3.length < 2 ^ 16) (hz4 : o1.length ≤ 16) (hz5 : o2.length ≤ 16)
    (hf0 : 0 ≤ (d.fdiv 21504).fmod 3) (hf1 : (d.fdiv 21504).fmod 3 < 3) (hg0 : 0 ≤ (d.fdiv 64512).fmod 4) (hg1 : (d.fdiv 64512).fmod 4 < 4) (hup : (Txt.upper (x ++ y)).length < 2 ^ 16)
    (hsz : us.toArray.size ≤ sizeLine) (hoff : OwnOff own [lt, lb]) (hbt : @LT.lt Nat _ lb lt)
    (B' : Below (ktrTop dp un gd cn cs L a ccd [] outer) base (envX cn cs L a ccd [] :: outer) g) (X' : (KF w.params).In g) (T' : Top viewQ LQ mean mg mb g)
    (XB : (KF w.params).In base) (TB : Top viewQ LQ mean mg mb base) (D' : KtsDicts ((envX cn cs L a ccd [] :: outer).filterMap (·.frame)) g)
    (F : Fr g L' s.heap (fun z => if z = S "draw" then some (.int d td) else frWo lb lt ld x y tx ty u z))
    (N : News g L' s.heap ((lt, W.listOf us.toArray n) :: (lb, W.listOf bs.toArray nb) :: own))
    (hr : ∀ (g₁ : Heap) (m' : Str → Option Value) (l' : Addr) (t1 t2 v0 v1 v2 v3 : Tok) (f : Int) h' tk, f = woFar d (x ++ y) (o1 ++ o2) → KtsTurn ((envX cn cs L a ccd [] :: outer).filterMap (·.frame)) g g₁ → Below (ktrTop dp un gd cn cs L a ccd [] outer) base (envX cn cs L a ccd [] :: outer) g₁ → (KF w.params).In g₁ → Top viewQ LQ mean mg mb g₁ → KtsDicts ((envX cn cs L a ccd [] :: outer).filterMap (·.frame)) g₁ →
      m' (S "one") = some (.str o1 t1) → m' (S "other") = some (.str o2 t2) → m' (S "told") = some (.ref lt) → m' (S "beside") = some (.ref lb) → m' (S "draws") = some (.ref ld) → Fr g₁ L' h' m' →
      News g₁ L' h' ((lt, W.listOf (us.toArray.push (.ref l')) (n + 1)) :: (lb, W.listOf bs.toArray nb) :: (l', W.listOf #[.int f v0, .int (levOf (x ++ y) (o1 ++ o2) (woB d)) v1, .int (levOf (o1 ++ o2) (x ++ y) (2 * (((o1 ++ o2).length : Int) - (x ++ y).length) - 2)) v2, .int (levOf o1 (o1 ++ o2) (woB d) - 2 * (o2.length : Int)) v3] 0) :: own) →
      (lt ≠ l' ∧ lb ≠ l' ∧ ∀ p ∈ own, p.1 ≠ l') → Q .next { s with heap := h', toks := tk }) :
    wpAny (model PySem.Challenge.rw_tl0038_01.row.prog w) ((ktrTop dp un gd cn cs L a ccd [] outer).deeper (envF (S "_law_from_without") 27 L' 197 196)) (execs (lpBody 27 4) (envF (S "_law_from_without") 27 L' 197 196)) Q E s := by
  k_steps
  refine Stop.mk ?_
  k_dflt (refine' con_partedE ?B ?F ?X ?N ?T ?XB ?TB ?D ?hk ?p0 ?p1 ?p2 ?p3 ?p4 ?hd ?hu ?_)
  (case B => k_asm)
  (case F => k_asm)
  (case X => k_asm)
  (case N => k_asm)
  (case T => k_asm)
  (case XB => k_asm)
  (case TB => k_asm)
  (case D => k_asm)
  (case hk => first | exact rfl | assumption)
  (case p0 => ((show (_ : Nat) < (_ : Nat)); (try dsimp only); omega))
  (case p1 => ((show (_ : Nat) < (_ : Nat)); (try dsimp only); omega))
  (case p2 => omega)
  (case p3 => assumption)
  (case p4 => assumption)
  (case hd => first | exact rm9 hd (by decide) | ktr_room)
  (case hu => first | exact um9 hu (by decide) | ktr_units)
  intro r' t1' t2' g1' h' tk' TU' F' N' ne' B' X' T' D' l'
  (simp only [List.forall_mem_cons] at ne')
  (try dsimp only at ne')
  (try dsimp only at l')
  (try dsimp only)
  (try k_fold)
  k_steps
  · refine Stop.mk ?_
    rename Fr _ _ _ _ => Fc
    rename News _ _ _ _ => Nc
    refine wo_c hd hu hl0 hl1 hz4 hz5 (woB_lo d) (woB_hi d) hsz hoff hbt (by assumption) (by assumption) (by assumption) (fr_woC Fc rfl rfl rfl rfl rfl rfl rfl rfl rfl rfl) (fun p hp => Nc p (.tail _ hp)) ?_
    intro m' l' v0 v1 v2 v3 h' tk e1 e2 e3 e4 e5 F9 N9 ap
    exact hr _ m' l' _ _ v0 v1 v2 v3 _ _ _ (if_pos (by assumption)).symm (by assumption) (by assumption) (by assumption) (by assumption) (by assumption) e1 e2 e3 e4 e5 F9 N9 ap
  · refine Stop.mk ?_
    rename Fr _ _ _ _ => Fc
    rename News _ _ _ _ => Nc
    refine wo_c hd hu hl0 hl1 hz4 hz5 (woB_lo d) (woB_hi d) hsz hoff hbt (by assumption) (by assumption) (by assumption) (fr_woC Fc rfl rfl rfl rfl rfl rfl rfl rfl rfl rfl) (fun p hp => Nc p (.tail _ hp)) ?_
    intro m' l' v0 v1 v2 v3 h' tk e1 e2 e3 e4 e5 F9 N9 ap
    exact hr _ m' l' _ _ v0 v1 v2 v3 _ _ _ (if_neg (by assumption)).symm (by assumption) (by assumption) (by assumption) (by assumption) (by assumption) e1 e2 e3 e4 e5 F9 N9 ap
end
end Mine
end
section
open PySem PySem.W PyProof.Rows
namespace Mine
noncomputable def hpC (d : Int) : Nat := (Txt.charAt (Str.ofString "hp") (d.fmod 2)).getD 0
noncomputable def markOf (d : Int) : Str := Str.mk #[(besideL.getD ((d.fdiv 672).fmod 16).toNat 0).toNat]
noncomputable def woText (d : Int) (x y : Str) : Str := prepOf (typedOf x (hpC d) d ++ markOf d ++ typedOf y (hpC d) d ++ markOf d)
structure WoOk (d : Int) (x y o1 o2 : Str) : Prop where
  d0 : 0 ≤ d
  d1 : d ≤ 66000000
  lx : x.length ≤ 16
  ly : y.length ≤ 16
  l1 : o1.length ≤ 16
  l2 : o2.length ≤ 16
  t1 : (typedOf x (hpC d) d).length ≤ 32
  t2 : (typedOf y (hpC d) d).length ≤ 32
  tx : (woText d x y).length < 2 ^ 16
  e1 : part1 (woText d x y) (markOf d) = o1
  e2 : part2 (woText d x y) (markOf d) = o2
theorem hpC_bd (d : Int) : 97 ≤ hpC d ∧ hpC d ≤ 122 := by
  have h0 := Int.fmod_nonneg_of_pos d (b := 2) (by decide)
  have h1 := Int.fmod_lt_of_pos d (b := 2) (by decide)
  unfold hpC
  generalize d.fmod 2 = k at h0 h1
  have : k = 0 ∨ k = 1 := by omega
  rcases this with rfl | rfl <;> decide
theorem mark_bd (k : Nat) : 0 ≤ besideL.getD k 0 ∧ besideL.getD k 0 ≤ 65280 := getD_in (by decide) (by decide) (by decide)
noncomputable abbrev tE (d : Int) (x y o1 o2 : Str) (v : Tok × Tok × Tok × Tok) : Obj := W.listOf #[.int (woFar d (x ++ y) (o1 ++ o2)) v.1, .int (levOf (x ++ y) (o1 ++ o2) (woB d)) v.2.1, .int (levOf (o1 ++ o2) (x ++ y) (2 * (((o1 ++ o2).length : Int) - (x ++ y).length) - 2)) v.2.2.1, .int (levOf o1 (o1 ++ o2) (woB d) - 2 * (o2.length : Int)) v.2.2.2] 0
theorem rot_wo {g h : Heap} {L : Addr} {a b c : Addr × Obj} {own : Led} (N : News g L h (a :: b :: c :: own)) : News g L h (b :: c :: a :: own) := fun p hp => N p (by
  simp only [List.mem_cons] at hp ⊢
  rcases hp with rfl | rfl | rfl | hp <;> simp [*])
theorem rot_wo2 {g h : Heap} {L : Addr} {a b c d : Addr × Obj} {own : Led} (N : News g L h (a :: b :: c :: d :: own)) : News g L h (d :: a :: b :: c :: own) := fun p hp => N p (by
  simp only [List.mem_cons] at hp ⊢
  rcases hp with rfl | rfl | rfl | rfl | hp <;> simp [*])
theorem turn_keep {fs : List Addr} {g g₁ : Heap} {l : Addr} {o : Obj} (T : KtsTurn fs g g₁) (D : KtsDicts fs g) (h : g.get? l = some o) (hn : ∀ es ep, o.data ≠ .dict es ep) : g₁.get? l = some o :=
  T.other l o h fun q => by
    obtain ⟨o', es, ep, h1, h2⟩ := D l q
    rw [h] at h1
    cases h1
    exact hn _ _ h2
section
variable {g h : Heap} {L' : Addr}
theorem fr_wo {lb lt ld : Addr} {x y : Str} {d : Int} {tx ty td : Tok} {m₁ : Str → Option Value} (F : Fr g L' h (fun z => if z = S "draw" then some (.int d td) else m₁ z)) (h1 : m₁ (S "one") = some (.str x tx)) (h2 : m₁ (S "other") = some (.str y ty)) (h3 : m₁ (S "told") = some (.ref lt)) (h4 : m₁ (S "beside") = some (.ref lb)) (h5 : m₁ (S "draws") = some (.ref ld)) :
    Fr g L' h (fun z => if z = S "draw" then some (.int d td) else frWo lb lt ld x y tx ty m₁ z) := by
  have e : m₁ = frWo lb lt ld x y tx ty m₁ := by
    funext z
    by_cases q1 : z = S "one"
    · subst q1; exact h1
    by_cases q2 : z = S "other"
    · subst q2; exact h2
    by_cases q3 : z = S "told"
    · subst q3; exact h3
    by_cases q4 : z = S "beside"
    · subst q4; exact h4
    by_cases q5 : z = S "draws"
    · subst q5; exact h5
    simp only [frWo, q1, q2, q3, q4, q5, if_false]
  rw [e] at F
  exact F
theorem fr_woE {lb lt ld : Addr} {x y : Str} {tx ty : Tok} {m₁ : Str → Option Value} (F : Fr g L' h m₁) (h1 : m₁ (S "one") = some (.str x tx)) (h2 : m₁ (S "other") = some (.str y ty)) (h3 : m₁ (S "told") = some (.ref lt)) (h4 : m₁ (S "beside") = some (.ref lb)) (h5 : m₁ (S "draws") = some (.ref ld)) :
    Fr g L' h (frWo lb lt ld x y tx ty m₁) := by
  have e : m₁ = frWo lb lt ld x y tx ty m₁ := by
    funext z
    by_cases q1 : z = S "one"
    · subst q1; exact h1
    by_cases q2 : z = S "other"
    · subst q2; exact h2
    by_cases q3 : z = S "told"
    · subst q3; exact h3
    by_cases q4 : z = S "beside"
    · subst q4; exact h4
    by_cases q5 : z = S "draws"
    · subst q5; exact h5
    simp only [frWo, q1, q2, q3, q4, q5, if_false]
  exact e ▸ F
end
section
variable {w : World} {mean : ExcName → Option Value} {mg mb : Str → Option Value} {dp un : Nat} {gd : Option (List Code)} {cn : Str} {cs : Scope} {a : Addr} {ccd : Value} {outer : List Env} {A₀ : Around} {base g : Heap} {L L' : Addr} {s : Shared} {Q : Flow → Shared → Prop} {E : Value → Shared → Prop}
theorem wo_step {I lb lt ld : Addr} {lo : Obj} {x y o1 o2 : Str} {d : Int} {tx ty td : Tok} {us bs vs : List Value} {n nb : Nat} {m : Str → Option Value} {rest : Led} (hd : dp + 6 < recursionLimit) (hu : un + 200 < cLine)
    (ok : WoOk d x y o1 o2) (hi : IntsAre bs besideL) (hus : us.length ≤ 16)
    (hlo : g.get? ld = some lo) (hdat : ∀ es ep, lo.data ≠ .dict es ep) (hoff : OwnOff rest [lt, lb]) (hbt : @LT.lt Nat _ lb lt) (hIt : lt ≠ I) (hIb : lb ≠ I) (hIr : ∀ p ∈ rest, p.1 ≠ I)
    (B' : Below (ktrTop dp un gd cn cs L a ccd [] outer) base (envX cn cs L a ccd [] :: outer) g) (X' : (KF w.params).In g) (T' : Top viewQ LQ mean mg mb g)
    (XB : (KF w.params).In base) (TB : Top viewQ LQ mean mg mb base) (D' : KtsDicts ((envX cn cs L a ccd [] :: outer).filterMap (·.frame)) g)
    (h1 : m (S "one") = some (.str x tx)) (h2 : m (S "other") = some (.str y ty)) (h3 : m (S "told") = some (.ref lt)) (h4 : m (S "beside") = some (.ref lb)) (h5 : m (S "draws") = some (.ref ld))
    (next : ∀ (g₁ : Heap) (m' : Str → Option Value) (l' : Addr) (t1 t2 : Tok) (v : Tok × Tok × Tok × Tok), KtsTurn ((envX cn cs L a ccd [] :: outer).filterMap (·.frame)) g g₁ → Below (ktrTop dp un gd cn cs L a ccd [] outer) base (envX cn cs L a ccd [] :: outer) g₁ → (KF w.params).In g₁ → Top viewQ LQ mean mg mb g₁ → KtsDicts ((envX cn cs L a ccd [] :: outer).filterMap (·.frame)) g₁ →
      g₁.get? ld = some lo → m' (S "one") = some (.str o1 t1) → m' (S "other") = some (.str o2 t2) → m' (S "told") = some (.ref lt) → m' (S "beside") = some (.ref lb) → m' (S "draws") = some (.ref ld) → OwnOff ((l', tE d x y o1 o2 v) :: rest) [lt, lb] → (∀ p ∈ (l', tE d x y o1 o2 v) :: rest, p.1 ≠ I) →
      URest PySem.Challenge.rw_tl0038_01.row.prog w ((ktrTop dp un gd cn cs L a ccd [] outer).deeper (envF (S "_law_from_without") 27 L' 197 196)) E (envF (S "_law_from_without") 27 L' 197 196) (S "draw") (lpBody 27 4) Q s I ld lo vs g₁ m'
        ((lt, W.listOf (us ++ [Value.ref l']).toArray (n + 1)) :: (lb, W.listOf bs.toArray nb) :: (l', tE d x y o1 o2 v) :: rest)) :
    URest PySem.Challenge.rw_tl0038_01.row.prog w ((ktrTop dp un gd cn cs L a ccd [] outer).deeper (envF (S "_law_from_without") 27 L' 197 196)) E (envF (S "_law_from_without") 27 L' 197 196) (S "draw") (lpBody 27 4) Q s I ld lo (.int d td :: vs) g m
        ((lt, W.listOf us.toArray n) :: (lb, W.listOf bs.toArray nb) :: rest) := by
  intro h tk o F N ht
  have bd := mark_bd ((d.fdiv 672).fmod 16).toNat
  refine wo_turn (s := { s with heap := h, toks := tk }) (us := us) (T1 := typedOf x (hpC d) d) (T2 := typedOf y (hpC d) d) (T3 := woText d x y) (own := (I, o) :: rest) hd hu ok.d0 ok.d1 ok.lx ok.ly (hpC_bd d) (Int.fmod_nonneg_of_pos _ (by decide)) (Int.fmod_lt_of_pos _ (by decide)) (Int.fmod_nonneg_of_pos _ (by decide)) (Int.fmod_lt_of_pos _ (by decide)) hi rfl bd.1 bd.2
    ⟨rfl⟩ ⟨rfl⟩ ⟨rfl⟩ ⟨ok.e1⟩ ⟨ok.e2⟩ ok.t1 ok.t2 ok.tx ok.l1 ok.l2 (Int.fmod_nonneg_of_pos _ (by decide)) (Int.fmod_lt_of_pos _ (by decide)) (Int.fmod_nonneg_of_pos _ (by decide)) (Int.fmod_lt_of_pos _ (by decide)) ?_ ?_ ?_ hbt B' X' T' XB TB D' (fr_wo F h1 h2 h3 h4 h5) (rot_wo N) ?_
  · have := PyProof.Rows.len_upper (x ++ y)
    rw [length_app] at this
    have := ok.lx
    have := ok.ly
    omega
  · rw [sizeLine_eq, List.size_toArray]
    omega
  · intro p hp b hb
    rcases List.mem_cons.mp hp with rfl | hp
    · rcases List.mem_cons.mp hb with rfl | hb
      · exact hIt.symm
      · rw [List.mem_singleton.mp hb]; exact hIb.symm
    · exact hoff p hp b hb
  · intro g₁ m' l' t1 t2 v0 v1 v2 v3 f h' tk' hf TU B1 X1 T1 D1 a1 a2 a3 a4 a5 F' N' ⟨n1, n2, n3⟩
    subst hf
    have hlo' := turn_keep TU D' hlo hdat
    have e : us.toArray.push (.ref l') = (us ++ [Value.ref l']).toArray := by simp
    rw [e] at N'
    have off : ∀ p ∈ (l', tE d x y o1 o2 (v0, v1, v2, v3)) :: rest, p.1 ≠ I := by
      intro p hp
      rcases List.mem_cons.mp hp with rfl | hp
      · exact (n3 _ (.head _)).symm
      · exact hIr p hp
    refine ⟨g₁, m', _, h', tk', rfl, F', rot_wo2 N', F'.keep _ _ hlo', ?_, next g₁ m' l' t1 t2 (v0, v1, v2, v3) TU B1 X1 T1 D1 hlo' a1 a2 a3 a4 a5 ?_ off⟩
    · intro p hp
      rcases List.mem_cons.mp hp with rfl | hp
      · exact hIt
      rcases List.mem_cons.mp hp with rfl | hp
      · exact hIb
      exact off p hp
    · intro p hp b hb
      rcases List.mem_cons.mp hp with rfl | hp
      · rcases List.mem_cons.mp hb with rfl | hb
        · exact n1.symm
        · rw [List.mem_singleton.mp hb]; exact n2.symm
      · exact hoff p hp b hb
end
end Mine
end
section
open PySem PySem.W PyProof.Rows
namespace Mine
local macro_rules | `(tactic| walk_at "exec For Name Name cons nil") => `(tactic| (k_here; refine stopHere ?_))
theorem pick7 {a b c d e f i j : Addr × Obj} : ∀ p ∈ [a, b, c, e, f, i, j], p ∈ [a, b, c, d, e, f, i, j] := by
  intro p hp
  simp only [List.mem_cons, List.not_mem_nil, or_false] at hp ⊢
  rcases hp with rfl | rfl | rfl | rfl | rfl | rfl | rfl <;> simp
theorem news_addAll {fs : List Addr} {h₀ h₀₁ h₀' h' : Heap} {L : Addr} {news news' : Led} (N1 : News h₀₁ L h' news') : ∀ {add : Led}, (∀ p ∈ add, p ∈ news') → KtsTurn fs h₀ h₀₁ → KtsTurn fs h₀ h₀' → News h₀' L h' news → News h₀' L h' (add ++ news)
  | [], _, _, _, N => N
  | (r, o) :: add, hm, t0, t1, N => news_add N1 (hm _ (.head _)) t0 t1 (news_addAll N1 (fun p hp => hm p (.tail _ hp)) t0 t1 N)
set_option maxHeartbeats 2000000
section
variable {w : World} {mean : ExcName → Option Value} {mg mb : Str → Option Value} {dp un : Nat} {gd : Option (List Code)} {cn : Str} {cs : Scope} {a : Addr} {ccd : Value} {outer : List Env} {A₀ : Around} {base h₀ : Heap} {L : Addr} {m : Str → Option Value} {s : Shared} {Q E : Value → Shared → Prop} {news : Led}
theorem con_without {ld : Addr} {d0 d1 d2 d3 : Int} {w0 w1 w2 w3 : Tok} {nd : Nat} {x1 y1 x2 y2 x3 y3 x4 y4 : Str} (B : Below A₀ base outer h₀) (F : Fr h₀ L s.heap m) (X : (KF w.params).In h₀) (N : News h₀ L s.heap news) (T : Top viewQ LQ mean mg mb h₀) (XB : (KF w.params).In base) (TB : Top viewQ LQ mean mg mb base) (D : KtsDicts (outer.filterMap (·.frame)) h₀) (hk : cs.kind = .function) (hp0 : s.heap.get? ld = some (W.listOf #[.int d0 w0, .int d1 w1, .int d2 w2, .int d3 w3] nd)) (hp1 : WoOk d0 (Str.ofString "h") (Str.ofString "p") x1 y1) (hp2 : WoOk d1 x1 y1 x2 y2) (hp3 : WoOk d2 x2 y2 x3 y3) (hp4 : WoOk d3 x3 y3 x4 y4) (hd : dp + 7 < recursionLimit) (hu : un + 256 < cLine)
    (hret : ∀ (r rw lt a0 a1 a2 a3 : Addr) (nt : Nat) (t1 t2 : Tok) (v0 v1 v2 v3 : Tok × Tok × Tok × Tok) (h₀' h' : Heap) (tk' : Nat), KtsTurn (outer.filterMap (·.frame)) h₀ h₀' → Fr h₀' L h' m → News h₀' L h' ((r, W.listOf #[.ref rw, .ref lt] 0) :: (rw, W.listOf #[.str x4 t1, .str y4 t2] 0) :: (lt, W.listOf #[.ref a0, .ref a1, .ref a2, .ref a3] nt) :: (a3, tE d3 x3 y3 x4 y4 v3) :: (a2, tE d2 x2 y2 x3 y3 v2) :: (a1, tE d1 x1 y1 x2 y2 v1) :: (a0, tE d0 (Str.ofString "h") (Str.ofString "p") x1 y1 v0) :: news) → (∀ p ∈ news, p.1 ≠ r ∧ p.1 ≠ rw ∧ p.1 ≠ lt ∧ p.1 ≠ a0 ∧ p.1 ≠ a1 ∧ p.1 ≠ a2 ∧ p.1 ≠ a3) → Below A₀ base outer h₀' → (KF w.params).In h₀' → Top viewQ LQ mean mg mb h₀' → KtsDicts (outer.filterMap (·.frame)) h₀' → s.toks ≤ tk' → Q (.ref r) { s with heap := h', toks := tk' }) :
    wpAny (model PySem.Challenge.rw_tl0038_01.row.prog w) (ktrTop dp un gd cn cs L a ccd [] outer) (call (.ref 197) [.ref ld]) Q E s := by
  k_dflt (refine' entS (binds := [(S "draws", Value.ref ld)]) ?k1 ?k2 ?k3 ?k4 ?k5 ?kX ?kT ?kD ?kA ?k6 ?k7 ?k8 ?k9 ?kB ?kG ?kK ?c2 ?c3 ?c4 ?c5; (case kA => exact rfl); (case kK => assumption); (case k1 => k_asm); (case k2 => k_asm); (case k3 => k_asm); (case k4 => k_asm); (case k5 => k_asm); (case kX => k_asm); (case kT => k_asm); (case kD => k_asm); (case k6 => k_is); (case k7 => k_is); (case k8 => first | exact Nat.lt_of_le_of_lt (Nat.le_add_right _ _) hd | ktr_room); (case k9 => exact BindsTo.of_eq rfl); (case c5 => decide); (case kB => exact locs rfl); (case c2 => exact rfl); (case c3 => exact rfl); (case c4 => exact rfl))
  intro Q' hq g' L' h' FG' NG' GS' F' N' B' X' T' D'
  have hr : ∀ (r rw lt a0 a1 a2 a3 : Addr) (nt : Nat) (t1 t2 : Tok) (v0 v1 v2 v3 : Tok × Tok × Tok × Tok) (h₂ : Heap) (tk' : Nat) (h₀₁ : Heap) (news' : Led), KtsTurn (outer.filterMap (·.frame)) h₀ h₀₁ → News h₀₁ L h₂ news' → (∀ p ∈ ((r, W.listOf #[.ref rw, .ref lt] 0) :: (rw, W.listOf #[.str x4 t1, .str y4 t2] 0) :: (lt, W.listOf #[.ref a0, .ref a1, .ref a2, .ref a3] nt) :: (a3, tE d3 x3 y3 x4 y4 v3) :: (a2, tE d2 x2 y2 x3 y3 v2) :: (a1, tE d1 x1 y1 x2 y2 v1) :: (a0, tE d0 (Str.ofString "h") (Str.ofString "p") x1 y1 v0) :: []), p ∈ news') → (∀ p ∈ news, p.1 ≠ r ∧ p.1 ≠ rw ∧ p.1 ≠ lt ∧ p.1 ≠ a0 ∧ p.1 ≠ a1 ∧ p.1 ≠ a2 ∧ p.1 ≠ a3) → Q' (.ref r) { s with heap := h₂, toks := tk' } := by
    intro r rw lt a0 a1 a2 a3 nt t1 t2 v0 v1 v2 v3 h₂ tk' h₀₁ news' t0 N1 hm hne
    exact hq _ _ fun g₂ t1' F N b x tp d l _ => hret r rw lt a0 a1 a2 a3 nt t1 t2 v0 v1 v2 v3 g₂ h₂ tk' t1' F (news_addAll N1 hm t0 t1' N) hne b x tp d l
  clear hq hret
  k_whole
  dsimp only [List.reverse, List.reverseAux, List.length] at F'
  dsimp only [List.length]
  (try k_fold)
  have hlo : g'.get? ld = some (W.listOf #[.int d0 w0, .int d1 w1, .int d2 w2, .int d3 w3] nd) := GS' _ _ hp0 (fun q => nomatch q)
  k_steps
  refine Stop.mk ?_
  refine For_U rfl rfl rfl ?_
  k_steps
  rename Fr _ _ _ _ => FE
  rename News _ _ _ _ => NE
  have hlb := NE _ (.tail _ (.head _))
  have hlt0 := NE _ (.head _)
  have hdd : ∀ es ep, (W.listOf #[.int d0 w0, .int d1 w1, .int d2 w2, .int d3 w3] nd).data ≠ .dict es ep := fun _ _ q => nomatch q
  refine ⟨⟨ld, _, [.int d0 w0, .int d1 w1, .int d2 w2, .int d3 w3], nd, g', _, _, rfl, rfl, rfl, FE.keep _ _ hlo, ?_, FE, NE, ?_⟩⟩
  · intro q
    have h1 : g'.get? L' = none := kts_self FE
    have h2 : ld = L' := q
    rw [← h2, hlo] at h1
    cases h1
  intro I hI hof
  refine wo_step (us := []) (bs := [_, _, _, _, _, _, _, _, _, _, _, _, _, _, _, _]) (rest := []) (by omega) (by omega) hp1 (by repeat constructor) (by decide) hlo hdd (fun _ h => nomatch h) (by assumption) (hof _ (.head _)) (hof _ (.tail _ (.head _))) (fun _ h => nomatch h) B' X' T' XB TB D' rfl rfl rfl rfl rfl ?_
  intro ga ma a0 ta0 ta1 v0 TUa Ba Xa Ta Da hla e1 e2 e3 e4 e5 offa hIa
  refine wo_step (us := [.ref a0]) (by omega) (by omega) hp2 (by repeat constructor) (by simp) hla hdd offa (by assumption) (hof _ (.head _)) (hof _ (.tail _ (.head _))) hIa Ba Xa Ta XB TB Da e1 e2 e3 e4 e5 ?_
  intro gb mb' a1 tb0 tb1 v1 TUb Bb Xb Tb Db hlb' f1 f2 f3 f4 f5 offb hIb
  refine wo_step (us := [.ref a0, .ref a1]) (by omega) (by omega) hp3 (by repeat constructor) (by simp) hlb' hdd offb (by assumption) (hof _ (.head _)) (hof _ (.tail _ (.head _))) hIb Bb Xb Tb XB TB Db f1 f2 f3 f4 f5 ?_
  intro gc mc a2 tc0 tc1 v2 TUc Bc Xc Tc Dc hlc i1 i2 i3 i4 i5 offc hIc
  refine wo_step (us := [.ref a0, .ref a1, .ref a2]) (by omega) (by omega) hp4 (by repeat constructor) (by simp) hlc hdd offc (by assumption) (hof _ (.head _)) (hof _ (.tail _ (.head _))) hIc Bc Xc Tc XB TB Dc i1 i2 i3 i4 i5 ?_
  intro gd' md a3 te0 te1 v3 TUd Bd Xd Td Dd hld j1 j2 j3 j4 j5 offd hId
  intro hh tkh Fh Nh
  have Fh' := fr_woE Fh j1 j2 j3 j4 j5
  clear Fh FE NE
  have TUz := KtsTurn.trans TUa (KtsTurn.trans TUb (KtsTurn.trans TUc TUd))
  k_steps
  rename News gd' _ _ _ => NY
  refine hr _ _ _ a0 a1 a2 a3 _ _ _ v0 v1 v2 v3 _ _ _ _ (by assumption) (by assumption) pick7 ?_
  intro p hp
  exact ⟨news_apart NG' TUz NY (.head _) p hp, news_apart NG' TUz NY (.tail _ (.head _)) p hp, news_apart NG' TUz NY (.tail _ (.tail _ (.head _))) p hp, news_apart NG' TUz NY (.tail _ (.tail _ (.tail _ (.tail _ (.tail _ (.tail _ (.tail _ (.head _)))))))) p hp,
    news_apart NG' TUz NY (.tail _ (.tail _ (.tail _ (.tail _ (.tail _ (.tail _ (.head _))))))) p hp, news_apart NG' TUz NY (.tail _ (.tail _ (.tail _ (.tail _ (.tail _ (.head _)))))) p hp, news_apart NG' TUz NY (.tail _ (.tail _ (.tail _ (.tail _ (.head _))))) p hp⟩
end
end Mine
end
section
open PySem PySem.W PyProof.Rows
namespace Mine
section
variable {w : World} {mean : ExcName → Option Value} {mg mb : Str → Option Value} {dp un : Nat} {gd : Option (List Code)} {cn : Str} {cs : Scope} {a : Addr} {ccd : Value} {A₀ : Around} {base h₀ : Heap} {L : Addr} {m : Str → Option Value} {s : Shared} {Q E : Value → Shared → Prop} {news : Led}

theorem turn0 {h₀ h₀' h' : Heap} {L : Addr} {m : Str → Option Value} {news : Led} (T : KtsTurn [] h₀ h₀') (F : Fr h₀' L h' m) (N : News h₀' L h' news) : Fr h₀ L h' m ∧ News h₀ L h' news := by
  refine ⟨⟨F.ns, fun b o e => F.keep b o (T.other b o e (fun q => nomatch q)), by rw [← T.size]; exact F.above⟩, fun p hp => ⟨(N p hp).1, (N p hp).2.1, ?_⟩⟩
  cases q : h₀.get? p.1 with
  | none => rfl
  | some o =>
    have := (N p hp).2.2
    rw [T.other _ _ q (fun q => nomatch q)] at this
    cases this
theorem con_without0 {ld : Addr} {d0 d1 d2 d3 : Int} {w0 w1 w2 w3 : Tok} {nd : Nat} {x1 y1 x2 y2 x3 y3 x4 y4 : Str} (B : Below A₀ h₀ [] h₀) (F : Fr h₀ L s.heap m) (X : (KF w.params).In h₀) (N : News h₀ L s.heap news) (T : Top viewQ LQ mean mg mb h₀) (hk : cs.kind = .function) (hp0 : s.heap.get? ld = some (W.listOf #[.int d0 w0, .int d1 w1, .int d2 w2, .int d3 w3] nd)) (hp1 : WoOk d0 (Str.ofString "h") (Str.ofString "p") x1 y1) (hp2 : WoOk d1 x1 y1 x2 y2) (hp3 : WoOk d2 x2 y2 x3 y3) (hp4 : WoOk d3 x3 y3 x4 y4) (hd : dp + 7 < recursionLimit) (hu : un + 256 < cLine)
    (hret : ∀ (r rw lt a0 a1 a2 a3 : Addr) (nt : Nat) (t1 t2 : Tok) (v0 v1 v2 v3 : Tok × Tok × Tok × Tok) (h' : Heap) (tk' : Nat), Fr h₀ L h' m → News h₀ L h' ((r, W.listOf #[.ref rw, .ref lt] 0) :: (rw, W.listOf #[.str x4 t1, .str y4 t2] 0) :: (lt, W.listOf #[.ref a0, .ref a1, .ref a2, .ref a3] nt) :: (a3, tE d3 x3 y3 x4 y4 v3) :: (a2, tE d2 x2 y2 x3 y3 v2) :: (a1, tE d1 x1 y1 x2 y2 v1) :: (a0, tE d0 (Str.ofString "h") (Str.ofString "p") x1 y1 v0) :: news) → (∀ p ∈ news, p.1 ≠ r ∧ p.1 ≠ rw ∧ p.1 ≠ lt ∧ p.1 ≠ a0 ∧ p.1 ≠ a1 ∧ p.1 ≠ a2 ∧ p.1 ≠ a3) → s.toks ≤ tk' → Q (.ref r) { s with heap := h', toks := tk' }) :
    wpAny (model PySem.Challenge.rw_tl0038_01.row.prog w) (ktrTop dp un gd cn cs L a ccd [] []) (call (.ref 197) [.ref ld]) Q E s :=
  con_without (outer := []) B F X N T X T (fun _ h => nomatch h) hk hp0 hp1 hp2 hp3 hp4 hd hu fun r rw lt a0 a1 a2 a3 nt t1 t2 v0 v1 v2 v3 h₀' h' tk' TU F' N' ne _ _ _ _ l => hret r rw lt a0 a1 a2 a3 nt t1 t2 v0 v1 v2 v3 h' tk' (turn0 TU F' N').1 (turn0 TU F' N').2 ne l
end
section
variable {w : World} {mean : ExcName → Option Value} {mg mb : Str → Option Value} {dp un : Nat} {gd : Option (List Code)} {cn : Str} {cs : Scope} {a : Addr} {ccd : Value} {cl : List (Str × Addr)} {outer : List Env} {A₀ : Around} {base h₀ : Heap} {L : Addr} {m : Str → Option Value} {s : Shared} {Q E : Value → Shared → Prop} {news : Led}
theorem con_gtE {x y : Int} {v : Bool} {tx ty : Tok} (B : Below A₀ base outer h₀) (F : Fr h₀ L s.heap m) (X : (KF w.params).In h₀) (N : News h₀ L s.heap news) (T : Top viewQ LQ mean mg mb h₀) (hk : cs.kind = .function) (hp0 : decide (x > y) = v) (hd : dp + 1 < recursionLimit) (hu : un + 8 < cLine)
    (hret : ∀ (t : Tok) (h' : Heap) (tk' : Nat), Fr h₀ L h' m → News h₀ L h' news → s.toks ≤ tk' → Q (.bool v) { s with heap := h', toks := tk' }) :
    wpAny (model PySem.Challenge.rw_tl0038_01.row.prog w) (ktrTop dp un gd cn cs L a ccd cl outer) (call (.ref 85) [.int x tx, .int y ty]) Q E s := by
  subst hp0
  exact con_gt B F X N T hk hd hu hret
end
section
variable {prog : Program} {w : World} {A : Around} {E : Value → Shared → Prop} {s : Shared}
theorem item_at {value slice : PySem.Expr} {l : Addr} {its : Array Value} {k : Int} {u : Tok} {x : Value} {Q : Value → Shared → Prop} (hl : s.heap.IsList l its) (h0 : 0 ≤ k) (hfit : k < 2 ^ 63) (hx : its[k.toNat]? = some x) (h : Q x s)
    (hb : subscripted slice false (.ref l) (.int k u) = operate [.ref l, .int k u] (getItem (.ref l) (.int k u)) := by with_unfolding_all rfl) :
    wpAny (model prog w) A (subscriptTail value slice (.ref l) (.int k u)) Q E s :=
  tail_any hl.typeIs slot_list_getitem.lookup (wpAny_getItem_list hl h0 hfit hx h) hb
end
noncomputable def lwCame (d h p : Int) : Int := if d.fmod 2 = 0 then p else h
noncomputable def lwDue (d h p : Int) : Int := if (d.fdiv 10752).fmod 2 = 1 then h + p + lwCame d h p else lwCame d h p + lwCame d h p
noncomputable def lwStep (d : Int) (st : Int × Int) : Int × Int := if d.fmod 2 = 0 then (st.1 - st.2, st.2) else (st.1, st.2 - st.1)
theorem list4 {f a b c d b' c' : Int} (h1 : f = a) (h2 : b = b') (h3 : c = c') (h4 : d = 0) : [f, b, c, d] = [a, b', c', 0] := by rw [h1, h2, h3, h4]
theorem drop3 {g h : Heap} {L : Addr} {a b c : Addr × Obj} {own : Led} (N : News g L h (a :: b :: c :: own)) : News g L h own := fun p hp => N p (.tail _ (.tail _ (.tail _ hp)))
structure TurnOk (d h p f l1 l2 l3 : Int) : Prop where
  gt : d.fmod 2 = 0 → h > p
  le : ¬ d.fmod 2 = 0 → ¬ h > p
  f : f = lwDue d h p
  l1 : l1 = if lwCame d h p = 1 then 2 else woB d + 1
  l2 : l2 = if lwCame d h p = 1 then 2 else 2 * lwCame d h p - 1
  l3 : l3 = 0
set_option hygiene false in
local macro_rules | `(tactic| walk_at "call ref") => `(tactic| walk_at "zd5")
set_option hygiene false in
local macro_rules | `(tactic| walk_at "call ref") => `(tactic| walk_at "zd9")
set_option hygiene false in
local macro_rules | `(tactic| walk_at "call ref") => `(tactic| (k_here; (with_reducible show wpAny _ _ (call (Value.ref 85) [Value.int _ _, Value.int _ _]) _ _ _); k_dflt (refine' con_gtE ?B ?F ?X ?N ?T ?hk ?p0 ?hd ?hu ?_); walk_at "zB"; (case p0 => assumption); walk_at "zI"))
local macro_rules | `(tactic| walk_at "subscriptTail") => `(tactic| (k_here; (with_reducible show wpAny _ _ (subscriptTail _ _ (Value.ref _) (Value.int _ _)) _ _ _); (with_unfolding_all refine' item_at ?k1 ?k2 ?k3 ?k4 ?_ ?k6; (case k1 => is_list); (case k4 => assumption); (case k2 => l_idx); (case k3 => l_idx); (case k6 => with_unfolding_all rfl); k_whole)))
section
variable {w : World} {mean : ExcName → Option Value} {mg mb : Str → Option Value} {g : Heap} {L fa ca : Addr} {s : Shared} {Q : Flow → Shared → Prop} {E : Value → Shared → Prop}
noncomputable abbrev frLw (lt ld : Addr) (h p : Int) (th tp : Tok) (u : Str → Option Value) : Str → Option Value := fun z => if z = S "h" then some (.int h th) else if z = S "p" then some (.int p tp) else if z = S "told" then some (.ref lt) else if z = S "draws" then some (.ref ld) else u z
theorem fr_lwK {h : Heap} {lt ld : Addr} {hh p k : Int} {th tp t : Tok} {m₁ : Str → Option Value} (F : Fr g L h m₁) (h0 : m₁ (S "k") = some (.int k t)) (h1 : m₁ (S "h") = some (.int hh th)) (h2 : m₁ (S "p") = some (.int p tp)) (h3 : m₁ (S "told") = some (.ref lt)) (h4 : m₁ (S "draws") = some (.ref ld)) : Fr g L h (fun z => if z = S "k" then some (.int k t) else if z = S "h" then some (.int hh th) else if z = S "p" then some (.int p tp) else if z = S "told" then some (.ref lt) else if z = S "draws" then some (.ref ld) else m₁ z) := by
  have e : m₁ = (fun z => if z = S "k" then some (.int k t) else if z = S "h" then some (.int hh th) else if z = S "p" then some (.int p tp) else if z = S "told" then some (.ref lt) else if z = S "draws" then some (.ref ld) else m₁ z) := by
    funext z
    by_cases q0 : z = S "k"
    · subst q0; rw [if_pos rfl]; exact h0
    by_cases q1 : z = S "h"
    · subst q1; rw [if_neg q0, if_pos rfl]; exact h1
    by_cases q2 : z = S "p"
    · subst q2; rw [if_neg q0, if_neg q1, if_pos rfl]; exact h2
    by_cases q3 : z = S "told"
    · subst q3; rw [if_neg q0, if_neg q1, if_neg q2, if_pos rfl]; exact h3
    by_cases q4 : z = S "draws"
    · subst q4; rw [if_neg q0, if_neg q1, if_neg q2, if_neg q3, if_pos rfl]; exact h4
    rw [if_neg q0, if_neg q1, if_neg q2, if_neg q3, if_neg q4]
  exact e ▸ F
theorem fr_lwC {h : Heap} {lt ld : Addr} {hh p k c : Int} {th tp t tc : Tok} {m₁ : Str → Option Value} (F : Fr g L h m₁) (h0 : m₁ (S "k") = some (.int k t)) (h1 : m₁ (S "h") = some (.int hh th)) (h2 : m₁ (S "p") = some (.int p tp)) (h3 : m₁ (S "told") = some (.ref lt)) (h4 : m₁ (S "draws") = some (.ref ld)) (h5 : m₁ (S "came") = some (.int c tc)) : Fr g L h (fun z => if z = S "k" then some (.int k t) else if z = S "h" then some (.int hh th) else if z = S "p" then some (.int p tp) else if z = S "told" then some (.ref lt) else if z = S "draws" then some (.ref ld) else if z = S "came" then some (.int c tc) else m₁ z) := by
  have e : m₁ = (fun z => if z = S "k" then some (.int k t) else if z = S "h" then some (.int hh th) else if z = S "p" then some (.int p tp) else if z = S "told" then some (.ref lt) else if z = S "draws" then some (.ref ld) else if z = S "came" then some (.int c tc) else m₁ z) := by
    funext z
    by_cases q0 : z = S "k"
    · subst q0; rw [if_pos rfl]; exact h0
    by_cases q1 : z = S "h"
    · subst q1; rw [if_neg q0, if_pos rfl]; exact h1
    by_cases q2 : z = S "p"
    · subst q2; rw [if_neg q0, if_neg q1, if_pos rfl]; exact h2
    by_cases q3 : z = S "told"
    · subst q3; rw [if_neg q0, if_neg q1, if_neg q2, if_pos rfl]; exact h3
    by_cases q4 : z = S "draws"
    · subst q4; rw [if_neg q0, if_neg q1, if_neg q2, if_neg q3, if_pos rfl]; exact h4
    by_cases q5 : z = S "came"
    · subst q5; rw [if_neg q0, if_neg q1, if_neg q2, if_neg q3, if_neg q4, if_pos rfl]; exact h5
    rw [if_neg q0, if_neg q1, if_neg q2, if_neg q3, if_neg q4, if_neg q5]
  exact e ▸ F
theorem fr_lwU {h : Heap} {lt ld : Addr} {hh p k c du : Int} {th tp t tc tu : Tok} {m₁ : Str → Option Value} (F : Fr g L h m₁) (h0 : m₁ (S "k") = some (.int k t)) (h1 : m₁ (S "h") = some (.int hh th)) (h2 : m₁ (S "p") = some (.int p tp)) (h3 : m₁ (S "told") = some (.ref lt)) (h4 : m₁ (S "draws") = some (.ref ld)) (h5 : m₁ (S "came") = some (.int c tc)) (h6 : m₁ (S "due") = some (.int du tu)) : Fr g L h (fun z => if z = S "k" then some (.int k t) else if z = S "h" then some (.int hh th) else if z = S "p" then some (.int p tp) else if z = S "told" then some (.ref lt) else if z = S "draws" then some (.ref ld) else if z = S "came" then some (.int c tc) else if z = S "due" then some (.int du tu) else m₁ z) := by
  have e : m₁ = (fun z => if z = S "k" then some (.int k t) else if z = S "h" then some (.int hh th) else if z = S "p" then some (.int p tp) else if z = S "told" then some (.ref lt) else if z = S "draws" then some (.ref ld) else if z = S "came" then some (.int c tc) else if z = S "due" then some (.int du tu) else m₁ z) := by
    funext z
    by_cases q0 : z = S "k"
    · subst q0; rw [if_pos rfl]; exact h0
    by_cases q1 : z = S "h"
    · subst q1; rw [if_neg q0, if_pos rfl]; exact h1
    by_cases q2 : z = S "p"
    · subst q2; rw [if_neg q0, if_neg q1, if_pos rfl]; exact h2
    by_cases q3 : z = S "told"
    · subst q3; rw [if_neg q0, if_neg q1, if_neg q2, if_pos rfl]; exact h3
    by_cases q4 : z = S "draws"
    · subst q4; rw [if_neg q0, if_neg q1, if_neg q2, if_neg q3, if_pos rfl]; exact h4
    by_cases q5 : z = S "came"
    · subst q5; rw [if_neg q0, if_neg q1, if_neg q2, if_neg q3, if_neg q4, if_pos rfl]; exact h5
    by_cases q6 : z = S "due"
    · subst q6; rw [if_neg q0, if_neg q1, if_neg q2, if_neg q3, if_neg q4, if_neg q5, if_pos rfl]; exact h6
    rw [if_neg q0, if_neg q1, if_neg q2, if_neg q3, if_neg q4, if_neg q5, if_neg q6]
  exact e ▸ F
section
variable {prog : Program} {w : World} {A : Around} {E : Value → Shared → Prop} {s : Shared}
theorem ne_ints4 {a b : Addr} {x1 x2 x3 x4 y1 y2 y3 y4 : Int} {t1 t2 t3 t4 v1 v2 v3 v4 : Tok} {n1 n2 : Nat} {Q : Value → Shared → Prop} (ha : s.heap.get? a = some (W.listOf #[.int x1 t1, .int x2 t2, .int x3 t3, .int x4 t4] n1)) (hb : s.heap.get? b = some (W.listOf #[.int y1 v1, .int y2 v2, .int y3 v3, .int y4 v4] n2))
    (e1 : x1 = y1) (e2 : x2 = y2) (e3 : x3 = y3) (e4 : x4 = y4) (hu : A.units + 64 < cLine) (h : Q (.bool false) s) : wpAny (model prog w) A (compareOp .NotEq (.ref a) (.ref b)) Q E s := by
  subst e1 e2 e3 e4
  have ca : ∀ u1 u2 u3 u4 : Tok, CarriedAll [.int x1 u1, .int x2 u2, .int x3 u3, .int x4 u4] [.int x1, .int x2, .int x3, .int x4] := fun _ _ _ _ => .cons (.int _ _) (.cons (.int _ _) (.cons (.int _ _) (.cons (.int _ _) .nil)))
  have la : s.heap.IsList a (List.toArray [.int x1 t1, .int x2 t2, .int x3 t3, .int x4 t4]) := ⟨_, ha, rfl, _, rfl⟩
  have lb : s.heap.IsList b (List.toArray [.int x1 v1, .int x2 v2, .int x3 v3, .int x4 v4]) := ⟨_, hb, rfl, _, rfl⟩
  have sh : SeqAt.shaped (.list [.int x1, .int x2, .int x3, .int x4]) = true := by simp [SeqAt.shaped, PyData.canLay0, PyData.canLayAll0, PyData.depth, PyData.depthAll]
  have eq : PyData.eqv (.list [.int x1, .int x2, .int x3, .int x4]) (.list [.int x1, .int x2, .int x3, .int x4]) = true := by simp [PyData.eqv, PyData.eqvAll]
  refine ne_dataH (reads_newData la (ca _ _ _ _)) (reads_newData lb (ca _ _ _ _)) sh sh hu ?_
  rw [eq]
  exact h
end
theorem drop2 {g h : Heap} {L : Addr} {a b : Addr × Obj} {own : Led} (N : News g L h (a :: b :: own)) : News g L h own := fun p hp => N p (.tail _ (.tail _ hp))
section
local macro_rules | `(tactic| walk_at "execs cons") => `(tactic| (k_here; (with_reducible show wpAny _ _ (execs (Stmt.Assign [Expr.Name (Str.ofString "due") _] _ _ :: _) _) _ _ _); refine stopHere ?_))
set_option maxHeartbeats 2000000 in
theorem lw_a1 {lt ld ak : Addr} {h p k f l1 l2 l3 : Int} {th tp t u0 u1 u2 u3 : Tok} {u : Str → Option Value} {its : Array Value} {us : List Value} {ds : List Int} {nt na nd : Nat} {own : Led} (hk0 : 0 ≤ k) (hk1 : k < ds.length) (hk2 : ds.length = 4) (hits : its[k.toNat]? = some (.ref ak)) (hi : IntsAre us ds)
    (B' : Below callerA g [] g) (X' : (KF w.params).In g) (T' : Top viewQ LQ mean mg mb g)
    (hgt : (ds.getD k.toNat 0).fmod 2 = 0 → h > p) (hle : ¬ (ds.getD k.toNat 0).fmod 2 = 0 → ¬ h > p)
    (F : Fr g L s.heap (fun z => if z = S "k" then some (.int k t) else if z = S "h" then some (.int h th) else if z = S "p" then some (.int p tp) else if z = S "told" then some (.ref lt) else if z = S "draws" then some (.ref ld) else u z)) (N : News g L s.heap ((lt, W.listOf its nt) :: (ak, W.listOf #[.int f u0, .int l1 u1, .int l2 u2, .int l3 u3] na) :: (ld, W.listOf us.toArray nd) :: own))
    (hr : ∀ s' : Shared, (∃ m' h' tk tc c, s' = { s with heap := h', toks := tk } ∧ c = lwCame (ds.getD k.toNat 0) h p ∧ Fr g L h' m' ∧ m' (S "k") = some (.int k t) ∧ m' (S "h") = some (.int h th) ∧ m' (S "p") = some (.int p tp) ∧ m' (S "told") = some (.ref lt) ∧ m' (S "draws") = some (.ref ld) ∧ m' (S "came") = some (.int c tc) ∧ News g L h' ((lt, W.listOf its nt) :: (ak, W.listOf #[.int f u0, .int l1 u1, .int l2 u2, .int l3 u3] na) :: (ld, W.listOf us.toArray nd) :: own)) → wpAny (model PySem.Challenge.rw_tl0038_01.row.prog w) (callerA.deeper (envOf lawD.name lawD.scope L fa (.ref ca))) (execs ((lpBody 31 15).drop 3) (envOf lawD.name lawD.scope L fa (.ref ca))) Q E s') :
    wpAny (model PySem.Challenge.rw_tl0038_01.row.prog w) (callerA.deeper (envOf lawD.name lawD.scope L fa (.ref ca))) (execs (lpBody 31 15) (envOf lawD.name lawD.scope L fa (.ref ca))) Q E s := by
  by_cases hev : (ds.getD k.toNat 0).fmod 2 = 0
  · have hg : decide (h > p) = true := decide_eq_true (hgt hev)
    have hcm : lwCame (ds.getD k.toNat 0) h p = p := if_pos hev
    clear hgt hle
    k_steps
    all_goals first
      | omega
      | (rename _ = false => hb
         rw [hev] at hb
         exact absurd hb (by decide))
      | (refine Stop.mk ?_
         rename News _ _ _ _ => NZ
         exact hr _ ⟨_, _, _, _, _, rfl, hcm.symm, by k_asm, rfl, rfl, rfl, rfl, rfl, rfl, drop2 NZ⟩)
  · have hg : decide (h > p) = false := decide_eq_false (hle hev)
    have hcm : lwCame (ds.getD k.toNat 0) h p = h := if_neg hev
    have hod : (ds.getD k.toNat 0).fmod 2 = 1 := by
      have h0 := Int.fmod_nonneg_of_pos (ds.getD k.toNat 0) (b := 2) (by decide)
      have h1 := Int.fmod_lt_of_pos (ds.getD k.toNat 0) (b := 2) (by decide)
      omega
    clear hgt hle
    k_steps
    all_goals first
      | omega
      | (rename _ = false => hb
         rw [hod] at hb
         exact absurd hb (by decide))
      | (refine Stop.mk ?_
         rename News _ _ _ _ => NZ
         exact hr _ ⟨_, _, _, _, _, rfl, hcm.symm, by k_asm, rfl, rfl, rfl, rfl, rfl, rfl, drop2 NZ⟩)
end
section
local macro_rules | `(tactic| walk_at "zz0") => `(tactic| skip)
local macro_rules | `(tactic| walk_at "execs cons") => `(tactic| (k_here; (with_reducible show wpAny _ _ (execs (Stmt.Assign [Expr.Name (Str.ofString "bound") _] _ _ :: _) _) _ _ _); refine stopHere ?_))
set_option maxHeartbeats 2000000 in
theorem lw_a2 {lt ld ak : Addr} {h p k f l1 l2 l3 : Int} {th tp t u0 u1 u2 u3 : Tok} {u : Str → Option Value} {its : Array Value} {us : List Value} {ds : List Int} {nt na nd : Nat} {own : Led} {c : Int} {tc : Tok} (hk0 : 0 ≤ k) (hk1 : k < ds.length) (hk2 : ds.length = 4) (hits : its[k.toNat]? = some (.ref ak)) (hi : IntsAre us ds)
    (B' : Below callerA g [] g) (X' : (KF w.params).In g) (T' : Top viewQ LQ mean mg mb g)
    (F : Fr g L s.heap (fun z => if z = S "k" then some (.int k t) else if z = S "h" then some (.int h th) else if z = S "p" then some (.int p tp) else if z = S "told" then some (.ref lt) else if z = S "draws" then some (.ref ld) else if z = S "came" then some (.int c tc) else u z)) (N : News g L s.heap ((lt, W.listOf its nt) :: (ak, W.listOf #[.int f u0, .int l1 u1, .int l2 u2, .int l3 u3] na) :: (ld, W.listOf us.toArray nd) :: own))
    (hr : ∀ s' : Shared, (∃ m' h' tk tu du, s' = { s with heap := h', toks := tk } ∧ du = (if ((ds.getD k.toNat 0).fdiv 10752).fmod 2 = 1 then h + p + c else c + c) ∧ Fr g L h' m' ∧ m' (S "k") = some (.int k t) ∧ m' (S "h") = some (.int h th) ∧ m' (S "p") = some (.int p tp) ∧ m' (S "told") = some (.ref lt) ∧ m' (S "draws") = some (.ref ld) ∧ m' (S "came") = some (.int c tc) ∧ m' (S "due") = some (.int du tu) ∧ News g L h' ((lt, W.listOf its nt) :: (ak, W.listOf #[.int f u0, .int l1 u1, .int l2 u2, .int l3 u3] na) :: (ld, W.listOf us.toArray nd) :: own)) → wpAny (model PySem.Challenge.rw_tl0038_01.row.prog w) (callerA.deeper (envOf lawD.name lawD.scope L fa (.ref ca))) (execs ((lpBody 31 15).drop 4) (envOf lawD.name lawD.scope L fa (.ref ca))) Q E s') :
    wpAny (model PySem.Challenge.rw_tl0038_01.row.prog w) (callerA.deeper (envOf lawD.name lawD.scope L fa (.ref ca))) (execs ((lpBody 31 15).drop 3) (envOf lawD.name lawD.scope L fa (.ref ca))) Q E s := by
  k_steps
  all_goals (refine Stop.mk ?_; rename News _ _ _ _ => NZ)
  all_goals first
    | exact hr _ ⟨_, _, _, _, _, rfl, (if_pos (by assumption)).symm, by k_asm, rfl, rfl, rfl, rfl, rfl, rfl, rfl, NZ⟩
    | exact hr _ ⟨_, _, _, _, _, rfl, (if_neg (by assumption)).symm, by k_asm, rfl, rfl, rfl, rfl, rfl, rfl, rfl, NZ⟩
end
section
local macro_rules | `(tactic| walk_at "zz0") => `(tactic| skip)
local macro_rules | `(tactic| walk_at "zz1") => `(tactic| skip)
local macro_rules | `(tactic| walk_at "compareOp NotEq ref ref") => `(tactic| walk_at "zd10")
local macro_rules | `(tactic| walk_at "execs cons") => `(tactic| (k_here; (with_reducible show wpAny _ _ (execs [Stmt.If _ _ (_ :: _) _] _) _ _ _); refine stopHere ?_))
set_option maxHeartbeats 2000000 in
theorem lw_b {lt ld ak : Addr} {h p k f l1 l2 l3 : Int} {th tp t u0 u1 u2 u3 : Tok} {u : Str → Option Value} {its : Array Value} {us : List Value} {ds : List Int} {nt na nd : Nat} {own : Led} {c du : Int} {tc tu : Tok} (hk0 : 0 ≤ k) (hk1 : k < ds.length) (hk2 : ds.length = 4) (hits : its[k.toNat]? = some (.ref ak)) (hi : IntsAre us ds)
    (B' : Below callerA g [] g) (X' : (KF w.params).In g) (T' : Top viewQ LQ mean mg mb g)
    (e0 : f = du) (e1 : l1 = if c = 1 then 2 else woB (ds.getD k.toNat 0) + 1) (e2 : l2 = if c = 1 then 2 else 2 * c - 1) (e3 : l3 = 0)
    (F : Fr g L s.heap (fun z => if z = S "k" then some (.int k t) else if z = S "h" then some (.int h th) else if z = S "p" then some (.int p tp) else if z = S "told" then some (.ref lt) else if z = S "draws" then some (.ref ld) else if z = S "came" then some (.int c tc) else if z = S "due" then some (.int du tu) else u z)) (N : News g L s.heap ((lt, W.listOf its nt) :: (ak, W.listOf #[.int f u0, .int l1 u1, .int l2 u2, .int l3 u3] na) :: (ld, W.listOf us.toArray nd) :: own))
    (hr : ∀ s' : Shared, (∃ m' h' tk, s' = { s with heap := h', toks := tk } ∧ Fr g L h' m' ∧ m' (S "k") = some (.int k t) ∧ m' (S "h") = some (.int h th) ∧ m' (S "p") = some (.int p tp) ∧ m' (S "told") = some (.ref lt) ∧ m' (S "draws") = some (.ref ld) ∧ News g L h' ((lt, W.listOf its nt) :: (ak, W.listOf #[.int f u0, .int l1 u1, .int l2 u2, .int l3 u3] na) :: (ld, W.listOf us.toArray nd) :: own)) → wpAny (model PySem.Challenge.rw_tl0038_01.row.prog w) (callerA.deeper (envOf lawD.name lawD.scope L fa (.ref ca))) (execs ((lpBody 31 15).drop 6) (envOf lawD.name lawD.scope L fa (.ref ca))) Q E s') :
    wpAny (model PySem.Challenge.rw_tl0038_01.row.prog w) (callerA.deeper (envOf lawD.name lawD.scope L fa (.ref ca))) (execs ((lpBody 31 15).drop 4) (envOf lawD.name lawD.scope L fa (.ref ca))) Q E s := by
  subst e0
  by_cases hc : c = 1
  · subst hc
    rw [if_pos rfl] at e1 e2
    k_steps
    all_goals first
      | exact absurd rfl (by assumption)
      |
      (refine Stop.mk ?_
       rename News _ _ _ _ => NZ
       have q1 := (NZ _ (.head _)).1
       have q2 := (NZ _ (.tail _ (.tail _ (.head _)))).1
       dsimp only at q1 q2
       refine ne_ints4 q2 q1 rfl e1 e2 e3 (by ktr_units) ?_
       clear q1 q2
       k_steps
       refine Stop.mk ?_
       rename News _ _ _ _ => NY
       exact hr _ ⟨_, _, _, rfl, by k_asm, rfl, rfl, rfl, rfl, rfl, fun p hp => NY p (.tail _ hp)⟩)
  · rw [if_neg hc] at e1 e2
    replace e1 : l1 = (((ds.getD k.toNat 0)).fdiv 64512).fmod 4 - 2 + 1 := e1
    k_steps
    all_goals first
      | exact absurd (by assumption) hc
      |
      (refine Stop.mk ?_
       rename News _ _ _ _ => NZ
       have q1 := (NZ _ (.head _)).1
       have q2 := (NZ _ (.tail _ (.tail _ (.head _)))).1
       dsimp only at q1 q2
       refine ne_ints4 q2 q1 rfl e1 e2 e3 (by ktr_units) ?_
       clear q1 q2
       k_steps
       refine Stop.mk ?_
       rename News _ _ _ _ => NY
       exact hr _ ⟨_, _, _, rfl, by k_asm, rfl, rfl, rfl, rfl, rfl, fun p hp => NY p (.tail _ hp)⟩)
end
section
local macro_rules | `(tactic| walk_at "zz0") => `(tactic| skip)
local macro_rules | `(tactic| walk_at "zz1") => `(tactic| skip)
local macro_rules | `(tactic| walk_at "zz2") => `(tactic| skip)
local macro_rules | `(tactic| walk_at "zz3") => `(tactic| skip)
set_option maxHeartbeats 2000000 in
theorem lw_c {lt ld ak : Addr} {h p k f l1 l2 l3 : Int} {th tp t u0 u1 u2 u3 : Tok} {u : Str → Option Value} {its : Array Value} {us : List Value} {ds : List Int} {nt na nd : Nat} {own : Led} (hk0 : 0 ≤ k) (hk1 : k < ds.length) (hk2 : ds.length = 4) (hits : its[k.toNat]? = some (.ref ak)) (hi : IntsAre us ds)
    (B' : Below callerA g [] g) (X' : (KF w.params).In g) (T' : Top viewQ LQ mean mg mb g)
    (F : Fr g L s.heap (fun z => if z = S "k" then some (.int k t) else if z = S "h" then some (.int h th) else if z = S "p" then some (.int p tp) else if z = S "told" then some (.ref lt) else if z = S "draws" then some (.ref ld) else u z)) (N : News g L s.heap ((lt, W.listOf its nt) :: (ak, W.listOf #[.int f u0, .int l1 u1, .int l2 u2, .int l3 u3] na) :: (ld, W.listOf us.toArray nd) :: own))
    (hr : ∀ (m' : Str → Option Value) (h1 p1 : Int) (th' tp' : Tok) h' tk, (h1, p1) = lwStep (ds.getD k.toNat 0) (h, p) → m' (S "h") = some (.int h1 th') → m' (S "p") = some (.int p1 tp') → m' (S "told") = some (.ref lt) → m' (S "draws") = some (.ref ld) → Fr g L h' m' → News g L h' ((lt, W.listOf its nt) :: (ak, W.listOf #[.int f u0, .int l1 u1, .int l2 u2, .int l3 u3] na) :: (ld, W.listOf us.toArray nd) :: own) → Q .next { s with heap := h', toks := tk }) :
    wpAny (model PySem.Challenge.rw_tl0038_01.row.prog w) (callerA.deeper (envOf lawD.name lawD.scope L fa (.ref ca))) (execs ((lpBody 31 15).drop 6) (envOf lawD.name lawD.scope L fa (.ref ca))) Q E s := by
  by_cases hev : (ds.getD k.toNat 0).fmod 2 = 0
  · k_steps
    all_goals first
      | contradiction
      | (rename News _ _ _ _ => NZ; exact hr _ _ _ _ _ _ _ (if_pos hev).symm rfl rfl rfl rfl (by k_asm) NZ)
  · k_steps
    all_goals first
      | contradiction
      | (rename News _ _ _ _ => NZ; exact hr _ _ _ _ _ _ _ (if_neg hev).symm rfl rfl rfl rfl (by k_asm) NZ)
end
theorem lw_turn {lt ld ak : Addr} {h p k f l1 l2 l3 : Int} {th tp t u0 u1 u2 u3 : Tok} {u : Str → Option Value} {its : Array Value} {us : List Value} {ds : List Int} {nt na nd : Nat} {own : Led} (hk0 : 0 ≤ k) (hk1 : k < ds.length) (hk2 : ds.length = 4) (hits : its[k.toNat]? = some (.ref ak)) (hi : IntsAre us ds)
    (B' : Below callerA g [] g) (X' : (KF w.params).In g) (T' : Top viewQ LQ mean mg mb g)
    (ok : TurnOk (ds.getD k.toNat 0) h p f l1 l2 l3)
    (F : Fr g L s.heap (fun z => if z = S "k" then some (.int k t) else frLw lt ld h p th tp u z)) (N : News g L s.heap ((lt, W.listOf its nt) :: (ak, W.listOf #[.int f u0, .int l1 u1, .int l2 u2, .int l3 u3] na) :: (ld, W.listOf us.toArray nd) :: own))
    (hr : ∀ (m' : Str → Option Value) (h1 p1 : Int) (th' tp' : Tok) h' tk, (h1, p1) = lwStep (ds.getD k.toNat 0) (h, p) → m' (S "h") = some (.int h1 th') → m' (S "p") = some (.int p1 tp') → m' (S "told") = some (.ref lt) → m' (S "draws") = some (.ref ld) → Fr g L h' m' → News g L h' ((lt, W.listOf its nt) :: (ak, W.listOf #[.int f u0, .int l1 u1, .int l2 u2, .int l3 u3] na) :: (ld, W.listOf us.toArray nd) :: own) → Q .next { s with heap := h', toks := tk }) :
    wpAny (model PySem.Challenge.rw_tl0038_01.row.prog w) (callerA.deeper (envOf lawD.name lawD.scope L fa (.ref ca))) (execs (lpBody 31 15) (envOf lawD.name lawD.scope L fa (.ref ca))) Q E s := by
  obtain ⟨hgt, hle, e0, e1, e2, e3⟩ := ok
  refine lw_a1 hk0 hk1 hk2 hits hi B' X' T' hgt hle F N ?_
  rintro s1 ⟨m1, h1, k1, tc, c, rfl, hc, F1, i1, i2, i3, i4, i5, i6, N1⟩
  refine lw_a2 hk0 hk1 hk2 hits hi B' X' T' (fr_lwC F1 i1 i2 i3 i4 i5 i6) N1 ?_
  rintro s2 ⟨m2, h2, k2, tu, du, rfl, hd, F2, j1, j2, j3, j4, j5, j6, j7, N2⟩
  have e0' : f = du := by rw [e0, hd, hc]; rfl
  rw [← hc] at e1 e2
  refine lw_b hk0 hk1 hk2 hits hi B' X' T' e0' e1 e2 e3 (fr_lwU F2 j1 j2 j3 j4 j5 j6 j7) N2 ?_
  rintro s3 ⟨m3, h3, k3, rfl, F3, x1, x2, x3, x4, x5, N3⟩
  exact lw_c hk0 hk1 hk2 hits hi B' X' T' (fr_lwK F3 x1 x2 x3 x4 x5) N3 fun m' a b c d e tk q1 q2 q3 q4 q5 q6 q7 => hr m' a b c d e tk q1 q2 q3 q4 q5 q6 q7
end
end Mine
end
section
open PySem PySem.W PyProof.Rows
namespace Mine
structure MyEqI (a b : Int) : Prop where
  out : a = b
structure MyEqW (a b : WiSt) : Prop where
  out : a = b
section
variable {w : World} {mean : ExcName → Option Value} {mg mb : Str → Option Value} {dp un : Nat} {gd : Option (List Code)} {cn : Str} {cs : Scope} {a : Addr} {ccd : Value} {cl : List (Str × Addr)} {outer : List Env} {A₀ : Around} {base h₀ : Heap} {L : Addr} {m : Str → Option Value} {s : Shared} {Q E : Value → Shared → Prop} {news : Led}
theorem con_levE {x y : Str} {mx v : Int} {tx ty tm : Tok} (B : Below A₀ base outer h₀) (F : Fr h₀ L s.heap m) (X : (KF w.params).In h₀) (N : News h₀ L s.heap news) (T : Top viewQ LQ mean mg mb h₀) (hk : cs.kind = .function) (hp0 : x.length < 2 ^ 16) (hp1 : y.length < 2 ^ 16) (hp2 : mx.natAbs < 2 ^ 31) (hp3 : MyEqI (levOf x y mx) v) (hd : dp + 3 < recursionLimit) (hu : un + 24 < cLine)
    (hret : ∀ (t : Tok) (h' : Heap) (tk' : Nat), Fr h₀ L h' m → News h₀ L h' news → s.toks ≤ tk' → Q (.int v t) { s with heap := h', toks := tk' }) :
    wpAny (model PySem.Challenge.rw_tl0038_01.row.prog w) (ktrTop dp un gd cn cs L a ccd cl outer) (call (.ref 141) [.str x tx, .str y ty, .int mx tm]) Q E s := by
  obtain ⟨rfl⟩ := hp3
  exact con_lev B F X N T hk hp0 hp1 hp2 hd hu hret
theorem con_countE {text mark : Str} {v : Int} {tt u : Tok} (B : Below A₀ base outer h₀) (F : Fr h₀ L s.heap m) (X : (KF w.params).In h₀) (N : News h₀ L s.heap news) (T : Top viewQ LQ mean mg mb h₀) (hk : cs.kind = .function) (hp0 : 0 < u) (hp1 : u < s.toks) (hp2 : MyEqI (cntOf text.cps.toList mark) v) (hd : dp + 2 < recursionLimit) (hu : un + 16 < cLine)
    (hret : ∀ (t : Tok) (h' : Heap) (tk' : Nat), Fr h₀ L h' m → News h₀ L h' news → s.toks ≤ tk' → Q (.int v t) { s with heap := h', toks := tk' }) :
    wpAny (model PySem.Challenge.rw_tl0038_01.row.prog w) (ktrTop dp un gd cn cs L a ccd cl outer) (call (.ref 120) [.str text tt, .str mark u]) Q E s := by
  obtain ⟨rfl⟩ := hp2
  exact con_countOf B F X N T hk hp0 hp1 hd hu hret
theorem con_squareE {word : Str} {tw : Tok} {a0 a1 a2 a3 : Int} (B : Below A₀ base outer h₀) (F : Fr h₀ L s.heap m) (X : (KF w.params).In h₀) (N : News h₀ L s.heap news) (T : Top viewQ LQ mean mg mb h₀) (hk : cs.kind = .function) (hp0 : word.length ≤ 16) (hp1 : sqOf word.cps.toList = (a0, a1, a2, a3)) (hd : dp + 4 < recursionLimit) (hu : un + 32 < cLine)
    (hret : ∀ (r : Addr) (v0 v1 v2 v3 : Tok) (nl : Nat) (h' : Heap) (tk' : Nat), Fr h₀ L h' m → News h₀ L h' ((r, W.listOf #[.int a0 v0, .int a1 v1, .int a2 v2, .int a3 v3] nl) :: news) → (∀ p ∈ news, @LT.lt Nat _ p.1 r ∨ @LT.lt Nat _ r p.1) → s.toks ≤ tk' → Q (.ref r) { s with heap := h', toks := tk' }) :
    wpAny (model PySem.Challenge.rw_tl0038_01.row.prog w) (ktrTop dp un gd cn cs L a ccd cl outer) (call (.ref 218) [.str word tw]) Q E s := by
  refine con_square B F X N T hk hp0 hd hu ?_
  rw [hp1]
  exact fun r v0 v1 v2 v3 nl h' tk' a1 a2 a3 => hret r v0 v1 v2 v3 nl h' tk' a1 a2 fun p hp => Nat.lt_or_gt_of_ne (a3 p hp)
theorem con_productE {l r : Addr} {a0 a1 a2 a3 b0 b1 b2 b3 : Int} {t0 t1 t2 t3 u0 u1 u2 u3 : Tok} {nl nr : Nat} (B : Below A₀ base outer h₀) (F : Fr h₀ L s.heap m) (X : (KF w.params).In h₀) (N : News h₀ L s.heap news) (T : Top viewQ LQ mean mg mb h₀) (hk : cs.kind = .function) (hp0 : s.heap.get? l = some (W.listOf #[.int a0 t0, .int a1 t1, .int a2 t2, .int a3 t3] nl)) (hp1 : s.heap.get? r = some (W.listOf #[.int b0 u0, .int b1 u1, .int b2 u2, .int b3 u3] nr)) (hp2 : a0.natAbs < 2 ^ 14 ∧ a1.natAbs < 2 ^ 14 ∧ a2.natAbs < 2 ^ 14 ∧ a3.natAbs < 2 ^ 14) (hp3 : b0.natAbs < 2 ^ 14 ∧ b1.natAbs < 2 ^ 14 ∧ b2.natAbs < 2 ^ 14 ∧ b3.natAbs < 2 ^ 14) (hd : dp + 2 < recursionLimit) (hu : un + 16 < cLine)
    (hret : ∀ (r : Addr) (v0 v1 v2 v3 : Tok) (h' : Heap) (tk' : Nat), Fr h₀ L h' m → News h₀ L h' ((r, W.listOf #[.int (a0 * b0 + a1 * b2) v0, .int (a0 * b1 + a1 * b3) v1, .int (a2 * b0 + a3 * b2) v2, .int (a2 * b1 + a3 * b3) v3] 0) :: news) → (∀ p ∈ news, @LT.lt Nat _ p.1 r ∨ @LT.lt Nat _ r p.1) → s.toks ≤ tk' → Q (.ref r) { s with heap := h', toks := tk' }) :
    wpAny (model PySem.Challenge.rw_tl0038_01.row.prog w) (ktrTop dp un gd cn cs L a ccd cl outer) (call (.ref 211) [.ref l, .ref r]) Q E s :=
  con_product B F X N T hk hp0 hp1 (by omega) (by omega) (by omega) (by omega) (by omega) (by omega) (by omega) (by omega) hd hu fun r v0 v1 v2 v3 h' tk' a1 a2 a3 => hret r v0 v1 v2 v3 h' tk' a1 a2 fun p hp => Nat.lt_or_gt_of_ne (a3 p hp)
theorem con_withinE {ld : Addr} {d0 d1 d2 d3 n0 n1 n2 : Int} {x y : Str} {w0 w1 w2 w3 : Tok} {nd : Nat} (B : Below A₀ base outer h₀) (F : Fr h₀ L s.heap m) (X : (KF w.params).In h₀) (N : News h₀ L s.heap news) (T : Top viewQ LQ mean mg mb h₀) (hk : cs.kind = .function) (hp0 : s.heap.get? ld = some (W.listOf #[.int d0 w0, .int d1 w1, .int d2 w2, .int d3 w3] nd)) (hp1 : WiOk d3 wi0) (hp2 : WiOk d2 (wiStep d3 wi0)) (hp3 : WiOk d1 (wiStep d2 (wiStep d3 wi0))) (hp4 : WiOk d0 (wiStep d1 (wiStep d2 (wiStep d3 wi0)))) (hp5 : MyEqW (wiStep d0 (wiStep d1 (wiStep d2 (wiStep d3 wi0)))) (x, y, n0, n1, n2)) (hd : dp + 5 < recursionLimit) (hu : un + 40 < cLine)
    (hret : ∀ (r lp ln : Addr) (v0 v1 v2 v3 v4 : Tok) (h' : Heap) (tk' : Nat), Fr h₀ L h' m → News h₀ L h' ((r, W.listOf #[.ref lp, .ref ln] 0) :: (lp, W.listOf #[.str x v0, .str y v1] 0) :: (ln, W.listOf #[.int n0 v2, .int n1 v3, .int n2 v4] 0) :: news) → (∀ p ∈ news, (@LT.lt Nat _ p.1 r ∨ @LT.lt Nat _ r p.1) ∧ (@LT.lt Nat _ p.1 lp ∨ @LT.lt Nat _ lp p.1) ∧ (@LT.lt Nat _ p.1 ln ∨ @LT.lt Nat _ ln p.1)) → s.toks ≤ tk' → Q (.ref r) { s with heap := h', toks := tk' }) :
    wpAny (model PySem.Challenge.rw_tl0038_01.row.prog w) (ktrTop dp un gd cn cs L a ccd cl outer) (call (.ref 204) [.ref ld]) Q E s := by
  refine con_within B F X N T hk hp0 hp1 hp2 hp3 hp4 hd hu ?_
  intro r lp ln z r0 r1 v0 v1 v2 v3 v4 h' tk' hz F' N' ne dd l
  rw [hp5.out] at hz
  subst hz
  exact hret r lp ln v0 v1 v2 v3 v4 h' tk' F' N' (fun p hp => ⟨Nat.lt_or_gt_of_ne (ne p hp).1, Nat.lt_or_gt_of_ne (ne p hp).2.1, Nat.lt_or_gt_of_ne (ne p hp).2.2⟩) l
end
theorem levOf_self (x : Str) (mx : Int) : levOf x x mx = 0 := if_pos (beq_self_eq_true x)
section
local macro_rules | `(tactic| walk_at "call builtin:list.append") => `(tactic| walk_at "zd0")
set_option hygiene false in
local macro_rules | `(tactic| walk_at "call ref") => `(tactic| walk_at "zd5")
set_option hygiene false in
local macro_rules | `(tactic| walk_at "call ref") => `(tactic| walk_at "zd9")
set_option hygiene false in
local macro_rules | `(tactic| walk_at "call ref") => `(tactic| (k_here; (with_reducible show wpAny _ _ (call (Value.ref 99) [Value.int _ _, Value.int _ _]) _ _ _); k_dflt (refine' con_mul ?B ?F ?X ?N ?T ?hk ?p0 ?p1 ?hd ?hu ?_); walk_at "zB"; (case p0 => omega); (case p1 => omega); walk_at "zI"))
variable {w : World} {mean : ExcName → Option Value} {mg mb : Str → Option Value} {g : Heap} {L fa ca : Addr} {s : Shared} {Q : Flow → Shared → Prop} {E : Value → Shared → Prop}
set_option maxHeartbeats 2000000 in
theorem lq_turn {q ls : Addr} {a0 a1 a2 a3 : Int} {t0 t1 t2 t3 : Tok} {u : Str → Option Value} {us : List Value} {nq ns : Nat} {own : Led}
    (hb : a0.natAbs < 2 ^ 30 ∧ a1.natAbs < 2 ^ 30 ∧ a2.natAbs < 2 ^ 30 ∧ a3.natAbs < 2 ^ 30) (hsz : us.toArray.size ≤ sizeLine) (hoff : OwnOff own [ls]) (hqs : @LT.lt Nat _ q ls ∨ @LT.lt Nat _ ls q)
    (B' : Below callerA g [] g) (X' : (KF w.params).In g) (T' : Top viewQ LQ mean mg mb g)
    (F : Fr g L s.heap (fun z => if z = S "square" then some (.ref q) else if z = S "seen" then some (.ref ls) else u z))
    (N : News g L s.heap ((ls, W.listOf us.toArray ns) :: (q, W.listOf #[.int a0 t0, .int a1 t1, .int a2 t2, .int a3 t3] nq) :: own))
    (hr : ∀ (l' : Addr) (v0 v1 : Tok) h' tk, Fr g L h' (fun z => if z = S "square" then some (.ref q) else if z = S "seen" then some (.ref ls) else u z) →
      News g L h' ((l', W.listOf #[.int (a0 + a3) v0, .int (a1 * a2 - a0 * a3) v1] 0) :: (ls, W.listOf (us.toArray.push (.ref l')) (ns + 1)) :: (q, W.listOf #[.int a0 t0, .int a1 t1, .int a2 t2, .int a3 t3] nq) :: own) → (ls < l' ∧ q < l' ∧ AllLt l' own) → Q .next { s with heap := h', toks := tk }) :
    wpAny (model PySem.Challenge.rw_tl0038_01.row.prog w) (callerA.deeper (envOf lawD.name lawD.scope L fa (.ref ca))) (execs (lpBody 31 11) (envOf lawD.name lawD.scope L fa (.ref ca))) Q E s := by
  k_steps
  all_goals exact hr _ _ _ _ _ (by k_asm) (by k_asm) (by assumption)
end
end Mine
end
section
open PySem PySem.W PyProof.Rows
namespace Mine
noncomputable def tailOf (x y : Str) : Str := Txt.slice (x ++ y) (some (-3)) none
structure LawF (d0 d1 d2 d3 : Int) (x1 y1 x2 y2 x3 y3 X Y : Str) (n0 n1 n2 a0 a1 a2 a3 b0 b1 b2 b3 h4 p4 h3 p3 h2 p2 h1 p1 : Int) : Prop where
  w0 : WoOk d0 (Str.ofString "h") (Str.ofString "p") x1 y1
  w1 : WoOk d1 x1 y1 x2 y2
  w2 : WoOk d2 x2 y2 x3 y3
  w3 : WoOk d3 x3 y3 X Y
  v3 : WiOk d3 wi0
  v2 : WiOk d2 (wiStep d3 wi0)
  v1 : WiOk d1 (wiStep d2 (wiStep d3 wi0))
  v0 : WiOk d0 (wiStep d1 (wiStep d2 (wiStep d3 wi0)))
  vs : wiStep d0 (wiStep d1 (wiStep d2 (wiStep d3 wi0))) = (X, Y, n0, n1, n2)
  t1 : levOf (tailOf X Y ++ Str.ofString "xyaB") (Str.ofString "x" ++ tailOf X Y ++ Str.ofString "zAb") 8 = 8
  t2 : levOf (tailOf X Y) (Txt.upper (tailOf X Y)) 3 = 3
  sa : sqOf X.cps.toList = (a0, a1, a2, a3)
  sb : sqOf Y.cps.toList = (b0, b1, b2, b3)
  ba : a0.natAbs < 2 ^ 14 ∧ a1.natAbs < 2 ^ 14 ∧ a2.natAbs < 2 ^ 14 ∧ a3.natAbs < 2 ^ 14
  bb : b0.natAbs < 2 ^ 14 ∧ b1.natAbs < 2 ^ 14 ∧ b2.natAbs < 2 ^ 14 ∧ b3.natAbs < 2 ^ 14
  bc : (a0 * b0 + a1 * b2).natAbs < 2 ^ 30 ∧ (a0 * b1 + a1 * b3).natAbs < 2 ^ 30 ∧ (a2 * b0 + a3 * b2).natAbs < 2 ^ 30 ∧ (a2 * b1 + a3 * b3).natAbs < 2 ^ 30
  ea : [a0 + a3, a1 * a2 - a0 * a3] = [3 * n0, -1]
  eb : [b0 + b3, b1 * b2 - b0 * b3] = [3 * n1, -1]
  ec : [a0 * b0 + a1 * b2 + (a2 * b1 + a3 * b3), (a0 * b1 + a1 * b3) * (a2 * b0 + a3 * b2) - (a0 * b0 + a1 * b2) * (a2 * b1 + a3 * b3)] = [3 * n2, -1]
  c1 : cntOf (X ++ Y).cps.toList (Str.ofString "h") = h4
  c2 : cntOf (X ++ Y).cps.toList (Str.ofString "p") = p4
  k3 : TurnOk d3 h4 p4 (woFar d3 (x3 ++ y3) (X ++ Y)) (levOf (x3 ++ y3) (X ++ Y) (woB d3)) (levOf (X ++ Y) (x3 ++ y3) (2 * (((X ++ Y).length : Int) - (x3 ++ y3).length) - 2)) (levOf X (X ++ Y) (woB d3) - 2 * (Y.length : Int))
  k2 : TurnOk d2 h3 p3 (woFar d2 (x2 ++ y2) (x3 ++ y3)) (levOf (x2 ++ y2) (x3 ++ y3) (woB d2)) (levOf (x3 ++ y3) (x2 ++ y2) (2 * (((x3 ++ y3).length : Int) - (x2 ++ y2).length) - 2)) (levOf x3 (x3 ++ y3) (woB d2) - 2 * (y3.length : Int))
  k1 : TurnOk d1 h2 p2 (woFar d1 (x1 ++ y1) (x2 ++ y2)) (levOf (x1 ++ y1) (x2 ++ y2) (woB d1)) (levOf (x2 ++ y2) (x1 ++ y1) (2 * (((x2 ++ y2).length : Int) - (x1 ++ y1).length) - 2)) (levOf x2 (x2 ++ y2) (woB d1) - 2 * (y2.length : Int))
  k0 : TurnOk d0 h1 p1 (woFar d0 (Str.ofString "h" ++ Str.ofString "p") (x1 ++ y1)) (levOf (Str.ofString "h" ++ Str.ofString "p") (x1 ++ y1) (woB d0)) (levOf (x1 ++ y1) (Str.ofString "h" ++ Str.ofString "p") (2 * (((x1 ++ y1).length : Int) - (Str.ofString "h" ++ Str.ofString "p").length) - 2)) (levOf x1 (x1 ++ y1) (woB d0) - 2 * (y1.length : Int))
  s3 : lwStep d3 (h4, p4) = (h3, p3)
  s2 : lwStep d2 (h3, p3) = (h2, p2)
  s1 : lwStep d1 (h2, p2) = (h1, p1)
  s0 : lwStep d0 (h1, p1) = (1, 1)
  oX : PyData.strOk X = true
  oY : PyData.strOk Y = true
end Mine
end
section
open PySem PySem.W PyProof.Rows
namespace Mine
section
variable {w : World} {mean : ExcName → Option Value} {mg mb : Str → Option Value} {g : Heap} {L fa ca : Addr} {s : Shared} {Q : Flow → Shared → Prop} {E : Value → Shared → Prop}
theorem fr_lw {h : Heap} {lt ld : Addr} {hh p k : Int} {th tp t : Tok} {m₁ : Str → Option Value} (F : Fr g L h (fun y => if y = S "k" then some (.int k t) else m₁ y)) (h1 : m₁ (S "h") = some (.int hh th)) (h2 : m₁ (S "p") = some (.int p tp)) (h3 : m₁ (S "told") = some (.ref lt)) (h4 : m₁ (S "draws") = some (.ref ld)) :
    Fr g L h (fun z => if z = S "k" then some (.int k t) else frLw lt ld hh p th tp m₁ z) := by
  have e : m₁ = frLw lt ld hh p th tp m₁ := by
    funext z
    by_cases q1 : z = S "h"
    · subst q1; exact h1
    by_cases q2 : z = S "p"
    · subst q2; exact h2
    by_cases q3 : z = S "told"
    · subst q3; exact h3
    by_cases q4 : z = S "draws"
    · subst q4; exact h4
    simp only [frLw, q1, q2, q3, q4, if_false]
  rw [e] at F
  exact F
theorem fr_lwE {h : Heap} {lt ld : Addr} {hh p : Int} {th tp : Tok} {m₁ : Str → Option Value} (F : Fr g L h m₁) (h1 : m₁ (S "h") = some (.int hh th)) (h2 : m₁ (S "p") = some (.int p tp)) (h3 : m₁ (S "told") = some (.ref lt)) (h4 : m₁ (S "draws") = some (.ref ld)) :
    Fr g L h (frLw lt ld hh p th tp m₁) := by
  have e : m₁ = frLw lt ld hh p th tp m₁ := by
    funext z
    by_cases q1 : z = S "h"
    · subst q1; exact h1
    by_cases q2 : z = S "p"
    · subst q2; exact h2
    by_cases q3 : z = S "told"
    · subst q3; exact h3
    by_cases q4 : z = S "draws"
    · subst q4; exact h4
    simp only [frLw, q1, q2, q3, q4, if_false]
  exact e ▸ F
theorem lw_step {I lx lt ld ak : Addr} {lo : Obj} {hh p k f l1 l2 l3 : Int} {th tp t u0 u1 u2 u3 : Tok} {m : Str → Option Value} {its : Array Value} {us vs : List Value} {ds : List Int} {nt na nd : Nat} {news : Led}
    (hk0 : 0 ≤ k) (hk1 : k < ds.length) (hk2 : ds.length = 4) (hits : its[k.toNat]? = some (.ref ak)) (hi : IntsAre us ds) (ok : TurnOk (ds.getD k.toNat 0) hh p f l1 l2 l3)
    (B' : Below callerA g [] g) (X' : (KF w.params).In g) (T' : Top viewQ LQ mean mg mb g)
    (hm1 : m (S "h") = some (.int hh th)) (hm2 : m (S "p") = some (.int p tp)) (hm3 : m (S "told") = some (.ref lt)) (hm4 : m (S "draws") = some (.ref ld))
    (n1 : (lt, W.listOf its nt) ∈ news) (n2 : (ak, W.listOf #[.int f u0, .int l1 u1, .int l2 u2, .int l3 u3] na) ∈ news) (n3 : (ld, W.listOf us.toArray nd) ∈ news) (hlx : (lx, lo) ∈ news) (hoff : ∀ p ∈ news, p.1 ≠ I)
    (next : ∀ (m' : Str → Option Value) (h1 p1 : Int) (th' tp' : Tok), (h1, p1) = lwStep (ds.getD k.toNat 0) (hh, p) → m' (S "h") = some (.int h1 th') → m' (S "p") = some (.int p1 tp') → m' (S "told") = some (.ref lt) → m' (S "draws") = some (.ref ld) →
      URest PySem.Challenge.rw_tl0038_01.row.prog w (callerA.deeper (envOf lawD.name lawD.scope L fa (.ref ca))) E (envOf lawD.name lawD.scope L fa (.ref ca)) (S "k") (lpBody 31 15) Q s I lx lo vs g m' news) :
    URest PySem.Challenge.rw_tl0038_01.row.prog w (callerA.deeper (envOf lawD.name lawD.scope L fa (.ref ca))) E (envOf lawD.name lawD.scope L fa (.ref ca)) (S "k") (lpBody 31 15) Q s I lx lo (.int k t :: vs) g m news := by
  intro h tk o F N ht
  refine lw_turn (s := { s with heap := h, toks := tk }) (own := (I, o) :: news) hk0 hk1 hk2 hits hi B' X' T' ok (fr_lw F hm1 hm2 hm3 hm4) (nt := nt) (na := na) (nd := nd) (u0 := u0) (u1 := u1) (u2 := u2) (u3 := u3) ?_ ?_
  · intro p hp
    rcases List.mem_cons.mp hp with rfl | hp
    · exact N _ (.tail _ n1)
    rcases List.mem_cons.mp hp with rfl | hp
    · exact N _ (.tail _ n2)
    rcases List.mem_cons.mp hp with rfl | hp
    · exact N _ (.tail _ n3)
    exact N _ hp
  intro m' h1 p1 th' tp' h' tk' e e1 e2 e3 e4 F' N'
  have N'' := drop3 N'
  exact ⟨g, m', news, h', tk', rfl, F', N'', (N'' _ (.tail _ hlx)).1, hoff, next m' h1 p1 th' tp' e e1 e2 e3 e4⟩
end
local macro_rules | `(tactic| walk_at "execs cons") => `(tactic| walk_at "zd2")
local macro_rules | `(tactic| walk_at "execs nil") => `(tactic| walk_at "zd3")
local macro_rules | `(tactic| walk_at "TkLe") => `(tactic| walk_at "zd4")
set_option hygiene false in
local macro_rules | `(tactic| walk_at "call ref") => `(tactic| (k_here; (with_reducible show wpAny _ _ (call (Value.ref 120) [Value.str _ _, Value.str _ _]) _ _ _); k_dflt (refine' con_countE ?B ?F ?X ?N ?T ?hk ?p0 ?p1 ?p2 ?hd ?hu ?_); walk_at "zB"; (case p0 => walk_at "zN"); (case p1 => walk_at "zN"); (case p2 => assumption); walk_at "zI"))
local macro_rules | `(tactic| walk_at "exec For Name List cons nil") => `(tactic| (k_here; refine stopHere ?_))
set_option maxHeartbeats 4000000
section
variable {w : World} {mean : ExcName → Option Value} {mg mb : Str → Option Value} {g : Heap} {L fa ca : Addr} {s : Shared} {Q : Flow → Shared → Prop} {E : Value → Shared → Prop}
theorem law_D {lt ld a0 a1 a2 a3 : Addr} {txt : Str} {d0 d1 d2 d3 h4 p4 h3 p3 h2 p2 h1 p1 f00 f01 f02 f03 f10 f11 f12 f13 f20 f21 f22 f23 f30 f31 f32 f33 : Int} {tt w0 w1 w2 w3 v00 v01 v02 v03 v10 v11 v12 v13 v20 v21 v22 v23 v30 v31 v32 v33 : Tok} {nt na0 na1 na2 na3 nd : Nat} {u : Str → Option Value} {own : Led}
    (B' : Below callerA g [] g) (X' : (KF w.params).In g) (T' : Top viewQ LQ mean mg mb g) (hE : PassesOwn (model PySem.Challenge.rw_tl0038_01.row.prog w) (callerA.deeper (envOf lawD.name lawD.scope L fa (.ref ca))) (envOf lawD.name lawD.scope L fa (.ref ca)) E)
    (F : Fr g L s.heap (fun z => if z = S "text" then some (.str txt tt) else if z = S "told" then some (.ref lt) else if z = S "draws" then some (.ref ld) else u z)) (N : News g L s.heap ((lt, W.listOf #[.ref a0, .ref a1, .ref a2, .ref a3] nt) :: (a3, W.listOf #[.int f30 v30, .int f31 v31, .int f32 v32, .int f33 v33] na3) :: (a2, W.listOf #[.int f20 v20, .int f21 v21, .int f22 v22, .int f23 v23] na2) :: (a1, W.listOf #[.int f10 v10, .int f11 v11, .int f12 v12, .int f13 v13] na1) :: (a0, W.listOf #[.int f00 v00, .int f01 v01, .int f02 v02, .int f03 v03] na0) :: (ld, W.listOf #[.int d0 w0, .int d1 w1, .int d2 w2, .int d3 w3] nd) :: own))
    (htk : 0 < s.toks) (c1 : MyEqI (cntOf txt.cps.toList (Str.ofString "h")) h4) (c2 : MyEqI (cntOf txt.cps.toList (Str.ofString "p")) p4)
    (k3 : TurnOk d3 h4 p4 f30 f31 f32 f33) (k2 : TurnOk d2 h3 p3 f20 f21 f22 f23) (k1 : TurnOk d1 h2 p2 f10 f11 f12 f13) (k0 : TurnOk d0 h1 p1 f00 f01 f02 f03)
    (s3 : lwStep d3 (h4, p4) = (h3, p3)) (s2 : lwStep d2 (h3, p3) = (h2, p2)) (s1 : lwStep d1 (h2, p2) = (h1, p1)) (s0 : lwStep d0 (h1, p1) = (1, 1))
    (hr : ∀ m' h' tk, Fr g L h' m' → Q (.ret (.bool true)) { s with heap := h', toks := tk }) :
    wpAny (model PySem.Challenge.rw_tl0038_01.row.prog w) (callerA.deeper (envOf lawD.name lawD.scope L fa (.ref ca))) (execs ((fb 31).drop 13) (envOf lawD.name lawD.scope L fa (.ref ca))) Q E s := by
  have hi : IntsAre [.int d0 w0, .int d1 w1, .int d2 w2, .int d3 w3] [d0, d1, d2, d3] := .cons _ _ (.cons _ _ (.cons _ _ (.cons _ _ .nil)))
  k_steps
  refine Stop.mk ?_
  refine For_U rfl rfl rfl ?_ (hE := hE)
  k_steps
  rename Fr _ _ _ _ => FE
  rename News _ _ _ _ => NE
  have hxl := NE _ (.head _)
  refine ⟨⟨_, _, _, _, g, _, _, rfl, rfl, rfl, hxl.1, hxl.2.1, FE, NE, ?_⟩⟩
  intro I hI hof
  refine lw_step (k := 3) (ds := [d0, d1, d2, d3]) (by decide) (by show _ < ((4 : Nat) : Int); decide) rfl rfl hi k3 B' X' T' rfl rfl rfl rfl (.tail _ (.head _)) (.tail _ (.tail _ (.head _))) (.tail _ (.tail _ (.tail _ (.tail _ (.tail _ (.tail _ (.head _))))))) (.head _) hof ?_
  intro m3 x3 y3 t3 r3 e3 i1 i2 i3 i4
  have e3' := e3.trans s3
  obtain ⟨rfl, rfl⟩ := Prod.mk.inj e3'
  refine lw_step (k := 2) (ds := [d0, d1, d2, d3]) (by decide) (by show _ < ((4 : Nat) : Int); decide) rfl rfl hi k2 B' X' T' i1 i2 i3 i4 (.tail _ (.head _)) (.tail _ (.tail _ (.tail _ (.head _)))) (.tail _ (.tail _ (.tail _ (.tail _ (.tail _ (.tail _ (.head _))))))) (.head _) hof ?_
  intro m2 x2 y2 t2 r2 e2 j1 j2 j3 j4
  have e2' := e2.trans s2
  obtain ⟨rfl, rfl⟩ := Prod.mk.inj e2'
  refine lw_step (k := 1) (ds := [d0, d1, d2, d3]) (by decide) (by show _ < ((4 : Nat) : Int); decide) rfl rfl hi k1 B' X' T' j1 j2 j3 j4 (.tail _ (.head _)) (.tail _ (.tail _ (.tail _ (.tail _ (.head _))))) (.tail _ (.tail _ (.tail _ (.tail _ (.tail _ (.tail _ (.head _))))))) (.head _) hof ?_
  intro m1 x1 y1 t1 r1 e1 k1' k2' k3' k4'
  have e1' := e1.trans s1
  obtain ⟨rfl, rfl⟩ := Prod.mk.inj e1'
  refine lw_step (k := 0) (ds := [d0, d1, d2, d3]) (by decide) (by show _ < ((4 : Nat) : Int); decide) rfl rfl hi k0 B' X' T' k1' k2' k3' k4' (.tail _ (.head _)) (.tail _ (.tail _ (.tail _ (.tail _ (.tail _ (.head _)))))) (.tail _ (.tail _ (.tail _ (.tail _ (.tail _ (.tail _ (.head _))))))) (.head _) hof ?_
  intro m0 x0 y0 t0 r0 e0 l1 l2 l3 l4
  have e0' := e0.trans s0
  obtain ⟨rfl, rfl⟩ := Prod.mk.inj e0'
  intro hh tkh Fh Nh
  have Fh' := fr_lwE Fh l1 l2 l3 l4
  clear Fh FE NE
  k_steps
  exact hr _ _ _ (by k_asm)
end
end Mine
end
section
open PySem PySem.W PyProof.Rows
namespace Mine
theorem comp_end {h₀ : Heap} {L I C D l' : Addr} {m : Str → Option Value} {s₁ : Shared} {oI oC oD o' : Obj} {S : Led → Prop} {rest : Value → Led → Prop} {y : Value} {h' : Heap} {tk : Nat} {news : Led} {X : Prop}
    (F : Fr h₀ L h' m) (N : News h₀ L h' ((l', o') :: (I, oI) :: (C, oC) :: (D, oD) :: news)) (off : LCg.Off3 I C D news) (lt : @LT.lt Nat _ I l' ∧ @LT.lt Nat _ C l' ∧ @LT.lt Nat _ D l' ∧ X) (hS : S ((l', o') :: news)) (r : rest y ((l', o') :: news)) :
    LCg.CompEnd h₀ L m s₁ I oI C oC D oD S rest y { s₁ with heap := h', toks := tk } :=
  LCg.CompEnd.intro F N ((l', o') :: news) (fun p hp => by
    simp only [List.mem_cons] at hp ⊢
    rcases hp with rfl | rfl | rfl | rfl | hp <;> simp_all) ⟨⟨Nat.ne_of_gt lt.1, Nat.ne_of_gt lt.2.1, Nat.ne_of_gt lt.2.2.1⟩, off⟩ hS r
local macro_rules | `(tactic| walk_at "CompEnd") => `(tactic| (with_unfolding_all (refine comp_end (by assumption) (by assumption) (by assumption) (by assumption) (by lcg_src) ?_)))
local macro_rules | `(tactic| walk_at "CompRest") => `(tactic| (with_unfolding_all (refine LCg.CompRest.succ ?_; intro v' I' oI' C' oC' D' m' h' tk' E' hv' hC' hx' F' N' off' ne'; lcg_open hv')))
noncomputable def compE : Expr := match (fb 31).getD 12 default with | .If t _ _ _ => (match t with | .Compare _ _ [c] _ => c | _ => default) | _ => default
set_option maxHeartbeats 4000000
section
variable {w : World} {mean : ExcName → Option Value} {mg mb : Str → Option Value} {g : Heap} {L fa ca : Addr} {s : Shared} {Q : Value → Shared → Prop} {E : Value → Shared → Prop}
theorem law_comp {ln : Addr} {own : Led} {n0 n1 n2 : Int} {tn0 tn1 tn2 : Tok} {nn : Nat} {u : Str → Option Value}
    (B' : Below callerA g [] g) (X' : (KF w.params).In g) (T' : Top viewQ LQ mean mg mb g) (hE : PassesOwn (model PySem.Challenge.rw_tl0038_01.row.prog w) (callerA.deeper (envOf lawD.name lawD.scope L fa (.ref ca))) (envOf lawD.name lawD.scope L fa (.ref ca)) E)
    (hb : n0.natAbs < 2 ^ 30 ∧ n1.natAbs < 2 ^ 30 ∧ n2.natAbs < 2 ^ 30)
    (F : Fr g L s.heap (fun z => if z = S "numbers" then some (.ref ln) else u z)) (N : News g L s.heap ((ln, W.listOf #[.int n0 tn0, .int n1 tn1, .int n2 tn2] nn) :: own))
    (hr : ∀ (D l1 l2 l3 : Addr) (t1 t2 t3 t4 t5 t6 : Tok) (nD : Nat) h' tk, Fr g L h' (fun z => if z = S "numbers" then some (.ref ln) else u z) → News g L h' ((D, W.listOf #[.ref l1, .ref l2, .ref l3] nD) :: (l3, W.listOf #[.int (3 * n2) t5, .int (-1) t6] 0) :: (l2, W.listOf #[.int (3 * n1) t3, .int (-1) t4] 0) :: (l1, W.listOf #[.int (3 * n0) t1, .int (-1) t2] 0) :: (ln, W.listOf #[.int n0 tn0, .int n1 tn1, .int n2 tn2] nn) :: own) → Q (.ref D) { s with heap := h', toks := tk }) :
    wpAny (model PySem.Challenge.rw_tl0038_01.row.prog w) (callerA.deeper (envOf lawD.name lawD.scope L fa (.ref ca))) (eval compE (envOf lawD.name lawD.scope L fa (.ref ca))) Q E s := by
  conv in (occs := *) compE => all_goals whnf
  k_steps
  exact hr _ _ _ _ _ _ _ _ _ _ _ _ _ (by k_asm) (by k_asm)
end
section
variable {prog : Program} {w : World} {A : Around} {E : Value → Shared → Prop} {s : Shared}
theorem reads_row {h : Heap} {a : Addr} {x y : Int} {t u : Tok} {n : Nat} (ha : h.get? a = some (W.listOf #[.int x t, .int y u] n)) : Reads h (.ref a) (.list [.int x, .int y]) [a] :=
  .list ha rfl rfl (.cons (.int _ _) (.cons (.int _ _) .nil))
theorem reads_rows {h : Heap} {b k1 k2 k3 : Addr} {x1 y1 x2 y2 x3 y3 : Int} {t1 u1 t2 u2 t3 u3 : Tok} {n m1 m2 m3 : Nat} (hb : h.get? b = some (W.listOf #[.ref k1, .ref k2, .ref k3] n)) (h1 : h.get? k1 = some (W.listOf #[.int x1 t1, .int y1 u1] m1)) (h2 : h.get? k2 = some (W.listOf #[.int x2 t2, .int y2 u2] m2)) (h3 : h.get? k3 = some (W.listOf #[.int x3 t3, .int y3 u3] m3)) :
    Reads h (.ref b) (.list [.list [.int x1, .int y1], .list [.int x2, .int y2], .list [.int x3, .int y3]]) [b, k1, k2, k3] :=
  .list hb rfl rfl (.cons (reads_row h1) (.cons (reads_row h2) (.cons (reads_row h3) .nil)))
theorem shaped_rows {x1 y1 x2 y2 x3 y3 : Int} : SeqAt.shaped (.list [.list [.int x1, .int y1], .list [.int x2, .int y2], .list [.int x3, .int y3]]) = true := by
  simp [SeqAt.shaped, PyData.canLay0, PyData.canLayAll0, PyData.depth, PyData.depthAll]
theorem eqv_rows {x1 y1 x2 y2 x3 y3 : Int} : PyData.eqv (.list [.list [.int x1, .int y1], .list [.int x2, .int y2], .list [.int x3, .int y3]]) (.list [.list [.int x1, .int y1], .list [.int x2, .int y2], .list [.int x3, .int y3]]) = true := by
  simp [PyData.eqv, PyData.eqvAll]
theorem ne_rows {a b : Addr} {as bs : List Addr} {x1 y1 x2 y2 x3 y3 : Int} {Q : Value → Shared → Prop} (ra : Reads s.heap (.ref a) (.list [.list [.int x1, .int y1], .list [.int x2, .int y2], .list [.int x3, .int y3]]) as) (rb : Reads s.heap (.ref b) (.list [.list [.int x1, .int y1], .list [.int x2, .int y2], .list [.int x3, .int y3]]) bs) (hu : A.units + 64 < cLine) (h : Q (.bool false) s) :
    wpAny (model prog w) A (compareOp .NotEq (.ref a) (.ref b)) Q E s := by
  refine ne_dataH ra rb shaped_rows shaped_rows hu ?_
  rw [eqv_rows]
  exact h
end
end Mine
end
section
open PySem PySem.W PyProof.Rows
namespace Mine
theorem kf_filled24b : ∀ (P : Params) (h : Heap) (_ : (KF P).In h) (_ : PySem.Challenge.rw_tl0038_01.most = some 63), True := by
  k_fill
  intros
  trivial
section
variable {w : World} {mean : ExcName → Option Value} {mg mb : Str → Option Value} {g : Heap} {L fa ca : Addr} {s : Shared} {Q : Flow → Shared → Prop} {E : Value → Shared → Prop}
noncomputable def szO (o : Obj) : Nat := match o.data with | .seq a _ => a.size | _ => 1
theorem off_of {h : Heap} {ls : Addr} {o : Obj} {own : Led} (h1 : h.get? ls = some o) (h0 : szO o = 0) (N : News g L h own) (hne : ∀ p ∈ own, szO p.2 ≠ 0) : ∀ p ∈ own, p.1 ≠ ls := fun p hp z => hne p hp (by
  have := (N p hp).1
  rw [z, h1] at this
  rw [← Option.some.inj this, h0])
theorem frC_norm {h : Heap} {ls ln lt ld : Addr} {txt : Str} {tt : Tok} {m₁ : Str → Option Value} (F : Fr g L h m₁) (h0 : m₁ (S "seen") = some (.ref ls)) (h1 : m₁ (S "text") = some (.str txt tt)) (h3 : m₁ (S "numbers") = some (.ref ln)) (h4 : m₁ (S "told") = some (.ref lt)) (h5 : m₁ (S "draws") = some (.ref ld)) :
    Fr g L h (fun z => if z = S "numbers" then some (.ref ln) else if z = S "seen" then some (.ref ls) else if z = S "text" then some (.str txt tt) else if z = S "told" then some (.ref lt) else if z = S "draws" then some (.ref ld) else m₁ z) := by
  have e : m₁ = (fun z => if z = S "numbers" then some (.ref ln) else if z = S "seen" then some (.ref ls) else if z = S "text" then some (.str txt tt) else if z = S "told" then some (.ref lt) else if z = S "draws" then some (.ref ld) else m₁ z) := by
    funext z
    by_cases q3 : z = S "numbers"
    · subst q3; rw [if_pos rfl]; exact h3
    by_cases q0 : z = S "seen"
    · subst q0; rw [if_neg q3, if_pos rfl]; exact h0
    by_cases q1 : z = S "text"
    · subst q1; rw [if_neg q3, if_neg q0, if_pos rfl]; exact h1
    by_cases q4 : z = S "told"
    · subst q4; rw [if_neg q3, if_neg q0, if_neg q1, if_pos rfl]; exact h4
    by_cases q5 : z = S "draws"
    · subst q5; rw [if_neg q3, if_neg q0, if_neg q1, if_neg q4, if_pos rfl]; exact h5
    rw [if_neg q3, if_neg q0, if_neg q1, if_neg q4, if_neg q5]
  exact e ▸ F
theorem fr_lq {h : Heap} {q ls : Addr} {m₁ : Str → Option Value} (F : Fr g L h (fun y => if y = S "square" then some (.ref q) else m₁ y)) (h1 : m₁ (S "seen") = some (.ref ls)) :
    Fr g L h (fun z => if z = S "square" then some (.ref q) else if z = S "seen" then some (.ref ls) else m₁ z) := by
  have e : m₁ = fun z => if z = S "seen" then some (.ref ls) else m₁ z := by
    funext z
    by_cases q1 : z = S "seen"
    · subst q1; rw [if_pos rfl]; exact h1
    rw [if_neg q1]
  rw [e] at F
  exact F
theorem lq_step {I lx ls q : Addr} {lo : Obj} {a0 a1 a2 a3 : Int} {t0 t1 t2 t3 : Tok} {m : Str → Option Value} {us vs : List Value} {nq ns : Nat} {rest : Led}
    (hb : a0.natAbs < 2 ^ 30 ∧ a1.natAbs < 2 ^ 30 ∧ a2.natAbs < 2 ^ 30 ∧ a3.natAbs < 2 ^ 30) (hsz : us.toArray.size ≤ sizeLine) (hq : (q, W.listOf #[.int a0 t0, .int a1 t1, .int a2 t2, .int a3 t3] nq) ∈ rest) (hlx : (lx, lo) ∈ rest)
    (hoff : ∀ p ∈ rest, p.1 ≠ ls) (hoffI : ∀ p ∈ (ls, W.listOf us.toArray ns) :: rest, p.1 ≠ I)
    (B' : Below callerA g [] g) (X' : (KF w.params).In g) (T' : Top viewQ LQ mean mg mb g) (hm : m (S "seen") = some (.ref ls))
    (next : ∀ (m' : Str → Option Value) (l' : Addr) (v0 v1 : Tok), (∀ z, z ≠ S "square" → m' z = m z) → (∀ p ∈ (l', W.listOf #[.int (a0 + a3) v0, .int (a1 * a2 - a0 * a3) v1] 0) :: rest, p.1 ≠ ls) → (∀ p ∈ (ls, W.listOf (us ++ [Value.ref l']).toArray (ns + 1)) :: (l', W.listOf #[.int (a0 + a3) v0, .int (a1 * a2 - a0 * a3) v1] 0) :: rest, p.1 ≠ I) →
      URest PySem.Challenge.rw_tl0038_01.row.prog w (callerA.deeper (envOf lawD.name lawD.scope L fa (.ref ca))) E (envOf lawD.name lawD.scope L fa (.ref ca)) (S "square") (lpBody 31 11) Q s I lx lo vs g m' ((ls, W.listOf (us ++ [Value.ref l']).toArray (ns + 1)) :: (l', W.listOf #[.int (a0 + a3) v0, .int (a1 * a2 - a0 * a3) v1] 0) :: rest)) :
    URest PySem.Challenge.rw_tl0038_01.row.prog w (callerA.deeper (envOf lawD.name lawD.scope L fa (.ref ca))) E (envOf lawD.name lawD.scope L fa (.ref ca)) (S "square") (lpBody 31 11) Q s I lx lo (.ref q :: vs) g m ((ls, W.listOf us.toArray ns) :: rest) := by
  intro h tk o F N ht
  have hqs : q ≠ ls := hoff _ hq
  refine lq_turn (s := { s with heap := h, toks := tk }) (own := (I, o) :: rest) hb hsz ?_ (Nat.lt_or_gt_of_ne hqs) B' X' T' (fr_lq F hm) (nq := nq) (ns := ns) (t0 := t0) (t1 := t1) (t2 := t2) (t3 := t3) ?_ ?_
  · intro p hp b hb
    rw [List.mem_singleton.mp hb]
    rcases List.mem_cons.mp hp with rfl | hp
    · exact fun z => hoffI _ (.head _) z.symm
    · exact hoff p hp
  · intro p hp
    rcases List.mem_cons.mp hp with rfl | hp
    · exact N _ (.tail _ (.head _))
    rcases List.mem_cons.mp hp with rfl | hp
    · exact N _ (.tail _ (.tail _ hq))
    rcases List.mem_cons.mp hp with rfl | hp
    · exact N _ (.head _)
    exact N _ (.tail _ (.tail _ hp))
  intro l' v0 v1 h' tk' F' N' lt
  obtain ⟨lt1, lt2, lt3⟩ := lt
  have lt4 := allLt_mem lt3
  have hlI : l' ≠ I := fun z => lt4 _ (.head _) z.symm
  have hll : l' ≠ ls := Nat.ne_of_gt lt1
  have N'' : News g L h' ((I, o) :: (ls, W.listOf (us ++ [Value.ref l']).toArray (ns + 1)) :: (l', W.listOf #[.int (a0 + a3) v0, .int (a1 * a2 - a0 * a3) v1] 0) :: rest) := by
    have e : us.toArray.push (Value.ref l') = (us ++ [Value.ref l']).toArray := by simp
    rw [e] at N'
    intro p hp
    rcases List.mem_cons.mp hp with rfl | hp
    · exact N' _ (.tail _ (.tail _ (.tail _ (.head _))))
    rcases List.mem_cons.mp hp with rfl | hp
    · exact N' _ (.tail _ (.head _))
    rcases List.mem_cons.mp hp with rfl | hp
    · exact N' _ (.head _)
    exact N' _ (.tail _ (.tail _ (.tail _ (.tail _ hp))))
  have hoff' : ∀ p ∈ (l', W.listOf #[.int (a0 + a3) v0, .int (a1 * a2 - a0 * a3) v1] 0) :: rest, p.1 ≠ ls := by
    intro p hp
    rcases List.mem_cons.mp hp with rfl | hp
    · exact hll
    exact hoff p hp
  have hoffI' : ∀ p ∈ (ls, W.listOf (us ++ [Value.ref l']).toArray (ns + 1)) :: (l', W.listOf #[.int (a0 + a3) v0, .int (a1 * a2 - a0 * a3) v1] 0) :: rest, p.1 ≠ I := by
    intro p hp
    rcases List.mem_cons.mp hp with rfl | hp
    · exact hoffI (ls, W.listOf us.toArray ns) (.head _)
    rcases List.mem_cons.mp hp with rfl | hp
    · exact hlI
    exact hoffI p (.tail _ hp)
  refine ⟨g, _, _, h', tk', rfl, F', N'', (N'' _ (.tail _ (.tail _ (.tail _ hlx)))).1, hoffI', next _ l' v0 v1 ?_ hoff' hoffI'⟩
  intro z hz
  rw [if_neg hz]
  by_cases q1 : z = S "seen"
  · rw [if_pos q1, q1, hm]
  · rw [if_neg q1]
end
local macro_rules | `(tactic| walk_at "execs cons") => `(tactic| walk_at "zd2")
local macro_rules | `(tactic| walk_at "execs nil") => `(tactic| walk_at "zd3")
local macro_rules | `(tactic| walk_at "TkLe") => `(tactic| walk_at "zd4")
set_option hygiene false in
local macro_rules | `(tactic| walk_at "call ref") => `(tactic| (k_here; (with_reducible show wpAny _ _ (call (Value.ref 218) [Value.str _ _]) _ _ _); k_dflt (refine' con_squareE ?B ?F ?X ?N ?T ?hk ?p0 ?p1 ?hd ?hu ?_); walk_at "zB"; (case p0 => assumption); (case p1 => assumption); intro r9z v09z v19z v29z v39z nl9z h9z tk9z F9z N9z ne9z l9z; (clear ne9z); (try dsimp only at l9z); walk_at "zT"))
set_option hygiene false in
local macro_rules | `(tactic| walk_at "call ref") => `(tactic| (k_here; (with_reducible show wpAny _ _ (call (Value.ref 211) [Value.ref _, Value.ref _]) _ _ _); (rename News _ _ _ _ => nQ99z); k_dflt (refine' con_productE ?B ?F ?X ?N ?T ?hk ?p0 ?p1 ?p2 ?p3 ?hd ?hu ?_); walk_at "zB"; (case p0 => k_dflt (exact (News.get nQ99z (by k_mem)))); (case p1 => k_dflt (exact (News.get nQ99z (by k_mem)))); (case p2 => assumption); (case p3 => assumption); intro r9z v09z v19z v29z v39z h9z tk9z F9z N9z ne9z l9z; (clear ne9z); (try dsimp only at l9z); walk_at "zT"))
theorem News.pickC {a b c d e e1 e2 e3 e4 e5 e6 e7 e8 e9 e10 i : Addr × Obj} {g h : Heap} {L : Addr} (N : News g L h [a, b, c, d, e1, e2, e3, e4, e5, i, e6, e7, e8, e9, e10, e]) : News g L h [i, a, b, c, d, e6, e7, e8, e9, e10, e] := fun p hp => N p (by
  simp only [List.mem_cons, List.not_mem_nil, or_false] at hp ⊢
  rcases hp with rfl | rfl | rfl | rfl | rfl | rfl | rfl | rfl | rfl | rfl | rfl <;> simp)
theorem pair_inj {a b c d : Int} (h : [a, b] = [c, d]) : a = c ∧ b = d := by
  injection h with h1 h2
  injection h2 with h2 _
  exact ⟨h1, h2⟩
theorem lt30 {n : Nat} (h : n < 2 ^ 14) : n < 2 ^ 30 := Nat.lt_trans h (by decide)
theorem all30 {a b c d : Int} (h : a.natAbs < 2 ^ 14 ∧ b.natAbs < 2 ^ 14 ∧ c.natAbs < 2 ^ 14 ∧ d.natAbs < 2 ^ 14) : a.natAbs < 2 ^ 30 ∧ b.natAbs < 2 ^ 30 ∧ c.natAbs < 2 ^ 30 ∧ d.natAbs < 2 ^ 30 := ⟨lt30 h.1, lt30 h.2.1, lt30 h.2.2.1, lt30 h.2.2.2⟩
theorem bd_n {a b n : Int} (h : a + b = 3 * n) (ha : a.natAbs < 2 ^ 30) (hb : b.natAbs < 2 ^ 30) : n.natAbs < 2 ^ 30 := by
  have h1 := Int.natAbs_add_le a b
  rw [h, Int.natAbs_mul] at h1
  have h2 : (3 : Int).natAbs * n.natAbs < 3 * 2 ^ 30 := Nat.lt_of_le_of_lt h1 (Nat.lt_trans (Nat.add_lt_add ha hb) (by decide))
  exact Nat.lt_of_mul_lt_mul_left h2
theorem News.lastC {d1 d2 d3 d4 d5 ls l1 l2 l3 e6 e7 e8 e9 e10 e : Addr × Obj} {g h : Heap} {L : Addr} (N : News g L h [d1, d2, d3, d4, d5, ls, l3, l2, l1, e6, e7, e8, e9, e10, e]) : News g L h [e6, e7, e8, e9, e10, e] := fun p hp => N p (by
  simp only [List.mem_cons, List.not_mem_nil, or_false] at hp ⊢
  rcases hp with rfl | rfl | rfl | rfl | rfl | rfl <;> simp)
theorem rot3 {a b c : Addr × Obj} {g h : Heap} {L : Addr} {own : Led} (N : News g L h (a :: b :: c :: own)) : News g L h (c :: a :: b :: own) := fun p hp => N p (by
  simp only [List.mem_cons] at hp ⊢
  rcases hp with rfl | rfl | rfl | hp <;> simp_all)
local macro_rules | `(tactic| walk_at "eval ListComp") => `(tactic| (k_here; refine stopHere ?_))
local macro_rules | `(tactic| walk_at "compareOp NotEq ref ref") => `(tactic| walk_at "zd10")
local macro_rules | `(tactic| walk_at "exec For Name List cons nil") => `(tactic| (k_here; refine stopHere ?_))
local macro_rules | `(tactic| walk_at "execs cons") => `(tactic| (k_here; (with_reducible show wpAny _ _ (execs (Stmt.Assign [Expr.Name (Str.ofString "h") _] _ _ :: _) _) _ _ _); refine stopHere ?_))
set_option maxHeartbeats 4000000
section
variable {w : World} {mean : ExcName → Option Value} {mg mb : Str → Option Value} {g : Heap} {L fa ca : Addr} {s : Shared} {Q : Flow → Shared → Prop} {E : Value → Shared → Prop}
theorem law_C {rw ln lt ld a0 a1 a2 a3 : Addr} {x y txt : Str} {n0 n1 n2 A0 A1 A2 A3 B0 B1 B2 B3 d0 d1 d2 d3 f00 f01 f02 f03 f10 f11 f12 f13 f20 f21 f22 f23 f30 f31 f32 f33 : Int} {tt tx ty tn0 tn1 tn2 w0 w1 w2 w3 v00 v01 v02 v03 v10 v11 v12 v13 v20 v21 v22 v23 v30 v31 v32 v33 : Tok} {nw nn nt na0 na1 na2 na3 nd : Nat} {u : Str → Option Value}
    (B' : Below callerA g [] g) (X' : (KF w.params).In g) (T' : Top viewQ LQ mean mg mb g) (hE : PassesOwn (model PySem.Challenge.rw_tl0038_01.row.prog w) (callerA.deeper (envOf lawD.name lawD.scope L fa (.ref ca))) (envOf lawD.name lawD.scope L fa (.ref ca)) E)
    (F : Fr g L s.heap (fun z => if z = S "text" then some (.str txt tt) else if z = S "words" then some (.ref rw) else if z = S "numbers" then some (.ref ln) else if z = S "told" then some (.ref lt) else if z = S "draws" then some (.ref ld) else u z)) (N : News g L s.heap ([(rw, W.listOf #[.str x tx, .str y ty] nw), (ln, W.listOf #[.int n0 tn0, .int n1 tn1, .int n2 tn2] nn), (lt, W.listOf #[.ref a0, .ref a1, .ref a2, .ref a3] nt), (a3, W.listOf #[.int f30 v30, .int f31 v31, .int f32 v32, .int f33 v33] na3), (a2, W.listOf #[.int f20 v20, .int f21 v21, .int f22 v22, .int f23 v23] na2), (a1, W.listOf #[.int f10 v10, .int f11 v11, .int f12 v12, .int f13 v13] na1), (a0, W.listOf #[.int f00 v00, .int f01 v01, .int f02 v02, .int f03 v03] na0), (ld, W.listOf #[.int d0 w0, .int d1 w1, .int d2 w2, .int d3 w3] nd)]))
    (htk : 0 < s.toks) (zlx : x.length ≤ 16) (zly : y.length ≤ 16)
    (zsa : sqOf x.cps.toList = (A0, A1, A2, A3)) (zsb : sqOf y.cps.toList = (B0, B1, B2, B3))
    (zba : A0.natAbs < 2 ^ 14 ∧ A1.natAbs < 2 ^ 14 ∧ A2.natAbs < 2 ^ 14 ∧ A3.natAbs < 2 ^ 14)
    (zbb : B0.natAbs < 2 ^ 14 ∧ B1.natAbs < 2 ^ 14 ∧ B2.natAbs < 2 ^ 14 ∧ B3.natAbs < 2 ^ 14)
    (zbc : (A0 * B0 + A1 * B2).natAbs < 2 ^ 30 ∧ (A0 * B1 + A1 * B3).natAbs < 2 ^ 30 ∧ (A2 * B0 + A3 * B2).natAbs < 2 ^ 30 ∧ (A2 * B1 + A3 * B3).natAbs < 2 ^ 30)
    (ea : [A0 + A3, A1 * A2 - A0 * A3] = [3 * n0, -1]) (eb : [B0 + B3, B1 * B2 - B0 * B3] = [3 * n1, -1])
    (ec : [A0 * B0 + A1 * B2 + (A2 * B1 + A3 * B3), (A0 * B1 + A1 * B3) * (A2 * B0 + A3 * B2) - (A0 * B0 + A1 * B2) * (A2 * B1 + A3 * B3)] = [3 * n2, -1])
    (hr : ∀ s' : Shared, (∃ m' h' tk, s' = { s with heap := h', toks := tk } ∧ s.toks ≤ tk ∧ Fr g L h' m' ∧ m' (S "text") = some (.str txt tt) ∧ m' (S "told") = some (.ref lt) ∧ m' (S "draws") = some (.ref ld) ∧ News g L h' ([(lt, W.listOf #[.ref a0, .ref a1, .ref a2, .ref a3] nt), (a3, W.listOf #[.int f30 v30, .int f31 v31, .int f32 v32, .int f33 v33] na3), (a2, W.listOf #[.int f20 v20, .int f21 v21, .int f22 v22, .int f23 v23] na2), (a1, W.listOf #[.int f10 v10, .int f11 v11, .int f12 v12, .int f13 v13] na1), (a0, W.listOf #[.int f00 v00, .int f01 v01, .int f02 v02, .int f03 v03] na0), (ld, W.listOf #[.int d0 w0, .int d1 w1, .int d2 w2, .int d3 w3] nd)])) → wpAny (model PySem.Challenge.rw_tl0038_01.row.prog w) (callerA.deeper (envOf lawD.name lawD.scope L fa (.ref ca))) (execs ((fb 31).drop 13) (envOf lawD.name lawD.scope L fa (.ref ca))) Q E s') :
    wpAny (model PySem.Challenge.rw_tl0038_01.row.prog w) (callerA.deeper (envOf lawD.name lawD.scope L fa (.ref ca))) (execs ((fb 31).drop 8) (envOf lawD.name lawD.scope L fa (.ref ca))) Q E s := by
  k_steps
  refine Stop.mk ?_
  refine For_U rfl rfl rfl ?_ (hE := hE)
  k_steps
  rename Fr g _ _ _ => FE
  rename News g _ _ _ => NE
  have hxl := NE _ (.head _)
  have hls := (NE _ (.tail _ (.tail _ (.head _)))).1
  have NR := rot3 NE
  have NO : News g L _ _ := fun p hp => NR p (.tail _ hp)
  refine ⟨⟨_, _, _, _, g, _, _, rfl, rfl, rfl, hxl.1, hxl.2.1, FE, NR, ?_⟩⟩
  intro I hI hofI
  have hof := off_of hls rfl NO (by simp [szO, W.listOf])
  refine lq_step (us := []) (all30 zba) (Nat.le_of_ble_eq_true rfl) (.tail _ (.tail _ (.tail _ (.head _)))) (.head _) hof hofI B' X' T' rfl ?_
  intro m1 l1 t1 t1' g1 hof hofI
  refine lq_step (us := [_]) (all30 zbb) (Nat.le_of_ble_eq_true rfl) (.tail _ (.tail _ (.tail _ (.head _)))) (.tail _ (.head _)) hof hofI B' X' T' ((g1 _ (by decide)).trans rfl) ?_
  intro m2 l2 t2 t2' g2 hof hofI
  refine lq_step (us := [_, _]) zbc (Nat.le_of_ble_eq_true rfl) (.tail _ (.tail _ (.tail _ (.head _)))) (.tail _ (.tail _ (.head _))) hof hofI B' X' T' ((g2 _ (by decide)).trans ((g1 _ (by decide)).trans rfl)) ?_
  intro m3 l3 t3 t3' g3 hof hofI
  have mm : ∀ z, z ≠ S "square" → m3 z = _ := fun z hz => (g3 z hz).trans ((g2 z hz).trans (g1 z hz))
  intro hh tkh Fh Nh
  have Fh' := frC_norm Fh ((mm _ (by decide)).trans rfl) ((mm _ (by decide)).trans rfl) ((mm _ (by decide)).trans rfl) ((mm _ (by decide)).trans rfl) ((mm _ (by decide)).trans rfl)
  clear Fh FE NE NR NO hls hxl hof hofI mm g1 g2 g3
  obtain ⟨ea1, ea2⟩ := pair_inj ea
  obtain ⟨eb1, eb2⟩ := pair_inj eb
  obtain ⟨ec1, ec2⟩ := pair_inj ec
  have NS := News.pickC Nh
  clear Nh
  have hb3 : n0.natAbs < 2 ^ 30 ∧ n1.natAbs < 2 ^ 30 ∧ n2.natAbs < 2 ^ 30 := ⟨bd_n ea1 (lt30 zba.1) (lt30 zba.2.2.2), bd_n eb1 (lt30 zbb.1) (lt30 zbb.2.2.2), bd_n ec1 zbc.1 zbc.2.2.2⟩
  k_steps
  refine Stop.mk ?_
  rename Fr g _ _ _ => FE
  rename News g _ _ _ => NE
  refine law_comp B' X' T' hE hb3 FE NE ?_
  intro D k1 k2 k3 v1 v2 v3 v4 v5 v6 nD h' tk F' N'
  dsimp only
  clear FE NE
  k_steps
  refine Stop.mk ?_
  rename News g _ _ _ => NE
  have q0 := (NE _ (.head _)).1
  have q3 := (NE _ (.tail _ (.head _))).1
  have q2 := (NE _ (.tail _ (.tail _ (.head _)))).1
  have q1 := (NE _ (.tail _ (.tail _ (.tail _ (.head _))))).1
  have p0 := (NE _ (.tail _ (.tail _ (.tail _ (.tail _ (.tail _ (.head _))))))).1
  have p3 := (NE _ (.tail _ (.tail _ (.tail _ (.tail _ (.tail _ (.tail _ (.head _)))))))).1
  have p2 := (NE _ (.tail _ (.tail _ (.tail _ (.tail _ (.tail _ (.tail _ (.tail _ (.head _))))))))).1
  have p1 := (NE _ (.tail _ (.tail _ (.tail _ (.tail _ (.tail _ (.tail _ (.tail _ (.tail _ (.head _)))))))))).1
  dsimp only at q0 q1 q2 q3 p0 p1 p2 p3
  rw [ea1, ea2] at p1
  rw [eb1, eb2] at p2
  rw [ec1, ec2] at p3
  refine ne_rows (reads_rows p0 p1 p2 p3) (reads_rows q0 q1 q2 q3) (by ktr_units) ?_
  clear q0 q1 q2 q3 p0 p1 p2 p3
  k_steps
  refine Stop.mk ?_
  rename Fr g _ _ _ => FE
  rename News g _ _ _ => NE
  exact hr _ ⟨_, _, _, rfl, (by clear zba zbb zbc ea eb ec ea1 ea2 eb1 eb2 ec1 ec2 hb3; (show (_ : Nat) ≤ _); (try dsimp only); omega), FE, rfl, rfl, rfl, News.lastC NE⟩
end
end Mine
end
section
open PySem PySem.W PyProof.Rows
namespace Mine
section
variable {prog : Program} {w : World} {A : Around} {E : Value → Shared → Prop} {s : Shared}
theorem ne_strSelf {x : Str} {t u : Tok} {Q : Value → Shared → Prop} (h : Q (.bool false) s) : wpAny (model prog w) A (compareOp .NotEq (.str x t) (.str x u)) Q E s := by
  refine PyProof.Rows.ne_str ?_
  have e : (x != x) = false := by simp
  rw [e]
  exact h
end
local macro_rules | `(tactic| walk_at "execs cons") => `(tactic| walk_at "zd2")
local macro_rules | `(tactic| walk_at "execs nil") => `(tactic| walk_at "zd3")
local macro_rules | `(tactic| walk_at "TkLe") => `(tactic| walk_at "zd4")
set_option hygiene false in
local macro_rules | `(tactic| walk_at "call ref") => `(tactic| (k_here; (with_reducible show wpAny _ _ (call (Value.ref 113) [Value.str _ _, Value.str _ _]) _ _ _); k_dflt (refine' con_concat ?B ?F ?X ?N ?T ?hk ?p0 ?p1 ?hd ?hu ?_); walk_at "zB"; (case p0 => omega); (case p1 => omega); intro t9z h9z tk9z F9z N9z l9z; (try dsimp only at l9z); walk_at "zT"))
set_option hygiene false in
local macro_rules | `(tactic| walk_at "call ref") => `(tactic| (k_here; (with_reducible show wpAny _ _ (call (Value.ref 141) [Value.str _ _, Value.str _ _, Value.int _ _]) _ _ _); k_dflt (refine' con_levE ?B ?F ?X ?N ?T ?hk ?p0 ?p1 ?p2 ?p3 ?hd ?hu ?_); walk_at "zB"; (case p0 => walk_at "zL"); (case p1 => walk_at "zL"); (case p2 => first | decide | omega); (case p3 => first | assumption | exact ⟨levOf_self _ _⟩); intro t9z h9z tk9z F9z N9z l9z; (try dsimp only at l9z); walk_at "zT"))
local macro_rules | `(tactic| walk_at "compareOp NotEq str str") => `(tactic| (k_here; (with_reducible show wpAny _ _ (compareOp CmpOp.NotEq (Value.str _ _) (Value.str _ _)) _ _ _); refine ne_strSelf ?_))
local macro_rules | `(tactic| walk_at "execs cons") => `(tactic| (k_here; (with_reducible show wpAny _ _ (execs (Stmt.Assign [Expr.Name (Str.ofString "first") _] _ _ :: _) _) _ _ _); refine stopHere ?_))
set_option maxHeartbeats 4000000
section
variable {w : World} {mean : ExcName → Option Value} {mg mb : Str → Option Value} {g : Heap} {L fa ca : Addr} {s : Shared} {Q : Flow → Shared → Prop} {E : Value → Shared → Prop}
theorem law_B {rw ln lt ld : Addr} {x y : Str} {tx ty : Tok} {nw : Nat} {u : Str → Option Value} {own : Led}
    (B' : Below callerA g [] g) (X' : (KF w.params).In g) (T' : Top viewQ LQ mean mg mb g) (hE : PassesOwn (model PySem.Challenge.rw_tl0038_01.row.prog w) (callerA.deeper (envOf lawD.name lawD.scope L fa (.ref ca))) (envOf lawD.name lawD.scope L fa (.ref ca)) E)
    (F : Fr g L s.heap (fun z => if z = S "words" then some (.ref rw) else if z = S "numbers" then some (.ref ln) else if z = S "told" then some (.ref lt) else if z = S "draws" then some (.ref ld) else u z)) (N : News g L s.heap ((rw, W.listOf #[.str x tx, .str y ty] nw) :: own))
    (zlx : x.length ≤ 16) (zly : y.length ≤ 16)
    (zt1 : levOf (tailOf x y ++ Str.ofString "xyaB") (Str.ofString "x" ++ tailOf x y ++ Str.ofString "zAb") 8 = 8)
    (zt2 : levOf (tailOf x y) (Txt.upper (tailOf x y)) 3 = 3)
    (hr : ∀ s' : Shared, (∃ m' h' tk tt, s' = { s with heap := h', toks := tk } ∧ s.toks ≤ tk ∧ Fr g L h' m' ∧ m' (S "text") = some (.str (x ++ y) tt) ∧ m' (S "words") = some (.ref rw) ∧ m' (S "numbers") = some (.ref ln) ∧ m' (S "told") = some (.ref lt) ∧ m' (S "draws") = some (.ref ld) ∧ News g L h' ((rw, W.listOf #[.str x tx, .str y ty] nw) :: own)) → wpAny (model PySem.Challenge.rw_tl0038_01.row.prog w) (callerA.deeper (envOf lawD.name lawD.scope L fa (.ref ca))) (execs ((fb 31).drop 8) (envOf lawD.name lawD.scope L fa (.ref ca))) Q E s') :
    wpAny (model PySem.Challenge.rw_tl0038_01.row.prog w) (callerA.deeper (envOf lawD.name lawD.scope L fa (.ref ca))) (execs ((fb 31).drop 4) (envOf lawD.name lawD.scope L fa (.ref ca))) Q E s := by
  have zm1 : MyEqI _ _ := ⟨zt1⟩
  have zm2 : MyEqI _ _ := ⟨zt2⟩
  clear zt1 zt2
  unfold tailOf at zm1 zm2
  have ztl : (Txt.slice (x ++ y) (some (-3)) none).length ≤ 32 := by
    have := Txt.slice_le (x ++ y) (some (-3)) none
    rw [length_app] at this
    omega
  have ztu : (Txt.upper (Txt.slice (x ++ y) (some (-3)) none)).length < 2 ^ 16 := by
    have := PyProof.Rows.len_upper (Txt.slice (x ++ y) (some (-3)) none)
    omega
  have zl1 : (Str.ofString "xyaB").length = 4 := by decide
  have zl2 : (Str.ofString "x").length = 1 := by decide
  have zl3 : (Str.ofString "zAb").length = 3 := by decide
  k_steps
  refine Stop.mk ?_
  rename Fr g _ _ _ => FE
  rename News g _ _ _ => NE
  exact hr _ ⟨_, _, _, _, rfl, (by (show (_ : Nat) ≤ _); (try dsimp only); omega), FE, rfl, rfl, rfl, rfl, rfl, fun p hp => NE p (.tail _ (.tail _ hp))⟩
end
end Mine
end
section
open PySem PySem.W PyProof.Rows
namespace Mine
section
variable {prog : Program} {w : World} {A : Around} {E : Value → Shared → Prop} {s : Shared}
theorem shaped2 {X Y : Str} (hX : PyData.strOk X = true) (hY : PyData.strOk Y = true) : SeqAt.shaped (.list [.str X, .str Y]) = true := by
  simp [SeqAt.shaped, PyData.canLay0, PyData.canLayAll0, PyData.depth, PyData.depthAll, hX, hY]
theorem eqv2 (X Y : Str) : PyData.eqv (.list [.str X, .str Y]) (.list [.str X, .str Y]) = true := by
  simp [PyData.eqv, PyData.eqvAll]
theorem ne_words {a b : Addr} {X Y : Str} {t1 t2 u1 u2 : Tok} {Q : Value → Shared → Prop} (hX : PyData.strOk X = true) (hY : PyData.strOk Y = true) {n1 n2 : Nat} (ha : s.heap.get? a = some (W.listOf #[.str X t1, .str Y t2] n1)) (hb : s.heap.get? b = some (W.listOf #[.str X u1, .str Y u2] n2)) (hu : A.units + 64 < cLine) (h : Q (.bool false) s) :
    wpAny (model prog w) A (compareOp .NotEq (.ref a) (.ref b)) Q E s := by
  have ca : ∀ v1 v2 : Tok, CarriedAll [.str X v1, .str Y v2] [.str X, .str Y] := fun v1 v2 => .cons (.str _ _) (.cons (.str _ _) .nil)
  have la : s.heap.IsList a (List.toArray [.str X t1, .str Y t2]) := ⟨_, ha, rfl, _, rfl⟩
  have lb : s.heap.IsList b (List.toArray [.str X u1, .str Y u2]) := ⟨_, hb, rfl, _, rfl⟩
  refine ne_dataH (reads_newData la (ca _ _)) (reads_newData lb (ca _ _)) (shaped2 hX hY) (shaped2 hX hY) hu ?_
  rw [eqv2]
  exact h
end
section
variable {g : Heap} {L : Addr}
theorem frB_norm {h : Heap} {rw ln lt ld : Addr} {m₁ : Str → Option Value} (F : Fr g L h m₁) (h0 : m₁ (S "words") = some (.ref rw)) (h1 : m₁ (S "numbers") = some (.ref ln)) (h2 : m₁ (S "told") = some (.ref lt)) (h3 : m₁ (S "draws") = some (.ref ld)) : Fr g L h (fun z => if z = S "words" then some (.ref rw) else if z = S "numbers" then some (.ref ln) else if z = S "told" then some (.ref lt) else if z = S "draws" then some (.ref ld) else m₁ z) := by
  have e : m₁ = (fun z => if z = S "words" then some (.ref rw) else if z = S "numbers" then some (.ref ln) else if z = S "told" then some (.ref lt) else if z = S "draws" then some (.ref ld) else m₁ z) := by
    funext z
    by_cases q0 : z = S "words"
    · subst q0; rw [if_pos rfl]; exact h0
    by_cases q1 : z = S "numbers"
    · subst q1; rw [if_neg q0, if_pos rfl]; exact h1
    by_cases q2 : z = S "told"
    · subst q2; rw [if_neg q0, if_neg q1, if_pos rfl]; exact h2
    by_cases q3 : z = S "draws"
    · subst q3; rw [if_neg q0, if_neg q1, if_neg q2, if_pos rfl]; exact h3
    rw [if_neg q0, if_neg q1, if_neg q2, if_neg q3]
  exact e ▸ F
theorem frC2_norm {h : Heap} {rw ln lt ld : Addr} {txt : Str} {tt : Tok} {m₁ : Str → Option Value} (F : Fr g L h m₁) (h0 : m₁ (S "text") = some (.str txt tt)) (h1 : m₁ (S "words") = some (.ref rw)) (h2 : m₁ (S "numbers") = some (.ref ln)) (h3 : m₁ (S "told") = some (.ref lt)) (h4 : m₁ (S "draws") = some (.ref ld)) : Fr g L h (fun z => if z = S "text" then some (.str txt tt) else if z = S "words" then some (.ref rw) else if z = S "numbers" then some (.ref ln) else if z = S "told" then some (.ref lt) else if z = S "draws" then some (.ref ld) else m₁ z) := by
  have e : m₁ = (fun z => if z = S "text" then some (.str txt tt) else if z = S "words" then some (.ref rw) else if z = S "numbers" then some (.ref ln) else if z = S "told" then some (.ref lt) else if z = S "draws" then some (.ref ld) else m₁ z) := by
    funext z
    by_cases q0 : z = S "text"
    · subst q0; rw [if_pos rfl]; exact h0
    by_cases q1 : z = S "words"
    · subst q1; rw [if_neg q0, if_pos rfl]; exact h1
    by_cases q2 : z = S "numbers"
    · subst q2; rw [if_neg q0, if_neg q1, if_pos rfl]; exact h2
    by_cases q3 : z = S "told"
    · subst q3; rw [if_neg q0, if_neg q1, if_neg q2, if_pos rfl]; exact h3
    by_cases q4 : z = S "draws"
    · subst q4; rw [if_neg q0, if_neg q1, if_neg q2, if_neg q3, if_pos rfl]; exact h4
    rw [if_neg q0, if_neg q1, if_neg q2, if_neg q3, if_neg q4]
  exact e ▸ F
theorem frD_norm {h : Heap} {lt ld : Addr} {txt : Str} {tt : Tok} {m₁ : Str → Option Value} (F : Fr g L h m₁) (h0 : m₁ (S "text") = some (.str txt tt)) (h1 : m₁ (S "told") = some (.ref lt)) (h2 : m₁ (S "draws") = some (.ref ld)) : Fr g L h (fun z => if z = S "text" then some (.str txt tt) else if z = S "told" then some (.ref lt) else if z = S "draws" then some (.ref ld) else m₁ z) := by
  have e : m₁ = (fun z => if z = S "text" then some (.str txt tt) else if z = S "told" then some (.ref lt) else if z = S "draws" then some (.ref ld) else m₁ z) := by
    funext z
    by_cases q0 : z = S "text"
    · subst q0; rw [if_pos rfl]; exact h0
    by_cases q1 : z = S "told"
    · subst q1; rw [if_neg q0, if_pos rfl]; exact h1
    by_cases q2 : z = S "draws"
    · subst q2; rw [if_neg q0, if_neg q1, if_pos rfl]; exact h2
    rw [if_neg q0, if_neg q1, if_neg q2]
  exact e ▸ F
end
section
variable {w : World} {mean : ExcName → Option Value} {mg mb : Str → Option Value} {g : Heap} {L fa ca : Addr} {s : Shared} {Q : Flow → Shared → Prop} {E : Value → Shared → Prop}
theorem law_rest {rw ln lt ld a0 a1 a2 a3 : Addr} {x y : Str} {n0 n1 n2 A0 A1 A2 A3 B0 B1 B2 B3 d0 d1 d2 d3 h4 p4 h3 p3 h2 p2 h1 p1 f00 f01 f02 f03 f10 f11 f12 f13 f20 f21 f22 f23 f30 f31 f32 f33 : Int} {tx ty tn0 tn1 tn2 w0 w1 w2 w3 v00 v01 v02 v03 v10 v11 v12 v13 v20 v21 v22 v23 v30 v31 v32 v33 : Tok} {nw nn nt na0 na1 na2 na3 nd : Nat} {m : Str → Option Value}
    (B' : Below callerA g [] g) (X' : (KF w.params).In g) (T' : Top viewQ LQ mean mg mb g) (hE : PassesOwn (model PySem.Challenge.rw_tl0038_01.row.prog w) (callerA.deeper (envOf lawD.name lawD.scope L fa (.ref ca))) (envOf lawD.name lawD.scope L fa (.ref ca)) E)
    (F : Fr g L s.heap m) (m1 : m (S "words") = some (.ref rw)) (m2 : m (S "numbers") = some (.ref ln)) (m3 : m (S "told") = some (.ref lt)) (m4 : m (S "draws") = some (.ref ld))
    (N : News g L s.heap [(rw, W.listOf #[.str x tx, .str y ty] nw), (ln, W.listOf #[.int n0 tn0, .int n1 tn1, .int n2 tn2] nn), (lt, W.listOf #[.ref a0, .ref a1, .ref a2, .ref a3] nt), (a3, W.listOf #[.int f30 v30, .int f31 v31, .int f32 v32, .int f33 v33] na3), (a2, W.listOf #[.int f20 v20, .int f21 v21, .int f22 v22, .int f23 v23] na2), (a1, W.listOf #[.int f10 v10, .int f11 v11, .int f12 v12, .int f13 v13] na1), (a0, W.listOf #[.int f00 v00, .int f01 v01, .int f02 v02, .int f03 v03] na0), (ld, W.listOf #[.int d0 w0, .int d1 w1, .int d2 w2, .int d3 w3] nd)]) (htk : 0 < s.toks)
    (zlx : x.length ≤ 16) (zly : y.length ≤ 16)
    (t1 : levOf (tailOf x y ++ Str.ofString "xyaB") (Str.ofString "x" ++ tailOf x y ++ Str.ofString "zAb") 8 = 8)
    (t2 : levOf (tailOf x y) (Txt.upper (tailOf x y)) 3 = 3)
    (zsa : sqOf x.cps.toList = (A0, A1, A2, A3)) (zsb : sqOf y.cps.toList = (B0, B1, B2, B3))
    (zba : A0.natAbs < 2 ^ 14 ∧ A1.natAbs < 2 ^ 14 ∧ A2.natAbs < 2 ^ 14 ∧ A3.natAbs < 2 ^ 14)
    (zbb : B0.natAbs < 2 ^ 14 ∧ B1.natAbs < 2 ^ 14 ∧ B2.natAbs < 2 ^ 14 ∧ B3.natAbs < 2 ^ 14)
    (zbc : (A0 * B0 + A1 * B2).natAbs < 2 ^ 30 ∧ (A0 * B1 + A1 * B3).natAbs < 2 ^ 30 ∧ (A2 * B0 + A3 * B2).natAbs < 2 ^ 30 ∧ (A2 * B1 + A3 * B3).natAbs < 2 ^ 30)
    (ea : [A0 + A3, A1 * A2 - A0 * A3] = [3 * n0, -1]) (eb : [B0 + B3, B1 * B2 - B0 * B3] = [3 * n1, -1])
    (ec : [A0 * B0 + A1 * B2 + (A2 * B1 + A3 * B3), (A0 * B1 + A1 * B3) * (A2 * B0 + A3 * B2) - (A0 * B0 + A1 * B2) * (A2 * B1 + A3 * B3)] = [3 * n2, -1])
    (c1 : cntOf (x ++ y).cps.toList (Str.ofString "h") = h4) (c2 : cntOf (x ++ y).cps.toList (Str.ofString "p") = p4)
    (k3 : TurnOk d3 h4 p4 f30 f31 f32 f33) (k2 : TurnOk d2 h3 p3 f20 f21 f22 f23) (k1 : TurnOk d1 h2 p2 f10 f11 f12 f13) (k0 : TurnOk d0 h1 p1 f00 f01 f02 f03)
    (s3 : lwStep d3 (h4, p4) = (h3, p3)) (s2 : lwStep d2 (h3, p3) = (h2, p2)) (s1 : lwStep d1 (h2, p2) = (h1, p1)) (s0 : lwStep d0 (h1, p1) = (1, 1))
    (hr : ∀ m' h' tk, Fr g L h' m' → Q (.ret (.bool true)) { s with heap := h', toks := tk }) :
    wpAny (model PySem.Challenge.rw_tl0038_01.row.prog w) (callerA.deeper (envOf lawD.name lawD.scope L fa (.ref ca))) (execs ((fb 31).drop 4) (envOf lawD.name lawD.scope L fa (.ref ca))) Q E s := by
  refine law_B B' X' T' hE (frB_norm F m1 m2 m3 m4) N zlx zly t1 t2 ?_
  rintro s' ⟨m', h', tk, tt, rfl, l1, F1, i1, i2, i3, i4, i5, N1⟩
  refine law_C B' X' T' hE (frC2_norm F1 i1 i2 i3 i4 i5) N1 (Nat.lt_of_lt_of_le htk l1) zlx zly zsa zsb zba zbb zbc ea eb ec ?_
  rintro s' ⟨m'', h'', tk', rfl, l2, F2, j1, j2, j3, N2⟩
  exact law_D B' X' T' hE (frD_norm F2 j1 j2 j3) N2 (Nat.lt_of_lt_of_le htk (Nat.le_trans l1 l2)) ⟨c1⟩ ⟨c2⟩ k3 k2 k1 k0 s3 s2 s1 s0 fun m' h' tk F' => hr m' h' tk F'
end
theorem News.pickA {r2 lp ln r rw lt a3 a2 a1 a0 ld : Addr × Obj} {g h : Heap} {L : Addr} (N : News g L h [r2, lp, ln, r, rw, lt, a3, a2, a1, a0, ld]) : News g L h [rw, ln, lt, a3, a2, a1, a0, ld] := fun p hp => N p (by
  simp only [List.mem_cons, List.not_mem_nil, or_false] at hp ⊢
  rcases hp with rfl | rfl | rfl | rfl | rfl | rfl | rfl | rfl <;> simp)
local macro_rules | `(tactic| walk_at "execs cons") => `(tactic| walk_at "zd2")
local macro_rules | `(tactic| walk_at "execs nil") => `(tactic| walk_at "zd3")
local macro_rules | `(tactic| walk_at "TkLe") => `(tactic| walk_at "zd4")
local macro_rules | `(tactic| walk_at "call ref") => `(tactic| (k_here; (with_reducible show wpAny _ _ (call (Value.ref 148) [Value.ref _]) _ _ _); refine stopHere ?_))
local macro_rules | `(tactic| walk_at "call ref") => `(tactic| (k_here; (with_reducible show wpAny _ _ (call (Value.ref 197) [Value.ref _]) _ _ _); refine stopHere ?_))
local macro_rules | `(tactic| walk_at "call ref") => `(tactic| (k_here; (with_reducible show wpAny _ _ (call (Value.ref 204) [Value.ref _]) _ _ _); refine stopHere ?_))
local macro_rules | `(tactic| walk_at "compareOp NotEq ref ref") => `(tactic| walk_at "zd10")
local macro_rules | `(tactic| walk_at "execs cons") => `(tactic| (k_here; (with_reducible show wpAny _ _ (execs (Stmt.Assign [Expr.Name (Str.ofString "text") _] _ _ :: _) _) _ _ _); refine stopHere ?_))
theorem namesQ : namesOk viewQ (looseW viewQ looseQ) (namesW viewQ looseQ) = true := by
  rw [PySem.W.Fast.te17448422675489707002, PySem.W.Fast.te821141287760084731]; kernel_rfl
theorem importsQ : importsNone viewQ = true := by
  rw [PySem.W.Fast.te2458874890965802552]; kernel_rfl
set_option maxHeartbeats 4000000
theorem tlaw (plain : ∀ d0 d1 d2 d3 : Int, (∀ d ∈ [d0, d1, d2, d3], 0 ≤ d ∧ d ≤ 66000000) → ∃ x1 y1 x2 y2 x3 y3 X Y n0 n1 n2 a0 a1 a2 a3 b0 b1 b2 b3 h4 p4 h3 p3 h2 p2 h1 p1, LawF d0 d1 d2 d3 x1 y1 x2 y2 x3 y3 X Y n0 n1 n2 a0 a1 a2 a3 b0 b1 b2 b3 h4 p4 h3 p3 h2 p2 h1 p1) :
    WalkO viewQ looseQ (XL viewQ []) (kHook KF KA KA_eq).says PySem.Challenge.rw_tl0038_01.row.toRowW lawD [] fun f vs => PySem.call f vs := by
  k_fill
  intro wz s0z s1z mgz mbz Gz Yz faz oz pmz cdz docz dVz kVz hoz hdz hcdz hDz hmgz hgz argsz valsz asz hprez hlayz hrdz hwlz hloz
  have KXz := kIn_of Yz
  have Xz := (Ground.X Gz).1
  have GLz := glob_more (Ground.glob Gz namesQ importsQ) (Ground.X Gz).2
  refine Ground.open Gz ?_
  intro Tz Bz Dz TEz TWz
  refine guard_noD Dz (by decide +kernel) ?_
  clear Dz
  obtain ⟨_, _, Mz⟩ := bmod_of_top Tz
  have TAz := at_of_top Tz
  obtain ⟨_, _, hez, B0z⟩ := based_of_top Tz rfl hmgz hoz hdz
  have he'z : cdz = _ := hez
  subst he'z
  clear hez hmgz
  wrow_args hprez hlayz hrdz hwlz hloz
  refine enter_call ?_
  w_top on
  refine codeAny_mono ?_ (fun _ _ g => GoodW.toG g)
  have K0z := below_caller (Top.heap Tz)
  w_call any hoz hdz hcdz hDz Tz F
  clear hdz TAz
  k_drop
  all_goals try k_fold
  k_steps
  refine Stop.mk ?_
  k_dflt (refine' con_draws ?B ?F ?X ?N ?T ?hk ?p0 ?p1 ?p2 ?hd ?hu ?_)
  (case B => k_asm)
  (case F => k_asm)
  (case X => k_asm)
  (case N => k_asm)
  (case T => k_asm)
  (case hk => first | exact rfl | assumption | (k_dflt (exact rfl)) | (with_unfolding_all exact rfl))
  (case p0 => is_list)
  (case p1 => assumption)
  (case p2 => omega)
  (case hd => first | exact rm9 hd (by decide) | ktr_room)
  (case hu => first | exact um9 hu (by decide) | ktr_units)
  intro r' d0 d1 d2 d3 v0 v1 v2 v3 nl h' tk' hb' F' N' ne' l'
  (clear ne')
  (try dsimp only at l')
  (try dsimp only)
  (try k_sweep)
  (try k_fold)
  k_steps
  refine Stop.mk ?_
  rename ∀ d ∈ [_, _, _, _], _ => hbd
  obtain ⟨x1, y1, x2, y2, x3, y3, X, Y, n0, n1, n2, a0, a1, a2, a3, b0, b1, b2, b3, h4, p4, h3, p3, h2, p2, h1, p1, lf⟩ := plain _ _ _ _ hbd
  refine' con_without0 (x1 := x1) (y1 := y1) (x2 := x2) (y2 := y2) (x3 := x3) (y3 := y3) (x4 := X) (y4 := Y) ?B ?F ?X ?N ?T ?hk ?p0 lf.w0 lf.w1 lf.w2 lf.w3 ?hd ?hu ?_
  case B => k_asm
  case F => k_asm
  case X => k_asm
  case N => k_asm
  case T => k_asm
  case hk => exact rfl
  case p0 => exact (News.get (by k_asm) (by k_mem))
  case hd => ktr_room
  case hu => ktr_units
  intro r rw lt aa0 aa1 aa2 aa3 nt t1 t2 vv0 vv1 vv2 vv3 h' tk' F' N' ne' l'
  clear ne'
  have zv3 := lf.v3
  have zv2 := lf.v2
  have zv1 := lf.v1
  have zv0 := lf.v0
  have zvs : MyEqW _ _ := ⟨lf.vs⟩
  have zoX := lf.oX
  have zoY := lf.oY
  k_steps
  refine Stop.mk ?_
  rename News _ _ _ _ => NQ
  refine' con_withinE ?B ?F ?X ?N ?T ?hk ?p0 zv3 zv2 zv1 zv0 zvs ?hd ?hu ?_
  case B => k_asm
  case F => k_asm
  case X => k_asm
  case N => exact NQ
  case T => k_asm
  case hk => exact rfl
  case p0 => exact (News.get NQ (by k_mem))
  case hd => ktr_room
  case hu => ktr_units
  intro r2 lp ln v0 v1 v2 v3 v4 h2 tk2 F2 N2 ne2 l2
  clear ne2 NQ
  (try dsimp only)
  (try k_fold)
  k_steps
  refine Stop.mk ?_
  rename News _ _ _ _ => NQ
  have q1 := (NQ _ (.tail _ (.head _))).1
  have q2 := (NQ _ (.tail _ (.tail _ (.tail _ (.tail _ (.head _)))))).1
  dsimp only at q1 q2
  refine ne_words zoX zoY q2 q1 (by ktr_units) ?_
  clear q1 q2
  k_steps
  refine Stop.mk ?_
  rename Fr _ _ _ _ => FE
  rename News _ _ _ _ => NE
  refine law_rest (by k_asm) (by k_asm) (by k_asm) (by passes_own) FE rfl rfl rfl rfl (News.pickA NE) (Nat.succ_pos _) lf.w3.l1 lf.w3.l2 lf.t1 lf.t2 lf.sa lf.sb lf.ba lf.bb lf.bc lf.ea lf.eb lf.ec lf.c1 lf.c2 lf.k3 lf.k2 lf.k1 lf.k0 lf.s3 lf.s2 lf.s1 lf.s0 ?_
  clear FE NE lf
  intro m' h' tk F'
  dsimp only
  k_steps
end Mine
end
section
open PySem PySem.W PyProof.Rows
namespace Mine
noncomputable def sL (l : List Nat) : Str := ⟨l.toArray⟩
theorem sL_cps (l : List Nat) : (sL l).cps.toList = l := by simp [sL]
theorem sL_of (x : Str) : sL x.cps.toList = x := by cases x; simp [sL]
theorem str_ext {x y : Str} (h : x.cps.toList = y.cps.toList) : x = y := by rw [← sL_of x, h, sL_of]
theorem app_cps (x y : Str) : (x ++ y).cps.toList = x.cps.toList ++ y.cps.toList := by
  show (x.cps ++ y.cps).toList = _
  simp
theorem sL_app (x y : List Nat) : sL x ++ sL y = sL (x ++ y) := str_ext (by rw [app_cps, sL_cps, sL_cps, sL_cps])
theorem glue_fold : ∀ (rest : List Str) (acc : Array Nat), (rest.foldl (fun acc p => acc ++ Str.empty.cps ++ p.cps) acc).toList = acc.toList ++ rest.flatMap fun x => x.cps.toList
  | [], acc => by simp
  | r :: rest, acc => by
    rw [List.foldl_cons, glue_fold rest, List.flatMap_cons]
    simp [Str.empty]
theorem join_cps (ws : List Str) : (Txt.join Str.empty ws).cps.toList = ws.flatMap fun x => x.cps.toList := by
  cases ws with
  | nil => rfl
  | cons w ws =>
    rw [List.flatMap_cons]
    exact glue_fold ws w.cps
noncomputable def GG (c : Nat) : List Nat := if inB1 c = true then [] else (mapB3 c).cps.toList
noncomputable def Good (c : Nat) : Prop := inB1 c = true ∨ mapB3 c ≠ Str.empty
theorem prep_flat (l : List Nat) (h : ∀ c ∈ l, Good c) : prepOf (sL l) = sL (l.flatMap GG) := by
  have e1 : KStt.codes (sL l) = l.map fun (c : Nat) => (c : Int) := by unfold KStt.codes; rw [sL_cps]
  have e2 : prepSigns (KStt.codes (sL l)) = (l.filter fun c => !inB1 c).map mapB3 := by
    rw [e1]
    unfold prepSigns
    rw [List.filter_map, List.map_map]
    rfl
  have e3 : (prepSigns (KStt.codes (sL l))).any (· == Str.empty) = false := by
    rw [e2, List.any_eq_false]
    intro x hx
    obtain ⟨c, hc, rfl⟩ := List.mem_map.mp hx
    obtain ⟨hc1, hc2⟩ := List.mem_filter.mp hc
    rcases h c hc1 with q | q
    · rw [q] at hc2; cases hc2
    · simpa using q
  unfold prepOf
  rw [if_neg (by rw [e3]; decide), e2]
  apply str_ext
  rw [join_cps, sL_cps]
  clear e1 e2 e3 h
  induction l with
  | nil => rfl
  | cons c l ih =>
    rw [List.flatMap_cons, ← ih, List.filter_cons]
    unfold GG
    cases q : inB1 c <;> simp
noncomputable def subL (ev : Bool) (l : List Nat) : List Nat := l.flatMap fun c => if ev then (if c = 104 then [104] else [104, 112]) else (if c = 112 then [112] else [112, 104])
noncomputable def isHP (l : List Nat) : Prop := ∀ c ∈ l, c = 104 ∨ c = 112
theorem form_GG : (List.range 12).all (fun k => [104, 112].all fun c => (form c k).cps.toList.flatMap GG == [c] && (form c k).cps.toList.all fun x => inB1 x || !(mapB3 x == Str.empty)) = true := by decide +kernel
theorem uns_GG : (List.range 27).all (fun k => (unseen k).cps.toList.all inB1) = true := by decide +kernel
theorem both_GG : (GG 13259 == [104, 112] && GG 13271 == [112, 104] && !(mapB3 13259 == Str.empty) && !(mapB3 13271 == Str.empty)) = true := by decide +kernel
theorem mark_GG : besideL.all (fun k => GG k.toNat == [k.toNat] && !(mapB3 k.toNat == Str.empty)) = true := by decide +kernel
theorem form_ok {k : Int} {c : Nat} (h0 : 0 ≤ k) (h1 : k < 12) (hc : c = 104 ∨ c = 112) : (form c k).cps.toList.flatMap GG = [c] ∧ ∀ x ∈ (form c k).cps.toList, Good x := by
  obtain ⟨n, rfl⟩ := Int.eq_ofNat_of_zero_le h0
  have := List.all_eq_true.mp form_GG n (List.mem_range.mpr (by omega))
  have := List.all_eq_true.mp this c (by rcases hc with rfl | rfl <;> simp)
  rw [Bool.and_eq_true] at this
  refine ⟨by simpa using this.1, fun x hx => ?_⟩
  have := List.all_eq_true.mp this.2 x hx
  unfold Good
  cases q : inB1 x
  · right
    rw [q, Bool.false_or] at this
    simpa using this
  · left; rfl
theorem good_in {c : Nat} (h : inB1 c = true) : Good c := .inl h
theorem both_ok {d : Int} {c : Nat} (hc : c = 104 ∨ c = 112) : (bothOf c d).cps.toList.flatMap GG = (if c = 104 then [104, 112] else [112, 104]) ∧ ∀ x ∈ (bothOf c d).cps.toList, Good x := by
  have hb := both_GG
  simp only [Bool.and_eq_true, beq_iff_eq, Bool.not_eq_true', beq_eq_false_iff_ne] at hb
  obtain ⟨⟨⟨b1, b2⟩, b3⟩, b4⟩ := hb
  have hu : ∀ k : Int, 0 ≤ k → k < 27 → ∀ x ∈ (unseen k).cps.toList, inB1 x = true := by
    intro k h0 h1 x hx
    obtain ⟨n, rfl⟩ := Int.eq_ofNat_of_zero_le h0
    exact List.all_eq_true.mp (List.all_eq_true.mp uns_GG n (List.mem_range.mpr (by omega))) x hx
  have hk : (d.fdiv 24).fmod 28 < 28 := Int.fmod_lt_of_pos _ (by decide)
  have htail : ∀ x ∈ (if (d.fdiv 24).fmod 28 > 0 then unseen ((d.fdiv 24).fmod 28 - 1) else Str.empty).cps.toList, inB1 x = true := by
    intro x hx
    split at hx
    · exact hu _ (by omega) (by omega) x hx
    · cases hx
  have hflat : ∀ l : List Nat, (∀ x ∈ l, inB1 x = true) → l.flatMap GG = [] := by
    intro l hl
    rw [List.flatMap_eq_nil_iff]
    intro x hx
    unfold GG
    rw [if_pos (hl x hx)]
  unfold bothOf
  rw [app_cps, List.flatMap_append, hflat _ htail, List.append_nil]
  rcases hc with rfl | rfl
  · refine ⟨?_, ?_⟩
    · rw [if_pos rfl, if_pos rfl]
      simpa using b1
    · intro x hx
      rcases List.mem_append.mp hx with q | q
      · rw [if_pos rfl] at q
        have : x = 13259 := by simpa using q
        rw [this]
        exact .inr b3
      · exact .inl (htail x q)
  · refine ⟨?_, ?_⟩
    · rw [if_neg (by decide), if_neg (by decide)]
      simpa using b2
    · intro x hx
      rcases List.mem_append.mp hx with q | q
      · rw [if_neg (by decide)] at q
        have : x = 13271 := by simpa using q
        rw [this]
        exact .inr b4
      · exact .inl (htail x q)
end Mine
end
section
open PySem PySem.W PyProof.Rows
namespace Mine
theorem item_sL {l : List Nat} {i : Nat} (h : i < l.length) : Txt.item (sL l) (i : Int) = ⟨#[l.getD i 0]⟩ := by
  rw [item_meets ⟨by omega, by show (i : Int) < ((l.toArray.size : Nat) : Int); simp; omega⟩]
  show (⟨#[l.toArray.getD ((i : Int).toNat) 0]⟩ : Str) = _
  simp
theorem sL_len (l : List Nat) : (sL l).length = l.length := by
  show l.toArray.size = l.length
  simp
theorem sign_ok {l : List Nat} {c : Nat} {d : Int} (hc : c = 104 ∨ c = 112) (hl : isHP l) {i : Nat} (h : i < l.length) :
    (signOf (sL l) c d (i : Int)).cps.toList.flatMap GG = (if c = 104 then (if l.getD i 0 = 104 then [104] else [104, 112]) else (if l.getD i 0 = 112 then [112] else [112, 104])) ∧ ∀ x ∈ (signOf (sL l) c d (i : Int)).cps.toList, Good x := by
  unfold signOf
  rw [item_sL h]
  have h0 := Int.fmod_nonneg_of_pos (d.fdiv 2 + i) (b := 12) (by decide)
  have h1 := Int.fmod_lt_of_pos (d.fdiv 2 + i) (b := 12) (by decide)
  by_cases q : l.getD i 0 = c
  · rw [q, if_pos (beq_self_eq_true _)]
    obtain ⟨f1, f2⟩ := form_ok h0 h1 hc
    refine ⟨?_, f2⟩
    rw [f1]
    rcases hc with rfl | rfl <;> simp
  · have e : ((⟨#[l.getD i 0]⟩ : Str) == ⟨#[c]⟩) = false := by
      rw [beq_eq_false_iff_ne]
      intro z
      apply q
      injection z with z
      simpa using z
    rw [e, if_neg (by decide)]
    obtain ⟨f1, f2⟩ := both_ok (d := d) hc
    refine ⟨?_, f2⟩
    rw [f1]
    rcases hc with rfl | rfl
    · rw [if_neg q, if_pos rfl, if_pos rfl]
    · rw [if_neg (by decide), if_neg (by decide), if_neg q]
theorem flat_range {α β : Type} (f : α → List β) (g : Nat → List β) (z : α) : ∀ (l : List α) (n : Nat), (∀ i, i < l.length → g (n + i) = f (l.getD i z)) → (List.range' n l.length).flatMap g = l.flatMap f
  | [], n, _ => rfl
  | a :: l, n, h => by
    rw [List.length_cons, List.range'_succ, List.flatMap_cons, List.flatMap_cons, flat_range f g z l (n + 1) fun i hi => ?_]
    · have := h 0 (by simp)
      rw [Nat.add_zero] at this
      rw [this]
      rfl
    · have := h (i + 1) (by simpa using hi)
      rw [Nat.add_assoc, Nat.add_comm 1 i, this]
      rfl
theorem typed_cps (l : List Nat) (c : Nat) (d : Int) : (typedOf (sL l) c d).cps.toList = (List.range' 0 l.length).flatMap fun (i : Nat) => (signOf (sL l) c d (i : Int)).cps.toList := by
  unfold typedOf
  rw [join_cps, sL_len, List.flatMap_map]
  unfold rangeKs
  rw [List.flatMap_map, List.range_eq_range']
  congr 1
  funext i
  rw [Int.zero_add]
theorem typed_ok {l : List Nat} {c : Nat} {d : Int} (hc : c = 104 ∨ c = 112) (hl : isHP l) : (typedOf (sL l) c d).cps.toList.flatMap GG = subL (c = 104) l ∧ ∀ x ∈ (typedOf (sL l) c d).cps.toList, Good x := by
  rw [typed_cps]
  constructor
  · rw [List.flatMap_assoc]
    unfold subL
    refine flat_range _ _ 0 l 0 fun i hi => ?_
    rw [Nat.zero_add, (sign_ok hc hl hi).1]
    by_cases q : c = 104 <;> simp [q]
  · intro x hx
    obtain ⟨i, hi, hx⟩ := List.mem_flatMap.mp hx
    have : i < l.length := by
      have := List.mem_range'_1.mp hi
      omega
    exact (sign_ok hc hl this).2 x hx
theorem tyLen (l : List Nat) (c : Nat) (d : Int) : (typedOf (sL l) c d).length ≤ 2 * l.length := by
  have e : (typedOf (sL l) c d).length = (typedOf (sL l) c d).cps.toList.length := by
    show (typedOf (sL l) c d).cps.size = _
    simp
  rw [e, typed_cps]
  have : ∀ (n k : Nat), ((List.range' k n).flatMap fun (i : Nat) => (signOf (sL l) c d (i : Int)).cps.toList).length ≤ 2 * n := by
    intro n
    induction n with
    | zero => intro k; simp
    | succ n ih =>
      intro k
      rw [List.range'_succ, List.flatMap_cons, List.length_append]
      have h1 := ih (k + 1)
      have h2 := signOf_len (sL l) c d (k : Int)
      have h3 : (signOf (sL l) c d (k : Int)).cps.toList.length = (signOf (sL l) c d (k : Int)).length := by
        show _ = (signOf (sL l) c d (k : Int)).cps.size
        simp
      omega
  exact this _ _
noncomputable def mkN (d : Int) : Nat := (besideL.getD ((d.fdiv 672).fmod 16).toNat 0).toNat
theorem mk_in (d : Int) : ∃ k ∈ besideL, k.toNat = mkN d := by
  have h0 := Int.fmod_nonneg_of_pos (d.fdiv 672) (b := 16) (by decide)
  have h1 := Int.fmod_lt_of_pos (d.fdiv 672) (b := 16) (by decide)
  unfold mkN
  have hl : besideL.length = 16 := by decide
  have hi : ((d.fdiv 672).fmod 16).toNat < besideL.length := by omega
  refine ⟨besideL[((d.fdiv 672).fmod 16).toNat], List.getElem_mem hi, ?_⟩
  simp [List.getD_eq_getElem?_getD, List.getElem?_eq_getElem hi]
theorem mk_ok (d : Int) : GG (mkN d) = [mkN d] ∧ Good (mkN d) := by
  obtain ⟨k, hk, e⟩ := mk_in d
  have := List.all_eq_true.mp mark_GG k hk
  rw [Bool.and_eq_true] at this
  rw [← e]
  refine ⟨by simpa using this.1, .inr ?_⟩
  simpa using this.2
noncomputable def evB (d : Int) : Bool := d.fmod 2 == 0
theorem fm2 (d : Int) : d.fmod 2 = 0 ∨ d.fmod 2 = 1 := by
  have h0 := Int.fmod_nonneg_of_pos d (b := 2) (by decide)
  have h1 := Int.fmod_lt_of_pos d (b := 2) (by decide)
  omega
theorem hpC_ev (d : Int) : hpC d = if evB d = true then 104 else 112 := by
  unfold hpC evB
  rcases fm2 d with h | h <;> rw [h] <;> decide
theorem hp_or (d : Int) : hpC d = 104 ∨ hpC d = 112 := by
  rw [hpC_ev]
  split
  · exact .inl rfl
  · exact .inr rfl
theorem ev_hp (d : Int) : decide (hpC d = 104) = evB d := by
  rw [hpC_ev]
  cases evB d <;> decide
noncomputable abbrev WW := List Nat × List Nat
noncomputable def wo (e : Bool) (w : WW) : WW := (subL e w.1, subL e w.2)
theorem wo_text (d : Int) (w : WW) (h1 : isHP w.1) (h2 : isHP w.2) : woText d (sL w.1) (sL w.2) = sL (subL (evB d) w.1 ++ [mkN d] ++ subL (evB d) w.2 ++ [mkN d]) := by
  have e0 : markOf d = sL [mkN d] := rfl
  have t1 := typed_ok (d := d) (hp_or d) h1
  have t2 := typed_ok (d := d) (hp_or d) h2
  rw [ev_hp] at t1 t2
  have e1 : typedOf (sL w.1) (hpC d) d = sL (typedOf (sL w.1) (hpC d) d).cps.toList := (sL_of _).symm
  have e2 : typedOf (sL w.2) (hpC d) d = sL (typedOf (sL w.2) (hpC d) d).cps.toList := (sL_of _).symm
  unfold woText
  rw [e0, e1, e2, sL_app, sL_app, sL_app, prep_flat, List.flatMap_append, List.flatMap_append, List.flatMap_append, t1.1, t2.1]
  · have e3 : [mkN d].flatMap GG = [mkN d] := by
      rw [List.flatMap_cons, (mk_ok d).1]
      rfl
    rw [e3]
  · intro c hc
    rcases List.mem_append.mp hc with hc | hc
    · rcases List.mem_append.mp hc with hc | hc
      · rcases List.mem_append.mp hc with hc | hc
        · exact t1.2 c hc
        · rw [List.mem_singleton.mp hc]; exact (mk_ok d).2
      · exact t2.2 c hc
    · rw [List.mem_singleton.mp hc]; exact (mk_ok d).2
noncomputable def hpB (l : List Nat) : Bool := l.all fun c => c == 104 || c == 112
theorem hpB_ok {l : List Nat} (h : hpB l = true) : isHP l := by
  intro c hc
  have := List.all_eq_true.mp h c hc
  simpa using this
noncomputable def txtB (a b : List Nat) (m : Nat) : Str := sL (a ++ [m] ++ b ++ [m])
noncomputable def partB (e : Bool) (w : WW) : Bool :=
  hpB w.1 && hpB w.2 && decide (w.1.length ≤ 16) && decide (w.2.length ≤ 16) && decide ((wo e w).1.length ≤ 16) && decide ((wo e w).2.length ≤ 16) &&
    besideL.all fun k => part1 (txtB (wo e w).1 (wo e w).2 k.toNat) (sL [k.toNat]) == sL (wo e w).1 && part2 (txtB (wo e w).1 (wo e w).2 k.toNat) (sL [k.toNat]) == sL (wo e w).2
theorem wo_ok {d : Int} {w : WW} (hd : 0 ≤ d ∧ d ≤ 66000000) (h : partB (evB d) w = true) : WoOk d (sL w.1) (sL w.2) (sL (wo (evB d) w).1) (sL (wo (evB d) w).2) := by
  unfold partB at h
  simp only [Bool.and_eq_true, decide_eq_true_eq] at h
  obtain ⟨⟨⟨⟨⟨⟨h1, h2⟩, l1⟩, l2⟩, l3⟩, l4⟩, ha⟩ := h
  have e := wo_text d w (hpB_ok h1) (hpB_ok h2)
  obtain ⟨k, hk, ek⟩ := mk_in d
  have := List.all_eq_true.mp ha k hk
  rw [ek] at this
  simp only [Bool.and_eq_true, beq_iff_eq] at this
  refine ⟨hd.1, hd.2, by rw [sL_len]; exact l1, by rw [sL_len]; exact l2, by rw [sL_len]; exact l3, by rw [sL_len]; exact l4, ?_, ?_, ?_, ?_, ?_⟩
  · have := tyLen w.1 (hpC d) d
    omega
  · have := tyLen w.2 (hpC d) d
    omega
  · rw [e, sL_len]
    unfold wo at l3 l4
    dsimp only at l3 l4
    simp only [List.length_append, List.length_cons, List.length_nil]
    omega
  · rw [e]; exact this.1
  · rw [e]; exact this.2
noncomputable def w00 : WW := ([104], [112])
theorem part_0 : ∀ e0 : Bool, partB e0 w00 = true := by decide +kernel
theorem part_1 : ∀ e0 e1 : Bool, partB e1 (wo e0 w00) = true := by decide +kernel
theorem part_2 : ∀ e0 e1 e2 : Bool, partB e2 (wo e1 (wo e0 w00)) = true := by decide +kernel
theorem part_3t : ∀ e1 e2 e3 : Bool, partB e3 (wo e2 (wo e1 (wo true w00))) = true := by decide +kernel
theorem part_3f : ∀ e1 e2 e3 : Bool, partB e3 (wo e2 (wo e1 (wo false w00))) = true := by decide +kernel
theorem part_3 (e0 e1 e2 e3 : Bool) : partB e3 (wo e2 (wo e1 (wo e0 w00))) = true := by
  cases e0
  · exact part_3f _ _ _
  · exact part_3t _ _ _
end Mine
end
section
open PySem PySem.W PyProof.Rows
namespace Mine
noncomputable def cN (w : WW) (c : Nat) : Int := ((w.1 ++ w.2).count c : Nat)
noncomputable def upL (l : List Nat) : List Nat := l.map fun c => c - 32
noncomputable def elN (w : WW) : List Nat := w.1 ++ w.2
noncomputable def cameB (e : Bool) (w : WW) : Int := if e = true then cN (wo e w) 112 else cN (wo e w) 104
noncomputable def dif (e : Bool) (w : WW) : Int := ((elN (wo e w)).length : Int) - (elN w).length
noncomputable def chkA (e : Bool) (w : WW) : Bool :=
  decide (e = true → cN (wo e w) 104 > cN (wo e w) 112) && decide (e = false → ¬ cN (wo e w) 104 > cN (wo e w) 112) &&
  [0, 1, 2].all (fun r : Int => levOf (sL (elN (wo e w))) (sL (elN w)) (2 * dif e w + r) == cameB e w + cameB e w) &&
  [0, 1, 2].all (fun r : Int => levOf (sL (upL (elN w))) (sL (elN (wo e w))) ((elN (wo e w)).length + dif e w + r) == cN (wo e w) 104 + cN (wo e w) 112 + cameB e w)
noncomputable def chkB (e : Bool) (w : WW) : Bool :=
  [-2, -1, 0, 1].all (fun b : Int => levOf (sL (elN w)) (sL (elN (wo e w))) b == if cameB e w = 1 then 2 else b + 1) &&
  levOf (sL (elN (wo e w))) (sL (elN w)) (2 * dif e w - 2) == (if cameB e w = 1 then 2 else 2 * cameB e w - 1) &&
  [-2, -1, 0, 1].all (fun b : Int => levOf (sL (wo e w).1) (sL (elN (wo e w))) b - 2 * ((wo e w).2.length : Int) == 0) &&
  decide ((if e = true then (cN (wo e w) 104 - cN (wo e w) 112, cN (wo e w) 112) else (cN (wo e w) 104, cN (wo e w) 112 - cN (wo e w) 104)) = (cN w 104, cN w 112))
noncomputable def chkU (w : WW) : Bool := Txt.upper (sL (elN w)) == sL (upL (elN w))
theorem ev_t {d : Int} (h : d.fmod 2 = 0) : evB d = true := by unfold evB; rw [h]; rfl
theorem ev_f {d : Int} (h : ¬ d.fmod 2 = 0) : evB d = false := by unfold evB; simpa using h
theorem came_ev (d : Int) (w : WW) : lwCame d (cN (wo (evB d) w) 104) (cN (wo (evB d) w) 112) = cameB (evB d) w := by
  unfold lwCame cameB
  by_cases h : d.fmod 2 = 0
  · rw [if_pos h, ev_t h, if_pos rfl]
  · rw [if_neg h, ev_f h, if_neg (by decide)]
theorem step_ev {d : Int} {w : WW} (h : chkB (evB d) w = true) : lwStep d (cN (wo (evB d) w) 104, cN (wo (evB d) w) 112) = (cN w 104, cN w 112) := by
  unfold chkB at h
  simp only [Bool.and_eq_true, decide_eq_true_eq] at h
  rw [← h.2]
  unfold lwStep
  by_cases q : d.fmod 2 = 0
  · rw [if_pos q, ev_t q, if_pos rfl]
  · rw [if_neg q, ev_f q, if_neg (by decide)]
theorem fmN (x : Int) (n : Nat) (hn : 0 < (n : Int)) : ∃ k < n, x.fmod n = (k : Int) :=
  ⟨(x.fmod n).toNat, (Int.toNat_lt (Int.fmod_nonneg_of_pos x hn)).mpr (Int.fmod_lt_of_pos x hn), (Int.toNat_of_nonneg (Int.fmod_nonneg_of_pos x hn)).symm⟩
theorem fm3 (x : Int) : x.fmod 3 ∈ ([0, 1, 2] : List Int) := by
  obtain ⟨k, hk, e⟩ := fmN x 3 (by decide)
  exact e ▸ (by decide : ∀ k : Nat, k < 3 → (k : Int) ∈ ([0, 1, 2] : List Int)) k hk
theorem fm4 (x : Int) : x.fmod 4 - 2 ∈ ([-2, -1, 0, 1] : List Int) := by
  obtain ⟨k, hk, e⟩ := fmN x 4 (by decide)
  exact e ▸ (by decide : ∀ k : Nat, k < 4 → (k : Int) - 2 ∈ ([-2, -1, 0, 1] : List Int)) k hk
theorem turn_ok {d : Int} {w w' : WW} (hw : wo (evB d) w = w') (hA : chkA (evB d) w = true) (hB : chkB (evB d) w = true) (hU : chkU w = true) :
    TurnOk d (cN w' 104) (cN w' 112) (woFar d (sL w.1 ++ sL w.2) (sL w'.1 ++ sL w'.2)) (levOf (sL w.1 ++ sL w.2) (sL w'.1 ++ sL w'.2) (woB d)) (levOf (sL w'.1 ++ sL w'.2) (sL w.1 ++ sL w.2) (2 * (((sL w'.1 ++ sL w'.2).length : Int) - (sL w.1 ++ sL w.2).length) - 2)) (levOf (sL w'.1) (sL w'.1 ++ sL w'.2) (woB d) - 2 * ((sL w'.2).length : Int)) := by
  subst hw
  have ec := came_ev d w
  have e1 : sL w.1 ++ sL w.2 = sL (elN w) := sL_app _ _
  have e2 : sL (wo (evB d) w).1 ++ sL (wo (evB d) w).2 = sL (elN (wo (evB d) w)) := sL_app _ _
  unfold chkA at hA
  unfold chkB at hB
  simp only [Bool.and_eq_true, decide_eq_true_eq] at hA hB
  obtain ⟨⟨⟨a1, a2⟩, a3⟩, a4⟩ := hA
  obtain ⟨⟨⟨b1, b2⟩, b3⟩, b4⟩ := hB
  have a3' := List.all_eq_true.mp a3 _ (fm3 (d.fdiv 21504))
  have a4' := List.all_eq_true.mp a4 _ (fm3 (d.fdiv 21504))
  have b1' := List.all_eq_true.mp b1 _ (fm4 (d.fdiv 64512))
  have b3' := List.all_eq_true.mp b3 _ (fm4 (d.fdiv 64512))
  simp only [beq_iff_eq] at a3' a4' b1' b3' b2
  unfold chkU at hU
  have hU' : Txt.upper (sL (elN w)) = sL (upL (elN w)) := by simpa using hU
  rw [e1, e2]
  have hd : (((sL (elN (wo (evB d) w))).length : Int) - (sL (elN w)).length) = dif (evB d) w := by
    unfold dif
    rw [sL_len, sL_len]
  refine ⟨fun q => a1 (ev_t q), fun q => a2 (ev_f q), ?_, ?_, ?_, ?_⟩
  · unfold woFar lwDue
    rw [ec, hd]
    rcases fm2 (d.fdiv 10752) with q | q
    · rw [if_pos q, if_neg (by rw [q]; decide)]
      exact a3'
    · rw [if_neg (by rw [q]; decide), if_pos q, hU', sL_len]
      exact a4'
  · rw [ec]
    exact b1'
  · rw [ec, hd]
    exact b2
  · rw [sL_len]
    exact b3'
theorem chkA_0 : ∀ e0 : Bool, chkA e0 w00 = true := by decide +kernel
theorem chkA_1 : ∀ e0 e1 : Bool, chkA e1 (wo e0 w00) = true := by decide +kernel
theorem chkA_2 : ∀ e0 e1 e2 : Bool, chkA e2 (wo e1 (wo e0 w00)) = true := by decide +kernel
theorem chkA_3t : ∀ e1 e2 e3 : Bool, chkA e3 (wo e2 (wo e1 (wo true w00))) = true := by decide +kernel
theorem chkA_3f : ∀ e1 e2 e3 : Bool, chkA e3 (wo e2 (wo e1 (wo false w00))) = true := by decide +kernel
theorem chkB_0 : ∀ e0 : Bool, chkB e0 w00 = true := by decide +kernel
theorem chkB_1 : ∀ e0 e1 : Bool, chkB e1 (wo e0 w00) = true := by decide +kernel
theorem chkB_2 : ∀ e0 e1 e2 : Bool, chkB e2 (wo e1 (wo e0 w00)) = true := by decide +kernel
theorem chkB_3t : ∀ e1 e2 e3 : Bool, chkB e3 (wo e2 (wo e1 (wo true w00))) = true := by decide +kernel
theorem chkB_3f : ∀ e1 e2 e3 : Bool, chkB e3 (wo e2 (wo e1 (wo false w00))) = true := by decide +kernel
theorem chkA_3 (e0 e1 e2 e3 : Bool) : chkA e3 (wo e2 (wo e1 (wo e0 w00))) = true := by
  cases e0
  · exact chkA_3f _ _ _
  · exact chkA_3t _ _ _
theorem chkB_3 (e0 e1 e2 e3 : Bool) : chkB e3 (wo e2 (wo e1 (wo e0 w00))) = true := by
  cases e0
  · exact chkB_3f _ _ _
  · exact chkB_3t _ _ _
theorem chkU_0 : chkU w00 = true := by decide +kernel
theorem chkU_1 : ∀ e0 : Bool, chkU (wo e0 w00) = true := by decide +kernel
theorem chkU_2 : ∀ e0 e1 : Bool, chkU (wo e1 (wo e0 w00)) = true := by decide +kernel
theorem chkU_3 : ∀ e0 e1 e2 : Bool, chkU (wo e2 (wo e1 (wo e0 w00))) = true := by decide +kernel
/-! the road from within -/
noncomputable def wiE (e : Bool) (st : WiSt) : WiSt := if e = true then (st.1, st.1 ++ st.2.1, st.2.2.1, st.2.2.2.2, 3 * st.2.2.1 * st.2.2.2.2 - st.2.2.2.1) else (st.2.1 ++ st.1, st.2.1, st.2.2.2.2, st.2.2.2.1, 3 * st.2.2.2.1 * st.2.2.2.2 - st.2.2.1)
theorem wi_ev (d : Int) (st : WiSt) : wiStep d st = wiE (evB d) st := by
  unfold wiStep wiE
  by_cases q : d.fmod 2 = 0
  · rw [if_pos q, ev_t q, if_pos rfl]
  · rw [if_neg q, ev_f q, if_neg (by decide)]
noncomputable def wiBd (st : WiSt) : Bool := decide (st.1.length ≤ 16) && decide (st.2.1.length ≤ 16) && decide (st.2.2.1.natAbs < 2 ^ 31) && decide (st.2.2.2.1.natAbs < 2 ^ 31) && decide (st.2.2.2.2.natAbs < 2 ^ 31) &&
  [-2, -1, 0, 1, 2, 3, 4, 5].all fun b : Int => levOf (st.1 ++ st.2.1) (st.2.1 ++ st.1) b == if 1 < b then 4 else b + 1
theorem fm8m (x : Int) : x.fmod 8 - 2 ∈ ([-2, -1, 0, 1, 2, 3, 4, 5] : List Int) := by
  obtain ⟨k, hk, e⟩ := fmN x 8 (by decide)
  exact e ▸ (by decide : ∀ k : Nat, k < 8 → (k : Int) - 2 ∈ ([-2, -1, 0, 1, 2, 3, 4, 5] : List Int)) k hk
theorem wi_ok {d : Int} {st : WiSt} (h : wiBd st = true) : WiOk d st := by
  unfold wiBd at h
  simp only [Bool.and_eq_true, decide_eq_true_eq] at h
  obtain ⟨⟨⟨⟨⟨h1, h2⟩, h3⟩, h4⟩, h5⟩, h6⟩ := h
  have := List.all_eq_true.mp h6 _ (fm8m (d.fdiv 258048))
  simp only [beq_iff_eq] at this
  refine ⟨h1, h2, h3, h4, h5, fun q => this.trans (if_pos q), fun q => this.trans (if_neg q)⟩
theorem wi_0 : wiBd wi0 = true := by decide +kernel
theorem wi_1 : ∀ e3 : Bool, wiBd (wiE e3 wi0) = true := by decide +kernel
theorem wi_2 : ∀ e3 e2 : Bool, wiBd (wiE e2 (wiE e3 wi0)) = true := by decide +kernel
theorem wi_3t : ∀ e2 e1 : Bool, wiBd (wiE e1 (wiE e2 (wiE true wi0))) = true := by decide +kernel
theorem wi_3f : ∀ e2 e1 : Bool, wiBd (wiE e1 (wiE e2 (wiE false wi0))) = true := by decide +kernel
theorem wi_3 (e3 e2 e1 : Bool) : wiBd (wiE e1 (wiE e2 (wiE e3 wi0))) = true := by
  cases e3
  · exact wi_3f _ _
  · exact wi_3t _ _
/-! the ends -/
noncomputable def wEnd (e0 e1 e2 e3 : Bool) : WW := wo e3 (wo e2 (wo e1 (wo e0 w00)))
noncomputable def nEnd (e0 e1 e2 e3 : Bool) : Int × Int × Int := (wiE e0 (wiE e1 (wiE e2 (wiE e3 wi0)))).2.2
noncomputable def matB (m : Mat) (k : Nat) : Bool := decide (m.1.natAbs < 2 ^ k ∧ m.2.1.natAbs < 2 ^ k ∧ m.2.2.1.natAbs < 2 ^ k ∧ m.2.2.2.natAbs < 2 ^ k)
noncomputable def markov (m : Mat) (n : Int) : Bool := decide (m.1 + m.2.2.2 = 3 * n ∧ m.2.1 * m.2.2.1 - m.1 * m.2.2.2 = -1)
theorem end_words : ∀ e0 e1 e2 e3 : Bool, ((wiE e0 (wiE e1 (wiE e2 (wiE e3 wi0)))).1 == sL (wEnd e0 e1 e2 e3).1 && (wiE e0 (wiE e1 (wiE e2 (wiE e3 wi0)))).2.1 == sL (wEnd e0 e1 e2 e3).2) = true := by decide +kernel
theorem end_mat : ∀ e0 e1 e2 e3 : Bool, (matB (sqOf (wEnd e0 e1 e2 e3).1) 14 && matB (sqOf (wEnd e0 e1 e2 e3).2) 14 && matB (mulM (sqOf (wEnd e0 e1 e2 e3).1) (sqOf (wEnd e0 e1 e2 e3).2)) 30 && markov (sqOf (wEnd e0 e1 e2 e3).1) (nEnd e0 e1 e2 e3).1 && markov (sqOf (wEnd e0 e1 e2 e3).2) (nEnd e0 e1 e2 e3).2.1 && markov (mulM (sqOf (wEnd e0 e1 e2 e3).1) (sqOf (wEnd e0 e1 e2 e3).2)) (nEnd e0 e1 e2 e3).2.2) = true := by decide +kernel
theorem end_cnt : ∀ e0 e1 e2 e3 : Bool, (cntOf (elN (wEnd e0 e1 e2 e3)) (Str.ofString "h") == cN (wEnd e0 e1 e2 e3) 104 && cntOf (elN (wEnd e0 e1 e2 e3)) (Str.ofString "p") == cN (wEnd e0 e1 e2 e3) 112) = true := by decide +kernel
theorem end_ok : ∀ e0 e1 e2 e3 : Bool, (PyData.strOk (sL (wEnd e0 e1 e2 e3).1) && PyData.strOk (sL (wEnd e0 e1 e2 e3).2)) = true := by decide +kernel
noncomputable def tailL (l : List Nat) : List Nat := l.drop (l.length - 3)
noncomputable def tails : List (List Nat) := [[104, 104, 104], [104, 104, 112], [104, 112, 104], [104, 112, 112], [112, 104, 104], [112, 104, 112], [112, 112, 104], [112, 112, 112]]
theorem tail_t : tails.all (fun l => levOf (sL l ++ Str.ofString "xyaB") (Str.ofString "x" ++ sL l ++ Str.ofString "zAb") 8 == 8) = true := by decide +kernel
theorem tail_u : tails.all (fun l => Txt.upper (sL l) == sL (upL l) && levOf (sL l) (sL (upL l)) 3 == 3) = true := by decide +kernel
theorem end_tail : ∀ e0 e1 e2 e3 : Bool, tails.any (fun l => Txt.slice (sL (elN (wEnd e0 e1 e2 e3))) (some (-3)) none == sL l) = true := by decide +kernel
theorem plain (d0 d1 d2 d3 : Int) (hb : ∀ d ∈ [d0, d1, d2, d3], 0 ≤ d ∧ d ≤ 66000000) : ∃ x1 y1 x2 y2 x3 y3 X Y n0 n1 n2 a0 a1 a2 a3 b0 b1 b2 b3 h4 p4 h3 p3 h2 p2 h1 p1, LawF d0 d1 d2 d3 x1 y1 x2 y2 x3 y3 X Y n0 n1 n2 a0 a1 a2 a3 b0 b1 b2 b3 h4 p4 h3 p3 h2 p2 h1 p1 := by
  have hh : Str.ofString "h" = sL w00.1 := by decide
  have hp : Str.ofString "p" = sL w00.2 := by decide
  have q0 := hb d0 (by simp)
  have q1 := hb d1 (by simp)
  have q2 := hb d2 (by simp)
  have q3 := hb d3 (by simp)
  have ew := end_words (evB d0) (evB d1) (evB d2) (evB d3)
  have em := end_mat (evB d0) (evB d1) (evB d2) (evB d3)
  have ek := end_cnt (evB d0) (evB d1) (evB d2) (evB d3)
  have eo := end_ok (evB d0) (evB d1) (evB d2) (evB d3)
  have et := end_tail (evB d0) (evB d1) (evB d2) (evB d3)
  simp only [Bool.and_eq_true, beq_iff_eq, matB, markov, decide_eq_true_eq] at ew em ek eo
  obtain ⟨⟨⟨⟨⟨m1, m2⟩, m3⟩, m4⟩, m5⟩, m6⟩ := em
  obtain ⟨tl, htl, et⟩ := List.any_eq_true.mp et
  have et : Txt.slice (sL (elN (wEnd (evB d0) (evB d1) (evB d2) (evB d3)))) (some (-3)) none = sL tl := by simpa using et
  have t1 := List.all_eq_true.mp tail_t tl htl
  have t2 := List.all_eq_true.mp tail_u tl htl
  simp only [Bool.and_eq_true, beq_iff_eq] at t1 t2
  have etl : tailOf (sL (wEnd (evB d0) (evB d1) (evB d2) (evB d3)).1) (sL (wEnd (evB d0) (evB d1) (evB d2) (evB d3)).2) = sL tl := by
    unfold tailOf
    rw [sL_app]
    exact et
  refine ⟨sL (wo (evB d0) w00).1, sL (wo (evB d0) w00).2, sL (wo (evB d1) (wo (evB d0) w00)).1, sL (wo (evB d1) (wo (evB d0) w00)).2, sL (wo (evB d2) (wo (evB d1) (wo (evB d0) w00))).1, sL (wo (evB d2) (wo (evB d1) (wo (evB d0) w00))).2, sL (wEnd (evB d0) (evB d1) (evB d2) (evB d3)).1, sL (wEnd (evB d0) (evB d1) (evB d2) (evB d3)).2, (nEnd (evB d0) (evB d1) (evB d2) (evB d3)).1, (nEnd (evB d0) (evB d1) (evB d2) (evB d3)).2.1, (nEnd (evB d0) (evB d1) (evB d2) (evB d3)).2.2, (sqOf (wEnd (evB d0) (evB d1) (evB d2) (evB d3)).1).1, (sqOf (wEnd (evB d0) (evB d1) (evB d2) (evB d3)).1).2.1, (sqOf (wEnd (evB d0) (evB d1) (evB d2) (evB d3)).1).2.2.1, (sqOf (wEnd (evB d0) (evB d1) (evB d2) (evB d3)).1).2.2.2, (sqOf (wEnd (evB d0) (evB d1) (evB d2) (evB d3)).2).1, (sqOf (wEnd (evB d0) (evB d1) (evB d2) (evB d3)).2).2.1, (sqOf (wEnd (evB d0) (evB d1) (evB d2) (evB d3)).2).2.2.1, (sqOf (wEnd (evB d0) (evB d1) (evB d2) (evB d3)).2).2.2.2, cN (wEnd (evB d0) (evB d1) (evB d2) (evB d3)) 104, cN (wEnd (evB d0) (evB d1) (evB d2) (evB d3)) 112, cN (wo (evB d2) (wo (evB d1) (wo (evB d0) w00))) 104, cN (wo (evB d2) (wo (evB d1) (wo (evB d0) w00))) 112, cN (wo (evB d1) (wo (evB d0) w00)) 104, cN (wo (evB d1) (wo (evB d0) w00)) 112, cN (wo (evB d0) w00) 104, cN (wo (evB d0) w00) 112, ?_⟩
  constructor
  case w0 => rw [hh, hp]; exact wo_ok q0 (part_0 _)
  case w1 => exact wo_ok q1 (part_1 _ _)
  case w2 => exact wo_ok q2 (part_2 _ _ _)
  case w3 => exact wo_ok q3 (part_3 _ _ _ _)
  case v3 => exact wi_ok wi_0
  case v2 => rw [wi_ev]; exact wi_ok (wi_1 _)
  case v1 => rw [wi_ev, wi_ev]; exact wi_ok (wi_2 _ _)
  case v0 => rw [wi_ev, wi_ev, wi_ev]; exact wi_ok (wi_3 _ _ _)
  case vs =>
    rw [wi_ev, wi_ev, wi_ev, wi_ev]
    refine Prod.ext ew.1 (Prod.ext ew.2 rfl)
  case t1 => rw [etl]; exact t1
  case t2 => rw [etl, t2.1]; exact t2.2
  case sa => rw [sL_cps]
  case sb => rw [sL_cps]
  case ba => exact m1
  case bb => exact m2
  case bc => exact m3
  case ea => rw [m4.1, m4.2]
  case eb => rw [m5.1, m5.2]
  case ec =>
    have z1 := m6.1
    have z2 := m6.2
    unfold mulM at z1 z2
    rw [z1, z2]
  case c1 => rw [sL_app, sL_cps]; exact ek.1
  case c2 => rw [sL_app, sL_cps]; exact ek.2
  case k3 => exact turn_ok rfl (chkA_3 _ _ _ _) (chkB_3 _ _ _ _) (chkU_3 _ _ _)
  case k2 => exact turn_ok rfl (chkA_2 _ _ _) (chkB_2 _ _ _) (chkU_2 _ _)
  case k1 => exact turn_ok rfl (chkA_1 _ _) (chkB_1 _ _) (chkU_1 _)
  case k0 => rw [hh, hp]; exact turn_ok rfl (chkA_0 _) (chkB_0 _) chkU_0
  case s3 => exact step_ev (chkB_3 _ _ _ _)
  case s2 => exact step_ev (chkB_2 _ _ _)
  case s1 => exact step_ev (chkB_1 _ _)
  case s0 => exact step_ev (chkB_0 _)
  case oX => exact eo.1
  case oY => exact eo.2
end Mine
end
section
open PySem PySem.W PyProof.Rows
namespace Mine
noncomputable section
set_option maxHeartbeats 4000000 in
theorem head (call : WalkO viewQ looseQ (XL viewQ []) hookK.says rowL.toRowW lawD [] fun f vs => PySem.call f vs) : PySem.Challenge.rw_tl0038_01.Holds := by
  w_on
  refine holds_law said fun _ => ?_
  refine PySem.W.holds_open (r := rowL) (q := viewQ) (loose := looseQ) (Xt := XtK) (XP := XL viewQ []) (Yf := hookK.obs) (Ya := hookK.val) (YP := hookK.says) (N := 16000) (d := lawD) (kwd := []) leftK hookK.of hookK.keeps (fun s e => xl_of s (Bool.and_eq_true_iff.mp e).1) XL.keeps (by rfl) (by rfl) (by rfl) (fun s e => recFacts_of (Bool.and_eq_true_iff.mp e).2) (by rfl) (by assumption) (by decide +kernel) ⟨rfl, rfl, rfl, rfl, rfl, by decide +kernel⟩ ?hw call
  case hw => exact ⟨[.list []], by decide +kernel, by decide +kernel⟩
end
end Mine
end
theorem PySem.Challenge.cw_tl0038_01_holds : PySem.Challenge.rw_tl0038_01.Holds :=
  Mine.head (Mine.tlaw Mine.plain)
